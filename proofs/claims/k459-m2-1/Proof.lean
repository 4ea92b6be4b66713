import JvmDerived
import JvmDerived.Pilot.@@N@@Statement
import JvmDerived.Pilot.@@N@@Code
set_option linter.unusedVariables false
set_option linter.unusedSimpArgs false
namespace Jvm.Pilot.@@N@@
open Jvm Jvm.ClassFile Sem Op Lib Jvm.Free Jvm.Stand Jvm.LawKit Jvm.RoadKit Bundle Jvm.Pilot.@@N@@.Jvm.D
/-- whatever is reached from v is reached from u -/
abbrev To (tb : Tables) (e : Env) (below : List Frame) (u v : State) : Prop := ∀ t, Steps tb e below v t → Steps tb e below u t
/-- a body's contract: called with as' over the heap h0 it returns, and Q holds of what it returns, of the heap and of the places written -/
abbrev Con (l : Launch) (Z : State) (y : MethodName) (bs : ByteArray) (ml : Nat) (rt : Option FieldType) (ws : List Jvm.Cond) (R : Room) (as' : Array Value) (h0 : Heap) (Q : Option Value → Heap → List Loc → Prop) : Prop :=
  MetFree l y (head1 (Jvm.Cond.code y bs ml rt :: ws) R) (fun a U => a = as' ∧ Z.Warmed39 U.vm ∧ U.heap = h0) (fun _ _ _ _ _ => True) (fun _ U o U' => ∃ v L, o = .returned v ∧ Q v U'.heap L ∧ FrameEnd U o U' L R.cells R.slots)
/-- the walk from S0 has ended well -/
def Fin (p : Program) (e : Env) (below : List Frame) (s : State) (R : Room) (S0 : State) (Q : Option Value → Heap → List Loc → Prop) : Prop :=
  ∃ s₂ o, Steps p.tables e below S0 s₂ ∧ s₂.status = .running ∧ Ended s₂ below o ∧ ∃ v L, o = .returned v ∧ Q v s₂.heap L ∧ FrameEnd s o s₂ L R.cells R.slots
def slotsOf : List Value → List Slot
  | [] => []
  | v :: r => if v.category = 2 then .val v :: .second :: slotsOf r else .val v :: slotsOf r
theorem foldl_slots (L : List Value) : ∀ acc : Array Slot, L.foldl (fun acc v => if v.category = 2 then (acc.push (Slot.val v)).push Slot.second else acc.push (Slot.val v)) acc = acc ++ (slotsOf L).toArray := by
  induction L with
  | nil => intro acc; simp [slotsOf]
  | cons v r ih =>
    intro acc
    rw [List.foldl_cons, ih]
    by_cases h : v.category = 2
    · simp [slotsOf, h]
    · simp [slotsOf, h]
theorem entry_eq {m : MethodId} {L : List Value} {ml : Nat} {Ls : List Slot} (h : slotsOf L ++ List.replicate (ml - (slotsOf L).length) Slot.unset = Ls) : entryFrame m L.toArray ml = mkF m 0 Ls.toArray [] := by
  subst h
  have e : argsToLocals L.toArray ml = (slotsOf L ++ List.replicate (ml - (slotsOf L).length) Slot.unset).toArray := by
    show (L.toArray.foldl (init := #[]) fun acc v => if v.category = 2 then (acc.push (Slot.val v)).push Slot.second else acc.push (Slot.val v)) ++ Array.replicate (ml - (L.toArray.foldl (init := #[]) fun acc v => if v.category = 2 then (acc.push (Slot.val v)).push Slot.second else acc.push (Slot.val v)).size) Slot.unset = _
    rw [List.foldl_toArray, foldl_slots]
    simp
  show ({ method := m, pc := 0, locals := argsToLocals L.toArray ml, stack := [], locked := none } : JFrame) = _
  rw [e]
section Own
variable {p : Program} {l : Launch} {e : Env} {R : Room} {s : State} {m : MethodId} {args : Array Value} {below : List Frame} {meth : Method} {c : Code} {T S0 : State} {locs : List Loc} {cells slots : Nat} {Z : State} {a0 : Array Value} {h : Heap} {Q : Option Value → Heap → List Loc → Prop}
theorem enter {y : MethodName} {bs : ByteArray} {ml : Nat} {rt : Option FieldType} {ws : List Jvm.Cond} {as' : Array Value} {h0 : Heap} {Ls : Array Slot} (hpl : plainFor y = true) (hef : ∀ m, entryFrame m as' ml = mkF m 0 Ls [])
    (body : ∀ (p : Program) (e : Env) (s : State) (m : MethodId) (below : List Frame) (meth : Method) (c : Code) (s₁ S0 : State), p.tables.exec = Jvm.exec → c.code = bs → c.maxLocals = ml → meth.sig.returnType = rt → meth.locks = false → meth.name = y.name →
      s.vm.findClass y.cls = some m.cls → Z.Warmed39 s.vm → Stand p l e R s m as' below meth c s₁ [] 0 0 → s₁.heap = h0 → To p.tables e below S0 (s₁.setTop (mkF m 0 Ls [])) → Fin p e below s R S0 Q) : Con l Z y bs ml rt ws R as' h0 Q := by
  refine MetFree.of_bodySF hpl hisR ?_
  intro p e s m args below meth c s₁ Bd hml0 hP hK
  obtain ⟨rfl, hZ, hh⟩ := hP
  exact body p e s m below meth c s₁ _ Bd.exec Bd.bytes hml0 Bd.returns Bd.notSynchronized (name_of_methodNamed Bd.named Bd.method).1 (findClass_of_methodNamed Bd.named) hZ (Stand.of_body Bd) (by rw [← hh, Bd.state]; rfl) (fun t k => castTop (hef m) k)
theorem retV (X : Stand p l e R s m args below meth c T locs cells slots) (hx : p.tables.exec = Jvm.exec) {pc : Nat} {Ls : Array Slot} {w : Value} {t : FieldType} {i : Instr} {rest : List Value} (hret : meth.sig.returnType = some t) (hlk : meth.locks = false) (hn : narrow t w = w)
    (hi : (i = .ireturn ∧ (t = .int ∨ t = .boolean ∨ t = .byte ∨ t = .char ∨ t = .short) ∧ ∃ z, w = .int z) ∨ (i = .lreturn ∧ t = .long ∧ ∃ z, w = .long z) ∨ (i = .dreturn ∧ t = .double ∧ ∃ z, w = .double z) ∨ (i = .freturn ∧ t = .float ∧ ∃ z, w = .float z) ∨ (i = .areturn ∧ t.isReference = true ∧ w.isRef = true))
    (hd : decode c.code pc = .ok (i, 1)) (k : To p.tables e below S0 (T.setTop (mkF m pc Ls (w :: rest)))) (hQ : Q (some w) T.heap locs) (hc : cells ≤ R.cells) (hs : slots ≤ R.slots) : Fin p e below s R S0 Q := by
  obtain ⟨fs, hr, hrun, hended, hW, hsame⟩ := X.leave (v := some w) (fun h => by rw [hret] at h; cases h) hlk
  exact ⟨_, _, k _ (retOut X hx hret hn hi hd hr), hrun, hended, _, _, rfl, hQ, ⟨_, rfl⟩, hW, hsame.mono hc hs⟩
theorem retInt (X : Stand p l e R s m args below meth c T locs cells slots) (hx : p.tables.exec = Jvm.exec) {pc : Nat} {Ls : Array Slot} {z : Int32} {t : FieldType} {rest : List Value} (hret : meth.sig.returnType = some t) (hlk : meth.locks = false) (ht : t = .int ∨ t = .boolean ∨ t = .byte ∨ t = .char ∨ t = .short) (hn : narrow t (.int z) = .int z)
    (hd : decode c.code pc = .ok (.ireturn, 1)) (k : To p.tables e below S0 (T.setTop (mkF m pc Ls (.int z :: rest)))) (hQ : Q (some (.int z)) T.heap locs) (hc : cells ≤ R.cells) (hs : slots ≤ R.slots) : Fin p e below s R S0 Q :=
  retV X hx hret hlk hn (Or.inl ⟨rfl, ht, z, rfl⟩) hd k hQ hc hs
theorem retRef (X : Stand p l e R s m args below meth c T locs cells slots) (hx : p.tables.exec = Jvm.exec) {pc : Nat} {Ls : Array Slot} {w : Value} {t : FieldType} {rest : List Value} (hret : meth.sig.returnType = some t) (hlk : meth.locks = false) (ht : t.isReference = true) (hw : w.isRef = true)
    (hd : decode c.code pc = .ok (.areturn, 1)) (k : To p.tables e below S0 (T.setTop (mkF m pc Ls (w :: rest)))) (hQ : Q (some w) T.heap locs) (hc : cells ≤ R.cells) (hs : slots ≤ R.slots) : Fin p e below s R S0 Q :=
  retV X hx hret hlk (by rcases ref_cases hw with rfl | ⟨z, rfl⟩ <;> cases t <;> first | rfl | (cases ht; done)) (Or.inr (Or.inr (Or.inr (Or.inr ⟨rfl, ht, hw⟩)))) hd k hQ hc hs
theorem retLong (X : Stand p l e R s m args below meth c T locs cells slots) (hx : p.tables.exec = Jvm.exec) {pc : Nat} {Ls : Array Slot} {z : Int64} {rest : List Value} (hret : meth.sig.returnType = some .long) (hlk : meth.locks = false)
    (hd : decode c.code pc = .ok (.lreturn, 1)) (k : To p.tables e below S0 (T.setTop (mkF m pc Ls (.long z :: rest)))) (hQ : Q (some (.long z)) T.heap locs) (hc : cells ≤ R.cells) (hs : slots ≤ R.slots) : Fin p e below s R S0 Q :=
  retV X hx hret hlk rfl (Or.inr (Or.inl ⟨rfl, rfl, z, rfl⟩)) hd k hQ hc hs
theorem retVoid (X : Stand p l e R s m args below meth c T locs cells slots) (hx : p.tables.exec = Jvm.exec) {pc : Nat} {Ls : Array Slot} (hret : meth.sig.returnType = none) (hlk : meth.locks = false)
    (hd : decode c.code pc = .ok (.return_, 1)) (k : To p.tables e below S0 (T.setTop (mkF m pc Ls []))) (hQ : Q none T.heap locs) (hc : cells ≤ R.cells) (hs : slots ≤ R.slots) : Fin p e below s R S0 Q := by
  obtain ⟨fs, hr, hrun, hended, hW, hsame⟩ := X.leave (v := none) (fun _ => rfl) hlk
  exact ⟨_, _, k _ (X.returnOut hx hret hd hr), hrun, hended, _, _, rfl, hQ, ⟨_, rfl⟩, hW, hsame.mono hc hs⟩
theorem backC {y : MethodName} {bs : ByteArray} {ml : Nat} {rt : Option FieldType} {rm : Room} {len W : Nat} {as' : Array Value} (hM : Con l Z y bs ml rt [] rm as' h Q) (hZ : Z.Warmed39 s.vm) (wc : (Cond.code y bs ml rt).before a0 Z = true) (wz : (Cond.initialized y.cls).before a0 Z = true) (hf : rm.frames + 1 ≤ R.frames) (hl : W + (ml + 11) + rm.locals ≤ R.locals) :
    Back l R p e below s args y len W (fun A a => a = as' ∧ A.U.heap = h ∧ A.cells + rm.cells ≤ R.cells ∧ A.slots + rm.slots ≤ R.slots) (fun A _ v B => ∃ L, Q v B.U.heap L ∧ B.locs = A.locs ++ L ∧ B.cells = A.cells + rm.cells ∧ B.slots = A.slots + rm.slots) :=
  backOf (Q := Q) hM hZ wc wz hf hl
/-! calls by a contract -/
theorem callS' (X : Stand p l e R s m args below meth c T locs cells slots) (hx : p.tables.exec = Jvm.exec) (hZ : Z.Warmed39 s.vm) {own : String} {index : Nat} {y : MethodName} {bs : ByteArray} {ml : Nat} {rt : Option FieldType} {cc ss W : Nat} {as' : Array Value} {Q : Option Value → Heap → List Loc → Prop}
    (hown : s.vm.findClass own = some m.cls) (w1 : (Cond.methodLink own index y).before a0 Z = true) (w2 : (Cond.static y).before a0 Z = true) (w3 : (Cond.initialized y.cls).before a0 Z = true) (w4 : (Cond.code y bs ml rt).before a0 Z = true) (hy : y.cls ≠ "java/lang/invoke/MethodHandle" ∧ y.cls ≠ "java/lang/invoke/VarHandle")
    (hK : Back l R p e below s args y 3 W (fun A a => a = as' ∧ A.U.heap = h ∧ A.cells + cc ≤ R.cells ∧ A.slots + ss ≤ R.slots) (fun A _ v B => ∃ L, Q v B.U.heap L ∧ B.locs = A.locs ++ L ∧ B.cells = A.cells + cc ∧ B.slots = A.slots + ss)) (eT : T.heap = h) {pc : Nat} {Ls : Array Slot} {st argsL rest : List Value} (hst : st = argsL.reverse ++ rest) (has : argsL.toArray = as') {ps : List FieldType} {r : Option FieldType} (hpd : parseMethodDescriptor y.desc = some ⟨ps, r⟩) (hlen : argsL.length = ps.length) (hsize : Ls.size = c.maxLocals)
    (hd : decode c.code pc = .ok (.invokestatic index, 3)) (hW : (rest.map fun v => v.category).sum ≤ W) (hc : cells + cc ≤ R.cells) (hs : slots + ss ≤ R.slots) (k : To p.tables e below S0 (T.setTop (mkF m pc Ls st))) :
    ∃ v T' L, Stand p l e R s m args below meth c T' (locs ++ L) (cells + cc) (slots + ss) ∧ Q v T'.heap L ∧ To p.tables e below S0 (T'.setTop (mkF m (pc + 3) Ls (v.toList ++ rest))) := by
  obtain ⟨v, vm₁, ⟨T', L', k', n'⟩, -, X', ⟨L, hQ, q1, q2, q3⟩, stp⟩ := Jvm.LawKit.callS X hx hown (mvT hZ w1) (mvT hZ w2) (mvT hZ w3) (mvT hZ w4) hy hK (g := mkF m pc Ls st) rfl hsize (argsL := argsL) (rest := rest) (lenOf hpd hlen) hst (by show 2 * 0 + _ ≤ _; omega) hd (fun _ _ => ⟨has, eT, hc, hs⟩)
  dsimp only [Pt.U, Pt.locs, Pt.cells, Pt.slots] at X' q1 q2 q3 stp hQ
  subst q1 q2 q3
  exact ⟨v, T', L, X', hQ, fun t q => k t (stp t q)⟩
theorem callC' (X : Stand p l e R s m args below meth c T locs cells slots) (hx : p.tables.exec = Jvm.exec) (hZ : Z.Warmed39 s.vm) {own : String} {index : Nat} {y : MethodName} {bs : ByteArray} {ml : Nat} {cc ss W : Nat} {as' : Array Value} {Q : Option Value → Heap → List Loc → Prop}
    (hy1 : y.name = "<init>") (hown : s.vm.findClass own = some m.cls) (w1 : (Cond.methodLink own index y).before a0 Z = true) (w2 : (Cond.instanceMethod y).before a0 Z = true) (w4 : (Cond.code y bs ml none).before a0 Z = true) (hy : y.cls ≠ "java/lang/invoke/MethodHandle" ∧ y.cls ≠ "java/lang/invoke/VarHandle")
    (hK : Back l R p e below s args y 3 W (fun A a => a = as' ∧ A.U.heap = h ∧ A.cells + cc ≤ R.cells ∧ A.slots + ss ≤ R.slots) (fun A _ v B => ∃ L, Q v B.U.heap L ∧ B.locs = A.locs ++ L ∧ B.cells = A.cells + cc ∧ B.slots = A.slots + ss)) (eT : T.heap = h) {pc : Nat} {Ls : Array Slot} {a : Addr} {st argsL rest : List Value} (hst : st = argsL.reverse ++ .ref a :: rest) (has : (.ref a :: argsL).toArray = as') {ps : List FieldType} {r : Option FieldType} (hpd : parseMethodDescriptor y.desc = some ⟨ps, r⟩) (hlen : argsL.length = ps.length) (hsize : Ls.size = c.maxLocals)
    (hd : decode c.code pc = .ok (.invokespecial index, 3)) (hW : (rest.map fun v => v.category).sum ≤ W) (hc : cells + cc ≤ R.cells) (hs : slots + ss ≤ R.slots) (k : To p.tables e below S0 (T.setTop (mkF m pc Ls st))) :
    ∃ v T' L, Stand p l e R s m args below meth c T' (locs ++ L) (cells + cc) (slots + ss) ∧ Q v T'.heap L ∧ To p.tables e below S0 (T'.setTop (mkF m (pc + 3) Ls (v.toList ++ rest))) := by
  obtain ⟨v, vm₁, ⟨T', L', k', n'⟩, -, X', ⟨L, hQ, q1, q2, q3⟩, stp⟩ := X.specialBack hx hy1 hown (mvT hZ w1) (mvT hZ w2) (mvT hZ w4) hy hK (g := mkF m pc Ls st) rfl hsize (Steps.refl _) (a := a) (argsL := argsL) (rest := rest) (lenOf hpd hlen) hst (by show 2 * 0 + _ ≤ _; omega) hd (fun _ _ => ⟨has, eT, hc, hs⟩)
  dsimp only [Pt.U, Pt.locs, Pt.cells, Pt.slots] at X' q1 q2 q3 stp hQ
  subst q1 q2 q3
  exact ⟨v, T', L, X', hQ, fun t q => k t (stp.trans q)⟩
theorem callV' (X : Stand p l e R s m args below meth c T locs cells slots) (hx : p.tables.exec = Jvm.exec) (hZ : Z.Warmed39 s.vm) {own C : String} {index : Nat} {y z : MethodName} {cc ss W : Nat} {as' : Array Value} {Q : Option Value → Heap → List Loc → Prop}
    (hown : s.vm.findClass own = some m.cls) (w1 : (Cond.methodLink own index y).before a0 Z = true) (w2 : (Cond.declares y).before a0 Z = true) (hnf : NotFace s y) (w5 : (Cond.selects C y z).before a0 Z = true) (w6 : (Cond.instanceMethod z).before a0 Z = true)
    (hy : y.cls ≠ "java/lang/invoke/MethodHandle" ∧ y.cls ≠ "java/lang/invoke/VarHandle") {b : Addr} (E : Exa Z h b C)
    (hK : Back l R p e below s args z 3 W (fun A a => a = as' ∧ A.U.heap = h ∧ A.cells + cc ≤ R.cells ∧ A.slots + ss ≤ R.slots) (fun A _ v B => ∃ L, Q v B.U.heap L ∧ B.locs = A.locs ++ L ∧ B.cells = A.cells + cc ∧ B.slots = A.slots + ss)) (eT : T.heap = h) {pc : Nat} {Ls : Array Slot} {st argsL rest : List Value} (hst : st = argsL.reverse ++ .ref b :: rest) (has : (.ref b :: argsL).toArray = as') {ps : List FieldType} {r : Option FieldType} (hpd : parseMethodDescriptor y.desc = some ⟨ps, r⟩) (hlen : argsL.length = ps.length) (hsize : Ls.size = c.maxLocals)
    (hd : decode c.code pc = .ok (.invokevirtual index, 3)) (hW : (rest.map fun v => v.category).sum ≤ W) (hc : cells + cc ≤ R.cells) (hs : slots + ss ≤ R.slots) (k : To p.tables e below S0 (T.setTop (mkF m pc Ls st))) :
    ∃ v T' L, Stand p l e R s m args below meth c T' (locs ++ L) (cells + cc) (slots + ss) ∧ Q v T'.heap L ∧ To p.tables e below S0 (T'.setTop (mkF m (pc + 3) Ls (v.toList ++ rest))) := by
  obtain ⟨cq, kq, qa, qb, qc⟩ := isOf hZ eT E
  obtain ⟨v, vm₁, ⟨T', L', k', n'⟩, -, X', ⟨L, hQ, q1, q2, q3⟩, stp⟩ := X.virtualBack hx hown (mvT hZ w1) (mvT hZ w2) hnf (mvT hZ w5) (mvT hZ w6) hy hK qa qc (g := mkF m pc Ls st) rfl hsize (Steps.refl _) (argsL := argsL) (rest := rest) (lenOf hpd hlen) hst (by show 2 * 0 + _ ≤ _; omega) hd (fun _ _ => ⟨has, eT, hc, hs⟩)
  dsimp only [Pt.U, Pt.locs, Pt.cells, Pt.slots] at X' q1 q2 q3 stp hQ
  subst q1 q2 q3
  exact ⟨v, T', L, X', hQ, fun t q => k t (stp.trans q)⟩
theorem callU' (X : Stand p l e R s m args below meth c T locs cells slots) (hx : p.tables.exec = Jvm.exec) (hZ : Z.Warmed39 s.vm) {own C owner : String} {index : Nat} {y z : MethodName} {cc ss W : Nat} {as' : Array Value} {Q : Option Value → Heap → List Loc → Prop}
    (hown : s.vm.findClass own = some m.cls) (w1 : (Cond.methodLink own index y).before a0 Z = true) (w7 : (Cond.sameMethod y.cls owner y.name y.desc).before a0 Z = true) (w2 : (Cond.declares ⟨owner, y.name, y.desc⟩).before a0 Z = true) (w5 : (Cond.selects C y z).before a0 Z = true) (w6 : (Cond.instanceMethod z).before a0 Z = true)
    (hy : owner ≠ "java/lang/invoke/MethodHandle" ∧ owner ≠ "java/lang/invoke/VarHandle") {b : Addr} (E : Exa Z h b C)
    (hK : Back l R p e below s args z 3 W (fun A a => a = as' ∧ A.U.heap = h ∧ A.cells + cc ≤ R.cells ∧ A.slots + ss ≤ R.slots) (fun A _ v B => ∃ L, Q v B.U.heap L ∧ B.locs = A.locs ++ L ∧ B.cells = A.cells + cc ∧ B.slots = A.slots + ss)) (eT : T.heap = h) {pc : Nat} {Ls : Array Slot} {st argsL rest : List Value} (hst : st = argsL.reverse ++ .ref b :: rest) (has : (.ref b :: argsL).toArray = as') {ps : List FieldType} {r : Option FieldType} (hpd : parseMethodDescriptor y.desc = some ⟨ps, r⟩) (hlen : argsL.length = ps.length) (hsize : Ls.size = c.maxLocals)
    (hd : decode c.code pc = .ok (.invokevirtual index, 3)) (hW : (rest.map fun v => v.category).sum ≤ W) (hc : cells + cc ≤ R.cells) (hs : slots + ss ≤ R.slots) (k : To p.tables e below S0 (T.setTop (mkF m pc Ls st))) :
    ∃ v T' L, Stand p l e R s m args below meth c T' (locs ++ L) (cells + cc) (slots + ss) ∧ Q v T'.heap L ∧ To p.tables e below S0 (T'.setTop (mkF m (pc + 3) Ls (v.toList ++ rest))) := by
  obtain ⟨cq, kq, qa, qb, qc⟩ := isOf hZ eT E
  obtain ⟨v, vm₁, ⟨T', L', k', n'⟩, -, X', ⟨L, hQ, q1, q2, q3⟩, stp⟩ := X.virtualBackUp hx hown (mvT hZ w1) (mvT hZ w7) (mvT hZ w2) hy (mvT hZ w5) (mvT hZ w6) hK qa qc (g := mkF m pc Ls st) rfl hsize (Steps.refl _) (argsL := argsL) (rest := rest) (lenOf hpd hlen) hst (by show 2 * 0 + _ ≤ _; omega) hd (fun _ _ => ⟨has, eT, hc, hs⟩)
  dsimp only [Pt.U, Pt.locs, Pt.cells, Pt.slots] at X' q1 q2 q3 stp hQ
  subst q1 q2 q3
  exact ⟨v, T', L, X', hQ, fun t q => k t (stp.trans q)⟩
theorem callI' (X : Stand p l e R s m args below meth c T locs cells slots) (hx : p.tables.exec = Jvm.exec) (hZ : Z.Warmed39 s.vm) {own C : String} {index count : Nat} {y z : MethodName} {cc ss W : Nat} {as' : Array Value} {Q : Option Value → Heap → List Loc → Prop}
    (hown : s.vm.findClass own = some m.cls) (w1 : (Cond.methodLink own index y).before a0 Z = true) (w2 : (Cond.declares y).before a0 Z = true) (w7 : (Cond.interfaceMethod y.cls y.cls y.name y.desc).before a0 Z = true) (hd7 : ((Cond.interfaceMethod y.cls y.cls y.name y.desc).onTables && (Cond.interfaceMethod y.cls y.cls y.name y.desc).keepsFace) = true) (w5 : (Cond.selects C y z).before a0 Z = true) (w6 : (Cond.instanceMethod z).before a0 Z = true) (w8 : (Cond.publicMethod z).before a0 Z = true) (w9 : (Cond.unhidden C y.name y.desc).before a0 Z = true) (w10 : (Cond.castable C y.cls).before a0 Z = true)
    (hy : y.cls ≠ "java/lang/invoke/MethodHandle" ∧ y.cls ≠ "java/lang/invoke/VarHandle") {b : Addr} (E : Exa Z h b C)
    (hK : Back l R p e below s args z 5 W (fun A a => a = as' ∧ A.U.heap = h ∧ A.cells + cc ≤ R.cells ∧ A.slots + ss ≤ R.slots) (fun A _ v B => ∃ L, Q v B.U.heap L ∧ B.locs = A.locs ++ L ∧ B.cells = A.cells + cc ∧ B.slots = A.slots + ss)) (eT : T.heap = h) {pc : Nat} {Ls : Array Slot} {st argsL rest : List Value} (hst : st = argsL.reverse ++ .ref b :: rest) (has : (.ref b :: argsL).toArray = as') {ps : List FieldType} {r : Option FieldType} (hpd : parseMethodDescriptor y.desc = some ⟨ps, r⟩) (hlen : argsL.length = ps.length) (hsize : Ls.size = c.maxLocals)
    (hd : decode c.code pc = .ok (.invokeinterface index count, 5)) (hW : (rest.map fun v => v.category).sum ≤ W) (hc : cells + cc ≤ R.cells) (hs : slots + ss ≤ R.slots) (k : To p.tables e below S0 (T.setTop (mkF m pc Ls st))) :
    ∃ v T' L, Stand p l e R s m args below meth c T' (locs ++ L) (cells + cc) (slots + ss) ∧ Q v T'.heap L ∧ To p.tables e below S0 (T'.setTop (mkF m (pc + 5) Ls (v.toList ++ rest))) := by
  obtain ⟨cq, kq, qa, qb, qc⟩ := isOf hZ eT E
  obtain ⟨v, vm₁, ⟨T', L', k', n'⟩, -, X', ⟨L, hQ, q1, q2, q3⟩, stp⟩ := X.interfaceBack hx hown (mvT hZ w1) (mvT hZ w2) (mvT hZ w7 hd7) (mvT hZ w5) (mvT hZ w6) (mvT hZ w8) (mvT hZ w9) (mvT hZ w10) hy hK qa qb qc (g := mkF m pc Ls st) rfl hsize (Steps.refl _) (argsL := argsL) (rest := rest) (lenOf hpd hlen) hst (by show 2 * 0 + _ ≤ _; omega) hd (fun _ _ => ⟨has, eT, hc, hs⟩)
  dsimp only [Pt.U, Pt.locs, Pt.cells, Pt.slots] at X' q1 q2 q3 stp hQ
  subst q1 q2 q3
  exact ⟨v, T', L, X', hQ, fun t q => k t (stp.trans q)⟩
theorem staOld {n0 : Nat} {C n d : String} {v : Value} (F : Sta Z Z.heap C n d v) (O : Old Z n0 h) : Sta Z h C n d v := F.ext O.2
theorem exaOld {n0 : Nat} {C : String} {a : Addr} (F : Exa Z Z.heap a C) (O : Old Z n0 h) : Exa Z h a C := F.ext O.2
theorem fldOld {n0 : Nat} {C n d : String} {a : Addr} {v : Value} (F : Fld Z Z.heap a C n d v) (O : Old Z n0 h) : Fld Z h a C n d v := F.ext O.2
theorem joinT (X : Stand p l e R s m args below meth c T locs cells slots) (eT : T.heap = h) (F : JFrame) {G : Prop} (br : (∀ T', Stand p l e R s m args below meth c T' locs cells slots → T'.heap = h → To p.tables e below S0 (T'.setTop F) → G) → G)
    (rest : ∀ T', Stand p l e R s m args below meth c T' locs cells slots → T'.heap = h → To p.tables e below S0 (T'.setTop F) → G) : G := br rest
theorem own_m255 (c : Int32) : ¬ (c &&& 255) < (0 : Int32) ∧ ¬ (255 : Int32) < (c &&& 255) := by
  have h : (c &&& 255).toBitVec.toNat ≤ 255 := by
    rw [Int32.toBitVec_and, BitVec.toNat_and]; exact Nat.and_le_right
  have h2 : (c &&& 255).toInt = ((c &&& 255).toBitVec.toNat : Int) := by
    show (c &&& 255).toBitVec.toInt = _
    rw [BitVec.toInt_eq_toNat_of_lt (by omega)]
  rw [Int32.lt_iff_toInt_lt, Int32.lt_iff_toInt_lt, h2, show (0 : Int32).toInt = 0 from rfl, show (255 : Int32).toInt = 255 by decide]
  omega
theorem own_and255_of {v : Int32} (h : ¬ v < (0 : Int32) ∧ ¬ (255 : Int32) < v) : v &&& 255 = v := by
  rw [Int32.lt_iff_toInt_lt, Int32.lt_iff_toInt_lt, show (0 : Int32).toInt = 0 from rfl, show (255 : Int32).toInt = 255 by decide] at h
  have e : v.toInt = (v.toBitVec.toNat : Int) := by
    show v.toBitVec.toInt = _
    have h1 : ¬ v.toBitVec.toInt < 0 := h.1
    rw [BitVec.toInt_eq_toNat_cond] at h1 ⊢
    split <;> rename_i q
    · rfl
    · rw [if_neg q] at h1; have := v.toBitVec.isLt; omega
  apply Int32.toBitVec_inj.mp
  apply BitVec.eq_of_toNat_eq
  rw [Int32.toBitVec_and, BitVec.toNat_and, show (255 : Int32).toBitVec.toNat = 2 ^ 8 - 1 from rfl, Nat.and_two_pow_sub_one_eq_mod]
  omega
theorem own_narc {v : Int32} (h : ¬ v < (0 : Int32) ∧ ¬ (255 : Int32) < v) : nar .char v = v := by
  have e := own_and255_of h
  rw [← e]; exact i2c_mask v
theorem own_fitc {v : Int32} (h : ¬ v < (0 : Int32) ∧ ¬ (255 : Int32) < v) : fits .char (.int v) = true := by
  have q := fits_nar_char v; rw [own_narc h] at q; exact q
theorem own_b255 {v : Int32} (h : ¬ v < (0 : Int32) ∧ ¬ (255 : Int32) < v) : (nar .byte (v.toInt8.toInt32)) &&& (255 : Int32) = v := by
  refine Eq.trans ?_ (own_and255_of h)
  have e : (v.toInt8.toInt32).toInt8 = v.toInt8 := by
    apply Int8.toBitVec_inj.mp; rw [Int32.toBitVec_toInt8, Int8.toBitVec_toInt32, BitVec.signExtend_eq_setWidth_of_le _ (by omega)]
    apply BitVec.eq_of_toNat_eq
    rw [BitVec.toNat_setWidth, BitVec.toNat_signExtend]
    have := v.toInt8.toBitVec.isLt
    simp only [BitVec.toNat_setWidth]
    split <;> omega
  show (v.toInt8.toInt32).toInt8.toInt32 &&& 255 = v &&& 255
  rw [e]
  apply Int32.toBitVec_inj.mp
  apply BitVec.eq_of_toNat_eq
  rw [Int32.toBitVec_and, Int32.toBitVec_and, BitVec.toNat_and, BitVec.toNat_and, show (255 : Int32).toBitVec.toNat = 2 ^ 8 - 1 from rfl, Nat.and_two_pow_sub_one_eq_mod, Nat.and_two_pow_sub_one_eq_mod, Int8.toBitVec_toInt32, Int32.toBitVec_toInt8, BitVec.toNat_signExtend]
  have h1 := v.toBitVec.isLt
  simp only [BitVec.toNat_setWidth, BitVec.toNat_signExtend]
  split <;> split <;> omega
theorem own_narrowc (x : Int32) : narrow .char (.int (x &&& 255)) = .int (x &&& 255) := congrArg Value.int (own_narc (own_m255 x))
theorem nin1 {x y : Addr} (h : ¬ (@Eq Nat x y)) : x ∉ [y] := ninS h nin0
theorem wq {Z : State} {a0 : Array Value} {ts : List Jvm.Cond} (hw : ∀ d ∈ ts, d.before a0 Z = true) (i : Nat) {d : Jvm.Cond} (q : ts[i]? = some d) : d.before a0 Z = true := hw _ (List.mem_of_getElem? q)
theorem adr_lt {a b : Nat} (h : @LT.lt Nat instLTNat a b) : a < b := h
theorem adr_ne {a b : Nat} (h : ¬ a = b) : a ≠ b := h
theorem own_nz {s : State} {args : Array Value} {t : Term} {z : Int32} (e : t.eval args s none [] s = some (.int z)) (h : (Jvm.Cond.not (.eq t (.int 0))).value args s none s [] = some true) : ¬ z = (0 : Int32) := fun q => by
  subst q; have h2 := not_v h; simp [Cond.value, e, Term.eval] at h2
theorem fits_isref {C : String} {w : Value} (h : w.isRef = true) : fits (.object C) w = true := by rcases ref_cases h with rfl | ⟨z, rfl⟩ <;> rfl
theorem narrow_ref {t : FieldType} {w : Value} (h : w.isRef = true) : narrow t w = w := by rcases ref_cases h with rfl | ⟨z, rfl⟩ <;> cases t <;> rfl
end Own
open Jvm.FP Jvm.FP.Core in
theorem own_rr {s : Bool} {A B : Nat} {e : Int} (hA : 0 < A) (hB : 0 < B) (lo : unitsDen B e b64.qmin ≤ unitsNum A e b64.qmin) : (∃ c q, roundRatio b64 s A B e = .fin s c q ∧ c ≠ 0 ∧ (quantum b64 A B e = b64.qmin ∨ b64.tails ≤ c) ∧ quantum b64 A B e ≤ q) ∨ roundRatio b64 s A B e = .inf s := by
  have h0 := two_tails good_b64
  have ht : 0 < b64.tails := by decide +kernel
  have hm : nearest (unitsNum A e (quantum b64 A B e)) (unitsDen B e (quantum b64 A B e)) ≠ 0 ∧ (quantum b64 A B e = b64.qmin ∨ b64.tails ≤ nearest (unitsNum A e (quantum b64 A B e)) (unitsDen B e (quantum b64 A B e))) := by
    rcases quantum_not_below (f := b64) hA hB e with h2 | h2
    · refine ⟨?_, .inl h2⟩
      rw [h2]; have := nearest_ge (A := unitsNum A e b64.qmin) (B := unitsDen B e b64.qmin) (M := 1) (unitsDen_pos hB e b64.qmin) (by omega); omega
    · have h3 : b64.tails ≤ nearest (unitsNum A e (quantum b64 A B e)) (unitsDen B e (quantum b64 A B e)) := by
        refine nearest_ge (unitsDen_pos hB ..) ?_
        rw [show (b64.p : Int) - 1 = ((b64.p - 1 : Nat) : Int) by decide, ← units_below] at h2
        exact Nat.le_of_not_lt h2
      exact ⟨by omega, .inr h3⟩
  unfold roundRatio
  rw [if_neg (by omega)]
  unfold roundAt settle bound
  split
  · split
    · exact Or.inl ⟨_, _, rfl, hm.1, hm.2, Int.le_refl _⟩
    · exact Or.inr rfl
  · split
    · exact Or.inl ⟨_, _, rfl, by omega, Or.inr (Nat.le_refl _), by omega⟩
    · exact Or.inr rfl
/-- what Method.allows says of v -/
def own_al (v : UInt64) : Int32 := if cmpValue (FP.dcmp v 0) .l < (0 : Int32) then 0 else if cmpValue (FP.dcmp v 9218868437227405312) .g < (0 : Int32) then 1 else 0
open Jvm.FP Jvm.FP.Core in
theorem own_ord (v w : UInt64) : FP.dcmp v w = order (val64 v) (val64 w) := rfl
theorem own_gt {n : Nat} (h : 0 < n) : compare (n : Int) ((0 : Nat) : Int) = .gt := by
  show compareOfLessAndEq (n : Int) ((0 : Nat) : Int) = .gt
  unfold compareOfLessAndEq; rw [if_neg (by omega), if_neg (by omega)]
theorem own_lt {n : Nat} (h : 0 < n) : compare (-(n : Int)) ((0 : Nat) : Int) = .lt := by
  show compareOfLessAndEq (-(n : Int)) ((0 : Nat) : Int) = .lt
  unfold compareOfLessAndEq; rw [if_pos (by omega)]
open Jvm.FP Jvm.FP.Core in
theorem own_fin {v : UInt64} {s : Bool} {c : Nat} {q : Int} (h : val64 v = .fin s c q) : own_al v = if s = true ∧ c ≠ 0 then 0 else 1 := by
  have z : val64 0 = .fin false 0 (-1074) := by decide +kernel
  have i : val64 9218868437227405312 = .inf false := by decide +kernel
  have e2 : FP.dcmp v 9218868437227405312 = some .lt := by rw [own_ord, h, i]; rfl
  unfold own_al
  rw [e2, own_ord, h, z]
  simp only [order, signed, inUnits, Nat.zero_mul]
  have hp := Nat.two_pow_pos (q - min q (-1074)).toNat
  have hz : c * 2 ^ (q - min q (-1074)).toNat = 0 ↔ c = 0 := by rw [Nat.mul_eq_zero]; omega
  generalize c * 2 ^ (q - min q (-1074)).toNat = n at hz
  cases s
  · simp only [Bool.false_eq_true, if_false, false_and]
    rcases Nat.eq_zero_or_pos n with hc | hc
    · subst hc; decide
    · rw [own_gt hc]; decide
  · simp only [if_true, true_and, Bool.false_eq_true, if_false]
    rcases Nat.eq_zero_or_pos n with hc | hc
    · subst hc; obtain rfl := hz.mp rfl; decide
    · rw [own_lt hc, if_pos (fun q => by omega)]; decide
open Jvm.FP Jvm.FP.Core in
theorem own_inf {v : UInt64} {s : Bool} (h : val64 v = .inf s) : own_al v = 0 := by
  have z : val64 0 = .fin false 0 (-1074) := by decide +kernel
  have i : val64 9218868437227405312 = .inf false := by decide +kernel
  unfold own_al
  rw [own_ord, own_ord, h, z, i]
  cases s <;> decide
open Jvm.FP Jvm.FP.Core in
theorem own_nn {v : UInt64} (h : val64 v ≠ .nan) : Jvm.Free.Fl.NoNaN64 v := by
  rw [Jvm.Free.Fl.noNaN64_no]
  unfold Core.dIsNaN isNaN
  exact decide_eq_false h
/-- i2d of an int other than 0 -/
theorem own_i2d (a : Int32) (h : a ≠ 0) : ∃ (c : Nat) (q : Int), FP.Core.val64 (FP.i2d a) = .fin (decide (a < 0)) c q ∧ 2 ^ 52 ≤ c ∧ c < 2 ^ 53 ∧ -52 ≤ q ∧ q ≤ -21 := by
  have h0 : a.toInt ≠ 0 := fun q => h (Int32.toInt_inj.mp q)
  have b1 := Int32.le_toInt a; have b2 := Int32.toInt_lt a
  obtain ⟨n, hn⟩ : ∃ n, n = a.toInt.natAbs := ⟨_, rfl⟩
  have n0 : n ≠ 0 := by omega
  have l1 := Nat.log2_self_le n0
  have l2 := Nat.lt_log2_self (n := n)
  have l3 : n.log2 ≤ 31 := by
    have : n < 2 ^ 32 := by omega
    have := (Nat.log2_lt n0).mpr this
    omega
  obtain ⟨k, hk⟩ : ∃ k, k = n.log2 := ⟨_, rfl⟩
  rw [← hk] at l1 l2 l3
  have pk : 2 ^ k * 2 ^ (52 - k) = 2 ^ 52 := by rw [← Nat.pow_add]; congr 1; omega
  have pk1 : 2 ^ (k + 1) * 2 ^ (52 - k) = 2 ^ 53 := by rw [← Nat.pow_add]; congr 1; omega
  have c1 : 2 ^ 52 ≤ n * 2 ^ (52 - k) := pk ▸ Nat.mul_le_mul_right _ l1
  have c2 : n * 2 ^ (52 - k) < 2 ^ 53 := pk1 ▸ Nat.mul_lt_mul_of_pos_right l2 (Nat.two_pow_pos _)
  refine ⟨n * 2 ^ (52 - k), (k : Int) - 52, ?_, c1, c2, by omega, by omega⟩
  have e1 : FP.Core.val64 (FP.i2d a) = FP.Core.round FP.Core.b64 (FP.Core.ofInt a.toInt) := FP.Core.val64_i2d a
  have ds : decide (a.toInt < 0) = decide (a < 0) := by simp [Int32.lt_iff_toInt_lt]
  rw [e1, FP.Core.ofInt, FP.Core.round, ← hn, ds]
  refine FP.Core.roundRatio_exact FP.Core.good_b64 (by decide) ⟨c2, ?_, ?_, Or.inr ?_⟩ ?_
  · have : FP.Core.b64.qmin = -1074 := by decide
    omega
  · have : FP.Core.b64.qmax = 971 := by decide
    omega
  · have : FP.Core.b64.tails = 2 ^ 52 := by decide
    omega
  · rw [show (0 - ((k : Int) - 52)).toNat = 52 - k by omega, show ((k : Int) - 52 - 0).toNat = 0 by omega]; simp
theorem own_i2d0 : FP.Core.val64 (FP.i2d 0) = .fin false 0 (-1074) := by decide +kernel
theorem own_k0 (a : Int32) : own_al (FP.i2d a) = if a < 0 then 0 else 1 := by
  by_cases h : a = 0
  · subst h; rw [own_fin own_i2d0]; decide
  · obtain ⟨c, q, e, c1, -, -, -⟩ := own_i2d a h
    have : c ≠ 0 := by omega
    rw [own_fin e]; simp [this]
theorem own_neg (a : Int32) : own_al (FP.dneg (FP.i2d a)) = if 0 < a then 0 else 1 := by
  have v : FP.Core.val64 (FP.dneg (FP.i2d a)) = FP.Core.negate (FP.Core.val64 (FP.i2d a)) := FP.val64_dneg _
  by_cases h : a = 0
  · subst h; rw [own_i2d0] at v; rw [own_fin v]; decide
  · obtain ⟨c, q, e, c1, -, -, -⟩ := own_i2d a h
    have : c ≠ 0 := by omega
    rw [e] at v; rw [own_fin v]
    have : ¬ (a < 0) ↔ 0 < a := by rw [Int32.lt_iff_toInt_lt, Int32.lt_iff_toInt_lt]; have e0 : (0 : Int32).toInt = 0 := rfl; have : a.toInt ≠ 0 := fun q => h (Int32.toInt_inj.mp q); omega
    by_cases g : a < 0
    · have g2 : ¬ 0 < a := fun q => this.mpr q g
      simp [g, g2]
    · have g2 := this.mp g
      simp [g, g2]; omega
open Jvm.FP Jvm.FP.Core in
theorem own_k1 (a : Int64) : own_al (FP.l2d a) = if a < 0 then 0 else 1 := by
  have e1 : val64 (FP.l2d a) = round b64 (ofInt a.toInt) := val64_l2d a
  by_cases h : a = 0
  · subst h; rw [own_fin (s := false) (c := 0) (q := -1074) (by decide +kernel)]; decide
  · have h0 : a.toInt ≠ 0 := fun q => h (Int64.toInt_inj.mp q)
    have b1 := Int64.le_toInt a; have b2 := Int64.toInt_lt a
    have ds : decide (a.toInt < 0) = decide (a < 0) := by simp [Int64.lt_iff_toInt_lt]
    rw [ofInt, round, ds] at e1
    generalize hn : a.toInt.natAbs = n at e1
    have q0 : b64.qmin = -1074 := by decide
    have ni : ¬ roundRatio b64 (decide (a < 0)) n 1 0 = .inf (decide (a < 0)) := by
      rw [roundRatio_inf good_b64 (e0 := -1075) (by decide) (by decide) (by decide)]
      intro q
      have u : inUnits n 0 (-1075) ≤ inUnits (2 ^ 63) 0 (-1075) := Nat.mul_le_mul_right _ (by omega)
      exact absurd (Nat.le_trans q u) (by decide +kernel)
    rcases own_rr (s := decide (a < 0)) (A := n) (B := 1) (e := 0) (by omega) (by decide) (by
      rw [q0]; unfold unitsDen unitsNum; exact Nat.mul_le_mul (by omega) (Nat.pow_le_pow_right (by decide) (by decide))) with ⟨c, q, e, c0, -, -⟩ | e
    · rw [e] at e1; rw [own_fin e1]; simp [c0]
    · exact absurd e ni
theorem own_sgn (s : Bool) : (s != false) = s := by cases s <;> rfl
open Jvm.FP Jvm.FP.Core in
/-- a / 1024.0 -/
theorem own_v2 (a : Int32) : ∃ (c : Nat) (q : Int), val64 (FP.ddiv (FP.i2d a) 4652218415073722368) = .fin (decide (a < 0)) c q ∧ (c = 0 ↔ a = 0) := by
  by_cases h : a = 0
  · subst h; exact ⟨0, -1074, by decide +kernel, by simp⟩
  · obtain ⟨c, q, e, c1, c2, q1, q2⟩ := own_i2d a h
    have v : val64 (FP.ddiv (FP.i2d a) 4652218415073722368) = quotient b64 (val64 (FP.i2d a)) (val64 4652218415073722368) := val64_ddiv _ _
    rw [e, show val64 4652218415073722368 = .fin false 4503599627370496 (-42) by decide +kernel, quotient, if_neg (by decide), own_sgn] at v
    have q0 : b64.qmin = -1074 := by decide
    have ni : ¬ roundRatio b64 (decide (a < 0)) c 4503599627370496 (q - -42) = .inf (decide (a < 0)) := by
      rw [roundRatio_inf good_b64 (e0 := -1075) (by decide) (by decide) (by omega)]
      intro g
      have u : inUnits c (q - -42) (-1075) ≤ inUnits (2 ^ 53) 21 (-1075) := Nat.mul_le_mul (by omega) (Nat.pow_le_pow_right (by decide) (by omega))
      exact absurd (Nat.le_trans g u) (by decide +kernel)
    rcases own_rr (s := decide (a < 0)) (A := c) (B := 4503599627370496) (e := q - -42) (by omega) (by decide) (by
      rw [q0]; unfold unitsDen unitsNum; exact Nat.mul_le_mul (by omega) (Nat.pow_le_pow_right (by decide) (by omega))) with ⟨c', q', e', c0, -, -⟩ | e'
    · exact ⟨c', q', v.trans e', by simp [c0, h]⟩
    · exact absurd e' ni
open Jvm.FP Jvm.FP.Core in
/-- a * 4.9E-324 -/
theorem own_v5 (a : Int32) : ∃ (c : Nat) (q : Int), val64 (FP.dmul (FP.i2d a) 1) = .fin (decide (a < 0)) c q ∧ (c = 0 ↔ a = 0) := by
  by_cases h : a = 0
  · subst h; exact ⟨0, -1074, by decide +kernel, by simp⟩
  · obtain ⟨c, q, e, c1, c2, q1, q2⟩ := own_i2d a h
    have v : val64 (FP.dmul (FP.i2d a) 1) = round b64 (exactProduct (val64 (FP.i2d a)) (val64 1)) := val64_dmul _ _
    rw [e, show val64 1 = .fin false 1 (-1074) by decide +kernel, exactProduct, own_sgn, round] at v
    have q0 : b64.qmin = -1074 := by decide
    have ni : ¬ roundRatio b64 (decide (a < 0)) (c * 1) 1 (q + -1074) = .inf (decide (a < 0)) := by
      rw [roundRatio_inf good_b64 (e0 := -1200) (by decide) (by decide) (by omega)]
      intro g
      have u : inUnits (c * 1) (q + -1074) (-1200) ≤ inUnits (2 ^ 53) (-1000) (-1200) := Nat.mul_le_mul (by omega) (Nat.pow_le_pow_right (by decide) (by omega))
      exact absurd (Nat.le_trans g u) (by decide +kernel)
    rcases own_rr (s := decide (a < 0)) (A := c * 1) (B := 1) (e := q + -1074) (by omega) (by decide) (by
      rw [q0]; unfold unitsDen unitsNum
      have u : 2 ^ (-1074 - (q + -1074)).toNat ≤ 2 ^ 52 := Nat.pow_le_pow_right (by decide) (by omega)
      rw [Nat.one_mul, Nat.mul_one]
      exact Nat.le_trans u (Nat.le_trans c1 (Nat.le_mul_of_pos_right _ (Nat.two_pow_pos _)))) with ⟨c', q', e', c0, -, -⟩ | e'
    · exact ⟨c', q', v.trans e', by simp [c0, h]⟩
    · exact absurd e' ni
open Jvm.FP Jvm.FP.Core in
/-- a * 1.0E300: finite and great, or infinite -/
theorem own_v3 (a : Int32) (h : a ≠ 0) : (∃ (c : Nat) (q : Int), val64 (FP.dmul (FP.i2d a) 9094988921128908188) = .fin (decide (a < 0)) c q ∧ 2 ^ 52 ≤ c ∧ 944 ≤ q) ∨ val64 (FP.dmul (FP.i2d a) 9094988921128908188) = .inf (decide (a < 0)) := by
  obtain ⟨c, q, e, c1, c2, q1, q2⟩ := own_i2d a h
  have v : val64 (FP.dmul (FP.i2d a) 9094988921128908188) = round b64 (exactProduct (val64 (FP.i2d a)) (val64 9094988921128908188)) := val64_dmul _ _
  rw [e, show val64 9094988921128908188 = .fin false 6724873095247260 944 by decide +kernel, exactProduct, own_sgn, round] at v
  have q0 : b64.qmin = -1074 := by decide
  have m : 2 ^ 52 * 2 ^ 52 ≤ c * 6724873095247260 := Nat.mul_le_mul c1 (by decide)
  have hA : 0 < c * 6724873095247260 := by omega
  have ld : 104 < leading (c * 6724873095247260) 1 + 1 := by
    refine lt_of_below (A := c * 6724873095247260) (B := 1) (fun g => ?_) (leading_spec hA (by decide)).2
    have g' := (units_below (c * 6724873095247260) 1 0 0 104).mpr g
    unfold unitsNum unitsDen at g'
    simp only [Int.sub_self, Int.toNat_zero, Nat.pow_zero, Nat.mul_one] at g'
    have : (2 : Nat) ^ 52 * 2 ^ 52 = 2 ^ 104 := by decide
    omega
  have qq : 944 ≤ quantum b64 (c * 6724873095247260) 1 (q + 944) := by
    unfold quantum; rw [show (b64.p : Int) = 53 by decide]; omega
  rcases own_rr (s := decide (a < 0)) (A := c * 6724873095247260) (B := 1) (e := q + 944) hA (by decide) (by
    rw [q0]; unfold unitsDen unitsNum; exact Nat.mul_le_mul (by omega) (Nat.pow_le_pow_right (by decide) (by omega))) with ⟨c', q', e', -, c0, q3⟩ | e'
  · have tl : b64.tails = 2 ^ 52 := by decide
    exact Or.inl ⟨c', q', v.trans e', by omega, by omega⟩
  · exact Or.inr (v.trans e')
open Jvm.FP Jvm.FP.Core in
theorem own_v33 (a : Int32) (h : a ≠ 0) : val64 (FP.dmul (FP.dmul (FP.i2d a) 9094988921128908188) 9094988921128908188) = .inf (decide (a < 0)) := by
  have v : val64 (FP.dmul (FP.dmul (FP.i2d a) 9094988921128908188) 9094988921128908188) = round b64 (exactProduct (val64 (FP.dmul (FP.i2d a) 9094988921128908188)) (val64 9094988921128908188)) := val64_dmul _ _
  rw [show val64 9094988921128908188 = .fin false 6724873095247260 944 by decide +kernel] at v
  rcases own_v3 a h with ⟨c, q, e, c1, q1⟩ | e
  · rw [e, exactProduct, own_sgn, round] at v
    refine v.trans ((roundRatio_inf good_b64 (e0 := -1075) (by decide) (by decide) (by omega)).mpr ?_)
    have u : inUnits (2 ^ 52 * 6724873095247260) 1888 (-1075) ≤ inUnits (c * 6724873095247260) (q + 944) (-1075) := Nat.mul_le_mul (Nat.mul_le_mul_right _ c1) (Nat.pow_le_pow_right (by decide) (by omega))
    exact Nat.le_trans (by decide +kernel) u
  · rw [e, exactProduct, if_neg (by decide), own_sgn] at v; exact v
theorem own_k2 (a : Int32) : own_al (FP.ddiv (FP.i2d a) 4652218415073722368) = if a < 0 then 0 else 1 := by
  obtain ⟨c, q, e, z⟩ := own_v2 a
  rw [own_fin e]
  by_cases h : a < 0
  · have : c ≠ 0 := fun g => by rw [z.mp g] at h; exact absurd h (by decide)
    simp [h, this]
  · simp [h]
theorem own_k5 (a : Int32) : own_al (FP.dmul (FP.i2d a) 1) = if a < 0 then 0 else 1 := by
  obtain ⟨c, q, e, z⟩ := own_v5 a
  rw [own_fin e]
  by_cases h : a < 0
  · have : c ≠ 0 := fun g => by rw [z.mp g] at h; exact absurd h (by decide)
    simp [h, this]
  · simp [h]
theorem own_k3 (a : Int32) : own_al (FP.dmul (FP.dmul (FP.i2d a) 9094988921128908188) 9094988921128908188) = if a = 0 then 1 else 0 := by
  by_cases h : a = 0
  · subst h; rw [own_fin (s := false) (c := 0) (q := -1074) (by decide +kernel)]; decide
  · rw [own_inf (own_v33 a h), if_neg h]
theorem own_n2 (a : Int32) : Jvm.Free.Fl.NoNaN64 (FP.ddiv (FP.i2d a) 4652218415073722368) := by
  obtain ⟨c, q, e, z⟩ := own_v2 a
  exact own_nn (by rw [e]; nofun)
theorem own_n5 (a : Int32) : Jvm.Free.Fl.NoNaN64 (FP.dmul (FP.i2d a) 1) := by
  obtain ⟨c, q, e, z⟩ := own_v5 a
  exact own_nn (by rw [e]; nofun)
theorem own_n3 (a : Int32) : Jvm.Free.Fl.NoNaN64 (FP.dmul (FP.i2d a) 9094988921128908188) := by
  by_cases h : a = 0
  · subst h; decide +kernel
  · rcases own_v3 a h with ⟨c, q, e, -⟩ | e
    · exact own_nn (by rw [e]; nofun)
    · exact own_nn (by rw [e]; nofun)
theorem own_n33 (a : Int32) : Jvm.Free.Fl.NoNaN64 (FP.dmul (FP.dmul (FP.i2d a) 9094988921128908188) 9094988921128908188) := by
  by_cases h : a = 0
  · subst h; decide +kernel
  · exact own_nn (by rw [own_v33 a h]; nofun)
theorem own_k6 : own_al 9218868437227405311 = 1 ∧ own_al 18442240474082181119 = 0 := by decide +kernel

theorem d_prog_48_method_5_code_0 : decode prog_48_method_5_code 0 = .ok (.dload_n 0, 1) := by decide +kernel
theorem d_prog_48_method_5_code_1 : decode prog_48_method_5_code 1 = .ok (.dconst 0, 1) := by decide +kernel
theorem d_prog_48_method_5_code_2 : decode prog_48_method_5_code 2 = .ok (.dcmp .l, 1) := by decide +kernel
theorem d_prog_48_method_5_code_3 : decode prog_48_method_5_code 3 = .ok (.ifCond .lt 15, 3) := by decide +kernel
theorem d_prog_48_method_5_code_6 : decode prog_48_method_5_code 6 = .ok (.dload_n 0, 1) := by decide +kernel
theorem d_prog_48_method_5_code_7 : decode prog_48_method_5_code 7 = .ok (.ldc2_w 99, 3) := by decide +kernel
theorem d_prog_48_method_5_code_10 : decode prog_48_method_5_code 10 = .ok (.dcmp .g, 1) := by decide +kernel
theorem d_prog_48_method_5_code_11 : decode prog_48_method_5_code 11 = .ok (.ifCond .ge 7, 3) := by decide +kernel
theorem d_prog_48_method_5_code_14 : decode prog_48_method_5_code 14 = .ok (.iconst 1, 1) := by decide +kernel
theorem d_prog_48_method_5_code_15 : decode prog_48_method_5_code 15 = .ok (.goto 4, 3) := by decide +kernel
theorem d_prog_48_method_5_code_18 : decode prog_48_method_5_code 18 = .ok (.iconst 0, 1) := by decide +kernel
theorem d_prog_48_method_5_code_19 : decode prog_48_method_5_code 19 = .ok (.ireturn, 1) := by decide +kernel
theorem pn_0 : plainName "com/example/medical_query_expansion/medicalqueryexpansion/method/Method" = true := by first | (simp [plainName, overriddenIn]; done) | decide +kernel
set_option maxRecDepth 65536 in
set_option maxHeartbeats 40000000 in
theorem rm_al (l : Launch) (Z : State) (a0 : Array Value) (hw : ∀ d ∈ tables_1, d.before a0 Z = true) (d : UInt64) (h0 : Heap) (n0 : Nat) (hn0 : n0 ≤ h0.size)  :
    Con l Z (⟨"com/example/medical_query_expansion/medicalqueryexpansion/method/Method", "allows", "(D)Z"⟩ : MethodName) prog_48_method_5_code 2 (some .boolean) [] ({ frames := 0, cells := 0, slots := 0, locals := 0 } : Room) #[(.double d)] h0 (fun v h L => v = some (.int (own_al d)) ∧ Fr n0 L ∧ h = h0) := by
  refine enter (Ls := #[.val (.double d), .second]) (plainFor_of_name pn_0) (fun m => by exact entry_eq rfl) ?_
  intro p e s m below meth cd_ s₁ S0 hx hby hml hret hlk hnm hown hZ X0 e0 k0
  have N0 := Fr.nil n0
  have k1 : To p.tables e below S0 (s₁.setTop (mkF m 3 #[.val (.double d), .second] [(.int (cmpValue (FP.dcmp d (0 : UInt64)) .l))])) := fun tt hq => k0 tt (by
    refine XS.dloadN X0.here hx rfl (hb hby d_prog_48_method_5_code_0) rfl ?_
    show Steps _ _ _ (s₁.setTop (mkF m 1 #[.val (.double d), .second] [(.double d)])) _
    refine XS.dconst0 X0.here hx rfl (v := (0 : UInt64)) (hb hby d_prog_48_method_5_code_1) (by decide +kernel) ?_
    show Steps _ _ _ (s₁.setTop (mkF m 2 #[.val (.double d), .second] [(.double (0 : UInt64)), (.double d)])) _
    refine XS.dcmpS X0.here hx rfl (hb hby d_prog_48_method_5_code_2) rfl rfl ?_
    exact hq)
  by_cases hc3_2 : (cmpValue (FP.dcmp d (0 : UInt64)) .l) < (0 : Int32)
  · -- pc 3, holds
    have k3 : To p.tables e below S0 (s₁.setTop (mkF m 19 #[.val (.double d), .second] [(.int (0 : Int32))])) := fun tt hq => k1 tt (by
      refine XS.ifYes X0.here hx rfl (pc0 := 3) (pc' := 18) rfl (hb hby d_prog_48_method_5_code_3) rfl ((if0 _ _).trans (tlt hc3_2).1) (by decide) (by decide) ?_
      show Steps _ _ _ (s₁.setTop (mkF m 18 #[.val (.double d), .second] [])) _
      refine XS.iconst X0.here hx rfl (hb hby d_prog_48_method_5_code_18) ?_
      exact hq)
    have hE := e0
    refine retInt X0 hx hret hlk (by simp) rfl (hb hby d_prog_48_method_5_code_19) k3 ?_ (by decide) (by decide)
    try rw [hE]
    exact ⟨by unfold own_al; rw [if_pos hc3_2], N0, rfl⟩
  · -- pc 3, holds not
    have k4 : To p.tables e below S0 (s₁.setTop (mkF m 11 #[.val (.double d), .second] [(.int (cmpValue (FP.dcmp d (9218868437227405312 : UInt64)) .g))])) := fun tt hq => k1 tt (by
      refine XS.ifNo X0.here hx rfl (hb hby d_prog_48_method_5_code_3) rfl ((if0 _ _).trans (flt hc3_2).1) ?_
      show Steps _ _ _ (s₁.setTop (mkF m 6 #[.val (.double d), .second] [])) _
      refine XS.dloadN X0.here hx rfl (hb hby d_prog_48_method_5_code_6) rfl ?_
      show Steps _ _ _ (s₁.setTop (mkF m 7 #[.val (.double d), .second] [(.double d)])) _
      refine X0.ldc2DoubleC hx hown (mvT hZ (wq hw 5 rfl)) (g := (mkF m 7 #[.val (.double d), .second] [(.double d)])) rfl (hb hby d_prog_48_method_5_code_7) _ ?_
      show Steps _ _ _ (s₁.setTop (mkF m 10 #[.val (.double d), .second] [(.double (9218868437227405312 : UInt64)), (.double d)])) _
      refine XS.dcmpS X0.here hx rfl (hb hby d_prog_48_method_5_code_10) rfl rfl ?_
      exact hq)
    by_cases hc11_5 : (cmpValue (FP.dcmp d (9218868437227405312 : UInt64)) .g) < (0 : Int32)
    · -- pc 11, holds
      have k6 : To p.tables e below S0 (s₁.setTop (mkF m 19 #[.val (.double d), .second] [(.int (1 : Int32))])) := fun tt hq => k4 tt (by
        refine XS.ifNo X0.here hx rfl (hb hby d_prog_48_method_5_code_11) rfl ((if0 _ _).trans (tlt hc11_5).2.1) ?_
        show Steps _ _ _ (s₁.setTop (mkF m 14 #[.val (.double d), .second] [])) _
        refine XS.iconst X0.here hx rfl (hb hby d_prog_48_method_5_code_14) ?_
        show Steps _ _ _ (s₁.setTop (mkF m 15 #[.val (.double d), .second] [(.int (1 : Int32))])) _
        refine XS.goto X0.here hx rfl (pc0 := 15) (pc' := 19) rfl (hb hby d_prog_48_method_5_code_15) (by decide) (by decide) ?_
        exact hq)
      have hE := e0
      refine retInt X0 hx hret hlk (by simp) rfl (hb hby d_prog_48_method_5_code_19) k6 ?_ (by decide) (by decide)
      try rw [hE]
      exact ⟨by unfold own_al; rw [if_neg hc3_2, if_pos hc11_5], N0, rfl⟩
    · -- pc 11, holds not
      have k7 : To p.tables e below S0 (s₁.setTop (mkF m 19 #[.val (.double d), .second] [(.int (0 : Int32))])) := fun tt hq => k4 tt (by
        refine XS.ifYes X0.here hx rfl (pc0 := 11) (pc' := 18) rfl (hb hby d_prog_48_method_5_code_11) rfl ((if0 _ _).trans (flt hc11_5).2.1) (by decide) (by decide) ?_
        show Steps _ _ _ (s₁.setTop (mkF m 18 #[.val (.double d), .second] [])) _
        refine XS.iconst X0.here hx rfl (hb hby d_prog_48_method_5_code_18) ?_
        exact hq)
      have hE := e0
      refine retInt X0 hx hret hlk (by simp) rfl (hb hby d_prog_48_method_5_code_19) k7 ?_ (by decide) (by decide)
      try rw [hE]
      exact ⟨by unfold own_al; rw [if_neg hc3_2, if_neg hc11_5], N0, rfl⟩
theorem pn_1 : plainName "com/example/medical_query_expansion/medicalqueryexpansion/method/MethodAllowsPinLaw" = true := by first | (simp [plainName, overriddenIn]; done) | decide +kernel
theorem pd_0 : parseMethodDescriptor "(D)Z" = some ⟨[.double], some .boolean⟩ := by decide +kernel
set_option maxRecDepth 65536 in
set_option maxHeartbeats 40000000 in
theorem rm0 (l : Launch) (Z : State) (a0 : Array Value) (hw : ∀ d ∈ tables_1, d.before a0 Z = true) (p0 : Int32) (p1 : Int64) (p2 : Int32) (h0 : Heap) (n0 : Nat) (hn0 : n0 ≤ h0.size)  :
    Con l Z x code maxLocals ret tables_1 room_1 #[(.int p0), (.long p1), (.int p2)] h0 (fun v h L => v = some (.int 1) ∧ Fr n0 L) := by
  refine enter (Ls := #[.val (.int p0), .val (.long p1), .second, .val (.int p2), .unset, .unset, .unset, .unset]) (plainFor_of_name pn_1) (fun m => by exact entry_eq rfl) ?_
  intro p e s m below meth cd_ s₁ S0 hx hby hml hret hlk hnm hown hZ X0 e0 k0
  have N0 := Fr.nil n0
  have k1 : To p.tables e below S0 (s₁.setTop (mkF m 7 #[.val (.int p0), .val (.long p1), .second, .val (.int p2), .unset, .unset, .unset, .unset] [(.int ((p2 &&& (2147483647 : Int32)) % (7 : Int32)))])) := fun tt hq => k0 tt (by
    refine XS.iloadN X0.here hx rfl (hb hby at_0) rfl ?_
    show Steps _ _ _ (s₁.setTop (mkF m 1 #[.val (.int p0), .val (.long p1), .second, .val (.int p2), .unset, .unset, .unset, .unset] [(.int p2)])) _
    refine X0.ldcInt hx hown (mvT hZ (wq hw 0 rfl)) (g := (mkF m 1 #[.val (.int p0), .val (.long p1), .second, .val (.int p2), .unset, .unset, .unset, .unset] [(.int p2)])) rfl (hb hby at_1) _ ?_
    show Steps _ _ _ (s₁.setTop (mkF m 3 #[.val (.int p0), .val (.long p1), .second, .val (.int p2), .unset, .unset, .unset, .unset] [(.int (2147483647 : Int32)), (.int p2)])) _
    refine XS.iand X0.here hx rfl (hb hby at_3) rfl ?_
    show Steps _ _ _ (s₁.setTop (mkF m 4 #[.val (.int p0), .val (.long p1), .second, .val (.int p2), .unset, .unset, .unset, .unset] [(.int (p2 &&& (2147483647 : Int32)))])) _
    refine XS.bipush X0.here hx rfl (hb hby at_4) ?_
    show Steps _ _ _ (s₁.setTop (mkF m 6 #[.val (.int p0), .val (.long p1), .second, .val (.int p2), .unset, .unset, .unset, .unset] [(.int (7 : Int32)), (.int (p2 &&& (2147483647 : Int32)))])) _
    refine iremM X0 hx rfl (hb hby at_6) rfl (by decide) ?_
    exact hq)
  obtain ⟨v2, hv2⟩ : ∃ z : Int32, z = ((p2 &&& (2147483647 : Int32)) % (7 : Int32)) := ⟨_, rfl⟩
  have k2 : To p.tables e below S0 (s₁.setTop (mkF m 7 #[.val (.int p0), .val (.long p1), .second, .val (.int p2), .unset, .unset, .unset, .unset] [(.int v2)])) := by rw [hv2]; exact k1
  have k3 : To p.tables e below S0 (s₁.setTop (mkF m 11 #[.val (.int p0), .val (.long p1), .second, .val (.int p2), .val (.int v2), .unset, .unset, .unset] [(.int v2)])) := fun tt hq => k2 tt (by
    refine XS.istore X0.here hx rfl (hb hby at_7) rfl (l' := #[.val (.int p0), .val (.long p1), .second, .val (.int p2), .val (.int v2), .unset, .unset, .unset]) rfl ?_
    show Steps _ _ _ (s₁.setTop (mkF m 9 #[.val (.int p0), .val (.long p1), .second, .val (.int p2), .val (.int v2), .unset, .unset, .unset] [])) _
    refine XS.iload X0.here hx rfl (hb hby at_9) rfl ?_
    exact hq)
  by_cases hc11_4 : v2 = (0 : Int32)
  · -- pc 11, holds
    have k5 : To p.tables e below S0 (s₁.setTop (mkF m 19 #[.val (.int p0), .val (.long p1), .second, .val (.int p2), .val (.int v2), .val (.double (FP.i2d p0)), .second, .unset] [(.int p0)])) := fun tt hq => k3 tt (by
      refine XS.ifNo X0.here hx rfl (hb hby at_11) rfl ((if0 _ _).trans (teq hc11_4).2) ?_
      show Steps _ _ _ (s₁.setTop (mkF m 14 #[.val (.int p0), .val (.long p1), .second, .val (.int p2), .val (.int v2), .unset, .unset, .unset] [])) _
      refine XS.iloadN X0.here hx rfl (hb hby at_14) rfl ?_
      show Steps _ _ _ (s₁.setTop (mkF m 15 #[.val (.int p0), .val (.long p1), .second, .val (.int p2), .val (.int v2), .unset, .unset, .unset] [(.int p0)])) _
      refine XS.i2dS X0.here hx rfl (hb hby at_15) rfl rfl ?_
      show Steps _ _ _ (s₁.setTop (mkF m 16 #[.val (.int p0), .val (.long p1), .second, .val (.int p2), .val (.int v2), .unset, .unset, .unset] [(.double (FP.i2d p0))])) _
      refine XS.dstore X0.here hx rfl (hb hby at_16) rfl (l' := #[.val (.int p0), .val (.long p1), .second, .val (.int p2), .val (.int v2), .val (.double (FP.i2d p0)), .second, .unset]) rfl ?_
      show Steps _ _ _ (s₁.setTop (mkF m 18 #[.val (.int p0), .val (.long p1), .second, .val (.int p2), .val (.int v2), .val (.double (FP.i2d p0)), .second, .unset] [])) _
      refine XS.iloadN X0.here hx rfl (hb hby at_18) rfl ?_
      exact hq)
    by_cases hc19_6 : p0 < (0 : Int32)
    · -- pc 19, holds
      have k7 : To p.tables e below S0 (s₁.setTop (mkF m 199 #[.val (.int p0), .val (.long p1), .second, .val (.int p2), .val (.int v2), .val (.double (FP.i2d p0)), .second, .val (.int (0 : Int32))] [(.double (FP.i2d p0))])) := fun tt hq => k5 tt (by
        refine XS.ifYes X0.here hx rfl (pc0 := 19) (pc' := 26) rfl (hb hby at_19) rfl ((if0 _ _).trans (tlt hc19_6).1) (by decide) (by decide) ?_
        show Steps _ _ _ (s₁.setTop (mkF m 26 #[.val (.int p0), .val (.long p1), .second, .val (.int p2), .val (.int v2), .val (.double (FP.i2d p0)), .second, .unset] [])) _
        refine XS.iconst X0.here hx rfl (hb hby at_26) ?_
        show Steps _ _ _ (s₁.setTop (mkF m 27 #[.val (.int p0), .val (.long p1), .second, .val (.int p2), .val (.int v2), .val (.double (FP.i2d p0)), .second, .unset] [(.int (0 : Int32))])) _
        refine XS.istore X0.here hx rfl (hb hby at_27) rfl (l' := #[.val (.int p0), .val (.long p1), .second, .val (.int p2), .val (.int v2), .val (.double (FP.i2d p0)), .second, .val (.int (0 : Int32))]) rfl ?_
        show Steps _ _ _ (s₁.setTop (mkF m 29 #[.val (.int p0), .val (.long p1), .second, .val (.int p2), .val (.int v2), .val (.double (FP.i2d p0)), .second, .val (.int (0 : Int32))] [])) _
        refine XS.goto X0.here hx rfl (pc0 := 29) (pc' := 197) rfl (hb hby at_29) (by decide) (by decide) ?_
        show Steps _ _ _ (s₁.setTop (mkF m 197 #[.val (.int p0), .val (.long p1), .second, .val (.int p2), .val (.int v2), .val (.double (FP.i2d p0)), .second, .val (.int (0 : Int32))] [])) _
        refine XS.dload X0.here hx rfl (hb hby at_197) rfl ?_
        exact hq)
      obtain ⟨_, T8, L8, X8, ⟨rfl, Nq8, eq8⟩, k8a⟩ := callS' X0 hx hZ (y := (⟨"com/example/medical_query_expansion/medicalqueryexpansion/method/Method", "allows", "(D)Z"⟩ : MethodName)) hown (wq hw 1 rfl) (wq hw 2 rfl) (wq hw 3 rfl) (wq hw 4 rfl) (by decide) (backC (W := 0) (rm_al l Z a0 hw (FP.i2d p0) h0 n0 (by omega)) hZ (wq hw 4 rfl) (wq hw 3 rfl) (by decide) (by decide)) e0 (argsL := [(.double (FP.i2d p0))]) (rest := []) rfl rfl pd_0 rfl (by rw [hml]; rfl) (hb hby at_199) (Nat.le_of_eq rfl) (by decide) (by decide) k7
      have k8 : To p.tables e below S0 (T8.setTop (mkF m 202 #[.val (.int p0), .val (.long p1), .second, .val (.int p2), .val (.int v2), .val (.double (FP.i2d p0)), .second, .val (.int (0 : Int32))] [(.int (own_al (FP.i2d p0)))])) := k8a
      have N8 := N0.app Nq8
      have e8 : T8.heap = h0 := eq8
      have k9 : To p.tables e below S0 (T8.setTop (mkF m 204 #[.val (.int p0), .val (.long p1), .second, .val (.int p2), .val (.int v2), .val (.double (FP.i2d p0)), .second, .val (.int (0 : Int32))] [(.int (0 : Int32)), (.int (own_al (FP.i2d p0)))])) := fun tt hq => k8 tt (by
        refine XS.iload X8.here hx rfl (hb hby at_202) rfl ?_
        exact hq)
      by_cases hc204_10 : (own_al (FP.i2d p0)) = (0 : Int32)
      · -- pc 204, holds
        have k11 : To p.tables e below S0 (T8.setTop (mkF m 212 #[.val (.int p0), .val (.long p1), .second, .val (.int p2), .val (.int v2), .val (.double (FP.i2d p0)), .second, .val (.int (0 : Int32))] [(.int (1 : Int32))])) := fun tt hq => k9 tt (by
          refine XS.icmpNo X8.here hx rfl (hb hby at_204) rfl (teq hc204_10).2 ?_
          show Steps _ _ _ (T8.setTop (mkF m 207 #[.val (.int p0), .val (.long p1), .second, .val (.int p2), .val (.int v2), .val (.double (FP.i2d p0)), .second, .val (.int (0 : Int32))] [])) _
          refine XS.iconst X8.here hx rfl (hb hby at_207) ?_
          show Steps _ _ _ (T8.setTop (mkF m 208 #[.val (.int p0), .val (.long p1), .second, .val (.int p2), .val (.int v2), .val (.double (FP.i2d p0)), .second, .val (.int (0 : Int32))] [(.int (1 : Int32))])) _
          refine XS.goto X8.here hx rfl (pc0 := 208) (pc' := 212) rfl (hb hby at_208) (by decide) (by decide) ?_
          exact hq)
        have hE := e8
        refine retInt X8 hx hret hlk (by simp) rfl (hb hby at_212) k11 ?_ (by decide) (by decide)
        try rw [hE]
        exact ⟨rfl, N8⟩
      · -- pc 204, holds not
        exact absurd ((own_k0 p0).trans (if_pos hc19_6)) hc204_10
    · -- pc 19, holds not
      have k12 : To p.tables e below S0 (s₁.setTop (mkF m 199 #[.val (.int p0), .val (.long p1), .second, .val (.int p2), .val (.int v2), .val (.double (FP.i2d p0)), .second, .val (.int (1 : Int32))] [(.double (FP.i2d p0))])) := fun tt hq => k5 tt (by
        refine XS.ifNo X0.here hx rfl (hb hby at_19) rfl ((if0 _ _).trans (flt hc19_6).1) ?_
        show Steps _ _ _ (s₁.setTop (mkF m 22 #[.val (.int p0), .val (.long p1), .second, .val (.int p2), .val (.int v2), .val (.double (FP.i2d p0)), .second, .unset] [])) _
        refine XS.iconst X0.here hx rfl (hb hby at_22) ?_
        show Steps _ _ _ (s₁.setTop (mkF m 23 #[.val (.int p0), .val (.long p1), .second, .val (.int p2), .val (.int v2), .val (.double (FP.i2d p0)), .second, .unset] [(.int (1 : Int32))])) _
        refine XS.goto X0.here hx rfl (pc0 := 23) (pc' := 27) rfl (hb hby at_23) (by decide) (by decide) ?_
        show Steps _ _ _ (s₁.setTop (mkF m 27 #[.val (.int p0), .val (.long p1), .second, .val (.int p2), .val (.int v2), .val (.double (FP.i2d p0)), .second, .unset] [(.int (1 : Int32))])) _
        refine XS.istore X0.here hx rfl (hb hby at_27) rfl (l' := #[.val (.int p0), .val (.long p1), .second, .val (.int p2), .val (.int v2), .val (.double (FP.i2d p0)), .second, .val (.int (1 : Int32))]) rfl ?_
        show Steps _ _ _ (s₁.setTop (mkF m 29 #[.val (.int p0), .val (.long p1), .second, .val (.int p2), .val (.int v2), .val (.double (FP.i2d p0)), .second, .val (.int (1 : Int32))] [])) _
        refine XS.goto X0.here hx rfl (pc0 := 29) (pc' := 197) rfl (hb hby at_29) (by decide) (by decide) ?_
        show Steps _ _ _ (s₁.setTop (mkF m 197 #[.val (.int p0), .val (.long p1), .second, .val (.int p2), .val (.int v2), .val (.double (FP.i2d p0)), .second, .val (.int (1 : Int32))] [])) _
        refine XS.dload X0.here hx rfl (hb hby at_197) rfl ?_
        exact hq)
      obtain ⟨_, T13, L13, X13, ⟨rfl, Nq13, eq13⟩, k13a⟩ := callS' X0 hx hZ (y := (⟨"com/example/medical_query_expansion/medicalqueryexpansion/method/Method", "allows", "(D)Z"⟩ : MethodName)) hown (wq hw 1 rfl) (wq hw 2 rfl) (wq hw 3 rfl) (wq hw 4 rfl) (by decide) (backC (W := 0) (rm_al l Z a0 hw (FP.i2d p0) h0 n0 (by omega)) hZ (wq hw 4 rfl) (wq hw 3 rfl) (by decide) (by decide)) e0 (argsL := [(.double (FP.i2d p0))]) (rest := []) rfl rfl pd_0 rfl (by rw [hml]; rfl) (hb hby at_199) (Nat.le_of_eq rfl) (by decide) (by decide) k12
      have k13 : To p.tables e below S0 (T13.setTop (mkF m 202 #[.val (.int p0), .val (.long p1), .second, .val (.int p2), .val (.int v2), .val (.double (FP.i2d p0)), .second, .val (.int (1 : Int32))] [(.int (own_al (FP.i2d p0)))])) := k13a
      have N13 := N0.app Nq13
      have e13 : T13.heap = h0 := eq13
      have k14 : To p.tables e below S0 (T13.setTop (mkF m 204 #[.val (.int p0), .val (.long p1), .second, .val (.int p2), .val (.int v2), .val (.double (FP.i2d p0)), .second, .val (.int (1 : Int32))] [(.int (1 : Int32)), (.int (own_al (FP.i2d p0)))])) := fun tt hq => k13 tt (by
        refine XS.iload X13.here hx rfl (hb hby at_202) rfl ?_
        exact hq)
      by_cases hc204_15 : (own_al (FP.i2d p0)) = (1 : Int32)
      · -- pc 204, holds
        have k16 : To p.tables e below S0 (T13.setTop (mkF m 212 #[.val (.int p0), .val (.long p1), .second, .val (.int p2), .val (.int v2), .val (.double (FP.i2d p0)), .second, .val (.int (1 : Int32))] [(.int (1 : Int32))])) := fun tt hq => k14 tt (by
          refine XS.icmpNo X13.here hx rfl (hb hby at_204) rfl (teq hc204_15).2 ?_
          show Steps _ _ _ (T13.setTop (mkF m 207 #[.val (.int p0), .val (.long p1), .second, .val (.int p2), .val (.int v2), .val (.double (FP.i2d p0)), .second, .val (.int (1 : Int32))] [])) _
          refine XS.iconst X13.here hx rfl (hb hby at_207) ?_
          show Steps _ _ _ (T13.setTop (mkF m 208 #[.val (.int p0), .val (.long p1), .second, .val (.int p2), .val (.int v2), .val (.double (FP.i2d p0)), .second, .val (.int (1 : Int32))] [(.int (1 : Int32))])) _
          refine XS.goto X13.here hx rfl (pc0 := 208) (pc' := 212) rfl (hb hby at_208) (by decide) (by decide) ?_
          exact hq)
        have hE := e13
        refine retInt X13 hx hret hlk (by simp) rfl (hb hby at_212) k16 ?_ (by decide) (by decide)
        try rw [hE]
        exact ⟨rfl, N13⟩
      · -- pc 204, holds not
        exact absurd ((own_k0 p0).trans (if_neg hc19_6)) hc204_15
  · -- pc 11, holds not
    have k17 : To p.tables e below S0 (s₁.setTop (mkF m 35 #[.val (.int p0), .val (.long p1), .second, .val (.int p2), .val (.int v2), .unset, .unset, .unset] [(.int (1 : Int32)), (.int v2)])) := fun tt hq => k3 tt (by
      refine XS.ifYes X0.here hx rfl (pc0 := 11) (pc' := 32) rfl (hb hby at_11) rfl ((if0 _ _).trans (feq hc11_4).2) (by decide) (by decide) ?_
      show Steps _ _ _ (s₁.setTop (mkF m 32 #[.val (.int p0), .val (.long p1), .second, .val (.int p2), .val (.int v2), .unset, .unset, .unset] [])) _
      refine XS.iload X0.here hx rfl (hb hby at_32) rfl ?_
      show Steps _ _ _ (s₁.setTop (mkF m 34 #[.val (.int p0), .val (.long p1), .second, .val (.int p2), .val (.int v2), .unset, .unset, .unset] [(.int v2)])) _
      refine XS.iconst X0.here hx rfl (hb hby at_34) ?_
      exact hq)
    by_cases hc35_18 : v2 = (1 : Int32)
    · -- pc 35, holds
      have k19 : To p.tables e below S0 (s₁.setTop (mkF m 45 #[.val (.int p0), .val (.long p1), .second, .val (.int p2), .val (.int v2), .val (.double (FP.l2d p1)), .second, .unset] [(.int (lcmpW p1 (0 : Int64)))])) := fun tt hq => k17 tt (by
        refine XS.icmpNo X0.here hx rfl (hb hby at_35) rfl (teq hc35_18).2 ?_
        show Steps _ _ _ (s₁.setTop (mkF m 38 #[.val (.int p0), .val (.long p1), .second, .val (.int p2), .val (.int v2), .unset, .unset, .unset] [])) _
        refine XS.lloadN X0.here hx rfl (hb hby at_38) rfl ?_
        show Steps _ _ _ (s₁.setTop (mkF m 39 #[.val (.int p0), .val (.long p1), .second, .val (.int p2), .val (.int v2), .unset, .unset, .unset] [(.long p1)])) _
        refine XS.l2dS X0.here hx rfl (hb hby at_39) rfl rfl ?_
        show Steps _ _ _ (s₁.setTop (mkF m 40 #[.val (.int p0), .val (.long p1), .second, .val (.int p2), .val (.int v2), .unset, .unset, .unset] [(.double (FP.l2d p1))])) _
        refine XS.dstore X0.here hx rfl (hb hby at_40) rfl (l' := #[.val (.int p0), .val (.long p1), .second, .val (.int p2), .val (.int v2), .val (.double (FP.l2d p1)), .second, .unset]) rfl ?_
        show Steps _ _ _ (s₁.setTop (mkF m 42 #[.val (.int p0), .val (.long p1), .second, .val (.int p2), .val (.int v2), .val (.double (FP.l2d p1)), .second, .unset] [])) _
        refine XS.lloadN X0.here hx rfl (hb hby at_42) rfl ?_
        show Steps _ _ _ (s₁.setTop (mkF m 43 #[.val (.int p0), .val (.long p1), .second, .val (.int p2), .val (.int v2), .val (.double (FP.l2d p1)), .second, .unset] [(.long p1)])) _
        refine XS.lconst X0.here hx rfl (hb hby at_43) ?_
        show Steps _ _ _ (s₁.setTop (mkF m 44 #[.val (.int p0), .val (.long p1), .second, .val (.int p2), .val (.int v2), .val (.double (FP.l2d p1)), .second, .unset] [(.long (0 : Int64)), (.long p1)])) _
        refine XS.lcmp X0.here hx rfl (hb hby at_44) rfl ?_
        exact hq)
      by_cases hc45_20 : (lcmpW p1 (0 : Int64)) < (0 : Int32)
      · -- pc 45, holds
        have k21 : To p.tables e below S0 (s₁.setTop (mkF m 199 #[.val (.int p0), .val (.long p1), .second, .val (.int p2), .val (.int v2), .val (.double (FP.l2d p1)), .second, .val (.int (0 : Int32))] [(.double (FP.l2d p1))])) := fun tt hq => k19 tt (by
          refine XS.ifYes X0.here hx rfl (pc0 := 45) (pc' := 52) rfl (hb hby at_45) rfl ((if0 _ _).trans (tlt hc45_20).1) (by decide) (by decide) ?_
          show Steps _ _ _ (s₁.setTop (mkF m 52 #[.val (.int p0), .val (.long p1), .second, .val (.int p2), .val (.int v2), .val (.double (FP.l2d p1)), .second, .unset] [])) _
          refine XS.iconst X0.here hx rfl (hb hby at_52) ?_
          show Steps _ _ _ (s₁.setTop (mkF m 53 #[.val (.int p0), .val (.long p1), .second, .val (.int p2), .val (.int v2), .val (.double (FP.l2d p1)), .second, .unset] [(.int (0 : Int32))])) _
          refine XS.istore X0.here hx rfl (hb hby at_53) rfl (l' := #[.val (.int p0), .val (.long p1), .second, .val (.int p2), .val (.int v2), .val (.double (FP.l2d p1)), .second, .val (.int (0 : Int32))]) rfl ?_
          show Steps _ _ _ (s₁.setTop (mkF m 55 #[.val (.int p0), .val (.long p1), .second, .val (.int p2), .val (.int v2), .val (.double (FP.l2d p1)), .second, .val (.int (0 : Int32))] [])) _
          refine XS.goto X0.here hx rfl (pc0 := 55) (pc' := 197) rfl (hb hby at_55) (by decide) (by decide) ?_
          show Steps _ _ _ (s₁.setTop (mkF m 197 #[.val (.int p0), .val (.long p1), .second, .val (.int p2), .val (.int v2), .val (.double (FP.l2d p1)), .second, .val (.int (0 : Int32))] [])) _
          refine XS.dload X0.here hx rfl (hb hby at_197) rfl ?_
          exact hq)
        obtain ⟨_, T22, L22, X22, ⟨rfl, Nq22, eq22⟩, k22a⟩ := callS' X0 hx hZ (y := (⟨"com/example/medical_query_expansion/medicalqueryexpansion/method/Method", "allows", "(D)Z"⟩ : MethodName)) hown (wq hw 1 rfl) (wq hw 2 rfl) (wq hw 3 rfl) (wq hw 4 rfl) (by decide) (backC (W := 0) (rm_al l Z a0 hw (FP.l2d p1) h0 n0 (by omega)) hZ (wq hw 4 rfl) (wq hw 3 rfl) (by decide) (by decide)) e0 (argsL := [(.double (FP.l2d p1))]) (rest := []) rfl rfl pd_0 rfl (by rw [hml]; rfl) (hb hby at_199) (Nat.le_of_eq rfl) (by decide) (by decide) k21
        have k22 : To p.tables e below S0 (T22.setTop (mkF m 202 #[.val (.int p0), .val (.long p1), .second, .val (.int p2), .val (.int v2), .val (.double (FP.l2d p1)), .second, .val (.int (0 : Int32))] [(.int (own_al (FP.l2d p1)))])) := k22a
        have N22 := N0.app Nq22
        have e22 : T22.heap = h0 := eq22
        have k23 : To p.tables e below S0 (T22.setTop (mkF m 204 #[.val (.int p0), .val (.long p1), .second, .val (.int p2), .val (.int v2), .val (.double (FP.l2d p1)), .second, .val (.int (0 : Int32))] [(.int (0 : Int32)), (.int (own_al (FP.l2d p1)))])) := fun tt hq => k22 tt (by
          refine XS.iload X22.here hx rfl (hb hby at_202) rfl ?_
          exact hq)
        by_cases hc204_24 : (own_al (FP.l2d p1)) = (0 : Int32)
        · -- pc 204, holds
          have k25 : To p.tables e below S0 (T22.setTop (mkF m 212 #[.val (.int p0), .val (.long p1), .second, .val (.int p2), .val (.int v2), .val (.double (FP.l2d p1)), .second, .val (.int (0 : Int32))] [(.int (1 : Int32))])) := fun tt hq => k23 tt (by
            refine XS.icmpNo X22.here hx rfl (hb hby at_204) rfl (teq hc204_24).2 ?_
            show Steps _ _ _ (T22.setTop (mkF m 207 #[.val (.int p0), .val (.long p1), .second, .val (.int p2), .val (.int v2), .val (.double (FP.l2d p1)), .second, .val (.int (0 : Int32))] [])) _
            refine XS.iconst X22.here hx rfl (hb hby at_207) ?_
            show Steps _ _ _ (T22.setTop (mkF m 208 #[.val (.int p0), .val (.long p1), .second, .val (.int p2), .val (.int v2), .val (.double (FP.l2d p1)), .second, .val (.int (0 : Int32))] [(.int (1 : Int32))])) _
            refine XS.goto X22.here hx rfl (pc0 := 208) (pc' := 212) rfl (hb hby at_208) (by decide) (by decide) ?_
            exact hq)
          have hE := e22
          refine retInt X22 hx hret hlk (by simp) rfl (hb hby at_212) k25 ?_ (by decide) (by decide)
          try rw [hE]
          exact ⟨rfl, N22⟩
        · -- pc 204, holds not
          exact absurd ((own_k1 p1).trans (if_pos ((lc_lt _ _).mp ((lcW _ _) ▸ hc45_20)))) hc204_24
      · -- pc 45, holds not
        have k26 : To p.tables e below S0 (s₁.setTop (mkF m 199 #[.val (.int p0), .val (.long p1), .second, .val (.int p2), .val (.int v2), .val (.double (FP.l2d p1)), .second, .val (.int (1 : Int32))] [(.double (FP.l2d p1))])) := fun tt hq => k19 tt (by
          refine XS.ifNo X0.here hx rfl (hb hby at_45) rfl ((if0 _ _).trans (flt hc45_20).1) ?_
          show Steps _ _ _ (s₁.setTop (mkF m 48 #[.val (.int p0), .val (.long p1), .second, .val (.int p2), .val (.int v2), .val (.double (FP.l2d p1)), .second, .unset] [])) _
          refine XS.iconst X0.here hx rfl (hb hby at_48) ?_
          show Steps _ _ _ (s₁.setTop (mkF m 49 #[.val (.int p0), .val (.long p1), .second, .val (.int p2), .val (.int v2), .val (.double (FP.l2d p1)), .second, .unset] [(.int (1 : Int32))])) _
          refine XS.goto X0.here hx rfl (pc0 := 49) (pc' := 53) rfl (hb hby at_49) (by decide) (by decide) ?_
          show Steps _ _ _ (s₁.setTop (mkF m 53 #[.val (.int p0), .val (.long p1), .second, .val (.int p2), .val (.int v2), .val (.double (FP.l2d p1)), .second, .unset] [(.int (1 : Int32))])) _
          refine XS.istore X0.here hx rfl (hb hby at_53) rfl (l' := #[.val (.int p0), .val (.long p1), .second, .val (.int p2), .val (.int v2), .val (.double (FP.l2d p1)), .second, .val (.int (1 : Int32))]) rfl ?_
          show Steps _ _ _ (s₁.setTop (mkF m 55 #[.val (.int p0), .val (.long p1), .second, .val (.int p2), .val (.int v2), .val (.double (FP.l2d p1)), .second, .val (.int (1 : Int32))] [])) _
          refine XS.goto X0.here hx rfl (pc0 := 55) (pc' := 197) rfl (hb hby at_55) (by decide) (by decide) ?_
          show Steps _ _ _ (s₁.setTop (mkF m 197 #[.val (.int p0), .val (.long p1), .second, .val (.int p2), .val (.int v2), .val (.double (FP.l2d p1)), .second, .val (.int (1 : Int32))] [])) _
          refine XS.dload X0.here hx rfl (hb hby at_197) rfl ?_
          exact hq)
        obtain ⟨_, T27, L27, X27, ⟨rfl, Nq27, eq27⟩, k27a⟩ := callS' X0 hx hZ (y := (⟨"com/example/medical_query_expansion/medicalqueryexpansion/method/Method", "allows", "(D)Z"⟩ : MethodName)) hown (wq hw 1 rfl) (wq hw 2 rfl) (wq hw 3 rfl) (wq hw 4 rfl) (by decide) (backC (W := 0) (rm_al l Z a0 hw (FP.l2d p1) h0 n0 (by omega)) hZ (wq hw 4 rfl) (wq hw 3 rfl) (by decide) (by decide)) e0 (argsL := [(.double (FP.l2d p1))]) (rest := []) rfl rfl pd_0 rfl (by rw [hml]; rfl) (hb hby at_199) (Nat.le_of_eq rfl) (by decide) (by decide) k26
        have k27 : To p.tables e below S0 (T27.setTop (mkF m 202 #[.val (.int p0), .val (.long p1), .second, .val (.int p2), .val (.int v2), .val (.double (FP.l2d p1)), .second, .val (.int (1 : Int32))] [(.int (own_al (FP.l2d p1)))])) := k27a
        have N27 := N0.app Nq27
        have e27 : T27.heap = h0 := eq27
        have k28 : To p.tables e below S0 (T27.setTop (mkF m 204 #[.val (.int p0), .val (.long p1), .second, .val (.int p2), .val (.int v2), .val (.double (FP.l2d p1)), .second, .val (.int (1 : Int32))] [(.int (1 : Int32)), (.int (own_al (FP.l2d p1)))])) := fun tt hq => k27 tt (by
          refine XS.iload X27.here hx rfl (hb hby at_202) rfl ?_
          exact hq)
        by_cases hc204_29 : (own_al (FP.l2d p1)) = (1 : Int32)
        · -- pc 204, holds
          have k30 : To p.tables e below S0 (T27.setTop (mkF m 212 #[.val (.int p0), .val (.long p1), .second, .val (.int p2), .val (.int v2), .val (.double (FP.l2d p1)), .second, .val (.int (1 : Int32))] [(.int (1 : Int32))])) := fun tt hq => k28 tt (by
            refine XS.icmpNo X27.here hx rfl (hb hby at_204) rfl (teq hc204_29).2 ?_
            show Steps _ _ _ (T27.setTop (mkF m 207 #[.val (.int p0), .val (.long p1), .second, .val (.int p2), .val (.int v2), .val (.double (FP.l2d p1)), .second, .val (.int (1 : Int32))] [])) _
            refine XS.iconst X27.here hx rfl (hb hby at_207) ?_
            show Steps _ _ _ (T27.setTop (mkF m 208 #[.val (.int p0), .val (.long p1), .second, .val (.int p2), .val (.int v2), .val (.double (FP.l2d p1)), .second, .val (.int (1 : Int32))] [(.int (1 : Int32))])) _
            refine XS.goto X27.here hx rfl (pc0 := 208) (pc' := 212) rfl (hb hby at_208) (by decide) (by decide) ?_
            exact hq)
          have hE := e27
          refine retInt X27 hx hret hlk (by simp) rfl (hb hby at_212) k30 ?_ (by decide) (by decide)
          try rw [hE]
          exact ⟨rfl, N27⟩
        · -- pc 204, holds not
          exact absurd ((own_k1 p1).trans (if_neg (fun q => hc45_20 ((lcW _ _).symm ▸ ((lc_lt _ _).mpr q))))) hc204_29
    · -- pc 35, holds not
      have k31 : To p.tables e below S0 (s₁.setTop (mkF m 61 #[.val (.int p0), .val (.long p1), .second, .val (.int p2), .val (.int v2), .unset, .unset, .unset] [(.int (2 : Int32)), (.int v2)])) := fun tt hq => k17 tt (by
        refine XS.icmpYes X0.here hx rfl (pc0 := 35) (pc' := 58) rfl (hb hby at_35) rfl (feq hc35_18).2 (by decide) (by decide) ?_
        show Steps _ _ _ (s₁.setTop (mkF m 58 #[.val (.int p0), .val (.long p1), .second, .val (.int p2), .val (.int v2), .unset, .unset, .unset] [])) _
        refine XS.iload X0.here hx rfl (hb hby at_58) rfl ?_
        show Steps _ _ _ (s₁.setTop (mkF m 60 #[.val (.int p0), .val (.long p1), .second, .val (.int p2), .val (.int v2), .unset, .unset, .unset] [(.int v2)])) _
        refine XS.iconst X0.here hx rfl (hb hby at_60) ?_
        exact hq)
      by_cases hc61_32 : v2 = (2 : Int32)
      · -- pc 61, holds
        have k33 : To p.tables e below S0 (s₁.setTop (mkF m 73 #[.val (.int p0), .val (.long p1), .second, .val (.int p2), .val (.int v2), .val (.double (FP.ddiv (FP.i2d p0) (4652218415073722368 : UInt64))), .second, .unset] [(.int p0)])) := fun tt hq => k31 tt (by
          refine XS.icmpNo X0.here hx rfl (hb hby at_61) rfl (teq hc61_32).2 ?_
          show Steps _ _ _ (s₁.setTop (mkF m 64 #[.val (.int p0), .val (.long p1), .second, .val (.int p2), .val (.int v2), .unset, .unset, .unset] [])) _
          refine XS.iloadN X0.here hx rfl (hb hby at_64) rfl ?_
          show Steps _ _ _ (s₁.setTop (mkF m 65 #[.val (.int p0), .val (.long p1), .second, .val (.int p2), .val (.int v2), .unset, .unset, .unset] [(.int p0)])) _
          refine XS.i2dS X0.here hx rfl (hb hby at_65) rfl rfl ?_
          show Steps _ _ _ (s₁.setTop (mkF m 66 #[.val (.int p0), .val (.long p1), .second, .val (.int p2), .val (.int v2), .unset, .unset, .unset] [(.double (FP.i2d p0))])) _
          refine X0.ldc2DoubleC hx hown (mvT hZ (wq hw 7 rfl)) (g := (mkF m 66 #[.val (.int p0), .val (.long p1), .second, .val (.int p2), .val (.int v2), .unset, .unset, .unset] [(.double (FP.i2d p0))])) rfl (hb hby at_66) _ ?_
          show Steps _ _ _ (s₁.setTop (mkF m 69 #[.val (.int p0), .val (.long p1), .second, .val (.int p2), .val (.int v2), .unset, .unset, .unset] [(.double (4652218415073722368 : UInt64)), (.double (FP.i2d p0))])) _
          refine XS.ddivS X0.here hx rfl (hb hby at_69) rfl (own_n2 p0) rfl ?_
          show Steps _ _ _ (s₁.setTop (mkF m 70 #[.val (.int p0), .val (.long p1), .second, .val (.int p2), .val (.int v2), .unset, .unset, .unset] [(.double (FP.ddiv (FP.i2d p0) (4652218415073722368 : UInt64)))])) _
          refine XS.dstore X0.here hx rfl (hb hby at_70) rfl (l' := #[.val (.int p0), .val (.long p1), .second, .val (.int p2), .val (.int v2), .val (.double (FP.ddiv (FP.i2d p0) (4652218415073722368 : UInt64))), .second, .unset]) rfl ?_
          show Steps _ _ _ (s₁.setTop (mkF m 72 #[.val (.int p0), .val (.long p1), .second, .val (.int p2), .val (.int v2), .val (.double (FP.ddiv (FP.i2d p0) (4652218415073722368 : UInt64))), .second, .unset] [])) _
          refine XS.iloadN X0.here hx rfl (hb hby at_72) rfl ?_
          exact hq)
        by_cases hc73_34 : p0 < (0 : Int32)
        · -- pc 73, holds
          have k35 : To p.tables e below S0 (s₁.setTop (mkF m 199 #[.val (.int p0), .val (.long p1), .second, .val (.int p2), .val (.int v2), .val (.double (FP.ddiv (FP.i2d p0) (4652218415073722368 : UInt64))), .second, .val (.int (0 : Int32))] [(.double (FP.ddiv (FP.i2d p0) (4652218415073722368 : UInt64)))])) := fun tt hq => k33 tt (by
            refine XS.ifYes X0.here hx rfl (pc0 := 73) (pc' := 80) rfl (hb hby at_73) rfl ((if0 _ _).trans (tlt hc73_34).1) (by decide) (by decide) ?_
            show Steps _ _ _ (s₁.setTop (mkF m 80 #[.val (.int p0), .val (.long p1), .second, .val (.int p2), .val (.int v2), .val (.double (FP.ddiv (FP.i2d p0) (4652218415073722368 : UInt64))), .second, .unset] [])) _
            refine XS.iconst X0.here hx rfl (hb hby at_80) ?_
            show Steps _ _ _ (s₁.setTop (mkF m 81 #[.val (.int p0), .val (.long p1), .second, .val (.int p2), .val (.int v2), .val (.double (FP.ddiv (FP.i2d p0) (4652218415073722368 : UInt64))), .second, .unset] [(.int (0 : Int32))])) _
            refine XS.istore X0.here hx rfl (hb hby at_81) rfl (l' := #[.val (.int p0), .val (.long p1), .second, .val (.int p2), .val (.int v2), .val (.double (FP.ddiv (FP.i2d p0) (4652218415073722368 : UInt64))), .second, .val (.int (0 : Int32))]) rfl ?_
            show Steps _ _ _ (s₁.setTop (mkF m 83 #[.val (.int p0), .val (.long p1), .second, .val (.int p2), .val (.int v2), .val (.double (FP.ddiv (FP.i2d p0) (4652218415073722368 : UInt64))), .second, .val (.int (0 : Int32))] [])) _
            refine XS.goto X0.here hx rfl (pc0 := 83) (pc' := 197) rfl (hb hby at_83) (by decide) (by decide) ?_
            show Steps _ _ _ (s₁.setTop (mkF m 197 #[.val (.int p0), .val (.long p1), .second, .val (.int p2), .val (.int v2), .val (.double (FP.ddiv (FP.i2d p0) (4652218415073722368 : UInt64))), .second, .val (.int (0 : Int32))] [])) _
            refine XS.dload X0.here hx rfl (hb hby at_197) rfl ?_
            exact hq)
          obtain ⟨_, T36, L36, X36, ⟨rfl, Nq36, eq36⟩, k36a⟩ := callS' X0 hx hZ (y := (⟨"com/example/medical_query_expansion/medicalqueryexpansion/method/Method", "allows", "(D)Z"⟩ : MethodName)) hown (wq hw 1 rfl) (wq hw 2 rfl) (wq hw 3 rfl) (wq hw 4 rfl) (by decide) (backC (W := 0) (rm_al l Z a0 hw (FP.ddiv (FP.i2d p0) (4652218415073722368 : UInt64)) h0 n0 (by omega)) hZ (wq hw 4 rfl) (wq hw 3 rfl) (by decide) (by decide)) e0 (argsL := [(.double (FP.ddiv (FP.i2d p0) (4652218415073722368 : UInt64)))]) (rest := []) rfl rfl pd_0 rfl (by rw [hml]; rfl) (hb hby at_199) (Nat.le_of_eq rfl) (by decide) (by decide) k35
          have k36 : To p.tables e below S0 (T36.setTop (mkF m 202 #[.val (.int p0), .val (.long p1), .second, .val (.int p2), .val (.int v2), .val (.double (FP.ddiv (FP.i2d p0) (4652218415073722368 : UInt64))), .second, .val (.int (0 : Int32))] [(.int (own_al (FP.ddiv (FP.i2d p0) (4652218415073722368 : UInt64))))])) := k36a
          have N36 := N0.app Nq36
          have e36 : T36.heap = h0 := eq36
          have k37 : To p.tables e below S0 (T36.setTop (mkF m 204 #[.val (.int p0), .val (.long p1), .second, .val (.int p2), .val (.int v2), .val (.double (FP.ddiv (FP.i2d p0) (4652218415073722368 : UInt64))), .second, .val (.int (0 : Int32))] [(.int (0 : Int32)), (.int (own_al (FP.ddiv (FP.i2d p0) (4652218415073722368 : UInt64))))])) := fun tt hq => k36 tt (by
            refine XS.iload X36.here hx rfl (hb hby at_202) rfl ?_
            exact hq)
          by_cases hc204_38 : (own_al (FP.ddiv (FP.i2d p0) (4652218415073722368 : UInt64))) = (0 : Int32)
          · -- pc 204, holds
            have k39 : To p.tables e below S0 (T36.setTop (mkF m 212 #[.val (.int p0), .val (.long p1), .second, .val (.int p2), .val (.int v2), .val (.double (FP.ddiv (FP.i2d p0) (4652218415073722368 : UInt64))), .second, .val (.int (0 : Int32))] [(.int (1 : Int32))])) := fun tt hq => k37 tt (by
              refine XS.icmpNo X36.here hx rfl (hb hby at_204) rfl (teq hc204_38).2 ?_
              show Steps _ _ _ (T36.setTop (mkF m 207 #[.val (.int p0), .val (.long p1), .second, .val (.int p2), .val (.int v2), .val (.double (FP.ddiv (FP.i2d p0) (4652218415073722368 : UInt64))), .second, .val (.int (0 : Int32))] [])) _
              refine XS.iconst X36.here hx rfl (hb hby at_207) ?_
              show Steps _ _ _ (T36.setTop (mkF m 208 #[.val (.int p0), .val (.long p1), .second, .val (.int p2), .val (.int v2), .val (.double (FP.ddiv (FP.i2d p0) (4652218415073722368 : UInt64))), .second, .val (.int (0 : Int32))] [(.int (1 : Int32))])) _
              refine XS.goto X36.here hx rfl (pc0 := 208) (pc' := 212) rfl (hb hby at_208) (by decide) (by decide) ?_
              exact hq)
            have hE := e36
            refine retInt X36 hx hret hlk (by simp) rfl (hb hby at_212) k39 ?_ (by decide) (by decide)
            try rw [hE]
            exact ⟨rfl, N36⟩
          · -- pc 204, holds not
            exact absurd ((own_k2 p0).trans (if_pos hc73_34)) hc204_38
        · -- pc 73, holds not
          have k40 : To p.tables e below S0 (s₁.setTop (mkF m 199 #[.val (.int p0), .val (.long p1), .second, .val (.int p2), .val (.int v2), .val (.double (FP.ddiv (FP.i2d p0) (4652218415073722368 : UInt64))), .second, .val (.int (1 : Int32))] [(.double (FP.ddiv (FP.i2d p0) (4652218415073722368 : UInt64)))])) := fun tt hq => k33 tt (by
            refine XS.ifNo X0.here hx rfl (hb hby at_73) rfl ((if0 _ _).trans (flt hc73_34).1) ?_
            show Steps _ _ _ (s₁.setTop (mkF m 76 #[.val (.int p0), .val (.long p1), .second, .val (.int p2), .val (.int v2), .val (.double (FP.ddiv (FP.i2d p0) (4652218415073722368 : UInt64))), .second, .unset] [])) _
            refine XS.iconst X0.here hx rfl (hb hby at_76) ?_
            show Steps _ _ _ (s₁.setTop (mkF m 77 #[.val (.int p0), .val (.long p1), .second, .val (.int p2), .val (.int v2), .val (.double (FP.ddiv (FP.i2d p0) (4652218415073722368 : UInt64))), .second, .unset] [(.int (1 : Int32))])) _
            refine XS.goto X0.here hx rfl (pc0 := 77) (pc' := 81) rfl (hb hby at_77) (by decide) (by decide) ?_
            show Steps _ _ _ (s₁.setTop (mkF m 81 #[.val (.int p0), .val (.long p1), .second, .val (.int p2), .val (.int v2), .val (.double (FP.ddiv (FP.i2d p0) (4652218415073722368 : UInt64))), .second, .unset] [(.int (1 : Int32))])) _
            refine XS.istore X0.here hx rfl (hb hby at_81) rfl (l' := #[.val (.int p0), .val (.long p1), .second, .val (.int p2), .val (.int v2), .val (.double (FP.ddiv (FP.i2d p0) (4652218415073722368 : UInt64))), .second, .val (.int (1 : Int32))]) rfl ?_
            show Steps _ _ _ (s₁.setTop (mkF m 83 #[.val (.int p0), .val (.long p1), .second, .val (.int p2), .val (.int v2), .val (.double (FP.ddiv (FP.i2d p0) (4652218415073722368 : UInt64))), .second, .val (.int (1 : Int32))] [])) _
            refine XS.goto X0.here hx rfl (pc0 := 83) (pc' := 197) rfl (hb hby at_83) (by decide) (by decide) ?_
            show Steps _ _ _ (s₁.setTop (mkF m 197 #[.val (.int p0), .val (.long p1), .second, .val (.int p2), .val (.int v2), .val (.double (FP.ddiv (FP.i2d p0) (4652218415073722368 : UInt64))), .second, .val (.int (1 : Int32))] [])) _
            refine XS.dload X0.here hx rfl (hb hby at_197) rfl ?_
            exact hq)
          obtain ⟨_, T41, L41, X41, ⟨rfl, Nq41, eq41⟩, k41a⟩ := callS' X0 hx hZ (y := (⟨"com/example/medical_query_expansion/medicalqueryexpansion/method/Method", "allows", "(D)Z"⟩ : MethodName)) hown (wq hw 1 rfl) (wq hw 2 rfl) (wq hw 3 rfl) (wq hw 4 rfl) (by decide) (backC (W := 0) (rm_al l Z a0 hw (FP.ddiv (FP.i2d p0) (4652218415073722368 : UInt64)) h0 n0 (by omega)) hZ (wq hw 4 rfl) (wq hw 3 rfl) (by decide) (by decide)) e0 (argsL := [(.double (FP.ddiv (FP.i2d p0) (4652218415073722368 : UInt64)))]) (rest := []) rfl rfl pd_0 rfl (by rw [hml]; rfl) (hb hby at_199) (Nat.le_of_eq rfl) (by decide) (by decide) k40
          have k41 : To p.tables e below S0 (T41.setTop (mkF m 202 #[.val (.int p0), .val (.long p1), .second, .val (.int p2), .val (.int v2), .val (.double (FP.ddiv (FP.i2d p0) (4652218415073722368 : UInt64))), .second, .val (.int (1 : Int32))] [(.int (own_al (FP.ddiv (FP.i2d p0) (4652218415073722368 : UInt64))))])) := k41a
          have N41 := N0.app Nq41
          have e41 : T41.heap = h0 := eq41
          have k42 : To p.tables e below S0 (T41.setTop (mkF m 204 #[.val (.int p0), .val (.long p1), .second, .val (.int p2), .val (.int v2), .val (.double (FP.ddiv (FP.i2d p0) (4652218415073722368 : UInt64))), .second, .val (.int (1 : Int32))] [(.int (1 : Int32)), (.int (own_al (FP.ddiv (FP.i2d p0) (4652218415073722368 : UInt64))))])) := fun tt hq => k41 tt (by
            refine XS.iload X41.here hx rfl (hb hby at_202) rfl ?_
            exact hq)
          by_cases hc204_43 : (own_al (FP.ddiv (FP.i2d p0) (4652218415073722368 : UInt64))) = (1 : Int32)
          · -- pc 204, holds
            have k44 : To p.tables e below S0 (T41.setTop (mkF m 212 #[.val (.int p0), .val (.long p1), .second, .val (.int p2), .val (.int v2), .val (.double (FP.ddiv (FP.i2d p0) (4652218415073722368 : UInt64))), .second, .val (.int (1 : Int32))] [(.int (1 : Int32))])) := fun tt hq => k42 tt (by
              refine XS.icmpNo X41.here hx rfl (hb hby at_204) rfl (teq hc204_43).2 ?_
              show Steps _ _ _ (T41.setTop (mkF m 207 #[.val (.int p0), .val (.long p1), .second, .val (.int p2), .val (.int v2), .val (.double (FP.ddiv (FP.i2d p0) (4652218415073722368 : UInt64))), .second, .val (.int (1 : Int32))] [])) _
              refine XS.iconst X41.here hx rfl (hb hby at_207) ?_
              show Steps _ _ _ (T41.setTop (mkF m 208 #[.val (.int p0), .val (.long p1), .second, .val (.int p2), .val (.int v2), .val (.double (FP.ddiv (FP.i2d p0) (4652218415073722368 : UInt64))), .second, .val (.int (1 : Int32))] [(.int (1 : Int32))])) _
              refine XS.goto X41.here hx rfl (pc0 := 208) (pc' := 212) rfl (hb hby at_208) (by decide) (by decide) ?_
              exact hq)
            have hE := e41
            refine retInt X41 hx hret hlk (by simp) rfl (hb hby at_212) k44 ?_ (by decide) (by decide)
            try rw [hE]
            exact ⟨rfl, N41⟩
          · -- pc 204, holds not
            exact absurd ((own_k2 p0).trans (if_neg hc73_34)) hc204_43
      · -- pc 61, holds not
        have k45 : To p.tables e below S0 (s₁.setTop (mkF m 89 #[.val (.int p0), .val (.long p1), .second, .val (.int p2), .val (.int v2), .unset, .unset, .unset] [(.int (3 : Int32)), (.int v2)])) := fun tt hq => k31 tt (by
          refine XS.icmpYes X0.here hx rfl (pc0 := 61) (pc' := 86) rfl (hb hby at_61) rfl (feq hc61_32).2 (by decide) (by decide) ?_
          show Steps _ _ _ (s₁.setTop (mkF m 86 #[.val (.int p0), .val (.long p1), .second, .val (.int p2), .val (.int v2), .unset, .unset, .unset] [])) _
          refine XS.iload X0.here hx rfl (hb hby at_86) rfl ?_
          show Steps _ _ _ (s₁.setTop (mkF m 88 #[.val (.int p0), .val (.long p1), .second, .val (.int p2), .val (.int v2), .unset, .unset, .unset] [(.int v2)])) _
          refine XS.iconst X0.here hx rfl (hb hby at_88) ?_
          exact hq)
        by_cases hc89_46 : v2 = (3 : Int32)
        · -- pc 89, holds
          have k47 : To p.tables e below S0 (s₁.setTop (mkF m 105 #[.val (.int p0), .val (.long p1), .second, .val (.int p2), .val (.int v2), .val (.double (FP.dmul (FP.dmul (FP.i2d p0) (9094988921128908188 : UInt64)) (9094988921128908188 : UInt64))), .second, .unset] [(.int p0)])) := fun tt hq => k45 tt (by
            refine XS.icmpNo X0.here hx rfl (hb hby at_89) rfl (teq hc89_46).2 ?_
            show Steps _ _ _ (s₁.setTop (mkF m 92 #[.val (.int p0), .val (.long p1), .second, .val (.int p2), .val (.int v2), .unset, .unset, .unset] [])) _
            refine XS.iloadN X0.here hx rfl (hb hby at_92) rfl ?_
            show Steps _ _ _ (s₁.setTop (mkF m 93 #[.val (.int p0), .val (.long p1), .second, .val (.int p2), .val (.int v2), .unset, .unset, .unset] [(.int p0)])) _
            refine XS.i2dS X0.here hx rfl (hb hby at_93) rfl rfl ?_
            show Steps _ _ _ (s₁.setTop (mkF m 94 #[.val (.int p0), .val (.long p1), .second, .val (.int p2), .val (.int v2), .unset, .unset, .unset] [(.double (FP.i2d p0))])) _
            refine X0.ldc2DoubleC hx hown (mvT hZ (wq hw 6 rfl)) (g := (mkF m 94 #[.val (.int p0), .val (.long p1), .second, .val (.int p2), .val (.int v2), .unset, .unset, .unset] [(.double (FP.i2d p0))])) rfl (hb hby at_94) _ ?_
            show Steps _ _ _ (s₁.setTop (mkF m 97 #[.val (.int p0), .val (.long p1), .second, .val (.int p2), .val (.int v2), .unset, .unset, .unset] [(.double (9094988921128908188 : UInt64)), (.double (FP.i2d p0))])) _
            refine XS.dmulS X0.here hx rfl (hb hby at_97) rfl (own_n3 p0) rfl ?_
            show Steps _ _ _ (s₁.setTop (mkF m 98 #[.val (.int p0), .val (.long p1), .second, .val (.int p2), .val (.int v2), .unset, .unset, .unset] [(.double (FP.dmul (FP.i2d p0) (9094988921128908188 : UInt64)))])) _
            refine X0.ldc2DoubleC hx hown (mvT hZ (wq hw 6 rfl)) (g := (mkF m 98 #[.val (.int p0), .val (.long p1), .second, .val (.int p2), .val (.int v2), .unset, .unset, .unset] [(.double (FP.dmul (FP.i2d p0) (9094988921128908188 : UInt64)))])) rfl (hb hby at_98) _ ?_
            show Steps _ _ _ (s₁.setTop (mkF m 101 #[.val (.int p0), .val (.long p1), .second, .val (.int p2), .val (.int v2), .unset, .unset, .unset] [(.double (9094988921128908188 : UInt64)), (.double (FP.dmul (FP.i2d p0) (9094988921128908188 : UInt64)))])) _
            refine XS.dmulS X0.here hx rfl (hb hby at_101) rfl (own_n33 p0) rfl ?_
            show Steps _ _ _ (s₁.setTop (mkF m 102 #[.val (.int p0), .val (.long p1), .second, .val (.int p2), .val (.int v2), .unset, .unset, .unset] [(.double (FP.dmul (FP.dmul (FP.i2d p0) (9094988921128908188 : UInt64)) (9094988921128908188 : UInt64)))])) _
            refine XS.dstore X0.here hx rfl (hb hby at_102) rfl (l' := #[.val (.int p0), .val (.long p1), .second, .val (.int p2), .val (.int v2), .val (.double (FP.dmul (FP.dmul (FP.i2d p0) (9094988921128908188 : UInt64)) (9094988921128908188 : UInt64))), .second, .unset]) rfl ?_
            show Steps _ _ _ (s₁.setTop (mkF m 104 #[.val (.int p0), .val (.long p1), .second, .val (.int p2), .val (.int v2), .val (.double (FP.dmul (FP.dmul (FP.i2d p0) (9094988921128908188 : UInt64)) (9094988921128908188 : UInt64))), .second, .unset] [])) _
            refine XS.iloadN X0.here hx rfl (hb hby at_104) rfl ?_
            exact hq)
          by_cases hc105_48 : p0 = (0 : Int32)
          · -- pc 105, holds
            have k49 : To p.tables e below S0 (s₁.setTop (mkF m 199 #[.val (.int p0), .val (.long p1), .second, .val (.int p2), .val (.int v2), .val (.double (FP.dmul (FP.dmul (FP.i2d p0) (9094988921128908188 : UInt64)) (9094988921128908188 : UInt64))), .second, .val (.int (1 : Int32))] [(.double (FP.dmul (FP.dmul (FP.i2d p0) (9094988921128908188 : UInt64)) (9094988921128908188 : UInt64)))])) := fun tt hq => k47 tt (by
              refine XS.ifNo X0.here hx rfl (hb hby at_105) rfl ((if0 _ _).trans (teq hc105_48).2) ?_
              show Steps _ _ _ (s₁.setTop (mkF m 108 #[.val (.int p0), .val (.long p1), .second, .val (.int p2), .val (.int v2), .val (.double (FP.dmul (FP.dmul (FP.i2d p0) (9094988921128908188 : UInt64)) (9094988921128908188 : UInt64))), .second, .unset] [])) _
              refine XS.iconst X0.here hx rfl (hb hby at_108) ?_
              show Steps _ _ _ (s₁.setTop (mkF m 109 #[.val (.int p0), .val (.long p1), .second, .val (.int p2), .val (.int v2), .val (.double (FP.dmul (FP.dmul (FP.i2d p0) (9094988921128908188 : UInt64)) (9094988921128908188 : UInt64))), .second, .unset] [(.int (1 : Int32))])) _
              refine XS.goto X0.here hx rfl (pc0 := 109) (pc' := 113) rfl (hb hby at_109) (by decide) (by decide) ?_
              show Steps _ _ _ (s₁.setTop (mkF m 113 #[.val (.int p0), .val (.long p1), .second, .val (.int p2), .val (.int v2), .val (.double (FP.dmul (FP.dmul (FP.i2d p0) (9094988921128908188 : UInt64)) (9094988921128908188 : UInt64))), .second, .unset] [(.int (1 : Int32))])) _
              refine XS.istore X0.here hx rfl (hb hby at_113) rfl (l' := #[.val (.int p0), .val (.long p1), .second, .val (.int p2), .val (.int v2), .val (.double (FP.dmul (FP.dmul (FP.i2d p0) (9094988921128908188 : UInt64)) (9094988921128908188 : UInt64))), .second, .val (.int (1 : Int32))]) rfl ?_
              show Steps _ _ _ (s₁.setTop (mkF m 115 #[.val (.int p0), .val (.long p1), .second, .val (.int p2), .val (.int v2), .val (.double (FP.dmul (FP.dmul (FP.i2d p0) (9094988921128908188 : UInt64)) (9094988921128908188 : UInt64))), .second, .val (.int (1 : Int32))] [])) _
              refine XS.goto X0.here hx rfl (pc0 := 115) (pc' := 197) rfl (hb hby at_115) (by decide) (by decide) ?_
              show Steps _ _ _ (s₁.setTop (mkF m 197 #[.val (.int p0), .val (.long p1), .second, .val (.int p2), .val (.int v2), .val (.double (FP.dmul (FP.dmul (FP.i2d p0) (9094988921128908188 : UInt64)) (9094988921128908188 : UInt64))), .second, .val (.int (1 : Int32))] [])) _
              refine XS.dload X0.here hx rfl (hb hby at_197) rfl ?_
              exact hq)
            obtain ⟨_, T50, L50, X50, ⟨rfl, Nq50, eq50⟩, k50a⟩ := callS' X0 hx hZ (y := (⟨"com/example/medical_query_expansion/medicalqueryexpansion/method/Method", "allows", "(D)Z"⟩ : MethodName)) hown (wq hw 1 rfl) (wq hw 2 rfl) (wq hw 3 rfl) (wq hw 4 rfl) (by decide) (backC (W := 0) (rm_al l Z a0 hw (FP.dmul (FP.dmul (FP.i2d p0) (9094988921128908188 : UInt64)) (9094988921128908188 : UInt64)) h0 n0 (by omega)) hZ (wq hw 4 rfl) (wq hw 3 rfl) (by decide) (by decide)) e0 (argsL := [(.double (FP.dmul (FP.dmul (FP.i2d p0) (9094988921128908188 : UInt64)) (9094988921128908188 : UInt64)))]) (rest := []) rfl rfl pd_0 rfl (by rw [hml]; rfl) (hb hby at_199) (Nat.le_of_eq rfl) (by decide) (by decide) k49
            have k50 : To p.tables e below S0 (T50.setTop (mkF m 202 #[.val (.int p0), .val (.long p1), .second, .val (.int p2), .val (.int v2), .val (.double (FP.dmul (FP.dmul (FP.i2d p0) (9094988921128908188 : UInt64)) (9094988921128908188 : UInt64))), .second, .val (.int (1 : Int32))] [(.int (own_al (FP.dmul (FP.dmul (FP.i2d p0) (9094988921128908188 : UInt64)) (9094988921128908188 : UInt64))))])) := k50a
            have N50 := N0.app Nq50
            have e50 : T50.heap = h0 := eq50
            have k51 : To p.tables e below S0 (T50.setTop (mkF m 204 #[.val (.int p0), .val (.long p1), .second, .val (.int p2), .val (.int v2), .val (.double (FP.dmul (FP.dmul (FP.i2d p0) (9094988921128908188 : UInt64)) (9094988921128908188 : UInt64))), .second, .val (.int (1 : Int32))] [(.int (1 : Int32)), (.int (own_al (FP.dmul (FP.dmul (FP.i2d p0) (9094988921128908188 : UInt64)) (9094988921128908188 : UInt64))))])) := fun tt hq => k50 tt (by
              refine XS.iload X50.here hx rfl (hb hby at_202) rfl ?_
              exact hq)
            by_cases hc204_52 : (own_al (FP.dmul (FP.dmul (FP.i2d p0) (9094988921128908188 : UInt64)) (9094988921128908188 : UInt64))) = (1 : Int32)
            · -- pc 204, holds
              have k53 : To p.tables e below S0 (T50.setTop (mkF m 212 #[.val (.int p0), .val (.long p1), .second, .val (.int p2), .val (.int v2), .val (.double (FP.dmul (FP.dmul (FP.i2d p0) (9094988921128908188 : UInt64)) (9094988921128908188 : UInt64))), .second, .val (.int (1 : Int32))] [(.int (1 : Int32))])) := fun tt hq => k51 tt (by
                refine XS.icmpNo X50.here hx rfl (hb hby at_204) rfl (teq hc204_52).2 ?_
                show Steps _ _ _ (T50.setTop (mkF m 207 #[.val (.int p0), .val (.long p1), .second, .val (.int p2), .val (.int v2), .val (.double (FP.dmul (FP.dmul (FP.i2d p0) (9094988921128908188 : UInt64)) (9094988921128908188 : UInt64))), .second, .val (.int (1 : Int32))] [])) _
                refine XS.iconst X50.here hx rfl (hb hby at_207) ?_
                show Steps _ _ _ (T50.setTop (mkF m 208 #[.val (.int p0), .val (.long p1), .second, .val (.int p2), .val (.int v2), .val (.double (FP.dmul (FP.dmul (FP.i2d p0) (9094988921128908188 : UInt64)) (9094988921128908188 : UInt64))), .second, .val (.int (1 : Int32))] [(.int (1 : Int32))])) _
                refine XS.goto X50.here hx rfl (pc0 := 208) (pc' := 212) rfl (hb hby at_208) (by decide) (by decide) ?_
                exact hq)
              have hE := e50
              refine retInt X50 hx hret hlk (by simp) rfl (hb hby at_212) k53 ?_ (by decide) (by decide)
              try rw [hE]
              exact ⟨rfl, N50⟩
            · -- pc 204, holds not
              exact absurd ((own_k3 p0).trans (if_pos hc105_48)) hc204_52
          · -- pc 105, holds not
            have k54 : To p.tables e below S0 (s₁.setTop (mkF m 199 #[.val (.int p0), .val (.long p1), .second, .val (.int p2), .val (.int v2), .val (.double (FP.dmul (FP.dmul (FP.i2d p0) (9094988921128908188 : UInt64)) (9094988921128908188 : UInt64))), .second, .val (.int (0 : Int32))] [(.double (FP.dmul (FP.dmul (FP.i2d p0) (9094988921128908188 : UInt64)) (9094988921128908188 : UInt64)))])) := fun tt hq => k47 tt (by
              refine XS.ifYes X0.here hx rfl (pc0 := 105) (pc' := 112) rfl (hb hby at_105) rfl ((if0 _ _).trans (feq hc105_48).2) (by decide) (by decide) ?_
              show Steps _ _ _ (s₁.setTop (mkF m 112 #[.val (.int p0), .val (.long p1), .second, .val (.int p2), .val (.int v2), .val (.double (FP.dmul (FP.dmul (FP.i2d p0) (9094988921128908188 : UInt64)) (9094988921128908188 : UInt64))), .second, .unset] [])) _
              refine XS.iconst X0.here hx rfl (hb hby at_112) ?_
              show Steps _ _ _ (s₁.setTop (mkF m 113 #[.val (.int p0), .val (.long p1), .second, .val (.int p2), .val (.int v2), .val (.double (FP.dmul (FP.dmul (FP.i2d p0) (9094988921128908188 : UInt64)) (9094988921128908188 : UInt64))), .second, .unset] [(.int (0 : Int32))])) _
              refine XS.istore X0.here hx rfl (hb hby at_113) rfl (l' := #[.val (.int p0), .val (.long p1), .second, .val (.int p2), .val (.int v2), .val (.double (FP.dmul (FP.dmul (FP.i2d p0) (9094988921128908188 : UInt64)) (9094988921128908188 : UInt64))), .second, .val (.int (0 : Int32))]) rfl ?_
              show Steps _ _ _ (s₁.setTop (mkF m 115 #[.val (.int p0), .val (.long p1), .second, .val (.int p2), .val (.int v2), .val (.double (FP.dmul (FP.dmul (FP.i2d p0) (9094988921128908188 : UInt64)) (9094988921128908188 : UInt64))), .second, .val (.int (0 : Int32))] [])) _
              refine XS.goto X0.here hx rfl (pc0 := 115) (pc' := 197) rfl (hb hby at_115) (by decide) (by decide) ?_
              show Steps _ _ _ (s₁.setTop (mkF m 197 #[.val (.int p0), .val (.long p1), .second, .val (.int p2), .val (.int v2), .val (.double (FP.dmul (FP.dmul (FP.i2d p0) (9094988921128908188 : UInt64)) (9094988921128908188 : UInt64))), .second, .val (.int (0 : Int32))] [])) _
              refine XS.dload X0.here hx rfl (hb hby at_197) rfl ?_
              exact hq)
            obtain ⟨_, T55, L55, X55, ⟨rfl, Nq55, eq55⟩, k55a⟩ := callS' X0 hx hZ (y := (⟨"com/example/medical_query_expansion/medicalqueryexpansion/method/Method", "allows", "(D)Z"⟩ : MethodName)) hown (wq hw 1 rfl) (wq hw 2 rfl) (wq hw 3 rfl) (wq hw 4 rfl) (by decide) (backC (W := 0) (rm_al l Z a0 hw (FP.dmul (FP.dmul (FP.i2d p0) (9094988921128908188 : UInt64)) (9094988921128908188 : UInt64)) h0 n0 (by omega)) hZ (wq hw 4 rfl) (wq hw 3 rfl) (by decide) (by decide)) e0 (argsL := [(.double (FP.dmul (FP.dmul (FP.i2d p0) (9094988921128908188 : UInt64)) (9094988921128908188 : UInt64)))]) (rest := []) rfl rfl pd_0 rfl (by rw [hml]; rfl) (hb hby at_199) (Nat.le_of_eq rfl) (by decide) (by decide) k54
            have k55 : To p.tables e below S0 (T55.setTop (mkF m 202 #[.val (.int p0), .val (.long p1), .second, .val (.int p2), .val (.int v2), .val (.double (FP.dmul (FP.dmul (FP.i2d p0) (9094988921128908188 : UInt64)) (9094988921128908188 : UInt64))), .second, .val (.int (0 : Int32))] [(.int (own_al (FP.dmul (FP.dmul (FP.i2d p0) (9094988921128908188 : UInt64)) (9094988921128908188 : UInt64))))])) := k55a
            have N55 := N0.app Nq55
            have e55 : T55.heap = h0 := eq55
            have k56 : To p.tables e below S0 (T55.setTop (mkF m 204 #[.val (.int p0), .val (.long p1), .second, .val (.int p2), .val (.int v2), .val (.double (FP.dmul (FP.dmul (FP.i2d p0) (9094988921128908188 : UInt64)) (9094988921128908188 : UInt64))), .second, .val (.int (0 : Int32))] [(.int (0 : Int32)), (.int (own_al (FP.dmul (FP.dmul (FP.i2d p0) (9094988921128908188 : UInt64)) (9094988921128908188 : UInt64))))])) := fun tt hq => k55 tt (by
              refine XS.iload X55.here hx rfl (hb hby at_202) rfl ?_
              exact hq)
            by_cases hc204_57 : (own_al (FP.dmul (FP.dmul (FP.i2d p0) (9094988921128908188 : UInt64)) (9094988921128908188 : UInt64))) = (0 : Int32)
            · -- pc 204, holds
              have k58 : To p.tables e below S0 (T55.setTop (mkF m 212 #[.val (.int p0), .val (.long p1), .second, .val (.int p2), .val (.int v2), .val (.double (FP.dmul (FP.dmul (FP.i2d p0) (9094988921128908188 : UInt64)) (9094988921128908188 : UInt64))), .second, .val (.int (0 : Int32))] [(.int (1 : Int32))])) := fun tt hq => k56 tt (by
                refine XS.icmpNo X55.here hx rfl (hb hby at_204) rfl (teq hc204_57).2 ?_
                show Steps _ _ _ (T55.setTop (mkF m 207 #[.val (.int p0), .val (.long p1), .second, .val (.int p2), .val (.int v2), .val (.double (FP.dmul (FP.dmul (FP.i2d p0) (9094988921128908188 : UInt64)) (9094988921128908188 : UInt64))), .second, .val (.int (0 : Int32))] [])) _
                refine XS.iconst X55.here hx rfl (hb hby at_207) ?_
                show Steps _ _ _ (T55.setTop (mkF m 208 #[.val (.int p0), .val (.long p1), .second, .val (.int p2), .val (.int v2), .val (.double (FP.dmul (FP.dmul (FP.i2d p0) (9094988921128908188 : UInt64)) (9094988921128908188 : UInt64))), .second, .val (.int (0 : Int32))] [(.int (1 : Int32))])) _
                refine XS.goto X55.here hx rfl (pc0 := 208) (pc' := 212) rfl (hb hby at_208) (by decide) (by decide) ?_
                exact hq)
              have hE := e55
              refine retInt X55 hx hret hlk (by simp) rfl (hb hby at_212) k58 ?_ (by decide) (by decide)
              try rw [hE]
              exact ⟨rfl, N55⟩
            · -- pc 204, holds not
              exact absurd ((own_k3 p0).trans (if_neg hc105_48)) hc204_57
        · -- pc 89, holds not
          have k59 : To p.tables e below S0 (s₁.setTop (mkF m 121 #[.val (.int p0), .val (.long p1), .second, .val (.int p2), .val (.int v2), .unset, .unset, .unset] [(.int (4 : Int32)), (.int v2)])) := fun tt hq => k45 tt (by
            refine XS.icmpYes X0.here hx rfl (pc0 := 89) (pc' := 118) rfl (hb hby at_89) rfl (feq hc89_46).2 (by decide) (by decide) ?_
            show Steps _ _ _ (s₁.setTop (mkF m 118 #[.val (.int p0), .val (.long p1), .second, .val (.int p2), .val (.int v2), .unset, .unset, .unset] [])) _
            refine XS.iload X0.here hx rfl (hb hby at_118) rfl ?_
            show Steps _ _ _ (s₁.setTop (mkF m 120 #[.val (.int p0), .val (.long p1), .second, .val (.int p2), .val (.int v2), .unset, .unset, .unset] [(.int v2)])) _
            refine XS.iconst X0.here hx rfl (hb hby at_120) ?_
            exact hq)
          by_cases hc121_60 : v2 = (4 : Int32)
          · -- pc 121, holds
            have k61 : To p.tables e below S0 (s₁.setTop (mkF m 130 #[.val (.int p0), .val (.long p1), .second, .val (.int p2), .val (.int v2), .val (.double (FP.dneg (FP.i2d p0))), .second, .unset] [(.int p0)])) := fun tt hq => k59 tt (by
              refine XS.icmpNo X0.here hx rfl (hb hby at_121) rfl (teq hc121_60).2 ?_
              show Steps _ _ _ (s₁.setTop (mkF m 124 #[.val (.int p0), .val (.long p1), .second, .val (.int p2), .val (.int v2), .unset, .unset, .unset] [])) _
              refine XS.iloadN X0.here hx rfl (hb hby at_124) rfl ?_
              show Steps _ _ _ (s₁.setTop (mkF m 125 #[.val (.int p0), .val (.long p1), .second, .val (.int p2), .val (.int v2), .unset, .unset, .unset] [(.int p0)])) _
              refine XS.i2dS X0.here hx rfl (hb hby at_125) rfl rfl ?_
              show Steps _ _ _ (s₁.setTop (mkF m 126 #[.val (.int p0), .val (.long p1), .second, .val (.int p2), .val (.int v2), .unset, .unset, .unset] [(.double (FP.i2d p0))])) _
              refine XS.dnegS X0.here hx rfl (hb hby at_126) rfl rfl ?_
              show Steps _ _ _ (s₁.setTop (mkF m 127 #[.val (.int p0), .val (.long p1), .second, .val (.int p2), .val (.int v2), .unset, .unset, .unset] [(.double (FP.dneg (FP.i2d p0)))])) _
              refine XS.dstore X0.here hx rfl (hb hby at_127) rfl (l' := #[.val (.int p0), .val (.long p1), .second, .val (.int p2), .val (.int v2), .val (.double (FP.dneg (FP.i2d p0))), .second, .unset]) rfl ?_
              show Steps _ _ _ (s₁.setTop (mkF m 129 #[.val (.int p0), .val (.long p1), .second, .val (.int p2), .val (.int v2), .val (.double (FP.dneg (FP.i2d p0))), .second, .unset] [])) _
              refine XS.iloadN X0.here hx rfl (hb hby at_129) rfl ?_
              exact hq)
            by_cases hc130_62 : (0 : Int32) < p0
            · -- pc 130, holds
              have k63 : To p.tables e below S0 (s₁.setTop (mkF m 199 #[.val (.int p0), .val (.long p1), .second, .val (.int p2), .val (.int v2), .val (.double (FP.dneg (FP.i2d p0))), .second, .val (.int (0 : Int32))] [(.double (FP.dneg (FP.i2d p0)))])) := fun tt hq => k61 tt (by
                refine XS.ifYes X0.here hx rfl (pc0 := 130) (pc' := 137) rfl (hb hby at_130) rfl ((if0 _ _).trans (tlt hc130_62).2.2.1) (by decide) (by decide) ?_
                show Steps _ _ _ (s₁.setTop (mkF m 137 #[.val (.int p0), .val (.long p1), .second, .val (.int p2), .val (.int v2), .val (.double (FP.dneg (FP.i2d p0))), .second, .unset] [])) _
                refine XS.iconst X0.here hx rfl (hb hby at_137) ?_
                show Steps _ _ _ (s₁.setTop (mkF m 138 #[.val (.int p0), .val (.long p1), .second, .val (.int p2), .val (.int v2), .val (.double (FP.dneg (FP.i2d p0))), .second, .unset] [(.int (0 : Int32))])) _
                refine XS.istore X0.here hx rfl (hb hby at_138) rfl (l' := #[.val (.int p0), .val (.long p1), .second, .val (.int p2), .val (.int v2), .val (.double (FP.dneg (FP.i2d p0))), .second, .val (.int (0 : Int32))]) rfl ?_
                show Steps _ _ _ (s₁.setTop (mkF m 140 #[.val (.int p0), .val (.long p1), .second, .val (.int p2), .val (.int v2), .val (.double (FP.dneg (FP.i2d p0))), .second, .val (.int (0 : Int32))] [])) _
                refine XS.goto X0.here hx rfl (pc0 := 140) (pc' := 197) rfl (hb hby at_140) (by decide) (by decide) ?_
                show Steps _ _ _ (s₁.setTop (mkF m 197 #[.val (.int p0), .val (.long p1), .second, .val (.int p2), .val (.int v2), .val (.double (FP.dneg (FP.i2d p0))), .second, .val (.int (0 : Int32))] [])) _
                refine XS.dload X0.here hx rfl (hb hby at_197) rfl ?_
                exact hq)
              obtain ⟨_, T64, L64, X64, ⟨rfl, Nq64, eq64⟩, k64a⟩ := callS' X0 hx hZ (y := (⟨"com/example/medical_query_expansion/medicalqueryexpansion/method/Method", "allows", "(D)Z"⟩ : MethodName)) hown (wq hw 1 rfl) (wq hw 2 rfl) (wq hw 3 rfl) (wq hw 4 rfl) (by decide) (backC (W := 0) (rm_al l Z a0 hw (FP.dneg (FP.i2d p0)) h0 n0 (by omega)) hZ (wq hw 4 rfl) (wq hw 3 rfl) (by decide) (by decide)) e0 (argsL := [(.double (FP.dneg (FP.i2d p0)))]) (rest := []) rfl rfl pd_0 rfl (by rw [hml]; rfl) (hb hby at_199) (Nat.le_of_eq rfl) (by decide) (by decide) k63
              have k64 : To p.tables e below S0 (T64.setTop (mkF m 202 #[.val (.int p0), .val (.long p1), .second, .val (.int p2), .val (.int v2), .val (.double (FP.dneg (FP.i2d p0))), .second, .val (.int (0 : Int32))] [(.int (own_al (FP.dneg (FP.i2d p0))))])) := k64a
              have N64 := N0.app Nq64
              have e64 : T64.heap = h0 := eq64
              have k65 : To p.tables e below S0 (T64.setTop (mkF m 204 #[.val (.int p0), .val (.long p1), .second, .val (.int p2), .val (.int v2), .val (.double (FP.dneg (FP.i2d p0))), .second, .val (.int (0 : Int32))] [(.int (0 : Int32)), (.int (own_al (FP.dneg (FP.i2d p0))))])) := fun tt hq => k64 tt (by
                refine XS.iload X64.here hx rfl (hb hby at_202) rfl ?_
                exact hq)
              by_cases hc204_66 : (own_al (FP.dneg (FP.i2d p0))) = (0 : Int32)
              · -- pc 204, holds
                have k67 : To p.tables e below S0 (T64.setTop (mkF m 212 #[.val (.int p0), .val (.long p1), .second, .val (.int p2), .val (.int v2), .val (.double (FP.dneg (FP.i2d p0))), .second, .val (.int (0 : Int32))] [(.int (1 : Int32))])) := fun tt hq => k65 tt (by
                  refine XS.icmpNo X64.here hx rfl (hb hby at_204) rfl (teq hc204_66).2 ?_
                  show Steps _ _ _ (T64.setTop (mkF m 207 #[.val (.int p0), .val (.long p1), .second, .val (.int p2), .val (.int v2), .val (.double (FP.dneg (FP.i2d p0))), .second, .val (.int (0 : Int32))] [])) _
                  refine XS.iconst X64.here hx rfl (hb hby at_207) ?_
                  show Steps _ _ _ (T64.setTop (mkF m 208 #[.val (.int p0), .val (.long p1), .second, .val (.int p2), .val (.int v2), .val (.double (FP.dneg (FP.i2d p0))), .second, .val (.int (0 : Int32))] [(.int (1 : Int32))])) _
                  refine XS.goto X64.here hx rfl (pc0 := 208) (pc' := 212) rfl (hb hby at_208) (by decide) (by decide) ?_
                  exact hq)
                have hE := e64
                refine retInt X64 hx hret hlk (by simp) rfl (hb hby at_212) k67 ?_ (by decide) (by decide)
                try rw [hE]
                exact ⟨rfl, N64⟩
              · -- pc 204, holds not
                exact absurd ((own_neg p0).trans (if_pos hc130_62)) hc204_66
            · -- pc 130, holds not
              have k68 : To p.tables e below S0 (s₁.setTop (mkF m 199 #[.val (.int p0), .val (.long p1), .second, .val (.int p2), .val (.int v2), .val (.double (FP.dneg (FP.i2d p0))), .second, .val (.int (1 : Int32))] [(.double (FP.dneg (FP.i2d p0)))])) := fun tt hq => k61 tt (by
                refine XS.ifNo X0.here hx rfl (hb hby at_130) rfl ((if0 _ _).trans (flt hc130_62).2.2.1) ?_
                show Steps _ _ _ (s₁.setTop (mkF m 133 #[.val (.int p0), .val (.long p1), .second, .val (.int p2), .val (.int v2), .val (.double (FP.dneg (FP.i2d p0))), .second, .unset] [])) _
                refine XS.iconst X0.here hx rfl (hb hby at_133) ?_
                show Steps _ _ _ (s₁.setTop (mkF m 134 #[.val (.int p0), .val (.long p1), .second, .val (.int p2), .val (.int v2), .val (.double (FP.dneg (FP.i2d p0))), .second, .unset] [(.int (1 : Int32))])) _
                refine XS.goto X0.here hx rfl (pc0 := 134) (pc' := 138) rfl (hb hby at_134) (by decide) (by decide) ?_
                show Steps _ _ _ (s₁.setTop (mkF m 138 #[.val (.int p0), .val (.long p1), .second, .val (.int p2), .val (.int v2), .val (.double (FP.dneg (FP.i2d p0))), .second, .unset] [(.int (1 : Int32))])) _
                refine XS.istore X0.here hx rfl (hb hby at_138) rfl (l' := #[.val (.int p0), .val (.long p1), .second, .val (.int p2), .val (.int v2), .val (.double (FP.dneg (FP.i2d p0))), .second, .val (.int (1 : Int32))]) rfl ?_
                show Steps _ _ _ (s₁.setTop (mkF m 140 #[.val (.int p0), .val (.long p1), .second, .val (.int p2), .val (.int v2), .val (.double (FP.dneg (FP.i2d p0))), .second, .val (.int (1 : Int32))] [])) _
                refine XS.goto X0.here hx rfl (pc0 := 140) (pc' := 197) rfl (hb hby at_140) (by decide) (by decide) ?_
                show Steps _ _ _ (s₁.setTop (mkF m 197 #[.val (.int p0), .val (.long p1), .second, .val (.int p2), .val (.int v2), .val (.double (FP.dneg (FP.i2d p0))), .second, .val (.int (1 : Int32))] [])) _
                refine XS.dload X0.here hx rfl (hb hby at_197) rfl ?_
                exact hq)
              obtain ⟨_, T69, L69, X69, ⟨rfl, Nq69, eq69⟩, k69a⟩ := callS' X0 hx hZ (y := (⟨"com/example/medical_query_expansion/medicalqueryexpansion/method/Method", "allows", "(D)Z"⟩ : MethodName)) hown (wq hw 1 rfl) (wq hw 2 rfl) (wq hw 3 rfl) (wq hw 4 rfl) (by decide) (backC (W := 0) (rm_al l Z a0 hw (FP.dneg (FP.i2d p0)) h0 n0 (by omega)) hZ (wq hw 4 rfl) (wq hw 3 rfl) (by decide) (by decide)) e0 (argsL := [(.double (FP.dneg (FP.i2d p0)))]) (rest := []) rfl rfl pd_0 rfl (by rw [hml]; rfl) (hb hby at_199) (Nat.le_of_eq rfl) (by decide) (by decide) k68
              have k69 : To p.tables e below S0 (T69.setTop (mkF m 202 #[.val (.int p0), .val (.long p1), .second, .val (.int p2), .val (.int v2), .val (.double (FP.dneg (FP.i2d p0))), .second, .val (.int (1 : Int32))] [(.int (own_al (FP.dneg (FP.i2d p0))))])) := k69a
              have N69 := N0.app Nq69
              have e69 : T69.heap = h0 := eq69
              have k70 : To p.tables e below S0 (T69.setTop (mkF m 204 #[.val (.int p0), .val (.long p1), .second, .val (.int p2), .val (.int v2), .val (.double (FP.dneg (FP.i2d p0))), .second, .val (.int (1 : Int32))] [(.int (1 : Int32)), (.int (own_al (FP.dneg (FP.i2d p0))))])) := fun tt hq => k69 tt (by
                refine XS.iload X69.here hx rfl (hb hby at_202) rfl ?_
                exact hq)
              by_cases hc204_71 : (own_al (FP.dneg (FP.i2d p0))) = (1 : Int32)
              · -- pc 204, holds
                have k72 : To p.tables e below S0 (T69.setTop (mkF m 212 #[.val (.int p0), .val (.long p1), .second, .val (.int p2), .val (.int v2), .val (.double (FP.dneg (FP.i2d p0))), .second, .val (.int (1 : Int32))] [(.int (1 : Int32))])) := fun tt hq => k70 tt (by
                  refine XS.icmpNo X69.here hx rfl (hb hby at_204) rfl (teq hc204_71).2 ?_
                  show Steps _ _ _ (T69.setTop (mkF m 207 #[.val (.int p0), .val (.long p1), .second, .val (.int p2), .val (.int v2), .val (.double (FP.dneg (FP.i2d p0))), .second, .val (.int (1 : Int32))] [])) _
                  refine XS.iconst X69.here hx rfl (hb hby at_207) ?_
                  show Steps _ _ _ (T69.setTop (mkF m 208 #[.val (.int p0), .val (.long p1), .second, .val (.int p2), .val (.int v2), .val (.double (FP.dneg (FP.i2d p0))), .second, .val (.int (1 : Int32))] [(.int (1 : Int32))])) _
                  refine XS.goto X69.here hx rfl (pc0 := 208) (pc' := 212) rfl (hb hby at_208) (by decide) (by decide) ?_
                  exact hq)
                have hE := e69
                refine retInt X69 hx hret hlk (by simp) rfl (hb hby at_212) k72 ?_ (by decide) (by decide)
                try rw [hE]
                exact ⟨rfl, N69⟩
              · -- pc 204, holds not
                exact absurd ((own_neg p0).trans (if_neg hc130_62)) hc204_71
          · -- pc 121, holds not
            have k73 : To p.tables e below S0 (s₁.setTop (mkF m 146 #[.val (.int p0), .val (.long p1), .second, .val (.int p2), .val (.int v2), .unset, .unset, .unset] [(.int (5 : Int32)), (.int v2)])) := fun tt hq => k59 tt (by
              refine XS.icmpYes X0.here hx rfl (pc0 := 121) (pc' := 143) rfl (hb hby at_121) rfl (feq hc121_60).2 (by decide) (by decide) ?_
              show Steps _ _ _ (s₁.setTop (mkF m 143 #[.val (.int p0), .val (.long p1), .second, .val (.int p2), .val (.int v2), .unset, .unset, .unset] [])) _
              refine XS.iload X0.here hx rfl (hb hby at_143) rfl ?_
              show Steps _ _ _ (s₁.setTop (mkF m 145 #[.val (.int p0), .val (.long p1), .second, .val (.int p2), .val (.int v2), .unset, .unset, .unset] [(.int v2)])) _
              refine XS.iconst X0.here hx rfl (hb hby at_145) ?_
              exact hq)
            by_cases hc146_74 : v2 = (5 : Int32)
            · -- pc 146, holds
              have k75 : To p.tables e below S0 (s₁.setTop (mkF m 158 #[.val (.int p0), .val (.long p1), .second, .val (.int p2), .val (.int v2), .val (.double (FP.dmul (FP.i2d p0) (1 : UInt64))), .second, .unset] [(.int p0)])) := fun tt hq => k73 tt (by
                refine XS.icmpNo X0.here hx rfl (hb hby at_146) rfl (teq hc146_74).2 ?_
                show Steps _ _ _ (s₁.setTop (mkF m 149 #[.val (.int p0), .val (.long p1), .second, .val (.int p2), .val (.int v2), .unset, .unset, .unset] [])) _
                refine XS.iloadN X0.here hx rfl (hb hby at_149) rfl ?_
                show Steps _ _ _ (s₁.setTop (mkF m 150 #[.val (.int p0), .val (.long p1), .second, .val (.int p2), .val (.int v2), .unset, .unset, .unset] [(.int p0)])) _
                refine XS.i2dS X0.here hx rfl (hb hby at_150) rfl rfl ?_
                show Steps _ _ _ (s₁.setTop (mkF m 151 #[.val (.int p0), .val (.long p1), .second, .val (.int p2), .val (.int v2), .unset, .unset, .unset] [(.double (FP.i2d p0))])) _
                refine X0.ldc2DoubleC hx hown (mvT hZ (wq hw 8 rfl)) (g := (mkF m 151 #[.val (.int p0), .val (.long p1), .second, .val (.int p2), .val (.int v2), .unset, .unset, .unset] [(.double (FP.i2d p0))])) rfl (hb hby at_151) _ ?_
                show Steps _ _ _ (s₁.setTop (mkF m 154 #[.val (.int p0), .val (.long p1), .second, .val (.int p2), .val (.int v2), .unset, .unset, .unset] [(.double (1 : UInt64)), (.double (FP.i2d p0))])) _
                refine XS.dmulS X0.here hx rfl (hb hby at_154) rfl (own_n5 p0) rfl ?_
                show Steps _ _ _ (s₁.setTop (mkF m 155 #[.val (.int p0), .val (.long p1), .second, .val (.int p2), .val (.int v2), .unset, .unset, .unset] [(.double (FP.dmul (FP.i2d p0) (1 : UInt64)))])) _
                refine XS.dstore X0.here hx rfl (hb hby at_155) rfl (l' := #[.val (.int p0), .val (.long p1), .second, .val (.int p2), .val (.int v2), .val (.double (FP.dmul (FP.i2d p0) (1 : UInt64))), .second, .unset]) rfl ?_
                show Steps _ _ _ (s₁.setTop (mkF m 157 #[.val (.int p0), .val (.long p1), .second, .val (.int p2), .val (.int v2), .val (.double (FP.dmul (FP.i2d p0) (1 : UInt64))), .second, .unset] [])) _
                refine XS.iloadN X0.here hx rfl (hb hby at_157) rfl ?_
                exact hq)
              by_cases hc158_76 : p0 < (0 : Int32)
              · -- pc 158, holds
                have k77 : To p.tables e below S0 (s₁.setTop (mkF m 199 #[.val (.int p0), .val (.long p1), .second, .val (.int p2), .val (.int v2), .val (.double (FP.dmul (FP.i2d p0) (1 : UInt64))), .second, .val (.int (0 : Int32))] [(.double (FP.dmul (FP.i2d p0) (1 : UInt64)))])) := fun tt hq => k75 tt (by
                  refine XS.ifYes X0.here hx rfl (pc0 := 158) (pc' := 165) rfl (hb hby at_158) rfl ((if0 _ _).trans (tlt hc158_76).1) (by decide) (by decide) ?_
                  show Steps _ _ _ (s₁.setTop (mkF m 165 #[.val (.int p0), .val (.long p1), .second, .val (.int p2), .val (.int v2), .val (.double (FP.dmul (FP.i2d p0) (1 : UInt64))), .second, .unset] [])) _
                  refine XS.iconst X0.here hx rfl (hb hby at_165) ?_
                  show Steps _ _ _ (s₁.setTop (mkF m 166 #[.val (.int p0), .val (.long p1), .second, .val (.int p2), .val (.int v2), .val (.double (FP.dmul (FP.i2d p0) (1 : UInt64))), .second, .unset] [(.int (0 : Int32))])) _
                  refine XS.istore X0.here hx rfl (hb hby at_166) rfl (l' := #[.val (.int p0), .val (.long p1), .second, .val (.int p2), .val (.int v2), .val (.double (FP.dmul (FP.i2d p0) (1 : UInt64))), .second, .val (.int (0 : Int32))]) rfl ?_
                  show Steps _ _ _ (s₁.setTop (mkF m 168 #[.val (.int p0), .val (.long p1), .second, .val (.int p2), .val (.int v2), .val (.double (FP.dmul (FP.i2d p0) (1 : UInt64))), .second, .val (.int (0 : Int32))] [])) _
                  refine XS.goto X0.here hx rfl (pc0 := 168) (pc' := 197) rfl (hb hby at_168) (by decide) (by decide) ?_
                  show Steps _ _ _ (s₁.setTop (mkF m 197 #[.val (.int p0), .val (.long p1), .second, .val (.int p2), .val (.int v2), .val (.double (FP.dmul (FP.i2d p0) (1 : UInt64))), .second, .val (.int (0 : Int32))] [])) _
                  refine XS.dload X0.here hx rfl (hb hby at_197) rfl ?_
                  exact hq)
                obtain ⟨_, T78, L78, X78, ⟨rfl, Nq78, eq78⟩, k78a⟩ := callS' X0 hx hZ (y := (⟨"com/example/medical_query_expansion/medicalqueryexpansion/method/Method", "allows", "(D)Z"⟩ : MethodName)) hown (wq hw 1 rfl) (wq hw 2 rfl) (wq hw 3 rfl) (wq hw 4 rfl) (by decide) (backC (W := 0) (rm_al l Z a0 hw (FP.dmul (FP.i2d p0) (1 : UInt64)) h0 n0 (by omega)) hZ (wq hw 4 rfl) (wq hw 3 rfl) (by decide) (by decide)) e0 (argsL := [(.double (FP.dmul (FP.i2d p0) (1 : UInt64)))]) (rest := []) rfl rfl pd_0 rfl (by rw [hml]; rfl) (hb hby at_199) (Nat.le_of_eq rfl) (by decide) (by decide) k77
                have k78 : To p.tables e below S0 (T78.setTop (mkF m 202 #[.val (.int p0), .val (.long p1), .second, .val (.int p2), .val (.int v2), .val (.double (FP.dmul (FP.i2d p0) (1 : UInt64))), .second, .val (.int (0 : Int32))] [(.int (own_al (FP.dmul (FP.i2d p0) (1 : UInt64))))])) := k78a
                have N78 := N0.app Nq78
                have e78 : T78.heap = h0 := eq78
                have k79 : To p.tables e below S0 (T78.setTop (mkF m 204 #[.val (.int p0), .val (.long p1), .second, .val (.int p2), .val (.int v2), .val (.double (FP.dmul (FP.i2d p0) (1 : UInt64))), .second, .val (.int (0 : Int32))] [(.int (0 : Int32)), (.int (own_al (FP.dmul (FP.i2d p0) (1 : UInt64))))])) := fun tt hq => k78 tt (by
                  refine XS.iload X78.here hx rfl (hb hby at_202) rfl ?_
                  exact hq)
                by_cases hc204_80 : (own_al (FP.dmul (FP.i2d p0) (1 : UInt64))) = (0 : Int32)
                · -- pc 204, holds
                  have k81 : To p.tables e below S0 (T78.setTop (mkF m 212 #[.val (.int p0), .val (.long p1), .second, .val (.int p2), .val (.int v2), .val (.double (FP.dmul (FP.i2d p0) (1 : UInt64))), .second, .val (.int (0 : Int32))] [(.int (1 : Int32))])) := fun tt hq => k79 tt (by
                    refine XS.icmpNo X78.here hx rfl (hb hby at_204) rfl (teq hc204_80).2 ?_
                    show Steps _ _ _ (T78.setTop (mkF m 207 #[.val (.int p0), .val (.long p1), .second, .val (.int p2), .val (.int v2), .val (.double (FP.dmul (FP.i2d p0) (1 : UInt64))), .second, .val (.int (0 : Int32))] [])) _
                    refine XS.iconst X78.here hx rfl (hb hby at_207) ?_
                    show Steps _ _ _ (T78.setTop (mkF m 208 #[.val (.int p0), .val (.long p1), .second, .val (.int p2), .val (.int v2), .val (.double (FP.dmul (FP.i2d p0) (1 : UInt64))), .second, .val (.int (0 : Int32))] [(.int (1 : Int32))])) _
                    refine XS.goto X78.here hx rfl (pc0 := 208) (pc' := 212) rfl (hb hby at_208) (by decide) (by decide) ?_
                    exact hq)
                  have hE := e78
                  refine retInt X78 hx hret hlk (by simp) rfl (hb hby at_212) k81 ?_ (by decide) (by decide)
                  try rw [hE]
                  exact ⟨rfl, N78⟩
                · -- pc 204, holds not
                  exact absurd ((own_k5 p0).trans (if_pos hc158_76)) hc204_80
              · -- pc 158, holds not
                have k82 : To p.tables e below S0 (s₁.setTop (mkF m 199 #[.val (.int p0), .val (.long p1), .second, .val (.int p2), .val (.int v2), .val (.double (FP.dmul (FP.i2d p0) (1 : UInt64))), .second, .val (.int (1 : Int32))] [(.double (FP.dmul (FP.i2d p0) (1 : UInt64)))])) := fun tt hq => k75 tt (by
                  refine XS.ifNo X0.here hx rfl (hb hby at_158) rfl ((if0 _ _).trans (flt hc158_76).1) ?_
                  show Steps _ _ _ (s₁.setTop (mkF m 161 #[.val (.int p0), .val (.long p1), .second, .val (.int p2), .val (.int v2), .val (.double (FP.dmul (FP.i2d p0) (1 : UInt64))), .second, .unset] [])) _
                  refine XS.iconst X0.here hx rfl (hb hby at_161) ?_
                  show Steps _ _ _ (s₁.setTop (mkF m 162 #[.val (.int p0), .val (.long p1), .second, .val (.int p2), .val (.int v2), .val (.double (FP.dmul (FP.i2d p0) (1 : UInt64))), .second, .unset] [(.int (1 : Int32))])) _
                  refine XS.goto X0.here hx rfl (pc0 := 162) (pc' := 166) rfl (hb hby at_162) (by decide) (by decide) ?_
                  show Steps _ _ _ (s₁.setTop (mkF m 166 #[.val (.int p0), .val (.long p1), .second, .val (.int p2), .val (.int v2), .val (.double (FP.dmul (FP.i2d p0) (1 : UInt64))), .second, .unset] [(.int (1 : Int32))])) _
                  refine XS.istore X0.here hx rfl (hb hby at_166) rfl (l' := #[.val (.int p0), .val (.long p1), .second, .val (.int p2), .val (.int v2), .val (.double (FP.dmul (FP.i2d p0) (1 : UInt64))), .second, .val (.int (1 : Int32))]) rfl ?_
                  show Steps _ _ _ (s₁.setTop (mkF m 168 #[.val (.int p0), .val (.long p1), .second, .val (.int p2), .val (.int v2), .val (.double (FP.dmul (FP.i2d p0) (1 : UInt64))), .second, .val (.int (1 : Int32))] [])) _
                  refine XS.goto X0.here hx rfl (pc0 := 168) (pc' := 197) rfl (hb hby at_168) (by decide) (by decide) ?_
                  show Steps _ _ _ (s₁.setTop (mkF m 197 #[.val (.int p0), .val (.long p1), .second, .val (.int p2), .val (.int v2), .val (.double (FP.dmul (FP.i2d p0) (1 : UInt64))), .second, .val (.int (1 : Int32))] [])) _
                  refine XS.dload X0.here hx rfl (hb hby at_197) rfl ?_
                  exact hq)
                obtain ⟨_, T83, L83, X83, ⟨rfl, Nq83, eq83⟩, k83a⟩ := callS' X0 hx hZ (y := (⟨"com/example/medical_query_expansion/medicalqueryexpansion/method/Method", "allows", "(D)Z"⟩ : MethodName)) hown (wq hw 1 rfl) (wq hw 2 rfl) (wq hw 3 rfl) (wq hw 4 rfl) (by decide) (backC (W := 0) (rm_al l Z a0 hw (FP.dmul (FP.i2d p0) (1 : UInt64)) h0 n0 (by omega)) hZ (wq hw 4 rfl) (wq hw 3 rfl) (by decide) (by decide)) e0 (argsL := [(.double (FP.dmul (FP.i2d p0) (1 : UInt64)))]) (rest := []) rfl rfl pd_0 rfl (by rw [hml]; rfl) (hb hby at_199) (Nat.le_of_eq rfl) (by decide) (by decide) k82
                have k83 : To p.tables e below S0 (T83.setTop (mkF m 202 #[.val (.int p0), .val (.long p1), .second, .val (.int p2), .val (.int v2), .val (.double (FP.dmul (FP.i2d p0) (1 : UInt64))), .second, .val (.int (1 : Int32))] [(.int (own_al (FP.dmul (FP.i2d p0) (1 : UInt64))))])) := k83a
                have N83 := N0.app Nq83
                have e83 : T83.heap = h0 := eq83
                have k84 : To p.tables e below S0 (T83.setTop (mkF m 204 #[.val (.int p0), .val (.long p1), .second, .val (.int p2), .val (.int v2), .val (.double (FP.dmul (FP.i2d p0) (1 : UInt64))), .second, .val (.int (1 : Int32))] [(.int (1 : Int32)), (.int (own_al (FP.dmul (FP.i2d p0) (1 : UInt64))))])) := fun tt hq => k83 tt (by
                  refine XS.iload X83.here hx rfl (hb hby at_202) rfl ?_
                  exact hq)
                by_cases hc204_85 : (own_al (FP.dmul (FP.i2d p0) (1 : UInt64))) = (1 : Int32)
                · -- pc 204, holds
                  have k86 : To p.tables e below S0 (T83.setTop (mkF m 212 #[.val (.int p0), .val (.long p1), .second, .val (.int p2), .val (.int v2), .val (.double (FP.dmul (FP.i2d p0) (1 : UInt64))), .second, .val (.int (1 : Int32))] [(.int (1 : Int32))])) := fun tt hq => k84 tt (by
                    refine XS.icmpNo X83.here hx rfl (hb hby at_204) rfl (teq hc204_85).2 ?_
                    show Steps _ _ _ (T83.setTop (mkF m 207 #[.val (.int p0), .val (.long p1), .second, .val (.int p2), .val (.int v2), .val (.double (FP.dmul (FP.i2d p0) (1 : UInt64))), .second, .val (.int (1 : Int32))] [])) _
                    refine XS.iconst X83.here hx rfl (hb hby at_207) ?_
                    show Steps _ _ _ (T83.setTop (mkF m 208 #[.val (.int p0), .val (.long p1), .second, .val (.int p2), .val (.int v2), .val (.double (FP.dmul (FP.i2d p0) (1 : UInt64))), .second, .val (.int (1 : Int32))] [(.int (1 : Int32))])) _
                    refine XS.goto X83.here hx rfl (pc0 := 208) (pc' := 212) rfl (hb hby at_208) (by decide) (by decide) ?_
                    exact hq)
                  have hE := e83
                  refine retInt X83 hx hret hlk (by simp) rfl (hb hby at_212) k86 ?_ (by decide) (by decide)
                  try rw [hE]
                  exact ⟨rfl, N83⟩
                · -- pc 204, holds not
                  exact absurd ((own_k5 p0).trans (if_neg hc158_76)) hc204_85
            · -- pc 146, holds not
              have k87 : To p.tables e below S0 (s₁.setTop (mkF m 172 #[.val (.int p0), .val (.long p1), .second, .val (.int p2), .val (.int v2), .unset, .unset, .unset] [(.int p0)])) := fun tt hq => k73 tt (by
                refine XS.icmpYes X0.here hx rfl (pc0 := 146) (pc' := 171) rfl (hb hby at_146) rfl (feq hc146_74).2 (by decide) (by decide) ?_
                show Steps _ _ _ (s₁.setTop (mkF m 171 #[.val (.int p0), .val (.long p1), .second, .val (.int p2), .val (.int v2), .unset, .unset, .unset] [])) _
                refine XS.iloadN X0.here hx rfl (hb hby at_171) rfl ?_
                exact hq)
              by_cases hc172_88 : p0 < (0 : Int32)
              · -- pc 172, holds
                have k89 : To p.tables e below S0 (s₁.setTop (mkF m 199 #[.val (.int p0), .val (.long p1), .second, .val (.int p2), .val (.int v2), .val (.double (18442240474082181119 : UInt64)), .second, .val (.int (0 : Int32))] [(.double (18442240474082181119 : UInt64))])) := fun tt hq => k87 tt (by
                  refine XS.ifYes X0.here hx rfl (pc0 := 172) (pc' := 181) rfl (hb hby at_172) rfl ((if0 _ _).trans (tlt hc172_88).1) (by decide) (by decide) ?_
                  show Steps _ _ _ (s₁.setTop (mkF m 181 #[.val (.int p0), .val (.long p1), .second, .val (.int p2), .val (.int v2), .unset, .unset, .unset] [])) _
                  refine X0.ldc2DoubleC hx hown (mvT hZ (wq hw 9 rfl)) (g := (mkF m 181 #[.val (.int p0), .val (.long p1), .second, .val (.int p2), .val (.int v2), .unset, .unset, .unset] [])) rfl (hb hby at_181) _ ?_
                  show Steps _ _ _ (s₁.setTop (mkF m 184 #[.val (.int p0), .val (.long p1), .second, .val (.int p2), .val (.int v2), .unset, .unset, .unset] [(.double (18442240474082181119 : UInt64))])) _
                  refine XS.dstore X0.here hx rfl (hb hby at_184) rfl (l' := #[.val (.int p0), .val (.long p1), .second, .val (.int p2), .val (.int v2), .val (.double (18442240474082181119 : UInt64)), .second, .unset]) rfl ?_
                  show Steps _ _ _ (s₁.setTop (mkF m 186 #[.val (.int p0), .val (.long p1), .second, .val (.int p2), .val (.int v2), .val (.double (18442240474082181119 : UInt64)), .second, .unset] [])) _
                  refine XS.iloadN X0.here hx rfl (hb hby at_186) rfl ?_
                  show Steps _ _ _ (s₁.setTop (mkF m 187 #[.val (.int p0), .val (.long p1), .second, .val (.int p2), .val (.int v2), .val (.double (18442240474082181119 : UInt64)), .second, .unset] [(.int p0)])) _
                  refine XS.ifYes X0.here hx rfl (pc0 := 187) (pc' := 194) rfl (hb hby at_187) rfl ((if0 _ _).trans (tlt hc172_88).1) (by decide) (by decide) ?_
                  show Steps _ _ _ (s₁.setTop (mkF m 194 #[.val (.int p0), .val (.long p1), .second, .val (.int p2), .val (.int v2), .val (.double (18442240474082181119 : UInt64)), .second, .unset] [])) _
                  refine XS.iconst X0.here hx rfl (hb hby at_194) ?_
                  show Steps _ _ _ (s₁.setTop (mkF m 195 #[.val (.int p0), .val (.long p1), .second, .val (.int p2), .val (.int v2), .val (.double (18442240474082181119 : UInt64)), .second, .unset] [(.int (0 : Int32))])) _
                  refine XS.istore X0.here hx rfl (hb hby at_195) rfl (l' := #[.val (.int p0), .val (.long p1), .second, .val (.int p2), .val (.int v2), .val (.double (18442240474082181119 : UInt64)), .second, .val (.int (0 : Int32))]) rfl ?_
                  show Steps _ _ _ (s₁.setTop (mkF m 197 #[.val (.int p0), .val (.long p1), .second, .val (.int p2), .val (.int v2), .val (.double (18442240474082181119 : UInt64)), .second, .val (.int (0 : Int32))] [])) _
                  refine XS.dload X0.here hx rfl (hb hby at_197) rfl ?_
                  exact hq)
                obtain ⟨_, T90, L90, X90, ⟨rfl, Nq90, eq90⟩, k90a⟩ := callS' X0 hx hZ (y := (⟨"com/example/medical_query_expansion/medicalqueryexpansion/method/Method", "allows", "(D)Z"⟩ : MethodName)) hown (wq hw 1 rfl) (wq hw 2 rfl) (wq hw 3 rfl) (wq hw 4 rfl) (by decide) (backC (W := 0) (rm_al l Z a0 hw (18442240474082181119 : UInt64) h0 n0 (by omega)) hZ (wq hw 4 rfl) (wq hw 3 rfl) (by decide) (by decide)) e0 (argsL := [(.double (18442240474082181119 : UInt64))]) (rest := []) rfl rfl pd_0 rfl (by rw [hml]; rfl) (hb hby at_199) (Nat.le_of_eq rfl) (by decide) (by decide) k89
                have k90 : To p.tables e below S0 (T90.setTop (mkF m 202 #[.val (.int p0), .val (.long p1), .second, .val (.int p2), .val (.int v2), .val (.double (18442240474082181119 : UInt64)), .second, .val (.int (0 : Int32))] [(.int (own_al (18442240474082181119 : UInt64)))])) := k90a
                have N90 := N0.app Nq90
                have e90 : T90.heap = h0 := eq90
                have k91 : To p.tables e below S0 (T90.setTop (mkF m 204 #[.val (.int p0), .val (.long p1), .second, .val (.int p2), .val (.int v2), .val (.double (18442240474082181119 : UInt64)), .second, .val (.int (0 : Int32))] [(.int (0 : Int32)), (.int (own_al (18442240474082181119 : UInt64)))])) := fun tt hq => k90 tt (by
                  refine XS.iload X90.here hx rfl (hb hby at_202) rfl ?_
                  exact hq)
                by_cases hc204_92 : (own_al (18442240474082181119 : UInt64)) = (0 : Int32)
                · -- pc 204, holds
                  have k93 : To p.tables e below S0 (T90.setTop (mkF m 212 #[.val (.int p0), .val (.long p1), .second, .val (.int p2), .val (.int v2), .val (.double (18442240474082181119 : UInt64)), .second, .val (.int (0 : Int32))] [(.int (1 : Int32))])) := fun tt hq => k91 tt (by
                    refine XS.icmpNo X90.here hx rfl (hb hby at_204) rfl (teq hc204_92).2 ?_
                    show Steps _ _ _ (T90.setTop (mkF m 207 #[.val (.int p0), .val (.long p1), .second, .val (.int p2), .val (.int v2), .val (.double (18442240474082181119 : UInt64)), .second, .val (.int (0 : Int32))] [])) _
                    refine XS.iconst X90.here hx rfl (hb hby at_207) ?_
                    show Steps _ _ _ (T90.setTop (mkF m 208 #[.val (.int p0), .val (.long p1), .second, .val (.int p2), .val (.int v2), .val (.double (18442240474082181119 : UInt64)), .second, .val (.int (0 : Int32))] [(.int (1 : Int32))])) _
                    refine XS.goto X90.here hx rfl (pc0 := 208) (pc' := 212) rfl (hb hby at_208) (by decide) (by decide) ?_
                    exact hq)
                  have hE := e90
                  refine retInt X90 hx hret hlk (by simp) rfl (hb hby at_212) k93 ?_ (by decide) (by decide)
                  try rw [hE]
                  exact ⟨rfl, N90⟩
                · -- pc 204, holds not
                  exact absurd (own_k6.2) hc204_92
              · -- pc 172, holds not
                have k94 : To p.tables e below S0 (s₁.setTop (mkF m 199 #[.val (.int p0), .val (.long p1), .second, .val (.int p2), .val (.int v2), .val (.double (9218868437227405311 : UInt64)), .second, .val (.int (1 : Int32))] [(.double (9218868437227405311 : UInt64))])) := fun tt hq => k87 tt (by
                  refine XS.ifNo X0.here hx rfl (hb hby at_172) rfl ((if0 _ _).trans (flt hc172_88).1) ?_
                  show Steps _ _ _ (s₁.setTop (mkF m 175 #[.val (.int p0), .val (.long p1), .second, .val (.int p2), .val (.int v2), .unset, .unset, .unset] [])) _
                  refine X0.ldc2DoubleC hx hown (mvT hZ (wq hw 10 rfl)) (g := (mkF m 175 #[.val (.int p0), .val (.long p1), .second, .val (.int p2), .val (.int v2), .unset, .unset, .unset] [])) rfl (hb hby at_175) _ ?_
                  show Steps _ _ _ (s₁.setTop (mkF m 178 #[.val (.int p0), .val (.long p1), .second, .val (.int p2), .val (.int v2), .unset, .unset, .unset] [(.double (9218868437227405311 : UInt64))])) _
                  refine XS.goto X0.here hx rfl (pc0 := 178) (pc' := 184) rfl (hb hby at_178) (by decide) (by decide) ?_
                  show Steps _ _ _ (s₁.setTop (mkF m 184 #[.val (.int p0), .val (.long p1), .second, .val (.int p2), .val (.int v2), .unset, .unset, .unset] [(.double (9218868437227405311 : UInt64))])) _
                  refine XS.dstore X0.here hx rfl (hb hby at_184) rfl (l' := #[.val (.int p0), .val (.long p1), .second, .val (.int p2), .val (.int v2), .val (.double (9218868437227405311 : UInt64)), .second, .unset]) rfl ?_
                  show Steps _ _ _ (s₁.setTop (mkF m 186 #[.val (.int p0), .val (.long p1), .second, .val (.int p2), .val (.int v2), .val (.double (9218868437227405311 : UInt64)), .second, .unset] [])) _
                  refine XS.iloadN X0.here hx rfl (hb hby at_186) rfl ?_
                  show Steps _ _ _ (s₁.setTop (mkF m 187 #[.val (.int p0), .val (.long p1), .second, .val (.int p2), .val (.int v2), .val (.double (9218868437227405311 : UInt64)), .second, .unset] [(.int p0)])) _
                  refine XS.ifNo X0.here hx rfl (hb hby at_187) rfl ((if0 _ _).trans (flt hc172_88).1) ?_
                  show Steps _ _ _ (s₁.setTop (mkF m 190 #[.val (.int p0), .val (.long p1), .second, .val (.int p2), .val (.int v2), .val (.double (9218868437227405311 : UInt64)), .second, .unset] [])) _
                  refine XS.iconst X0.here hx rfl (hb hby at_190) ?_
                  show Steps _ _ _ (s₁.setTop (mkF m 191 #[.val (.int p0), .val (.long p1), .second, .val (.int p2), .val (.int v2), .val (.double (9218868437227405311 : UInt64)), .second, .unset] [(.int (1 : Int32))])) _
                  refine XS.goto X0.here hx rfl (pc0 := 191) (pc' := 195) rfl (hb hby at_191) (by decide) (by decide) ?_
                  show Steps _ _ _ (s₁.setTop (mkF m 195 #[.val (.int p0), .val (.long p1), .second, .val (.int p2), .val (.int v2), .val (.double (9218868437227405311 : UInt64)), .second, .unset] [(.int (1 : Int32))])) _
                  refine XS.istore X0.here hx rfl (hb hby at_195) rfl (l' := #[.val (.int p0), .val (.long p1), .second, .val (.int p2), .val (.int v2), .val (.double (9218868437227405311 : UInt64)), .second, .val (.int (1 : Int32))]) rfl ?_
                  show Steps _ _ _ (s₁.setTop (mkF m 197 #[.val (.int p0), .val (.long p1), .second, .val (.int p2), .val (.int v2), .val (.double (9218868437227405311 : UInt64)), .second, .val (.int (1 : Int32))] [])) _
                  refine XS.dload X0.here hx rfl (hb hby at_197) rfl ?_
                  exact hq)
                obtain ⟨_, T95, L95, X95, ⟨rfl, Nq95, eq95⟩, k95a⟩ := callS' X0 hx hZ (y := (⟨"com/example/medical_query_expansion/medicalqueryexpansion/method/Method", "allows", "(D)Z"⟩ : MethodName)) hown (wq hw 1 rfl) (wq hw 2 rfl) (wq hw 3 rfl) (wq hw 4 rfl) (by decide) (backC (W := 0) (rm_al l Z a0 hw (9218868437227405311 : UInt64) h0 n0 (by omega)) hZ (wq hw 4 rfl) (wq hw 3 rfl) (by decide) (by decide)) e0 (argsL := [(.double (9218868437227405311 : UInt64))]) (rest := []) rfl rfl pd_0 rfl (by rw [hml]; rfl) (hb hby at_199) (Nat.le_of_eq rfl) (by decide) (by decide) k94
                have k95 : To p.tables e below S0 (T95.setTop (mkF m 202 #[.val (.int p0), .val (.long p1), .second, .val (.int p2), .val (.int v2), .val (.double (9218868437227405311 : UInt64)), .second, .val (.int (1 : Int32))] [(.int (own_al (9218868437227405311 : UInt64)))])) := k95a
                have N95 := N0.app Nq95
                have e95 : T95.heap = h0 := eq95
                have k96 : To p.tables e below S0 (T95.setTop (mkF m 204 #[.val (.int p0), .val (.long p1), .second, .val (.int p2), .val (.int v2), .val (.double (9218868437227405311 : UInt64)), .second, .val (.int (1 : Int32))] [(.int (1 : Int32)), (.int (own_al (9218868437227405311 : UInt64)))])) := fun tt hq => k95 tt (by
                  refine XS.iload X95.here hx rfl (hb hby at_202) rfl ?_
                  exact hq)
                by_cases hc204_97 : (own_al (9218868437227405311 : UInt64)) = (1 : Int32)
                · -- pc 204, holds
                  have k98 : To p.tables e below S0 (T95.setTop (mkF m 212 #[.val (.int p0), .val (.long p1), .second, .val (.int p2), .val (.int v2), .val (.double (9218868437227405311 : UInt64)), .second, .val (.int (1 : Int32))] [(.int (1 : Int32))])) := fun tt hq => k96 tt (by
                    refine XS.icmpNo X95.here hx rfl (hb hby at_204) rfl (teq hc204_97).2 ?_
                    show Steps _ _ _ (T95.setTop (mkF m 207 #[.val (.int p0), .val (.long p1), .second, .val (.int p2), .val (.int v2), .val (.double (9218868437227405311 : UInt64)), .second, .val (.int (1 : Int32))] [])) _
                    refine XS.iconst X95.here hx rfl (hb hby at_207) ?_
                    show Steps _ _ _ (T95.setTop (mkF m 208 #[.val (.int p0), .val (.long p1), .second, .val (.int p2), .val (.int v2), .val (.double (9218868437227405311 : UInt64)), .second, .val (.int (1 : Int32))] [(.int (1 : Int32))])) _
                    refine XS.goto X95.here hx rfl (pc0 := 208) (pc' := 212) rfl (hb hby at_208) (by decide) (by decide) ?_
                    exact hq)
                  have hE := e95
                  refine retInt X95 hx hret hlk (by simp) rfl (hb hby at_212) k98 ?_ (by decide) (by decide)
                  try rw [hE]
                  exact ⟨rfl, N95⟩
                · -- pc 204, holds not
                  exact absurd (own_k6.1) hc204_97
set_option maxRecDepth 65536 in
set_option maxHeartbeats 40000000 in
theorem comes_1 {Post : Tables → Env → Array Value → State → Outcome → State → Prop} (hpost : ∀ tb e args s v u, (limb_1_1.after args s (.returned v) u = true ∧ limb_1_2.after args s (.returned v) u = true ∧ True) → FrameEnd s (.returned v) u (Jvm.fieldLocs frame_1_writes args s ++ Jvm.arrayLocs frame_1_arrays args s ++ Jvm.staticLocs frame_1_statics s) 0 0 → Post tb e args s (.returned v) u) :
    ArmFor flags0 classFile x code maxLocals ret World_1 tables_1 room_1 Calls_1 rest_1 Pre_1 Post := by
  intro l hfl _ _ p e ha hc hk s m args below hf hA hF happ hP
  obtain ⟨hcalls, hrest, hpre⟩ := hP
  obtain ⟨-, -, -, hnamed, -, -, -, hat⟩ := (Spec.applies_iff hf).mp happ
  obtain ⟨hg, hn⟩ := and_e (Cond.before_iff.mp (show (Jvm.Cond.and given_1 narrow_1).before args s = true from hpre))
  obtain ⟨u1, u2⟩ := and_e hg
  obtain ⟨u3, u4⟩ := and_e u2
  obtain ⟨u5, u6⟩ := and_e u4
  obtain ⟨w0, w1, w2, rfl⟩ : ∃ w0 w1 w2 : Value, args = #[w0, w1, w2] := by
    have hs : args.size = 3 := by simpa [Cond.value, given_1] using u1
    obtain ⟨L⟩ := args
    match L, hs with
    | [w0, w1, w2], _ => exact ⟨w0, w1, w2, rfl⟩
  have hw := fun d (hd : d ∈ tables_1) => atoms_spec (ws := Jvm.Cond.code x code maxLocals ret :: tables_1) hat d (List.mem_cons_of_mem _ hd)
  have hfit : Fit s := fun {y c} hc i hi => by
    obtain ⟨ha, rfl⟩ := Array.getElem?_eq_some_iff.mp hc
    have q := List.all_eq_true.mp ((Array.all_eq_true_iff_forall_mem.mp hF) _ (Array.getElem_mem ha)) i (List.mem_range.mpr hi)
    simpa [Array.getElem?_eq_getElem hi] using q
  obtain ⟨i0, ei0⟩ := is_v u3
  obtain rfl : w0 = (.int i0) := Option.some.inj ei0
  obtain ⟨i1, ei1⟩ := isL_v u5
  obtain rfl : w1 = (.long i1) := Option.some.inj ei1
  obtain ⟨i2, ei2⟩ := is_v u6
  obtain rfl : w2 = (.int i2) := Option.some.inj ei2
  obtain ⟨n, o, h1, h2, h3, _, L, rfl, ⟨rfl, N⟩, hq⟩ := rm0 l s _ hw i0 i1 i2 s.heap s.heap.size (Nat.le_refl _) p e ha hc hk s m _ below hf ((Spec.applies_iff_loose hf).mp happ).1 ⟨rfl, State.Warmed39.refl s, rfl⟩ trivial
  refine ⟨n, _, h1, h2, h3, hpost _ _ _ _ _ _ ⟨Cond.after_iff.mpr rfl, Cond.after_iff.mpr (eq_i res_at (Term.int_eval (1)) rfl), trivial⟩ ⟨hq.1, hq.2.1, (hq.2.2.sift fun y hy => Or.inr (N y hy)).mono (by decide) (by decide)⟩⟩
theorem main_1_1 : Claimed_1_1 := comes_1 fun _ _ _ _ _ _ h hF => ⟨h.1, hF⟩
theorem main_1_2 : Claimed_1_2 := comes_1 fun _ _ _ _ _ _ h hF => ⟨h.2.1, hF⟩
end Jvm.Pilot.@@N@@
namespace Jvm.Pilot.@@N@@
open Jvm Jvm.ClassFile Sem Op Lib Jvm.Free Jvm.Stand Jvm.Pilot.@@N@@.Jvm.D
/-! MADE BY PROGRAM (witnessworld.py) out of the Statement's table words and the real class files: 9 classes; the members and pool entries that the words name. The judged class is class 1, her method 1. -/
namespace start1
open Jvm.ClassFile
def u (s : String) : CpInfo := .utf8 (stringToUtf16 s)
/-- a pool by its gaps: so many unusable entries, then the entry; so many at the end -/
def gap : Nat → List CpInfo → List CpInfo
  | 0, r => r
  | n + 1, r => .unusable :: gap n r
def poolList (es : List (Nat × CpInfo)) (last : Nat) : List CpInfo := es.foldr (fun e r => gap e.1 (e.2 :: r)) (gap last [])
def pool (es : List (Nat × CpInfo)) (last : Nat) : Array CpInfo := ⟨poolList es last⟩
def fileOf (pool : Array CpInfo) (this : Nat) (attrs : Array Attribute := #[]) (ms : Array MethodInfo := #[]) (fl : Nat := 33) (sup : Nat := 0) (ifs : Array Nat := #[]) (fds : Array FieldInfo := #[]) : ClassFile where
  minorVersion := 0
  majorVersion := 65
  constantPool := pool
  accessFlags := fl
  thisClass := this
  superClass := sup
  interfaces := ifs
  fields := fds
  methods := ms
  attributes := attrs
def plain (name : String) (sup : Option ClassId) : Class where
  name := name
  kind := .ordinary
  loader := none
  accessFlags := 33
  super := sup
  interfaces := #[]
  cf := none
  fields := #[]
  methods := #[]
  instanceTypes := #[]
  staticTypes := #[]
  resolved := #[]
  callSites := []
  init := .initialized
  statics := none
  mirror := none

def pool0 : Array CpInfo := pool [(5, u "<init>"), (0, u "()V"), (1, .class_ 10), (1, u "java/lang/Object")] 113

def k0m0 : Method := { name := "<init>", desc := "()V", sig := { parameters := [], returnType := none }, accessFlags := 1, code := none }
/-- java/lang/Object -/
def k0 : Class := { plain "java/lang/Object" none with
  accessFlags := 33
  interfaces := #[]
  cf := some (fileOf pool0 8 #[] #[{ accessFlags := 1, nameIndex := 5, descriptorIndex := 6, attributes := #[] }] 33 0 #[] #[])
  fields := #[]
  methods := #[k0m0]
  instanceTypes := #[]
  staticTypes := #[]
  resolved := Array.replicate 124 none
  statics := none }

def pool1 : Array CpInfo := pool [(2, .class_ 4), (1, u "java/lang/Object"), (0, u "<init>"), (0, u "()V"), (0, .integer 2147483647), (0, .double 4652218415073722368), (1, .double 9094988921128908188), (1, .double 1), (1, .double 9218868437227405311), (1, .double 18442240474082181119), (1, .methodref 19 20), (0, .class_ 21), (0, .nameAndType 22 23), (0, u "com/example/medical_query_expansion/medicalqueryexpansion/method/Method"), (0, u "allows"), (0, u "(D)Z"), (0, .class_ 25), (0, u "com/example/medical_query_expansion/medicalqueryexpansion/method/MethodAllowsPinLaw"), (2, u "law"), (0, u "(IJI)Z")] 3

def k1m0 : Method := { name := "<init>", desc := "()V", sig := { parameters := [], returnType := none }, accessFlags := 1, code := none }
def k1c1 : Code := { maxStack := 4, maxLocals := 8, code := code, exceptionTable := #[], attributes := #[] }
def k1m1 : Method := { name := "law", desc := "(IJI)Z", sig := { parameters := [.int, .long, .int], returnType := some .boolean }, accessFlags := 9, code := some k1c1 }
/-- com/example/medical_query_expansion/medicalqueryexpansion/method/MethodAllowsPinLaw -/
def k1 : Class := { plain "com/example/medical_query_expansion/medicalqueryexpansion/method/MethodAllowsPinLaw" (some 0) with
  accessFlags := 49
  interfaces := #[]
  cf := some (fileOf pool1 24 #[] #[{ accessFlags := 1, nameIndex := 5, descriptorIndex := 6, attributes := #[] }, { accessFlags := 9, nameIndex := 28, descriptorIndex := 29, attributes := #[] }] 49 2 #[] #[])
  fields := #[]
  methods := #[k1m0, k1m1]
  instanceTypes := #[]
  staticTypes := #[]
  resolved := Array.replicate 33 none
  statics := none }

def pool2 : Array CpInfo := pool [(2, .class_ 4), (1, u "java/lang/Object"), (0, u "<init>"), (0, u "()V"), (9, .class_ 18), (1, u "com/example/medical_query_expansion/medicalqueryexpansion/method/Method"), (59, u "allows"), (0, u "(D)Z"), (19, .double 9218868437227405312)] 29

def k2m0 : Method := { name := "<init>", desc := "()V", sig := { parameters := [], returnType := none }, accessFlags := 1, code := none }
def k2c1 : Code := { maxStack := 4, maxLocals := 2, code := prog_48_method_5_code, exceptionTable := #[], attributes := #[] }
def k2m1 : Method := { name := "allows", desc := "(D)Z", sig := { parameters := [.double], returnType := some .boolean }, accessFlags := 9, code := some k2c1 }
/-- com/example/medical_query_expansion/medicalqueryexpansion/method/Method -/
def k2 : Class := { plain "com/example/medical_query_expansion/medicalqueryexpansion/method/Method" (some 0) with
  accessFlags := 1057
  interfaces := #[]
  cf := some (fileOf pool2 16 #[] #[{ accessFlags := 1, nameIndex := 5, descriptorIndex := 6, attributes := #[] }, { accessFlags := 9, nameIndex := 78, descriptorIndex := 79, attributes := #[] }] 1057 2 #[] #[])
  fields := #[]
  methods := #[k2m0, k2m1]
  instanceTypes := #[]
  staticTypes := #[]
  resolved := Array.replicate 129 none
  statics := none }

def pool3 : Array CpInfo := pool [(1, u "java/lang/Cloneable"), (0, .class_ 1), (0, u "java/lang/Object"), (0, .class_ 3)] 3

/-- java/lang/Cloneable -/
def k3 : Class := { plain "java/lang/Cloneable" (some 0) with
  accessFlags := 1537
  interfaces := #[]
  cf := some (fileOf pool3 2 #[] #[] 1537 4 #[] #[])
  fields := #[]
  methods := #[]
  instanceTypes := #[]
  staticTypes := #[]
  resolved := Array.replicate 8 none
  statics := none }

def pool4 : Array CpInfo := pool [(1, u "java/io/Serializable"), (0, .class_ 1), (0, u "java/lang/Object"), (0, .class_ 3)] 3

/-- java/io/Serializable -/
def k4 : Class := { plain "java/io/Serializable" (some 0) with
  accessFlags := 1537
  interfaces := #[]
  cf := some (fileOf pool4 2 #[] #[] 1537 4 #[] #[])
  fields := #[]
  methods := #[]
  instanceTypes := #[]
  staticTypes := #[]
  resolved := Array.replicate 8 none
  statics := none }

/-- the primitive byte -/
def k5 : Class := { plain "byte" none with kind := .primitive 'B', accessFlags := 0x411 }
/-- [B -/
def k6 : Class := { plain "[B" (some 0) with kind := .array 5 .byte, interfaces := #[3, 4], accessFlags := 1041 }

/-- the primitive int -/
def k7 : Class := { plain "int" none with kind := .primitive 'I', accessFlags := 0x411 }
/-- [I -/
def k8 : Class := { plain "[I" (some 0) with kind := .array 7 .int, interfaces := #[3, 4], accessFlags := 1041 }

def heap : Heap := #[]
def classes : Array Class := #[k0, k1, k2, k3, k4, k5, k6, k7, k8]
def interned : List (Array UInt16 × Addr) := []
def slotsUsed : Nat := 0
def theMethod : MethodId := ⟨1, 1⟩
def args0 : Array Value := #[.int 5, .long 6, .int 7]
def aboutOver (below : List Frame) : State where
  vm := { classes := classes, interned := interned.toArray }
  heap := heap
  slotsUsed := slotsUsed
  threads := #[{ frames := .invoking theMethod args0 :: below }]
def below0 : List Frame := [.native { method := ⟨0, 0⟩, args := #[] }]
def about1 : State := aboutOver below0
def p0 : Program := .bare "" "" ""
def e0 : Env := launch0.env 0 0 0
theorem w_frames : about1.frames = Frame.invoking theMethod args0 :: below0 := rfl
set_option maxRecDepth 65536 in
theorem w_args : argsFit about1.vm theMethod args0 = true := by decide +kernel
set_option maxRecDepth 65536 in
theorem w_heap : heapFits about1 = true := by decide +kernel
set_option maxRecDepth 65536 in
theorem w_runnable : about1.curStatus? = some .runnable := by decide +kernel
set_option maxRecDepth 65536 in
theorem w_alone : about1.alone = true := by decide +kernel
set_option maxRecDepth 65536 in
theorem w_named : about1.methodNamed? x = some theMethod := by decide +kernel
set_option maxRecDepth 65536 in
theorem w_hears : about1.hears theMethod below0 = true := by decide +kernel
set_option maxRecDepth 65536 in
theorem w_ripe : about1.ripe theMethod args0 below0 = true := by decide +kernel
theorem w_running : about1.status = .running := rfl
set_option maxRecDepth 65536 in
theorem w_room : about1.hasRoom e0.platform room_1 = true :=
  launch0.hasRoom_least _ room_1 (by decide +kernel) (by decide +kernel) (by decide +kernel) (by decide +kernel) (by decide +kernel) (by decide +kernel)
theorem allAtoms_all (ts : List Jvm.Cond) (a : Array Jvm.Value) (st : Jvm.State) : (allAtoms ts).before a st = ts.all (fun c => c.before a st) := by
  induction ts with
  | nil => rfl
  | cons c t ih =>
    show (Jvm.Cond.and c (allAtoms t)).before a st = _
    rw [Jvm.Cond.before_and, ih, List.all_cons]
def words1 : List Jvm.Cond := Jvm.Cond.code x code maxLocals ret :: tables_1
/-- a 'code' word, met by the world's own term for the bytes: nothing is compared byte by byte -/
theorem code_word {y : MethodName} {bytes : ByteArray} {mx : Nat} {rt : Option FieldType} {a : Array Value} {s : State} {m : MethodId} {meth : Method} {c : Code} (h1 : s.methodNamed? y = some m) (h2 : s.vm.method? m = some meth) (h3 : meth.code = some c) (h4 : c.code = bytes)
    (h5 : (c.maxLocals == mx && c.exceptionTable.isEmpty && decide (c.maxStack ≤ mostOperands) && decide (meth.sig.returnType = rt) && !meth.locks && decide (parseMethodDescriptor y.desc = some meth.sig)) = true) : (Jvm.Cond.code y bytes mx rt).before a s = true := by
  simp only [Bool.and_eq_true, beq_iff_eq, Bool.not_eq_true', decide_eq_true_eq] at h5
  obtain ⟨⟨⟨⟨⟨g1, g2⟩, g3⟩, g4⟩, g5⟩, g6⟩ := h5
  simp [Cond.before, Cond.holds, Cond.value, h1, h2, h3, h4, g1, g2, g3, g4, g5, g6]
def isCode : Jvm.Cond → Bool
  | .code _ _ _ _ => true
  | _ => false
theorem all_split {L : List Jvm.Cond} {P : Jvm.Cond → Bool} (h1 : L.all (fun c => isCode c || P c) = true) (h2 : ∀ c ∈ L.filter isCode, P c = true) : L.all P = true := by
  refine List.all_eq_true.mpr fun c hc => ?_
  have h := List.all_eq_true.mp h1 c hc
  rcases Bool.eq_false_or_eq_true (isCode c) with hi | hi
  · exact h2 c (List.mem_filter.mpr ⟨hc, hi⟩)
  · simpa [hi] using h
set_option maxRecDepth 65536 in
theorem w_c0 : (Jvm.Cond.code x code maxLocals ret).before args0 about1 = true := code_word (m := ⟨1, 1⟩) (meth := k1m1) (c := k1c1) (by decide +kernel) rfl rfl rfl (by decide +kernel)
set_option maxRecDepth 65536 in
theorem w_c1 : (Jvm.Cond.code ({ cls := "com/example/medical_query_expansion/medicalqueryexpansion/method/Method", name := "allows", desc := "(D)Z" } : Jvm.MethodName) prog_48_method_5_code (2 : Nat) (Option.some Jvm.ClassFile.FieldType.boolean)).before args0 about1 = true := code_word (m := ⟨2, 1⟩) (meth := k2m1) (c := k2c1) (by decide +kernel) rfl rfl rfl (by decide +kernel)
def codes1 : List Jvm.Cond := [Jvm.Cond.code x code maxLocals ret, Jvm.Cond.code ({ cls := "com/example/medical_query_expansion/medicalqueryexpansion/method/Method", name := "allows", desc := "(D)Z" } : Jvm.MethodName) prog_48_method_5_code (2 : Nat) (Option.some Jvm.ClassFile.FieldType.boolean)]
set_option maxRecDepth 65536 in
theorem codes_eq : words1.filter isCode = codes1 := rfl
theorem w_codes : ∀ c ∈ words1.filter isCode, c.before args0 about1 = true := by
  rw [codes_eq]
  intro c hc
  simp only [codes1, List.mem_cons, List.not_mem_nil, or_false] at hc
  rcases hc with rfl | rfl
  · exact w_c0
  · exact w_c1
set_option maxRecDepth 65536 in
theorem w_t1 : words1.all (fun c => isCode c || c.before args0 about1) = true := by decide +kernel
theorem w_tables : (allAtoms (Jvm.Cond.code x code maxLocals ret :: tables_1)).before args0 about1 = true := by
  rw [allAtoms_all]
  show words1.all (fun c => c.before args0 about1) = true
  refine all_split ?_ w_codes
  rw [w_t1]
set_option maxRecDepth 65536 in
theorem w_case : (Jvm.Cond.and given_1 narrow_1).before args0 about1 = true := by decide +kernel
theorem w_applies : (headSpec (Jvm.Cond.code x code maxLocals ret :: tables_1) room_1).applies x e0.platform about1 = true :=
  (Spec.applies_iff w_frames).mpr ⟨w_running, w_runnable, w_alone, w_named, w_hears, w_ripe, w_room, w_tables⟩
theorem atStart : AtStart classFile x code maxLocals ret World_1 tables_1 room_1 Calls_1 rest_1 Pre_1 launch0 p0 e0 about1 theMethod args0 below0 :=
  ⟨lists_1, trivial, launch0.admits_env _ _ _, launch0.least_env, fairChoices_fair.cas, fairChoices_fair.clock, w_frames, w_args, w_heap, w_applies, trivial, trivial, w_case⟩
end start1
theorem witness_1 : WitnessClaimed_1 := ⟨start1.p0, start1.e0, start1.about1, start1.theMethod, start1.args0, start1.below0, start1.atStart⟩
end Jvm.Pilot.@@N@@
