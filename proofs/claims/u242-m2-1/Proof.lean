import JvmDerived
import JvmDerived.Pilot.@@N@@Statement
import JvmDerived.Pilot.@@N@@Code
set_option linter.unusedVariables false
set_option linter.unusedSimpArgs false
namespace Jvm.OwnGo
open Jvm Jvm.ClassFile Sem Op Lib Jvm.Free Jvm.Stand Jvm.LawKit Jvm.RoadKit
/-- the setting of one body's run -/
def Cx (p : Program) (l : Launch) (e : Env) (R : Room) (s : State) (m : MethodId) (meth : Method) (c : Code) (Z : State) (n0 : Nat) (y : MethodName) (code : ByteArray) (ml : Nat) (ret : Option FieldType) : Prop :=
  p.tables.exec = Jvm.exec ∧ Z.Warmed39 s.vm ∧ s.vm.findClass y.cls = some m.cls ∧ c.code = code ∧ c.maxLocals = ml ∧ meth.sig.returnType = ret ∧ meth.locks = false ∧ meth.name = y.name ∧ Old Z n0 s.heap
/-- from pc, with these locals, this stack and this heap, the body of y returns, Q holds of what it returns and leaves, and it has written in cells at or above n0 alone -/
def Go (l : Launch) (R : Room) (Z : State) (n0 : Nat) (y : MethodName) (code : ByteArray) (ml : Nat) (ret : Option FieldType) (Q : Option Value → Heap → Prop) (cells slots : Nat) (h : Heap) (pc : Nat) (Ls : Array Slot) (st : List Value) : Prop :=
  ∀ (p : Program) (e : Env) (s : State) (m : MethodId) (args : Array Value) (below : List Frame) (meth : Method) (c : Code) (T : State) (locs : List Loc),
    Cx p l e R s m meth c Z n0 y code ml ret → Stand p l e R s m args below meth c T locs cells slots → Fr n0 locs → T.heap = h →
    ∃ s₂ o, Steps p.tables e below (T.setTop (mkF m pc Ls st)) s₂ ∧ s₂.status = .running ∧ Ended s₂ below o ∧ ∃ v L, o = .returned v ∧ (Q v s₂.heap ∧ Fr n0 L) ∧ FrameEnd s o s₂ L R.cells R.slots
/-- what a body called with these arguments at the heap h does -/
def Con (l : Launch) (y : MethodName) (code : ByteArray) (ml : Nat) (ret : Option FieldType) (R : Room) (Z : State) (n0 : Nat) (as : Array Value) (h : Heap) (Q : Option Value → Heap → Prop) : Prop :=
  Old Z n0 h → ∀ ws, MetFree l y (head1 (Jvm.Cond.code y code ml ret :: ws) R) (fun a U => a = as ∧ Z.Warmed39 U.vm ∧ U.heap = h) (fun _ _ _ _ _ => True)
    (fun _ U o U' => ∃ v L, o = .returned v ∧ (Q v U'.heap ∧ Fr n0 L) ∧ FrameEnd U o U' L R.cells R.slots)
def Mi (Z : State) (C : String) (mr : Addr) : Prop := ∃ (c : ClassId) (k : Class), Z.vm.findClass C = some c ∧ Z.vm.classes[c]? = some k ∧ k.mirror = some mr
theorem Mi.at {Z s : State} {C : String} {mr : Addr} (M : Mi Z C mr) (hZ : Z.Warmed39 s.vm) : ∃ (c : ClassId) (k : Class), s.vm.findClass C = some c ∧ s.vm.classes[c]? = some k ∧ k.mirror = some mr := by
  obtain ⟨c, k, m1, m2, m3⟩ := M
  obtain ⟨k', q, ek⟩ := hZ.alike.2.2 _ _ m2
  exact ⟨c, k', by rw [hZ.alike.findClass]; exact m1, q, by rw [ek]; exact m3⟩
theorem own_sto {Z : State} {h : Heap} {a b : Addr} {kA : ClassId} {ty : FieldType} {z : Int32} {vs : List Value} {dv : Value} {C : String} (F : Arv Z h a kA ty z vs dv) (O : Ovr Z kA C) (I : Ins Z h b C true) : Sto Z h a (.ref b) := by
  obtain ⟨c, A, q, -⟩ := F; exact Sto.ofV A q O I
theorem own_fuq {Z : State} {h : Heap} {a : Addr} {O n d : String} {v v' : Value} (F : Fld Z h a O n d v) (G : Fld Z h a O n d v') : v = v' := by
  obtain ⟨c1, x1, k1, i1, f1, g1, g2, -, -, -, -, g7⟩ := F
  obtain ⟨c2, x2, k2, i2, f2, h1, h2, -, -, -, -, h7⟩ := G
  cases g1.symm.trans h1
  cases g2.symm.trans h2
  exact Option.some.inj (g7.symm.trans h7)
theorem own_fne {Z : State} {h : Heap} {a b : Addr} {O n d : String} {v v' : Value} (F : Fld Z h a O n d v) (G : Fld Z h b O n d v') (ne : v ≠ v') : a ≠ b := fun q => ne (own_fuq F (q ▸ G))
theorem own_same {Z : State} {h : Heap} {a c b1 b2 : Addr} {O n d : String} {k1 k2 : ClassId} {t1 t2 : FieldType} {z1 z2 : Int32} {v1 v2 : List Value} {d1 d2 : Value} (hab : a = c) (F1 : Fld Z h a O n d (.ref b1)) (F2 : Fld Z h c O n d (.ref b2)) (A1 : Arv Z h b1 k1 t1 z1 v1 d1) (A2 : Arv Z h b2 k2 t2 z2 v2 d2) :
    z1.toNatClampNeg = z2.toNatClampNeg ∧ ∀ j, j < z1.toNatClampNeg → v1.getD j d1 = v2.getD j d2 := by
  subst hab
  cases own_fuq F1 F2
  obtain ⟨c1, ⟨q1, -⟩, -, S1, -, H1, -⟩ := A1
  obtain ⟨c2, ⟨q2, -⟩, -, S2, -, H2, -⟩ := A2
  cases q1.symm.trans q2
  exact ⟨S1.symm.trans S2, fun j hj => Option.some.inj ((H1 j (S1 ▸ hj)).symm.trans (H2 j (S1 ▸ hj)))⟩
theorem own_nar (t : FieldType) {v : Value} (h : v.isRef = true) : narrow t v = v := by cases v <;> first | rfl | (cases t <;> rfl) | (simp [Value.isRef] at h)
theorem own_fits {t : FieldType} {v : Value} (ht : t.isReference = true) (h : v.isRef = true) : fits t v = true := by cases t <;> first | (cases ht; done) | (cases v <;> first | rfl | (simp [Value.isRef] at h))
theorem own_old {p : Program} {l : Launch} {e : Env} {R : Room} {s : State} {m : MethodId} {args : Array Value} {below : List Frame} {meth : Method} {c : Code} {T : State} {locs : List Loc} {cells slots n0 : Nat} {Z : State} {h : Heap} (O : Old Z n0 s.heap) (X : Stand p l e R s m args below meth c T locs cells slots) (N : Fr n0 locs) (eT : T.heap = h) : Old Z n0 h := by
  subst eT
  obtain ⟨-, g1, -, -, -, g2⟩ := X.same
  refine ⟨O.1, Nat.le_trans O.2.1 g1, fun a c ha => ?_⟩
  obtain ⟨c', q1, q2, q3, q4⟩ := g2 a c (O.2.2 a c ha)
  have hlt : a < n0 := O.1 ▸ (Array.getElem?_eq_some_iff.mp ha).1
  have e1 : c'.slots = c.slots := Array.ext_getElem? fun i => q4 i fun hm => absurd (N _ hm) (Nat.not_le.mpr hlt)
  have e2 : c' = c := by rw [q2, e1]
  rw [← e2]; exact q1
section Rules
variable {l : Launch} {R : Room} {Z : State} {n0 : Nat} {y : MethodName} {code : ByteArray} {ml : Nat} {ret : Option FieldType} {Q : Option Value → Heap → Prop} {cells slots : Nat} {h : Heap} {pc pc' : Nat} {Ls Ls' : Array Slot} {st st' rest : List Value} {a0 : Array Value}
theorem Con.of_go {as : Array Value} (hp : plainFor y = true) (k : Go l R Z n0 y code ml ret Q 0 0 h 0 Ls []) (he : ∀ m, entryFrame m as ml = mkF m 0 Ls [] := by intro m; first | (simp [entryFrame, mkF, argsToLocals, Value.category]; done) | rfl) : Con l y code ml ret R Z n0 as h Q := by
  intro hn ws
  refine MetFree.of_bodySF hp hisR ?_
  intro p e s m args below meth c s₁ Bd hml0 hP hK
  obtain ⟨rfl, hZ, hh⟩ := hP
  have e0 : s₁.heap = h := by rw [← hh, Bd.state]; rfl
  have X0 : Stand p l e R s m args below meth c s₁ [] 0 0 := Stand.of_body Bd
  obtain ⟨s₂, o, h1, h2, h3, h4⟩ := k p e s m args below meth c s₁ [] ⟨Bd.exec, hZ, findClass_of_methodNamed Bd.named, Bd.bytes, hml0, Bd.returns, Bd.notSynchronized, (name_of_methodNamed Bd.named Bd.method).1, by rw [hh]; exact hn⟩ X0 (Fr.nil n0) e0
  exact ⟨s₂, o, castTop (he m) h1, h2, h3, h4⟩
theorem Con.mono {as : Array Value} {Q' : Option Value → Heap → Prop} (k : Con l y code ml ret R Z n0 as h Q) (hq : ∀ v h', Q v h' → Q' v h') : Con l y code ml ret R Z n0 as h Q' := by
  intro hn ws
  refine (k hn ws).mono (fun _ _ q => q) (fun _ _ _ _ _ q => q) ?_
  rintro a U o U' hP ⟨v, L, e, ⟨q, N⟩, r⟩
  exact ⟨v, L, e, ⟨hq _ _ q, N⟩, r⟩
theorem Go.mono {Q' : Option Value → Heap → Prop} (k : Go l R Z n0 y code ml ret Q' cells slots h pc Ls st) (hq : ∀ v h', Q' v h' → Q v h') : Go l R Z n0 y code ml ret Q cells slots h pc Ls st := by
  intro p e s m args below meth c T locs C X N eT
  obtain ⟨s₂, o, h1, h2, h3, v, L, h4, ⟨h5, h6⟩, h7⟩ := k p e s m args below meth c T locs C X N eT
  exact ⟨s₂, o, h1, h2, h3, v, L, h4, ⟨hq _ _ h5, h6⟩, h7⟩
theorem Go.more {cells' slots' : Nat} (k : Go l R Z n0 y code ml ret Q cells' slots' h pc Ls st) (hc : cells ≤ cells') (hs : slots ≤ slots') : Go l R Z n0 y code ml ret Q cells slots h pc Ls st := by
  intro p e s m args below meth c T locs C X N eT
  exact k p e s m args below meth c T locs C (X.more hc hs) N eT
theorem Go.old (k : Old Z n0 h → Go l R Z n0 y code ml ret Q cells slots h pc Ls st) : Go l R Z n0 y code ml ret Q cells slots h pc Ls st := by
  intro p e s m args below meth c T locs C X N eT
  exact k (own_old C.2.2.2.2.2.2.2.2 X N eT) p e s m args below meth c T locs C X N eT
theorem Go.step (hst : ∀ {p : Program} {e : Env} {s : State} {m : MethodId} {args : Array Value} {below : List Frame} {meth : Method} {c : Code} {T : State} {locs : List Loc} {target : State},
      Cx p l e R s m meth c Z n0 y code ml ret → Stand p l e R s m args below meth c T locs cells slots → T.heap = h → Steps p.tables e below (T.setTop (mkF m pc' Ls' st')) target → Steps p.tables e below (T.setTop (mkF m pc Ls st)) target)
    (k : Go l R Z n0 y code ml ret Q cells slots h pc' Ls' st') : Go l R Z n0 y code ml ret Q cells slots h pc Ls st := by
  intro p e s m args below meth c T locs C X N eT
  obtain ⟨s₂, o, h1, h2⟩ := k p e s m args below meth c T locs C X N eT
  exact ⟨s₂, o, hst C X eT h1, h2⟩
theorem Go.law {cells' slots' : Nat} {P : Heap → Prop} (hst : ∀ {p : Program} {e : Env} {s : State} {m : MethodId} {args : Array Value} {below : List Frame} {meth : Method} {c : Code} {T : State} {locs : List Loc},
      Cx p l e R s m meth c Z n0 y code ml ret → Stand p l e R s m args below meth c T locs cells slots → Fr n0 locs → T.heap = h → n0 ≤ h.size →
      ∃ T' locs' h', Stand p l e R s m args below meth c T' locs' cells' slots' ∧ Fr n0 locs' ∧ T'.heap = h' ∧ P h' ∧ ∀ target, Steps p.tables e below (T'.setTop (mkF m pc' Ls' st')) target → Steps p.tables e below (T.setTop (mkF m pc Ls st)) target)
    (k : ∀ h', P h' → Go l R Z n0 y code ml ret Q cells' slots' h' pc' Ls' st') : Go l R Z n0 y code ml ret Q cells slots h pc Ls st := by
  intro p e s m args below meth c T locs C X N eT
  have hold : Old Z n0 h := own_old C.2.2.2.2.2.2.2.2 X N eT
  obtain ⟨T', locs', h', X', N', e', hP, st⟩ := hst C X N eT (hold.1 ▸ hold.2.1)
  obtain ⟨s₂, o, h1, h2⟩ := k h' hP p e s m args below meth c T' locs' C X' N' e'
  exact ⟨s₂, o, st _ h1, h2⟩
theorem Go.iloadN {k : Fin 4} {v : Int32} (hd : decode code pc = .ok (.iload_n k, 1)) (hl : Ls[k.val]? = some (.val (.int v))) (hp : pc + 1 = pc') (k : Go l R Z n0 y code ml ret Q cells slots h pc' Ls (.int v :: st)) : Go l R Z n0 y code ml ret Q cells slots h pc Ls st := Go.step (fun C X _ q => by subst hp; exact XS.iloadN X.here C.1 rfl (hb C.2.2.2.1 hd) hl q) k
theorem Go.iload {k : Nat} {v : Int32} (hd : decode code pc = .ok (.iload k, 2)) (hl : Ls[k]? = some (.val (.int v))) (hp : pc + 2 = pc') (k : Go l R Z n0 y code ml ret Q cells slots h pc' Ls (.int v :: st)) : Go l R Z n0 y code ml ret Q cells slots h pc Ls st := Go.step (fun C X _ q => by subst hp; exact XS.iload X.here C.1 rfl (hb C.2.2.2.1 hd) hl q) k
theorem Go.aloadN {k : Fin 4} {v : Value} (hd : decode code pc = .ok (.aload_n k, 1)) (hl : Ls[k.val]? = some (.val v)) (hv : v.isRef = true) (hp : pc + 1 = pc') (k : Go l R Z n0 y code ml ret Q cells slots h pc' Ls (v :: st)) : Go l R Z n0 y code ml ret Q cells slots h pc Ls st := Go.step (fun C X _ q => by subst hp; exact XS.aloadN X.here C.1 rfl (hb C.2.2.2.1 hd) hl hv q) k
theorem Go.aload {k : Nat} {v : Value} (hd : decode code pc = .ok (.aload k, 2)) (hl : Ls[k]? = some (.val v)) (hv : v.isRef = true) (hp : pc + 2 = pc') (k : Go l R Z n0 y code ml ret Q cells slots h pc' Ls (v :: st)) : Go l R Z n0 y code ml ret Q cells slots h pc Ls st := Go.step (fun C X _ q => by subst hp; exact XS.aload X.here C.1 rfl (hb C.2.2.2.1 hd) hl hv q) k
theorem Go.istoreN {k : Fin 4} {v : Int32} (hd : decode code pc = .ok (.istore_n k, 1)) (hl : storeLocals Ls k.val (.int v) = some Ls') (hp : pc + 1 = pc') (k : Go l R Z n0 y code ml ret Q cells slots h pc' Ls' st) : Go l R Z n0 y code ml ret Q cells slots h pc Ls (.int v :: st) := Go.step (fun C X _ q => by subst hp; exact XS.istoreN X.here C.1 rfl (hb C.2.2.2.1 hd) rfl hl q) k
theorem Go.istore {k : Nat} {v : Int32} (hd : decode code pc = .ok (.istore k, 2)) (hl : storeLocals Ls k (.int v) = some Ls') (hp : pc + 2 = pc') (k : Go l R Z n0 y code ml ret Q cells slots h pc' Ls' st) : Go l R Z n0 y code ml ret Q cells slots h pc Ls (.int v :: st) := Go.step (fun C X _ q => by subst hp; exact XS.istore X.here C.1 rfl (hb C.2.2.2.1 hd) rfl hl q) k
theorem Go.astoreN {k : Fin 4} {v : Value} (hd : decode code pc = .ok (.astore_n k, 1)) (hv : v.isRef = true) (hl : storeLocals Ls k.val v = some Ls') (hp : pc + 1 = pc') (k : Go l R Z n0 y code ml ret Q cells slots h pc' Ls' st) : Go l R Z n0 y code ml ret Q cells slots h pc Ls (v :: st) := Go.step (fun C X _ q => by subst hp; exact XS.astoreN X.here C.1 rfl (hb C.2.2.2.1 hd) rfl hv hl q) k
theorem Go.astore {k : Nat} {v : Value} (hd : decode code pc = .ok (.astore k, 2)) (hv : v.isRef = true) (hl : storeLocals Ls k v = some Ls') (hp : pc + 2 = pc') (k : Go l R Z n0 y code ml ret Q cells slots h pc' Ls' st) : Go l R Z n0 y code ml ret Q cells slots h pc Ls (v :: st) := Go.step (fun C X _ q => by subst hp; exact XS.astore X.here C.1 rfl (hb C.2.2.2.1 hd) rfl hv hl q) k
theorem Go.iconst {i : Int} {v : Int32} (hd : decode code pc = .ok (.iconst i, 1)) (hv : Int32.ofInt i = v) (hp : pc + 1 = pc') (k : Go l R Z n0 y code ml ret Q cells slots h pc' Ls (.int v :: st)) : Go l R Z n0 y code ml ret Q cells slots h pc Ls st := Go.step (fun C X _ q => by subst hp; exact (by subst hv; exact XS.iconst X.here C.1 rfl (hb C.2.2.2.1 hd) q)) k
theorem Go.bipush {i : Int} {v : Int32} (hd : decode code pc = .ok (.bipush i, 2)) (hv : (Int8.ofInt i).toInt32 = v) (hp : pc + 2 = pc') (k : Go l R Z n0 y code ml ret Q cells slots h pc' Ls (.int v :: st)) : Go l R Z n0 y code ml ret Q cells slots h pc Ls st := Go.step (fun C X _ q => by subst hp; exact (by subst hv; exact XS.bipush X.here C.1 rfl (hb C.2.2.2.1 hd) q)) k
theorem Go.sipush {i : Int} {v : Int32} (hd : decode code pc = .ok (.sipush i, 3)) (hv : (Int16.ofInt i).toInt32 = v) (hp : pc + 3 = pc') (k : Go l R Z n0 y code ml ret Q cells slots h pc' Ls (.int v :: st)) : Go l R Z n0 y code ml ret Q cells slots h pc Ls st := Go.step (fun C X _ q => by subst hp; exact (by subst hv; exact XS.sipush X.here C.1 rfl (hb C.2.2.2.1 hd) q)) k
theorem Go.aconstNull (hd : decode code pc = .ok (.aconst_null, 1)) (hp : pc + 1 = pc') (k : Go l R Z n0 y code ml ret Q cells slots h pc' Ls (.null :: st)) : Go l R Z n0 y code ml ret Q cells slots h pc Ls st := Go.step (fun C X _ q => by subst hp; exact XS.aconstNull X.here C.1 rfl (hb C.2.2.2.1 hd) q) k
theorem Go.iadd {a b : Int32} (hd : decode code pc = .ok (.iadd, 1)) (hp : pc + 1 = pc') (k : Go l R Z n0 y code ml ret Q cells slots h pc' Ls (.int (a + b) :: st)) : Go l R Z n0 y code ml ret Q cells slots h pc Ls (.int b :: .int a :: st) := Go.step (fun C X _ q => by subst hp; exact XS.iadd X.here C.1 rfl (hb C.2.2.2.1 hd) rfl q) k
theorem Go.isub {a b : Int32} (hd : decode code pc = .ok (.isub, 1)) (hp : pc + 1 = pc') (k : Go l R Z n0 y code ml ret Q cells slots h pc' Ls (.int (a - b) :: st)) : Go l R Z n0 y code ml ret Q cells slots h pc Ls (.int b :: .int a :: st) := Go.step (fun C X _ q => by subst hp; exact XS.isub X.here C.1 rfl (hb C.2.2.2.1 hd) rfl q) k
theorem Go.iand {a b : Int32} (hd : decode code pc = .ok (.iand, 1)) (hp : pc + 1 = pc') (k : Go l R Z n0 y code ml ret Q cells slots h pc' Ls (.int (a &&& b) :: st)) : Go l R Z n0 y code ml ret Q cells slots h pc Ls (.int b :: .int a :: st) := Go.step (fun C X _ q => by subst hp; exact XS.iand X.here C.1 rfl (hb C.2.2.2.1 hd) rfl q) k
theorem Go.ishr {a b : Int32} (hd : decode code pc = .ok (.ishr, 1)) (hp : pc + 1 = pc') (k : Go l R Z n0 y code ml ret Q cells slots h pc' Ls (.int (a >>> (b &&& 31)) :: st)) : Go l R Z n0 y code ml ret Q cells slots h pc Ls (.int b :: .int a :: st) := Go.step (fun C X _ q => by subst hp; exact XT.ishr X.here C.1 rfl (hb C.2.2.2.1 hd) rfl q) k
theorem Go.iushr {a b : Int32} (hd : decode code pc = .ok (.iushr, 1)) (hp : pc + 1 = pc') (k : Go l R Z n0 y code ml ret Q cells slots h pc' Ls (.int (XT.ushr a b) :: st)) : Go l R Z n0 y code ml ret Q cells slots h pc Ls (.int b :: .int a :: st) := Go.step (fun C X _ q => by subst hp; exact XT.iushr X.here C.1 rfl (hb C.2.2.2.1 hd) rfl q) k
theorem Go.i2b {a : Int32} (hd : decode code pc = .ok (.i2b, 1)) (hp : pc + 1 = pc') (k : Go l R Z n0 y code ml ret Q cells slots h pc' Ls (.int a.toInt8.toInt32 :: st)) : Go l R Z n0 y code ml ret Q cells slots h pc Ls (.int a :: st) := Go.step (fun C X _ q => by subst hp; exact XT.i2b X.here C.1 rfl (hb C.2.2.2.1 hd) rfl q) k
theorem Go.i2c {a : Int32} (hd : decode code pc = .ok (.i2c, 1)) (hp : pc + 1 = pc') (k : Go l R Z n0 y code ml ret Q cells slots h pc' Ls (.int a.toUInt32.toUInt16.toUInt32.toInt32 :: st)) : Go l R Z n0 y code ml ret Q cells slots h pc Ls (.int a :: st) := Go.step (fun C X _ q => by subst hp; exact XT.i2c X.here C.1 rfl (hb C.2.2.2.1 hd) rfl q) k
theorem Go.iinc {k : Nat} {i : Int} {v w : Int32} (hd : decode code pc = .ok (.iinc k i, 3)) (hv : Int32.ofInt i = w) (hl : Ls[k]? = some (.val (.int v))) (hl' : storeLocals Ls k (.int (v + w)) = some Ls') (hp : pc + 3 = pc') (k : Go l R Z n0 y code ml ret Q cells slots h pc' Ls' st) : Go l R Z n0 y code ml ret Q cells slots h pc Ls st := Go.step (fun C X _ q => by subst hp; exact XT.iincV X.here C.1 rfl w (hb C.2.2.2.1 hd) hv hl hl' q) k
theorem Go.dup {v : Value} (hd : decode code pc = .ok (.dup, 1)) (hc : v.category = 1) (hp : pc + 1 = pc') (k : Go l R Z n0 y code ml ret Q cells slots h pc' Ls (v :: v :: st)) : Go l R Z n0 y code ml ret Q cells slots h pc Ls (v :: st) := Go.step (fun C X _ q => by subst hp; exact XS.dup X.here C.1 rfl (hb C.2.2.2.1 hd) rfl hc q) k
theorem Go.pop {v : Value} (hd : decode code pc = .ok (.pop, 1)) (hc : v.category = 1) (hp : pc + 1 = pc') (k : Go l R Z n0 y code ml ret Q cells slots h pc' Ls st) : Go l R Z n0 y code ml ret Q cells slots h pc Ls (v :: st) := Go.step (fun C X _ q => by subst hp; exact XT.pop X.here C.1 rfl (hb C.2.2.2.1 hd) rfl hc q) k
theorem Go.goto {o : Int} (hd : decode code pc = .ok (.goto o, 3)) (ho : 0 ≤ (pc : Int) + o := by decide) (hp : ((pc : Int) + o).toNat = pc' := by decide) (k : Go l R Z n0 y code ml ret Q cells slots h pc' Ls st) : Go l R Z n0 y code ml ret Q cells slots h pc Ls st := Go.step (fun C X _ q => XS.goto X.here C.1 rfl rfl (hb C.2.2.2.1 hd) ho hp q) k
theorem Go.ifYes {o : Int} {cd : ClassFile.Cond} {a : Int32} (hd : decode code pc = .ok (.ifCond cd o, 3)) (hc : ifCond.holds cd a = true) (ho : 0 ≤ (pc : Int) + o := by decide) (hp : ((pc : Int) + o).toNat = pc' := by decide) (k : Go l R Z n0 y code ml ret Q cells slots h pc' Ls st) : Go l R Z n0 y code ml ret Q cells slots h pc Ls (.int a :: st) := Go.step (fun C X _ q => XS.ifYes X.here C.1 rfl rfl (hb C.2.2.2.1 hd) rfl hc ho hp q) k
theorem Go.icmpYes {o : Int} {cd : ClassFile.Cond} {a b : Int32} (hd : decode code pc = .ok (.if_icmp cd o, 3)) (hc : if_icmp.holds cd a b = true) (ho : 0 ≤ (pc : Int) + o := by decide) (hp : ((pc : Int) + o).toNat = pc' := by decide) (k : Go l R Z n0 y code ml ret Q cells slots h pc' Ls st) : Go l R Z n0 y code ml ret Q cells slots h pc Ls (.int b :: .int a :: st) := Go.step (fun C X _ q => XS.icmpYes X.here C.1 rfl rfl (hb C.2.2.2.1 hd) rfl hc ho hp q) k
theorem Go.ifNo {o : Int} {cd : ClassFile.Cond} {a : Int32} (hd : decode code pc = .ok (.ifCond cd o, 3)) (hc : ifCond.holds cd a = false) (hp : pc + 3 = pc') (k : Go l R Z n0 y code ml ret Q cells slots h pc' Ls st) : Go l R Z n0 y code ml ret Q cells slots h pc Ls (.int a :: st) := Go.step (fun C X _ q => by subst hp; exact XS.ifNo X.here C.1 rfl (hb C.2.2.2.1 hd) rfl hc q) k
theorem Go.icmpNo {o : Int} {cd : ClassFile.Cond} {a b : Int32} (hd : decode code pc = .ok (.if_icmp cd o, 3)) (hc : if_icmp.holds cd a b = false) (hp : pc + 3 = pc') (k : Go l R Z n0 y code ml ret Q cells slots h pc' Ls st) : Go l R Z n0 y code ml ret Q cells slots h pc Ls (.int b :: .int a :: st) := Go.step (fun C X _ q => by subst hp; exact XS.icmpNo X.here C.1 rfl (hb C.2.2.2.1 hd) rfl hc q) k
theorem Go.getstatic {host : String} {R0 O n d : String} {i : Nat} (w : (Jvm.Cond.fieldLink y.cls i R0 n d).before a0 Z = true ∨ (Jvm.Cond.fieldLinkNest y.cls i R0 n d host).before a0 Z = true) (via : Via Z R0 O n d) {v : Value} (F : Sta Z h O n d v) (hd : decode code pc = .ok (.getstatic i, 3)) (hp : pc + 3 = pc') (k : Go l R Z n0 y code ml ret Q cells slots h pc' Ls (v :: st)) : Go l R Z n0 y code ml ret Q cells slots h pc Ls st := by
  refine Go.law (P := fun h' => h' = h) (fun C X N eT _ => ?_) (fun h' e => e ▸ k)
  subst hp
  obtain ⟨T', X', e', st⟩ := getS2 X C.1 C.2.1 C.2.2.1 w via eT F (g := mkF _ pc Ls st) rfl (hb C.2.2.2.1 hd)
  exact ⟨T', _, h, X', N, e', rfl, st⟩
theorem Go.getfield {host : String} {R0 O n d : String} {i : Nat} (w : (Jvm.Cond.fieldLink y.cls i R0 n d).before a0 Z = true ∨ (Jvm.Cond.fieldLinkNest y.cls i R0 n d host).before a0 Z = true) (via : Via Z R0 O n d) {v : Value} {a : Addr} (F : Fld Z h a O n d v) (hd : decode code pc = .ok (.getfield i, 3)) (hp : pc + 3 = pc') (k : Go l R Z n0 y code ml ret Q cells slots h pc' Ls (v :: st)) : Go l R Z n0 y code ml ret Q cells slots h pc Ls (.ref a :: st) := by
  refine Go.law (P := fun h' => h' = h) (fun C X N eT _ => ?_) (fun h' e => e ▸ k)
  subst hp
  obtain ⟨T', X', e', st⟩ := getF X C.1 C.2.1 C.2.2.1 w via eT F (g := mkF _ pc Ls (.ref a :: st)) rfl rfl (hb C.2.2.2.1 hd)
  exact ⟨T', _, h, X', N, e', rfl, st⟩
theorem Go.initO {i : Nat} {a : Addr} (w1 : (Jvm.Cond.methodLink y.cls i Lib.objectInit).before a0 Z = true) (w2 : (Jvm.Cond.instanceMethod Lib.objectInit).before a0 Z = true) (w3 : (Jvm.Cond.code Lib.objectInit ⟨#[0xb1]⟩ 1 none).before a0 Z = true) (hd : decode code pc = .ok (.invokespecial i, 3)) (hz : Ls.size = ml) (hf : 1 ≤ R.frames := by decide) (hl : (st.map fun v => v.category).sum + 12 ≤ R.locals := by decide) (hp : pc + 3 = pc') (k : Go l R Z n0 y code ml ret Q cells slots h pc' Ls st) : Go l R Z n0 y code ml ret Q cells slots h pc Ls (.ref a :: st) := by
  refine Go.law (P := fun h' => h' = h) (fun C X N eT _ => ?_) (fun h' e => e ▸ k)
  subst hp
  obtain ⟨T', X', e', st⟩ := initO X C.1 C.2.1 C.2.2.1 w1 w2 w3 eT (g := mkF _ pc Ls (.ref a :: st)) rfl (by rw [C.2.2.2.2.1]; exact hz) rfl (hb C.2.2.2.1 hd) hf (W := (st.map fun v => v.category).sum) (by simp) hl
  exact ⟨T', _, h, X', N, e', rfl, st⟩
theorem Go.putfield {host : String} {R0 O n d : String} {i : Nat} (w : (Jvm.Cond.fieldLink y.cls i R0 n d).before a0 Z = true ∨ (Jvm.Cond.fieldLinkNest y.cls i R0 n d host).before a0 Z = true) {ty : FieldType} {C' : String} {kk : Nat} (via : Via Z R0 O n d) {v old : Value} {a : Addr} (F : Fld Z h a O n d old) (E : Exa Z h a C') (L : (Jvm.Cond.lays C' O n d).before a0 Z = true ∨ ((Jvm.Cond.laysFinal C' O n d).before a0 Z = true ∧ y.cls = O ∧ y.name = "<init>")) (wi : (Jvm.Cond.instantiable C' kk).before a0 Z = true) (hty : parseFieldDescriptor d = some ty) (hn : narrow ty v = v) (hf : fits ty v = true) (ha : n0 ≤ a) (hd : decode code pc = .ok (.putfield i, 3)) (hp : pc + 3 = pc') (k : ∀ h', Wr h h' a (Jvm.RoadKit.slotOf Z O n d) v → Go l R Z n0 y code ml ret Q cells slots h' pc' Ls st) : Go l R Z n0 y code ml ret Q cells slots h pc Ls (v :: .ref a :: st) := by
  refine Go.law (P := fun h' => Wr h h' a (Jvm.RoadKit.slotOf Z O n d) v) (fun C X N eT hn => ?_) (k)
  subst hp
  obtain ⟨T', h', X', e', W, st⟩ := putF X C.1 C.2.1 C.2.2.1 w via eT F E (L.imp id fun q => ⟨q.1, q.2.1, C.2.2.2.2.2.2.2.1.trans q.2.2⟩) wi hty ‹narrow ty v = v› hf (g := mkF _ pc Ls (v :: .ref a :: st)) rfl rfl (hb C.2.2.2.1 hd)
  exact ⟨T', _, h', X', Fr.snoc X' N ha, e', W, st⟩
theorem Go.putfieldN {R0 O n d : String} {i : Nat} (w : (Jvm.Cond.fieldLink y.cls i R0 n d).before a0 Z = true) {ty : FieldType} {C' : String} {kk : Nat} (via : Via Z R0 O n d) {v v' : Int32} {old : Value} {a : Addr} (F : Fld Z h a O n d old) (E : Exa Z h a C') (L : (Jvm.Cond.lays C' O n d).before a0 Z = true ∨ ((Jvm.Cond.laysFinal C' O n d).before a0 Z = true ∧ y.cls = O ∧ y.name = "<init>")) (wi : (Jvm.Cond.instantiable C' kk).before a0 Z = true) (hty : parseFieldDescriptor d = some ty) (hn : narrow ty (.int v) = .int v') (hf : fits ty (.int v') = true) (ha : n0 ≤ a) (hd : decode code pc = .ok (.putfield i, 3)) (hp : pc + 3 = pc') (k : ∀ h', Wr h h' a (Jvm.RoadKit.slotOf Z O n d) (.int v') → Go l R Z n0 y code ml ret Q cells slots h' pc' Ls st) : Go l R Z n0 y code ml ret Q cells slots h pc Ls (.int v :: .ref a :: st) := by
  refine Go.law (P := fun h' => Wr h h' a (Jvm.RoadKit.slotOf Z O n d) (.int v')) (fun C X N eT hn => ?_) (k)
  subst hp
  obtain ⟨T', h', X', e', W, st⟩ := putFN X C.1 C.2.1 C.2.2.1 w via eT F E (L.imp id fun q => ⟨q.1, q.2.1, C.2.2.2.2.2.2.2.1.trans q.2.2⟩) wi hty ‹narrow ty (.int v) = .int v'› hf (g := mkF _ pc Ls (.int v :: .ref a :: st)) rfl rfl (hb C.2.2.2.1 hd)
  exact ⟨T', _, h', X', Fr.snoc X' N ha, e', W, st⟩
theorem Go.new {C' : String} {i n cells' slots' : Nat} (w : (Jvm.Cond.classLink y.cls i C').before a0 Z = true) (wi : (Jvm.Cond.instantiable C' n).before a0 Z = true) (wz : (Jvm.Cond.initialized C').before a0 Z = true) (hd : decode code pc = .ok (.new i, 3)) (hc' : cells + 1 = cells') (hs' : slots + n = slots') (hc : cells' ≤ R.cells := by decide) (hl : slots' ≤ R.slots := by decide) (hp : pc + 3 = pc') (k : ∀ (h' : Heap) (b : Addr), b = h.size → Ext h h' → n0 ≤ b → Exa Z h' b C' → (∀ {O nm d : String} {ty : FieldType}, Laid Z a0 C' O nm d → parseFieldDescriptor d = some ty → Fld Z h' b O nm d (defaultValue ty)) → Go l R Z n0 y code ml ret Q cells' slots' h' pc' Ls (.ref b :: st)) : Go l R Z n0 y code ml ret Q cells slots h pc Ls st := by
  refine Go.law (P := fun h' => (Ext h h' ∧ n0 ≤ h.size ∧ Exa Z h' h.size C' ∧ ∀ {O nm d : String} {ty : FieldType}, Laid Z a0 C' O nm d → parseFieldDescriptor d = some ty → Fld Z h' h.size O nm d (defaultValue ty))) (fun C X N eT hn => ?_) (fun h' q => k h' h.size rfl q.1 q.2.1 q.2.2.1 q.2.2.2)
  subst hp
  subst hc' hs'
  obtain ⟨T', h', X', e', E, A, D, -, st⟩ := newO X C.1 C.2.1 C.2.2.1 w wi wz eT (g := mkF _ pc Ls st) rfl (hb C.2.2.2.1 hd) hc hl
  exact ⟨T', _, h', X', N, e', ⟨E, hn, A, D⟩, st⟩
theorem Go.newarray {aty : ArrayType} {ad : String} {n : Int32} {cap cells' slots' : Nat} (w : (Jvm.Cond.arrayClass (newarray.typeOf aty)).before a0 Z = true) (hd : decode code pc = .ok (.newarray aty, 2)) (had : "[" ++ (newarray.typeOf aty).toString = ad) (hn' : ¬ n < 0) (hcap : n.toNatClampNeg ≤ cap) (hc' : cells + 1 = cells') (hs' : slots + cap = slots') (hb8 : cap * 8 ≤ 536870912 := by decide) (hc : cells' ≤ R.cells := by decide) (hl : slots' ≤ R.slots := by decide) (hp : pc + 2 = pc') (k : ∀ (h' : Heap) (b : Addr), b = h.size → Ext h h' → n0 ≤ b → ∀ cA, Arv Z h' b cA (newarray.typeOf aty) n [] (defaultValue (newarray.typeOf aty)) → Exa Z h' b ad → Go l R Z n0 y code ml ret Q cells' slots' h' pc' Ls (.ref b :: st)) : Go l R Z n0 y code ml ret Q cells slots h pc Ls (.int n :: st) := by
  refine Go.law (P := fun h' => (Ext h h' ∧ n0 ≤ h.size ∧ ∃ cA, Arv Z h' h.size cA (newarray.typeOf aty) n [] (defaultValue (newarray.typeOf aty)) ∧ Exa Z h' h.size ad)) (fun C X N eT hn => ?_) (fun h' q => q.2.2.elim fun cA u => k h' h.size rfl q.1 q.2.1 cA u.1 u.2)
  subst hp
  subst hc' hs'
  obtain ⟨T', h', cA, X', e', E, A, A2, st⟩ := newPE X C.1 C.2.1 w eT (g := mkF _ pc Ls (.int n :: st)) rfl (hb C.2.2.2.1 hd) rfl hn' hcap hb8 hc hl had
  exact ⟨T', _, h', X', N, e', ⟨E, hn, cA, Arv.new A hn', A2⟩, st⟩
theorem Go.arraycopy {i : Nat} {a b : Addr} {kA kB : ClassId} {ty ty' : FieldType} {z z' sp dp nn : Int32} {vs vd us vd' : List Value} {dv dd : Value} (w1 : (Jvm.Cond.methodLink y.cls i Jvm.Stand.acN).before a0 Z = true) (w2 : (Jvm.Cond.native Jvm.Stand.acN).before a0 Z = true) (w3 : (Jvm.Cond.static Jvm.Stand.acN).before a0 Z = true) (w4 : (Jvm.Cond.initialized "java/lang/System").before a0 Z = true)
    (A : Arv Z h a kA ty z vs dv) (B : Arv Z h b kB ty' z' vd dd) (hty : (ty = ty' ∧ refKind ty = false) ∨ (refKind ty = true ∧ refKind ty' = true ∧ StoL Z h b us)) (h1 : ¬ sp < 0) (h2 : ¬ dp < 0) (h3 : ¬ nn < 0) (h4 : sp.toNatClampNeg + nn.toNatClampNeg ≤ z.toNatClampNeg) (h5 : dp.toNatClampNeg + nn.toNatClampNeg ≤ z'.toNatClampNeg)
    (hus : us = (List.range nn.toNatClampNeg).map fun i => vs.getD (sp.toNatClampNeg + i) dv) (hl : dp.toNatClampNeg + nn.toNatClampNeg ≤ vd.length) (hvd : vd.take dp.toNatClampNeg ++ us ++ vd.drop (dp.toNatClampNeg + nn.toNatClampNeg) = vd') (ge : n0 ≤ b) (hd : decode code pc = .ok (.invokestatic i, 3)) (hz : Ls.size = ml) (hf : 1 ≤ R.frames := by decide) (hlo : (st.map fun v => v.category).sum + (nativeFrameWords "java/lang/System" "arraycopy" 5 + 11) ≤ R.locals := by decide) (hp : pc + 3 = pc')
    (k : ∀ h', Keep h h' [b] → Arv Z h' b kB ty' z' vd' dd → Go l R Z n0 y code ml ret Q cells slots h' pc' Ls st) : Go l R Z n0 y code ml ret Q cells slots h pc Ls (.int nn :: .int dp :: .ref b :: .int sp :: .ref a :: st) := by
  refine Go.law (P := fun h' => Keep h h' [b] ∧ Arv Z h' b kB ty' z' vd' dd) (fun C X N eT hn => ?_) (fun h' q => k h' q.1 q.2)
  subst hp hvd
  obtain ⟨T', h', L, X', e', N', K, V, st⟩ := cpA X C.1 C.2.1 C.2.2.1 w1 w2 w3 w4 eT A B hty h1 h2 h3 h4 h5 hus hl N ge (g := mkF _ pc Ls (.int nn :: .int dp :: .ref b :: .int sp :: .ref a :: st)) rfl (by rw [C.2.2.2.2.1]; exact hz) rfl (hb C.2.2.2.1 hd) hf (W := (st.map fun v => v.category).sum) (by simp) hlo
  exact ⟨T', L, h', X', N', e', ⟨K, V⟩, st⟩
theorem Go.castore {a : Addr} {kA : ClassId} {z j : Int32} {vs : List Value} {dv : Value} {v : Int32} {i : Nat} (F : Arv Z h a kA .char z vs dv) (ha : n0 ≤ a) (hd : decode code pc = .ok (.castore, 1)) (hj : ¬ j < 0) (hjz : j < z) (hi : j.toNatClampNeg = i) (hil : i < vs.length) (hp : pc + 1 = pc') (k : ∀ h', Wr h h' a i (.int (nar .char v)) → Arv Z h' a kA .char z (vs.set i (.int (nar .char v))) dv → Go l R Z n0 y code ml ret Q cells slots h' pc' Ls st) : Go l R Z n0 y code ml ret Q cells slots h pc Ls (.int v :: .int j :: .ref a :: st) := by
  refine Go.law (P := fun h' => (Wr h h' a i (.int (nar .char v)) ∧ Arv Z h' a kA .char z (vs.set i (.int (nar .char v))) dv)) (fun C X N eT hn => ?_) (fun h' q => k h' q.1 q.2)
  subst hp
  obtain ⟨cl, A, q1, S, q3, H, G⟩ := F
  obtain ⟨T', h', X', e', W, st⟩ := stC X C.1 C.2.1 eT A (j := j) (inb_of S ⟨hj, hjz⟩) (g := mkF _ pc Ls (.int v :: .int j :: .ref a :: st)) rfl rfl (hb C.2.2.2.1 hd)
  have V := Arv.set A q1 S q3 H G (fits_nar_char v) W i hi hil
  subst hi
  exact ⟨T', _, h', X', Fr.snoc X' N ha, e', ⟨W, V⟩, st⟩
theorem Go.bastore {a : Addr} {kA : ClassId} {z j : Int32} {vs : List Value} {dv : Value} {v : Int32} {i : Nat} (F : Arv Z h a kA .byte z vs dv) (ha : n0 ≤ a) (hd : decode code pc = .ok (.bastore, 1)) (hj : ¬ j < 0) (hjz : j < z) (hi : j.toNatClampNeg = i) (hil : i < vs.length) (hp : pc + 1 = pc') (k : ∀ h', Wr h h' a i (.int v.toInt8.toInt32) → Arv Z h' a kA .byte z (vs.set i (.int v.toInt8.toInt32)) dv → Go l R Z n0 y code ml ret Q cells slots h' pc' Ls st) : Go l R Z n0 y code ml ret Q cells slots h pc Ls (.int v :: .int j :: .ref a :: st) := by
  refine Go.law (P := fun h' => (Wr h h' a i (.int v.toInt8.toInt32) ∧ Arv Z h' a kA .byte z (vs.set i (.int v.toInt8.toInt32)) dv)) (fun C X N eT hn => ?_) (fun h' q => k h' q.1 q.2)
  subst hp
  obtain ⟨cl, A, q1, S, q3, H, G⟩ := F
  obtain ⟨T', h', X', e', W, st⟩ := stB X C.1 C.2.1 eT A (j := j) (inb_of S ⟨hj, hjz⟩) (g := mkF _ pc Ls (.int v :: .int j :: .ref a :: st)) rfl rfl (hb C.2.2.2.1 hd)
  have V := Arv.set A q1 S q3 H G (fits_nar_byte v) W i hi hil
  subst hi
  exact ⟨T', _, h', X', Fr.snoc X' N ha, e', ⟨W, V⟩, st⟩
theorem Go.caload {a : Addr} {kA : ClassId} {z j : Int32} {vs : List Value} {dv : Value} {v : Int32} (F : Arv Z h a kA .char z vs dv) (hd : decode code pc = .ok (.caload, 1)) (hj : ¬ j < 0) (hjz : j < z) (hv : vs.getD j.toNatClampNeg dv = .int v) (hp : pc + 1 = pc') (k : Go l R Z n0 y code ml ret Q cells slots h pc' Ls (.int v :: st)) : Go l R Z n0 y code ml ret Q cells slots h pc Ls (.int j :: .ref a :: st) := by
  refine Go.step (fun C X eT q => ?_) k
  subst hp
  obtain ⟨cl, A, q1, S, q3, H, G⟩ := F
  have hin := inb_of S ⟨hj, hjz⟩
  exact X.caload C.1 (j := j) (v := .int v) (by rw [eT]; exact A.1) (State.isArrayOf_alike C.2.1.alike A.2.1) A.2.2 hin (Has.at H hin hv) (g := mkF _ pc Ls (.int j :: .ref a :: st)) rfl rfl (hb C.2.2.2.1 hd) _ q
theorem Go.baload {a : Addr} {kA : ClassId} {z j : Int32} {vs : List Value} {dv : Value} {v : Int32} (F : Arv Z h a kA .byte z vs dv) (hd : decode code pc = .ok (.baload, 1)) (hj : ¬ j < 0) (hjz : j < z) (hv : vs.getD j.toNatClampNeg dv = .int v) (hp : pc + 1 = pc') (k : Go l R Z n0 y code ml ret Q cells slots h pc' Ls (.int v :: st)) : Go l R Z n0 y code ml ret Q cells slots h pc Ls (.int j :: .ref a :: st) := by
  refine Go.step (fun C X eT q => ?_) k
  subst hp
  obtain ⟨cl, A, q1, S, q3, H, G⟩ := F
  have hin := inb_of S ⟨hj, hjz⟩
  exact X.baloadBytes C.1 (j := j) (v := .int v) (by rw [eT]; exact A.1) (State.isArrayOf_alike C.2.1.alike A.2.1) A.2.2 hin (Has.at H hin hv) (g := mkF _ pc Ls (.int j :: .ref a :: st)) rfl rfl (hb C.2.2.2.1 hd) _ q
theorem Go.arraylength {a : Addr} {kA : ClassId} {ty : FieldType} {z : Int32} {vs : List Value} {dv : Value} (F : Arv Z h a kA ty z vs dv) (hd : decode code pc = .ok (.arraylength, 1)) (hp : pc + 1 = pc') (k : Go l R Z n0 y code ml ret Q cells slots h pc' Ls (.int z :: st)) : Go l R Z n0 y code ml ret Q cells slots h pc Ls (.ref a :: st) := by
  refine Go.step (fun C X eT q => ?_) k
  subst hp
  obtain ⟨cl, A, q1, S, q3, H, G⟩ := F
  refine X.arraylength C.1 (by rw [eT]; exact A.1) (State.isArrayOf_alike C.2.1.alike A.2.1) (g := mkF _ pc Ls (.ref a :: st)) rfl rfl (hb C.2.2.2.1 hd) _ ?_
  rw [len_of S q3]
  exact q
theorem Go.retV (hr : ret = none) (hd : decode code pc = .ok (.return_, 1)) (hq : Q none h) (hc : cells ≤ R.cells := by decide) (hs : slots ≤ R.slots := by decide) : Go l R Z n0 y code ml ret Q cells slots h pc Ls [] := by
  intro p e s m args below meth c T locs C X N eT
  obtain ⟨fs, hr', hrun, hended, hW, hsame⟩ := X.leave (v := none) (fun _ => rfl) C.2.2.2.2.2.2.1
  refine ⟨_, _, X.returnOut C.1 (C.2.2.2.2.2.1.trans hr) (hb C.2.2.2.1 hd) hr', hrun, hended, _, locs, rfl, ⟨?_, N⟩, ⟨_, rfl⟩, hW, hsame.mono hc hs⟩
  show Q _ T.heap
  rw [eT]; exact hq
theorem Go.retN {t : FieldType} {v : Int32} (hr : ret = some t) (ht : t = .boolean ∨ t = .byte ∨ t = .char ∨ t = .short) (hd : decode code pc = .ok (.ireturn, 1)) (hq : Q (some (.int (nar t v))) h) (hc : cells ≤ R.cells := by decide) (hs : slots ≤ R.slots := by decide) : Go l R Z n0 y code ml ret Q cells slots h pc Ls (.int v :: st) := by
  intro p e s m args below meth c T locs C X N eT
  obtain ⟨fs, hr', hrun, hended, hW, hsame⟩ := X.leave (v := some (.int (nar t v))) (fun q => by rw [C.2.2.2.2.2.1, hr] at q; cases q) C.2.2.2.2.2.2.1
  refine ⟨_, _, Jvm.RoadKit.retN X C.1 (C.2.2.2.2.2.1.trans hr) ht (hb C.2.2.2.1 hd) hr', hrun, hended, _, locs, rfl, ⟨?_, N⟩, ⟨_, rfl⟩, hW, hsame.mono hc hs⟩
  show Q _ T.heap
  rw [eT]; exact hq
theorem Go.retI {v : Int32} (hr : ret = some .int) (hd : decode code pc = .ok (.ireturn, 1)) (hq : Q (some (.int v)) h) (hc : cells ≤ R.cells := by decide) (hs : slots ≤ R.slots := by decide) : Go l R Z n0 y code ml ret Q cells slots h pc Ls (.int v :: st) := by
  intro p e s m args below meth c T locs C X N eT
  obtain ⟨fs, hr', hrun, hended, hW, hsame⟩ := X.leave (v := some (.int v)) (fun q => by rw [C.2.2.2.2.2.1, hr] at q; cases q) C.2.2.2.2.2.2.1
  refine ⟨_, _, retOut X C.1 (C.2.2.2.2.2.1.trans hr) rfl (Or.inl ⟨rfl, Or.inl rfl, _, rfl⟩) (hb C.2.2.2.1 hd) hr', hrun, hended, _, locs, rfl, ⟨?_, N⟩, ⟨_, rfl⟩, hW, hsame.mono hc hs⟩
  show Q _ T.heap
  rw [eT]; exact hq
theorem Go.retR {t : FieldType} {v : Value} (hr : ret = some t) (ht : t.isReference = true) (hv : v.isRef = true) (hn : narrow t v = v) (hd : decode code pc = .ok (.areturn, 1)) (hq : Q (some v) h) (hc : cells ≤ R.cells := by decide) (hs : slots ≤ R.slots := by decide) : Go l R Z n0 y code ml ret Q cells slots h pc Ls (v :: st) := by
  intro p e s m args below meth c T locs C X N eT
  obtain ⟨fs, hr', hrun, hended, hW, hsame⟩ := X.leave (v := some v) (fun q => by rw [C.2.2.2.2.2.1, hr] at q; cases q) C.2.2.2.2.2.2.1
  refine ⟨_, _, retOut X C.1 (C.2.2.2.2.2.1.trans hr) hn (Or.inr (Or.inr (Or.inr (Or.inr ⟨rfl, ht, hv⟩)))) (hb C.2.2.2.1 hd) hr', hrun, hended, _, locs, rfl, ⟨?_, N⟩, ⟨_, rfl⟩, hW, hsame.mono hc hs⟩
  show Q _ T.heap
  rw [eT]; exact hq
theorem Go.callS {z : MethodName} {zc : ByteArray} {zm : Nat} {zr : Option FieldType} {rm : Room} {Q' : Option Value → Heap → Prop} {cells' slots' i : Nat} (argsL rest : List Value) {ps : List FieldType} {r : Option FieldType} (w1 : (Jvm.Cond.methodLink y.cls i z).before a0 Z = true) (w2 : (Jvm.Cond.static z).before a0 Z = true) (wi : (Jvm.Cond.initialized z.cls).before a0 Z = true) (wc : (Jvm.Cond.code z zc zm zr).before a0 Z = true) (hy : z.cls ≠ "java/lang/invoke/MethodHandle" ∧ z.cls ≠ "java/lang/invoke/VarHandle") (hK : Con l z zc zm zr rm Z n0 argsL.toArray h Q') (hpd : parseMethodDescriptor z.desc = some ⟨ps, r⟩) (hd : decode code pc = .ok (.invokestatic i, 3)) (hp : pc + 3 = pc')
    (k : ∀ v h', Q' v h' → Go l R Z n0 y code ml ret Q cells' slots' h' pc' Ls (v.toList ++ rest)) (hlen : argsL.length = ps.length := by rfl) (hst : st = argsL.reverse ++ rest := by rfl) (hz : Ls.size = ml := by rfl) (hc' : cells + rm.cells = cells' := by rfl) (hs' : slots + rm.slots = slots' := by rfl) (hfr : rm.frames + 1 ≤ R.frames := by exact Nat.le_of_ble_eq_true rfl) (hlo : (rest.map fun v => v.category).sum + (zm + 11) + rm.locals ≤ R.locals := by exact Nat.le_of_ble_eq_true rfl) (hc : cells' ≤ R.cells := by exact Nat.le_of_ble_eq_true rfl) (hs : slots' ≤ R.slots := by exact Nat.le_of_ble_eq_true rfl) : Go l R Z n0 y code ml ret Q cells slots h pc Ls st := by
  intro p e s m args below meth c T locs C X N eT
  subst hc' hs' hp hst
  have hold : Old Z n0 h := own_old C.2.2.2.2.2.2.2.2 X N eT
  obtain ⟨v, _, ⟨T', L', k', n'⟩, -, X', ⟨Lc, hQ, l', y', z'⟩, st⟩ := Jvm.LawKit.callS X C.1 (y := z) C.2.2.1 (mvT C.2.1 w1) (mvT C.2.1 w2) (mvT C.2.1 wi) (mvT C.2.1 wc) hy (backOf (W := (rest.map fun v => v.category).sum) (Q := fun v h L => Q' v h ∧ Fr n0 L) (hK hold []) C.2.1 wc wi hfr hlo) (g := mkF m pc Ls (argsL.reverse ++ rest)) rfl (by rw [C.2.2.2.2.1]; exact hz) (argsL := argsL) (rest := rest) (lenOf hpd hlen) rfl (by simp) (hb C.2.2.2.1 hd) (fun _ _ => ⟨rfl, eT, hc, hs⟩)
  dsimp only [Pt.U, Pt.locs, Pt.cells, Pt.slots] at X' l' y' z' st hQ
  subst l' y' z'
  obtain ⟨s₂, o, h1, h2⟩ := k v _ hQ.1 p e s m args below meth c T' _ C X' (Fr.app N hQ.2) rfl
  exact ⟨s₂, o, st _ h1, h2⟩
theorem Go.callC {z : MethodName} {zc : ByteArray} {zm : Nat} {zr : Option FieldType} {rm : Room} {Q' : Option Value → Heap → Prop} {cells' slots' i : Nat} (argsL rest : List Value) {ps : List FieldType} {r : Option FieldType} {a : Addr} (hzi : z.name = "<init>") (hzr : zr = none) (w1 : (Jvm.Cond.methodLink y.cls i z).before a0 Z = true) (w2 : (Jvm.Cond.instanceMethod z).before a0 Z = true) (wi : (Jvm.Cond.initialized z.cls).before a0 Z = true) (wc : (Jvm.Cond.code z zc zm zr).before a0 Z = true) (hy : z.cls ≠ "java/lang/invoke/MethodHandle" ∧ z.cls ≠ "java/lang/invoke/VarHandle") (hK : Con l z zc zm zr rm Z n0 (.ref a :: argsL).toArray h Q') (hpd : parseMethodDescriptor z.desc = some ⟨ps, r⟩) (hd : decode code pc = .ok (.invokespecial i, 3)) (hp : pc + 3 = pc')
    (k : ∀ v h', Q' v h' → Go l R Z n0 y code ml ret Q cells' slots' h' pc' Ls (v.toList ++ rest)) (hlen : argsL.length = ps.length := by rfl) (hst : st = argsL.reverse ++ .ref a :: rest := by rfl) (hz : Ls.size = ml := by rfl) (hc' : cells + rm.cells = cells' := by rfl) (hs' : slots + rm.slots = slots' := by rfl) (hfr : rm.frames + 1 ≤ R.frames := by exact Nat.le_of_ble_eq_true rfl) (hlo : (rest.map fun v => v.category).sum + (zm + 11) + rm.locals ≤ R.locals := by exact Nat.le_of_ble_eq_true rfl) (hc : cells' ≤ R.cells := by exact Nat.le_of_ble_eq_true rfl) (hs : slots' ≤ R.slots := by exact Nat.le_of_ble_eq_true rfl) : Go l R Z n0 y code ml ret Q cells slots h pc Ls st := by
  intro p e s m args below meth c T locs C X N eT
  subst hc' hs' hp hst
  have hold : Old Z n0 h := own_old C.2.2.2.2.2.2.2.2 X N eT
  subst hzr
  obtain ⟨v, _, ⟨T', L', k', n'⟩, -, X', ⟨Lc, hQ, l', y', z'⟩, st⟩ := X.specialBack C.1 (y := z) hzi C.2.2.1 (mvT C.2.1 w1) (mvT C.2.1 w2) (mvT C.2.1 wc) hy (backOf (W := (rest.map fun v => v.category).sum) (Q := fun v h L => Q' v h ∧ Fr n0 L) (hK hold []) C.2.1 wc wi hfr hlo) (g := mkF m pc Ls (argsL.reverse ++ .ref a :: rest)) rfl (by rw [C.2.2.2.2.1]; exact hz) (Steps.refl _) (a := a) (argsL := argsL) (rest := rest) (lenOf hpd hlen) rfl (by simp) (hb C.2.2.2.1 hd) (fun _ _ => ⟨rfl, eT, hc, hs⟩)
  dsimp only [Pt.U, Pt.locs, Pt.cells, Pt.slots] at X' l' y' z' st hQ
  subst l' y' z'
  obtain ⟨s₂, o, h1, h2⟩ := k v _ hQ.1 p e s m args below meth c T' _ C X' (Fr.app N hQ.2) rfl
  exact ⟨s₂, o, st.trans h1, h2⟩
theorem Go.callV {z : MethodName} {zc : ByteArray} {zm : Nat} {zr : Option FieldType} {rm : Room} {Q' : Option Value → Heap → Prop} {cells' slots' i : Nat} (argsL rest : List Value) {ps : List FieldType} {r : Option FieldType} {a : Addr} {x' : MethodName} {C' : String} (E : Exa Z h a C') (w1 : (Jvm.Cond.methodLink y.cls i x').before a0 Z = true) (w2 : (Jvm.Cond.declares x').before a0 Z = true) (nf : ∀ s' : State, Z.Warmed39 s'.vm → NotFace s' x') (w3 : (Jvm.Cond.selects C' x' z).before a0 Z = true) (w4 : (Jvm.Cond.instanceMethod z).before a0 Z = true) (wi : (Jvm.Cond.initialized z.cls).before a0 Z = true) (wc : (Jvm.Cond.code z zc zm zr).before a0 Z = true) (hy : x'.cls ≠ "java/lang/invoke/MethodHandle" ∧ x'.cls ≠ "java/lang/invoke/VarHandle") (hK : Con l z zc zm zr rm Z n0 (.ref a :: argsL).toArray h Q') (hpd : parseMethodDescriptor x'.desc = some ⟨ps, r⟩) (hd : decode code pc = .ok (.invokevirtual i, 3)) (hp : pc + 3 = pc')
    (k : ∀ v h', Q' v h' → Go l R Z n0 y code ml ret Q cells' slots' h' pc' Ls (v.toList ++ rest)) (hlen : argsL.length = ps.length := by rfl) (hst : st = argsL.reverse ++ .ref a :: rest := by rfl) (hz : Ls.size = ml := by rfl) (hc' : cells + rm.cells = cells' := by rfl) (hs' : slots + rm.slots = slots' := by rfl) (hfr : rm.frames + 1 ≤ R.frames := by exact Nat.le_of_ble_eq_true rfl) (hlo : (rest.map fun v => v.category).sum + (zm + 11) + rm.locals ≤ R.locals := by exact Nat.le_of_ble_eq_true rfl) (hc : cells' ≤ R.cells := by exact Nat.le_of_ble_eq_true rfl) (hs : slots' ≤ R.slots := by exact Nat.le_of_ble_eq_true rfl) : Go l R Z n0 y code ml ret Q cells slots h pc Ls st := by
  intro p e s m args below meth c T locs C X N eT
  subst hc' hs' hp hst
  have hold : Old Z n0 h := own_old C.2.2.2.2.2.2.2.2 X N eT
  obtain ⟨cq, kq, qa, qb, qc⟩ := isOf C.2.1 eT E
  obtain ⟨v, _, ⟨T', L', k', n'⟩, -, X', ⟨Lc, hQ, l', y', z'⟩, st⟩ := X.virtualBack C.1 (y := x') (z := z) C.2.2.1 (mvT C.2.1 w1) (mvT C.2.1 w2) (nf s C.2.1) (mvT C.2.1 w3) (mvT C.2.1 w4) hy (backOf (W := (rest.map fun v => v.category).sum) (Q := fun v h L => Q' v h ∧ Fr n0 L) (hK hold []) C.2.1 wc wi hfr hlo) qa qc (g := mkF m pc Ls (argsL.reverse ++ .ref a :: rest)) rfl (by rw [C.2.2.2.2.1]; exact hz) (Steps.refl _) (argsL := argsL) (rest := rest) (lenOf hpd hlen) rfl (by simp) (hb C.2.2.2.1 hd) (fun _ _ => ⟨rfl, eT, hc, hs⟩)
  dsimp only [Pt.U, Pt.locs, Pt.cells, Pt.slots] at X' l' y' z' st hQ
  subst l' y' z'
  obtain ⟨s₂, o, h1, h2⟩ := k v _ hQ.1 p e s m args below meth c T' _ C X' (Fr.app N hQ.2) rfl
  exact ⟨s₂, o, st.trans h1, h2⟩
end Rules
end Jvm.OwnGo
namespace Jvm.OwnGo
open Jvm Jvm.ClassFile Sem Op Lib Jvm.Free Jvm.Stand Jvm.LawKit Jvm.RoadKit
/-- the intern table: the start's, and pairs whose texts are among LL's, each found at LL's address -/
def IB3 (Z : State) (vm : Vm) (LL : List (String × Addr × String × Nat)) : Prop := ∃ more : Array (Array UInt16 × Addr), vm.interned = Z.vm.interned ++ more ∧ ∀ q ∈ more, ∃ x ∈ LL, utf16ToString? q.1 = some x.1 ∧ vm.interned.find? (fun p => p.1 == q.1) = some (q.1, x.2.1)
/-- .. and each of LL's entries is booked -/
def IB4 (Z : State) (vm : Vm) (LL : List (String × Addr × String × Nat)) : Prop := IB3 Z vm LL ∧ ∀ x ∈ LL, Lit (Z.setVm vm) x.2.2.1 x.2.2.2 x.2.1
theorem IB4.start {Z : State} : IB4 Z Z.vm [] := ⟨⟨#[], by simp, fun q hq => by simp at hq⟩, fun x hx => by simp at hx⟩
theorem IB3.eq {Z : State} {vm vm1 : Vm} {LL : List (String × Addr × String × Nat)} (I : IB3 Z vm LL) (h : vm1.interned = vm.interned) : IB3 Z vm1 LL := by
  obtain ⟨more, e, hm⟩ := I
  exact ⟨more, h.trans e, by rw [h]; exact hm⟩
theorem own_stays {Z s : State} {vm vm1 : Vm} {LL : List (String × Addr × String × Nat)} (I : ∀ x ∈ LL, Lit (Z.setVm vm) x.2.2.1 x.2.2.2 x.2.1) (hW : (s.setVm vm).Warmed39 vm1) : ∀ x ∈ LL, Lit (Z.setVm vm1) x.2.2.1 x.2.2.2 x.2.1 := fun x hx => Lit.stays (s := s) (I x hx) hW
theorem IB4.warm {Z s : State} {vm vm1 : Vm} {LL : List (String × Addr × String × Nat)} (I : IB4 Z vm LL) (hW : (s.setVm vm).WarmedH vm1) : IB4 Z vm1 LL := ⟨I.1.eq hW.interned_eq, own_stays I.2 hW.wide⟩
theorem IB3.more {Z : State} {vm : Vm} {LL : List (String × Addr × String × Nat)} {x : String × Addr × String × Nat} (I : IB3 Z vm LL) : IB3 Z vm (x :: LL) := by
  obtain ⟨more, e, hm⟩ := I
  refine ⟨more, e, fun q hq => ?_⟩
  obtain ⟨z, hz, h1, h2⟩ := hm q hq
  exact ⟨z, List.mem_cons_of_mem _ hz, h1, h2⟩
theorem IB3.step {Z : State} {vm0 vm1 : Vm} {LL : List (String × Addr × String × Nat)} {text : String} {us : Array UInt16} {a : Addr} {r : String × Nat} (I : IB3 Z vm0 LL) (hint : vm1.interned = vm0.interned ∨ ∃ (u : Array UInt16) (a' : Addr), utf16ToString? u = some text ∧ vm1.interned = vm0.interned.push (u, a'))
    (hf : vm1.interned.find? (fun p => p.1 == us) = some (us, a)) (hu : ∀ u : Array UInt16, utf16ToString? u = some text → u = us) : IB3 Z vm1 ((text, a, r) :: LL) := by
  rcases hint with q | ⟨u, a', hu', q⟩
  · exact (I.eq q).more
  · obtain ⟨more, e, hm⟩ := I
    refine ⟨more.push (u, a'), by rw [q, e, Array.append_push], fun x hx => ?_⟩
    rcases Array.mem_push.mp hx with hx | rfl
    · obtain ⟨z, hz, h1, h2⟩ := hm x hx
      refine ⟨z, List.mem_cons_of_mem _ hz, h1, ?_⟩
      rw [q, Array.find?_push, h2]; rfl
    · cases hu u hu'
      exact ⟨(text, a, r), List.mem_cons_self .., hu', hf⟩
theorem own_back {Z : State} {vm0 : Vm} {LL : List (String × Addr × String × Nat)} {text : String} {us : Array UInt16} {a : Addr} (I : IB3 Z vm0 LL) (ht : utf16ToString? us = some text) (hf : vm0.interned.find? (fun p => p.1 == us) = some (us, a)) :
    Z.vm.interned.find? (fun p => p.1 == us) = some (us, a) ∨ ∃ x ∈ LL, x.1 = text ∧ x.2.1 = a := by
  obtain ⟨more, e, hm⟩ := I
  have hf' := hf
  rw [e, Array.find?_append] at hf'
  cases hs : Z.vm.interned.find? (fun p => p.1 == us) with
  | some pr => left; rw [hs] at hf'; simpa using hf'
  | none =>
    right
    rw [hs, Option.none_or] at hf'
    obtain ⟨x, hx, h1, h2⟩ := hm _ (Array.mem_of_find?_eq_some hf')
    rw [hf] at h2
    exact ⟨x, hx, (Option.some.inj (ht.symm.trans h1)).symm, (Prod.mk.inj (Option.some.inj h2)).2.symm⟩
/-- the assumed word goes along: what this walk has loaded since is known -/
theorem own_held {Z s : State} {vm0 : Vm} {a0 : Array Value} {LL : List (String × Addr × String × Nat)} {own text : String} {index : Nat} (hW : Z.Warmed39 vm0) (w : (Cond.stringLink own index text).before a0 Z = true) (I : IB3 Z vm0 LL)
    (hL : ∀ x ∈ LL, x.1 = text → ∀ u : Array UInt16, utf16ToString? u = some text → SlOf (s.setVm vm0) x.2.1 u) (hkeep : ∀ (b : Addr) (cl : Cell), Z.heap[b]? = some cl → s.heap[b]? = some cl) (hH : ConstHeldL Z own index) : ConstHeldL (s.setVm vm0) own index := by
  intro c k' cf i us a hc' hk' hcf' hp hu hor
  have hc : Z.vm.findClass own = some c := by rw [← hW.alike.findClass]; exact hc'
  obtain ⟨k, cf0, i0, us0, hk, hcf, hp0, hu0, hnm, htext, -⟩ := Cond.stringLink_spec hc w
  obtain ⟨k2, hk2, hke, -, ee, -⟩ := hW.2.2.2 c k hk
  cases (show vm0.classes[c]? = some k' from hk').symm.trans hk2
  have hcfk : k'.cf = k.cf := by rw [hke]
  cases (hcfk ▸ hcf').symm.trans hcf
  cases hp.symm.trans hp0
  cases hu.symm.trans hu0
  have mv1 : SlOf Z a us → SlOf (s.setVm vm0) a us := fun q => q.moved (W := s.setVm vm0) hW.alike hkeep
  have byFind : k.resolved[index]? = some none → vm0.interned.find? (fun p => p.1 == us) = some (us, a) → SlOf (s.setVm vm0) a us := fun h0 hf => by
    rcases own_back I htext hf with q | ⟨x, hx, e1, e2⟩
    · exact mv1 (hH c k cf i us a hc hk hcf hp hu (Or.inr ⟨h0, q⟩))
    · rw [← e2]; exact hL x hx e1 us htext
  rcases ee index with e0 | ⟨hop, r, e1, hr | ⟨a3, t, si, us3, rfl, -, q3, q4, q5⟩⟩
  · rcases hor with h0 | ⟨h0, hf⟩
    · exact mv1 (hH c k cf i us a hc hk hcf hp hu (Or.inl (e0 ▸ h0)))
    · exact byFind (e0 ▸ h0) hf
  · exfalso
    cases r <;> simp [State.rightAt, hk, hcf, hnm] at hr
  · rw [hcf] at q3 q4
    obtain rfl : si = i := by simpa using q3.symm.trans hp
    obtain rfl : us3 = us := by simpa [ConstantPool.utf8?, hu] using q4.symm
    rcases hor with h0 | ⟨h0, -⟩
    · obtain rfl : a3 = a := by simpa using e1.symm.trans h0
      exact byFind hop q5
    · exact absurd (h0.symm.trans e1) (by simp)
/-- a String's facts, said as the library's bundle -/
theorem own_sl {Z : State} {h : Heap} {a b : Addr} {kb : ClassId} {z : Int32} {vs : List Value} {us : Array UInt16} {text : String} {a0 : Array Value} (x : Exa Z h a "java/lang/String") (fc : Fld Z h a "java/lang/String" "coder" "B" (.int 0)) (fv : Fld Z h a "java/lang/String" "value" "[B" (.ref b)) (v : Arv Z h b kb .byte z vs (.int 0)) (xb : Exa Z h b "[B")
    (wi : (Cond.instantiable "java/lang/String" 4).before a0 Z = true) (ht : (∀ c ∈ text.toList, c.toNat < 256) ∧ text.toList.map (fun c => Value.int (Jvm.Lit.byteI c.toNat.toUInt16)) = vs) (hl : z.toNatClampNeg = vs.length) (hu : utf16ToString? us = some text) : SlOf ({ Z with heap := h } : State) a us := by
  obtain ⟨cE, kE, x1, x2, x3, x4, x5⟩ := x
  obtain ⟨c1, cf1, kf1, i1, f1, g1, g2, g3, g4, g5, g6, g7⟩ := fc
  obtain ⟨c2, cf2, kf2, i2, f2, v1, v2, v3, v4, v5, v6, v7⟩ := fv
  cases x1.symm.trans g1
  cases x1.symm.trans v1
  obtain ⟨cb, ⟨b1, b2, b3⟩, b4, b5, b6, b7, b8⟩ := v
  obtain ⟨cb', kb', y1, y2, y3, y4, y5⟩ := xb
  cases b1.symm.trans y1
  obtain ⟨cI, kI, hfI, hkI, hkindI, -⟩ := Cond.instantiable_spec wi
  cases x2.symm.trans hfI
  cases x3.symm.trans hkI
  have eu : vs = us.toList.map fun u => Value.int (Jvm.Lit.byteI u) := by rw [← ht.2, Jvm.ClassFile.units_of_text hu ht.1, List.map_map]; rfl
  have hlat := Jvm.ClassFile.lat_of_text hu ht.1
  have hsz : cb.slots.size = us.size := by rw [b5, hl, eu]; simp
  have hslots : cb.slots = stringBytes us := by
    rw [SBG.stringBytes_lat hlat]
    apply Array.ext
    · rw [hsz, Array.size_map]
    · intro j h1 h2
      have hj : j < us.size := by omega
      have e := b7 j h1
      rw [Array.getElem?_eq_getElem h1] at e
      rw [Option.some.inj e, Array.getElem_map, eu]
      simp [byteValue, Jvm.Lit.byteI, hj]
  have hne : a ≠ b := fun q => by
    subst q
    cases x1.symm.trans b1
    obtain ⟨-, k, hk, cm, hkind⟩ := b2
    cases x3.symm.trans hk
    rw [hkindI] at hkind; cases hkind
  refine ⟨(a, _, f2, f1, b, cb, us.size), cE.cls, rfl, ⟨⟨x1, g4, g5, ⟨cf2, kf2, i2, v2, v6⟩, ⟨cf1, kf1, i1, g2, g6⟩, v3, g3, v7, g7, b1, b2, b3, hsz, ?_, hne, ?_⟩, x2, rfl⟩, ⟨kE, x3, hkindI, x5 hkindI⟩, y2, hslots⟩
  · have := z.toInt_lt
    have e1 := hsz.symm.trans b5
    have e2 : z.toNatClampNeg = z.toInt.toNat := rfl
    show us.size < 2147483648
    omega
  · intro j hj
    rw [SBG.getD_of (b7 j hj)]
    exact b8 j hj
def GoS (l : Launch) (R : Room) (Z : State) (n0 : Nat) (y : MethodName) (code : ByteArray) (ml : Nat) (ret : Option FieldType) (Q : Option Value → Heap → List (String × Addr × String × Nat) → Prop) (h0 : Heap) (LL : List (String × Addr × String × Nat)) (cells slots : Nat) (h : Heap) (pc : Nat) (Ls : Array Slot) (st : List Value) : Prop :=
  ∀ (p : Program) (e : Env) (s : State) (vm0 : Vm) (k0 : Nat) (m : MethodId) (args : Array Value) (below : List Frame) (meth : Method) (c : Code) (T : State) (locs : List Loc),
    Cx p l e R (s.setVm vm0) m meth c Z n0 y code ml ret → s.heap = h0 → Stand p l e R (s.setVm vm0) m args below meth c T locs cells slots → s.Since vm0 k0 → k0 ≤ h.size → Fr n0 locs → T.heap = h → IB4 Z vm0 LL →
    ∃ s₂ o, Steps p.tables e below (T.setTop (mkF m pc Ls st)) s₂ ∧ s₂.status = .running ∧ Ended s₂ below o ∧ ∃ v L LL', o = .returned v ∧ (Q v s₂.heap LL' ∧ IB4 Z s₂.vm LL' ∧ Fr n0 L) ∧ ReturnedEndW s o s₂ L R.cells R.slots
def ConS (l : Launch) (y : MethodName) (code : ByteArray) (ml : Nat) (ret : Option FieldType) (R : Room) (Z : State) (n0 : Nat) (as : Array Value) (h : Heap) (LL : List (String × Addr × String × Nat)) (Q : Option Value → Heap → List (String × Addr × String × Nat) → Prop) : Prop :=
  Old Z n0 h → ∀ ws, MetFree l y (head1 (Jvm.Cond.code y code ml ret :: ws) R) (fun a U => a = as ∧ Z.Warmed39 U.vm ∧ U.heap = h ∧ IB4 Z U.vm LL) (fun _ _ _ _ _ => True)
    (fun _ U o U' => ∃ v L LL', o = .returned v ∧ (Q v U'.heap LL' ∧ IB4 Z U'.vm LL' ∧ Fr n0 L) ∧ ReturnedEndW U o U' L R.cells R.slots)
section RulesS
variable {l : Launch} {R : Room} {Z : State} {n0 : Nat} {y : MethodName} {code : ByteArray} {ml : Nat} {ret : Option FieldType} {Q : Option Value → Heap → List (String × Addr × String × Nat) → Prop} {h0 : Heap} {LL : List (String × Addr × String × Nat)} {cells slots : Nat} {h : Heap} {pc pc' : Nat} {Ls Ls' : Array Slot} {st st' rest : List Value} {a0 : Array Value}
theorem Cx.re {p : Program} {e : Env} {s : State} {vm0 vm1 : Vm} {m : MethodId} {meth : Method} {c : Code} (C : Cx p l e R (s.setVm vm0) m meth c Z n0 y code ml ret) (hW : (s.setVm vm0).Warmed39 vm1) : Cx p l e R (s.setVm vm1) m meth c Z n0 y code ml ret :=
  ⟨C.1, State.Warmed39.trans (t := s.setVm vm0) C.2.1 hW, by show vm1.findClass y.cls = _; rw [hW.alike.findClass]; exact C.2.2.1, C.2.2.2⟩
theorem ConS.of_go {as : Array Value} (hp : plainFor y = true) (k : GoS l R Z n0 y code ml ret Q h LL 0 0 h 0 Ls []) (he : ∀ m, entryFrame m as ml = mkF m 0 Ls [] := by intro m; first | (simp [entryFrame, mkF, argsToLocals, Value.category]; done) | rfl) : ConS l y code ml ret R Z n0 as h LL Q := by
  intro hn ws
  refine MetFree.of_bodySF hp hisR ?_
  intro p e s m args below meth c s₁ Bd hml0 hP hK
  obtain ⟨rfl, hZ, hh, hI⟩ := hP
  have e0 : s₁.heap = h := by rw [← hh, Bd.state]; rfl
  have X0 : Stand p l e R s m args below meth c s₁ [] 0 0 := Stand.of_body Bd
  obtain ⟨s₂, o, h1, h2, h3, h4⟩ := k p e s s.vm h.size m args below meth c s₁ [] ⟨Bd.exec, hZ, findClass_of_methodNamed Bd.named, Bd.bytes, hml0, Bd.returns, Bd.notSynchronized, (name_of_methodNamed Bd.named Bd.method).1, by show Old Z n0 s.heap; rw [hh]; exact hn⟩ hh X0 ((State.WarmedH.refl s).since _) (Nat.le_refl _) (Fr.nil n0) e0 hI
  exact ⟨s₂, o, castTop (he m) h1, h2, h3, h4⟩
theorem Con.cold {Q' : Option Value → Heap → Prop} {as : Array Value} (k : Con l y code ml ret R Z n0 as h Q') : ConS l y code ml ret R Z n0 as h LL (fun v h' LL' => Q' v h' ∧ LL' = LL) := by
  intro hn ws
  refine (k hn ws).mono (fun _ _ q => ⟨q.1, q.2.1, q.2.2.1⟩) (fun _ _ _ _ _ q => q) ?_
  rintro a U o U' hP ⟨v, L, e, ⟨q, N⟩, r⟩
  exact ⟨v, L, LL, e, ⟨⟨q, rfl⟩, hP.2.2.2.warm (s := U) r.2.1, N⟩, ReturnedEndW.of_narrow r.1 r.2.1 r.2.2⟩
theorem ConS.mono {as : Array Value} {Q' : Option Value → Heap → List (String × Addr × String × Nat) → Prop} (k : ConS l y code ml ret R Z n0 as h LL Q) (hq : ∀ v h' L', Q v h' L' → Q' v h' L') : ConS l y code ml ret R Z n0 as h LL Q' := by
  intro hn ws
  refine (k hn ws).mono (fun _ _ q => q) (fun _ _ _ _ _ q => q) ?_
  rintro a U o U' hP ⟨v, L, L2, e, ⟨q, N⟩, r⟩
  exact ⟨v, L, L2, e, ⟨hq _ _ _ q, N⟩, r⟩
theorem GoS.old (k : Old Z n0 h → GoS l R Z n0 y code ml ret Q h0 LL cells slots h pc Ls st) : GoS l R Z n0 y code ml ret Q h0 LL cells slots h pc Ls st := by
  intro p e s vm0 k0 m args below meth c T locs C e0 X hS hk N eT I
  exact k (own_old (s := s.setVm vm0) C.2.2.2.2.2.2.2.2 X N eT) p e s vm0 k0 m args below meth c T locs C e0 X hS hk N eT I
theorem GoS.step (hst : ∀ {p : Program} {e : Env} {s : State} {m : MethodId} {args : Array Value} {below : List Frame} {meth : Method} {c : Code} {T : State} {locs : List Loc} {target : State},
      Cx p l e R s m meth c Z n0 y code ml ret → Stand p l e R s m args below meth c T locs cells slots → T.heap = h → Steps p.tables e below (T.setTop (mkF m pc' Ls' st')) target → Steps p.tables e below (T.setTop (mkF m pc Ls st)) target)
    (k : GoS l R Z n0 y code ml ret Q h0 LL cells slots h pc' Ls' st') : GoS l R Z n0 y code ml ret Q h0 LL cells slots h pc Ls st := by
  intro p e s vm0 k0 m args below meth c T locs C e0 X hS hk N eT I
  obtain ⟨s₂, o, h1, h2⟩ := k p e s vm0 k0 m args below meth c T locs C e0 X hS hk N eT I
  exact ⟨s₂, o, hst C X eT h1, h2⟩
theorem GoS.law {cells' slots' : Nat} {P : Heap → Prop} (hst : ∀ {p : Program} {e : Env} {s : State} {m : MethodId} {args : Array Value} {below : List Frame} {meth : Method} {c : Code} {T : State} {locs : List Loc},
      Cx p l e R s m meth c Z n0 y code ml ret → Stand p l e R s m args below meth c T locs cells slots → Fr n0 locs → T.heap = h → n0 ≤ h.size →
      ∃ T' locs' h', Stand p l e R s m args below meth c T' locs' cells' slots' ∧ Fr n0 locs' ∧ T'.heap = h' ∧ P h' ∧ ∀ target, Steps p.tables e below (T'.setTop (mkF m pc' Ls' st')) target → Steps p.tables e below (T.setTop (mkF m pc Ls st)) target)
    (k : ∀ h', P h' → GoS l R Z n0 y code ml ret Q h0 LL cells' slots' h' pc' Ls' st') (hgr : ∀ h', P h' → h.size ≤ h'.size) : GoS l R Z n0 y code ml ret Q h0 LL cells slots h pc Ls st := by
  intro p e s vm0 k0 m args below meth c T locs C e0 X hS hk N eT I
  have hold : Old Z n0 h := own_old (s := s.setVm vm0) C.2.2.2.2.2.2.2.2 X N eT
  obtain ⟨T', locs', h', X', N', e', hP, st⟩ := hst C X N eT (hold.1 ▸ hold.2.1)
  obtain ⟨s₂, o, h1, h2⟩ := k h' hP p e s vm0 k0 m args below meth c T' locs' C e0 X' hS (Nat.le_trans hk (hgr h' hP)) N' e' I
  exact ⟨s₂, o, st _ h1, h2⟩
theorem own_backS {p : Program} {e : Env} {below : List Frame} {s : State} {args : Array Value} {rm : Room} {len W : Nat} {as' : Array Value}
    (hM : ∀ ws, MetFree l y (head1 (Cond.code y code ml ret :: ws) rm) (fun a U => a = as' ∧ Z.Warmed39 U.vm ∧ U.heap = h ∧ IB4 Z U.vm LL) (fun _ _ _ _ _ => True) (fun _ U o U' => ∃ v L LL', o = .returned v ∧ (Q v U'.heap LL' ∧ IB4 Z U'.vm LL' ∧ Fr n0 L) ∧ ReturnedEndW U o U' L rm.cells rm.slots))
    (hZ : Z.Warmed39 s.vm) (wc : (Cond.code y code ml ret).before a0 Z = true) (wz : (Cond.initialized y.cls).before a0 Z = true) (hf : rm.frames + 1 ≤ R.frames) (hl : W + (ml + 11) + rm.locals ≤ R.locals) :
    BackS l R p e below s args y len W (fun A a => a = as' ∧ A.U.heap = h ∧ IB4 Z A.U.vm LL ∧ A.cells + rm.cells ≤ R.cells ∧ A.slots + rm.slots ≤ R.slots)
      (fun A _ v B => ∃ L LL', Q v B.U.heap LL' ∧ IB4 Z B.U.vm LL' ∧ Fr n0 L ∧ B.locs = A.locs ++ L ∧ B.cells = A.cells + rm.cells ∧ B.slots = A.slots + rm.slots) :=
  BackS.of_freeW (bytes := code) (maxL := ml) (ret := ret) (E := fun _ _ o t L k n => k = rm.cells ∧ n = rm.slots ∧ ∃ v LL', o = .returned v ∧ Q v t.heap LL' ∧ IB4 Z t.vm LL' ∧ Fr n0 L) (hM []) hf hl
    (fun m meth c A a Y hp => have hU : Z.Warmed39 A.U.vm := wtrans hZ Y.warmed
      ⟨by show (Cond.and _ .tt).before a A.U = true; rw [Cond.before_and, mv hU wc]; rfl, mv hU wc, mv hU wz, hp.2.2.2.1, hp.2.2.2.2⟩)
    (fun m meth c A a g mk Y hp => ⟨hp.1, wtrans hZ Y.warmed, hp.2.1, hp.2.2.1⟩) (fun _ _ _ _ _ _ _ _ _ => trivial)
    (fun _ _ _ _ ⟨v, L, LL', h1, h2, h3⟩ => ⟨L, _, _, h3, rfl, rfl, v, LL', h1, h2⟩)
    (fun m meth c A a g mk v t L k n Y hp _ _ ⟨e1, e2, v', LL', e3, e4, e5, e6⟩ => by cases e3; subst e1 e2; exact ⟨L, LL', e4, e5, e6, rfl, rfl, rfl⟩)
theorem GoS.ldcS {i n cells' slots' : Nat} {text : String} {vs : List Value} {z : Int32} (w : (Jvm.Cond.stringLink y.cls i text).before a0 Z = true) (wS : ∀ a ∈ Bundle.stringAtoms, a.before a0 Z = true) (hh : Jvm.Lit.constHeld Z y.cls i) (hcw : Jvm.Lit.compactW.before a0 Z = true)
    (K0 : Keep h0 h []) (hL : ∀ x ∈ LL, x.1 = text → ∀ u : Array UInt16, utf16ToString? u = some text → SlOf ({ Z with heap := h0 } : State) x.2.1 u) (ht : (∀ c ∈ text.toList, c.toNat < 256) ∧ text.toList.map (fun c => Value.int (Jvm.Lit.byteI c.toNat.toUInt16)) = vs) (hz : ¬ z < 0) (hl : z.toNatClampNeg = vs.length)
    (hd : decode code pc = .ok (.ldc i, 2)) (hn : 4 * text.toList.length ≤ n) (hbig : n ≤ 536870912) (hc' : cells + 2 = cells') (hs' : slots + (n + 4) = slots') (hc : cells' ≤ R.cells) (hs : slots' ≤ R.slots) (hp : pc + 2 = pc')
    (k : ∀ (h' : Heap) (a b : Addr) (kb : ClassId), Ext h h' → Exa Z h' a "java/lang/String" → Fld Z h' a "java/lang/String" "coder" "B" (.int 0) → Fld Z h' a "java/lang/String" "value" "[B" (.ref b) → Arv Z h' b kb .byte z vs (.int 0) → Exa Z h' b "[B" → ((a < h0.size ∧ b < h0.size) ∨ (h.size ≤ a ∧ h.size ≤ b)) →
      GoS l R Z n0 y code ml ret Q h0 ((text, a, y.cls, i) :: LL) cells' slots' h' pc' Ls (.ref a :: st)) : GoS l R Z n0 y code ml ret Q h0 LL cells slots h pc Ls st := by
  intro p e s vm0 k0 m args below meth c T locs C e0 X hS hk N eT I
  subst hc' hs' hp e0 eT
  have hold : ∀ (b : Addr) (cl : Cell), (s.setVm vm0).heap[b]? = some cl → T.heap[b]? = some cl := fun b cl q => K0.2.1 b cl q (by simp)
  have hOld : Old Z n0 s.heap := C.2.2.2.2.2.2.2.2
  have wi : (Cond.instantiable "java/lang/String" 4).before a0 Z = true := wS _ (by simp [Bundle.stringAtoms, Bundle.sN])
  have wa : (Cond.arrayClass .byte).before a0 Z = true := wS _ (by simp [Bundle.stringAtoms])
  have hH : ConstHeldL (s.setVm vm0) y.cls i := own_held C.2.1 w I.1 (fun x hx q u hu => (hL x hx q u hu).moved (W := s.setVm vm0) C.2.1.alike (fun _ _ z => z)) hOld.2.2 (heldStart hh w ht.1 hcw wa wi)
  have hown : vm0.findClass y.cls = some m.cls := C.2.2.1
  have hcZ : Z.vm.findClass y.cls = some m.cls := by rw [← C.2.1.alike.findClass]; exact hown
  obtain ⟨k1, cf, si, us, hk1, hcf, hcp, hu, hnm, hdec, hres⟩ := Cond.stringLink_spec (s := s.setVm vm0) (args := a0) hown (mvS (s := s.setVm vm0) C.2.1 w)
  have hus : ∀ u : Array UInt16, utf16ToString? u = some text → u = us := fun u q => Array.ext' ((Jvm.ClassFile.units_of_text q ht.1).trans (Jvm.ClassFile.units_of_text hdec ht.1).symm)
  have fin : ∀ (a : Addr) (T' : State), Stand p l e R (s.setVm T'.vm) m args below meth c T' locs (cells + 2) (slots + (n + 4)) → (s.setVm vm0).Since T'.vm T'.heap.size → Ext T.heap T'.heap → SlIn s.heap.size T.heap.size T' a us → IB4 Z T'.vm ((text, a, y.cls, i) :: LL) →
      (∀ target, Steps p.tables e below (T'.setTop (mkF m (pc + 2) Ls (.ref a :: st))) target → Steps p.tables e below (T.setTop (mkF m pc Ls st)) target) →
      ∃ s₂ o, Steps p.tables e below (T.setTop (mkF m pc Ls st)) s₂ ∧ s₂.status = .running ∧ Ended s₂ below o ∧ ∃ v L LL', o = .returned v ∧ (Q v s₂.heap LL' ∧ IB4 Z s₂.vm LL' ∧ Fr n0 L) ∧ ReturnedEndW s o s₂ L R.cells R.slots := by
    intro a T' X' hS' E hin I' stp
    have C' := C.re hS'.1
    have hal : Z.vm.Alike T'.vm := C'.2.1.alike
    have hlat := Jvm.ClassFile.lat_of_text hdec ht.1
    obtain ⟨q, cS, hqa, ⟨⟨s1, s2, s3, ⟨cv, kv, iv, s4, s4'⟩, ⟨cc, kc, ic, s5, s5'⟩, s6, s7, s8, s9, s10, s11, s12, s13, s14, s15, s16⟩, hfS, hcS⟩, ⟨kS, k1, k2, k3⟩, hB, hbyt, hplace⟩ := hin
    subst hqa
    obtain ⟨kv', z4⟩ := ff_back hal s4
    obtain ⟨kc', z5⟩ := ff_back hal s5
    have hfZ : Z.vm.findClass "java/lang/String" = some q.sC.cls := by rw [← hal.findClass, hcS]; exact hfS
    obtain ⟨kz, hkz, -⟩ := Vm.findClass_spec hfZ
    obtain ⟨kz', hkz', ekz⟩ := hal.2.2 _ _ hkz
    have ekS : kz' = kS := Option.some.inj (hkz'.symm.trans (hcS ▸ k1))
    have hBZ : Z.vm.findClass "[B" = some q.SA.cls := by rw [← hal.findClass]; exact hB
    obtain ⟨kb, hkb, -⟩ := Vm.findClass_spec hBZ
    obtain ⟨kb', hkb', ekb⟩ := hal.2.2 _ _ hkb
    obtain ⟨hst, k9, hk9, comp, hkind9⟩ := s11
    have ek9 : k9 = kb' := Option.some.inj (hk9.symm.trans hkb')
    have hkindZ := hkind9
    rw [ek9, ekb] at hkindZ
    have eu : vs = us.toList.map fun u => Value.int (Jvm.Lit.byteI u) := by rw [← ht.2, Jvm.ClassFile.units_of_text hdec ht.1, List.map_map]; rfl
    have hsl : q.SA.slots = us.map fun u => Value.int (Jvm.Lit.byteI u) := by rw [hbyt, SBG.stringBytes_lat hlat]; rfl
    have hsz : q.SA.slots.size = us.size := by rw [hsl, Array.size_map]
    have H : Has q.SA vs (.int 0) := fun j hj => by
      have hj' : j < us.size := by omega
      rw [hsl, eu]; simp [hj']
    have F1 : Exa Z T'.heap q.sa "java/lang/String" := ⟨q.sC, kz, s1, hfZ, hkz, s3, fun ho => by rw [k3, ← ekS, ekz]⟩
    have F2 : Fld Z T'.heap q.sa "java/lang/String" "coder" "B" (.int 0) := ⟨q.sC, cc, kc', ic, q.fSC, s1, z5, s7, s2, s3, by rw [← hal.assignable]; exact s5', s9⟩
    have F3 : Fld Z T'.heap q.sa "java/lang/String" "value" "[B" (.ref q.sd) := ⟨q.sC, cv, kv', iv, q.fSV, s1, z4, s6, s2, s3, by rw [← hal.assignable]; exact s4', s8⟩
    have F4 : Arv Z T'.heap q.sd q.SA.cls .byte z vs (.int 0) := ⟨q.SA, ⟨s10, ⟨hst, kb, hkb, comp, hkindZ⟩, s12⟩, rfl, by rw [hsz, hl, eu]; simp, hz, H, fun j hj => by
      have e1 := s16 j hj
      rw [SBG.getD_of (H j hj)] at e1
      exact e1⟩
    have F5 : Exa Z T'.heap q.sd "[B" := ⟨q.SA, kb, s10, hBZ, hkb, by cases hv : q.SA.vm <;> first | rfl | (exact absurd hv (hst _)), fun ho => by rw [hkindZ] at ho; cases ho⟩
    obtain ⟨s₂, o, h1, h2⟩ := k T'.heap q.sa q.sd q.SA.cls E F1 F2 F3 F4 F5 hplace p e s T'.vm T'.heap.size m args below meth c T' locs C' rfl X' (hS.trans hS' (Nat.le_trans hk E.1)) (Nat.le_refl _) N rfl I'
    exact ⟨s₂, o, stp _ h1, h2⟩
  rcases hres with hopen | ⟨a, hlit⟩
  · obtain ⟨a, T', X', hS', ⟨kk, hkk, hrr⟩, hb, -, hint, ⟨us', htext, hin⟩, stp⟩ := X.ldcColdF hold C.1 (own := y.cls) (text := text) (index := i) hown (mvS (s := s.setVm vm0) C.2.1 w) (fun d hd => by
      have q := wS d hd
      simp only [Bundle.stringAtoms, List.mem_cons, List.not_mem_nil, or_false] at hd
      rcases hd with rfl | rfl | rfl | rfl | rfl | rfl | rfl
      · exact mv (s := s.setVm vm0) C.2.1 q
      · exact mv (s := s.setVm vm0) C.2.1 q
      · exact mvA (s := s.setVm vm0) C.2.1 q
      · exact mv (s := s.setVm vm0) C.2.1 q
      · exact mv (s := s.setVm vm0) C.2.1 q
      · exact mv (s := s.setVm vm0) C.2.1 q
      · exact mv (s := s.setVm vm0) C.2.1 q) hH (fun u q => Jvm.ClassFile.lat_of_text q ht.1) (g := mkF m pc Ls st) rfl (hb C.2.2.2.1 hd) hn hbig hc hs
    cases hus us' htext
    have hTi : T.vm.interned = vm0.interned := X.warmed.interned_eq
    have hfind : T'.vm.interned.find? (fun p => p.1 == us) = some (us, a) := by
      obtain ⟨k2, hk2, -, -, ee, -⟩ := hS'.1.2.2.2 m.cls k1 hk1
      cases hk2.symm.trans hkk
      rcases ee i with e0 | ⟨-, r, e1, hr | ⟨a3, t, si3, us3, rfl, -, q3, q4, q5⟩⟩
      · rw [hrr, hopen] at e0; cases e0
      · exfalso
        have hk9 : vm0.classes[m.cls]? = some k1 := hk1
        cases r <;> simp [State.rightAt, hk9, hcf, hnm] at hr
      · rw [hcf] at q3 q4
        obtain rfl : si3 = si := by simpa using q3.symm.trans hcp
        obtain rfl : us3 = us := by simpa [ConstantPool.utf8?, hu] using q4.symm
        obtain rfl : a3 = a := by simpa using e1.symm.trans hrr
        exact q5
    exact fin a T' X' hS' (ext_of hb) hin ⟨I.1.step (by rw [← hTi]; exact hint) hfind hus, fun x hx => by
      rcases List.mem_cons.mp hx with rfl | hx
      · have hf : T'.vm.findClass y.cls = some m.cls := by rw [hS'.1.alike.findClass]; exact hown
        simp [Lit, State.resolvedAt?, hf, hkk, hrr]
      · exact own_stays I.2 hS'.1 x hx⟩ stp
  · have hsl := hH m.cls k1 cf si us a hown hk1 hcf hcp hu (Or.inl hlit)
    have L : Lit (s.setVm vm0) y.cls i a := by
      have hk9 : vm0.classes[m.cls]? = some k1 := hk1
      simp [Lit, State.resolvedAt?, hown, hk9, hlit]
    refine fin a T ((X.mono (Nat.le_add_right _ _) (Nat.le_add_right _ _)).retabled X.warmed.wide) (X.warmed.since _) ⟨Nat.le_refl _, fun _ _ z => z⟩ (hsl.movedIn T.heap.size X.warmed.alike hold) ⟨(I.1.eq X.warmed.interned_eq).more, fun x hx => by
      rcases List.mem_cons.mp hx with rfl | hx
      · exact Lit.stays (s := s) L X.warmed.wide
      · exact own_stays I.2 X.warmed.wide x hx⟩ (fun target q => ?_)
    exact ldcAgain X C.1 C.2.1 hown w L (g := mkF m pc Ls st) rfl (hb C.2.2.2.1 hd) target q
theorem GoS.ldcAgain {i : Nat} {text : String} {a : Addr} (w : (Jvm.Cond.stringLink y.cls i text).before a0 Z = true) (hx : (text, a, y.cls, i) ∈ LL) (hd : decode code pc = .ok (.ldc i, 2)) (hp : pc + 2 = pc') (k : GoS l R Z n0 y code ml ret Q h0 LL cells slots h pc' Ls (.ref a :: st)) : GoS l R Z n0 y code ml ret Q h0 LL cells slots h pc Ls st := by
  intro p e s vm0 k0 m args below meth c T locs C e0 X hS hk N eT I
  subst hp
  obtain ⟨s₂, o, h1, h2⟩ := k p e s vm0 k0 m args below meth c T locs C e0 X hS hk N eT I
  exact ⟨s₂, o, ldcAgain X C.1 C.2.1 C.2.2.1 w (I.2 _ hx) (g := mkF m pc Ls st) rfl (hb C.2.2.2.1 hd) _ h1, h2⟩
theorem GoS.more {cells' slots' : Nat} (k : GoS l R Z n0 y code ml ret Q h0 LL cells' slots' h pc Ls st) (hc : cells ≤ cells') (hs : slots ≤ slots') : GoS l R Z n0 y code ml ret Q h0 LL cells slots h pc Ls st := by
  intro p e s vm0 k0 m args below meth c T locs C e0 X hS hk N eT I
  exact k p e s vm0 k0 m args below meth c T locs C e0 (X.more hc hs) hS hk N eT I
theorem GoS.mono {Q' : Option Value → Heap → List (String × Addr × String × Nat) → Prop} (k : GoS l R Z n0 y code ml ret Q' h0 LL cells slots h pc Ls st) (hq : ∀ v h' L', Q' v h' L' → Q v h' L') : GoS l R Z n0 y code ml ret Q h0 LL cells slots h pc Ls st := by
  intro p e s vm0 k0 m args below meth c T locs C e0 X hS hk N eT I
  obtain ⟨s₂, o, h1, h2, h3, v, L, L2, h4, ⟨h5, h6⟩, h7⟩ := k p e s vm0 k0 m args below meth c T locs C e0 X hS hk N eT I
  exact ⟨s₂, o, h1, h2, h3, v, L, L2, h4, ⟨hq _ _ _ h5, h6⟩, h7⟩
/-- a String constant that this walk has loaded, and what she says -/
def Hel (Z : State) (h : Heap) (a b : Addr) (text : String) : Prop := ∃ (kb : ClassId) (z : Int32) (vs : List Value), Exa Z h a "java/lang/String" ∧ Fld Z h a "java/lang/String" "coder" "B" (.int 0) ∧ Fld Z h a "java/lang/String" "value" "[B" (.ref b) ∧ Arv Z h b kb .byte z vs (.int 0) ∧ Exa Z h b "[B" ∧ ((∀ c ∈ text.toList, c.toNat < 256) ∧ text.toList.map (fun c => Value.int (Jvm.Lit.byteI c.toNat.toUInt16)) = vs) ∧ z.toNatClampNeg = vs.length
theorem Hel.ext {a b : Addr} {text : String} {h' : Heap} (F : Hel Z h a b text) (E : Ext h h') : Hel Z h' a b text := by
  obtain ⟨kb, z, vs, x, c, v, r, y, q⟩ := F
  exact ⟨kb, z, vs, x.ext E, c.ext E, v.ext E, r.ext E, y.ext E, q⟩
theorem Hel.keep {a b : Addr} {text : String} {h' : Heap} {ws : List Addr} (F : Hel Z h a b text) (K : Keep h h' ws) (na : a ∉ ws) (nb : b ∉ ws) : Hel Z h' a b text := by
  obtain ⟨kb, z, vs, x, c, v, r, y, q⟩ := F
  exact ⟨kb, z, vs, x.keep K, c.keep K na, v.keep K na, r.keep K nb, y.keep K, q⟩
theorem Hel.other {a b x' : Addr} {text : String} {h' : Heap} {sl : Nat} {u : Value} (F : Hel Z h a b text) (W : Wr h h' x' sl u) (na : a ≠ x') (nb : b ≠ x') : Hel Z h' a b text := by
  obtain ⟨kb, z, vs, x, c, v, r, y, q⟩ := F
  exact ⟨kb, z, vs, x.wr W, c.other W (Or.inl na), v.other W (Or.inl na), r.other W nb, y.wr W, q⟩
theorem Hel.lt0 {a b : Addr} {text : String} (F : Hel Z h a b text) : a < h.size := by obtain ⟨kb, z, vs, x, -⟩ := F; exact x.lt
theorem Hel.lt1 {a b : Addr} {text : String} (F : Hel Z h a b text) : b < h.size := by obtain ⟨kb, z, vs, -, -, -, r, -⟩ := F; exact r.lt
abbrev HL (Z : State) (h0 : Heap) (text : String) (LL : List (String × Addr × String × Nat)) : Prop := ∀ x ∈ LL, x.1 = text → ∀ u : Array UInt16, utf16ToString? u = some text → SlOf ({ Z with heap := h0 } : State) x.2.1 u
theorem HL.nil {text : String} : HL Z h0 text [] := fun x hx => by simp at hx
theorem HL.no {text t : String} {r : Addr × String × Nat} (ne : t ≠ text) (H : HL Z h0 text LL) : HL Z h0 text ((t, r) :: LL) := fun x hx e => by
  rcases List.mem_cons.mp hx with rfl | hx
  · exact absurd e ne
  · exact H x hx e
theorem HL.yes {text t : String} {a b : Addr} {r : String × Nat} (wi : (Cond.instantiable "java/lang/String" 4).before a0 Z = true) (F : Hel Z h0 a b t) (H : HL Z h0 text LL) : HL Z h0 text ((t, a, r) :: LL) := fun x hx e u hu => by
  rcases List.mem_cons.mp hx with rfl | hx
  · obtain ⟨kb, z, vs, x, c, v, r, y, q1, q2⟩ := F
    exact own_sl x c v r y wi q1 q2 (by rw [show t = text from e]; exact hu)
  · exact H x hx e u hu
theorem GoS.iloadN {k : Fin 4} {v : Int32} (hd : decode code pc = .ok (.iload_n k, 1)) (hl : Ls[k.val]? = some (.val (.int v))) (hp : pc + 1 = pc') (k : GoS l R Z n0 y code ml ret Q h0 LL cells slots h pc' Ls (.int v :: st)) : GoS l R Z n0 y code ml ret Q h0 LL cells slots h pc Ls st := GoS.step (fun C X _ q => by subst hp; exact XS.iloadN X.here C.1 rfl (hb C.2.2.2.1 hd) hl q) k
theorem GoS.iload {k : Nat} {v : Int32} (hd : decode code pc = .ok (.iload k, 2)) (hl : Ls[k]? = some (.val (.int v))) (hp : pc + 2 = pc') (k : GoS l R Z n0 y code ml ret Q h0 LL cells slots h pc' Ls (.int v :: st)) : GoS l R Z n0 y code ml ret Q h0 LL cells slots h pc Ls st := GoS.step (fun C X _ q => by subst hp; exact XS.iload X.here C.1 rfl (hb C.2.2.2.1 hd) hl q) k
theorem GoS.aloadN {k : Fin 4} {v : Value} (hd : decode code pc = .ok (.aload_n k, 1)) (hl : Ls[k.val]? = some (.val v)) (hv : v.isRef = true) (hp : pc + 1 = pc') (k : GoS l R Z n0 y code ml ret Q h0 LL cells slots h pc' Ls (v :: st)) : GoS l R Z n0 y code ml ret Q h0 LL cells slots h pc Ls st := GoS.step (fun C X _ q => by subst hp; exact XS.aloadN X.here C.1 rfl (hb C.2.2.2.1 hd) hl hv q) k
theorem GoS.aload {k : Nat} {v : Value} (hd : decode code pc = .ok (.aload k, 2)) (hl : Ls[k]? = some (.val v)) (hv : v.isRef = true) (hp : pc + 2 = pc') (k : GoS l R Z n0 y code ml ret Q h0 LL cells slots h pc' Ls (v :: st)) : GoS l R Z n0 y code ml ret Q h0 LL cells slots h pc Ls st := GoS.step (fun C X _ q => by subst hp; exact XS.aload X.here C.1 rfl (hb C.2.2.2.1 hd) hl hv q) k
theorem GoS.istoreN {k : Fin 4} {v : Int32} (hd : decode code pc = .ok (.istore_n k, 1)) (hl : storeLocals Ls k.val (.int v) = some Ls') (hp : pc + 1 = pc') (k : GoS l R Z n0 y code ml ret Q h0 LL cells slots h pc' Ls' st) : GoS l R Z n0 y code ml ret Q h0 LL cells slots h pc Ls (.int v :: st) := GoS.step (fun C X _ q => by subst hp; exact XS.istoreN X.here C.1 rfl (hb C.2.2.2.1 hd) rfl hl q) k
theorem GoS.istore {k : Nat} {v : Int32} (hd : decode code pc = .ok (.istore k, 2)) (hl : storeLocals Ls k (.int v) = some Ls') (hp : pc + 2 = pc') (k : GoS l R Z n0 y code ml ret Q h0 LL cells slots h pc' Ls' st) : GoS l R Z n0 y code ml ret Q h0 LL cells slots h pc Ls (.int v :: st) := GoS.step (fun C X _ q => by subst hp; exact XS.istore X.here C.1 rfl (hb C.2.2.2.1 hd) rfl hl q) k
theorem GoS.astoreN {k : Fin 4} {v : Value} (hd : decode code pc = .ok (.astore_n k, 1)) (hv : v.isRef = true) (hl : storeLocals Ls k.val v = some Ls') (hp : pc + 1 = pc') (k : GoS l R Z n0 y code ml ret Q h0 LL cells slots h pc' Ls' st) : GoS l R Z n0 y code ml ret Q h0 LL cells slots h pc Ls (v :: st) := GoS.step (fun C X _ q => by subst hp; exact XS.astoreN X.here C.1 rfl (hb C.2.2.2.1 hd) rfl hv hl q) k
theorem GoS.astore {k : Nat} {v : Value} (hd : decode code pc = .ok (.astore k, 2)) (hv : v.isRef = true) (hl : storeLocals Ls k v = some Ls') (hp : pc + 2 = pc') (k : GoS l R Z n0 y code ml ret Q h0 LL cells slots h pc' Ls' st) : GoS l R Z n0 y code ml ret Q h0 LL cells slots h pc Ls (v :: st) := GoS.step (fun C X _ q => by subst hp; exact XS.astore X.here C.1 rfl (hb C.2.2.2.1 hd) rfl hv hl q) k
theorem GoS.iconst {i : Int} {v : Int32} (hd : decode code pc = .ok (.iconst i, 1)) (hv : Int32.ofInt i = v) (hp : pc + 1 = pc') (k : GoS l R Z n0 y code ml ret Q h0 LL cells slots h pc' Ls (.int v :: st)) : GoS l R Z n0 y code ml ret Q h0 LL cells slots h pc Ls st := GoS.step (fun C X _ q => by subst hp; exact (by subst hv; exact XS.iconst X.here C.1 rfl (hb C.2.2.2.1 hd) q)) k
theorem GoS.bipush {i : Int} {v : Int32} (hd : decode code pc = .ok (.bipush i, 2)) (hv : (Int8.ofInt i).toInt32 = v) (hp : pc + 2 = pc') (k : GoS l R Z n0 y code ml ret Q h0 LL cells slots h pc' Ls (.int v :: st)) : GoS l R Z n0 y code ml ret Q h0 LL cells slots h pc Ls st := GoS.step (fun C X _ q => by subst hp; exact (by subst hv; exact XS.bipush X.here C.1 rfl (hb C.2.2.2.1 hd) q)) k
theorem GoS.aconstNull (hd : decode code pc = .ok (.aconst_null, 1)) (hp : pc + 1 = pc') (k : GoS l R Z n0 y code ml ret Q h0 LL cells slots h pc' Ls (.null :: st)) : GoS l R Z n0 y code ml ret Q h0 LL cells slots h pc Ls st := GoS.step (fun C X _ q => by subst hp; exact XS.aconstNull X.here C.1 rfl (hb C.2.2.2.1 hd) q) k
theorem GoS.ldcI {i : Nat} {v : Int32} (w : (Jvm.Cond.constant y.cls i v).before a0 Z = true) (hd : decode code pc = .ok (.ldc i, 2)) (hp : pc + 2 = pc') (k : GoS l R Z n0 y code ml ret Q h0 LL cells slots h pc' Ls (.int v :: st)) : GoS l R Z n0 y code ml ret Q h0 LL cells slots h pc Ls st := GoS.step (fun C X _ q => by subst hp; exact Jvm.Stand.ldcI X C.1 C.2.2.1 (mvT C.2.1 w) rfl (hb C.2.2.2.1 hd) q) k
theorem GoS.iadd {a b : Int32} (hd : decode code pc = .ok (.iadd, 1)) (hp : pc + 1 = pc') (k : GoS l R Z n0 y code ml ret Q h0 LL cells slots h pc' Ls (.int (a + b) :: st)) : GoS l R Z n0 y code ml ret Q h0 LL cells slots h pc Ls (.int b :: .int a :: st) := GoS.step (fun C X _ q => by subst hp; exact XS.iadd X.here C.1 rfl (hb C.2.2.2.1 hd) rfl q) k
theorem GoS.isub {a b : Int32} (hd : decode code pc = .ok (.isub, 1)) (hp : pc + 1 = pc') (k : GoS l R Z n0 y code ml ret Q h0 LL cells slots h pc' Ls (.int (a - b) :: st)) : GoS l R Z n0 y code ml ret Q h0 LL cells slots h pc Ls (.int b :: .int a :: st) := GoS.step (fun C X _ q => by subst hp; exact XS.isub X.here C.1 rfl (hb C.2.2.2.1 hd) rfl q) k
theorem GoS.iand {a b : Int32} (hd : decode code pc = .ok (.iand, 1)) (hp : pc + 1 = pc') (k : GoS l R Z n0 y code ml ret Q h0 LL cells slots h pc' Ls (.int (a &&& b) :: st)) : GoS l R Z n0 y code ml ret Q h0 LL cells slots h pc Ls (.int b :: .int a :: st) := GoS.step (fun C X _ q => by subst hp; exact XS.iand X.here C.1 rfl (hb C.2.2.2.1 hd) rfl q) k
theorem GoS.irem {a b : Int32} (hd : decode code pc = .ok (.irem, 1)) (hz : b ≠ 0) (hp : pc + 1 = pc') (k : GoS l R Z n0 y code ml ret Q h0 LL cells slots h pc' Ls (.int (a % b) :: st)) : GoS l R Z n0 y code ml ret Q h0 LL cells slots h pc Ls (.int b :: .int a :: st) := GoS.step (fun C X _ q => by subst hp; exact iremM X C.1 rfl (hb C.2.2.2.1 hd) rfl hz q) k
theorem GoS.dup {v : Value} (hd : decode code pc = .ok (.dup, 1)) (hc : v.category = 1) (hp : pc + 1 = pc') (k : GoS l R Z n0 y code ml ret Q h0 LL cells slots h pc' Ls (v :: v :: st)) : GoS l R Z n0 y code ml ret Q h0 LL cells slots h pc Ls (v :: st) := GoS.step (fun C X _ q => by subst hp; exact XS.dup X.here C.1 rfl (hb C.2.2.2.1 hd) rfl hc q) k
theorem GoS.goto {o : Int} (hd : decode code pc = .ok (.goto o, 3)) (ho : 0 ≤ (pc : Int) + o := by decide) (hp : ((pc : Int) + o).toNat = pc' := by decide) (k : GoS l R Z n0 y code ml ret Q h0 LL cells slots h pc' Ls st) : GoS l R Z n0 y code ml ret Q h0 LL cells slots h pc Ls st := GoS.step (fun C X _ q => XS.goto X.here C.1 rfl rfl (hb C.2.2.2.1 hd) ho hp q) k
theorem GoS.ifYes {o : Int} {cd : ClassFile.Cond} {a : Int32} (hd : decode code pc = .ok (.ifCond cd o, 3)) (hc : ifCond.holds cd a = true) (ho : 0 ≤ (pc : Int) + o := by decide) (hp : ((pc : Int) + o).toNat = pc' := by decide) (k : GoS l R Z n0 y code ml ret Q h0 LL cells slots h pc' Ls st) : GoS l R Z n0 y code ml ret Q h0 LL cells slots h pc Ls (.int a :: st) := GoS.step (fun C X _ q => XS.ifYes X.here C.1 rfl rfl (hb C.2.2.2.1 hd) rfl hc ho hp q) k
theorem GoS.icmpYes {o : Int} {cd : ClassFile.Cond} {a b : Int32} (hd : decode code pc = .ok (.if_icmp cd o, 3)) (hc : if_icmp.holds cd a b = true) (ho : 0 ≤ (pc : Int) + o := by decide) (hp : ((pc : Int) + o).toNat = pc' := by decide) (k : GoS l R Z n0 y code ml ret Q h0 LL cells slots h pc' Ls st) : GoS l R Z n0 y code ml ret Q h0 LL cells slots h pc Ls (.int b :: .int a :: st) := GoS.step (fun C X _ q => XS.icmpYes X.here C.1 rfl rfl (hb C.2.2.2.1 hd) rfl hc ho hp q) k
theorem GoS.ifNo {o : Int} {cd : ClassFile.Cond} {a : Int32} (hd : decode code pc = .ok (.ifCond cd o, 3)) (hc : ifCond.holds cd a = false) (hp : pc + 3 = pc') (k : GoS l R Z n0 y code ml ret Q h0 LL cells slots h pc' Ls st) : GoS l R Z n0 y code ml ret Q h0 LL cells slots h pc Ls (.int a :: st) := GoS.step (fun C X _ q => by subst hp; exact XS.ifNo X.here C.1 rfl (hb C.2.2.2.1 hd) rfl hc q) k
theorem GoS.icmpNo {o : Int} {cd : ClassFile.Cond} {a b : Int32} (hd : decode code pc = .ok (.if_icmp cd o, 3)) (hc : if_icmp.holds cd a b = false) (hp : pc + 3 = pc') (k : GoS l R Z n0 y code ml ret Q h0 LL cells slots h pc' Ls st) : GoS l R Z n0 y code ml ret Q h0 LL cells slots h pc Ls (.int b :: .int a :: st) := GoS.step (fun C X _ q => by subst hp; exact XS.icmpNo X.here C.1 rfl (hb C.2.2.2.1 hd) rfl hc q) k
theorem GoS.getfield {host : String} {R0 O n d : String} {i : Nat} (w : (Jvm.Cond.fieldLink y.cls i R0 n d).before a0 Z = true ∨ (Jvm.Cond.fieldLinkNest y.cls i R0 n d host).before a0 Z = true) (via : Via Z R0 O n d) {v : Value} {a : Addr} (F : Fld Z h a O n d v) (hd : decode code pc = .ok (.getfield i, 3)) (hp : pc + 3 = pc') (k : GoS l R Z n0 y code ml ret Q h0 LL cells slots h pc' Ls (v :: st)) : GoS l R Z n0 y code ml ret Q h0 LL cells slots h pc Ls (.ref a :: st) := by
  refine GoS.law (hgr := by intro h' q; first | exact Nat.le_of_eq (congrArg Array.size q.symm) | exact Nat.le_of_eq q.size.symm | exact q.1.1 | exact Nat.le_of_eq q.1.size.symm) (P := fun h' => h' = h) (fun C X N eT _ => ?_) (fun h' e => e ▸ k)
  subst hp
  obtain ⟨T', X', e', st⟩ := getF X C.1 C.2.1 C.2.2.1 w via eT F (g := mkF _ pc Ls (.ref a :: st)) rfl rfl (hb C.2.2.2.1 hd)
  exact ⟨T', _, h, X', N, e', rfl, st⟩
theorem GoS.initO {i : Nat} {a : Addr} (w1 : (Jvm.Cond.methodLink y.cls i Lib.objectInit).before a0 Z = true) (w2 : (Jvm.Cond.instanceMethod Lib.objectInit).before a0 Z = true) (w3 : (Jvm.Cond.code Lib.objectInit ⟨#[0xb1]⟩ 1 none).before a0 Z = true) (hd : decode code pc = .ok (.invokespecial i, 3)) (hz : Ls.size = ml) (hf : 1 ≤ R.frames := by decide) (hl : (st.map fun v => v.category).sum + 12 ≤ R.locals := by decide) (hp : pc + 3 = pc') (k : GoS l R Z n0 y code ml ret Q h0 LL cells slots h pc' Ls st) : GoS l R Z n0 y code ml ret Q h0 LL cells slots h pc Ls (.ref a :: st) := by
  refine GoS.law (hgr := by intro h' q; first | exact Nat.le_of_eq (congrArg Array.size q.symm) | exact Nat.le_of_eq q.size.symm | exact q.1.1 | exact Nat.le_of_eq q.1.size.symm) (P := fun h' => h' = h) (fun C X N eT _ => ?_) (fun h' e => e ▸ k)
  subst hp
  obtain ⟨T', X', e', st⟩ := initO X C.1 C.2.1 C.2.2.1 w1 w2 w3 eT (g := mkF _ pc Ls (.ref a :: st)) rfl (by rw [C.2.2.2.2.1]; exact hz) rfl (hb C.2.2.2.1 hd) hf (W := (st.map fun v => v.category).sum) (by simp) hl
  exact ⟨T', _, h, X', N, e', rfl, st⟩
theorem GoS.putfield {host : String} {R0 O n d : String} {i : Nat} (w : (Jvm.Cond.fieldLink y.cls i R0 n d).before a0 Z = true ∨ (Jvm.Cond.fieldLinkNest y.cls i R0 n d host).before a0 Z = true) {ty : FieldType} {C' : String} {kk : Nat} (via : Via Z R0 O n d) {v old : Value} {a : Addr} (F : Fld Z h a O n d old) (E : Exa Z h a C') (L : (Jvm.Cond.lays C' O n d).before a0 Z = true ∨ ((Jvm.Cond.laysFinal C' O n d).before a0 Z = true ∧ y.cls = O ∧ y.name = "<init>")) (wi : (Jvm.Cond.instantiable C' kk).before a0 Z = true) (hty : parseFieldDescriptor d = some ty) (hn : narrow ty v = v) (hf : fits ty v = true) (ha : n0 ≤ a) (hd : decode code pc = .ok (.putfield i, 3)) (hp : pc + 3 = pc') (k : ∀ h', Wr h h' a (Jvm.RoadKit.slotOf Z O n d) v → GoS l R Z n0 y code ml ret Q h0 LL cells slots h' pc' Ls st) : GoS l R Z n0 y code ml ret Q h0 LL cells slots h pc Ls (v :: .ref a :: st) := by
  refine GoS.law (hgr := by intro h' q; first | exact Nat.le_of_eq (congrArg Array.size q.symm) | exact Nat.le_of_eq q.size.symm | exact q.1.1 | exact Nat.le_of_eq q.1.size.symm) (P := fun h' => Wr h h' a (Jvm.RoadKit.slotOf Z O n d) v) (fun C X N eT hn => ?_) (k)
  subst hp
  obtain ⟨T', h', X', e', W, st⟩ := putF X C.1 C.2.1 C.2.2.1 w via eT F E (L.imp id fun q => ⟨q.1, q.2.1, C.2.2.2.2.2.2.2.1.trans q.2.2⟩) wi hty ‹narrow ty v = v› hf (g := mkF _ pc Ls (v :: .ref a :: st)) rfl rfl (hb C.2.2.2.1 hd)
  exact ⟨T', _, h', X', Fr.snoc X' N ha, e', W, st⟩
theorem GoS.putfieldN {R0 O n d : String} {i : Nat} (w : (Jvm.Cond.fieldLink y.cls i R0 n d).before a0 Z = true) {ty : FieldType} {C' : String} {kk : Nat} (via : Via Z R0 O n d) {v v' : Int32} {old : Value} {a : Addr} (F : Fld Z h a O n d old) (E : Exa Z h a C') (L : (Jvm.Cond.lays C' O n d).before a0 Z = true ∨ ((Jvm.Cond.laysFinal C' O n d).before a0 Z = true ∧ y.cls = O ∧ y.name = "<init>")) (wi : (Jvm.Cond.instantiable C' kk).before a0 Z = true) (hty : parseFieldDescriptor d = some ty) (hn : narrow ty (.int v) = .int v') (hf : fits ty (.int v') = true) (ha : n0 ≤ a) (hd : decode code pc = .ok (.putfield i, 3)) (hp : pc + 3 = pc') (k : ∀ h', Wr h h' a (Jvm.RoadKit.slotOf Z O n d) (.int v') → GoS l R Z n0 y code ml ret Q h0 LL cells slots h' pc' Ls st) : GoS l R Z n0 y code ml ret Q h0 LL cells slots h pc Ls (.int v :: .ref a :: st) := by
  refine GoS.law (hgr := by intro h' q; first | exact Nat.le_of_eq (congrArg Array.size q.symm) | exact Nat.le_of_eq q.size.symm | exact q.1.1 | exact Nat.le_of_eq q.1.size.symm) (P := fun h' => Wr h h' a (Jvm.RoadKit.slotOf Z O n d) (.int v')) (fun C X N eT hn => ?_) (k)
  subst hp
  obtain ⟨T', h', X', e', W, st⟩ := putFN X C.1 C.2.1 C.2.2.1 w via eT F E (L.imp id fun q => ⟨q.1, q.2.1, C.2.2.2.2.2.2.2.1.trans q.2.2⟩) wi hty ‹narrow ty (.int v) = .int v'› hf (g := mkF _ pc Ls (.int v :: .ref a :: st)) rfl rfl (hb C.2.2.2.1 hd)
  exact ⟨T', _, h', X', Fr.snoc X' N ha, e', W, st⟩
theorem GoS.new {C' : String} {i n cells' slots' : Nat} (w : (Jvm.Cond.classLink y.cls i C').before a0 Z = true) (wi : (Jvm.Cond.instantiable C' n).before a0 Z = true) (wz : (Jvm.Cond.initialized C').before a0 Z = true) (hd : decode code pc = .ok (.new i, 3)) (hc' : cells + 1 = cells') (hs' : slots + n = slots') (hc : cells' ≤ R.cells := by decide) (hl : slots' ≤ R.slots := by decide) (hp : pc + 3 = pc') (k : ∀ (h' : Heap) (b : Addr), b = h.size → Ext h h' → n0 ≤ b → Exa Z h' b C' → (∀ {O nm d : String} {ty : FieldType}, Laid Z a0 C' O nm d → parseFieldDescriptor d = some ty → Fld Z h' b O nm d (defaultValue ty)) → GoS l R Z n0 y code ml ret Q h0 LL cells' slots' h' pc' Ls (.ref b :: st)) : GoS l R Z n0 y code ml ret Q h0 LL cells slots h pc Ls st := by
  refine GoS.law (hgr := by intro h' q; first | exact Nat.le_of_eq (congrArg Array.size q.symm) | exact Nat.le_of_eq q.size.symm | exact q.1.1 | exact Nat.le_of_eq q.1.size.symm) (P := fun h' => (Ext h h' ∧ n0 ≤ h.size ∧ Exa Z h' h.size C' ∧ ∀ {O nm d : String} {ty : FieldType}, Laid Z a0 C' O nm d → parseFieldDescriptor d = some ty → Fld Z h' h.size O nm d (defaultValue ty))) (fun C X N eT hn => ?_) (fun h' q => k h' h.size rfl q.1 q.2.1 q.2.2.1 q.2.2.2)
  subst hp
  subst hc' hs'
  obtain ⟨T', h', X', e', E, A, D, -, st⟩ := newO X C.1 C.2.1 C.2.2.1 w wi wz eT (g := mkF _ pc Ls st) rfl (hb C.2.2.2.1 hd) hc hl
  exact ⟨T', _, h', X', N, e', ⟨E, hn, A, D⟩, st⟩
theorem GoS.arraylength {a : Addr} {kA : ClassId} {ty : FieldType} {z : Int32} {vs : List Value} {dv : Value} (F : Arv Z h a kA ty z vs dv) (hd : decode code pc = .ok (.arraylength, 1)) (hp : pc + 1 = pc') (k : GoS l R Z n0 y code ml ret Q h0 LL cells slots h pc' Ls (.int z :: st)) : GoS l R Z n0 y code ml ret Q h0 LL cells slots h pc Ls (.ref a :: st) := by
  refine GoS.step (fun C X eT q => ?_) k
  subst hp
  obtain ⟨cl, A, q1, S, q3, H, G⟩ := F
  refine X.arraylength C.1 (by rw [eT]; exact A.1) (State.isArrayOf_alike C.2.1.alike A.2.1) (g := mkF _ pc Ls (.ref a :: st)) rfl rfl (hb C.2.2.2.1 hd) _ ?_
  rw [len_of S q3]
  exact q

theorem GoS.retV (hr : ret = none) (hd : decode code pc = .ok (.return_, 1)) (hq : Q none h LL) (hc : cells ≤ R.cells := by decide) (hs : slots ≤ R.slots := by decide) : GoS l R Z n0 y code ml ret Q h0 LL cells slots h pc Ls [] := by
  intro p e s vm0 k0 m args below meth c T locs C e0 X hS hk N eT I
  obtain ⟨fs, hr', hrun, hended, w1, w2, w3, w4⟩ := X.leaveW hS (eT ▸ hk) (v := none) (fun _ => rfl) C.2.2.2.2.2.2.1
  refine ⟨_, _, X.returnOut C.1 (C.2.2.2.2.2.1.trans hr) (hb C.2.2.2.1 hd) hr', hrun, hended, _, locs, LL, rfl, ⟨?_, I.warm X.warmed, N⟩, w1, w2, w3, w4.mono hc hs⟩
  show Q _ T.heap _
  rw [eT]; exact hq
theorem GoS.retN {t : FieldType} {v : Int32} (hr : ret = some t) (ht : t = .boolean ∨ t = .byte ∨ t = .char ∨ t = .short) (hd : decode code pc = .ok (.ireturn, 1)) (hq : Q (some (.int (nar t v))) h LL) (hc : cells ≤ R.cells := by decide) (hs : slots ≤ R.slots := by decide) : GoS l R Z n0 y code ml ret Q h0 LL cells slots h pc Ls (.int v :: st) := by
  intro p e s vm0 k0 m args below meth c T locs C e0 X hS hk N eT I
  obtain ⟨fs, hr', hrun, hended, w1, w2, w3, w4⟩ := X.leaveW hS (eT ▸ hk) (v := some (.int (nar t v))) (fun q => by rw [C.2.2.2.2.2.1, hr] at q; cases q) C.2.2.2.2.2.2.1
  refine ⟨_, _, Jvm.RoadKit.retN X C.1 (C.2.2.2.2.2.1.trans hr) ht (hb C.2.2.2.1 hd) hr', hrun, hended, _, locs, LL, rfl, ⟨?_, I.warm X.warmed, N⟩, w1, w2, w3, w4.mono hc hs⟩
  show Q _ T.heap _
  rw [eT]; exact hq
theorem GoS.retR {t : FieldType} {v : Value} (hr : ret = some t) (ht : t.isReference = true) (hv : v.isRef = true) (hn : narrow t v = v) (hd : decode code pc = .ok (.areturn, 1)) (hq : Q (some v) h LL) (hc : cells ≤ R.cells := by decide) (hs : slots ≤ R.slots := by decide) : GoS l R Z n0 y code ml ret Q h0 LL cells slots h pc Ls (v :: st) := by
  intro p e s vm0 k0 m args below meth c T locs C e0 X hS hk N eT I
  obtain ⟨fs, hr', hrun, hended, w1, w2, w3, w4⟩ := X.leaveW hS (eT ▸ hk) (v := some v) (fun q => by rw [C.2.2.2.2.2.1, hr] at q; cases q) C.2.2.2.2.2.2.1
  refine ⟨_, _, retOut X C.1 (C.2.2.2.2.2.1.trans hr) hn (Or.inr (Or.inr (Or.inr (Or.inr ⟨rfl, ht, hv⟩)))) (hb C.2.2.2.1 hd) hr', hrun, hended, _, locs, LL, rfl, ⟨?_, I.warm X.warmed, N⟩, w1, w2, w3, w4.mono hc hs⟩
  show Q _ T.heap _
  rw [eT]; exact hq
theorem GoS.callS {z : MethodName} {zc : ByteArray} {zm : Nat} {zr : Option FieldType} {rm : Room} {Q' : Option Value → Heap → List (String × Addr × String × Nat) → Prop} {cells' slots' i : Nat} (argsL rest : List Value) {ps : List FieldType} {r : Option FieldType} (w1 : (Jvm.Cond.methodLink y.cls i z).before a0 Z = true) (w2 : (Jvm.Cond.static z).before a0 Z = true) (wi : (Jvm.Cond.initialized z.cls).before a0 Z = true) (wc : (Jvm.Cond.code z zc zm zr).before a0 Z = true) (hy : z.cls ≠ "java/lang/invoke/MethodHandle" ∧ z.cls ≠ "java/lang/invoke/VarHandle") (hK : ConS l z zc zm zr rm Z n0 argsL.toArray h LL Q') (hpd : parseMethodDescriptor z.desc = some ⟨ps, r⟩) (hd : decode code pc = .ok (.invokestatic i, 3)) (hp : pc + 3 = pc')
    (k : ∀ v h' LL', Q' v h' LL' → GoS l R Z n0 y code ml ret Q h0 LL' cells' slots' h' pc' Ls (v.toList ++ rest)) (hlen : argsL.length = ps.length := by rfl) (hst : st = argsL.reverse ++ rest := by rfl) (hz : Ls.size = ml := by rfl) (hc' : cells + rm.cells = cells' := by rfl) (hs' : slots + rm.slots = slots' := by rfl) (hfr : rm.frames + 1 ≤ R.frames := by exact Nat.le_of_ble_eq_true rfl) (hlo : (rest.map fun v => v.category).sum + (zm + 11) + rm.locals ≤ R.locals := by exact Nat.le_of_ble_eq_true rfl) (hc : cells' ≤ R.cells := by exact Nat.le_of_ble_eq_true rfl) (hs : slots' ≤ R.slots := by exact Nat.le_of_ble_eq_true rfl) : GoS l R Z n0 y code ml ret Q h0 LL cells slots h pc Ls st := by
  intro p e s vm0 k0 m args below meth c T locs C e0 X hS hk N eT I
  subst hc' hs' hp hst
  have hold : Old Z n0 h := own_old (s := s.setVm vm0) C.2.2.2.2.2.2.2.2 X N eT
  obtain ⟨v, _, ⟨T', L', k', n'⟩, -, X', hS', hgr, ⟨Lc, LL', hQ, hI, hN, l', y', z'⟩, st⟩ := callSS X C.1 (y := z) C.2.2.1 (mvT C.2.1 w1) (mvT C.2.1 w2) (mvT C.2.1 wi) (mvT C.2.1 wc) hy (own_backS (s := s.setVm vm0) (W := (rest.map fun v => v.category).sum) (hK hold) C.2.1 wc wi hfr hlo) (g := mkF m pc Ls (argsL.reverse ++ rest)) rfl (by rw [C.2.2.2.2.1]; exact hz) (argsL := argsL) (rest := rest) (lenOf hpd hlen) rfl (by simp) (hb C.2.2.2.1 hd) (fun _ hw1 => ⟨rfl, eT, I.warm hw1, hc, hs⟩)
  dsimp only [Pt.U, Pt.locs, Pt.cells, Pt.slots] at X' l' y' z' st hQ hS' hgr hI
  subst l' y' z'
  obtain ⟨s₂, o, h1, h2⟩ := k v _ LL' hQ p e s T'.vm T'.heap.size m args below meth c T' _ (C.re hS'.1) e0 X' (hS.trans hS' (Nat.le_trans hk (eT ▸ hgr))) (Nat.le_refl _) (Fr.app N hN) rfl hI
  exact ⟨s₂, o, st.trans h1, h2⟩
theorem GoS.callC {z : MethodName} {zc : ByteArray} {zm : Nat} {zr : Option FieldType} {rm : Room} {Q' : Option Value → Heap → List (String × Addr × String × Nat) → Prop} {cells' slots' i : Nat} (argsL rest : List Value) {ps : List FieldType} {r : Option FieldType} {a : Addr} (hzi : z.name = "<init>") (hzr : zr = none) (w1 : (Jvm.Cond.methodLink y.cls i z).before a0 Z = true) (w2 : (Jvm.Cond.instanceMethod z).before a0 Z = true) (wi : (Jvm.Cond.initialized z.cls).before a0 Z = true) (wc : (Jvm.Cond.code z zc zm zr).before a0 Z = true) (hy : z.cls ≠ "java/lang/invoke/MethodHandle" ∧ z.cls ≠ "java/lang/invoke/VarHandle") (hK : ConS l z zc zm zr rm Z n0 (.ref a :: argsL).toArray h LL Q') (hpd : parseMethodDescriptor z.desc = some ⟨ps, r⟩) (hd : decode code pc = .ok (.invokespecial i, 3)) (hp : pc + 3 = pc')
    (k : ∀ v h' LL', Q' v h' LL' → GoS l R Z n0 y code ml ret Q h0 LL' cells' slots' h' pc' Ls (v.toList ++ rest)) (hlen : argsL.length = ps.length := by rfl) (hst : st = argsL.reverse ++ .ref a :: rest := by rfl) (hz : Ls.size = ml := by rfl) (hc' : cells + rm.cells = cells' := by rfl) (hs' : slots + rm.slots = slots' := by rfl) (hfr : rm.frames + 1 ≤ R.frames := by exact Nat.le_of_ble_eq_true rfl) (hlo : (rest.map fun v => v.category).sum + (zm + 11) + rm.locals ≤ R.locals := by exact Nat.le_of_ble_eq_true rfl) (hc : cells' ≤ R.cells := by exact Nat.le_of_ble_eq_true rfl) (hs : slots' ≤ R.slots := by exact Nat.le_of_ble_eq_true rfl) : GoS l R Z n0 y code ml ret Q h0 LL cells slots h pc Ls st := by
  intro p e s vm0 k0 m args below meth c T locs C e0 X hS hk N eT I
  subst hc' hs' hp hst
  have hold : Old Z n0 h := own_old (s := s.setVm vm0) C.2.2.2.2.2.2.2.2 X N eT
  subst hzr
  obtain ⟨v, _, ⟨T', L', k', n'⟩, -, X', hS', hgr, ⟨Lc, LL', hQ, hI, hN, l', y', z'⟩, st⟩ := X.specialBackS C.1 (y := z) hzi C.2.2.1 (mvT C.2.1 w1) (mvT C.2.1 w2) (mvT C.2.1 wc) hy (own_backS (s := s.setVm vm0) (W := (rest.map fun v => v.category).sum) (hK hold) C.2.1 wc wi hfr hlo) (g := mkF m pc Ls (argsL.reverse ++ .ref a :: rest)) rfl (by rw [C.2.2.2.2.1]; exact hz) (Steps.refl _) (a := a) (argsL := argsL) (rest := rest) (lenOf hpd hlen) rfl (by simp) (hb C.2.2.2.1 hd) (fun _ hw1 => ⟨rfl, eT, I.warm hw1, hc, hs⟩)
  dsimp only [Pt.U, Pt.locs, Pt.cells, Pt.slots] at X' l' y' z' st hQ hS' hgr hI
  subst l' y' z'
  obtain ⟨s₂, o, h1, h2⟩ := k v _ LL' hQ p e s T'.vm T'.heap.size m args below meth c T' _ (C.re hS'.1) e0 X' (hS.trans hS' (Nat.le_trans hk (eT ▸ hgr))) (Nat.le_refl _) (Fr.app N hN) rfl hI
  exact ⟨s₂, o, st.trans h1, h2⟩
theorem GoS.callV {z : MethodName} {zc : ByteArray} {zm : Nat} {zr : Option FieldType} {rm : Room} {Q' : Option Value → Heap → List (String × Addr × String × Nat) → Prop} {cells' slots' i : Nat} (argsL rest : List Value) {ps : List FieldType} {r : Option FieldType} {a : Addr} {x' : MethodName} {C' : String} (E : Exa Z h a C') (w1 : (Jvm.Cond.methodLink y.cls i x').before a0 Z = true) (w2 : (Jvm.Cond.declares x').before a0 Z = true) (nf : ∀ s' : State, Z.Warmed39 s'.vm → NotFace s' x') (w3 : (Jvm.Cond.selects C' x' z).before a0 Z = true) (w4 : (Jvm.Cond.instanceMethod z).before a0 Z = true) (wi : (Jvm.Cond.initialized z.cls).before a0 Z = true) (wc : (Jvm.Cond.code z zc zm zr).before a0 Z = true) (hy : x'.cls ≠ "java/lang/invoke/MethodHandle" ∧ x'.cls ≠ "java/lang/invoke/VarHandle") (hK : ConS l z zc zm zr rm Z n0 (.ref a :: argsL).toArray h LL Q') (hpd : parseMethodDescriptor x'.desc = some ⟨ps, r⟩) (hd : decode code pc = .ok (.invokevirtual i, 3)) (hp : pc + 3 = pc')
    (k : ∀ v h' LL', Q' v h' LL' → GoS l R Z n0 y code ml ret Q h0 LL' cells' slots' h' pc' Ls (v.toList ++ rest)) (hlen : argsL.length = ps.length := by rfl) (hst : st = argsL.reverse ++ .ref a :: rest := by rfl) (hz : Ls.size = ml := by rfl) (hc' : cells + rm.cells = cells' := by rfl) (hs' : slots + rm.slots = slots' := by rfl) (hfr : rm.frames + 1 ≤ R.frames := by exact Nat.le_of_ble_eq_true rfl) (hlo : (rest.map fun v => v.category).sum + (zm + 11) + rm.locals ≤ R.locals := by exact Nat.le_of_ble_eq_true rfl) (hc : cells' ≤ R.cells := by exact Nat.le_of_ble_eq_true rfl) (hs : slots' ≤ R.slots := by exact Nat.le_of_ble_eq_true rfl) : GoS l R Z n0 y code ml ret Q h0 LL cells slots h pc Ls st := by
  intro p e s vm0 k0 m args below meth c T locs C e0 X hS hk N eT I
  subst hc' hs' hp hst
  have hold : Old Z n0 h := own_old (s := s.setVm vm0) C.2.2.2.2.2.2.2.2 X N eT
  obtain ⟨cq, kq, qa, qb, qc⟩ := isOf C.2.1 eT E
  obtain ⟨v, _, ⟨T', L', k', n'⟩, -, X', hS', hgr, ⟨Lc, LL', hQ, hI, hN, l', y', z'⟩, st⟩ := X.virtualBackS C.1 (y := x') (z := z) C.2.2.1 (mvT C.2.1 w1) (mvT C.2.1 w2) (nf (s.setVm vm0) C.2.1) (mvT C.2.1 w3) (mvT C.2.1 w4) hy (own_backS (s := s.setVm vm0) (W := (rest.map fun v => v.category).sum) (hK hold) C.2.1 wc wi hfr hlo) qa qc (g := mkF m pc Ls (argsL.reverse ++ .ref a :: rest)) rfl (by rw [C.2.2.2.2.1]; exact hz) (Steps.refl _) (argsL := argsL) (rest := rest) (lenOf hpd hlen) rfl (by simp) (hb C.2.2.2.1 hd) (fun _ hw1 => ⟨rfl, eT, I.warm hw1, hc, hs⟩)
  dsimp only [Pt.U, Pt.locs, Pt.cells, Pt.slots] at X' l' y' z' st hQ hS' hgr hI
  subst l' y' z'
  obtain ⟨s₂, o, h1, h2⟩ := k v _ LL' hQ p e s T'.vm T'.heap.size m args below meth c T' _ (C.re hS'.1) e0 X' (hS.trans hS' (Nat.le_trans hk (eT ▸ hgr))) (Nat.le_refl _) (Fr.app N hN) rfl hI
  exact ⟨s₂, o, st.trans h1, h2⟩
end RulesS
end Jvm.OwnGo
namespace Jvm.OwnNum
theorem mask (x m : Int32) (hm : 0 ≤ m.toInt) : 0 ≤ (x &&& m).toInt ∧ (x &&& m).toInt ≤ m.toInt := by
  have e : ∀ z : Int32, z.toInt = z.toBitVec.toInt := fun _ => rfl
  have hb : (x &&& m).toBitVec = x.toBitVec &&& m.toBitVec := rfl
  rw [e] at hm
  rw [e (x &&& m), e m, hb]
  have h1 : 2 * m.toBitVec.toNat < 2 ^ 32 := by
    rw [BitVec.toInt_eq_toNat_cond] at hm
    split at hm
    · assumption
    · have := m.toBitVec.isLt; omega
  have h2 : (x.toBitVec &&& m.toBitVec).toNat ≤ m.toBitVec.toNat := by
    rw [BitVec.toNat_and]; exact Nat.and_le_right
  rw [BitVec.toInt_eq_toNat_of_lt (x := m.toBitVec) h1, BitVec.toInt_eq_toNat_of_lt (x := x.toBitVec &&& m.toBitVec) (by omega)]
  omega
theorem modr (y k : Int32) (hy : 0 ≤ y.toInt) (hk : 0 < k.toInt) : 0 ≤ (y % k).toInt ∧ (y % k).toInt < k.toInt := by
  rw [Int32.toInt_mod]
  exact ⟨Int.tmod_nonneg _ hy, Int.tmod_lt_of_pos _ hk⟩
theorem maskmod (x k : Int32) (hk : 0 < k.toInt) : 0 ≤ ((x &&& 2147483647) % k).toInt ∧ ((x &&& 2147483647) % k).toInt < k.toInt := modr _ k (mask x 2147483647 (by decide)).1 hk
theorem eqI {a k : Int32} (h : a.toInt = k.toInt) : a = k := Int32.toInt_inj.mp h
end Jvm.OwnNum
namespace Jvm.OwnNum
end Jvm.OwnNum
namespace Jvm.OwnNum
theorem b8 (x : Int32) : x.toInt8.toInt32.toInt8.toInt32 = x.toInt8.toInt32 := by simp
theorem le255 (x : Int32) : ¬ (255 : Int32) < x &&& 255 := by
  have h := mask x 255 (by decide)
  have e : (255 : Int32).toInt = 255 := by decide
  rw [Int32.lt_iff_toInt_lt]; omega
end Jvm.OwnNum
namespace Jvm.OwnGo
open Jvm Jvm.ClassFile Sem Op Lib Jvm.Free Jvm.Stand Jvm.LawKit Jvm.RoadKit
section Sheet
variable {args : Array Value} {s : State} {t : Term} {a : Addr}
end Sheet
end Jvm.OwnGo
namespace Jvm.OwnGo
open Jvm Jvm.ClassFile Sem Op Lib Jvm.Free Jvm.Stand Jvm.LawKit Jvm.RoadKit
end Jvm.OwnGo
namespace Jvm.OwnGo
open Jvm Jvm.ClassFile Sem Op Lib Jvm.Free Jvm.Stand Jvm.LawKit Jvm.RoadKit
end Jvm.OwnGo
namespace Jvm.OwnGo
open Jvm Jvm.ClassFile Sem Op Lib Jvm.Free Jvm.Stand Jvm.LawKit Jvm.RoadKit
end Jvm.OwnGo
namespace Jvm.Pilot.@@N@@
open Jvm Jvm.ClassFile Sem Op Lib Jvm.Free Jvm.Stand Jvm.LawKit Jvm.RoadKit Bundle Jvm.OwnGo Jvm.Pilot.@@N@@.Jvm.D
set_option maxRecDepth 65536
set_option maxHeartbeats 4000000
theorem ww {Z : State} {a0 : Array Value} (hw : ∀ d ∈ tables_1, d.before a0 Z = true) (i : Nat) {d : Jvm.Cond} (h : tables_1[i]? = some d) : d.before a0 Z = true := hw d (List.mem_of_getElem? h)
theorem nfS {Z : State} {a0 : Array Value} {C : String} {x : MethodName} (w : (Jvm.Cond.selects C x x).before a0 Z = true) : ∀ s' : State, Z.Warmed39 s'.vm → NotFace s' x := fun s' hs' => notFace_of_selects (args := #[]) (mvT hs' w)
theorem nfP {Z : State} {a0 : Array Value} {x : MethodName} {S : String} (w : (Jvm.Cond.superclass x.cls S).before a0 Z = true) : ∀ s' : State, Z.Warmed39 s'.vm → NotFace s' x := fun s' hs' => nf_super (args := #[]) (mvT hs' w)
abbrev rm4 (a b c d : Nat) : Room := { frames := a, cells := b, slots := c, locals := d }
theorem nl {n m : Nat} (h : Nat.ble n m = true) : n ≤ m := Nat.le_of_ble_eq_true h
theorem own_ite1 {P : Prop} [Decidable P] (h : ¬ (if P then (1 : Int32) else 0) = (0 : Int32)) : some (Value.int (nar .boolean 1)) = some (Value.int (if P then (1 : Int32) else 0)) := by
  by_cases q : P
  · rw [if_pos q]; rfl
  · rw [if_neg q] at h; exact absurd rfl h
theorem own_ite0 {P : Prop} [Decidable P] (h : (if P then (1 : Int32) else 0) = (0 : Int32)) : some (Value.int (nar .boolean 0)) = some (Value.int (if P then (1 : Int32) else 0)) := by
  rw [h]; rfl

theorem wsA {Z : State} {a0 : Array Value} (hw : ∀ d ∈ tables_1, d.before a0 Z = true) : ∀ a ∈ Bundle.stringAtoms, a.before a0 Z = true := fun d hd => by
  simp only [Bundle.stringAtoms, List.mem_cons, List.not_mem_nil, or_false] at hd
  rcases hd with rfl | rfl | rfl | rfl | rfl | rfl | rfl
  · exact (ww hw 7 rfl)
  · exact (ww hw 6 rfl)
  · exact (ww hw 23 rfl)
  · exact (ww hw 24 rfl)
  · exact (ww hw 25 rfl)
  · exact (ww hw 26 rfl)
  · exact (ww hw 27 rfl)
theorem own_mod5 (x : Int32) : (x &&& (2147483647 : Int32)) % (5 : Int32) = (0 : Int32) ∨ (x &&& (2147483647 : Int32)) % (5 : Int32) = (1 : Int32) ∨ (x &&& (2147483647 : Int32)) % (5 : Int32) = (2 : Int32) ∨ (x &&& (2147483647 : Int32)) % (5 : Int32) = (3 : Int32) ∨ (x &&& (2147483647 : Int32)) % (5 : Int32) = (4 : Int32) := by
  obtain ⟨h1, h2⟩ := OwnNum.maskmod x 5 (by decide)
  have e : (5 : Int32).toInt = 5 := by decide
  have e' : (4 : Int32).toInt = 4 := by decide
  generalize (x &&& (2147483647 : Int32)) % (5 : Int32) = z at h1 h2 ⊢
  have q : z.toInt = 0 ∨ z.toInt = 1 ∨ z.toInt = 2 ∨ z.toInt = 3 ∨ z.toInt = 4 := by omega
  rcases q with q | q | q | q | q
  · exact Or.inl (OwnNum.eqI (q.trans (by decide)))
  · exact Or.inr (Or.inl (OwnNum.eqI (q.trans (by decide))))
  · exact Or.inr (Or.inr (Or.inl (OwnNum.eqI (q.trans (by decide)))))
  · exact Or.inr (Or.inr (Or.inr (Or.inl (OwnNum.eqI (q.trans (by decide))))))
  · exact Or.inr (Or.inr (Or.inr (Or.inr ((OwnNum.eqI (q.trans (by decide)))))))
theorem own_rng {k : Int32} (h : ¬ (255 : Int32) < k) (hn : nar .char k = k) : ∃ n : Fin 256, k = Int32.ofNat n.val := by
  have e : k.toUInt32.toUInt16.toUInt32.toInt32 = k := hn
  have h1 : k.toInt ≤ 255 := by
    have := Int32.not_lt.mp h
    exact Int32.le_iff_toInt_le.mp this
  have h0 : 0 ≤ k.toInt := by
    rw [← e]
    generalize k.toUInt32.toUInt16 = u
    have hu : u.toNat < 65536 := u.toNat_lt
    have : (u.toUInt32.toInt32).toInt = (u.toNat : Int) := by
      show (u.toUInt32.toBitVec).toInt = _
      rw [BitVec.toInt_eq_toNat_of_lt (by show 2 * u.toUInt32.toNat < 2 ^ 32; rw [UInt16.toNat_toUInt32]; omega)]
      show ((u.toUInt32.toNat : Nat) : Int) = _
      rw [UInt16.toNat_toUInt32]
    omega
  refine ⟨⟨k.toInt.toNat, by omega⟩, Int32.toInt_inj.mp ?_⟩
  show k.toInt = (Int32.ofNat k.toInt.toNat).toInt
  rw [Int32.toInt_ofNat_small (by omega)]
  omega
theorem own_tab : ∀ n : Fin 256, ((Int32.ofNat n.val).toInt8.toInt32 &&& 255) = Int32.ofNat n.val ∧ ((Int32.ofNat n.val).toInt8.toInt32 = 124 → Int32.ofNat n.val = 124) := by decide +kernel
theorem own_b255 {k : Int32} (h : ¬ (255 : Int32) < k) (hn : nar .char k = k) : (k.toInt8.toInt32 &&& (255 : Int32)) = k := by
  obtain ⟨n, rfl⟩ := own_rng h hn
  exact (own_tab n).1
theorem own_bne {k : Int32} (h : ¬ (255 : Int32) < k) (hn : nar .char k = k) (q : ¬ k = (124 : Int32)) : ¬ k.toInt8.toInt32 = (124 : Int32) := by
  obtain ⟨n, rfl⟩ := own_rng h hn
  exact fun z => q ((own_tab n).2 z)
theorem own_beq {k : Int32} (q : k = (124 : Int32)) : k.toInt8.toInt32 = (124 : Int32) := by rw [q]; decide
theorem d11_0 : decode jdk_42_method_152_code 0 = .ok (.getstatic 38, 3) := by decide +kernel
theorem d11_3 : decode jdk_42_method_152_code 3 = .ok (.ifCond .eq 10, 3) := by decide +kernel
theorem d11_6 : decode jdk_42_method_152_code 6 = .ok (.aload_n 0, 1) := by decide +kernel
theorem d11_7 : decode jdk_42_method_152_code 7 = .ok (.getfield 15, 3) := by decide +kernel
theorem d11_10 : decode jdk_42_method_152_code 10 = .ok (.goto 4, 3) := by decide +kernel
theorem d11_14 : decode jdk_42_method_152_code 14 = .ok (.ireturn, 1) := by decide +kernel
theorem pn_0 : plainName "java/lang/String" = true := by first | (simp [plainName, overriddenIn]; done) | decide +kernel
theorem d9_0 : decode jdk_42_method_154_code 0 = .ok (.getstatic 38, 3) := by decide +kernel
theorem d9_3 : decode jdk_42_method_154_code 3 = .ok (.ifCond .eq 14, 3) := by decide +kernel
theorem d9_6 : decode jdk_42_method_154_code 6 = .ok (.aload_n 0, 1) := by decide +kernel
theorem d9_7 : decode jdk_42_method_154_code 7 = .ok (.getfield 15, 3) := by decide +kernel
theorem d9_10 : decode jdk_42_method_154_code 10 = .ok (.ifCond .ne 7, 3) := by decide +kernel
theorem d9_13 : decode jdk_42_method_154_code 13 = .ok (.iconst 1, 1) := by decide +kernel
theorem d9_14 : decode jdk_42_method_154_code 14 = .ok (.goto 4, 3) := by decide +kernel
theorem d9_18 : decode jdk_42_method_154_code 18 = .ok (.ireturn, 1) := by decide +kernel
theorem d36_0 : decode jdk_41_method_11_code 0 = .ok (.iload_n 0, 1) := by decide +kernel
theorem d36_1 : decode jdk_41_method_11_code 1 = .ok (.ifCond .lt 8, 3) := by decide +kernel
theorem d36_4 : decode jdk_41_method_11_code 4 = .ok (.iload_n 0, 1) := by decide +kernel
theorem d36_5 : decode jdk_41_method_11_code 5 = .ok (.iload_n 1, 1) := by decide +kernel
theorem d36_6 : decode jdk_41_method_11_code 6 = .ok (.if_icmp .lt 10, 3) := by decide +kernel
theorem d36_16 : decode jdk_41_method_11_code 16 = .ok (.iload_n 0, 1) := by decide +kernel
theorem d36_17 : decode jdk_41_method_11_code 17 = .ok (.ireturn, 1) := by decide +kernel
theorem pn_1 : plainName "jdk/internal/util/Preconditions" = true := by first | (simp [plainName, overriddenIn]; done) | decide +kernel
theorem d35_0 : decode jdk_42_method_155_code 0 = .ok (.iload_n 0, 1) := by decide +kernel
theorem d35_1 : decode jdk_42_method_155_code 1 = .ok (.iload_n 1, 1) := by decide +kernel
theorem d35_2 : decode jdk_42_method_155_code 2 = .ok (.getstatic 1053, 3) := by decide +kernel
theorem d35_5 : decode jdk_42_method_155_code 5 = .ok (.invokestatic 1059, 3) := by decide +kernel
theorem d35_8 : decode jdk_42_method_155_code 8 = .ok (.pop, 1) := by decide +kernel
theorem d35_9 : decode jdk_42_method_155_code 9 = .ok (.return_, 1) := by decide +kernel
theorem pd_0 : parseMethodDescriptor "(IILjava/util/function/BiFunction;)I" = some ⟨[.int, .int, (.object "java/util/function/BiFunction")], some .int⟩ := by decide +kernel
theorem d10_0 : decode jdk_42_method_54_code 0 = .ok (.aload_n 0, 1) := by decide +kernel
theorem d10_1 : decode jdk_42_method_54_code 1 = .ok (.getfield 9, 3) := by decide +kernel
theorem d10_4 : decode jdk_42_method_54_code 4 = .ok (.arraylength, 1) := by decide +kernel
theorem d10_5 : decode jdk_42_method_54_code 5 = .ok (.aload_n 0, 1) := by decide +kernel
theorem d10_6 : decode jdk_42_method_54_code 6 = .ok (.invokevirtual 335, 3) := by decide +kernel
theorem d10_9 : decode jdk_42_method_54_code 9 = .ok (.ishr, 1) := by decide +kernel
theorem d10_10 : decode jdk_42_method_54_code 10 = .ok (.ireturn, 1) := by decide +kernel
theorem pd_1 : parseMethodDescriptor "()B" = some ⟨[], some .byte⟩ := by decide +kernel
theorem d34_0 : decode jdk_43_method_2_code 0 = .ok (.iload_n 1, 1) := by decide +kernel
theorem d34_1 : decode jdk_43_method_2_code 1 = .ok (.aload_n 0, 1) := by decide +kernel
theorem d34_2 : decode jdk_43_method_2_code 2 = .ok (.arraylength, 1) := by decide +kernel
theorem d34_3 : decode jdk_43_method_2_code 3 = .ok (.invokestatic 9, 3) := by decide +kernel
theorem d34_6 : decode jdk_43_method_2_code 6 = .ok (.aload_n 0, 1) := by decide +kernel
theorem d34_7 : decode jdk_43_method_2_code 7 = .ok (.iload_n 1, 1) := by decide +kernel
theorem d34_8 : decode jdk_43_method_2_code 8 = .ok (.baload, 1) := by decide +kernel
theorem d34_9 : decode jdk_43_method_2_code 9 = .ok (.sipush 255, 3) := by decide +kernel
theorem d34_12 : decode jdk_43_method_2_code 12 = .ok (.iand, 1) := by decide +kernel
theorem d34_13 : decode jdk_43_method_2_code 13 = .ok (.i2c, 1) := by decide +kernel
theorem d34_14 : decode jdk_43_method_2_code 14 = .ok (.ireturn, 1) := by decide +kernel
theorem pd_2 : parseMethodDescriptor "(II)V" = some ⟨[.int, .int], none⟩ := by decide +kernel
theorem pn_2 : plainName "java/lang/StringLatin1" = true := by first | (simp [plainName, overriddenIn]; done) | decide +kernel
theorem d33_0 : decode jdk_42_method_56_code 0 = .ok (.aload_n 0, 1) := by decide +kernel
theorem d33_1 : decode jdk_42_method_56_code 1 = .ok (.invokevirtual 492, 3) := by decide +kernel
theorem d33_4 : decode jdk_42_method_56_code 4 = .ok (.ifCond .eq 12, 3) := by decide +kernel
theorem d33_7 : decode jdk_42_method_56_code 7 = .ok (.aload_n 0, 1) := by decide +kernel
theorem d33_8 : decode jdk_42_method_56_code 8 = .ok (.getfield 9, 3) := by decide +kernel
theorem d33_11 : decode jdk_42_method_56_code 11 = .ok (.iload_n 1, 1) := by decide +kernel
theorem d33_12 : decode jdk_42_method_56_code 12 = .ok (.invokestatic 495, 3) := by decide +kernel
theorem d33_15 : decode jdk_42_method_56_code 15 = .ok (.ireturn, 1) := by decide +kernel
theorem pd_3 : parseMethodDescriptor "()Z" = some ⟨[], some .boolean⟩ := by decide +kernel
theorem pd_4 : parseMethodDescriptor "([BI)C" = some ⟨[(.array .byte), .int], some .char⟩ := by decide +kernel
theorem d1_0 : decode method_2_code 0 = .ok (.iload_n 0, 1) := by decide +kernel
theorem d1_1 : decode method_2_code 1 = .ok (.iconst 3, 1) := by decide +kernel
theorem d1_2 : decode method_2_code 2 = .ok (.iand, 1) := by decide +kernel
theorem d1_3 : decode method_2_code 3 = .ok (.ifCond .ne 8, 3) := by decide +kernel
theorem d1_6 : decode method_2_code 6 = .ok (.bipush 124, 2) := by decide +kernel
theorem d1_8 : decode method_2_code 8 = .ok (.goto 11, 3) := by decide +kernel
theorem d1_11 : decode method_2_code 11 = .ok (.iload_n 0, 1) := by decide +kernel
theorem d1_12 : decode method_2_code 12 = .ok (.iconst 2, 1) := by decide +kernel
theorem d1_13 : decode method_2_code 13 = .ok (.iushr, 1) := by decide +kernel
theorem d1_14 : decode method_2_code 14 = .ok (.sipush 255, 3) := by decide +kernel
theorem d1_17 : decode method_2_code 17 = .ok (.iand, 1) := by decide +kernel
theorem d1_18 : decode method_2_code 18 = .ok (.i2c, 1) := by decide +kernel
theorem d1_19 : decode method_2_code 19 = .ok (.ireturn, 1) := by decide +kernel
theorem pn_3 : plainName "com/example/inquire/inquire/io/WikiLinkParsePinLaw" = true := by first | (simp [plainName, overriddenIn]; done) | decide +kernel
theorem d2_0 : decode method_3_code 0 = .ok (.iload_n 0, 1) := by decide +kernel
theorem d2_1 : decode method_3_code 1 = .ok (.ifCond .ne 7, 3) := by decide +kernel
theorem d2_4 : decode method_3_code 4 = .ok (.iconst 0, 1) := by decide +kernel
theorem d2_5 : decode method_3_code 5 = .ok (.newarray .char, 2) := by decide +kernel
theorem d2_7 : decode method_3_code 7 = .ok (.areturn, 1) := by decide +kernel
theorem d2_8 : decode method_3_code 8 = .ok (.iload_n 0, 1) := by decide +kernel
theorem d2_9 : decode method_3_code 9 = .ok (.iconst 1, 1) := by decide +kernel
theorem d2_10 : decode method_3_code 10 = .ok (.if_icmp .ne 11, 3) := by decide +kernel
theorem d2_13 : decode method_3_code 13 = .ok (.iconst 1, 1) := by decide +kernel
theorem d2_14 : decode method_3_code 14 = .ok (.newarray .char, 2) := by decide +kernel
theorem d2_16 : decode method_3_code 16 = .ok (.dup, 1) := by decide +kernel
theorem d2_17 : decode method_3_code 17 = .ok (.iconst 0, 1) := by decide +kernel
theorem d2_18 : decode method_3_code 18 = .ok (.iload_n 1, 1) := by decide +kernel
theorem d2_19 : decode method_3_code 19 = .ok (.castore, 1) := by decide +kernel
theorem d2_20 : decode method_3_code 20 = .ok (.areturn, 1) := by decide +kernel
theorem d2_21 : decode method_3_code 21 = .ok (.iload_n 0, 1) := by decide +kernel
theorem d2_22 : decode method_3_code 22 = .ok (.iconst 2, 1) := by decide +kernel
theorem d2_23 : decode method_3_code 23 = .ok (.if_icmp .ne 15, 3) := by decide +kernel
theorem d2_26 : decode method_3_code 26 = .ok (.iconst 2, 1) := by decide +kernel
theorem d2_27 : decode method_3_code 27 = .ok (.newarray .char, 2) := by decide +kernel
theorem d2_29 : decode method_3_code 29 = .ok (.dup, 1) := by decide +kernel
theorem d2_30 : decode method_3_code 30 = .ok (.iconst 0, 1) := by decide +kernel
theorem d2_31 : decode method_3_code 31 = .ok (.iload_n 1, 1) := by decide +kernel
theorem d2_32 : decode method_3_code 32 = .ok (.castore, 1) := by decide +kernel
theorem d2_33 : decode method_3_code 33 = .ok (.dup, 1) := by decide +kernel
theorem d2_34 : decode method_3_code 34 = .ok (.iconst 1, 1) := by decide +kernel
theorem d2_35 : decode method_3_code 35 = .ok (.iload_n 2, 1) := by decide +kernel
theorem d2_36 : decode method_3_code 36 = .ok (.castore, 1) := by decide +kernel
theorem d2_37 : decode method_3_code 37 = .ok (.areturn, 1) := by decide +kernel
theorem d2_38 : decode method_3_code 38 = .ok (.iload_n 0, 1) := by decide +kernel
theorem d2_39 : decode method_3_code 39 = .ok (.iconst 3, 1) := by decide +kernel
theorem d2_40 : decode method_3_code 40 = .ok (.if_icmp .ne 19, 3) := by decide +kernel
theorem d2_43 : decode method_3_code 43 = .ok (.iconst 3, 1) := by decide +kernel
theorem d2_44 : decode method_3_code 44 = .ok (.newarray .char, 2) := by decide +kernel
theorem d2_46 : decode method_3_code 46 = .ok (.dup, 1) := by decide +kernel
theorem d2_47 : decode method_3_code 47 = .ok (.iconst 0, 1) := by decide +kernel
theorem d2_48 : decode method_3_code 48 = .ok (.iload_n 1, 1) := by decide +kernel
theorem d2_49 : decode method_3_code 49 = .ok (.castore, 1) := by decide +kernel
theorem d2_50 : decode method_3_code 50 = .ok (.dup, 1) := by decide +kernel
theorem d2_51 : decode method_3_code 51 = .ok (.iconst 1, 1) := by decide +kernel
theorem d2_52 : decode method_3_code 52 = .ok (.iload_n 2, 1) := by decide +kernel
theorem d2_53 : decode method_3_code 53 = .ok (.castore, 1) := by decide +kernel
theorem d2_54 : decode method_3_code 54 = .ok (.dup, 1) := by decide +kernel
theorem d2_55 : decode method_3_code 55 = .ok (.iconst 2, 1) := by decide +kernel
theorem d2_56 : decode method_3_code 56 = .ok (.iload_n 3, 1) := by decide +kernel
theorem d2_57 : decode method_3_code 57 = .ok (.castore, 1) := by decide +kernel
theorem d2_58 : decode method_3_code 58 = .ok (.areturn, 1) := by decide +kernel
theorem d2_59 : decode method_3_code 59 = .ok (.iconst 4, 1) := by decide +kernel
theorem d2_60 : decode method_3_code 60 = .ok (.newarray .char, 2) := by decide +kernel
theorem d2_62 : decode method_3_code 62 = .ok (.dup, 1) := by decide +kernel
theorem d2_63 : decode method_3_code 63 = .ok (.iconst 0, 1) := by decide +kernel
theorem d2_64 : decode method_3_code 64 = .ok (.iload_n 1, 1) := by decide +kernel
theorem d2_65 : decode method_3_code 65 = .ok (.castore, 1) := by decide +kernel
theorem d2_66 : decode method_3_code 66 = .ok (.dup, 1) := by decide +kernel
theorem d2_67 : decode method_3_code 67 = .ok (.iconst 1, 1) := by decide +kernel
theorem d2_68 : decode method_3_code 68 = .ok (.iload_n 2, 1) := by decide +kernel
theorem d2_69 : decode method_3_code 69 = .ok (.castore, 1) := by decide +kernel
theorem d2_70 : decode method_3_code 70 = .ok (.dup, 1) := by decide +kernel
theorem d2_71 : decode method_3_code 71 = .ok (.iconst 2, 1) := by decide +kernel
theorem d2_72 : decode method_3_code 72 = .ok (.iload_n 3, 1) := by decide +kernel
theorem d2_73 : decode method_3_code 73 = .ok (.castore, 1) := by decide +kernel
theorem d2_74 : decode method_3_code 74 = .ok (.dup, 1) := by decide +kernel
theorem d2_75 : decode method_3_code 75 = .ok (.iconst 3, 1) := by decide +kernel
theorem d2_76 : decode method_3_code 76 = .ok (.iload 4, 2) := by decide +kernel
theorem d2_78 : decode method_3_code 78 = .ok (.castore, 1) := by decide +kernel
theorem d2_79 : decode method_3_code 79 = .ok (.areturn, 1) := by decide +kernel
theorem d21_0 : decode jdk_52_method_21_code 0 = .ok (.iconst 0, 1) := by decide +kernel
theorem d21_1 : decode jdk_52_method_21_code 1 = .ok (.istore 5, 2) := by decide +kernel
theorem d21_3 : decode jdk_52_method_21_code 3 = .ok (.iload 5, 2) := by decide +kernel
theorem d21_5 : decode jdk_52_method_21_code 5 = .ok (.iload 4, 2) := by decide +kernel
theorem d21_7 : decode jdk_52_method_21_code 7 = .ok (.if_icmp .ge 37, 3) := by decide +kernel
theorem d21_10 : decode jdk_52_method_21_code 10 = .ok (.aload_n 0, 1) := by decide +kernel
theorem d21_11 : decode jdk_52_method_21_code 11 = .ok (.iload_n 1, 1) := by decide +kernel
theorem d21_12 : decode jdk_52_method_21_code 12 = .ok (.caload, 1) := by decide +kernel
theorem d21_13 : decode jdk_52_method_21_code 13 = .ok (.istore 6, 2) := by decide +kernel
theorem d21_15 : decode jdk_52_method_21_code 15 = .ok (.iload 6, 2) := by decide +kernel
theorem d21_17 : decode jdk_52_method_21_code 17 = .ok (.sipush 255, 3) := by decide +kernel
theorem d21_20 : decode jdk_52_method_21_code 20 = .ok (.if_icmp .le 6, 3) := by decide +kernel
theorem d21_26 : decode jdk_52_method_21_code 26 = .ok (.aload_n 2, 1) := by decide +kernel
theorem d21_27 : decode jdk_52_method_21_code 27 = .ok (.iload_n 3, 1) := by decide +kernel
theorem d21_28 : decode jdk_52_method_21_code 28 = .ok (.iload 6, 2) := by decide +kernel
theorem d21_30 : decode jdk_52_method_21_code 30 = .ok (.i2b, 1) := by decide +kernel
theorem d21_31 : decode jdk_52_method_21_code 31 = .ok (.bastore, 1) := by decide +kernel
theorem d21_32 : decode jdk_52_method_21_code 32 = .ok (.iinc 1 1, 3) := by decide +kernel
theorem d21_35 : decode jdk_52_method_21_code 35 = .ok (.iinc 3 1, 3) := by decide +kernel
theorem d21_38 : decode jdk_52_method_21_code 38 = .ok (.iinc 5 1, 3) := by decide +kernel
theorem d21_41 : decode jdk_52_method_21_code 41 = .ok (.goto (-38), 3) := by decide +kernel
theorem d21_44 : decode jdk_52_method_21_code 44 = .ok (.iload 4, 2) := by decide +kernel
theorem d21_46 : decode jdk_52_method_21_code 46 = .ok (.ireturn, 1) := by decide +kernel
theorem pn_4 : plainName "java/lang/StringUTF16" = true := by first | (simp [plainName, overriddenIn]; done) | decide +kernel
theorem d20_0 : decode jdk_52_method_16_code 0 = .ok (.iload_n 2, 1) := by decide +kernel
theorem d20_1 : decode jdk_52_method_16_code 1 = .ok (.newarray .byte, 2) := by decide +kernel
theorem d20_3 : decode jdk_52_method_16_code 3 = .ok (.astore_n 3, 1) := by decide +kernel
theorem d20_4 : decode jdk_52_method_16_code 4 = .ok (.aload_n 0, 1) := by decide +kernel
theorem d20_5 : decode jdk_52_method_16_code 5 = .ok (.iload_n 1, 1) := by decide +kernel
theorem d20_6 : decode jdk_52_method_16_code 6 = .ok (.aload_n 3, 1) := by decide +kernel
theorem d20_7 : decode jdk_52_method_16_code 7 = .ok (.iconst 0, 1) := by decide +kernel
theorem d20_8 : decode jdk_52_method_16_code 8 = .ok (.iload_n 2, 1) := by decide +kernel
theorem d20_9 : decode jdk_52_method_16_code 9 = .ok (.invokestatic 115, 3) := by decide +kernel
theorem d20_12 : decode jdk_52_method_16_code 12 = .ok (.istore 4, 2) := by decide +kernel
theorem d20_14 : decode jdk_52_method_16_code 14 = .ok (.iload 4, 2) := by decide +kernel
theorem d20_16 : decode jdk_52_method_16_code 16 = .ok (.iload_n 2, 1) := by decide +kernel
theorem d20_17 : decode jdk_52_method_16_code 17 = .ok (.if_icmp .eq 40, 3) := by decide +kernel
theorem d20_57 : decode jdk_52_method_16_code 57 = .ok (.aload_n 3, 1) := by decide +kernel
theorem d20_58 : decode jdk_52_method_16_code 58 = .ok (.areturn, 1) := by decide +kernel
theorem pd_5 : parseMethodDescriptor "([CI[BII)I" = some ⟨[(.array .char), .int, (.array .byte), .int, .int], some .int⟩ := by decide +kernel
theorem d22_0 : decode jdk_52_method_15_code 0 = .ok (.iload_n 1, 1) := by decide +kernel
theorem d22_1 : decode jdk_52_method_15_code 1 = .ok (.aload_n 0, 1) := by decide +kernel
theorem d22_2 : decode jdk_52_method_15_code 2 = .ok (.arraylength, 1) := by decide +kernel
theorem d22_3 : decode jdk_52_method_15_code 3 = .ok (.isub, 1) := by decide +kernel
theorem d22_4 : decode jdk_52_method_15_code 4 = .ok (.bipush 31, 2) := by decide +kernel
theorem d22_6 : decode jdk_52_method_15_code 6 = .ok (.iushr, 1) := by decide +kernel
theorem d22_7 : decode jdk_52_method_15_code 7 = .ok (.i2b, 1) := by decide +kernel
theorem d22_8 : decode jdk_52_method_15_code 8 = .ok (.ireturn, 1) := by decide +kernel
theorem d4_0 : decode jdk_42_method_149_code 0 = .ok (.aload_n 0, 1) := by decide +kernel
theorem d4_1 : decode jdk_42_method_149_code 1 = .ok (.invokespecial 1, 3) := by decide +kernel
theorem d4_4 : decode jdk_42_method_149_code 4 = .ok (.iload_n 3, 1) := by decide +kernel
theorem d4_5 : decode jdk_42_method_149_code 5 = .ok (.ifCond .ne 22, 3) := by decide +kernel
theorem d4_27 : decode jdk_42_method_149_code 27 = .ok (.getstatic 38, 3) := by decide +kernel
theorem d4_30 : decode jdk_42_method_149_code 30 = .ok (.ifCond .eq 28, 3) := by decide +kernel
theorem d4_33 : decode jdk_42_method_149_code 33 = .ok (.aload_n 1, 1) := by decide +kernel
theorem d4_34 : decode jdk_42_method_149_code 34 = .ok (.iload_n 2, 1) := by decide +kernel
theorem d4_35 : decode jdk_42_method_149_code 35 = .ok (.iload_n 3, 1) := by decide +kernel
theorem d4_36 : decode jdk_42_method_149_code 36 = .ok (.invokestatic 177, 3) := by decide +kernel
theorem d4_39 : decode jdk_42_method_149_code 39 = .ok (.astore 5, 2) := by decide +kernel
theorem d4_41 : decode jdk_42_method_149_code 41 = .ok (.aload_n 0, 1) := by decide +kernel
theorem d4_42 : decode jdk_42_method_149_code 42 = .ok (.aload 5, 2) := by decide +kernel
theorem d4_44 : decode jdk_42_method_149_code 44 = .ok (.iload_n 3, 1) := by decide +kernel
theorem d4_45 : decode jdk_42_method_149_code 45 = .ok (.invokestatic 47, 3) := by decide +kernel
theorem d4_48 : decode jdk_42_method_149_code 48 = .ok (.putfield 15, 3) := by decide +kernel
theorem d4_51 : decode jdk_42_method_149_code 51 = .ok (.aload_n 0, 1) := by decide +kernel
theorem d4_52 : decode jdk_42_method_149_code 52 = .ok (.aload 5, 2) := by decide +kernel
theorem d4_54 : decode jdk_42_method_149_code 54 = .ok (.putfield 9, 3) := by decide +kernel
theorem d4_57 : decode jdk_42_method_149_code 57 = .ok (.return_, 1) := by decide +kernel
theorem pd_6 : parseMethodDescriptor "([CII)[B" = some ⟨[(.array .char), .int, .int], some (.array .byte)⟩ := by decide +kernel
theorem pd_7 : parseMethodDescriptor "([BI)B" = some ⟨[(.array .byte), .int], some .byte⟩ := by decide +kernel
theorem d3_0 : decode jdk_42_method_3_code 0 = .ok (.aload_n 0, 1) := by decide +kernel
theorem d3_1 : decode jdk_42_method_3_code 1 = .ok (.aload_n 1, 1) := by decide +kernel
theorem d3_2 : decode jdk_42_method_3_code 2 = .ok (.iconst 0, 1) := by decide +kernel
theorem d3_3 : decode jdk_42_method_3_code 3 = .ok (.aload_n 1, 1) := by decide +kernel
theorem d3_4 : decode jdk_42_method_3_code 4 = .ok (.arraylength, 1) := by decide +kernel
theorem d3_5 : decode jdk_42_method_3_code 5 = .ok (.aconst_null, 1) := by decide +kernel
theorem d3_6 : decode jdk_42_method_3_code 6 = .ok (.invokespecial 27, 3) := by decide +kernel
theorem d3_9 : decode jdk_42_method_3_code 9 = .ok (.return_, 1) := by decide +kernel
theorem pd_8 : parseMethodDescriptor "([CIILjava/lang/Void;)V" = some ⟨[(.array .char), .int, .int, (.object "java/lang/Void")], none⟩ := by decide +kernel
theorem d4_8 : decode jdk_42_method_149_code 8 = .ok (.aload_n 0, 1) := by decide +kernel
theorem d4_9 : decode jdk_42_method_149_code 9 = .ok (.ldc 7, 2) := by decide +kernel
theorem d4_11 : decode jdk_42_method_149_code 11 = .ok (.getfield 9, 3) := by decide +kernel
theorem d4_14 : decode jdk_42_method_149_code 14 = .ok (.putfield 9, 3) := by decide +kernel
theorem d4_17 : decode jdk_42_method_149_code 17 = .ok (.aload_n 0, 1) := by decide +kernel
theorem d4_18 : decode jdk_42_method_149_code 18 = .ok (.ldc 7, 2) := by decide +kernel
theorem d4_20 : decode jdk_42_method_149_code 20 = .ok (.getfield 15, 3) := by decide +kernel
theorem d4_23 : decode jdk_42_method_149_code 23 = .ok (.putfield 15, 3) := by decide +kernel
theorem d4_26 : decode jdk_42_method_149_code 26 = .ok (.return_, 1) := by decide +kernel
theorem tx_0 : (∀ c ∈ ("" : String).toList, c.toNat < 256) ∧ ("" : String).toList.map (fun c => Value.int (Jvm.Lit.byteI c.toNat.toUInt16)) = [] := ⟨by decide, by decide⟩
theorem d13_0 : decode jdk_43_method_4_code 0 = .ok (.iload_n 0, 1) := by decide +kernel
theorem d13_1 : decode jdk_43_method_4_code 1 = .ok (.ifCond .lt 14, 3) := by decide +kernel
theorem d13_4 : decode jdk_43_method_4_code 4 = .ok (.iload_n 0, 1) := by decide +kernel
theorem d13_5 : decode jdk_43_method_4_code 5 = .ok (.sipush 255, 3) := by decide +kernel
theorem d13_8 : decode jdk_43_method_4_code 8 = .ok (.if_icmp .gt 7, 3) := by decide +kernel
theorem d13_11 : decode jdk_43_method_4_code 11 = .ok (.iconst 1, 1) := by decide +kernel
theorem d13_12 : decode jdk_43_method_4_code 12 = .ok (.goto 4, 3) := by decide +kernel
theorem d13_16 : decode jdk_43_method_4_code 16 = .ok (.ireturn, 1) := by decide +kernel
theorem d14_0 : decode jdk_29_method_65_code 0 = .ok (.iload_n 0, 1) := by decide +kernel
theorem d14_1 : decode jdk_29_method_65_code 1 = .ok (.iload_n 1, 1) := by decide +kernel
theorem d14_2 : decode jdk_29_method_65_code 2 = .ok (.if_icmp .lt 7, 3) := by decide +kernel
theorem d14_5 : decode jdk_29_method_65_code 5 = .ok (.iload_n 0, 1) := by decide +kernel
theorem d14_6 : decode jdk_29_method_65_code 6 = .ok (.goto 4, 3) := by decide +kernel
theorem d14_10 : decode jdk_29_method_65_code 10 = .ok (.ireturn, 1) := by decide +kernel
theorem d15_0 : decode jdk_29_method_69_code 0 = .ok (.iload_n 0, 1) := by decide +kernel
theorem d15_1 : decode jdk_29_method_69_code 1 = .ok (.iload_n 1, 1) := by decide +kernel
theorem d15_2 : decode jdk_29_method_69_code 2 = .ok (.if_icmp .gt 7, 3) := by decide +kernel
theorem d15_5 : decode jdk_29_method_69_code 5 = .ok (.iload_n 0, 1) := by decide +kernel
theorem d15_6 : decode jdk_29_method_69_code 6 = .ok (.goto 4, 3) := by decide +kernel
theorem d15_10 : decode jdk_29_method_69_code 10 = .ok (.ireturn, 1) := by decide +kernel
theorem d12_0 : decode jdk_43_method_22_code 0 = .ok (.iload_n 1, 1) := by decide +kernel
theorem d12_1 : decode jdk_43_method_22_code 1 = .ok (.invokestatic 88, 3) := by decide +kernel
theorem d12_4 : decode jdk_43_method_22_code 4 = .ok (.ifCond .ne 5, 3) := by decide +kernel
theorem d12_9 : decode jdk_43_method_22_code 9 = .ok (.iload_n 2, 1) := by decide +kernel
theorem d12_10 : decode jdk_43_method_22_code 10 = .ok (.iconst 0, 1) := by decide +kernel
theorem d12_11 : decode jdk_43_method_22_code 11 = .ok (.invokestatic 92, 3) := by decide +kernel
theorem d12_14 : decode jdk_43_method_22_code 14 = .ok (.istore_n 2, 1) := by decide +kernel
theorem d12_15 : decode jdk_43_method_22_code 15 = .ok (.iload_n 3, 1) := by decide +kernel
theorem d12_16 : decode jdk_43_method_22_code 16 = .ok (.aload_n 0, 1) := by decide +kernel
theorem d12_17 : decode jdk_43_method_22_code 17 = .ok (.arraylength, 1) := by decide +kernel
theorem d12_18 : decode jdk_43_method_22_code 18 = .ok (.invokestatic 38, 3) := by decide +kernel
theorem d12_21 : decode jdk_43_method_22_code 21 = .ok (.istore_n 3, 1) := by decide +kernel
theorem d12_22 : decode jdk_43_method_22_code 22 = .ok (.iload_n 2, 1) := by decide +kernel
theorem d12_23 : decode jdk_43_method_22_code 23 = .ok (.iload_n 3, 1) := by decide +kernel
theorem d12_24 : decode jdk_43_method_22_code 24 = .ok (.if_icmp .lt 5, 3) := by decide +kernel
theorem d12_27 : decode jdk_43_method_22_code 27 = .ok (.iconst (-1), 1) := by decide +kernel
theorem d12_28 : decode jdk_43_method_22_code 28 = .ok (.ireturn, 1) := by decide +kernel
theorem pd_9 : parseMethodDescriptor "(I)Z" = some ⟨[.int], some .boolean⟩ := by decide +kernel
theorem pd_10 : parseMethodDescriptor "(II)I" = some ⟨[.int, .int], some .int⟩ := by decide +kernel
theorem d8_0 : decode jdk_42_method_80_code 0 = .ok (.aload_n 0, 1) := by decide +kernel
theorem d8_1 : decode jdk_42_method_80_code 1 = .ok (.invokevirtual 492, 3) := by decide +kernel
theorem d8_4 : decode jdk_42_method_80_code 4 = .ok (.ifCond .eq 19, 3) := by decide +kernel
theorem d8_7 : decode jdk_42_method_80_code 7 = .ok (.aload_n 0, 1) := by decide +kernel
theorem d8_8 : decode jdk_42_method_80_code 8 = .ok (.getfield 9, 3) := by decide +kernel
theorem d8_11 : decode jdk_42_method_80_code 11 = .ok (.iload_n 1, 1) := by decide +kernel
theorem d8_12 : decode jdk_42_method_80_code 12 = .ok (.iload_n 2, 1) := by decide +kernel
theorem d8_13 : decode jdk_42_method_80_code 13 = .ok (.aload_n 0, 1) := by decide +kernel
theorem d8_14 : decode jdk_42_method_80_code 14 = .ok (.invokevirtual 505, 3) := by decide +kernel
theorem d8_17 : decode jdk_42_method_80_code 17 = .ok (.invokestatic 637, 3) := by decide +kernel
theorem d8_20 : decode jdk_42_method_80_code 20 = .ok (.goto 16, 3) := by decide +kernel
theorem d8_36 : decode jdk_42_method_80_code 36 = .ok (.ireturn, 1) := by decide +kernel
theorem pd_11 : parseMethodDescriptor "()I" = some ⟨[], some .int⟩ := by decide +kernel
theorem pd_12 : parseMethodDescriptor "([BIII)I" = some ⟨[(.array .byte), .int, .int, .int], some .int⟩ := by decide +kernel
theorem d7_0 : decode jdk_42_method_79_code 0 = .ok (.aload_n 0, 1) := by decide +kernel
theorem d7_1 : decode jdk_42_method_79_code 1 = .ok (.iload_n 1, 1) := by decide +kernel
theorem d7_2 : decode jdk_42_method_79_code 2 = .ok (.iconst 0, 1) := by decide +kernel
theorem d7_3 : decode jdk_42_method_79_code 3 = .ok (.invokevirtual 633, 3) := by decide +kernel
theorem d7_6 : decode jdk_42_method_79_code 6 = .ok (.ireturn, 1) := by decide +kernel
theorem d23_0 : decode jdk_43_method_23_code 0 = .ok (.iload_n 1, 1) := by decide +kernel
theorem d23_1 : decode jdk_43_method_23_code 1 = .ok (.i2b, 1) := by decide +kernel
theorem d23_2 : decode jdk_43_method_23_code 2 = .ok (.istore 4, 2) := by decide +kernel
theorem d23_4 : decode jdk_43_method_23_code 4 = .ok (.iload_n 2, 1) := by decide +kernel
theorem d23_5 : decode jdk_43_method_23_code 5 = .ok (.istore 5, 2) := by decide +kernel
theorem d23_7 : decode jdk_43_method_23_code 7 = .ok (.iload 5, 2) := by decide +kernel
theorem d23_9 : decode jdk_43_method_23_code 9 = .ok (.iload_n 3, 1) := by decide +kernel
theorem d23_10 : decode jdk_43_method_23_code 10 = .ok (.if_icmp .ge 21, 3) := by decide +kernel
theorem d23_13 : decode jdk_43_method_23_code 13 = .ok (.aload_n 0, 1) := by decide +kernel
theorem d23_14 : decode jdk_43_method_23_code 14 = .ok (.iload 5, 2) := by decide +kernel
theorem d23_16 : decode jdk_43_method_23_code 16 = .ok (.baload, 1) := by decide +kernel
theorem d23_17 : decode jdk_43_method_23_code 17 = .ok (.iload 4, 2) := by decide +kernel
theorem d23_19 : decode jdk_43_method_23_code 19 = .ok (.if_icmp .ne 6, 3) := by decide +kernel
theorem d23_22 : decode jdk_43_method_23_code 22 = .ok (.iload 5, 2) := by decide +kernel
theorem d23_24 : decode jdk_43_method_23_code 24 = .ok (.ireturn, 1) := by decide +kernel
theorem d23_25 : decode jdk_43_method_23_code 25 = .ok (.iinc 5 1, 3) := by decide +kernel
theorem d23_28 : decode jdk_43_method_23_code 28 = .ok (.goto (-21), 3) := by decide +kernel
theorem d23_31 : decode jdk_43_method_23_code 31 = .ok (.iconst (-1), 1) := by decide +kernel
theorem d23_32 : decode jdk_43_method_23_code 32 = .ok (.ireturn, 1) := by decide +kernel
theorem d12_29 : decode jdk_43_method_22_code 29 = .ok (.aload_n 0, 1) := by decide +kernel
theorem d12_30 : decode jdk_43_method_22_code 30 = .ok (.iload_n 1, 1) := by decide +kernel
theorem d12_31 : decode jdk_43_method_22_code 31 = .ok (.iload_n 2, 1) := by decide +kernel
theorem d12_32 : decode jdk_43_method_22_code 32 = .ok (.iload_n 3, 1) := by decide +kernel
theorem d12_33 : decode jdk_43_method_22_code 33 = .ok (.invokestatic 95, 3) := by decide +kernel
theorem d12_36 : decode jdk_43_method_22_code 36 = .ok (.ireturn, 1) := by decide +kernel
theorem d26_0 : decode jdk_41_method_12_code 0 = .ok (.iload_n 0, 1) := by decide +kernel
theorem d26_1 : decode jdk_41_method_12_code 1 = .ok (.ifCond .lt 13, 3) := by decide +kernel
theorem d26_4 : decode jdk_41_method_12_code 4 = .ok (.iload_n 0, 1) := by decide +kernel
theorem d26_5 : decode jdk_41_method_12_code 5 = .ok (.iload_n 1, 1) := by decide +kernel
theorem d26_6 : decode jdk_41_method_12_code 6 = .ok (.if_icmp .gt 8, 3) := by decide +kernel
theorem d26_9 : decode jdk_41_method_12_code 9 = .ok (.iload_n 1, 1) := by decide +kernel
theorem d26_10 : decode jdk_41_method_12_code 10 = .ok (.iload_n 2, 1) := by decide +kernel
theorem d26_11 : decode jdk_41_method_12_code 11 = .ok (.if_icmp .le 11, 3) := by decide +kernel
theorem d26_22 : decode jdk_41_method_12_code 22 = .ok (.iload_n 0, 1) := by decide +kernel
theorem d26_23 : decode jdk_41_method_12_code 23 = .ok (.ireturn, 1) := by decide +kernel
theorem d25_0 : decode jdk_42_method_158_code 0 = .ok (.iload_n 0, 1) := by decide +kernel
theorem d25_1 : decode jdk_42_method_158_code 1 = .ok (.iload_n 1, 1) := by decide +kernel
theorem d25_2 : decode jdk_42_method_158_code 2 = .ok (.iload_n 2, 1) := by decide +kernel
theorem d25_3 : decode jdk_42_method_158_code 3 = .ok (.getstatic 1053, 3) := by decide +kernel
theorem d25_6 : decode jdk_42_method_158_code 6 = .ok (.invokestatic 1062, 3) := by decide +kernel
theorem d25_9 : decode jdk_42_method_158_code 9 = .ok (.pop, 1) := by decide +kernel
theorem d25_10 : decode jdk_42_method_158_code 10 = .ok (.return_, 1) := by decide +kernel
theorem pd_13 : parseMethodDescriptor "(IIILjava/util/function/BiFunction;)I" = some ⟨[.int, .int, .int, (.object "java/util/function/BiFunction")], some .int⟩ := by decide +kernel
theorem d30_0 : decode jdk_65_method_131_code 0 = .ok (.iload_n 1, 1) := by decide +kernel
theorem d30_1 : decode jdk_65_method_131_code 1 = .ok (.iload_n 0, 1) := by decide +kernel
theorem d30_2 : decode jdk_65_method_131_code 2 = .ok (.if_icmp .ge 35, 3) := by decide +kernel
theorem d30_37 : decode jdk_65_method_131_code 37 = .ok (.return_, 1) := by decide +kernel
theorem pn_5 : plainName "java/util/Arrays" = true := by first | (simp [plainName, overriddenIn]; done) | decide +kernel
theorem d31_0 : decode jdk_42_method_151_code 0 = .ok (.aload_n 0, 1) := by decide +kernel
theorem d31_1 : decode jdk_42_method_151_code 1 = .ok (.invokespecial 1, 3) := by decide +kernel
theorem d31_4 : decode jdk_42_method_151_code 4 = .ok (.aload_n 0, 1) := by decide +kernel
theorem d31_5 : decode jdk_42_method_151_code 5 = .ok (.aload_n 1, 1) := by decide +kernel
theorem d31_6 : decode jdk_42_method_151_code 6 = .ok (.putfield 9, 3) := by decide +kernel
theorem d31_9 : decode jdk_42_method_151_code 9 = .ok (.aload_n 0, 1) := by decide +kernel
theorem d31_10 : decode jdk_42_method_151_code 10 = .ok (.iload_n 2, 1) := by decide +kernel
theorem d31_11 : decode jdk_42_method_151_code 11 = .ok (.putfield 15, 3) := by decide +kernel
theorem d31_14 : decode jdk_42_method_151_code 14 = .ok (.return_, 1) := by decide +kernel
theorem d16_0 : decode prog_40_method_1_code 0 = .ok (.aload_n 0, 1) := by decide +kernel
theorem d16_1 : decode prog_40_method_1_code 1 = .ok (.invokespecial 1, 3) := by decide +kernel
theorem d16_4 : decode prog_40_method_1_code 4 = .ok (.aload_n 0, 1) := by decide +kernel
theorem d16_5 : decode prog_40_method_1_code 5 = .ok (.aload_n 1, 1) := by decide +kernel
theorem d16_6 : decode prog_40_method_1_code 6 = .ok (.putfield 7, 3) := by decide +kernel
theorem d16_9 : decode prog_40_method_1_code 9 = .ok (.aload_n 0, 1) := by decide +kernel
theorem d16_10 : decode prog_40_method_1_code 10 = .ok (.aload_n 2, 1) := by decide +kernel
theorem d16_11 : decode prog_40_method_1_code 11 = .ok (.putfield 13, 3) := by decide +kernel
theorem d16_14 : decode prog_40_method_1_code 14 = .ok (.return_, 1) := by decide +kernel
theorem pn_6 : plainName "com/example/inquire/inquire/io/WikiLink" = true := by first | (simp [plainName, overriddenIn]; done) | decide +kernel
theorem d17_0 : decode prog_40_method_3_code 0 = .ok (.aload_n 0, 1) := by decide +kernel
theorem d17_1 : decode prog_40_method_3_code 1 = .ok (.getfield 7, 3) := by decide +kernel
theorem d17_4 : decode prog_40_method_3_code 4 = .ok (.areturn, 1) := by decide +kernel
theorem d18_0 : decode prog_40_method_4_code 0 = .ok (.aload_n 0, 1) := by decide +kernel
theorem d18_1 : decode prog_40_method_4_code 1 = .ok (.getfield 13, 3) := by decide +kernel
theorem d18_4 : decode prog_40_method_4_code 4 = .ok (.areturn, 1) := by decide +kernel
theorem d6_0 : decode prog_40_method_2_code 0 = .ok (.aload_n 0, 1) := by decide +kernel
theorem d6_1 : decode prog_40_method_2_code 1 = .ok (.bipush 124, 2) := by decide +kernel
theorem d6_3 : decode prog_40_method_2_code 3 = .ok (.invokevirtual 16, 3) := by decide +kernel
theorem d6_6 : decode prog_40_method_2_code 6 = .ok (.istore_n 1, 1) := by decide +kernel
theorem d6_7 : decode prog_40_method_2_code 7 = .ok (.iload_n 1, 1) := by decide +kernel
theorem d6_8 : decode prog_40_method_2_code 8 = .ok (.ifCond .ge 7, 3) := by decide +kernel
theorem d6_11 : decode prog_40_method_2_code 11 = .ok (.aload_n 0, 1) := by decide +kernel
theorem d6_12 : decode prog_40_method_2_code 12 = .ok (.goto 9, 3) := by decide +kernel
theorem d6_21 : decode prog_40_method_2_code 21 = .ok (.astore_n 2, 1) := by decide +kernel
theorem d6_22 : decode prog_40_method_2_code 22 = .ok (.iload_n 1, 1) := by decide +kernel
theorem d6_23 : decode prog_40_method_2_code 23 = .ok (.ifCond .ge 8, 3) := by decide +kernel
theorem d6_26 : decode prog_40_method_2_code 26 = .ok (.ldc 26, 2) := by decide +kernel
theorem d6_28 : decode prog_40_method_2_code 28 = .ok (.goto 10, 3) := by decide +kernel
theorem d6_38 : decode prog_40_method_2_code 38 = .ok (.astore_n 3, 1) := by decide +kernel
theorem d6_39 : decode prog_40_method_2_code 39 = .ok (.new 8, 3) := by decide +kernel
theorem d6_42 : decode prog_40_method_2_code 42 = .ok (.dup, 1) := by decide +kernel
theorem d6_43 : decode prog_40_method_2_code 43 = .ok (.aload_n 2, 1) := by decide +kernel
theorem d6_44 : decode prog_40_method_2_code 44 = .ok (.aload_n 3, 1) := by decide +kernel
theorem d6_45 : decode prog_40_method_2_code 45 = .ok (.invokespecial 31, 3) := by decide +kernel
theorem d6_48 : decode prog_40_method_2_code 48 = .ok (.areturn, 1) := by decide +kernel
theorem pd_14 : parseMethodDescriptor "(I)I" = some ⟨[.int], some .int⟩ := by decide +kernel
theorem pd_15 : parseMethodDescriptor "(Ljava/lang/String;Ljava/lang/String;)V" = some ⟨[(.object "java/lang/String"), (.object "java/lang/String")], none⟩ := by decide +kernel
theorem d27_0 : decode jdk_43_method_47_code 0 = .ok (.iload_n 2, 1) := by decide +kernel
theorem d27_1 : decode jdk_43_method_47_code 1 = .ok (.ifCond .ne 6, 3) := by decide +kernel
theorem d27_4 : decode jdk_43_method_47_code 4 = .ok (.ldc 151, 2) := by decide +kernel
theorem d27_6 : decode jdk_43_method_47_code 6 = .ok (.areturn, 1) := by decide +kernel
theorem d24_0 : decode jdk_42_method_92_code 0 = .ok (.aload_n 0, 1) := by decide +kernel
theorem d24_1 : decode jdk_42_method_92_code 1 = .ok (.invokevirtual 505, 3) := by decide +kernel
theorem d24_4 : decode jdk_42_method_92_code 4 = .ok (.istore_n 3, 1) := by decide +kernel
theorem d24_5 : decode jdk_42_method_92_code 5 = .ok (.iload_n 1, 1) := by decide +kernel
theorem d24_6 : decode jdk_42_method_92_code 6 = .ok (.iload_n 2, 1) := by decide +kernel
theorem d24_7 : decode jdk_42_method_92_code 7 = .ok (.iload_n 3, 1) := by decide +kernel
theorem d24_8 : decode jdk_42_method_92_code 8 = .ok (.invokestatic 521, 3) := by decide +kernel
theorem d24_11 : decode jdk_42_method_92_code 11 = .ok (.iload_n 1, 1) := by decide +kernel
theorem d24_12 : decode jdk_42_method_92_code 12 = .ok (.ifCond .ne 10, 3) := by decide +kernel
theorem d24_15 : decode jdk_42_method_92_code 15 = .ok (.iload_n 2, 1) := by decide +kernel
theorem d24_16 : decode jdk_42_method_92_code 16 = .ok (.iload_n 3, 1) := by decide +kernel
theorem d24_17 : decode jdk_42_method_92_code 17 = .ok (.if_icmp .ne 5, 3) := by decide +kernel
theorem d24_22 : decode jdk_42_method_92_code 22 = .ok (.iload_n 2, 1) := by decide +kernel
theorem d24_23 : decode jdk_42_method_92_code 23 = .ok (.iload_n 1, 1) := by decide +kernel
theorem d24_24 : decode jdk_42_method_92_code 24 = .ok (.isub, 1) := by decide +kernel
theorem d24_25 : decode jdk_42_method_92_code 25 = .ok (.istore 4, 2) := by decide +kernel
theorem d24_27 : decode jdk_42_method_92_code 27 = .ok (.aload_n 0, 1) := by decide +kernel
theorem d24_28 : decode jdk_42_method_92_code 28 = .ok (.invokevirtual 492, 3) := by decide +kernel
theorem d24_31 : decode jdk_42_method_92_code 31 = .ok (.ifCond .eq 16, 3) := by decide +kernel
theorem d24_34 : decode jdk_42_method_92_code 34 = .ok (.aload_n 0, 1) := by decide +kernel
theorem d24_35 : decode jdk_42_method_92_code 35 = .ok (.getfield 9, 3) := by decide +kernel
theorem d24_38 : decode jdk_42_method_92_code 38 = .ok (.iload_n 1, 1) := by decide +kernel
theorem d24_39 : decode jdk_42_method_92_code 39 = .ok (.iload 4, 2) := by decide +kernel
theorem d24_41 : decode jdk_42_method_92_code 41 = .ok (.invokestatic 685, 3) := by decide +kernel
theorem d24_44 : decode jdk_42_method_92_code 44 = .ok (.goto 13, 3) := by decide +kernel
theorem d24_57 : decode jdk_42_method_92_code 57 = .ok (.areturn, 1) := by decide +kernel
theorem pd_16 : parseMethodDescriptor "(III)V" = some ⟨[.int, .int, .int], none⟩ := by decide +kernel
theorem pd_17 : parseMethodDescriptor "([BII)Ljava/lang/String;" = some ⟨[(.array .byte), .int, .int], some (.object "java/lang/String")⟩ := by decide +kernel
theorem d32_0 : decode jdk_42_method_91_code 0 = .ok (.aload_n 0, 1) := by decide +kernel
theorem d32_1 : decode jdk_42_method_91_code 1 = .ok (.iload_n 1, 1) := by decide +kernel
theorem d32_2 : decode jdk_42_method_91_code 2 = .ok (.aload_n 0, 1) := by decide +kernel
theorem d32_3 : decode jdk_42_method_91_code 3 = .ok (.invokevirtual 505, 3) := by decide +kernel
theorem d32_6 : decode jdk_42_method_91_code 6 = .ok (.invokevirtual 681, 3) := by decide +kernel
theorem d32_9 : decode jdk_42_method_91_code 9 = .ok (.areturn, 1) := by decide +kernel
theorem pd_18 : parseMethodDescriptor "(II)Ljava/lang/String;" = some ⟨[.int, .int], some (.object "java/lang/String")⟩ := by decide +kernel
theorem d6_15 : decode prog_40_method_2_code 15 = .ok (.aload_n 0, 1) := by decide +kernel
theorem d6_16 : decode prog_40_method_2_code 16 = .ok (.iconst 0, 1) := by decide +kernel
theorem d6_17 : decode prog_40_method_2_code 17 = .ok (.iload_n 1, 1) := by decide +kernel
theorem d6_18 : decode prog_40_method_2_code 18 = .ok (.invokevirtual 22, 3) := by decide +kernel
theorem d6_31 : decode prog_40_method_2_code 31 = .ok (.aload_n 0, 1) := by decide +kernel
theorem d6_32 : decode prog_40_method_2_code 32 = .ok (.iload_n 1, 1) := by decide +kernel
theorem d6_33 : decode prog_40_method_2_code 33 = .ok (.iconst 1, 1) := by decide +kernel
theorem d6_34 : decode prog_40_method_2_code 34 = .ok (.iadd, 1) := by decide +kernel
theorem d6_35 : decode prog_40_method_2_code 35 = .ok (.invokevirtual 28, 3) := by decide +kernel
theorem pd_19 : parseMethodDescriptor "(I)Ljava/lang/String;" = some ⟨[.int], some (.object "java/lang/String")⟩ := by decide +kernel
theorem d29_0 : decode jdk_65_method_133_code 0 = .ok (.iload_n 1, 1) := by decide +kernel
theorem d29_1 : decode jdk_65_method_133_code 1 = .ok (.iload_n 2, 1) := by decide +kernel
theorem d29_2 : decode jdk_65_method_133_code 2 = .ok (.invokestatic 343, 3) := by decide +kernel
theorem d29_5 : decode jdk_65_method_133_code 5 = .ok (.iload_n 2, 1) := by decide +kernel
theorem d29_6 : decode jdk_65_method_133_code 6 = .ok (.iload_n 1, 1) := by decide +kernel
theorem d29_7 : decode jdk_65_method_133_code 7 = .ok (.isub, 1) := by decide +kernel
theorem d29_8 : decode jdk_65_method_133_code 8 = .ok (.istore_n 3, 1) := by decide +kernel
theorem d29_9 : decode jdk_65_method_133_code 9 = .ok (.iload_n 3, 1) := by decide +kernel
theorem d29_10 : decode jdk_65_method_133_code 10 = .ok (.newarray .byte, 2) := by decide +kernel
theorem d29_12 : decode jdk_65_method_133_code 12 = .ok (.astore 4, 2) := by decide +kernel
theorem d29_14 : decode jdk_65_method_133_code 14 = .ok (.aload_n 0, 1) := by decide +kernel
theorem d29_15 : decode jdk_65_method_133_code 15 = .ok (.iload_n 1, 1) := by decide +kernel
theorem d29_16 : decode jdk_65_method_133_code 16 = .ok (.aload 4, 2) := by decide +kernel
theorem d29_18 : decode jdk_65_method_133_code 18 = .ok (.iconst 0, 1) := by decide +kernel
theorem d29_19 : decode jdk_65_method_133_code 19 = .ok (.aload_n 0, 1) := by decide +kernel
theorem d29_20 : decode jdk_65_method_133_code 20 = .ok (.arraylength, 1) := by decide +kernel
theorem d29_21 : decode jdk_65_method_133_code 21 = .ok (.iload_n 1, 1) := by decide +kernel
theorem d29_22 : decode jdk_65_method_133_code 22 = .ok (.isub, 1) := by decide +kernel
theorem d29_23 : decode jdk_65_method_133_code 23 = .ok (.iload_n 3, 1) := by decide +kernel
theorem d29_24 : decode jdk_65_method_133_code 24 = .ok (.invokestatic 304, 3) := by decide +kernel
theorem d29_27 : decode jdk_65_method_133_code 27 = .ok (.invokestatic 150, 3) := by decide +kernel
theorem d29_30 : decode jdk_65_method_133_code 30 = .ok (.aload 4, 2) := by decide +kernel
theorem d29_32 : decode jdk_65_method_133_code 32 = .ok (.areturn, 1) := by decide +kernel
theorem d28_0 : decode jdk_65_method_132_code 0 = .ok (.iload_n 1, 1) := by decide +kernel
theorem d28_1 : decode jdk_65_method_132_code 1 = .ok (.ifCond .ne 9, 3) := by decide +kernel
theorem d28_10 : decode jdk_65_method_132_code 10 = .ok (.aload_n 0, 1) := by decide +kernel
theorem d28_11 : decode jdk_65_method_132_code 11 = .ok (.iload_n 1, 1) := by decide +kernel
theorem d28_12 : decode jdk_65_method_132_code 12 = .ok (.iload_n 2, 1) := by decide +kernel
theorem d28_13 : decode jdk_65_method_132_code 13 = .ok (.invokestatic 339, 3) := by decide +kernel
theorem d28_16 : decode jdk_65_method_132_code 16 = .ok (.areturn, 1) := by decide +kernel
theorem pd_20 : parseMethodDescriptor "([BII)[B" = some ⟨[(.array .byte), .int, .int], some (.array .byte)⟩ := by decide +kernel
theorem d27_7 : decode jdk_43_method_47_code 7 = .ok (.new 1, 3) := by decide +kernel
theorem d27_10 : decode jdk_43_method_47_code 10 = .ok (.dup, 1) := by decide +kernel
theorem d27_11 : decode jdk_43_method_47_code 11 = .ok (.aload_n 0, 1) := by decide +kernel
theorem d27_12 : decode jdk_43_method_47_code 12 = .ok (.iload_n 1, 1) := by decide +kernel
theorem d27_13 : decode jdk_43_method_47_code 13 = .ok (.iload_n 1, 1) := by decide +kernel
theorem d27_14 : decode jdk_43_method_47_code 14 = .ok (.iload_n 2, 1) := by decide +kernel
theorem d27_15 : decode jdk_43_method_47_code 15 = .ok (.iadd, 1) := by decide +kernel
theorem d27_16 : decode jdk_43_method_47_code 16 = .ok (.invokestatic 232, 3) := by decide +kernel
theorem d27_19 : decode jdk_43_method_47_code 19 = .ok (.iconst 0, 1) := by decide +kernel
theorem d27_20 : decode jdk_43_method_47_code 20 = .ok (.invokespecial 112, 3) := by decide +kernel
theorem d27_23 : decode jdk_43_method_47_code 23 = .ok (.areturn, 1) := by decide +kernel
theorem pd_21 : parseMethodDescriptor "([BB)V" = some ⟨[(.array .byte), .byte], none⟩ := by decide +kernel
theorem d15_9 : decode jdk_29_method_69_code 9 = .ok (.iload_n 1, 1) := by decide +kernel
theorem d28_4 : decode jdk_65_method_132_code 4 = .ok (.iload_n 2, 1) := by decide +kernel
theorem d28_5 : decode jdk_65_method_132_code 5 = .ok (.aload_n 0, 1) := by decide +kernel
theorem d28_6 : decode jdk_65_method_132_code 6 = .ok (.arraylength, 1) := by decide +kernel
theorem d28_7 : decode jdk_65_method_132_code 7 = .ok (.if_icmp .eq 10, 3) := by decide +kernel
theorem d19_0 : decode method_4_code 0 = .ok (.iload_n 0, 1) := by decide +kernel
theorem d19_1 : decode method_4_code 1 = .ok (.iload_n 1, 1) := by decide +kernel
theorem d19_2 : decode method_4_code 2 = .ok (.if_icmp .lt 5, 3) := by decide +kernel
theorem d19_5 : decode method_4_code 5 = .ok (.iconst 1, 1) := by decide +kernel
theorem d19_6 : decode method_4_code 6 = .ok (.ireturn, 1) := by decide +kernel
theorem d19_7 : decode method_4_code 7 = .ok (.iload_n 2, 1) := by decide +kernel
theorem d19_8 : decode method_4_code 8 = .ok (.ifCond .lt 8, 3) := by decide +kernel
theorem d19_11 : decode method_4_code 11 = .ok (.iload_n 0, 1) := by decide +kernel
theorem d19_12 : decode method_4_code 12 = .ok (.iload_n 2, 1) := by decide +kernel
theorem d19_13 : decode method_4_code 13 = .ok (.if_icmp .ge 19, 3) := by decide +kernel
theorem d19_32 : decode method_4_code 32 = .ok (.iload_n 0, 1) := by decide +kernel
theorem d19_33 : decode method_4_code 33 = .ok (.iload_n 2, 1) := by decide +kernel
theorem d19_34 : decode method_4_code 34 = .ok (.if_icmp .ne 15, 3) := by decide +kernel
theorem d19_37 : decode method_4_code 37 = .ok (.iload_n 3, 1) := by decide +kernel
theorem d19_38 : decode method_4_code 38 = .ok (.bipush 124, 2) := by decide +kernel
theorem d19_40 : decode method_4_code 40 = .ok (.if_icmp .ne 7, 3) := by decide +kernel
theorem d19_43 : decode method_4_code 43 = .ok (.iconst 1, 1) := by decide +kernel
theorem d19_44 : decode method_4_code 44 = .ok (.goto 4, 3) := by decide +kernel
theorem d19_48 : decode method_4_code 48 = .ok (.ireturn, 1) := by decide +kernel
theorem d19_16 : decode method_4_code 16 = .ok (.aload 4, 2) := by decide +kernel
theorem d19_18 : decode method_4_code 18 = .ok (.iload_n 0, 1) := by decide +kernel
theorem d19_19 : decode method_4_code 19 = .ok (.invokevirtual 7, 3) := by decide +kernel
theorem d19_22 : decode method_4_code 22 = .ok (.iload_n 3, 1) := by decide +kernel
theorem d19_23 : decode method_4_code 23 = .ok (.if_icmp .ne 7, 3) := by decide +kernel
theorem d19_26 : decode method_4_code 26 = .ok (.iconst 1, 1) := by decide +kernel
theorem d19_27 : decode method_4_code 27 = .ok (.goto 4, 3) := by decide +kernel
theorem d19_31 : decode method_4_code 31 = .ok (.ireturn, 1) := by decide +kernel
theorem pd_22 : parseMethodDescriptor "(I)C" = some ⟨[.int], some .char⟩ := by decide +kernel
theorem d19_49 : decode method_4_code 49 = .ok (.aload 5, 2) := by decide +kernel
theorem d19_51 : decode method_4_code 51 = .ok (.iload_n 0, 1) := by decide +kernel
theorem d19_52 : decode method_4_code 52 = .ok (.iload_n 2, 1) := by decide +kernel
theorem d19_53 : decode method_4_code 53 = .ok (.isub, 1) := by decide +kernel
theorem d19_54 : decode method_4_code 54 = .ok (.iconst 1, 1) := by decide +kernel
theorem d19_55 : decode method_4_code 55 = .ok (.isub, 1) := by decide +kernel
theorem d19_56 : decode method_4_code 56 = .ok (.invokevirtual 7, 3) := by decide +kernel
theorem d19_59 : decode method_4_code 59 = .ok (.iload_n 3, 1) := by decide +kernel
theorem d19_60 : decode method_4_code 60 = .ok (.if_icmp .ne 7, 3) := by decide +kernel
theorem d19_63 : decode method_4_code 63 = .ok (.iconst 1, 1) := by decide +kernel
theorem d19_64 : decode method_4_code 64 = .ok (.goto 4, 3) := by decide +kernel
theorem d19_68 : decode method_4_code 68 = .ok (.ireturn, 1) := by decide +kernel
theorem pd_23 : parseMethodDescriptor "(Ljava/lang/String;)Lcom/example/inquire/inquire/io/WikiLink;" = some ⟨[(.object "java/lang/String")], some (.object "com/example/inquire/inquire/io/WikiLink")⟩ := by decide +kernel
theorem pd_24 : parseMethodDescriptor "()Ljava/lang/String;" = some ⟨[], some (.object "java/lang/String")⟩ := by decide +kernel
theorem pd_25 : parseMethodDescriptor "(IIICLjava/lang/String;Ljava/lang/String;)Z" = some ⟨[.int, .int, .int, .char, (.object "java/lang/String"), (.object "java/lang/String")], some .boolean⟩ := by decide +kernel
theorem pd_26 : parseMethodDescriptor "(ICCCC)[C" = some ⟨[.int, .char, .char, .char, .char], some (.array .char)⟩ := by decide +kernel
theorem pd_27 : parseMethodDescriptor "([C)V" = some ⟨[(.array .char)], none⟩ := by decide +kernel
abbrev M_0 : MethodName := ⟨"java/lang/String", "coder", "()B"⟩
abbrev M_1 : MethodName := ⟨"java/lang/String", "isLatin1", "()Z"⟩
abbrev M_2 : MethodName := ⟨"jdk/internal/util/Preconditions", "checkIndex", "(IILjava/util/function/BiFunction;)I"⟩
abbrev M_3 : MethodName := ⟨"java/lang/String", "checkIndex", "(II)V"⟩
abbrev M_4 : MethodName := ⟨"java/lang/String", "length", "()I"⟩
abbrev M_5 : MethodName := ⟨"java/lang/StringLatin1", "charAt", "([BI)C"⟩
abbrev M_6 : MethodName := ⟨"java/lang/String", "charAt", "(I)C"⟩
abbrev M_7 : MethodName := ⟨"com/example/inquire/inquire/io/WikiLinkParsePinLaw", "ch", "(I)C"⟩
abbrev M_8 : MethodName := ⟨"com/example/inquire/inquire/io/WikiLinkParsePinLaw", "make", "(ICCCC)[C"⟩
abbrev M_9 : MethodName := ⟨"java/lang/StringUTF16", "compress", "([CI[BII)I"⟩
abbrev M_10 : MethodName := ⟨"java/lang/StringUTF16", "compress", "([CII)[B"⟩
abbrev M_11 : MethodName := ⟨"java/lang/StringUTF16", "coderFromArrayLen", "([BI)B"⟩
abbrev M_12 : MethodName := ⟨"java/lang/String", "<init>", "([CIILjava/lang/Void;)V"⟩
abbrev M_13 : MethodName := ⟨"java/lang/String", "<init>", "([C)V"⟩
abbrev M_14 : MethodName := ⟨"java/lang/StringLatin1", "canEncode", "(I)Z"⟩
abbrev M_15 : MethodName := ⟨"java/lang/Math", "max", "(II)I"⟩
abbrev M_16 : MethodName := ⟨"java/lang/Math", "min", "(II)I"⟩
abbrev M_17 : MethodName := ⟨"java/lang/StringLatin1", "indexOf", "([BIII)I"⟩
abbrev M_18 : MethodName := ⟨"java/lang/String", "indexOf", "(II)I"⟩
abbrev M_19 : MethodName := ⟨"java/lang/String", "indexOf", "(I)I"⟩
abbrev M_20 : MethodName := ⟨"java/lang/StringLatin1", "indexOfChar", "([BIII)I"⟩
abbrev M_21 : MethodName := ⟨"jdk/internal/util/Preconditions", "checkFromToIndex", "(IIILjava/util/function/BiFunction;)I"⟩
abbrev M_22 : MethodName := ⟨"java/lang/String", "checkBoundsBeginEnd", "(III)V"⟩
abbrev M_23 : MethodName := ⟨"java/util/Arrays", "checkLength", "(II)V"⟩
abbrev M_24 : MethodName := ⟨"java/lang/String", "<init>", "([BB)V"⟩
abbrev M_25 : MethodName := ⟨"com/example/inquire/inquire/io/WikiLink", "<init>", "(Ljava/lang/String;Ljava/lang/String;)V"⟩
abbrev M_26 : MethodName := ⟨"com/example/inquire/inquire/io/WikiLink", "getTarget", "()Ljava/lang/String;"⟩
abbrev M_27 : MethodName := ⟨"com/example/inquire/inquire/io/WikiLink", "getLabel", "()Ljava/lang/String;"⟩
abbrev M_28 : MethodName := ⟨"com/example/inquire/inquire/io/WikiLink", "parse", "(Ljava/lang/String;)Lcom/example/inquire/inquire/io/WikiLink;"⟩
abbrev M_29 : MethodName := ⟨"java/lang/StringLatin1", "newString", "([BII)Ljava/lang/String;"⟩
abbrev M_30 : MethodName := ⟨"java/lang/String", "substring", "(II)Ljava/lang/String;"⟩
abbrev M_31 : MethodName := ⟨"java/lang/String", "substring", "(I)Ljava/lang/String;"⟩
abbrev M_32 : MethodName := ⟨"java/util/Arrays", "copyOfRangeByte", "([BII)[B"⟩
abbrev M_33 : MethodName := ⟨"java/util/Arrays", "copyOfRange", "([BII)[B"⟩
abbrev M_34 : MethodName := ⟨"com/example/inquire/inquire/io/WikiLinkParsePinLaw", "at", "(IIICLjava/lang/String;Ljava/lang/String;)Z"⟩
abbrev HW (a0 : Array Value) (Z : State) : Prop := ∀ d ∈ tables_1, d.before a0 Z = true
section Contracts
variable (l : Launch) (Z : State) (a0 : Array Value) {n0 : Nat}
theorem c_coder (hw : HW a0 Z) (h : Heap) (a : Addr) (cp : Int32) (hcp : ¬ (cp = (0 : Int32))) (scp : Sta Z Z.heap "java/lang/String" "COMPACT_STRINGS" "Z" (.int cp)) (f : Fld Z h a "java/lang/String" "coder" "B" (.int 0)) :
    Con l M_0 jdk_42_method_152_code 1 (some .byte) (rm4 0 0 0 0) Z n0 #[(.ref a)] h (fun v h' => v = some (.int 0) ∧ h = h') := by
  refine Con.of_go (plainFor_of_name pn_0) (Ls := #[.val (.ref a)]) ?_
  refine Go.old (fun old1 => ?_)
  refine Go.getstatic (pc' := 3) (host := "") (Or.inl (ww hw 49 rfl)) Via.refl (scp.ext old1.2) d11_0 rfl ?_
  refine Go.ifNo (pc' := 6) d11_3 (XT.i0_eq_f hcp) rfl ?_
  refine Go.aloadN (pc' := 7) d11_6 rfl rfl rfl ?_
  refine Go.getfield (pc' := 10) (host := "") (Or.inl (ww hw 29 rfl)) Via.refl f d11_7 rfl ?_
  refine Go.goto (pc' := 14) d11_10 (by decide) (by decide) ?_
  exact Go.retN (t := .byte) rfl (by simp) d11_14 ⟨rfl, rfl⟩
theorem c_isLatin1 (hw : HW a0 Z) (h : Heap) (a : Addr) (cp : Int32) (hcp : ¬ (cp = (0 : Int32))) (scp : Sta Z Z.heap "java/lang/String" "COMPACT_STRINGS" "Z" (.int cp)) (f : Fld Z h a "java/lang/String" "coder" "B" (.int 0)) :
    Con l M_1 jdk_42_method_154_code 1 (some .boolean) (rm4 0 0 0 0) Z n0 #[(.ref a)] h (fun v h' => v = some (.int 1) ∧ h = h') := by
  refine Con.of_go (plainFor_of_name pn_0) (Ls := #[.val (.ref a)]) ?_
  refine Go.old (fun old1 => ?_)
  refine Go.getstatic (pc' := 3) (host := "") (Or.inl (ww hw 49 rfl)) Via.refl (scp.ext old1.2) d9_0 rfl ?_
  refine Go.ifNo (pc' := 6) d9_3 (XT.i0_eq_f hcp) rfl ?_
  refine Go.aloadN (pc' := 7) d9_6 rfl rfl rfl ?_
  refine Go.getfield (pc' := 10) (host := "") (Or.inl (ww hw 29 rfl)) Via.refl f d9_7 rfl ?_
  refine Go.ifNo (pc' := 13) d9_10 (XT.i0_ne_f (by decide)) rfl ?_
  refine Go.iconst (pc' := 14) (v := 1) d9_13 rfl rfl ?_
  refine Go.goto (pc' := 18) d9_14 (by decide) (by decide) ?_
  exact Go.retN (t := .boolean) rfl (by simp) d9_18 ⟨rfl, rfl⟩
theorem c_preCheck (hw : HW a0 Z) (h : Heap) (i : Int32) (n : Int32) (wf : Value) (h1 : ¬ (i < (0 : Int32))) (h2 : i < n) (hwf : wf.isRef = true) :
    Con l M_2 jdk_41_method_11_code 3 (some .int) (rm4 0 0 0 0) Z n0 #[(.int i), (.int n), wf] h (fun v h' => v = some (.int i) ∧ h = h') := by
  refine Con.of_go (plainFor_of_name pn_1) (Ls := #[.val (.int i), .val (.int n), .val wf]) (he := fun m => by rcases XT.refc hwf with rfl | ⟨_, rfl⟩ <;> rfl) ?_
  refine Go.iloadN (pc' := 1) d36_0 rfl rfl ?_
  refine Go.ifNo (pc' := 4) d36_1 (XT.i0_lt_f h1) rfl ?_
  refine Go.iloadN (pc' := 5) d36_4 rfl rfl ?_
  refine Go.iloadN (pc' := 6) d36_5 rfl rfl ?_
  refine Go.icmpYes (pc' := 16) d36_6 (XT.ii_lt_t h2) (by decide) (by decide) ?_
  refine Go.iloadN (pc' := 17) d36_16 rfl rfl ?_
  exact Go.retI rfl d36_17 ⟨rfl, rfl⟩
theorem c_strCheck (hw : HW a0 Z) (h : Heap) (i : Int32) (n : Int32) (wf : Value) (h1 : ¬ (i < (0 : Int32))) (h2 : i < n) (hwf : wf.isRef = true) (sfm : Sta Z Z.heap "jdk/internal/util/Preconditions" "SIOOBE_FORMATTER" "Ljava/util/function/BiFunction;" wf) :
    Con l M_3 jdk_42_method_155_code 2 none (rm4 1 0 0 14) Z n0 #[(.int i), (.int n)] h (fun v h' => v = none ∧ h = h') := by
  refine Con.of_go (plainFor_of_name pn_0) (Ls := #[.val (.int i), .val (.int n)]) ?_
  refine Go.iloadN (pc' := 1) d35_0 rfl rfl ?_
  refine Go.iloadN (pc' := 2) d35_1 rfl rfl ?_
  refine Go.old (fun old1 => ?_)
  refine Go.getstatic (pc' := 5) (host := "") (Or.inl (ww hw 120 rfl)) Via.refl (sfm.ext old1.2) d35_2 rfl ?_
  refine Go.callS (cells' := 0) (slots' := 0) (pc' := 8) [(.int i), (.int n), wf] [] (ww hw 165 rfl) (ww hw 166 rfl) (ww hw 121 rfl) (ww hw 167 rfl) (by decide) (c_preCheck l Z a0 hw h i n wf h1 h2 hwf) pd_0 d35_5 rfl ?_
  rintro _ _ ⟨rfl, rfl⟩
  show Go _ _ _ _ _ _ _ _ _ _ _ _ 8 _ [(.int i)]
  refine Go.pop (pc' := 9) d35_8 rfl rfl ?_
  exact Go.retV rfl d35_9 ⟨rfl, rfl⟩
theorem c_strLen0 (hw : HW a0 Z) (h : Heap) (a : Addr) (b : Addr) (kb : ClassId) (cp : Int32) (hcp : ¬ (cp = (0 : Int32))) (scp : Sta Z Z.heap "java/lang/String" "COMPACT_STRINGS" "Z" (.int cp)) (e : Exa Z h a "java/lang/String") (f : Fld Z h a "java/lang/String" "coder" "B" (.int 0)) (g : Fld Z h a "java/lang/String" "value" "[B" (.ref b)) (v : Arv Z h b kb .byte (0 : Int32) [] (.int 0)) :
    Con l M_4 jdk_42_method_54_code 1 (some .int) (rm4 1 0 0 13) Z n0 #[(.ref a)] h (fun v h' => v = some (.int 0) ∧ h = h') := by
  refine Con.of_go (plainFor_of_name pn_0) (Ls := #[.val (.ref a)]) ?_
  refine Go.aloadN (pc' := 1) d10_0 rfl rfl rfl ?_
  refine Go.getfield (pc' := 4) (host := "") (Or.inl (ww hw 28 rfl)) Via.refl g d10_1 rfl ?_
  refine Go.arraylength (pc' := 5) v d10_4 rfl ?_
  refine Go.aloadN (pc' := 6) d10_5 rfl rfl rfl ?_
  refine Go.callV (cells' := 0) (slots' := 0) (pc' := 9) [] [(.int 0)] e (ww hw 55 rfl) (ww hw 56 rfl) (nfS (ww hw 58 rfl)) (ww hw 58 rfl) (ww hw 57 rfl) (ww hw 7 rfl) (ww hw 59 rfl) (by decide) (c_coder l Z a0 hw h a cp hcp scp f) pd_1 d10_6 rfl ?_
  rintro _ _ ⟨rfl, rfl⟩
  show Go _ _ _ _ _ _ _ _ _ _ _ _ 9 _ [(.int 0), (.int 0)]
  refine Go.ishr (pc' := 10) d10_9 rfl ?_
  show Go _ _ _ _ _ _ _ _ _ _ _ _ 10 _ [(.int 0)]
  exact Go.retI rfl d10_10 ⟨rfl, rfl⟩
theorem c_strLen1 (hw : HW a0 Z) (h : Heap) (a : Addr) (b : Addr) (kb : ClassId) (x0 : Int32) (cp : Int32) (hcp : ¬ (cp = (0 : Int32))) (scp : Sta Z Z.heap "java/lang/String" "COMPACT_STRINGS" "Z" (.int cp)) (e : Exa Z h a "java/lang/String") (f : Fld Z h a "java/lang/String" "coder" "B" (.int 0)) (g : Fld Z h a "java/lang/String" "value" "[B" (.ref b)) (v : Arv Z h b kb .byte (1 : Int32) [(.int x0)] (.int 0)) :
    Con l M_4 jdk_42_method_54_code 1 (some .int) (rm4 1 0 0 13) Z n0 #[(.ref a)] h (fun v h' => v = some (.int 1) ∧ h = h') := by
  refine Con.of_go (plainFor_of_name pn_0) (Ls := #[.val (.ref a)]) ?_
  refine Go.aloadN (pc' := 1) d10_0 rfl rfl rfl ?_
  refine Go.getfield (pc' := 4) (host := "") (Or.inl (ww hw 28 rfl)) Via.refl g d10_1 rfl ?_
  refine Go.arraylength (pc' := 5) v d10_4 rfl ?_
  refine Go.aloadN (pc' := 6) d10_5 rfl rfl rfl ?_
  refine Go.callV (cells' := 0) (slots' := 0) (pc' := 9) [] [(.int 1)] e (ww hw 55 rfl) (ww hw 56 rfl) (nfS (ww hw 58 rfl)) (ww hw 58 rfl) (ww hw 57 rfl) (ww hw 7 rfl) (ww hw 59 rfl) (by decide) (c_coder l Z a0 hw h a cp hcp scp f) pd_1 d10_6 rfl ?_
  rintro _ _ ⟨rfl, rfl⟩
  show Go _ _ _ _ _ _ _ _ _ _ _ _ 9 _ [(.int 0), (.int 1)]
  refine Go.ishr (pc' := 10) d10_9 rfl ?_
  show Go _ _ _ _ _ _ _ _ _ _ _ _ 10 _ [(.int 1)]
  exact Go.retI rfl d10_10 ⟨rfl, rfl⟩
theorem c_strLen2 (hw : HW a0 Z) (h : Heap) (a : Addr) (b : Addr) (kb : ClassId) (x0 : Int32) (x1 : Int32) (cp : Int32) (hcp : ¬ (cp = (0 : Int32))) (scp : Sta Z Z.heap "java/lang/String" "COMPACT_STRINGS" "Z" (.int cp)) (e : Exa Z h a "java/lang/String") (f : Fld Z h a "java/lang/String" "coder" "B" (.int 0)) (g : Fld Z h a "java/lang/String" "value" "[B" (.ref b)) (v : Arv Z h b kb .byte (2 : Int32) [(.int x0), (.int x1)] (.int 0)) :
    Con l M_4 jdk_42_method_54_code 1 (some .int) (rm4 1 0 0 13) Z n0 #[(.ref a)] h (fun v h' => v = some (.int 2) ∧ h = h') := by
  refine Con.of_go (plainFor_of_name pn_0) (Ls := #[.val (.ref a)]) ?_
  refine Go.aloadN (pc' := 1) d10_0 rfl rfl rfl ?_
  refine Go.getfield (pc' := 4) (host := "") (Or.inl (ww hw 28 rfl)) Via.refl g d10_1 rfl ?_
  refine Go.arraylength (pc' := 5) v d10_4 rfl ?_
  refine Go.aloadN (pc' := 6) d10_5 rfl rfl rfl ?_
  refine Go.callV (cells' := 0) (slots' := 0) (pc' := 9) [] [(.int 2)] e (ww hw 55 rfl) (ww hw 56 rfl) (nfS (ww hw 58 rfl)) (ww hw 58 rfl) (ww hw 57 rfl) (ww hw 7 rfl) (ww hw 59 rfl) (by decide) (c_coder l Z a0 hw h a cp hcp scp f) pd_1 d10_6 rfl ?_
  rintro _ _ ⟨rfl, rfl⟩
  show Go _ _ _ _ _ _ _ _ _ _ _ _ 9 _ [(.int 0), (.int 2)]
  refine Go.ishr (pc' := 10) d10_9 rfl ?_
  show Go _ _ _ _ _ _ _ _ _ _ _ _ 10 _ [(.int 2)]
  exact Go.retI rfl d10_10 ⟨rfl, rfl⟩
theorem c_strLen3 (hw : HW a0 Z) (h : Heap) (a : Addr) (b : Addr) (kb : ClassId) (x0 : Int32) (x1 : Int32) (x2 : Int32) (cp : Int32) (hcp : ¬ (cp = (0 : Int32))) (scp : Sta Z Z.heap "java/lang/String" "COMPACT_STRINGS" "Z" (.int cp)) (e : Exa Z h a "java/lang/String") (f : Fld Z h a "java/lang/String" "coder" "B" (.int 0)) (g : Fld Z h a "java/lang/String" "value" "[B" (.ref b)) (v : Arv Z h b kb .byte (3 : Int32) [(.int x0), (.int x1), (.int x2)] (.int 0)) :
    Con l M_4 jdk_42_method_54_code 1 (some .int) (rm4 1 0 0 13) Z n0 #[(.ref a)] h (fun v h' => v = some (.int 3) ∧ h = h') := by
  refine Con.of_go (plainFor_of_name pn_0) (Ls := #[.val (.ref a)]) ?_
  refine Go.aloadN (pc' := 1) d10_0 rfl rfl rfl ?_
  refine Go.getfield (pc' := 4) (host := "") (Or.inl (ww hw 28 rfl)) Via.refl g d10_1 rfl ?_
  refine Go.arraylength (pc' := 5) v d10_4 rfl ?_
  refine Go.aloadN (pc' := 6) d10_5 rfl rfl rfl ?_
  refine Go.callV (cells' := 0) (slots' := 0) (pc' := 9) [] [(.int 3)] e (ww hw 55 rfl) (ww hw 56 rfl) (nfS (ww hw 58 rfl)) (ww hw 58 rfl) (ww hw 57 rfl) (ww hw 7 rfl) (ww hw 59 rfl) (by decide) (c_coder l Z a0 hw h a cp hcp scp f) pd_1 d10_6 rfl ?_
  rintro _ _ ⟨rfl, rfl⟩
  show Go _ _ _ _ _ _ _ _ _ _ _ _ 9 _ [(.int 0), (.int 3)]
  refine Go.ishr (pc' := 10) d10_9 rfl ?_
  show Go _ _ _ _ _ _ _ _ _ _ _ _ 10 _ [(.int 3)]
  exact Go.retI rfl d10_10 ⟨rfl, rfl⟩
theorem c_strLen4 (hw : HW a0 Z) (h : Heap) (a : Addr) (b : Addr) (kb : ClassId) (x0 : Int32) (x1 : Int32) (x2 : Int32) (x3 : Int32) (cp : Int32) (hcp : ¬ (cp = (0 : Int32))) (scp : Sta Z Z.heap "java/lang/String" "COMPACT_STRINGS" "Z" (.int cp)) (e : Exa Z h a "java/lang/String") (f : Fld Z h a "java/lang/String" "coder" "B" (.int 0)) (g : Fld Z h a "java/lang/String" "value" "[B" (.ref b)) (v : Arv Z h b kb .byte (4 : Int32) [(.int x0), (.int x1), (.int x2), (.int x3)] (.int 0)) :
    Con l M_4 jdk_42_method_54_code 1 (some .int) (rm4 1 0 0 13) Z n0 #[(.ref a)] h (fun v h' => v = some (.int 4) ∧ h = h') := by
  refine Con.of_go (plainFor_of_name pn_0) (Ls := #[.val (.ref a)]) ?_
  refine Go.aloadN (pc' := 1) d10_0 rfl rfl rfl ?_
  refine Go.getfield (pc' := 4) (host := "") (Or.inl (ww hw 28 rfl)) Via.refl g d10_1 rfl ?_
  refine Go.arraylength (pc' := 5) v d10_4 rfl ?_
  refine Go.aloadN (pc' := 6) d10_5 rfl rfl rfl ?_
  refine Go.callV (cells' := 0) (slots' := 0) (pc' := 9) [] [(.int 4)] e (ww hw 55 rfl) (ww hw 56 rfl) (nfS (ww hw 58 rfl)) (ww hw 58 rfl) (ww hw 57 rfl) (ww hw 7 rfl) (ww hw 59 rfl) (by decide) (c_coder l Z a0 hw h a cp hcp scp f) pd_1 d10_6 rfl ?_
  rintro _ _ ⟨rfl, rfl⟩
  show Go _ _ _ _ _ _ _ _ _ _ _ _ 9 _ [(.int 0), (.int 4)]
  refine Go.ishr (pc' := 10) d10_9 rfl ?_
  show Go _ _ _ _ _ _ _ _ _ _ _ _ 10 _ [(.int 4)]
  exact Go.retI rfl d10_10 ⟨rfl, rfl⟩
theorem c_latAt0 (hw : HW a0 Z) (h : Heap) (b : Addr) (kb : ClassId) (z : Int32) (vs : List Value) (x : Int32) (wf : Value) (hwf : wf.isRef = true) (hz : (0 : Int32) < z) (hx : vs.getD 0 (.int 0) = .int x) (sfm : Sta Z Z.heap "jdk/internal/util/Preconditions" "SIOOBE_FORMATTER" "Ljava/util/function/BiFunction;" wf) (v : Arv Z h b kb .byte z vs (.int 0)) :
    Con l M_5 jdk_43_method_2_code 2 (some .char) (rm4 2 0 0 27) Z n0 #[(.ref b), (.int 0)] h (fun v h' => v = some (.int (x &&& (255 : Int32))) ∧ h = h') := by
  refine Con.of_go (plainFor_of_name pn_2) (Ls := #[.val (.ref b), .val (.int 0)]) ?_
  refine Go.iloadN (pc' := 1) d34_0 rfl rfl ?_
  refine Go.aloadN (pc' := 2) d34_1 rfl rfl rfl ?_
  refine Go.arraylength (pc' := 3) v d34_2 rfl ?_
  refine Go.callS (cells' := 0) (slots' := 0) (pc' := 6) [(.int 0), (.int z)] [] (ww hw 162 rfl) (ww hw 163 rfl) (ww hw 7 rfl) (ww hw 164 rfl) (by decide) (c_strCheck l Z a0 hw h (0 : Int32) z wf (by decide) hz hwf sfm) pd_2 d34_3 rfl ?_
  rintro _ _ ⟨rfl, rfl⟩
  show Go _ _ _ _ _ _ _ _ _ _ _ _ 6 _ []
  refine Go.aloadN (pc' := 7) d34_6 rfl rfl rfl ?_
  refine Go.iloadN (pc' := 8) d34_7 rfl rfl ?_
  refine Go.baload (pc' := 9) (v := x) v d34_8 (by decide) hz hx rfl ?_
  refine Go.sipush (pc' := 12) (v := 255) d34_9 rfl rfl ?_
  refine Go.iand (pc' := 13) d34_12 rfl ?_
  refine Go.i2c (pc' := 14) d34_13 rfl ?_
  rw [i2c_mask]
  exact Go.retN (t := .char) rfl (by simp) d34_14 ⟨(congrArg (fun z => some (Value.int z)) (show nar .char (x &&& (255 : Int32)) = (x &&& (255 : Int32)) from i2c_mask _)), rfl⟩
theorem c_charAt0 (hw : HW a0 Z) (h : Heap) (a : Addr) (b : Addr) (kb : ClassId) (z : Int32) (vs : List Value) (x : Int32) (cp : Int32) (wf : Value) (hcp : ¬ (cp = (0 : Int32))) (hwf : wf.isRef = true) (hz : (0 : Int32) < z) (hx : vs.getD 0 (.int 0) = .int x) (scp : Sta Z Z.heap "java/lang/String" "COMPACT_STRINGS" "Z" (.int cp)) (sfm : Sta Z Z.heap "jdk/internal/util/Preconditions" "SIOOBE_FORMATTER" "Ljava/util/function/BiFunction;" wf) (e : Exa Z h a "java/lang/String") (f : Fld Z h a "java/lang/String" "coder" "B" (.int 0)) (g : Fld Z h a "java/lang/String" "value" "[B" (.ref b)) (v : Arv Z h b kb .byte z vs (.int 0)) :
    Con l M_6 jdk_42_method_56_code 2 (some .char) (rm4 3 0 0 40) Z n0 #[(.ref a), (.int 0)] h (fun v h' => v = some (.int (x &&& (255 : Int32))) ∧ h = h') := by
  refine Con.of_go (plainFor_of_name pn_0) (Ls := #[.val (.ref a), .val (.int 0)]) ?_
  refine Go.aloadN (pc' := 1) d33_0 rfl rfl rfl ?_
  refine Go.callV (cells' := 0) (slots' := 0) (pc' := 4) [] [] e (ww hw 44 rfl) (ww hw 45 rfl) (nfS (ww hw 47 rfl)) (ww hw 47 rfl) (ww hw 46 rfl) (ww hw 7 rfl) (ww hw 48 rfl) (by decide) (c_isLatin1 l Z a0 hw h a cp hcp scp f) pd_3 d33_1 rfl ?_
  rintro _ _ ⟨rfl, rfl⟩
  show Go _ _ _ _ _ _ _ _ _ _ _ _ 4 _ [(.int 1)]
  refine Go.ifNo (pc' := 7) d33_4 (XT.i0_eq_f (by decide)) rfl ?_
  refine Go.aloadN (pc' := 8) d33_7 rfl rfl rfl ?_
  refine Go.getfield (pc' := 11) (host := "") (Or.inl (ww hw 28 rfl)) Via.refl g d33_8 rfl ?_
  refine Go.iloadN (pc' := 12) d33_11 rfl rfl ?_
  refine Go.callS (cells' := 0) (slots' := 0) (pc' := 15) [(.ref b), (.int 0)] [] (ww hw 159 rfl) (ww hw 160 rfl) (ww hw 62 rfl) (ww hw 161 rfl) (by decide) (c_latAt0 l Z a0 hw h b kb z vs x wf hwf hz hx sfm v) pd_4 d33_12 rfl ?_
  rintro _ _ ⟨rfl, rfl⟩
  show Go _ _ _ _ _ _ _ _ _ _ _ _ 15 _ [(.int (x &&& (255 : Int32)))]
  exact Go.retN (t := .char) rfl (by simp) d33_15 ⟨(congrArg (fun z => some (Value.int z)) (show nar .char (x &&& (255 : Int32)) = (x &&& (255 : Int32)) from i2c_mask _)), rfl⟩
theorem c_latAt1 (hw : HW a0 Z) (h : Heap) (b : Addr) (kb : ClassId) (z : Int32) (vs : List Value) (x : Int32) (wf : Value) (hwf : wf.isRef = true) (hz : (1 : Int32) < z) (hx : vs.getD 1 (.int 0) = .int x) (sfm : Sta Z Z.heap "jdk/internal/util/Preconditions" "SIOOBE_FORMATTER" "Ljava/util/function/BiFunction;" wf) (v : Arv Z h b kb .byte z vs (.int 0)) :
    Con l M_5 jdk_43_method_2_code 2 (some .char) (rm4 2 0 0 27) Z n0 #[(.ref b), (.int 1)] h (fun v h' => v = some (.int (x &&& (255 : Int32))) ∧ h = h') := by
  refine Con.of_go (plainFor_of_name pn_2) (Ls := #[.val (.ref b), .val (.int 1)]) ?_
  refine Go.iloadN (pc' := 1) d34_0 rfl rfl ?_
  refine Go.aloadN (pc' := 2) d34_1 rfl rfl rfl ?_
  refine Go.arraylength (pc' := 3) v d34_2 rfl ?_
  refine Go.callS (cells' := 0) (slots' := 0) (pc' := 6) [(.int 1), (.int z)] [] (ww hw 162 rfl) (ww hw 163 rfl) (ww hw 7 rfl) (ww hw 164 rfl) (by decide) (c_strCheck l Z a0 hw h (1 : Int32) z wf (by decide) hz hwf sfm) pd_2 d34_3 rfl ?_
  rintro _ _ ⟨rfl, rfl⟩
  show Go _ _ _ _ _ _ _ _ _ _ _ _ 6 _ []
  refine Go.aloadN (pc' := 7) d34_6 rfl rfl rfl ?_
  refine Go.iloadN (pc' := 8) d34_7 rfl rfl ?_
  refine Go.baload (pc' := 9) (v := x) v d34_8 (by decide) hz hx rfl ?_
  refine Go.sipush (pc' := 12) (v := 255) d34_9 rfl rfl ?_
  refine Go.iand (pc' := 13) d34_12 rfl ?_
  refine Go.i2c (pc' := 14) d34_13 rfl ?_
  rw [i2c_mask]
  exact Go.retN (t := .char) rfl (by simp) d34_14 ⟨(congrArg (fun z => some (Value.int z)) (show nar .char (x &&& (255 : Int32)) = (x &&& (255 : Int32)) from i2c_mask _)), rfl⟩
theorem c_charAt1 (hw : HW a0 Z) (h : Heap) (a : Addr) (b : Addr) (kb : ClassId) (z : Int32) (vs : List Value) (x : Int32) (cp : Int32) (wf : Value) (hcp : ¬ (cp = (0 : Int32))) (hwf : wf.isRef = true) (hz : (1 : Int32) < z) (hx : vs.getD 1 (.int 0) = .int x) (scp : Sta Z Z.heap "java/lang/String" "COMPACT_STRINGS" "Z" (.int cp)) (sfm : Sta Z Z.heap "jdk/internal/util/Preconditions" "SIOOBE_FORMATTER" "Ljava/util/function/BiFunction;" wf) (e : Exa Z h a "java/lang/String") (f : Fld Z h a "java/lang/String" "coder" "B" (.int 0)) (g : Fld Z h a "java/lang/String" "value" "[B" (.ref b)) (v : Arv Z h b kb .byte z vs (.int 0)) :
    Con l M_6 jdk_42_method_56_code 2 (some .char) (rm4 3 0 0 40) Z n0 #[(.ref a), (.int 1)] h (fun v h' => v = some (.int (x &&& (255 : Int32))) ∧ h = h') := by
  refine Con.of_go (plainFor_of_name pn_0) (Ls := #[.val (.ref a), .val (.int 1)]) ?_
  refine Go.aloadN (pc' := 1) d33_0 rfl rfl rfl ?_
  refine Go.callV (cells' := 0) (slots' := 0) (pc' := 4) [] [] e (ww hw 44 rfl) (ww hw 45 rfl) (nfS (ww hw 47 rfl)) (ww hw 47 rfl) (ww hw 46 rfl) (ww hw 7 rfl) (ww hw 48 rfl) (by decide) (c_isLatin1 l Z a0 hw h a cp hcp scp f) pd_3 d33_1 rfl ?_
  rintro _ _ ⟨rfl, rfl⟩
  show Go _ _ _ _ _ _ _ _ _ _ _ _ 4 _ [(.int 1)]
  refine Go.ifNo (pc' := 7) d33_4 (XT.i0_eq_f (by decide)) rfl ?_
  refine Go.aloadN (pc' := 8) d33_7 rfl rfl rfl ?_
  refine Go.getfield (pc' := 11) (host := "") (Or.inl (ww hw 28 rfl)) Via.refl g d33_8 rfl ?_
  refine Go.iloadN (pc' := 12) d33_11 rfl rfl ?_
  refine Go.callS (cells' := 0) (slots' := 0) (pc' := 15) [(.ref b), (.int 1)] [] (ww hw 159 rfl) (ww hw 160 rfl) (ww hw 62 rfl) (ww hw 161 rfl) (by decide) (c_latAt1 l Z a0 hw h b kb z vs x wf hwf hz hx sfm v) pd_4 d33_12 rfl ?_
  rintro _ _ ⟨rfl, rfl⟩
  show Go _ _ _ _ _ _ _ _ _ _ _ _ 15 _ [(.int (x &&& (255 : Int32)))]
  exact Go.retN (t := .char) rfl (by simp) d33_15 ⟨(congrArg (fun z => some (Value.int z)) (show nar .char (x &&& (255 : Int32)) = (x &&& (255 : Int32)) from i2c_mask _)), rfl⟩
theorem c_latAt2 (hw : HW a0 Z) (h : Heap) (b : Addr) (kb : ClassId) (z : Int32) (vs : List Value) (x : Int32) (wf : Value) (hwf : wf.isRef = true) (hz : (2 : Int32) < z) (hx : vs.getD 2 (.int 0) = .int x) (sfm : Sta Z Z.heap "jdk/internal/util/Preconditions" "SIOOBE_FORMATTER" "Ljava/util/function/BiFunction;" wf) (v : Arv Z h b kb .byte z vs (.int 0)) :
    Con l M_5 jdk_43_method_2_code 2 (some .char) (rm4 2 0 0 27) Z n0 #[(.ref b), (.int 2)] h (fun v h' => v = some (.int (x &&& (255 : Int32))) ∧ h = h') := by
  refine Con.of_go (plainFor_of_name pn_2) (Ls := #[.val (.ref b), .val (.int 2)]) ?_
  refine Go.iloadN (pc' := 1) d34_0 rfl rfl ?_
  refine Go.aloadN (pc' := 2) d34_1 rfl rfl rfl ?_
  refine Go.arraylength (pc' := 3) v d34_2 rfl ?_
  refine Go.callS (cells' := 0) (slots' := 0) (pc' := 6) [(.int 2), (.int z)] [] (ww hw 162 rfl) (ww hw 163 rfl) (ww hw 7 rfl) (ww hw 164 rfl) (by decide) (c_strCheck l Z a0 hw h (2 : Int32) z wf (by decide) hz hwf sfm) pd_2 d34_3 rfl ?_
  rintro _ _ ⟨rfl, rfl⟩
  show Go _ _ _ _ _ _ _ _ _ _ _ _ 6 _ []
  refine Go.aloadN (pc' := 7) d34_6 rfl rfl rfl ?_
  refine Go.iloadN (pc' := 8) d34_7 rfl rfl ?_
  refine Go.baload (pc' := 9) (v := x) v d34_8 (by decide) hz hx rfl ?_
  refine Go.sipush (pc' := 12) (v := 255) d34_9 rfl rfl ?_
  refine Go.iand (pc' := 13) d34_12 rfl ?_
  refine Go.i2c (pc' := 14) d34_13 rfl ?_
  rw [i2c_mask]
  exact Go.retN (t := .char) rfl (by simp) d34_14 ⟨(congrArg (fun z => some (Value.int z)) (show nar .char (x &&& (255 : Int32)) = (x &&& (255 : Int32)) from i2c_mask _)), rfl⟩
theorem c_charAt2 (hw : HW a0 Z) (h : Heap) (a : Addr) (b : Addr) (kb : ClassId) (z : Int32) (vs : List Value) (x : Int32) (cp : Int32) (wf : Value) (hcp : ¬ (cp = (0 : Int32))) (hwf : wf.isRef = true) (hz : (2 : Int32) < z) (hx : vs.getD 2 (.int 0) = .int x) (scp : Sta Z Z.heap "java/lang/String" "COMPACT_STRINGS" "Z" (.int cp)) (sfm : Sta Z Z.heap "jdk/internal/util/Preconditions" "SIOOBE_FORMATTER" "Ljava/util/function/BiFunction;" wf) (e : Exa Z h a "java/lang/String") (f : Fld Z h a "java/lang/String" "coder" "B" (.int 0)) (g : Fld Z h a "java/lang/String" "value" "[B" (.ref b)) (v : Arv Z h b kb .byte z vs (.int 0)) :
    Con l M_6 jdk_42_method_56_code 2 (some .char) (rm4 3 0 0 40) Z n0 #[(.ref a), (.int 2)] h (fun v h' => v = some (.int (x &&& (255 : Int32))) ∧ h = h') := by
  refine Con.of_go (plainFor_of_name pn_0) (Ls := #[.val (.ref a), .val (.int 2)]) ?_
  refine Go.aloadN (pc' := 1) d33_0 rfl rfl rfl ?_
  refine Go.callV (cells' := 0) (slots' := 0) (pc' := 4) [] [] e (ww hw 44 rfl) (ww hw 45 rfl) (nfS (ww hw 47 rfl)) (ww hw 47 rfl) (ww hw 46 rfl) (ww hw 7 rfl) (ww hw 48 rfl) (by decide) (c_isLatin1 l Z a0 hw h a cp hcp scp f) pd_3 d33_1 rfl ?_
  rintro _ _ ⟨rfl, rfl⟩
  show Go _ _ _ _ _ _ _ _ _ _ _ _ 4 _ [(.int 1)]
  refine Go.ifNo (pc' := 7) d33_4 (XT.i0_eq_f (by decide)) rfl ?_
  refine Go.aloadN (pc' := 8) d33_7 rfl rfl rfl ?_
  refine Go.getfield (pc' := 11) (host := "") (Or.inl (ww hw 28 rfl)) Via.refl g d33_8 rfl ?_
  refine Go.iloadN (pc' := 12) d33_11 rfl rfl ?_
  refine Go.callS (cells' := 0) (slots' := 0) (pc' := 15) [(.ref b), (.int 2)] [] (ww hw 159 rfl) (ww hw 160 rfl) (ww hw 62 rfl) (ww hw 161 rfl) (by decide) (c_latAt2 l Z a0 hw h b kb z vs x wf hwf hz hx sfm v) pd_4 d33_12 rfl ?_
  rintro _ _ ⟨rfl, rfl⟩
  show Go _ _ _ _ _ _ _ _ _ _ _ _ 15 _ [(.int (x &&& (255 : Int32)))]
  exact Go.retN (t := .char) rfl (by simp) d33_15 ⟨(congrArg (fun z => some (Value.int z)) (show nar .char (x &&& (255 : Int32)) = (x &&& (255 : Int32)) from i2c_mask _)), rfl⟩
theorem c_latAt3 (hw : HW a0 Z) (h : Heap) (b : Addr) (kb : ClassId) (z : Int32) (vs : List Value) (x : Int32) (wf : Value) (hwf : wf.isRef = true) (hz : (3 : Int32) < z) (hx : vs.getD 3 (.int 0) = .int x) (sfm : Sta Z Z.heap "jdk/internal/util/Preconditions" "SIOOBE_FORMATTER" "Ljava/util/function/BiFunction;" wf) (v : Arv Z h b kb .byte z vs (.int 0)) :
    Con l M_5 jdk_43_method_2_code 2 (some .char) (rm4 2 0 0 27) Z n0 #[(.ref b), (.int 3)] h (fun v h' => v = some (.int (x &&& (255 : Int32))) ∧ h = h') := by
  refine Con.of_go (plainFor_of_name pn_2) (Ls := #[.val (.ref b), .val (.int 3)]) ?_
  refine Go.iloadN (pc' := 1) d34_0 rfl rfl ?_
  refine Go.aloadN (pc' := 2) d34_1 rfl rfl rfl ?_
  refine Go.arraylength (pc' := 3) v d34_2 rfl ?_
  refine Go.callS (cells' := 0) (slots' := 0) (pc' := 6) [(.int 3), (.int z)] [] (ww hw 162 rfl) (ww hw 163 rfl) (ww hw 7 rfl) (ww hw 164 rfl) (by decide) (c_strCheck l Z a0 hw h (3 : Int32) z wf (by decide) hz hwf sfm) pd_2 d34_3 rfl ?_
  rintro _ _ ⟨rfl, rfl⟩
  show Go _ _ _ _ _ _ _ _ _ _ _ _ 6 _ []
  refine Go.aloadN (pc' := 7) d34_6 rfl rfl rfl ?_
  refine Go.iloadN (pc' := 8) d34_7 rfl rfl ?_
  refine Go.baload (pc' := 9) (v := x) v d34_8 (by decide) hz hx rfl ?_
  refine Go.sipush (pc' := 12) (v := 255) d34_9 rfl rfl ?_
  refine Go.iand (pc' := 13) d34_12 rfl ?_
  refine Go.i2c (pc' := 14) d34_13 rfl ?_
  rw [i2c_mask]
  exact Go.retN (t := .char) rfl (by simp) d34_14 ⟨(congrArg (fun z => some (Value.int z)) (show nar .char (x &&& (255 : Int32)) = (x &&& (255 : Int32)) from i2c_mask _)), rfl⟩
theorem c_charAt3 (hw : HW a0 Z) (h : Heap) (a : Addr) (b : Addr) (kb : ClassId) (z : Int32) (vs : List Value) (x : Int32) (cp : Int32) (wf : Value) (hcp : ¬ (cp = (0 : Int32))) (hwf : wf.isRef = true) (hz : (3 : Int32) < z) (hx : vs.getD 3 (.int 0) = .int x) (scp : Sta Z Z.heap "java/lang/String" "COMPACT_STRINGS" "Z" (.int cp)) (sfm : Sta Z Z.heap "jdk/internal/util/Preconditions" "SIOOBE_FORMATTER" "Ljava/util/function/BiFunction;" wf) (e : Exa Z h a "java/lang/String") (f : Fld Z h a "java/lang/String" "coder" "B" (.int 0)) (g : Fld Z h a "java/lang/String" "value" "[B" (.ref b)) (v : Arv Z h b kb .byte z vs (.int 0)) :
    Con l M_6 jdk_42_method_56_code 2 (some .char) (rm4 3 0 0 40) Z n0 #[(.ref a), (.int 3)] h (fun v h' => v = some (.int (x &&& (255 : Int32))) ∧ h = h') := by
  refine Con.of_go (plainFor_of_name pn_0) (Ls := #[.val (.ref a), .val (.int 3)]) ?_
  refine Go.aloadN (pc' := 1) d33_0 rfl rfl rfl ?_
  refine Go.callV (cells' := 0) (slots' := 0) (pc' := 4) [] [] e (ww hw 44 rfl) (ww hw 45 rfl) (nfS (ww hw 47 rfl)) (ww hw 47 rfl) (ww hw 46 rfl) (ww hw 7 rfl) (ww hw 48 rfl) (by decide) (c_isLatin1 l Z a0 hw h a cp hcp scp f) pd_3 d33_1 rfl ?_
  rintro _ _ ⟨rfl, rfl⟩
  show Go _ _ _ _ _ _ _ _ _ _ _ _ 4 _ [(.int 1)]
  refine Go.ifNo (pc' := 7) d33_4 (XT.i0_eq_f (by decide)) rfl ?_
  refine Go.aloadN (pc' := 8) d33_7 rfl rfl rfl ?_
  refine Go.getfield (pc' := 11) (host := "") (Or.inl (ww hw 28 rfl)) Via.refl g d33_8 rfl ?_
  refine Go.iloadN (pc' := 12) d33_11 rfl rfl ?_
  refine Go.callS (cells' := 0) (slots' := 0) (pc' := 15) [(.ref b), (.int 3)] [] (ww hw 159 rfl) (ww hw 160 rfl) (ww hw 62 rfl) (ww hw 161 rfl) (by decide) (c_latAt3 l Z a0 hw h b kb z vs x wf hwf hz hx sfm v) pd_4 d33_12 rfl ?_
  rintro _ _ ⟨rfl, rfl⟩
  show Go _ _ _ _ _ _ _ _ _ _ _ _ 15 _ [(.int (x &&& (255 : Int32)))]
  exact Go.retN (t := .char) rfl (by simp) d33_15 ⟨(congrArg (fun z => some (Value.int z)) (show nar .char (x &&& (255 : Int32)) = (x &&& (255 : Int32)) from i2c_mask _)), rfl⟩
theorem c_ch (hw : HW a0 Z) (h : Heap) (x : Int32) :
    Con l M_7 method_2_code 1 (some .char) (rm4 0 0 0 0) Z n0 #[(.int x)] h (fun v h' => ∃ c : Int32, v = some (.int c) ∧ h = h' ∧ (¬ ((255 : Int32) < c)) ∧ (nar .char c = c)) := by
  refine Con.of_go (plainFor_of_name pn_3) (Ls := #[.val (.int x)]) ?_
  refine Go.iloadN (pc' := 1) d1_0 rfl rfl ?_
  refine Go.iconst (pc' := 2) (v := 3) d1_1 rfl rfl ?_
  refine Go.iand (pc' := 3) d1_2 rfl ?_
  by_cases hc1 : (x &&& (3 : Int32)) = (0 : Int32)
  ·
    refine Go.ifNo (pc' := 6) d1_3 (XT.i0_ne_f hc1) rfl ?_
    refine Go.bipush (pc' := 8) (v := 124) d1_6 rfl rfl ?_
    refine Go.goto (pc' := 19) d1_8 (by decide) (by decide) ?_
    exact Go.retN (t := .char) rfl (by simp) d1_19 ⟨(124 : Int32), rfl, rfl, (by decide), (by decide)⟩
  ·
    refine Go.ifYes (pc' := 11) d1_3 (XT.i0_ne_t hc1) (by decide) (by decide) ?_
    refine Go.iloadN (pc' := 12) d1_11 rfl rfl ?_
    refine Go.iconst (pc' := 13) (v := 2) d1_12 rfl rfl ?_
    refine Go.iushr (pc' := 14) d1_13 rfl ?_
    refine Go.sipush (pc' := 17) (v := 255) d1_14 rfl rfl ?_
    refine Go.iand (pc' := 18) d1_17 rfl ?_
    refine Go.i2c (pc' := 19) d1_18 rfl ?_
    rw [i2c_mask]
    exact Go.retN (t := .char) rfl (by simp) d1_19 ⟨((XT.ushr x (2 : Int32)) &&& (255 : Int32)), congrArg (fun z => some (Value.int z)) (show nar .char ((XT.ushr x (2 : Int32)) &&& (255 : Int32)) = ((XT.ushr x (2 : Int32)) &&& (255 : Int32)) from i2c_mask _), rfl, OwnNum.le255 _, (show nar .char ((XT.ushr x (2 : Int32)) &&& (255 : Int32)) = ((XT.ushr x (2 : Int32)) &&& (255 : Int32)) from i2c_mask _)⟩
theorem c_make0 (hw : HW a0 Z) (h : Heap) (k0 : Int32) (k1 : Int32) (k2 : Int32) (k3 : Int32) :
    Con l M_8 method_3_code 5 (some (.array .char)) (rm4 0 1 0 0) Z n0 #[(.int 0), (.int k0), (.int k1), (.int k2), (.int k3)] h (fun v h' => ∃ d : Addr, ∃ kd : ClassId, v = some (.ref d) ∧ Keep h h' [] ∧ n0 ≤ d ∧ h.size ≤ d ∧ Arv Z h' d kd .char (0 : Int32) [] (.int 0)) := by
  refine Con.of_go (plainFor_of_name pn_3) (Ls := #[.val (.int 0), .val (.int k0), .val (.int k1), .val (.int k2), .val (.int k3)]) ?_
  refine Go.iloadN (pc' := 1) d2_0 rfl rfl ?_
  refine Go.ifNo (pc' := 4) d2_1 (XT.i0_ne_f (by decide)) rfl ?_
  refine Go.iconst (pc' := 5) (v := 0) d2_4 rfl rfl ?_
  refine Go.newarray (pc' := 7) (cells' := 1) (slots' := 0) (cap := 0) (ww hw 11 rfl) d2_5 (ad := "[C") (by decide) (by decide) (by decide) rfl rfl (by decide) (by decide) (by decide) rfl ?_
  intro h1 b1 g1 E1 ge1 kA1 A1 X1
  have K2 : Keep h h1 [] := (Keep.refl h []).ext E1
  have V1 : Arv Z h1 b1 kA1 .char (0 : Int32) [] (.int 0) := Arv.pad A1 (pad_rep [] (.int 0) 0)
  exact Go.retR rfl rfl rfl rfl d2_7 ⟨b1, kA1, rfl, K2, ge1, (Nat.le_of_eq g1.symm), V1⟩
theorem c_make1 (hw : HW a0 Z) (h : Heap) (k0 : Int32) (k1 : Int32) (k2 : Int32) (k3 : Int32) (hn0 : nar .char k0 = k0) :
    Con l M_8 method_3_code 5 (some (.array .char)) (rm4 0 1 1 0) Z n0 #[(.int 1), (.int k0), (.int k1), (.int k2), (.int k3)] h (fun v h' => ∃ d : Addr, ∃ kd : ClassId, v = some (.ref d) ∧ Keep h h' [] ∧ n0 ≤ d ∧ h.size ≤ d ∧ Arv Z h' d kd .char (1 : Int32) [(.int k0)] (.int 0)) := by
  refine Con.of_go (plainFor_of_name pn_3) (Ls := #[.val (.int 1), .val (.int k0), .val (.int k1), .val (.int k2), .val (.int k3)]) ?_
  refine Go.iloadN (pc' := 1) d2_0 rfl rfl ?_
  refine Go.ifYes (pc' := 8) d2_1 (XT.i0_ne_t (by decide)) (by decide) (by decide) ?_
  refine Go.iloadN (pc' := 9) d2_8 rfl rfl ?_
  refine Go.iconst (pc' := 10) (v := 1) d2_9 rfl rfl ?_
  refine Go.icmpNo (pc' := 13) d2_10 (XT.ii_ne_f (by decide)) rfl ?_
  refine Go.iconst (pc' := 14) (v := 1) d2_13 rfl rfl ?_
  refine Go.newarray (pc' := 16) (cells' := 1) (slots' := 1) (cap := 1) (ww hw 11 rfl) d2_14 (ad := "[C") (by decide) (by decide) (by decide) rfl rfl (by decide) (by decide) (by decide) rfl ?_
  intro h1 b1 g1 E1 ge1 kA1 A1 X1
  have K2 : Keep h h1 [] := (Keep.refl h []).ext E1
  have V1 : Arv Z h1 b1 kA1 .char (1 : Int32) [(.int 0)] (.int 0) := Arv.pad A1 (pad_rep [] (.int 0) 1)
  refine Go.dup (pc' := 17) d2_16 rfl rfl ?_
  refine Go.iconst (pc' := 18) (v := 0) d2_17 rfl rfl ?_
  refine Go.iloadN (pc' := 19) d2_18 rfl rfl ?_
  refine Go.castore (pc' := 20) V1 ge1 d2_19 (by decide) (by decide) (i := 0) rfl (nl rfl) rfl ?_
  intro h3 W4 V5
  have K6 : Keep h h3 [] := K2.wr W4 (Or.inr (Nat.le_of_eq g1.symm))
  rw [hn0] at V5
  replace V5 : Arv Z h3 b1 kA1 .char (1 : Int32) [(.int k0)] (.int 0) := V5
  exact Go.retR rfl rfl rfl rfl d2_20 ⟨b1, kA1, rfl, K6, ge1, (Nat.le_of_eq g1.symm), V5⟩
theorem c_make2 (hw : HW a0 Z) (h : Heap) (k0 : Int32) (k1 : Int32) (k2 : Int32) (k3 : Int32) (hn0 : nar .char k0 = k0) (hn1 : nar .char k1 = k1) :
    Con l M_8 method_3_code 5 (some (.array .char)) (rm4 0 1 2 0) Z n0 #[(.int 2), (.int k0), (.int k1), (.int k2), (.int k3)] h (fun v h' => ∃ d : Addr, ∃ kd : ClassId, v = some (.ref d) ∧ Keep h h' [] ∧ n0 ≤ d ∧ h.size ≤ d ∧ Arv Z h' d kd .char (2 : Int32) [(.int k0), (.int k1)] (.int 0)) := by
  refine Con.of_go (plainFor_of_name pn_3) (Ls := #[.val (.int 2), .val (.int k0), .val (.int k1), .val (.int k2), .val (.int k3)]) ?_
  refine Go.iloadN (pc' := 1) d2_0 rfl rfl ?_
  refine Go.ifYes (pc' := 8) d2_1 (XT.i0_ne_t (by decide)) (by decide) (by decide) ?_
  refine Go.iloadN (pc' := 9) d2_8 rfl rfl ?_
  refine Go.iconst (pc' := 10) (v := 1) d2_9 rfl rfl ?_
  refine Go.icmpYes (pc' := 21) d2_10 (XT.ii_ne_t (by decide)) (by decide) (by decide) ?_
  refine Go.iloadN (pc' := 22) d2_21 rfl rfl ?_
  refine Go.iconst (pc' := 23) (v := 2) d2_22 rfl rfl ?_
  refine Go.icmpNo (pc' := 26) d2_23 (XT.ii_ne_f (by decide)) rfl ?_
  refine Go.iconst (pc' := 27) (v := 2) d2_26 rfl rfl ?_
  refine Go.newarray (pc' := 29) (cells' := 1) (slots' := 2) (cap := 2) (ww hw 11 rfl) d2_27 (ad := "[C") (by decide) (by decide) (by decide) rfl rfl (by decide) (by decide) (by decide) rfl ?_
  intro h1 b1 g1 E1 ge1 kA1 A1 X1
  have K2 : Keep h h1 [] := (Keep.refl h []).ext E1
  have V1 : Arv Z h1 b1 kA1 .char (2 : Int32) [(.int 0), (.int 0)] (.int 0) := Arv.pad A1 (pad_rep [] (.int 0) 2)
  refine Go.dup (pc' := 30) d2_29 rfl rfl ?_
  refine Go.iconst (pc' := 31) (v := 0) d2_30 rfl rfl ?_
  refine Go.iloadN (pc' := 32) d2_31 rfl rfl ?_
  refine Go.castore (pc' := 33) V1 ge1 d2_32 (by decide) (by decide) (i := 0) rfl (nl rfl) rfl ?_
  intro h3 W4 V5
  have K6 : Keep h h3 [] := K2.wr W4 (Or.inr (Nat.le_of_eq g1.symm))
  rw [hn0] at V5
  replace V5 : Arv Z h3 b1 kA1 .char (2 : Int32) [(.int k0), (.int 0)] (.int 0) := V5
  refine Go.dup (pc' := 34) d2_33 rfl rfl ?_
  refine Go.iconst (pc' := 35) (v := 1) d2_34 rfl rfl ?_
  refine Go.iloadN (pc' := 36) d2_35 rfl rfl ?_
  refine Go.castore (pc' := 37) V5 ge1 d2_36 (by decide) (by decide) (i := 1) rfl (nl rfl) rfl ?_
  intro h7 W8 V9
  have K10 : Keep h h7 [] := K6.wr W8 (Or.inr (Nat.le_of_eq g1.symm))
  rw [hn1] at V9
  replace V9 : Arv Z h7 b1 kA1 .char (2 : Int32) [(.int k0), (.int k1)] (.int 0) := V9
  exact Go.retR rfl rfl rfl rfl d2_37 ⟨b1, kA1, rfl, K10, ge1, (Nat.le_of_eq g1.symm), V9⟩
theorem c_make3 (hw : HW a0 Z) (h : Heap) (k0 : Int32) (k1 : Int32) (k2 : Int32) (k3 : Int32) (hn0 : nar .char k0 = k0) (hn1 : nar .char k1 = k1) (hn2 : nar .char k2 = k2) :
    Con l M_8 method_3_code 5 (some (.array .char)) (rm4 0 1 3 0) Z n0 #[(.int 3), (.int k0), (.int k1), (.int k2), (.int k3)] h (fun v h' => ∃ d : Addr, ∃ kd : ClassId, v = some (.ref d) ∧ Keep h h' [] ∧ n0 ≤ d ∧ h.size ≤ d ∧ Arv Z h' d kd .char (3 : Int32) [(.int k0), (.int k1), (.int k2)] (.int 0)) := by
  refine Con.of_go (plainFor_of_name pn_3) (Ls := #[.val (.int 3), .val (.int k0), .val (.int k1), .val (.int k2), .val (.int k3)]) ?_
  refine Go.iloadN (pc' := 1) d2_0 rfl rfl ?_
  refine Go.ifYes (pc' := 8) d2_1 (XT.i0_ne_t (by decide)) (by decide) (by decide) ?_
  refine Go.iloadN (pc' := 9) d2_8 rfl rfl ?_
  refine Go.iconst (pc' := 10) (v := 1) d2_9 rfl rfl ?_
  refine Go.icmpYes (pc' := 21) d2_10 (XT.ii_ne_t (by decide)) (by decide) (by decide) ?_
  refine Go.iloadN (pc' := 22) d2_21 rfl rfl ?_
  refine Go.iconst (pc' := 23) (v := 2) d2_22 rfl rfl ?_
  refine Go.icmpYes (pc' := 38) d2_23 (XT.ii_ne_t (by decide)) (by decide) (by decide) ?_
  refine Go.iloadN (pc' := 39) d2_38 rfl rfl ?_
  refine Go.iconst (pc' := 40) (v := 3) d2_39 rfl rfl ?_
  refine Go.icmpNo (pc' := 43) d2_40 (XT.ii_ne_f (by decide)) rfl ?_
  refine Go.iconst (pc' := 44) (v := 3) d2_43 rfl rfl ?_
  refine Go.newarray (pc' := 46) (cells' := 1) (slots' := 3) (cap := 3) (ww hw 11 rfl) d2_44 (ad := "[C") (by decide) (by decide) (by decide) rfl rfl (by decide) (by decide) (by decide) rfl ?_
  intro h1 b1 g1 E1 ge1 kA1 A1 X1
  have K2 : Keep h h1 [] := (Keep.refl h []).ext E1
  have V1 : Arv Z h1 b1 kA1 .char (3 : Int32) [(.int 0), (.int 0), (.int 0)] (.int 0) := Arv.pad A1 (pad_rep [] (.int 0) 3)
  refine Go.dup (pc' := 47) d2_46 rfl rfl ?_
  refine Go.iconst (pc' := 48) (v := 0) d2_47 rfl rfl ?_
  refine Go.iloadN (pc' := 49) d2_48 rfl rfl ?_
  refine Go.castore (pc' := 50) V1 ge1 d2_49 (by decide) (by decide) (i := 0) rfl (nl rfl) rfl ?_
  intro h3 W4 V5
  have K6 : Keep h h3 [] := K2.wr W4 (Or.inr (Nat.le_of_eq g1.symm))
  rw [hn0] at V5
  replace V5 : Arv Z h3 b1 kA1 .char (3 : Int32) [(.int k0), (.int 0), (.int 0)] (.int 0) := V5
  refine Go.dup (pc' := 51) d2_50 rfl rfl ?_
  refine Go.iconst (pc' := 52) (v := 1) d2_51 rfl rfl ?_
  refine Go.iloadN (pc' := 53) d2_52 rfl rfl ?_
  refine Go.castore (pc' := 54) V5 ge1 d2_53 (by decide) (by decide) (i := 1) rfl (nl rfl) rfl ?_
  intro h7 W8 V9
  have K10 : Keep h h7 [] := K6.wr W8 (Or.inr (Nat.le_of_eq g1.symm))
  rw [hn1] at V9
  replace V9 : Arv Z h7 b1 kA1 .char (3 : Int32) [(.int k0), (.int k1), (.int 0)] (.int 0) := V9
  refine Go.dup (pc' := 55) d2_54 rfl rfl ?_
  refine Go.iconst (pc' := 56) (v := 2) d2_55 rfl rfl ?_
  refine Go.iloadN (pc' := 57) d2_56 rfl rfl ?_
  refine Go.castore (pc' := 58) V9 ge1 d2_57 (by decide) (by decide) (i := 2) rfl (nl rfl) rfl ?_
  intro h11 W12 V13
  have K14 : Keep h h11 [] := K10.wr W12 (Or.inr (Nat.le_of_eq g1.symm))
  rw [hn2] at V13
  replace V13 : Arv Z h11 b1 kA1 .char (3 : Int32) [(.int k0), (.int k1), (.int k2)] (.int 0) := V13
  exact Go.retR rfl rfl rfl rfl d2_58 ⟨b1, kA1, rfl, K14, ge1, (Nat.le_of_eq g1.symm), V13⟩
theorem c_make4 (hw : HW a0 Z) (h : Heap) (k0 : Int32) (k1 : Int32) (k2 : Int32) (k3 : Int32) (hn0 : nar .char k0 = k0) (hn1 : nar .char k1 = k1) (hn2 : nar .char k2 = k2) (hn3 : nar .char k3 = k3) :
    Con l M_8 method_3_code 5 (some (.array .char)) (rm4 0 1 4 0) Z n0 #[(.int 4), (.int k0), (.int k1), (.int k2), (.int k3)] h (fun v h' => ∃ d : Addr, ∃ kd : ClassId, v = some (.ref d) ∧ Keep h h' [] ∧ n0 ≤ d ∧ h.size ≤ d ∧ Arv Z h' d kd .char (4 : Int32) [(.int k0), (.int k1), (.int k2), (.int k3)] (.int 0)) := by
  refine Con.of_go (plainFor_of_name pn_3) (Ls := #[.val (.int 4), .val (.int k0), .val (.int k1), .val (.int k2), .val (.int k3)]) ?_
  refine Go.iloadN (pc' := 1) d2_0 rfl rfl ?_
  refine Go.ifYes (pc' := 8) d2_1 (XT.i0_ne_t (by decide)) (by decide) (by decide) ?_
  refine Go.iloadN (pc' := 9) d2_8 rfl rfl ?_
  refine Go.iconst (pc' := 10) (v := 1) d2_9 rfl rfl ?_
  refine Go.icmpYes (pc' := 21) d2_10 (XT.ii_ne_t (by decide)) (by decide) (by decide) ?_
  refine Go.iloadN (pc' := 22) d2_21 rfl rfl ?_
  refine Go.iconst (pc' := 23) (v := 2) d2_22 rfl rfl ?_
  refine Go.icmpYes (pc' := 38) d2_23 (XT.ii_ne_t (by decide)) (by decide) (by decide) ?_
  refine Go.iloadN (pc' := 39) d2_38 rfl rfl ?_
  refine Go.iconst (pc' := 40) (v := 3) d2_39 rfl rfl ?_
  refine Go.icmpYes (pc' := 59) d2_40 (XT.ii_ne_t (by decide)) (by decide) (by decide) ?_
  refine Go.iconst (pc' := 60) (v := 4) d2_59 rfl rfl ?_
  refine Go.newarray (pc' := 62) (cells' := 1) (slots' := 4) (cap := 4) (ww hw 11 rfl) d2_60 (ad := "[C") (by decide) (by decide) (by decide) rfl rfl (by decide) (by decide) (by decide) rfl ?_
  intro h1 b1 g1 E1 ge1 kA1 A1 X1
  have K2 : Keep h h1 [] := (Keep.refl h []).ext E1
  have V1 : Arv Z h1 b1 kA1 .char (4 : Int32) [(.int 0), (.int 0), (.int 0), (.int 0)] (.int 0) := Arv.pad A1 (pad_rep [] (.int 0) 4)
  refine Go.dup (pc' := 63) d2_62 rfl rfl ?_
  refine Go.iconst (pc' := 64) (v := 0) d2_63 rfl rfl ?_
  refine Go.iloadN (pc' := 65) d2_64 rfl rfl ?_
  refine Go.castore (pc' := 66) V1 ge1 d2_65 (by decide) (by decide) (i := 0) rfl (nl rfl) rfl ?_
  intro h3 W4 V5
  have K6 : Keep h h3 [] := K2.wr W4 (Or.inr (Nat.le_of_eq g1.symm))
  rw [hn0] at V5
  replace V5 : Arv Z h3 b1 kA1 .char (4 : Int32) [(.int k0), (.int 0), (.int 0), (.int 0)] (.int 0) := V5
  refine Go.dup (pc' := 67) d2_66 rfl rfl ?_
  refine Go.iconst (pc' := 68) (v := 1) d2_67 rfl rfl ?_
  refine Go.iloadN (pc' := 69) d2_68 rfl rfl ?_
  refine Go.castore (pc' := 70) V5 ge1 d2_69 (by decide) (by decide) (i := 1) rfl (nl rfl) rfl ?_
  intro h7 W8 V9
  have K10 : Keep h h7 [] := K6.wr W8 (Or.inr (Nat.le_of_eq g1.symm))
  rw [hn1] at V9
  replace V9 : Arv Z h7 b1 kA1 .char (4 : Int32) [(.int k0), (.int k1), (.int 0), (.int 0)] (.int 0) := V9
  refine Go.dup (pc' := 71) d2_70 rfl rfl ?_
  refine Go.iconst (pc' := 72) (v := 2) d2_71 rfl rfl ?_
  refine Go.iloadN (pc' := 73) d2_72 rfl rfl ?_
  refine Go.castore (pc' := 74) V9 ge1 d2_73 (by decide) (by decide) (i := 2) rfl (nl rfl) rfl ?_
  intro h11 W12 V13
  have K14 : Keep h h11 [] := K10.wr W12 (Or.inr (Nat.le_of_eq g1.symm))
  rw [hn2] at V13
  replace V13 : Arv Z h11 b1 kA1 .char (4 : Int32) [(.int k0), (.int k1), (.int k2), (.int 0)] (.int 0) := V13
  refine Go.dup (pc' := 75) d2_74 rfl rfl ?_
  refine Go.iconst (pc' := 76) (v := 3) d2_75 rfl rfl ?_
  refine Go.iload (pc' := 78) d2_76 rfl rfl ?_
  refine Go.castore (pc' := 79) V13 ge1 d2_78 (by decide) (by decide) (i := 3) rfl (nl rfl) rfl ?_
  intro h15 W16 V17
  have K18 : Keep h h15 [] := K14.wr W16 (Or.inr (Nat.le_of_eq g1.symm))
  rw [hn3] at V17
  replace V17 : Arv Z h15 b1 kA1 .char (4 : Int32) [(.int k0), (.int k1), (.int k2), (.int k3)] (.int 0) := V17
  exact Go.retR rfl rfl rfl rfl d2_79 ⟨b1, kA1, rfl, K18, ge1, (Nat.le_of_eq g1.symm), V17⟩
theorem c_strComp1 (hw : HW a0 Z) (h : Heap) (t : Addr) (kt : ClassId) (b : Addr) (kb : ClassId) (k0 : Int32) (hk0 : ¬ ((255 : Int32) < k0)) (ge_b : n0 ≤ b) (ne_t_b : t ≠ b) (vt : Arv Z h t kt .char (1 : Int32) [(.int k0)] (.int 0)) (vb : Arv Z h b kb .byte (1 : Int32) [(.int 0)] (.int 0)) :
    Con l M_9 jdk_52_method_21_code 7 (some .int) (rm4 0 0 0 0) Z n0 #[(.ref t), (.int 0), (.ref b), (.int 0), (.int 1)] h (fun v h' => v = some (.int 1) ∧ Keep h h' [b] ∧ Arv Z h' b kb .byte (1 : Int32) [(.int k0.toInt8.toInt32)] (.int 0)) := by
  refine Con.of_go (plainFor_of_name pn_4) (Ls := #[.val (.ref t), .val (.int 0), .val (.ref b), .val (.int 0), .val (.int 1), .unset, .unset]) ?_
  refine Go.iconst (pc' := 1) (v := 0) d21_0 rfl rfl ?_
  refine Go.istore (pc' := 3) (Ls' := #[.val (.ref t), .val (.int 0), .val (.ref b), .val (.int 0), .val (.int 1), .val (.int 0), .unset]) d21_1 rfl rfl ?_
  refine Go.iload (pc' := 5) d21_3 rfl rfl ?_
  refine Go.iload (pc' := 7) d21_5 rfl rfl ?_
  refine Go.icmpNo (pc' := 10) d21_7 (XT.ii_ge_f (by decide)) rfl ?_
  refine Go.aloadN (pc' := 11) d21_10 rfl rfl rfl ?_
  refine Go.iloadN (pc' := 12) d21_11 rfl rfl ?_
  refine Go.caload (pc' := 13) (v := k0) vt d21_12 (by decide) (by decide) rfl rfl ?_
  refine Go.istore (pc' := 15) (Ls' := #[.val (.ref t), .val (.int 0), .val (.ref b), .val (.int 0), .val (.int 1), .val (.int 0), .val (.int k0)]) d21_13 rfl rfl ?_
  refine Go.iload (pc' := 17) d21_15 rfl rfl ?_
  refine Go.sipush (pc' := 20) (v := 255) d21_17 rfl rfl ?_
  refine Go.icmpYes (pc' := 26) d21_20 (XT.ii_le_t hk0) (by decide) (by decide) ?_
  refine Go.aloadN (pc' := 27) d21_26 rfl rfl rfl ?_
  refine Go.iloadN (pc' := 28) d21_27 rfl rfl ?_
  refine Go.iload (pc' := 30) d21_28 rfl rfl ?_
  refine Go.i2b (pc' := 31) d21_30 rfl ?_
  refine Go.bastore (pc' := 32) vb ge_b d21_31 (by decide) (by decide) (i := 0) rfl (nl rfl) rfl ?_
  intro h1 W2 V3
  have K4 : Keep h h1 [b] := (Keep.refl h [b]).wr W2 (Or.inl (List.mem_of_getElem? (i := 0) rfl))
  rw [OwnNum.b8] at V3
  replace V3 : Arv Z h1 b kb .byte (1 : Int32) [(.int k0.toInt8.toInt32)] (.int 0) := V3
  refine Go.iinc (pc' := 35) (Ls' := #[.val (.ref t), .val (.int ((0 : Int32) + (1 : Int32))), .val (.ref b), .val (.int 0), .val (.int 1), .val (.int 0), .val (.int k0)]) (w := (1 : Int32)) d21_32 rfl rfl rfl rfl ?_
  show Go _ _ _ _ _ _ _ _ _ _ _ _ 35 #[.val (.ref t), .val (.int 1), .val (.ref b), .val (.int 0), .val (.int 1), .val (.int 0), .val (.int k0)] []
  refine Go.iinc (pc' := 38) (Ls' := #[.val (.ref t), .val (.int 1), .val (.ref b), .val (.int ((0 : Int32) + (1 : Int32))), .val (.int 1), .val (.int 0), .val (.int k0)]) (w := (1 : Int32)) d21_35 rfl rfl rfl rfl ?_
  show Go _ _ _ _ _ _ _ _ _ _ _ _ 38 #[.val (.ref t), .val (.int 1), .val (.ref b), .val (.int 1), .val (.int 1), .val (.int 0), .val (.int k0)] []
  refine Go.iinc (pc' := 41) (Ls' := #[.val (.ref t), .val (.int 1), .val (.ref b), .val (.int 1), .val (.int 1), .val (.int ((0 : Int32) + (1 : Int32))), .val (.int k0)]) (w := (1 : Int32)) d21_38 rfl rfl rfl rfl ?_
  show Go _ _ _ _ _ _ _ _ _ _ _ _ 41 #[.val (.ref t), .val (.int 1), .val (.ref b), .val (.int 1), .val (.int 1), .val (.int 1), .val (.int k0)] []
  refine Go.goto (pc' := 3) d21_41 (by decide) (by decide) ?_
  refine Go.iload (pc' := 5) d21_3 rfl rfl ?_
  refine Go.iload (pc' := 7) d21_5 rfl rfl ?_
  refine Go.icmpYes (pc' := 44) d21_7 (XT.ii_ge_t (by decide)) (by decide) (by decide) ?_
  refine Go.iload (pc' := 46) d21_44 rfl rfl ?_
  exact Go.retI rfl d21_46 ⟨rfl, K4, V3⟩
theorem c_strComp2_1 (hw : HW a0 Z) (h : Heap) (t : Addr) (kt : ClassId) (k0 : Int32) (hk0 : ¬ ((255 : Int32) < k0)) (vt : Arv Z h t kt .char (1 : Int32) [(.int k0)] (.int 0)) :
    Con l M_10 jdk_52_method_16_code 6 (some (.array .byte)) (rm4 1 1 1 18) Z n0 #[(.ref t), (.int 0), (.int 1)] h (fun v h' => ∃ b : Addr, ∃ kb : ClassId, v = some (.ref b) ∧ Keep h h' [] ∧ n0 ≤ b ∧ h.size ≤ b ∧ Arv Z h' b kb .byte (1 : Int32) [(.int k0.toInt8.toInt32)] (.int 0)) := by
  refine Con.of_go (plainFor_of_name pn_4) (Ls := #[.val (.ref t), .val (.int 0), .val (.int 1), .unset, .unset, .unset]) ?_
  refine Go.iloadN (pc' := 1) d20_0 rfl rfl ?_
  refine Go.newarray (pc' := 3) (cells' := 1) (slots' := 1) (cap := 1) (ww hw 23 rfl) d20_1 (ad := "[B") (by decide) (by decide) (by decide) rfl rfl (by decide) (by decide) (by decide) rfl ?_
  intro h1 b1 g1 E1 ge1 kA1 A1 X1
  have K2 : Keep h h1 [] := (Keep.refl h []).ext E1
  have V1 : Arv Z h1 b1 kA1 .byte (1 : Int32) [(.int 0)] (.int 0) := Arv.pad A1 (pad_rep [] (.int 0) 1)
  refine Go.astoreN (pc' := 4) (Ls' := #[.val (.ref t), .val (.int 0), .val (.int 1), .val (.ref b1), .unset, .unset]) d20_3 rfl rfl rfl ?_
  refine Go.aloadN (pc' := 5) d20_4 rfl rfl rfl ?_
  refine Go.iloadN (pc' := 6) d20_5 rfl rfl ?_
  refine Go.aloadN (pc' := 7) d20_6 rfl rfl rfl ?_
  refine Go.iconst (pc' := 8) (v := 0) d20_7 rfl rfl ?_
  refine Go.iloadN (pc' := 9) d20_8 rfl rfl ?_
  have ne3 : t ≠ b1 := (Nat.ne_of_lt (Nat.lt_of_lt_of_le vt.lt (Nat.le_of_eq g1.symm)))
  refine Go.callS (cells' := 1) (slots' := 1) (pc' := 12) [(.ref t), (.int 0), (.ref b1), (.int 0), (.int 1)] [] (ww hw 103 rfl) (ww hw 104 rfl) (ww hw 101 rfl) (ww hw 105 rfl) (by decide) (c_strComp1 l Z a0 hw h1 t kt b1 kA1 k0 hk0 ge1 ne3 (vt.ext E1) V1) pd_5 d20_9 rfl ?_
  rintro _ h4 ⟨rfl, K4, F4_0⟩
  have K5 : Keep h h4 [] := K2.trans K4 (allS (Or.inr (Nat.le_of_eq g1.symm)) all0)
  show Go _ _ _ _ _ _ _ _ _ _ _ _ 12 _ [(.int 1)]
  refine Go.istore (pc' := 14) (Ls' := #[.val (.ref t), .val (.int 0), .val (.int 1), .val (.ref b1), .val (.int 1), .unset]) d20_12 rfl rfl ?_
  refine Go.iload (pc' := 16) d20_14 rfl rfl ?_
  refine Go.iloadN (pc' := 17) d20_16 rfl rfl ?_
  refine Go.icmpYes (pc' := 57) d20_17 (XT.ii_eq_t (by decide)) (by decide) (by decide) ?_
  refine Go.aloadN (pc' := 58) d20_57 rfl rfl rfl ?_
  exact Go.retR rfl rfl rfl rfl d20_58 ⟨b1, kA1, rfl, K5, ge1, (Nat.le_of_eq g1.symm), F4_0⟩
theorem c_strCoder1 (hw : HW a0 Z) (h : Heap) (b : Addr) (kb : ClassId) (k0 : Int32) (vb : Arv Z h b kb .byte (1 : Int32) [(.int k0.toInt8.toInt32)] (.int 0)) :
    Con l M_11 jdk_52_method_15_code 2 (some .byte) (rm4 0 0 0 0) Z n0 #[(.ref b), (.int 1)] h (fun v h' => v = some (.int 0) ∧ h = h') := by
  refine Con.of_go (plainFor_of_name pn_4) (Ls := #[.val (.ref b), .val (.int 1)]) ?_
  refine Go.iloadN (pc' := 1) d22_0 rfl rfl ?_
  refine Go.aloadN (pc' := 2) d22_1 rfl rfl rfl ?_
  refine Go.arraylength (pc' := 3) vb d22_2 rfl ?_
  refine Go.isub (pc' := 4) d22_3 rfl ?_
  show Go _ _ _ _ _ _ _ _ _ _ _ _ 4 _ [(.int 0)]
  refine Go.bipush (pc' := 6) (v := 31) d22_4 rfl rfl ?_
  refine Go.iushr (pc' := 7) d22_6 rfl ?_
  show Go _ _ _ _ _ _ _ _ _ _ _ _ 7 _ [(.int 0)]
  refine Go.i2b (pc' := 8) d22_7 rfl ?_
  show Go _ _ _ _ _ _ _ _ _ _ _ _ 8 #[.val (.ref b), .val (.int 1)] [(.int 0)]
  exact Go.retN (t := .byte) rfl (by simp) d22_8 ⟨rfl, rfl⟩
theorem c_strInit4_1 (hw : HW a0 Z) (h : Heap) (a : Addr) (t : Addr) (kt : ClassId) (k0 : Int32) (cp : Int32) (hk0 : ¬ ((255 : Int32) < k0)) (hcp : ¬ (cp = (0 : Int32))) (scp : Sta Z Z.heap "java/lang/String" "COMPACT_STRINGS" "Z" (.int cp)) (ge_a : n0 ≤ a) (xa : Exa Z h a "java/lang/String") (pf0 : Fld Z h a "java/lang/String" "value" "[B" .null) (pf1 : Fld Z h a "java/lang/String" "coder" "B" (.int 0)) (vt : Arv Z h t kt .char (1 : Int32) [(.int k0)] (.int 0)) :
    Con l M_12 jdk_42_method_149_code 6 none (rm4 2 1 1 35) Z n0 #[(.ref a), (.ref t), (.int 0), (.int 1), .null] h (fun v h' => ∃ b : Addr, ∃ kb : ClassId, v = none ∧ Keep h h' [a] ∧ n0 ≤ b ∧ h.size ≤ b ∧ Fld Z h' a "java/lang/String" "value" "[B" (.ref b) ∧ Fld Z h' a "java/lang/String" "coder" "B" (.int 0) ∧ Arv Z h' b kb .byte (1 : Int32) [(.int k0.toInt8.toInt32)] (.int 0)) := by
  refine Con.of_go (plainFor_of_name pn_0) (Ls := #[.val (.ref a), .val (.ref t), .val (.int 0), .val (.int 1), .val .null, .unset]) ?_
  refine Go.aloadN (pc' := 1) d4_0 rfl rfl rfl ?_
  refine Go.initO (pc' := 4) (ww hw 19 rfl) (ww hw 20 rfl) (ww hw 21 rfl) d4_1 rfl (nl rfl) (nl rfl) rfl ?_
  refine Go.iloadN (pc' := 5) d4_4 rfl rfl ?_
  refine Go.ifYes (pc' := 27) d4_5 (XT.i0_ne_t (by decide)) (by decide) (by decide) ?_
  refine Go.old (fun old1 => ?_)
  refine Go.getstatic (pc' := 30) (host := "") (Or.inl (ww hw 49 rfl)) Via.refl (scp.ext old1.2) d4_27 rfl ?_
  refine Go.ifNo (pc' := 33) d4_30 (XT.i0_eq_f hcp) rfl ?_
  refine Go.aloadN (pc' := 34) d4_33 rfl rfl rfl ?_
  refine Go.iloadN (pc' := 35) d4_34 rfl rfl ?_
  refine Go.iloadN (pc' := 36) d4_35 rfl rfl ?_
  refine Go.callS (cells' := 1) (slots' := 1) (pc' := 39) [(.ref t), (.int 0), (.int 1)] [] (ww hw 99 rfl) (ww hw 100 rfl) (ww hw 101 rfl) (ww hw 102 rfl) (by decide) (c_strComp2_1 l Z a0 hw h t kt k0 hk0 vt) pd_6 d4_36 rfl ?_
  rintro _ h2 ⟨b_2, kb_2, rfl, K2, ge_b_2, sz_b_2, F2_0⟩
  have K3 : Keep h h2 [a] := (Keep.refl h [a]).trans K2 all0
  show Go _ _ _ _ _ _ _ _ _ _ _ _ 39 _ [(.ref b_2)]
  refine Go.astore (pc' := 41) (Ls' := #[.val (.ref a), .val (.ref t), .val (.int 0), .val (.int 1), .val .null, .val (.ref b_2)]) d4_39 rfl rfl rfl ?_
  refine Go.aloadN (pc' := 42) d4_41 rfl rfl rfl ?_
  refine Go.aload (pc' := 44) d4_42 rfl rfl rfl ?_
  refine Go.iloadN (pc' := 45) d4_44 rfl rfl ?_
  refine Go.callS (cells' := 1) (slots' := 1) (pc' := 48) [(.ref b_2), (.int 1)] [(.ref a)] (ww hw 106 rfl) (ww hw 107 rfl) (ww hw 101 rfl) (ww hw 108 rfl) (by decide) (c_strCoder1 l Z a0 hw h2 b_2 kb_2 k0 F2_0) pd_7 d4_45 rfl ?_
  rintro _ _ ⟨rfl, rfl⟩
  show Go _ _ _ _ _ _ _ _ _ _ _ _ 48 _ [(.int 0), (.ref a)]
  refine Go.putfieldN (pc' := 51) (ww hw 29 rfl) Via.refl (pf1.keep K2 nin0) (xa.keep K2) (Or.inr ⟨(ww hw 25 rfl), rfl, rfl⟩) (ww hw 6 rfl) (ty := .byte) (v' := (0 : Int32)) (by decide) (by first | rfl | decide) (by first | rfl | decide | exact fits_nar_byte _) ge_a d4_48 rfl ?_
  intro h5 W6
  have K7 : Keep h h5 [a] := K3.wr W6 (Or.inl (List.mem_of_getElem? (i := 0) rfl))
  have f8 := (pf1.keep K2 nin0).same W6
  refine Go.aloadN (pc' := 52) d4_51 rfl rfl rfl ?_
  refine Go.aload (pc' := 54) d4_52 rfl rfl rfl ?_
  have f9 : Fld Z h5 a "java/lang/String" "value" "[B" .null := ((pf0.keep K2 nin0).other W6 (Or.inr (slot_ne (Or.inr (ww hw 24 rfl)) (Or.inr (ww hw 25 rfl)) (by decide) (t := (.array .byte)) (t' := .byte) (by decide) (by decide))))
  refine Go.putfield (pc' := 57) (host := "") (Or.inl (ww hw 28 rfl)) Via.refl f9 ((xa.keep K2).wr W6) (Or.inr ⟨(ww hw 24 rfl), rfl, rfl⟩) (ww hw 6 rfl) (ty := (.array .byte)) (by decide) rfl rfl ge_a d4_54 rfl ?_
  intro h10 W11
  have K12 : Keep h h10 [a] := K7.wr W11 (Or.inl (List.mem_of_getElem? (i := 0) rfl))
  have f13 := f9.same W11
  have f14 : Fld Z h10 a "java/lang/String" "coder" "B" (.int 0) := (f8.other W11 (Or.inr (slot_ne (Or.inr (ww hw 25 rfl)) (Or.inr (ww hw 24 rfl)) (by decide) (t := .byte) (t' := (.array .byte)) (by decide) (by decide))))
  have ne15 : a ≠ b_2 := (Nat.ne_of_lt (Nat.lt_of_lt_of_le pf0.lt sz_b_2))
  have f16 : Arv Z h10 b_2 kb_2 .byte (1 : Int32) [(.int k0.toInt8.toInt32)] (.int 0) := ((F2_0.other W6 (Ne.symm ne15)).other W11 (Ne.symm ne15))
  exact Go.retV rfl d4_57 ⟨b_2, kb_2, rfl, K12, ge_b_2, sz_b_2, f13, f14, f16⟩
theorem c_strInit1 (hw : HW a0 Z) (h : Heap) (a : Addr) (t : Addr) (kt : ClassId) (k0 : Int32) (cp : Int32) (hk0 : ¬ ((255 : Int32) < k0)) (hcp : ¬ (cp = (0 : Int32))) (scp : Sta Z Z.heap "java/lang/String" "COMPACT_STRINGS" "Z" (.int cp)) (ge_a : n0 ≤ a) (xa : Exa Z h a "java/lang/String") (pf0 : Fld Z h a "java/lang/String" "value" "[B" .null) (pf1 : Fld Z h a "java/lang/String" "coder" "B" (.int 0)) (vt : Arv Z h t kt .char (1 : Int32) [(.int k0)] (.int 0)) :
    Con l M_13 jdk_42_method_3_code 2 none (rm4 3 1 1 52) Z n0 #[(.ref a), (.ref t)] h (fun v h' => ∃ b : Addr, ∃ kb : ClassId, v = none ∧ Keep h h' [a] ∧ n0 ≤ b ∧ h.size ≤ b ∧ Fld Z h' a "java/lang/String" "value" "[B" (.ref b) ∧ Fld Z h' a "java/lang/String" "coder" "B" (.int 0) ∧ Arv Z h' b kb .byte (1 : Int32) [(.int k0.toInt8.toInt32)] (.int 0)) := by
  refine Con.of_go (plainFor_of_name pn_0) (Ls := #[.val (.ref a), .val (.ref t)]) ?_
  refine Go.aloadN (pc' := 1) d3_0 rfl rfl rfl ?_
  refine Go.aloadN (pc' := 2) d3_1 rfl rfl rfl ?_
  refine Go.iconst (pc' := 3) (v := 0) d3_2 rfl rfl ?_
  refine Go.aloadN (pc' := 4) d3_3 rfl rfl rfl ?_
  refine Go.arraylength (pc' := 5) vt d3_4 rfl ?_
  refine Go.aconstNull (pc' := 6) d3_5 rfl ?_
  refine Go.callC (cells' := 1) (slots' := 1) (pc' := 9) [(.ref t), (.int 0), (.int 1), .null] [] (a := a) rfl rfl (ww hw 15 rfl) (ww hw 16 rfl) (ww hw 7 rfl) (ww hw 18 rfl) (by decide) (c_strInit4_1 l Z a0 hw h a t kt k0 cp hk0 hcp scp ge_a xa pf0 pf1 vt) pd_8 d3_6 rfl ?_
  rintro _ h1 ⟨b_1, kb_1, rfl, K1, ge_b_1, sz_b_1, F1_0, F1_1, F1_2⟩
  show Go _ _ _ _ _ _ _ _ _ _ _ _ 9 _ []
  exact Go.retV rfl d3_9 ⟨b_1, kb_1, rfl, K1, ge_b_1, sz_b_1, F1_0, F1_1, F1_2⟩
theorem c_strComp2 (hw : HW a0 Z) (h : Heap) (t : Addr) (kt : ClassId) (b : Addr) (kb : ClassId) (k0 : Int32) (k1 : Int32) (hk0 : ¬ ((255 : Int32) < k0)) (hk1 : ¬ ((255 : Int32) < k1)) (ge_b : n0 ≤ b) (ne_t_b : t ≠ b) (vt : Arv Z h t kt .char (2 : Int32) [(.int k0), (.int k1)] (.int 0)) (vb : Arv Z h b kb .byte (2 : Int32) [(.int 0), (.int 0)] (.int 0)) :
    Con l M_9 jdk_52_method_21_code 7 (some .int) (rm4 0 0 0 0) Z n0 #[(.ref t), (.int 0), (.ref b), (.int 0), (.int 2)] h (fun v h' => v = some (.int 2) ∧ Keep h h' [b] ∧ Arv Z h' b kb .byte (2 : Int32) [(.int k0.toInt8.toInt32), (.int k1.toInt8.toInt32)] (.int 0)) := by
  refine Con.of_go (plainFor_of_name pn_4) (Ls := #[.val (.ref t), .val (.int 0), .val (.ref b), .val (.int 0), .val (.int 2), .unset, .unset]) ?_
  refine Go.iconst (pc' := 1) (v := 0) d21_0 rfl rfl ?_
  refine Go.istore (pc' := 3) (Ls' := #[.val (.ref t), .val (.int 0), .val (.ref b), .val (.int 0), .val (.int 2), .val (.int 0), .unset]) d21_1 rfl rfl ?_
  refine Go.iload (pc' := 5) d21_3 rfl rfl ?_
  refine Go.iload (pc' := 7) d21_5 rfl rfl ?_
  refine Go.icmpNo (pc' := 10) d21_7 (XT.ii_ge_f (by decide)) rfl ?_
  refine Go.aloadN (pc' := 11) d21_10 rfl rfl rfl ?_
  refine Go.iloadN (pc' := 12) d21_11 rfl rfl ?_
  refine Go.caload (pc' := 13) (v := k0) vt d21_12 (by decide) (by decide) rfl rfl ?_
  refine Go.istore (pc' := 15) (Ls' := #[.val (.ref t), .val (.int 0), .val (.ref b), .val (.int 0), .val (.int 2), .val (.int 0), .val (.int k0)]) d21_13 rfl rfl ?_
  refine Go.iload (pc' := 17) d21_15 rfl rfl ?_
  refine Go.sipush (pc' := 20) (v := 255) d21_17 rfl rfl ?_
  refine Go.icmpYes (pc' := 26) d21_20 (XT.ii_le_t hk0) (by decide) (by decide) ?_
  refine Go.aloadN (pc' := 27) d21_26 rfl rfl rfl ?_
  refine Go.iloadN (pc' := 28) d21_27 rfl rfl ?_
  refine Go.iload (pc' := 30) d21_28 rfl rfl ?_
  refine Go.i2b (pc' := 31) d21_30 rfl ?_
  refine Go.bastore (pc' := 32) vb ge_b d21_31 (by decide) (by decide) (i := 0) rfl (nl rfl) rfl ?_
  intro h1 W2 V3
  have K4 : Keep h h1 [b] := (Keep.refl h [b]).wr W2 (Or.inl (List.mem_of_getElem? (i := 0) rfl))
  rw [OwnNum.b8] at V3
  replace V3 : Arv Z h1 b kb .byte (2 : Int32) [(.int k0.toInt8.toInt32), (.int 0)] (.int 0) := V3
  refine Go.iinc (pc' := 35) (Ls' := #[.val (.ref t), .val (.int ((0 : Int32) + (1 : Int32))), .val (.ref b), .val (.int 0), .val (.int 2), .val (.int 0), .val (.int k0)]) (w := (1 : Int32)) d21_32 rfl rfl rfl rfl ?_
  show Go _ _ _ _ _ _ _ _ _ _ _ _ 35 #[.val (.ref t), .val (.int 1), .val (.ref b), .val (.int 0), .val (.int 2), .val (.int 0), .val (.int k0)] []
  refine Go.iinc (pc' := 38) (Ls' := #[.val (.ref t), .val (.int 1), .val (.ref b), .val (.int ((0 : Int32) + (1 : Int32))), .val (.int 2), .val (.int 0), .val (.int k0)]) (w := (1 : Int32)) d21_35 rfl rfl rfl rfl ?_
  show Go _ _ _ _ _ _ _ _ _ _ _ _ 38 #[.val (.ref t), .val (.int 1), .val (.ref b), .val (.int 1), .val (.int 2), .val (.int 0), .val (.int k0)] []
  refine Go.iinc (pc' := 41) (Ls' := #[.val (.ref t), .val (.int 1), .val (.ref b), .val (.int 1), .val (.int 2), .val (.int ((0 : Int32) + (1 : Int32))), .val (.int k0)]) (w := (1 : Int32)) d21_38 rfl rfl rfl rfl ?_
  show Go _ _ _ _ _ _ _ _ _ _ _ _ 41 #[.val (.ref t), .val (.int 1), .val (.ref b), .val (.int 1), .val (.int 2), .val (.int 1), .val (.int k0)] []
  refine Go.goto (pc' := 3) d21_41 (by decide) (by decide) ?_
  refine Go.iload (pc' := 5) d21_3 rfl rfl ?_
  refine Go.iload (pc' := 7) d21_5 rfl rfl ?_
  refine Go.icmpNo (pc' := 10) d21_7 (XT.ii_ge_f (by decide)) rfl ?_
  refine Go.aloadN (pc' := 11) d21_10 rfl rfl rfl ?_
  refine Go.iloadN (pc' := 12) d21_11 rfl rfl ?_
  refine Go.caload (pc' := 13) (v := k1) (vt.other W2 ne_t_b) d21_12 (by decide) (by decide) rfl rfl ?_
  refine Go.istore (pc' := 15) (Ls' := #[.val (.ref t), .val (.int 1), .val (.ref b), .val (.int 1), .val (.int 2), .val (.int 1), .val (.int k1)]) d21_13 rfl rfl ?_
  refine Go.iload (pc' := 17) d21_15 rfl rfl ?_
  refine Go.sipush (pc' := 20) (v := 255) d21_17 rfl rfl ?_
  refine Go.icmpYes (pc' := 26) d21_20 (XT.ii_le_t hk1) (by decide) (by decide) ?_
  refine Go.aloadN (pc' := 27) d21_26 rfl rfl rfl ?_
  refine Go.iloadN (pc' := 28) d21_27 rfl rfl ?_
  refine Go.iload (pc' := 30) d21_28 rfl rfl ?_
  refine Go.i2b (pc' := 31) d21_30 rfl ?_
  refine Go.bastore (pc' := 32) V3 ge_b d21_31 (by decide) (by decide) (i := 1) rfl (nl rfl) rfl ?_
  intro h5 W6 V7
  have K8 : Keep h h5 [b] := K4.wr W6 (Or.inl (List.mem_of_getElem? (i := 0) rfl))
  rw [OwnNum.b8] at V7
  replace V7 : Arv Z h5 b kb .byte (2 : Int32) [(.int k0.toInt8.toInt32), (.int k1.toInt8.toInt32)] (.int 0) := V7
  refine Go.iinc (pc' := 35) (Ls' := #[.val (.ref t), .val (.int ((1 : Int32) + (1 : Int32))), .val (.ref b), .val (.int 1), .val (.int 2), .val (.int 1), .val (.int k1)]) (w := (1 : Int32)) d21_32 rfl rfl rfl rfl ?_
  show Go _ _ _ _ _ _ _ _ _ _ _ _ 35 #[.val (.ref t), .val (.int 2), .val (.ref b), .val (.int 1), .val (.int 2), .val (.int 1), .val (.int k1)] []
  refine Go.iinc (pc' := 38) (Ls' := #[.val (.ref t), .val (.int 2), .val (.ref b), .val (.int ((1 : Int32) + (1 : Int32))), .val (.int 2), .val (.int 1), .val (.int k1)]) (w := (1 : Int32)) d21_35 rfl rfl rfl rfl ?_
  show Go _ _ _ _ _ _ _ _ _ _ _ _ 38 #[.val (.ref t), .val (.int 2), .val (.ref b), .val (.int 2), .val (.int 2), .val (.int 1), .val (.int k1)] []
  refine Go.iinc (pc' := 41) (Ls' := #[.val (.ref t), .val (.int 2), .val (.ref b), .val (.int 2), .val (.int 2), .val (.int ((1 : Int32) + (1 : Int32))), .val (.int k1)]) (w := (1 : Int32)) d21_38 rfl rfl rfl rfl ?_
  show Go _ _ _ _ _ _ _ _ _ _ _ _ 41 #[.val (.ref t), .val (.int 2), .val (.ref b), .val (.int 2), .val (.int 2), .val (.int 2), .val (.int k1)] []
  refine Go.goto (pc' := 3) d21_41 (by decide) (by decide) ?_
  refine Go.iload (pc' := 5) d21_3 rfl rfl ?_
  refine Go.iload (pc' := 7) d21_5 rfl rfl ?_
  refine Go.icmpYes (pc' := 44) d21_7 (XT.ii_ge_t (by decide)) (by decide) (by decide) ?_
  refine Go.iload (pc' := 46) d21_44 rfl rfl ?_
  exact Go.retI rfl d21_46 ⟨rfl, K8, V7⟩
theorem c_strComp2_2 (hw : HW a0 Z) (h : Heap) (t : Addr) (kt : ClassId) (k0 : Int32) (k1 : Int32) (hk0 : ¬ ((255 : Int32) < k0)) (hk1 : ¬ ((255 : Int32) < k1)) (vt : Arv Z h t kt .char (2 : Int32) [(.int k0), (.int k1)] (.int 0)) :
    Con l M_10 jdk_52_method_16_code 6 (some (.array .byte)) (rm4 1 1 2 18) Z n0 #[(.ref t), (.int 0), (.int 2)] h (fun v h' => ∃ b : Addr, ∃ kb : ClassId, v = some (.ref b) ∧ Keep h h' [] ∧ n0 ≤ b ∧ h.size ≤ b ∧ Arv Z h' b kb .byte (2 : Int32) [(.int k0.toInt8.toInt32), (.int k1.toInt8.toInt32)] (.int 0)) := by
  refine Con.of_go (plainFor_of_name pn_4) (Ls := #[.val (.ref t), .val (.int 0), .val (.int 2), .unset, .unset, .unset]) ?_
  refine Go.iloadN (pc' := 1) d20_0 rfl rfl ?_
  refine Go.newarray (pc' := 3) (cells' := 1) (slots' := 2) (cap := 2) (ww hw 23 rfl) d20_1 (ad := "[B") (by decide) (by decide) (by decide) rfl rfl (by decide) (by decide) (by decide) rfl ?_
  intro h1 b1 g1 E1 ge1 kA1 A1 X1
  have K2 : Keep h h1 [] := (Keep.refl h []).ext E1
  have V1 : Arv Z h1 b1 kA1 .byte (2 : Int32) [(.int 0), (.int 0)] (.int 0) := Arv.pad A1 (pad_rep [] (.int 0) 2)
  refine Go.astoreN (pc' := 4) (Ls' := #[.val (.ref t), .val (.int 0), .val (.int 2), .val (.ref b1), .unset, .unset]) d20_3 rfl rfl rfl ?_
  refine Go.aloadN (pc' := 5) d20_4 rfl rfl rfl ?_
  refine Go.iloadN (pc' := 6) d20_5 rfl rfl ?_
  refine Go.aloadN (pc' := 7) d20_6 rfl rfl rfl ?_
  refine Go.iconst (pc' := 8) (v := 0) d20_7 rfl rfl ?_
  refine Go.iloadN (pc' := 9) d20_8 rfl rfl ?_
  have ne3 : t ≠ b1 := (Nat.ne_of_lt (Nat.lt_of_lt_of_le vt.lt (Nat.le_of_eq g1.symm)))
  refine Go.callS (cells' := 1) (slots' := 2) (pc' := 12) [(.ref t), (.int 0), (.ref b1), (.int 0), (.int 2)] [] (ww hw 103 rfl) (ww hw 104 rfl) (ww hw 101 rfl) (ww hw 105 rfl) (by decide) (c_strComp2 l Z a0 hw h1 t kt b1 kA1 k0 k1 hk0 hk1 ge1 ne3 (vt.ext E1) V1) pd_5 d20_9 rfl ?_
  rintro _ h4 ⟨rfl, K4, F4_0⟩
  have K5 : Keep h h4 [] := K2.trans K4 (allS (Or.inr (Nat.le_of_eq g1.symm)) all0)
  show Go _ _ _ _ _ _ _ _ _ _ _ _ 12 _ [(.int 2)]
  refine Go.istore (pc' := 14) (Ls' := #[.val (.ref t), .val (.int 0), .val (.int 2), .val (.ref b1), .val (.int 2), .unset]) d20_12 rfl rfl ?_
  refine Go.iload (pc' := 16) d20_14 rfl rfl ?_
  refine Go.iloadN (pc' := 17) d20_16 rfl rfl ?_
  refine Go.icmpYes (pc' := 57) d20_17 (XT.ii_eq_t (by decide)) (by decide) (by decide) ?_
  refine Go.aloadN (pc' := 58) d20_57 rfl rfl rfl ?_
  exact Go.retR rfl rfl rfl rfl d20_58 ⟨b1, kA1, rfl, K5, ge1, (Nat.le_of_eq g1.symm), F4_0⟩
theorem c_strCoder2 (hw : HW a0 Z) (h : Heap) (b : Addr) (kb : ClassId) (k0 : Int32) (k1 : Int32) (vb : Arv Z h b kb .byte (2 : Int32) [(.int k0.toInt8.toInt32), (.int k1.toInt8.toInt32)] (.int 0)) :
    Con l M_11 jdk_52_method_15_code 2 (some .byte) (rm4 0 0 0 0) Z n0 #[(.ref b), (.int 2)] h (fun v h' => v = some (.int 0) ∧ h = h') := by
  refine Con.of_go (plainFor_of_name pn_4) (Ls := #[.val (.ref b), .val (.int 2)]) ?_
  refine Go.iloadN (pc' := 1) d22_0 rfl rfl ?_
  refine Go.aloadN (pc' := 2) d22_1 rfl rfl rfl ?_
  refine Go.arraylength (pc' := 3) vb d22_2 rfl ?_
  refine Go.isub (pc' := 4) d22_3 rfl ?_
  show Go _ _ _ _ _ _ _ _ _ _ _ _ 4 _ [(.int 0)]
  refine Go.bipush (pc' := 6) (v := 31) d22_4 rfl rfl ?_
  refine Go.iushr (pc' := 7) d22_6 rfl ?_
  show Go _ _ _ _ _ _ _ _ _ _ _ _ 7 _ [(.int 0)]
  refine Go.i2b (pc' := 8) d22_7 rfl ?_
  show Go _ _ _ _ _ _ _ _ _ _ _ _ 8 #[.val (.ref b), .val (.int 2)] [(.int 0)]
  exact Go.retN (t := .byte) rfl (by simp) d22_8 ⟨rfl, rfl⟩
theorem c_strInit4_2 (hw : HW a0 Z) (h : Heap) (a : Addr) (t : Addr) (kt : ClassId) (k0 : Int32) (k1 : Int32) (cp : Int32) (hk0 : ¬ ((255 : Int32) < k0)) (hk1 : ¬ ((255 : Int32) < k1)) (hcp : ¬ (cp = (0 : Int32))) (scp : Sta Z Z.heap "java/lang/String" "COMPACT_STRINGS" "Z" (.int cp)) (ge_a : n0 ≤ a) (xa : Exa Z h a "java/lang/String") (pf0 : Fld Z h a "java/lang/String" "value" "[B" .null) (pf1 : Fld Z h a "java/lang/String" "coder" "B" (.int 0)) (vt : Arv Z h t kt .char (2 : Int32) [(.int k0), (.int k1)] (.int 0)) :
    Con l M_12 jdk_42_method_149_code 6 none (rm4 2 1 2 35) Z n0 #[(.ref a), (.ref t), (.int 0), (.int 2), .null] h (fun v h' => ∃ b : Addr, ∃ kb : ClassId, v = none ∧ Keep h h' [a] ∧ n0 ≤ b ∧ h.size ≤ b ∧ Fld Z h' a "java/lang/String" "value" "[B" (.ref b) ∧ Fld Z h' a "java/lang/String" "coder" "B" (.int 0) ∧ Arv Z h' b kb .byte (2 : Int32) [(.int k0.toInt8.toInt32), (.int k1.toInt8.toInt32)] (.int 0)) := by
  refine Con.of_go (plainFor_of_name pn_0) (Ls := #[.val (.ref a), .val (.ref t), .val (.int 0), .val (.int 2), .val .null, .unset]) ?_
  refine Go.aloadN (pc' := 1) d4_0 rfl rfl rfl ?_
  refine Go.initO (pc' := 4) (ww hw 19 rfl) (ww hw 20 rfl) (ww hw 21 rfl) d4_1 rfl (nl rfl) (nl rfl) rfl ?_
  refine Go.iloadN (pc' := 5) d4_4 rfl rfl ?_
  refine Go.ifYes (pc' := 27) d4_5 (XT.i0_ne_t (by decide)) (by decide) (by decide) ?_
  refine Go.old (fun old1 => ?_)
  refine Go.getstatic (pc' := 30) (host := "") (Or.inl (ww hw 49 rfl)) Via.refl (scp.ext old1.2) d4_27 rfl ?_
  refine Go.ifNo (pc' := 33) d4_30 (XT.i0_eq_f hcp) rfl ?_
  refine Go.aloadN (pc' := 34) d4_33 rfl rfl rfl ?_
  refine Go.iloadN (pc' := 35) d4_34 rfl rfl ?_
  refine Go.iloadN (pc' := 36) d4_35 rfl rfl ?_
  refine Go.callS (cells' := 1) (slots' := 2) (pc' := 39) [(.ref t), (.int 0), (.int 2)] [] (ww hw 99 rfl) (ww hw 100 rfl) (ww hw 101 rfl) (ww hw 102 rfl) (by decide) (c_strComp2_2 l Z a0 hw h t kt k0 k1 hk0 hk1 vt) pd_6 d4_36 rfl ?_
  rintro _ h2 ⟨b_2, kb_2, rfl, K2, ge_b_2, sz_b_2, F2_0⟩
  have K3 : Keep h h2 [a] := (Keep.refl h [a]).trans K2 all0
  show Go _ _ _ _ _ _ _ _ _ _ _ _ 39 _ [(.ref b_2)]
  refine Go.astore (pc' := 41) (Ls' := #[.val (.ref a), .val (.ref t), .val (.int 0), .val (.int 2), .val .null, .val (.ref b_2)]) d4_39 rfl rfl rfl ?_
  refine Go.aloadN (pc' := 42) d4_41 rfl rfl rfl ?_
  refine Go.aload (pc' := 44) d4_42 rfl rfl rfl ?_
  refine Go.iloadN (pc' := 45) d4_44 rfl rfl ?_
  refine Go.callS (cells' := 1) (slots' := 2) (pc' := 48) [(.ref b_2), (.int 2)] [(.ref a)] (ww hw 106 rfl) (ww hw 107 rfl) (ww hw 101 rfl) (ww hw 108 rfl) (by decide) (c_strCoder2 l Z a0 hw h2 b_2 kb_2 k0 k1 F2_0) pd_7 d4_45 rfl ?_
  rintro _ _ ⟨rfl, rfl⟩
  show Go _ _ _ _ _ _ _ _ _ _ _ _ 48 _ [(.int 0), (.ref a)]
  refine Go.putfieldN (pc' := 51) (ww hw 29 rfl) Via.refl (pf1.keep K2 nin0) (xa.keep K2) (Or.inr ⟨(ww hw 25 rfl), rfl, rfl⟩) (ww hw 6 rfl) (ty := .byte) (v' := (0 : Int32)) (by decide) (by first | rfl | decide) (by first | rfl | decide | exact fits_nar_byte _) ge_a d4_48 rfl ?_
  intro h5 W6
  have K7 : Keep h h5 [a] := K3.wr W6 (Or.inl (List.mem_of_getElem? (i := 0) rfl))
  have f8 := (pf1.keep K2 nin0).same W6
  refine Go.aloadN (pc' := 52) d4_51 rfl rfl rfl ?_
  refine Go.aload (pc' := 54) d4_52 rfl rfl rfl ?_
  have f9 : Fld Z h5 a "java/lang/String" "value" "[B" .null := ((pf0.keep K2 nin0).other W6 (Or.inr (slot_ne (Or.inr (ww hw 24 rfl)) (Or.inr (ww hw 25 rfl)) (by decide) (t := (.array .byte)) (t' := .byte) (by decide) (by decide))))
  refine Go.putfield (pc' := 57) (host := "") (Or.inl (ww hw 28 rfl)) Via.refl f9 ((xa.keep K2).wr W6) (Or.inr ⟨(ww hw 24 rfl), rfl, rfl⟩) (ww hw 6 rfl) (ty := (.array .byte)) (by decide) rfl rfl ge_a d4_54 rfl ?_
  intro h10 W11
  have K12 : Keep h h10 [a] := K7.wr W11 (Or.inl (List.mem_of_getElem? (i := 0) rfl))
  have f13 := f9.same W11
  have f14 : Fld Z h10 a "java/lang/String" "coder" "B" (.int 0) := (f8.other W11 (Or.inr (slot_ne (Or.inr (ww hw 25 rfl)) (Or.inr (ww hw 24 rfl)) (by decide) (t := .byte) (t' := (.array .byte)) (by decide) (by decide))))
  have ne15 : a ≠ b_2 := (Nat.ne_of_lt (Nat.lt_of_lt_of_le pf0.lt sz_b_2))
  have f16 : Arv Z h10 b_2 kb_2 .byte (2 : Int32) [(.int k0.toInt8.toInt32), (.int k1.toInt8.toInt32)] (.int 0) := ((F2_0.other W6 (Ne.symm ne15)).other W11 (Ne.symm ne15))
  exact Go.retV rfl d4_57 ⟨b_2, kb_2, rfl, K12, ge_b_2, sz_b_2, f13, f14, f16⟩
theorem c_strInit2 (hw : HW a0 Z) (h : Heap) (a : Addr) (t : Addr) (kt : ClassId) (k0 : Int32) (k1 : Int32) (cp : Int32) (hk0 : ¬ ((255 : Int32) < k0)) (hk1 : ¬ ((255 : Int32) < k1)) (hcp : ¬ (cp = (0 : Int32))) (scp : Sta Z Z.heap "java/lang/String" "COMPACT_STRINGS" "Z" (.int cp)) (ge_a : n0 ≤ a) (xa : Exa Z h a "java/lang/String") (pf0 : Fld Z h a "java/lang/String" "value" "[B" .null) (pf1 : Fld Z h a "java/lang/String" "coder" "B" (.int 0)) (vt : Arv Z h t kt .char (2 : Int32) [(.int k0), (.int k1)] (.int 0)) :
    Con l M_13 jdk_42_method_3_code 2 none (rm4 3 1 2 52) Z n0 #[(.ref a), (.ref t)] h (fun v h' => ∃ b : Addr, ∃ kb : ClassId, v = none ∧ Keep h h' [a] ∧ n0 ≤ b ∧ h.size ≤ b ∧ Fld Z h' a "java/lang/String" "value" "[B" (.ref b) ∧ Fld Z h' a "java/lang/String" "coder" "B" (.int 0) ∧ Arv Z h' b kb .byte (2 : Int32) [(.int k0.toInt8.toInt32), (.int k1.toInt8.toInt32)] (.int 0)) := by
  refine Con.of_go (plainFor_of_name pn_0) (Ls := #[.val (.ref a), .val (.ref t)]) ?_
  refine Go.aloadN (pc' := 1) d3_0 rfl rfl rfl ?_
  refine Go.aloadN (pc' := 2) d3_1 rfl rfl rfl ?_
  refine Go.iconst (pc' := 3) (v := 0) d3_2 rfl rfl ?_
  refine Go.aloadN (pc' := 4) d3_3 rfl rfl rfl ?_
  refine Go.arraylength (pc' := 5) vt d3_4 rfl ?_
  refine Go.aconstNull (pc' := 6) d3_5 rfl ?_
  refine Go.callC (cells' := 1) (slots' := 2) (pc' := 9) [(.ref t), (.int 0), (.int 2), .null] [] (a := a) rfl rfl (ww hw 15 rfl) (ww hw 16 rfl) (ww hw 7 rfl) (ww hw 18 rfl) (by decide) (c_strInit4_2 l Z a0 hw h a t kt k0 k1 cp hk0 hk1 hcp scp ge_a xa pf0 pf1 vt) pd_8 d3_6 rfl ?_
  rintro _ h1 ⟨b_1, kb_1, rfl, K1, ge_b_1, sz_b_1, F1_0, F1_1, F1_2⟩
  show Go _ _ _ _ _ _ _ _ _ _ _ _ 9 _ []
  exact Go.retV rfl d3_9 ⟨b_1, kb_1, rfl, K1, ge_b_1, sz_b_1, F1_0, F1_1, F1_2⟩
theorem c_strComp3 (hw : HW a0 Z) (h : Heap) (t : Addr) (kt : ClassId) (b : Addr) (kb : ClassId) (k0 : Int32) (k1 : Int32) (k2 : Int32) (hk0 : ¬ ((255 : Int32) < k0)) (hk1 : ¬ ((255 : Int32) < k1)) (hk2 : ¬ ((255 : Int32) < k2)) (ge_b : n0 ≤ b) (ne_t_b : t ≠ b) (vt : Arv Z h t kt .char (3 : Int32) [(.int k0), (.int k1), (.int k2)] (.int 0)) (vb : Arv Z h b kb .byte (3 : Int32) [(.int 0), (.int 0), (.int 0)] (.int 0)) :
    Con l M_9 jdk_52_method_21_code 7 (some .int) (rm4 0 0 0 0) Z n0 #[(.ref t), (.int 0), (.ref b), (.int 0), (.int 3)] h (fun v h' => v = some (.int 3) ∧ Keep h h' [b] ∧ Arv Z h' b kb .byte (3 : Int32) [(.int k0.toInt8.toInt32), (.int k1.toInt8.toInt32), (.int k2.toInt8.toInt32)] (.int 0)) := by
  refine Con.of_go (plainFor_of_name pn_4) (Ls := #[.val (.ref t), .val (.int 0), .val (.ref b), .val (.int 0), .val (.int 3), .unset, .unset]) ?_
  refine Go.iconst (pc' := 1) (v := 0) d21_0 rfl rfl ?_
  refine Go.istore (pc' := 3) (Ls' := #[.val (.ref t), .val (.int 0), .val (.ref b), .val (.int 0), .val (.int 3), .val (.int 0), .unset]) d21_1 rfl rfl ?_
  refine Go.iload (pc' := 5) d21_3 rfl rfl ?_
  refine Go.iload (pc' := 7) d21_5 rfl rfl ?_
  refine Go.icmpNo (pc' := 10) d21_7 (XT.ii_ge_f (by decide)) rfl ?_
  refine Go.aloadN (pc' := 11) d21_10 rfl rfl rfl ?_
  refine Go.iloadN (pc' := 12) d21_11 rfl rfl ?_
  refine Go.caload (pc' := 13) (v := k0) vt d21_12 (by decide) (by decide) rfl rfl ?_
  refine Go.istore (pc' := 15) (Ls' := #[.val (.ref t), .val (.int 0), .val (.ref b), .val (.int 0), .val (.int 3), .val (.int 0), .val (.int k0)]) d21_13 rfl rfl ?_
  refine Go.iload (pc' := 17) d21_15 rfl rfl ?_
  refine Go.sipush (pc' := 20) (v := 255) d21_17 rfl rfl ?_
  refine Go.icmpYes (pc' := 26) d21_20 (XT.ii_le_t hk0) (by decide) (by decide) ?_
  refine Go.aloadN (pc' := 27) d21_26 rfl rfl rfl ?_
  refine Go.iloadN (pc' := 28) d21_27 rfl rfl ?_
  refine Go.iload (pc' := 30) d21_28 rfl rfl ?_
  refine Go.i2b (pc' := 31) d21_30 rfl ?_
  refine Go.bastore (pc' := 32) vb ge_b d21_31 (by decide) (by decide) (i := 0) rfl (nl rfl) rfl ?_
  intro h1 W2 V3
  have K4 : Keep h h1 [b] := (Keep.refl h [b]).wr W2 (Or.inl (List.mem_of_getElem? (i := 0) rfl))
  rw [OwnNum.b8] at V3
  replace V3 : Arv Z h1 b kb .byte (3 : Int32) [(.int k0.toInt8.toInt32), (.int 0), (.int 0)] (.int 0) := V3
  refine Go.iinc (pc' := 35) (Ls' := #[.val (.ref t), .val (.int ((0 : Int32) + (1 : Int32))), .val (.ref b), .val (.int 0), .val (.int 3), .val (.int 0), .val (.int k0)]) (w := (1 : Int32)) d21_32 rfl rfl rfl rfl ?_
  show Go _ _ _ _ _ _ _ _ _ _ _ _ 35 #[.val (.ref t), .val (.int 1), .val (.ref b), .val (.int 0), .val (.int 3), .val (.int 0), .val (.int k0)] []
  refine Go.iinc (pc' := 38) (Ls' := #[.val (.ref t), .val (.int 1), .val (.ref b), .val (.int ((0 : Int32) + (1 : Int32))), .val (.int 3), .val (.int 0), .val (.int k0)]) (w := (1 : Int32)) d21_35 rfl rfl rfl rfl ?_
  show Go _ _ _ _ _ _ _ _ _ _ _ _ 38 #[.val (.ref t), .val (.int 1), .val (.ref b), .val (.int 1), .val (.int 3), .val (.int 0), .val (.int k0)] []
  refine Go.iinc (pc' := 41) (Ls' := #[.val (.ref t), .val (.int 1), .val (.ref b), .val (.int 1), .val (.int 3), .val (.int ((0 : Int32) + (1 : Int32))), .val (.int k0)]) (w := (1 : Int32)) d21_38 rfl rfl rfl rfl ?_
  show Go _ _ _ _ _ _ _ _ _ _ _ _ 41 #[.val (.ref t), .val (.int 1), .val (.ref b), .val (.int 1), .val (.int 3), .val (.int 1), .val (.int k0)] []
  refine Go.goto (pc' := 3) d21_41 (by decide) (by decide) ?_
  refine Go.iload (pc' := 5) d21_3 rfl rfl ?_
  refine Go.iload (pc' := 7) d21_5 rfl rfl ?_
  refine Go.icmpNo (pc' := 10) d21_7 (XT.ii_ge_f (by decide)) rfl ?_
  refine Go.aloadN (pc' := 11) d21_10 rfl rfl rfl ?_
  refine Go.iloadN (pc' := 12) d21_11 rfl rfl ?_
  refine Go.caload (pc' := 13) (v := k1) (vt.other W2 ne_t_b) d21_12 (by decide) (by decide) rfl rfl ?_
  refine Go.istore (pc' := 15) (Ls' := #[.val (.ref t), .val (.int 1), .val (.ref b), .val (.int 1), .val (.int 3), .val (.int 1), .val (.int k1)]) d21_13 rfl rfl ?_
  refine Go.iload (pc' := 17) d21_15 rfl rfl ?_
  refine Go.sipush (pc' := 20) (v := 255) d21_17 rfl rfl ?_
  refine Go.icmpYes (pc' := 26) d21_20 (XT.ii_le_t hk1) (by decide) (by decide) ?_
  refine Go.aloadN (pc' := 27) d21_26 rfl rfl rfl ?_
  refine Go.iloadN (pc' := 28) d21_27 rfl rfl ?_
  refine Go.iload (pc' := 30) d21_28 rfl rfl ?_
  refine Go.i2b (pc' := 31) d21_30 rfl ?_
  refine Go.bastore (pc' := 32) V3 ge_b d21_31 (by decide) (by decide) (i := 1) rfl (nl rfl) rfl ?_
  intro h5 W6 V7
  have K8 : Keep h h5 [b] := K4.wr W6 (Or.inl (List.mem_of_getElem? (i := 0) rfl))
  rw [OwnNum.b8] at V7
  replace V7 : Arv Z h5 b kb .byte (3 : Int32) [(.int k0.toInt8.toInt32), (.int k1.toInt8.toInt32), (.int 0)] (.int 0) := V7
  refine Go.iinc (pc' := 35) (Ls' := #[.val (.ref t), .val (.int ((1 : Int32) + (1 : Int32))), .val (.ref b), .val (.int 1), .val (.int 3), .val (.int 1), .val (.int k1)]) (w := (1 : Int32)) d21_32 rfl rfl rfl rfl ?_
  show Go _ _ _ _ _ _ _ _ _ _ _ _ 35 #[.val (.ref t), .val (.int 2), .val (.ref b), .val (.int 1), .val (.int 3), .val (.int 1), .val (.int k1)] []
  refine Go.iinc (pc' := 38) (Ls' := #[.val (.ref t), .val (.int 2), .val (.ref b), .val (.int ((1 : Int32) + (1 : Int32))), .val (.int 3), .val (.int 1), .val (.int k1)]) (w := (1 : Int32)) d21_35 rfl rfl rfl rfl ?_
  show Go _ _ _ _ _ _ _ _ _ _ _ _ 38 #[.val (.ref t), .val (.int 2), .val (.ref b), .val (.int 2), .val (.int 3), .val (.int 1), .val (.int k1)] []
  refine Go.iinc (pc' := 41) (Ls' := #[.val (.ref t), .val (.int 2), .val (.ref b), .val (.int 2), .val (.int 3), .val (.int ((1 : Int32) + (1 : Int32))), .val (.int k1)]) (w := (1 : Int32)) d21_38 rfl rfl rfl rfl ?_
  show Go _ _ _ _ _ _ _ _ _ _ _ _ 41 #[.val (.ref t), .val (.int 2), .val (.ref b), .val (.int 2), .val (.int 3), .val (.int 2), .val (.int k1)] []
  refine Go.goto (pc' := 3) d21_41 (by decide) (by decide) ?_
  refine Go.iload (pc' := 5) d21_3 rfl rfl ?_
  refine Go.iload (pc' := 7) d21_5 rfl rfl ?_
  refine Go.icmpNo (pc' := 10) d21_7 (XT.ii_ge_f (by decide)) rfl ?_
  refine Go.aloadN (pc' := 11) d21_10 rfl rfl rfl ?_
  refine Go.iloadN (pc' := 12) d21_11 rfl rfl ?_
  refine Go.caload (pc' := 13) (v := k2) ((vt.other W2 ne_t_b).other W6 ne_t_b) d21_12 (by decide) (by decide) rfl rfl ?_
  refine Go.istore (pc' := 15) (Ls' := #[.val (.ref t), .val (.int 2), .val (.ref b), .val (.int 2), .val (.int 3), .val (.int 2), .val (.int k2)]) d21_13 rfl rfl ?_
  refine Go.iload (pc' := 17) d21_15 rfl rfl ?_
  refine Go.sipush (pc' := 20) (v := 255) d21_17 rfl rfl ?_
  refine Go.icmpYes (pc' := 26) d21_20 (XT.ii_le_t hk2) (by decide) (by decide) ?_
  refine Go.aloadN (pc' := 27) d21_26 rfl rfl rfl ?_
  refine Go.iloadN (pc' := 28) d21_27 rfl rfl ?_
  refine Go.iload (pc' := 30) d21_28 rfl rfl ?_
  refine Go.i2b (pc' := 31) d21_30 rfl ?_
  refine Go.bastore (pc' := 32) V7 ge_b d21_31 (by decide) (by decide) (i := 2) rfl (nl rfl) rfl ?_
  intro h9 W10 V11
  have K12 : Keep h h9 [b] := K8.wr W10 (Or.inl (List.mem_of_getElem? (i := 0) rfl))
  rw [OwnNum.b8] at V11
  replace V11 : Arv Z h9 b kb .byte (3 : Int32) [(.int k0.toInt8.toInt32), (.int k1.toInt8.toInt32), (.int k2.toInt8.toInt32)] (.int 0) := V11
  refine Go.iinc (pc' := 35) (Ls' := #[.val (.ref t), .val (.int ((2 : Int32) + (1 : Int32))), .val (.ref b), .val (.int 2), .val (.int 3), .val (.int 2), .val (.int k2)]) (w := (1 : Int32)) d21_32 rfl rfl rfl rfl ?_
  show Go _ _ _ _ _ _ _ _ _ _ _ _ 35 #[.val (.ref t), .val (.int 3), .val (.ref b), .val (.int 2), .val (.int 3), .val (.int 2), .val (.int k2)] []
  refine Go.iinc (pc' := 38) (Ls' := #[.val (.ref t), .val (.int 3), .val (.ref b), .val (.int ((2 : Int32) + (1 : Int32))), .val (.int 3), .val (.int 2), .val (.int k2)]) (w := (1 : Int32)) d21_35 rfl rfl rfl rfl ?_
  show Go _ _ _ _ _ _ _ _ _ _ _ _ 38 #[.val (.ref t), .val (.int 3), .val (.ref b), .val (.int 3), .val (.int 3), .val (.int 2), .val (.int k2)] []
  refine Go.iinc (pc' := 41) (Ls' := #[.val (.ref t), .val (.int 3), .val (.ref b), .val (.int 3), .val (.int 3), .val (.int ((2 : Int32) + (1 : Int32))), .val (.int k2)]) (w := (1 : Int32)) d21_38 rfl rfl rfl rfl ?_
  show Go _ _ _ _ _ _ _ _ _ _ _ _ 41 #[.val (.ref t), .val (.int 3), .val (.ref b), .val (.int 3), .val (.int 3), .val (.int 3), .val (.int k2)] []
  refine Go.goto (pc' := 3) d21_41 (by decide) (by decide) ?_
  refine Go.iload (pc' := 5) d21_3 rfl rfl ?_
  refine Go.iload (pc' := 7) d21_5 rfl rfl ?_
  refine Go.icmpYes (pc' := 44) d21_7 (XT.ii_ge_t (by decide)) (by decide) (by decide) ?_
  refine Go.iload (pc' := 46) d21_44 rfl rfl ?_
  exact Go.retI rfl d21_46 ⟨rfl, K12, V11⟩
theorem c_strComp2_3 (hw : HW a0 Z) (h : Heap) (t : Addr) (kt : ClassId) (k0 : Int32) (k1 : Int32) (k2 : Int32) (hk0 : ¬ ((255 : Int32) < k0)) (hk1 : ¬ ((255 : Int32) < k1)) (hk2 : ¬ ((255 : Int32) < k2)) (vt : Arv Z h t kt .char (3 : Int32) [(.int k0), (.int k1), (.int k2)] (.int 0)) :
    Con l M_10 jdk_52_method_16_code 6 (some (.array .byte)) (rm4 1 1 3 18) Z n0 #[(.ref t), (.int 0), (.int 3)] h (fun v h' => ∃ b : Addr, ∃ kb : ClassId, v = some (.ref b) ∧ Keep h h' [] ∧ n0 ≤ b ∧ h.size ≤ b ∧ Arv Z h' b kb .byte (3 : Int32) [(.int k0.toInt8.toInt32), (.int k1.toInt8.toInt32), (.int k2.toInt8.toInt32)] (.int 0)) := by
  refine Con.of_go (plainFor_of_name pn_4) (Ls := #[.val (.ref t), .val (.int 0), .val (.int 3), .unset, .unset, .unset]) ?_
  refine Go.iloadN (pc' := 1) d20_0 rfl rfl ?_
  refine Go.newarray (pc' := 3) (cells' := 1) (slots' := 3) (cap := 3) (ww hw 23 rfl) d20_1 (ad := "[B") (by decide) (by decide) (by decide) rfl rfl (by decide) (by decide) (by decide) rfl ?_
  intro h1 b1 g1 E1 ge1 kA1 A1 X1
  have K2 : Keep h h1 [] := (Keep.refl h []).ext E1
  have V1 : Arv Z h1 b1 kA1 .byte (3 : Int32) [(.int 0), (.int 0), (.int 0)] (.int 0) := Arv.pad A1 (pad_rep [] (.int 0) 3)
  refine Go.astoreN (pc' := 4) (Ls' := #[.val (.ref t), .val (.int 0), .val (.int 3), .val (.ref b1), .unset, .unset]) d20_3 rfl rfl rfl ?_
  refine Go.aloadN (pc' := 5) d20_4 rfl rfl rfl ?_
  refine Go.iloadN (pc' := 6) d20_5 rfl rfl ?_
  refine Go.aloadN (pc' := 7) d20_6 rfl rfl rfl ?_
  refine Go.iconst (pc' := 8) (v := 0) d20_7 rfl rfl ?_
  refine Go.iloadN (pc' := 9) d20_8 rfl rfl ?_
  have ne3 : t ≠ b1 := (Nat.ne_of_lt (Nat.lt_of_lt_of_le vt.lt (Nat.le_of_eq g1.symm)))
  refine Go.callS (cells' := 1) (slots' := 3) (pc' := 12) [(.ref t), (.int 0), (.ref b1), (.int 0), (.int 3)] [] (ww hw 103 rfl) (ww hw 104 rfl) (ww hw 101 rfl) (ww hw 105 rfl) (by decide) (c_strComp3 l Z a0 hw h1 t kt b1 kA1 k0 k1 k2 hk0 hk1 hk2 ge1 ne3 (vt.ext E1) V1) pd_5 d20_9 rfl ?_
  rintro _ h4 ⟨rfl, K4, F4_0⟩
  have K5 : Keep h h4 [] := K2.trans K4 (allS (Or.inr (Nat.le_of_eq g1.symm)) all0)
  show Go _ _ _ _ _ _ _ _ _ _ _ _ 12 _ [(.int 3)]
  refine Go.istore (pc' := 14) (Ls' := #[.val (.ref t), .val (.int 0), .val (.int 3), .val (.ref b1), .val (.int 3), .unset]) d20_12 rfl rfl ?_
  refine Go.iload (pc' := 16) d20_14 rfl rfl ?_
  refine Go.iloadN (pc' := 17) d20_16 rfl rfl ?_
  refine Go.icmpYes (pc' := 57) d20_17 (XT.ii_eq_t (by decide)) (by decide) (by decide) ?_
  refine Go.aloadN (pc' := 58) d20_57 rfl rfl rfl ?_
  exact Go.retR rfl rfl rfl rfl d20_58 ⟨b1, kA1, rfl, K5, ge1, (Nat.le_of_eq g1.symm), F4_0⟩
theorem c_strCoder3 (hw : HW a0 Z) (h : Heap) (b : Addr) (kb : ClassId) (k0 : Int32) (k1 : Int32) (k2 : Int32) (vb : Arv Z h b kb .byte (3 : Int32) [(.int k0.toInt8.toInt32), (.int k1.toInt8.toInt32), (.int k2.toInt8.toInt32)] (.int 0)) :
    Con l M_11 jdk_52_method_15_code 2 (some .byte) (rm4 0 0 0 0) Z n0 #[(.ref b), (.int 3)] h (fun v h' => v = some (.int 0) ∧ h = h') := by
  refine Con.of_go (plainFor_of_name pn_4) (Ls := #[.val (.ref b), .val (.int 3)]) ?_
  refine Go.iloadN (pc' := 1) d22_0 rfl rfl ?_
  refine Go.aloadN (pc' := 2) d22_1 rfl rfl rfl ?_
  refine Go.arraylength (pc' := 3) vb d22_2 rfl ?_
  refine Go.isub (pc' := 4) d22_3 rfl ?_
  show Go _ _ _ _ _ _ _ _ _ _ _ _ 4 _ [(.int 0)]
  refine Go.bipush (pc' := 6) (v := 31) d22_4 rfl rfl ?_
  refine Go.iushr (pc' := 7) d22_6 rfl ?_
  show Go _ _ _ _ _ _ _ _ _ _ _ _ 7 _ [(.int 0)]
  refine Go.i2b (pc' := 8) d22_7 rfl ?_
  show Go _ _ _ _ _ _ _ _ _ _ _ _ 8 #[.val (.ref b), .val (.int 3)] [(.int 0)]
  exact Go.retN (t := .byte) rfl (by simp) d22_8 ⟨rfl, rfl⟩
theorem c_strInit4_3 (hw : HW a0 Z) (h : Heap) (a : Addr) (t : Addr) (kt : ClassId) (k0 : Int32) (k1 : Int32) (k2 : Int32) (cp : Int32) (hk0 : ¬ ((255 : Int32) < k0)) (hk1 : ¬ ((255 : Int32) < k1)) (hk2 : ¬ ((255 : Int32) < k2)) (hcp : ¬ (cp = (0 : Int32))) (scp : Sta Z Z.heap "java/lang/String" "COMPACT_STRINGS" "Z" (.int cp)) (ge_a : n0 ≤ a) (xa : Exa Z h a "java/lang/String") (pf0 : Fld Z h a "java/lang/String" "value" "[B" .null) (pf1 : Fld Z h a "java/lang/String" "coder" "B" (.int 0)) (vt : Arv Z h t kt .char (3 : Int32) [(.int k0), (.int k1), (.int k2)] (.int 0)) :
    Con l M_12 jdk_42_method_149_code 6 none (rm4 2 1 3 35) Z n0 #[(.ref a), (.ref t), (.int 0), (.int 3), .null] h (fun v h' => ∃ b : Addr, ∃ kb : ClassId, v = none ∧ Keep h h' [a] ∧ n0 ≤ b ∧ h.size ≤ b ∧ Fld Z h' a "java/lang/String" "value" "[B" (.ref b) ∧ Fld Z h' a "java/lang/String" "coder" "B" (.int 0) ∧ Arv Z h' b kb .byte (3 : Int32) [(.int k0.toInt8.toInt32), (.int k1.toInt8.toInt32), (.int k2.toInt8.toInt32)] (.int 0)) := by
  refine Con.of_go (plainFor_of_name pn_0) (Ls := #[.val (.ref a), .val (.ref t), .val (.int 0), .val (.int 3), .val .null, .unset]) ?_
  refine Go.aloadN (pc' := 1) d4_0 rfl rfl rfl ?_
  refine Go.initO (pc' := 4) (ww hw 19 rfl) (ww hw 20 rfl) (ww hw 21 rfl) d4_1 rfl (nl rfl) (nl rfl) rfl ?_
  refine Go.iloadN (pc' := 5) d4_4 rfl rfl ?_
  refine Go.ifYes (pc' := 27) d4_5 (XT.i0_ne_t (by decide)) (by decide) (by decide) ?_
  refine Go.old (fun old1 => ?_)
  refine Go.getstatic (pc' := 30) (host := "") (Or.inl (ww hw 49 rfl)) Via.refl (scp.ext old1.2) d4_27 rfl ?_
  refine Go.ifNo (pc' := 33) d4_30 (XT.i0_eq_f hcp) rfl ?_
  refine Go.aloadN (pc' := 34) d4_33 rfl rfl rfl ?_
  refine Go.iloadN (pc' := 35) d4_34 rfl rfl ?_
  refine Go.iloadN (pc' := 36) d4_35 rfl rfl ?_
  refine Go.callS (cells' := 1) (slots' := 3) (pc' := 39) [(.ref t), (.int 0), (.int 3)] [] (ww hw 99 rfl) (ww hw 100 rfl) (ww hw 101 rfl) (ww hw 102 rfl) (by decide) (c_strComp2_3 l Z a0 hw h t kt k0 k1 k2 hk0 hk1 hk2 vt) pd_6 d4_36 rfl ?_
  rintro _ h2 ⟨b_2, kb_2, rfl, K2, ge_b_2, sz_b_2, F2_0⟩
  have K3 : Keep h h2 [a] := (Keep.refl h [a]).trans K2 all0
  show Go _ _ _ _ _ _ _ _ _ _ _ _ 39 _ [(.ref b_2)]
  refine Go.astore (pc' := 41) (Ls' := #[.val (.ref a), .val (.ref t), .val (.int 0), .val (.int 3), .val .null, .val (.ref b_2)]) d4_39 rfl rfl rfl ?_
  refine Go.aloadN (pc' := 42) d4_41 rfl rfl rfl ?_
  refine Go.aload (pc' := 44) d4_42 rfl rfl rfl ?_
  refine Go.iloadN (pc' := 45) d4_44 rfl rfl ?_
  refine Go.callS (cells' := 1) (slots' := 3) (pc' := 48) [(.ref b_2), (.int 3)] [(.ref a)] (ww hw 106 rfl) (ww hw 107 rfl) (ww hw 101 rfl) (ww hw 108 rfl) (by decide) (c_strCoder3 l Z a0 hw h2 b_2 kb_2 k0 k1 k2 F2_0) pd_7 d4_45 rfl ?_
  rintro _ _ ⟨rfl, rfl⟩
  show Go _ _ _ _ _ _ _ _ _ _ _ _ 48 _ [(.int 0), (.ref a)]
  refine Go.putfieldN (pc' := 51) (ww hw 29 rfl) Via.refl (pf1.keep K2 nin0) (xa.keep K2) (Or.inr ⟨(ww hw 25 rfl), rfl, rfl⟩) (ww hw 6 rfl) (ty := .byte) (v' := (0 : Int32)) (by decide) (by first | rfl | decide) (by first | rfl | decide | exact fits_nar_byte _) ge_a d4_48 rfl ?_
  intro h5 W6
  have K7 : Keep h h5 [a] := K3.wr W6 (Or.inl (List.mem_of_getElem? (i := 0) rfl))
  have f8 := (pf1.keep K2 nin0).same W6
  refine Go.aloadN (pc' := 52) d4_51 rfl rfl rfl ?_
  refine Go.aload (pc' := 54) d4_52 rfl rfl rfl ?_
  have f9 : Fld Z h5 a "java/lang/String" "value" "[B" .null := ((pf0.keep K2 nin0).other W6 (Or.inr (slot_ne (Or.inr (ww hw 24 rfl)) (Or.inr (ww hw 25 rfl)) (by decide) (t := (.array .byte)) (t' := .byte) (by decide) (by decide))))
  refine Go.putfield (pc' := 57) (host := "") (Or.inl (ww hw 28 rfl)) Via.refl f9 ((xa.keep K2).wr W6) (Or.inr ⟨(ww hw 24 rfl), rfl, rfl⟩) (ww hw 6 rfl) (ty := (.array .byte)) (by decide) rfl rfl ge_a d4_54 rfl ?_
  intro h10 W11
  have K12 : Keep h h10 [a] := K7.wr W11 (Or.inl (List.mem_of_getElem? (i := 0) rfl))
  have f13 := f9.same W11
  have f14 : Fld Z h10 a "java/lang/String" "coder" "B" (.int 0) := (f8.other W11 (Or.inr (slot_ne (Or.inr (ww hw 25 rfl)) (Or.inr (ww hw 24 rfl)) (by decide) (t := .byte) (t' := (.array .byte)) (by decide) (by decide))))
  have ne15 : a ≠ b_2 := (Nat.ne_of_lt (Nat.lt_of_lt_of_le pf0.lt sz_b_2))
  have f16 : Arv Z h10 b_2 kb_2 .byte (3 : Int32) [(.int k0.toInt8.toInt32), (.int k1.toInt8.toInt32), (.int k2.toInt8.toInt32)] (.int 0) := ((F2_0.other W6 (Ne.symm ne15)).other W11 (Ne.symm ne15))
  exact Go.retV rfl d4_57 ⟨b_2, kb_2, rfl, K12, ge_b_2, sz_b_2, f13, f14, f16⟩
theorem c_strInit3 (hw : HW a0 Z) (h : Heap) (a : Addr) (t : Addr) (kt : ClassId) (k0 : Int32) (k1 : Int32) (k2 : Int32) (cp : Int32) (hk0 : ¬ ((255 : Int32) < k0)) (hk1 : ¬ ((255 : Int32) < k1)) (hk2 : ¬ ((255 : Int32) < k2)) (hcp : ¬ (cp = (0 : Int32))) (scp : Sta Z Z.heap "java/lang/String" "COMPACT_STRINGS" "Z" (.int cp)) (ge_a : n0 ≤ a) (xa : Exa Z h a "java/lang/String") (pf0 : Fld Z h a "java/lang/String" "value" "[B" .null) (pf1 : Fld Z h a "java/lang/String" "coder" "B" (.int 0)) (vt : Arv Z h t kt .char (3 : Int32) [(.int k0), (.int k1), (.int k2)] (.int 0)) :
    Con l M_13 jdk_42_method_3_code 2 none (rm4 3 1 3 52) Z n0 #[(.ref a), (.ref t)] h (fun v h' => ∃ b : Addr, ∃ kb : ClassId, v = none ∧ Keep h h' [a] ∧ n0 ≤ b ∧ h.size ≤ b ∧ Fld Z h' a "java/lang/String" "value" "[B" (.ref b) ∧ Fld Z h' a "java/lang/String" "coder" "B" (.int 0) ∧ Arv Z h' b kb .byte (3 : Int32) [(.int k0.toInt8.toInt32), (.int k1.toInt8.toInt32), (.int k2.toInt8.toInt32)] (.int 0)) := by
  refine Con.of_go (plainFor_of_name pn_0) (Ls := #[.val (.ref a), .val (.ref t)]) ?_
  refine Go.aloadN (pc' := 1) d3_0 rfl rfl rfl ?_
  refine Go.aloadN (pc' := 2) d3_1 rfl rfl rfl ?_
  refine Go.iconst (pc' := 3) (v := 0) d3_2 rfl rfl ?_
  refine Go.aloadN (pc' := 4) d3_3 rfl rfl rfl ?_
  refine Go.arraylength (pc' := 5) vt d3_4 rfl ?_
  refine Go.aconstNull (pc' := 6) d3_5 rfl ?_
  refine Go.callC (cells' := 1) (slots' := 3) (pc' := 9) [(.ref t), (.int 0), (.int 3), .null] [] (a := a) rfl rfl (ww hw 15 rfl) (ww hw 16 rfl) (ww hw 7 rfl) (ww hw 18 rfl) (by decide) (c_strInit4_3 l Z a0 hw h a t kt k0 k1 k2 cp hk0 hk1 hk2 hcp scp ge_a xa pf0 pf1 vt) pd_8 d3_6 rfl ?_
  rintro _ h1 ⟨b_1, kb_1, rfl, K1, ge_b_1, sz_b_1, F1_0, F1_1, F1_2⟩
  show Go _ _ _ _ _ _ _ _ _ _ _ _ 9 _ []
  exact Go.retV rfl d3_9 ⟨b_1, kb_1, rfl, K1, ge_b_1, sz_b_1, F1_0, F1_1, F1_2⟩
theorem c_strComp4 (hw : HW a0 Z) (h : Heap) (t : Addr) (kt : ClassId) (b : Addr) (kb : ClassId) (k0 : Int32) (k1 : Int32) (k2 : Int32) (k3 : Int32) (hk0 : ¬ ((255 : Int32) < k0)) (hk1 : ¬ ((255 : Int32) < k1)) (hk2 : ¬ ((255 : Int32) < k2)) (hk3 : ¬ ((255 : Int32) < k3)) (ge_b : n0 ≤ b) (ne_t_b : t ≠ b) (vt : Arv Z h t kt .char (4 : Int32) [(.int k0), (.int k1), (.int k2), (.int k3)] (.int 0)) (vb : Arv Z h b kb .byte (4 : Int32) [(.int 0), (.int 0), (.int 0), (.int 0)] (.int 0)) :
    Con l M_9 jdk_52_method_21_code 7 (some .int) (rm4 0 0 0 0) Z n0 #[(.ref t), (.int 0), (.ref b), (.int 0), (.int 4)] h (fun v h' => v = some (.int 4) ∧ Keep h h' [b] ∧ Arv Z h' b kb .byte (4 : Int32) [(.int k0.toInt8.toInt32), (.int k1.toInt8.toInt32), (.int k2.toInt8.toInt32), (.int k3.toInt8.toInt32)] (.int 0)) := by
  refine Con.of_go (plainFor_of_name pn_4) (Ls := #[.val (.ref t), .val (.int 0), .val (.ref b), .val (.int 0), .val (.int 4), .unset, .unset]) ?_
  refine Go.iconst (pc' := 1) (v := 0) d21_0 rfl rfl ?_
  refine Go.istore (pc' := 3) (Ls' := #[.val (.ref t), .val (.int 0), .val (.ref b), .val (.int 0), .val (.int 4), .val (.int 0), .unset]) d21_1 rfl rfl ?_
  refine Go.iload (pc' := 5) d21_3 rfl rfl ?_
  refine Go.iload (pc' := 7) d21_5 rfl rfl ?_
  refine Go.icmpNo (pc' := 10) d21_7 (XT.ii_ge_f (by decide)) rfl ?_
  refine Go.aloadN (pc' := 11) d21_10 rfl rfl rfl ?_
  refine Go.iloadN (pc' := 12) d21_11 rfl rfl ?_
  refine Go.caload (pc' := 13) (v := k0) vt d21_12 (by decide) (by decide) rfl rfl ?_
  refine Go.istore (pc' := 15) (Ls' := #[.val (.ref t), .val (.int 0), .val (.ref b), .val (.int 0), .val (.int 4), .val (.int 0), .val (.int k0)]) d21_13 rfl rfl ?_
  refine Go.iload (pc' := 17) d21_15 rfl rfl ?_
  refine Go.sipush (pc' := 20) (v := 255) d21_17 rfl rfl ?_
  refine Go.icmpYes (pc' := 26) d21_20 (XT.ii_le_t hk0) (by decide) (by decide) ?_
  refine Go.aloadN (pc' := 27) d21_26 rfl rfl rfl ?_
  refine Go.iloadN (pc' := 28) d21_27 rfl rfl ?_
  refine Go.iload (pc' := 30) d21_28 rfl rfl ?_
  refine Go.i2b (pc' := 31) d21_30 rfl ?_
  refine Go.bastore (pc' := 32) vb ge_b d21_31 (by decide) (by decide) (i := 0) rfl (nl rfl) rfl ?_
  intro h1 W2 V3
  have K4 : Keep h h1 [b] := (Keep.refl h [b]).wr W2 (Or.inl (List.mem_of_getElem? (i := 0) rfl))
  rw [OwnNum.b8] at V3
  replace V3 : Arv Z h1 b kb .byte (4 : Int32) [(.int k0.toInt8.toInt32), (.int 0), (.int 0), (.int 0)] (.int 0) := V3
  refine Go.iinc (pc' := 35) (Ls' := #[.val (.ref t), .val (.int ((0 : Int32) + (1 : Int32))), .val (.ref b), .val (.int 0), .val (.int 4), .val (.int 0), .val (.int k0)]) (w := (1 : Int32)) d21_32 rfl rfl rfl rfl ?_
  show Go _ _ _ _ _ _ _ _ _ _ _ _ 35 #[.val (.ref t), .val (.int 1), .val (.ref b), .val (.int 0), .val (.int 4), .val (.int 0), .val (.int k0)] []
  refine Go.iinc (pc' := 38) (Ls' := #[.val (.ref t), .val (.int 1), .val (.ref b), .val (.int ((0 : Int32) + (1 : Int32))), .val (.int 4), .val (.int 0), .val (.int k0)]) (w := (1 : Int32)) d21_35 rfl rfl rfl rfl ?_
  show Go _ _ _ _ _ _ _ _ _ _ _ _ 38 #[.val (.ref t), .val (.int 1), .val (.ref b), .val (.int 1), .val (.int 4), .val (.int 0), .val (.int k0)] []
  refine Go.iinc (pc' := 41) (Ls' := #[.val (.ref t), .val (.int 1), .val (.ref b), .val (.int 1), .val (.int 4), .val (.int ((0 : Int32) + (1 : Int32))), .val (.int k0)]) (w := (1 : Int32)) d21_38 rfl rfl rfl rfl ?_
  show Go _ _ _ _ _ _ _ _ _ _ _ _ 41 #[.val (.ref t), .val (.int 1), .val (.ref b), .val (.int 1), .val (.int 4), .val (.int 1), .val (.int k0)] []
  refine Go.goto (pc' := 3) d21_41 (by decide) (by decide) ?_
  refine Go.iload (pc' := 5) d21_3 rfl rfl ?_
  refine Go.iload (pc' := 7) d21_5 rfl rfl ?_
  refine Go.icmpNo (pc' := 10) d21_7 (XT.ii_ge_f (by decide)) rfl ?_
  refine Go.aloadN (pc' := 11) d21_10 rfl rfl rfl ?_
  refine Go.iloadN (pc' := 12) d21_11 rfl rfl ?_
  refine Go.caload (pc' := 13) (v := k1) (vt.other W2 ne_t_b) d21_12 (by decide) (by decide) rfl rfl ?_
  refine Go.istore (pc' := 15) (Ls' := #[.val (.ref t), .val (.int 1), .val (.ref b), .val (.int 1), .val (.int 4), .val (.int 1), .val (.int k1)]) d21_13 rfl rfl ?_
  refine Go.iload (pc' := 17) d21_15 rfl rfl ?_
  refine Go.sipush (pc' := 20) (v := 255) d21_17 rfl rfl ?_
  refine Go.icmpYes (pc' := 26) d21_20 (XT.ii_le_t hk1) (by decide) (by decide) ?_
  refine Go.aloadN (pc' := 27) d21_26 rfl rfl rfl ?_
  refine Go.iloadN (pc' := 28) d21_27 rfl rfl ?_
  refine Go.iload (pc' := 30) d21_28 rfl rfl ?_
  refine Go.i2b (pc' := 31) d21_30 rfl ?_
  refine Go.bastore (pc' := 32) V3 ge_b d21_31 (by decide) (by decide) (i := 1) rfl (nl rfl) rfl ?_
  intro h5 W6 V7
  have K8 : Keep h h5 [b] := K4.wr W6 (Or.inl (List.mem_of_getElem? (i := 0) rfl))
  rw [OwnNum.b8] at V7
  replace V7 : Arv Z h5 b kb .byte (4 : Int32) [(.int k0.toInt8.toInt32), (.int k1.toInt8.toInt32), (.int 0), (.int 0)] (.int 0) := V7
  refine Go.iinc (pc' := 35) (Ls' := #[.val (.ref t), .val (.int ((1 : Int32) + (1 : Int32))), .val (.ref b), .val (.int 1), .val (.int 4), .val (.int 1), .val (.int k1)]) (w := (1 : Int32)) d21_32 rfl rfl rfl rfl ?_
  show Go _ _ _ _ _ _ _ _ _ _ _ _ 35 #[.val (.ref t), .val (.int 2), .val (.ref b), .val (.int 1), .val (.int 4), .val (.int 1), .val (.int k1)] []
  refine Go.iinc (pc' := 38) (Ls' := #[.val (.ref t), .val (.int 2), .val (.ref b), .val (.int ((1 : Int32) + (1 : Int32))), .val (.int 4), .val (.int 1), .val (.int k1)]) (w := (1 : Int32)) d21_35 rfl rfl rfl rfl ?_
  show Go _ _ _ _ _ _ _ _ _ _ _ _ 38 #[.val (.ref t), .val (.int 2), .val (.ref b), .val (.int 2), .val (.int 4), .val (.int 1), .val (.int k1)] []
  refine Go.iinc (pc' := 41) (Ls' := #[.val (.ref t), .val (.int 2), .val (.ref b), .val (.int 2), .val (.int 4), .val (.int ((1 : Int32) + (1 : Int32))), .val (.int k1)]) (w := (1 : Int32)) d21_38 rfl rfl rfl rfl ?_
  show Go _ _ _ _ _ _ _ _ _ _ _ _ 41 #[.val (.ref t), .val (.int 2), .val (.ref b), .val (.int 2), .val (.int 4), .val (.int 2), .val (.int k1)] []
  refine Go.goto (pc' := 3) d21_41 (by decide) (by decide) ?_
  refine Go.iload (pc' := 5) d21_3 rfl rfl ?_
  refine Go.iload (pc' := 7) d21_5 rfl rfl ?_
  refine Go.icmpNo (pc' := 10) d21_7 (XT.ii_ge_f (by decide)) rfl ?_
  refine Go.aloadN (pc' := 11) d21_10 rfl rfl rfl ?_
  refine Go.iloadN (pc' := 12) d21_11 rfl rfl ?_
  refine Go.caload (pc' := 13) (v := k2) ((vt.other W2 ne_t_b).other W6 ne_t_b) d21_12 (by decide) (by decide) rfl rfl ?_
  refine Go.istore (pc' := 15) (Ls' := #[.val (.ref t), .val (.int 2), .val (.ref b), .val (.int 2), .val (.int 4), .val (.int 2), .val (.int k2)]) d21_13 rfl rfl ?_
  refine Go.iload (pc' := 17) d21_15 rfl rfl ?_
  refine Go.sipush (pc' := 20) (v := 255) d21_17 rfl rfl ?_
  refine Go.icmpYes (pc' := 26) d21_20 (XT.ii_le_t hk2) (by decide) (by decide) ?_
  refine Go.aloadN (pc' := 27) d21_26 rfl rfl rfl ?_
  refine Go.iloadN (pc' := 28) d21_27 rfl rfl ?_
  refine Go.iload (pc' := 30) d21_28 rfl rfl ?_
  refine Go.i2b (pc' := 31) d21_30 rfl ?_
  refine Go.bastore (pc' := 32) V7 ge_b d21_31 (by decide) (by decide) (i := 2) rfl (nl rfl) rfl ?_
  intro h9 W10 V11
  have K12 : Keep h h9 [b] := K8.wr W10 (Or.inl (List.mem_of_getElem? (i := 0) rfl))
  rw [OwnNum.b8] at V11
  replace V11 : Arv Z h9 b kb .byte (4 : Int32) [(.int k0.toInt8.toInt32), (.int k1.toInt8.toInt32), (.int k2.toInt8.toInt32), (.int 0)] (.int 0) := V11
  refine Go.iinc (pc' := 35) (Ls' := #[.val (.ref t), .val (.int ((2 : Int32) + (1 : Int32))), .val (.ref b), .val (.int 2), .val (.int 4), .val (.int 2), .val (.int k2)]) (w := (1 : Int32)) d21_32 rfl rfl rfl rfl ?_
  show Go _ _ _ _ _ _ _ _ _ _ _ _ 35 #[.val (.ref t), .val (.int 3), .val (.ref b), .val (.int 2), .val (.int 4), .val (.int 2), .val (.int k2)] []
  refine Go.iinc (pc' := 38) (Ls' := #[.val (.ref t), .val (.int 3), .val (.ref b), .val (.int ((2 : Int32) + (1 : Int32))), .val (.int 4), .val (.int 2), .val (.int k2)]) (w := (1 : Int32)) d21_35 rfl rfl rfl rfl ?_
  show Go _ _ _ _ _ _ _ _ _ _ _ _ 38 #[.val (.ref t), .val (.int 3), .val (.ref b), .val (.int 3), .val (.int 4), .val (.int 2), .val (.int k2)] []
  refine Go.iinc (pc' := 41) (Ls' := #[.val (.ref t), .val (.int 3), .val (.ref b), .val (.int 3), .val (.int 4), .val (.int ((2 : Int32) + (1 : Int32))), .val (.int k2)]) (w := (1 : Int32)) d21_38 rfl rfl rfl rfl ?_
  show Go _ _ _ _ _ _ _ _ _ _ _ _ 41 #[.val (.ref t), .val (.int 3), .val (.ref b), .val (.int 3), .val (.int 4), .val (.int 3), .val (.int k2)] []
  refine Go.goto (pc' := 3) d21_41 (by decide) (by decide) ?_
  refine Go.iload (pc' := 5) d21_3 rfl rfl ?_
  refine Go.iload (pc' := 7) d21_5 rfl rfl ?_
  refine Go.icmpNo (pc' := 10) d21_7 (XT.ii_ge_f (by decide)) rfl ?_
  refine Go.aloadN (pc' := 11) d21_10 rfl rfl rfl ?_
  refine Go.iloadN (pc' := 12) d21_11 rfl rfl ?_
  have f13 : Arv Z h9 t kt .char (4 : Int32) [(.int k0), (.int k1), (.int k2), (.int k3)] (.int 0) := (((vt.other W2 ne_t_b).other W6 ne_t_b).other W10 ne_t_b)
  refine Go.caload (pc' := 13) (v := k3) f13 d21_12 (by decide) (by decide) rfl rfl ?_
  refine Go.istore (pc' := 15) (Ls' := #[.val (.ref t), .val (.int 3), .val (.ref b), .val (.int 3), .val (.int 4), .val (.int 3), .val (.int k3)]) d21_13 rfl rfl ?_
  refine Go.iload (pc' := 17) d21_15 rfl rfl ?_
  refine Go.sipush (pc' := 20) (v := 255) d21_17 rfl rfl ?_
  refine Go.icmpYes (pc' := 26) d21_20 (XT.ii_le_t hk3) (by decide) (by decide) ?_
  refine Go.aloadN (pc' := 27) d21_26 rfl rfl rfl ?_
  refine Go.iloadN (pc' := 28) d21_27 rfl rfl ?_
  refine Go.iload (pc' := 30) d21_28 rfl rfl ?_
  refine Go.i2b (pc' := 31) d21_30 rfl ?_
  refine Go.bastore (pc' := 32) V11 ge_b d21_31 (by decide) (by decide) (i := 3) rfl (nl rfl) rfl ?_
  intro h14 W15 V16
  have K17 : Keep h h14 [b] := K12.wr W15 (Or.inl (List.mem_of_getElem? (i := 0) rfl))
  rw [OwnNum.b8] at V16
  replace V16 : Arv Z h14 b kb .byte (4 : Int32) [(.int k0.toInt8.toInt32), (.int k1.toInt8.toInt32), (.int k2.toInt8.toInt32), (.int k3.toInt8.toInt32)] (.int 0) := V16
  refine Go.iinc (pc' := 35) (Ls' := #[.val (.ref t), .val (.int ((3 : Int32) + (1 : Int32))), .val (.ref b), .val (.int 3), .val (.int 4), .val (.int 3), .val (.int k3)]) (w := (1 : Int32)) d21_32 rfl rfl rfl rfl ?_
  show Go _ _ _ _ _ _ _ _ _ _ _ _ 35 #[.val (.ref t), .val (.int 4), .val (.ref b), .val (.int 3), .val (.int 4), .val (.int 3), .val (.int k3)] []
  refine Go.iinc (pc' := 38) (Ls' := #[.val (.ref t), .val (.int 4), .val (.ref b), .val (.int ((3 : Int32) + (1 : Int32))), .val (.int 4), .val (.int 3), .val (.int k3)]) (w := (1 : Int32)) d21_35 rfl rfl rfl rfl ?_
  show Go _ _ _ _ _ _ _ _ _ _ _ _ 38 #[.val (.ref t), .val (.int 4), .val (.ref b), .val (.int 4), .val (.int 4), .val (.int 3), .val (.int k3)] []
  refine Go.iinc (pc' := 41) (Ls' := #[.val (.ref t), .val (.int 4), .val (.ref b), .val (.int 4), .val (.int 4), .val (.int ((3 : Int32) + (1 : Int32))), .val (.int k3)]) (w := (1 : Int32)) d21_38 rfl rfl rfl rfl ?_
  show Go _ _ _ _ _ _ _ _ _ _ _ _ 41 #[.val (.ref t), .val (.int 4), .val (.ref b), .val (.int 4), .val (.int 4), .val (.int 4), .val (.int k3)] []
  refine Go.goto (pc' := 3) d21_41 (by decide) (by decide) ?_
  refine Go.iload (pc' := 5) d21_3 rfl rfl ?_
  refine Go.iload (pc' := 7) d21_5 rfl rfl ?_
  refine Go.icmpYes (pc' := 44) d21_7 (XT.ii_ge_t (by decide)) (by decide) (by decide) ?_
  refine Go.iload (pc' := 46) d21_44 rfl rfl ?_
  exact Go.retI rfl d21_46 ⟨rfl, K17, V16⟩
theorem c_strComp2_4 (hw : HW a0 Z) (h : Heap) (t : Addr) (kt : ClassId) (k0 : Int32) (k1 : Int32) (k2 : Int32) (k3 : Int32) (hk0 : ¬ ((255 : Int32) < k0)) (hk1 : ¬ ((255 : Int32) < k1)) (hk2 : ¬ ((255 : Int32) < k2)) (hk3 : ¬ ((255 : Int32) < k3)) (vt : Arv Z h t kt .char (4 : Int32) [(.int k0), (.int k1), (.int k2), (.int k3)] (.int 0)) :
    Con l M_10 jdk_52_method_16_code 6 (some (.array .byte)) (rm4 1 1 4 18) Z n0 #[(.ref t), (.int 0), (.int 4)] h (fun v h' => ∃ b : Addr, ∃ kb : ClassId, v = some (.ref b) ∧ Keep h h' [] ∧ n0 ≤ b ∧ h.size ≤ b ∧ Arv Z h' b kb .byte (4 : Int32) [(.int k0.toInt8.toInt32), (.int k1.toInt8.toInt32), (.int k2.toInt8.toInt32), (.int k3.toInt8.toInt32)] (.int 0)) := by
  refine Con.of_go (plainFor_of_name pn_4) (Ls := #[.val (.ref t), .val (.int 0), .val (.int 4), .unset, .unset, .unset]) ?_
  refine Go.iloadN (pc' := 1) d20_0 rfl rfl ?_
  refine Go.newarray (pc' := 3) (cells' := 1) (slots' := 4) (cap := 4) (ww hw 23 rfl) d20_1 (ad := "[B") (by decide) (by decide) (by decide) rfl rfl (by decide) (by decide) (by decide) rfl ?_
  intro h1 b1 g1 E1 ge1 kA1 A1 X1
  have K2 : Keep h h1 [] := (Keep.refl h []).ext E1
  have V1 : Arv Z h1 b1 kA1 .byte (4 : Int32) [(.int 0), (.int 0), (.int 0), (.int 0)] (.int 0) := Arv.pad A1 (pad_rep [] (.int 0) 4)
  refine Go.astoreN (pc' := 4) (Ls' := #[.val (.ref t), .val (.int 0), .val (.int 4), .val (.ref b1), .unset, .unset]) d20_3 rfl rfl rfl ?_
  refine Go.aloadN (pc' := 5) d20_4 rfl rfl rfl ?_
  refine Go.iloadN (pc' := 6) d20_5 rfl rfl ?_
  refine Go.aloadN (pc' := 7) d20_6 rfl rfl rfl ?_
  refine Go.iconst (pc' := 8) (v := 0) d20_7 rfl rfl ?_
  refine Go.iloadN (pc' := 9) d20_8 rfl rfl ?_
  have ne3 : t ≠ b1 := (Nat.ne_of_lt (Nat.lt_of_lt_of_le vt.lt (Nat.le_of_eq g1.symm)))
  refine Go.callS (cells' := 1) (slots' := 4) (pc' := 12) [(.ref t), (.int 0), (.ref b1), (.int 0), (.int 4)] [] (ww hw 103 rfl) (ww hw 104 rfl) (ww hw 101 rfl) (ww hw 105 rfl) (by decide) (c_strComp4 l Z a0 hw h1 t kt b1 kA1 k0 k1 k2 k3 hk0 hk1 hk2 hk3 ge1 ne3 (vt.ext E1) V1) pd_5 d20_9 rfl ?_
  rintro _ h4 ⟨rfl, K4, F4_0⟩
  have K5 : Keep h h4 [] := K2.trans K4 (allS (Or.inr (Nat.le_of_eq g1.symm)) all0)
  show Go _ _ _ _ _ _ _ _ _ _ _ _ 12 _ [(.int 4)]
  refine Go.istore (pc' := 14) (Ls' := #[.val (.ref t), .val (.int 0), .val (.int 4), .val (.ref b1), .val (.int 4), .unset]) d20_12 rfl rfl ?_
  refine Go.iload (pc' := 16) d20_14 rfl rfl ?_
  refine Go.iloadN (pc' := 17) d20_16 rfl rfl ?_
  refine Go.icmpYes (pc' := 57) d20_17 (XT.ii_eq_t (by decide)) (by decide) (by decide) ?_
  refine Go.aloadN (pc' := 58) d20_57 rfl rfl rfl ?_
  exact Go.retR rfl rfl rfl rfl d20_58 ⟨b1, kA1, rfl, K5, ge1, (Nat.le_of_eq g1.symm), F4_0⟩
theorem c_strCoder4 (hw : HW a0 Z) (h : Heap) (b : Addr) (kb : ClassId) (k0 : Int32) (k1 : Int32) (k2 : Int32) (k3 : Int32) (vb : Arv Z h b kb .byte (4 : Int32) [(.int k0.toInt8.toInt32), (.int k1.toInt8.toInt32), (.int k2.toInt8.toInt32), (.int k3.toInt8.toInt32)] (.int 0)) :
    Con l M_11 jdk_52_method_15_code 2 (some .byte) (rm4 0 0 0 0) Z n0 #[(.ref b), (.int 4)] h (fun v h' => v = some (.int 0) ∧ h = h') := by
  refine Con.of_go (plainFor_of_name pn_4) (Ls := #[.val (.ref b), .val (.int 4)]) ?_
  refine Go.iloadN (pc' := 1) d22_0 rfl rfl ?_
  refine Go.aloadN (pc' := 2) d22_1 rfl rfl rfl ?_
  refine Go.arraylength (pc' := 3) vb d22_2 rfl ?_
  refine Go.isub (pc' := 4) d22_3 rfl ?_
  show Go _ _ _ _ _ _ _ _ _ _ _ _ 4 _ [(.int 0)]
  refine Go.bipush (pc' := 6) (v := 31) d22_4 rfl rfl ?_
  refine Go.iushr (pc' := 7) d22_6 rfl ?_
  show Go _ _ _ _ _ _ _ _ _ _ _ _ 7 _ [(.int 0)]
  refine Go.i2b (pc' := 8) d22_7 rfl ?_
  show Go _ _ _ _ _ _ _ _ _ _ _ _ 8 #[.val (.ref b), .val (.int 4)] [(.int 0)]
  exact Go.retN (t := .byte) rfl (by simp) d22_8 ⟨rfl, rfl⟩
theorem c_strInit4_4 (hw : HW a0 Z) (h : Heap) (a : Addr) (t : Addr) (kt : ClassId) (k0 : Int32) (k1 : Int32) (k2 : Int32) (k3 : Int32) (cp : Int32) (hk0 : ¬ ((255 : Int32) < k0)) (hk1 : ¬ ((255 : Int32) < k1)) (hk2 : ¬ ((255 : Int32) < k2)) (hk3 : ¬ ((255 : Int32) < k3)) (hcp : ¬ (cp = (0 : Int32))) (scp : Sta Z Z.heap "java/lang/String" "COMPACT_STRINGS" "Z" (.int cp)) (ge_a : n0 ≤ a) (xa : Exa Z h a "java/lang/String") (pf0 : Fld Z h a "java/lang/String" "value" "[B" .null) (pf1 : Fld Z h a "java/lang/String" "coder" "B" (.int 0)) (vt : Arv Z h t kt .char (4 : Int32) [(.int k0), (.int k1), (.int k2), (.int k3)] (.int 0)) :
    Con l M_12 jdk_42_method_149_code 6 none (rm4 2 1 4 35) Z n0 #[(.ref a), (.ref t), (.int 0), (.int 4), .null] h (fun v h' => ∃ b : Addr, ∃ kb : ClassId, v = none ∧ Keep h h' [a] ∧ n0 ≤ b ∧ h.size ≤ b ∧ Fld Z h' a "java/lang/String" "value" "[B" (.ref b) ∧ Fld Z h' a "java/lang/String" "coder" "B" (.int 0) ∧ Arv Z h' b kb .byte (4 : Int32) [(.int k0.toInt8.toInt32), (.int k1.toInt8.toInt32), (.int k2.toInt8.toInt32), (.int k3.toInt8.toInt32)] (.int 0)) := by
  refine Con.of_go (plainFor_of_name pn_0) (Ls := #[.val (.ref a), .val (.ref t), .val (.int 0), .val (.int 4), .val .null, .unset]) ?_
  refine Go.aloadN (pc' := 1) d4_0 rfl rfl rfl ?_
  refine Go.initO (pc' := 4) (ww hw 19 rfl) (ww hw 20 rfl) (ww hw 21 rfl) d4_1 rfl (nl rfl) (nl rfl) rfl ?_
  refine Go.iloadN (pc' := 5) d4_4 rfl rfl ?_
  refine Go.ifYes (pc' := 27) d4_5 (XT.i0_ne_t (by decide)) (by decide) (by decide) ?_
  refine Go.old (fun old1 => ?_)
  refine Go.getstatic (pc' := 30) (host := "") (Or.inl (ww hw 49 rfl)) Via.refl (scp.ext old1.2) d4_27 rfl ?_
  refine Go.ifNo (pc' := 33) d4_30 (XT.i0_eq_f hcp) rfl ?_
  refine Go.aloadN (pc' := 34) d4_33 rfl rfl rfl ?_
  refine Go.iloadN (pc' := 35) d4_34 rfl rfl ?_
  refine Go.iloadN (pc' := 36) d4_35 rfl rfl ?_
  refine Go.callS (cells' := 1) (slots' := 4) (pc' := 39) [(.ref t), (.int 0), (.int 4)] [] (ww hw 99 rfl) (ww hw 100 rfl) (ww hw 101 rfl) (ww hw 102 rfl) (by decide) (c_strComp2_4 l Z a0 hw h t kt k0 k1 k2 k3 hk0 hk1 hk2 hk3 vt) pd_6 d4_36 rfl ?_
  rintro _ h2 ⟨b_2, kb_2, rfl, K2, ge_b_2, sz_b_2, F2_0⟩
  have K3 : Keep h h2 [a] := (Keep.refl h [a]).trans K2 all0
  show Go _ _ _ _ _ _ _ _ _ _ _ _ 39 _ [(.ref b_2)]
  refine Go.astore (pc' := 41) (Ls' := #[.val (.ref a), .val (.ref t), .val (.int 0), .val (.int 4), .val .null, .val (.ref b_2)]) d4_39 rfl rfl rfl ?_
  refine Go.aloadN (pc' := 42) d4_41 rfl rfl rfl ?_
  refine Go.aload (pc' := 44) d4_42 rfl rfl rfl ?_
  refine Go.iloadN (pc' := 45) d4_44 rfl rfl ?_
  refine Go.callS (cells' := 1) (slots' := 4) (pc' := 48) [(.ref b_2), (.int 4)] [(.ref a)] (ww hw 106 rfl) (ww hw 107 rfl) (ww hw 101 rfl) (ww hw 108 rfl) (by decide) (c_strCoder4 l Z a0 hw h2 b_2 kb_2 k0 k1 k2 k3 F2_0) pd_7 d4_45 rfl ?_
  rintro _ _ ⟨rfl, rfl⟩
  show Go _ _ _ _ _ _ _ _ _ _ _ _ 48 _ [(.int 0), (.ref a)]
  refine Go.putfieldN (pc' := 51) (ww hw 29 rfl) Via.refl (pf1.keep K2 nin0) (xa.keep K2) (Or.inr ⟨(ww hw 25 rfl), rfl, rfl⟩) (ww hw 6 rfl) (ty := .byte) (v' := (0 : Int32)) (by decide) (by first | rfl | decide) (by first | rfl | decide | exact fits_nar_byte _) ge_a d4_48 rfl ?_
  intro h5 W6
  have K7 : Keep h h5 [a] := K3.wr W6 (Or.inl (List.mem_of_getElem? (i := 0) rfl))
  have f8 := (pf1.keep K2 nin0).same W6
  refine Go.aloadN (pc' := 52) d4_51 rfl rfl rfl ?_
  refine Go.aload (pc' := 54) d4_52 rfl rfl rfl ?_
  have f9 : Fld Z h5 a "java/lang/String" "value" "[B" .null := ((pf0.keep K2 nin0).other W6 (Or.inr (slot_ne (Or.inr (ww hw 24 rfl)) (Or.inr (ww hw 25 rfl)) (by decide) (t := (.array .byte)) (t' := .byte) (by decide) (by decide))))
  refine Go.putfield (pc' := 57) (host := "") (Or.inl (ww hw 28 rfl)) Via.refl f9 ((xa.keep K2).wr W6) (Or.inr ⟨(ww hw 24 rfl), rfl, rfl⟩) (ww hw 6 rfl) (ty := (.array .byte)) (by decide) rfl rfl ge_a d4_54 rfl ?_
  intro h10 W11
  have K12 : Keep h h10 [a] := K7.wr W11 (Or.inl (List.mem_of_getElem? (i := 0) rfl))
  have f13 := f9.same W11
  have f14 : Fld Z h10 a "java/lang/String" "coder" "B" (.int 0) := (f8.other W11 (Or.inr (slot_ne (Or.inr (ww hw 25 rfl)) (Or.inr (ww hw 24 rfl)) (by decide) (t := .byte) (t' := (.array .byte)) (by decide) (by decide))))
  have ne15 : a ≠ b_2 := (Nat.ne_of_lt (Nat.lt_of_lt_of_le pf0.lt sz_b_2))
  have f16 : Arv Z h10 b_2 kb_2 .byte (4 : Int32) [(.int k0.toInt8.toInt32), (.int k1.toInt8.toInt32), (.int k2.toInt8.toInt32), (.int k3.toInt8.toInt32)] (.int 0) := ((F2_0.other W6 (Ne.symm ne15)).other W11 (Ne.symm ne15))
  exact Go.retV rfl d4_57 ⟨b_2, kb_2, rfl, K12, ge_b_2, sz_b_2, f13, f14, f16⟩
theorem c_strInit4 (hw : HW a0 Z) (h : Heap) (a : Addr) (t : Addr) (kt : ClassId) (k0 : Int32) (k1 : Int32) (k2 : Int32) (k3 : Int32) (cp : Int32) (hk0 : ¬ ((255 : Int32) < k0)) (hk1 : ¬ ((255 : Int32) < k1)) (hk2 : ¬ ((255 : Int32) < k2)) (hk3 : ¬ ((255 : Int32) < k3)) (hcp : ¬ (cp = (0 : Int32))) (scp : Sta Z Z.heap "java/lang/String" "COMPACT_STRINGS" "Z" (.int cp)) (ge_a : n0 ≤ a) (xa : Exa Z h a "java/lang/String") (pf0 : Fld Z h a "java/lang/String" "value" "[B" .null) (pf1 : Fld Z h a "java/lang/String" "coder" "B" (.int 0)) (vt : Arv Z h t kt .char (4 : Int32) [(.int k0), (.int k1), (.int k2), (.int k3)] (.int 0)) :
    Con l M_13 jdk_42_method_3_code 2 none (rm4 3 1 4 52) Z n0 #[(.ref a), (.ref t)] h (fun v h' => ∃ b : Addr, ∃ kb : ClassId, v = none ∧ Keep h h' [a] ∧ n0 ≤ b ∧ h.size ≤ b ∧ Fld Z h' a "java/lang/String" "value" "[B" (.ref b) ∧ Fld Z h' a "java/lang/String" "coder" "B" (.int 0) ∧ Arv Z h' b kb .byte (4 : Int32) [(.int k0.toInt8.toInt32), (.int k1.toInt8.toInt32), (.int k2.toInt8.toInt32), (.int k3.toInt8.toInt32)] (.int 0)) := by
  refine Con.of_go (plainFor_of_name pn_0) (Ls := #[.val (.ref a), .val (.ref t)]) ?_
  refine Go.aloadN (pc' := 1) d3_0 rfl rfl rfl ?_
  refine Go.aloadN (pc' := 2) d3_1 rfl rfl rfl ?_
  refine Go.iconst (pc' := 3) (v := 0) d3_2 rfl rfl ?_
  refine Go.aloadN (pc' := 4) d3_3 rfl rfl rfl ?_
  refine Go.arraylength (pc' := 5) vt d3_4 rfl ?_
  refine Go.aconstNull (pc' := 6) d3_5 rfl ?_
  refine Go.callC (cells' := 1) (slots' := 4) (pc' := 9) [(.ref t), (.int 0), (.int 4), .null] [] (a := a) rfl rfl (ww hw 15 rfl) (ww hw 16 rfl) (ww hw 7 rfl) (ww hw 18 rfl) (by decide) (c_strInit4_4 l Z a0 hw h a t kt k0 k1 k2 k3 cp hk0 hk1 hk2 hk3 hcp scp ge_a xa pf0 pf1 vt) pd_8 d3_6 rfl ?_
  rintro _ h1 ⟨b_1, kb_1, rfl, K1, ge_b_1, sz_b_1, F1_0, F1_1, F1_2⟩
  show Go _ _ _ _ _ _ _ _ _ _ _ _ 9 _ []
  exact Go.retV rfl d3_9 ⟨b_1, kb_1, rfl, K1, ge_b_1, sz_b_1, F1_0, F1_1, F1_2⟩
theorem c_str0Init4 (hw : HW a0 Z) (h : Heap) (a : Addr) (t : Addr) (kt : ClassId) (hcw : Jvm.Lit.compactW.before a0 Z = true) (hch7 : Jvm.Lit.constHeld Z "java/lang/String" 7) (ge_a : n0 ≤ a) (xa : Exa Z h a "java/lang/String") (pf0 : Fld Z h a "java/lang/String" "value" "[B" .null) (pf1 : Fld Z h a "java/lang/String" "coder" "B" (.int 0)) (vt : Arv Z h t kt .char (0 : Int32) [] (.int 0)) :
    ConS l M_12 jdk_42_method_149_code 6 none (rm4 1 2 4 12) Z n0 #[(.ref a), (.ref t), (.int 0), (.int 0), .null] h [] (fun v h' LL' => ∃ sa : Addr, ∃ sb : Addr, ∃ ks : ClassId, v = none ∧ Keep h h' [a] ∧ Fld Z h' a "java/lang/String" "value" "[B" (.ref sb) ∧ Fld Z h' a "java/lang/String" "coder" "B" (.int 0) ∧ Arv Z h' sb ks .byte (0 : Int32) [] (.int 0) ∧ Exa Z h' sb "[B" ∧ Hel Z h' sa sb ("") ∧ LL' = [("", sa, "java/lang/String", 7)]) := by
  refine ConS.of_go (plainFor_of_name pn_0) (Ls := #[.val (.ref a), .val (.ref t), .val (.int 0), .val (.int 0), .val .null, .unset]) ?_
  refine GoS.aloadN (pc' := 1) d4_0 rfl rfl rfl ?_
  refine GoS.initO (pc' := 4) (ww hw 19 rfl) (ww hw 20 rfl) (ww hw 21 rfl) d4_1 rfl (nl rfl) (nl rfl) rfl ?_
  refine GoS.iloadN (pc' := 5) d4_4 rfl rfl ?_
  refine GoS.ifNo (pc' := 8) d4_5 (XT.i0_ne_f (by decide)) rfl ?_
  refine GoS.aloadN (pc' := 9) d4_8 rfl rfl rfl ?_
  refine GoS.ldcS (pc' := 11) (cells' := 2) (slots' := 4) (n := 0) (z := (0 : Int32)) (vs := []) (ww hw 22 rfl) (wsA hw) hch7 hcw (Keep.refl h []) HL.nil tx_0 (by decide) rfl d4_9 (nl rfl) (nl rfl) rfl rfl (nl rfl) (nl rfl) rfl ?_
  intro h1 sa1 sb1 kb1 E1 F1_0 F1_1 F1_2 F1_3 F1_4 F1_5
  have K2 : Keep h h1 [a] := (Keep.refl h [a]).ext E1
  have K3 : Keep h h1 [] := (Keep.refl h []).ext E1
  have H4 : Hel Z h1 sa1 sb1 "" := ⟨kb1, _, _, F1_0, F1_1, F1_2, F1_3, F1_4, tx_0, rfl⟩
  show GoS _ _ _ _ _ _ _ _ _ _ _ _ _ _ 11 _ [(.ref sa1), (.ref a)]
  refine GoS.getfield (pc' := 14) (host := "") (Or.inl (ww hw 28 rfl)) Via.refl F1_2 d4_11 rfl ?_
  have ne5 : sa1 ≠ a := own_fne F1_2 (pf0.ext E1) nofun
  refine GoS.putfield (pc' := 17) (host := "") (Or.inl (ww hw 28 rfl)) Via.refl (pf0.ext E1) (xa.ext E1) (Or.inr ⟨(ww hw 24 rfl), rfl, rfl⟩) (ww hw 6 rfl) (ty := (.array .byte)) (by decide) rfl rfl ge_a d4_14 rfl ?_
  intro h6 W7
  have K8 : Keep h h6 [a] := K2.wr W7 (Or.inl (List.mem_of_getElem? (i := 0) rfl))
  have f9 := (pf0.ext E1).same W7
  refine GoS.aloadN (pc' := 18) d4_17 rfl rfl rfl ?_
  refine GoS.ldcAgain (pc' := 20) (a := sa1) (ww hw 22 rfl) (List.mem_of_getElem? (i := 0) rfl) d4_18 rfl ?_
  refine GoS.getfield (pc' := 23) (host := "") (Or.inl (ww hw 29 rfl)) Via.refl (F1_1.other W7 (Or.inl ne5)) d4_20 rfl ?_
  have f10 : Fld Z h6 a "java/lang/String" "coder" "B" (.int 0) := ((pf1.ext E1).other W7 (Or.inr (slot_ne (Or.inr (ww hw 25 rfl)) (Or.inr (ww hw 24 rfl)) (by decide) (t := .byte) (t' := (.array .byte)) (by decide) (by decide))))
  refine GoS.putfieldN (pc' := 26) (ww hw 29 rfl) Via.refl f10 ((xa.ext E1).wr W7) (Or.inr ⟨(ww hw 25 rfl), rfl, rfl⟩) (ww hw 6 rfl) (ty := .byte) (v' := (0 : Int32)) (by decide) (by first | rfl | decide) (by first | rfl | decide | exact fits_nar_byte _) ge_a d4_23 rfl ?_
  intro h11 W12
  have K13 : Keep h h11 [a] := K8.wr W12 (Or.inl (List.mem_of_getElem? (i := 0) rfl))
  have f14 := f10.same W12
  have f15 : Fld Z h11 a "java/lang/String" "value" "[B" (.ref sb1) := (f9.other W12 (Or.inr (slot_ne (Or.inr (ww hw 24 rfl)) (Or.inr (ww hw 25 rfl)) (by decide) (t := (.array .byte)) (t' := .byte) (by decide) (by decide))))
  have ne16 : sb1 ≠ a := ne_exa ((F1_4.wr W7).wr W12) (((xa.ext E1).wr W7).wr W12) (by decide)
  have f17 : Hel Z h11 sa1 sb1 ("") := ((H4.other W7 ne5 ne16).other W12 ne5 ne16)
  exact GoS.retV rfl d4_26 ⟨sa1, sb1, kb1, rfl, K13, f15, f14, ((F1_3.other W7 ne16).other W12 ne16), ((F1_4.wr W7).wr W12), f17, rfl⟩
theorem c_str0Init (hw : HW a0 Z) (h : Heap) (a : Addr) (t : Addr) (kt : ClassId) (hcw : Jvm.Lit.compactW.before a0 Z = true) (hch7 : Jvm.Lit.constHeld Z "java/lang/String" 7) (ge_a : n0 ≤ a) (xa : Exa Z h a "java/lang/String") (pf0 : Fld Z h a "java/lang/String" "value" "[B" .null) (pf1 : Fld Z h a "java/lang/String" "coder" "B" (.int 0)) (vt : Arv Z h t kt .char (0 : Int32) [] (.int 0)) :
    ConS l M_13 jdk_42_method_3_code 2 none (rm4 2 2 4 29) Z n0 #[(.ref a), (.ref t)] h [] (fun v h' LL' => ∃ sa : Addr, ∃ sb : Addr, ∃ ks : ClassId, v = none ∧ Keep h h' [a] ∧ Fld Z h' a "java/lang/String" "value" "[B" (.ref sb) ∧ Fld Z h' a "java/lang/String" "coder" "B" (.int 0) ∧ Arv Z h' sb ks .byte (0 : Int32) [] (.int 0) ∧ Exa Z h' sb "[B" ∧ Hel Z h' sa sb ("") ∧ LL' = [("", sa, "java/lang/String", 7)]) := by
  refine ConS.of_go (plainFor_of_name pn_0) (Ls := #[.val (.ref a), .val (.ref t)]) ?_
  refine GoS.aloadN (pc' := 1) d3_0 rfl rfl rfl ?_
  refine GoS.aloadN (pc' := 2) d3_1 rfl rfl rfl ?_
  refine GoS.iconst (pc' := 3) (v := 0) d3_2 rfl rfl ?_
  refine GoS.aloadN (pc' := 4) d3_3 rfl rfl rfl ?_
  refine GoS.arraylength (pc' := 5) vt d3_4 rfl ?_
  refine GoS.aconstNull (pc' := 6) d3_5 rfl ?_
  refine GoS.callC (cells' := 2) (slots' := 4) (pc' := 9) [(.ref t), (.int 0), (.int 0), .null] [] (a := a) rfl rfl (ww hw 15 rfl) (ww hw 16 rfl) (ww hw 7 rfl) (ww hw 18 rfl) (by decide) (c_str0Init4 l Z a0 hw h a t kt hcw hch7 ge_a xa pf0 pf1 vt) pd_8 d3_6 rfl ?_
  rintro _ h1 _ ⟨sa_1, sb_1, ks_1, rfl, K1, F1_0, F1_1, F1_2, F1_3, F1_4, rfl⟩
  show GoS _ _ _ _ _ _ _ _ _ _ _ _ _ _ 9 _ []
  exact GoS.retV rfl d3_9 ⟨sa_1, sb_1, ks_1, rfl, K1, F1_0, F1_1, F1_2, F1_3, F1_4, rfl⟩
theorem c_canEnc (hw : HW a0 Z) (h : Heap) :
    Con l M_14 jdk_43_method_4_code 1 (some .boolean) (rm4 0 0 0 0) Z n0 #[(.int 124)] h (fun v h' => v = some (.int 1) ∧ h = h') := by
  refine Con.of_go (plainFor_of_name pn_2) (Ls := #[.val (.int 124)]) ?_
  refine Go.iloadN (pc' := 1) d13_0 rfl rfl ?_
  refine Go.ifNo (pc' := 4) d13_1 (XT.i0_lt_f (by decide)) rfl ?_
  refine Go.iloadN (pc' := 5) d13_4 rfl rfl ?_
  refine Go.sipush (pc' := 8) (v := 255) d13_5 rfl rfl ?_
  refine Go.icmpNo (pc' := 11) d13_8 (XT.ii_gt_f (by decide)) rfl ?_
  refine Go.iconst (pc' := 12) (v := 1) d13_11 rfl rfl ?_
  refine Go.goto (pc' := 16) d13_12 (by decide) (by decide) ?_
  exact Go.retN (t := .boolean) rfl (by simp) d13_16 ⟨rfl, rfl⟩
theorem c_max0 (hw : HW a0 Z) (h : Heap) :
    Con l M_15 jdk_29_method_65_code 2 (some .int) (rm4 0 0 0 0) Z n0 #[(.int 0), (.int 0)] h (fun v h' => v = some (.int 0) ∧ h = h') := by
  refine Con.of_go (Jvm.Free.JP.mathPlain rfl (by decide +kernel)) (Ls := #[.val (.int 0), .val (.int 0)]) ?_
  refine Go.iloadN (pc' := 1) d14_0 rfl rfl ?_
  refine Go.iloadN (pc' := 2) d14_1 rfl rfl ?_
  refine Go.icmpNo (pc' := 5) d14_2 (XT.ii_lt_f (by decide)) rfl ?_
  refine Go.iloadN (pc' := 6) d14_5 rfl rfl ?_
  refine Go.goto (pc' := 10) d14_6 (by decide) (by decide) ?_
  exact Go.retI rfl d14_10 ⟨rfl, rfl⟩
theorem c_min0_0 (hw : HW a0 Z) (h : Heap) :
    Con l M_16 jdk_29_method_69_code 2 (some .int) (rm4 0 0 0 0) Z n0 #[(.int 0), (.int 0)] h (fun v h' => v = some (.int 0) ∧ h = h') := by
  refine Con.of_go (Jvm.Free.JP.mathPlain rfl (by decide +kernel)) (Ls := #[.val (.int 0), .val (.int 0)]) ?_
  refine Go.iloadN (pc' := 1) d15_0 rfl rfl ?_
  refine Go.iloadN (pc' := 2) d15_1 rfl rfl ?_
  refine Go.icmpNo (pc' := 5) d15_2 (XT.ii_gt_f (by decide)) rfl ?_
  refine Go.iloadN (pc' := 6) d15_5 rfl rfl ?_
  refine Go.goto (pc' := 10) d15_6 (by decide) (by decide) ?_
  exact Go.retI rfl d15_10 ⟨rfl, rfl⟩
theorem c_idxL0 (hw : HW a0 Z) (h : Heap) (b : Addr) (kb : ClassId) (v : Arv Z h b kb .byte (0 : Int32) [] (.int 0)) :
    Con l M_17 jdk_43_method_22_code 4 (some .int) (rm4 1 0 0 13) Z n0 #[(.ref b), (.int 124), (.int 0), (.int 0)] h (fun v h' => v = some (.int (-1 : Int32)) ∧ h = h') := by
  refine Con.of_go (plainFor_of_name pn_2) (Ls := #[.val (.ref b), .val (.int 124), .val (.int 0), .val (.int 0)]) ?_
  refine Go.iloadN (pc' := 1) d12_0 rfl rfl ?_
  refine Go.callS (cells' := 0) (slots' := 0) (pc' := 4) [(.int 124)] [] (ww hw 64 rfl) (ww hw 65 rfl) (ww hw 62 rfl) (ww hw 66 rfl) (by decide) (c_canEnc l Z a0 hw h) pd_9 d12_1 rfl ?_
  rintro _ _ ⟨rfl, rfl⟩
  show Go _ _ _ _ _ _ _ _ _ _ _ _ 4 _ [(.int 1)]
  refine Go.ifYes (pc' := 9) d12_4 (XT.i0_ne_t (by decide)) (by decide) (by decide) ?_
  refine Go.iloadN (pc' := 10) d12_9 rfl rfl ?_
  refine Go.iconst (pc' := 11) (v := 0) d12_10 rfl rfl ?_
  refine Go.callS (cells' := 0) (slots' := 0) (pc' := 14) [(.int 0), (.int 0)] [] (ww hw 67 rfl) (ww hw 68 rfl) (ww hw 69 rfl) (ww hw 70 rfl) (by decide) (c_max0 l Z a0 hw h) pd_10 d12_11 rfl ?_
  rintro _ _ ⟨rfl, rfl⟩
  show Go _ _ _ _ _ _ _ _ _ _ _ _ 14 _ [(.int 0)]
  refine Go.istoreN (pc' := 15) (Ls' := #[.val (.ref b), .val (.int 124), .val (.int 0), .val (.int 0)]) d12_14 rfl rfl ?_
  refine Go.iloadN (pc' := 16) d12_15 rfl rfl ?_
  refine Go.aloadN (pc' := 17) d12_16 rfl rfl rfl ?_
  refine Go.arraylength (pc' := 18) v d12_17 rfl ?_
  refine Go.callS (cells' := 0) (slots' := 0) (pc' := 21) [(.int 0), (.int 0)] [] (ww hw 71 rfl) (ww hw 72 rfl) (ww hw 69 rfl) (ww hw 73 rfl) (by decide) (c_min0_0 l Z a0 hw h) pd_10 d12_18 rfl ?_
  rintro _ _ ⟨rfl, rfl⟩
  show Go _ _ _ _ _ _ _ _ _ _ _ _ 21 _ [(.int 0)]
  refine Go.istoreN (pc' := 22) (Ls' := #[.val (.ref b), .val (.int 124), .val (.int 0), .val (.int 0)]) d12_21 rfl rfl ?_
  refine Go.iloadN (pc' := 23) d12_22 rfl rfl ?_
  refine Go.iloadN (pc' := 24) d12_23 rfl rfl ?_
  refine Go.icmpNo (pc' := 27) d12_24 (XT.ii_lt_f (by decide)) rfl ?_
  refine Go.iconst (pc' := 28) (v := (-1 : Int32)) d12_27 rfl rfl ?_
  exact Go.retI rfl d12_28 ⟨rfl, rfl⟩
theorem c_idxT0 (hw : HW a0 Z) (h : Heap) (a : Addr) (b : Addr) (kb : ClassId) (cp : Int32) (hcp : ¬ (cp = (0 : Int32))) (scp : Sta Z Z.heap "java/lang/String" "COMPACT_STRINGS" "Z" (.int cp)) (e : Exa Z h a "java/lang/String") (f : Fld Z h a "java/lang/String" "coder" "B" (.int 0)) (g : Fld Z h a "java/lang/String" "value" "[B" (.ref b)) (v : Arv Z h b kb .byte (0 : Int32) [] (.int 0)) :
    Con l M_18 jdk_42_method_80_code 3 (some .int) (rm4 2 0 0 28) Z n0 #[(.ref a), (.int 124), (.int 0)] h (fun v h' => v = some (.int (-1 : Int32)) ∧ h = h') := by
  refine Con.of_go (plainFor_of_name pn_0) (Ls := #[.val (.ref a), .val (.int 124), .val (.int 0)]) ?_
  refine Go.aloadN (pc' := 1) d8_0 rfl rfl rfl ?_
  refine Go.callV (cells' := 0) (slots' := 0) (pc' := 4) [] [] e (ww hw 44 rfl) (ww hw 45 rfl) (nfS (ww hw 47 rfl)) (ww hw 47 rfl) (ww hw 46 rfl) (ww hw 7 rfl) (ww hw 48 rfl) (by decide) (c_isLatin1 l Z a0 hw h a cp hcp scp f) pd_3 d8_1 rfl ?_
  rintro _ _ ⟨rfl, rfl⟩
  show Go _ _ _ _ _ _ _ _ _ _ _ _ 4 _ [(.int 1)]
  refine Go.ifNo (pc' := 7) d8_4 (XT.i0_eq_f (by decide)) rfl ?_
  refine Go.aloadN (pc' := 8) d8_7 rfl rfl rfl ?_
  refine Go.getfield (pc' := 11) (host := "") (Or.inl (ww hw 28 rfl)) Via.refl g d8_8 rfl ?_
  refine Go.iloadN (pc' := 12) d8_11 rfl rfl ?_
  refine Go.iloadN (pc' := 13) d8_12 rfl rfl ?_
  refine Go.aloadN (pc' := 14) d8_13 rfl rfl rfl ?_
  refine Go.callV (cells' := 0) (slots' := 0) (pc' := 17) [] [(.int 0), (.int 124), (.ref b)] e (ww hw 50 rfl) (ww hw 51 rfl) (nfS (ww hw 53 rfl)) (ww hw 53 rfl) (ww hw 52 rfl) (ww hw 7 rfl) (ww hw 54 rfl) (by decide) (c_strLen0 l Z a0 hw h a b kb cp hcp scp e f g v) pd_11 d8_14 rfl ?_
  rintro _ _ ⟨rfl, rfl⟩
  show Go _ _ _ _ _ _ _ _ _ _ _ _ 17 _ [(.int 0), (.int 0), (.int 124), (.ref b)]
  refine Go.callS (cells' := 0) (slots' := 0) (pc' := 20) [(.ref b), (.int 124), (.int 0), (.int 0)] [] (ww hw 60 rfl) (ww hw 61 rfl) (ww hw 62 rfl) (ww hw 63 rfl) (by decide) (c_idxL0 l Z a0 hw h b kb v) pd_12 d8_17 rfl ?_
  rintro _ _ ⟨rfl, rfl⟩
  show Go _ _ _ _ _ _ _ _ _ _ _ _ 20 _ [(.int (-1 : Int32))]
  refine Go.goto (pc' := 36) d8_20 (by decide) (by decide) ?_
  exact Go.retI rfl d8_36 ⟨rfl, rfl⟩
theorem c_idx0 (hw : HW a0 Z) (h : Heap) (a : Addr) (b : Addr) (kb : ClassId) (cp : Int32) (hcp : ¬ (cp = (0 : Int32))) (scp : Sta Z Z.heap "java/lang/String" "COMPACT_STRINGS" "Z" (.int cp)) (e : Exa Z h a "java/lang/String") (f : Fld Z h a "java/lang/String" "coder" "B" (.int 0)) (g : Fld Z h a "java/lang/String" "value" "[B" (.ref b)) (v : Arv Z h b kb .byte (0 : Int32) [] (.int 0)) :
    Con l M_19 jdk_42_method_79_code 2 (some .int) (rm4 3 0 0 42) Z n0 #[(.ref a), (.int 124)] h (fun v h' => v = some (.int (-1 : Int32)) ∧ h = h') := by
  refine Con.of_go (plainFor_of_name pn_0) (Ls := #[.val (.ref a), .val (.int 124)]) ?_
  refine Go.aloadN (pc' := 1) d7_0 rfl rfl rfl ?_
  refine Go.iloadN (pc' := 2) d7_1 rfl rfl ?_
  refine Go.iconst (pc' := 3) (v := 0) d7_2 rfl rfl ?_
  refine Go.callV (cells' := 0) (slots' := 0) (pc' := 6) [(.int 124), (.int 0)] [] e (ww hw 39 rfl) (ww hw 40 rfl) (nfS (ww hw 42 rfl)) (ww hw 42 rfl) (ww hw 41 rfl) (ww hw 7 rfl) (ww hw 43 rfl) (by decide) (c_idxT0 l Z a0 hw h a b kb cp hcp scp e f g v) pd_10 d7_3 rfl ?_
  rintro _ _ ⟨rfl, rfl⟩
  show Go _ _ _ _ _ _ _ _ _ _ _ _ 6 _ [(.int (-1 : Int32))]
  exact Go.retI rfl d7_6 ⟨rfl, rfl⟩
theorem c_idxChar1 (hw : HW a0 Z) (h : Heap) (b : Addr) (kb : ClassId) (x0 : Int32) (v : Arv Z h b kb .byte (1 : Int32) [(.int x0)] (.int 0)) :
    Con l M_20 jdk_43_method_23_code 6 (some .int) (rm4 0 0 0 0) Z n0 #[(.ref b), (.int 124), (.int 0), (.int 1)] h (fun v h' => v = some (.int (if x0 = (124 : Int32) then (0 : Int32) else (-1 : Int32))) ∧ h = h') := by
  refine Con.of_go (plainFor_of_name pn_2) (Ls := #[.val (.ref b), .val (.int 124), .val (.int 0), .val (.int 1), .unset, .unset]) ?_
  refine Go.iloadN (pc' := 1) d23_0 rfl rfl ?_
  refine Go.i2b (pc' := 2) d23_1 rfl ?_
  show Go _ _ _ _ _ _ _ _ _ _ _ _ 2 #[.val (.ref b), .val (.int 124), .val (.int 0), .val (.int 1), .unset, .unset] [(.int 124)]
  refine Go.istore (pc' := 4) (Ls' := #[.val (.ref b), .val (.int 124), .val (.int 0), .val (.int 1), .val (.int 124), .unset]) d23_2 rfl rfl ?_
  refine Go.iloadN (pc' := 5) d23_4 rfl rfl ?_
  refine Go.istore (pc' := 7) (Ls' := #[.val (.ref b), .val (.int 124), .val (.int 0), .val (.int 1), .val (.int 124), .val (.int 0)]) d23_5 rfl rfl ?_
  refine Go.iload (pc' := 9) d23_7 rfl rfl ?_
  refine Go.iloadN (pc' := 10) d23_9 rfl rfl ?_
  refine Go.icmpNo (pc' := 13) d23_10 (XT.ii_ge_f (by decide)) rfl ?_
  refine Go.aloadN (pc' := 14) d23_13 rfl rfl rfl ?_
  refine Go.iload (pc' := 16) d23_14 rfl rfl ?_
  refine Go.baload (pc' := 17) (v := x0) v d23_16 (by decide) (by decide) rfl rfl ?_
  refine Go.iload (pc' := 19) d23_17 rfl rfl ?_
  by_cases hc1 : x0 = (124 : Int32)
  ·
    refine Go.icmpNo (pc' := 22) d23_19 (XT.ii_ne_f hc1) rfl ?_
    refine Go.iload (pc' := 24) d23_22 rfl rfl ?_
    exact Go.retI rfl d23_24 ⟨(by rw [if_pos hc1]), rfl⟩
  ·
    refine Go.icmpYes (pc' := 25) d23_19 (XT.ii_ne_t hc1) (by decide) (by decide) ?_
    refine Go.iinc (pc' := 28) (Ls' := #[.val (.ref b), .val (.int 124), .val (.int 0), .val (.int 1), .val (.int 124), .val (.int ((0 : Int32) + (1 : Int32)))]) (w := (1 : Int32)) d23_25 rfl rfl rfl rfl ?_
    show Go _ _ _ _ _ _ _ _ _ _ _ _ 28 #[.val (.ref b), .val (.int 124), .val (.int 0), .val (.int 1), .val (.int 124), .val (.int 1)] []
    refine Go.goto (pc' := 7) d23_28 (by decide) (by decide) ?_
    refine Go.iload (pc' := 9) d23_7 rfl rfl ?_
    refine Go.iloadN (pc' := 10) d23_9 rfl rfl ?_
    refine Go.icmpYes (pc' := 31) d23_10 (XT.ii_ge_t (by decide)) (by decide) (by decide) ?_
    refine Go.iconst (pc' := 32) (v := (-1 : Int32)) d23_31 rfl rfl ?_
    exact Go.retI rfl d23_32 ⟨(by rw [if_neg hc1]), rfl⟩
theorem c_min1_1 (hw : HW a0 Z) (h : Heap) :
    Con l M_16 jdk_29_method_69_code 2 (some .int) (rm4 0 0 0 0) Z n0 #[(.int 1), (.int 1)] h (fun v h' => v = some (.int 1) ∧ h = h') := by
  refine Con.of_go (Jvm.Free.JP.mathPlain rfl (by decide +kernel)) (Ls := #[.val (.int 1), .val (.int 1)]) ?_
  refine Go.iloadN (pc' := 1) d15_0 rfl rfl ?_
  refine Go.iloadN (pc' := 2) d15_1 rfl rfl ?_
  refine Go.icmpNo (pc' := 5) d15_2 (XT.ii_gt_f (by decide)) rfl ?_
  refine Go.iloadN (pc' := 6) d15_5 rfl rfl ?_
  refine Go.goto (pc' := 10) d15_6 (by decide) (by decide) ?_
  exact Go.retI rfl d15_10 ⟨rfl, rfl⟩
theorem c_idxL1 (hw : HW a0 Z) (h : Heap) (b : Addr) (kb : ClassId) (x0 : Int32) (v : Arv Z h b kb .byte (1 : Int32) [(.int x0)] (.int 0)) :
    Con l M_17 jdk_43_method_22_code 4 (some .int) (rm4 1 0 0 17) Z n0 #[(.ref b), (.int 124), (.int 0), (.int 1)] h (fun v h' => v = some (.int (if x0 = (124 : Int32) then (0 : Int32) else (-1 : Int32))) ∧ h = h') := by
  refine Con.of_go (plainFor_of_name pn_2) (Ls := #[.val (.ref b), .val (.int 124), .val (.int 0), .val (.int 1)]) ?_
  refine Go.iloadN (pc' := 1) d12_0 rfl rfl ?_
  refine Go.callS (cells' := 0) (slots' := 0) (pc' := 4) [(.int 124)] [] (ww hw 64 rfl) (ww hw 65 rfl) (ww hw 62 rfl) (ww hw 66 rfl) (by decide) (c_canEnc l Z a0 hw h) pd_9 d12_1 rfl ?_
  rintro _ _ ⟨rfl, rfl⟩
  show Go _ _ _ _ _ _ _ _ _ _ _ _ 4 _ [(.int 1)]
  refine Go.ifYes (pc' := 9) d12_4 (XT.i0_ne_t (by decide)) (by decide) (by decide) ?_
  refine Go.iloadN (pc' := 10) d12_9 rfl rfl ?_
  refine Go.iconst (pc' := 11) (v := 0) d12_10 rfl rfl ?_
  refine Go.callS (cells' := 0) (slots' := 0) (pc' := 14) [(.int 0), (.int 0)] [] (ww hw 67 rfl) (ww hw 68 rfl) (ww hw 69 rfl) (ww hw 70 rfl) (by decide) (c_max0 l Z a0 hw h) pd_10 d12_11 rfl ?_
  rintro _ _ ⟨rfl, rfl⟩
  show Go _ _ _ _ _ _ _ _ _ _ _ _ 14 _ [(.int 0)]
  refine Go.istoreN (pc' := 15) (Ls' := #[.val (.ref b), .val (.int 124), .val (.int 0), .val (.int 1)]) d12_14 rfl rfl ?_
  refine Go.iloadN (pc' := 16) d12_15 rfl rfl ?_
  refine Go.aloadN (pc' := 17) d12_16 rfl rfl rfl ?_
  refine Go.arraylength (pc' := 18) v d12_17 rfl ?_
  refine Go.callS (cells' := 0) (slots' := 0) (pc' := 21) [(.int 1), (.int 1)] [] (ww hw 71 rfl) (ww hw 72 rfl) (ww hw 69 rfl) (ww hw 73 rfl) (by decide) (c_min1_1 l Z a0 hw h) pd_10 d12_18 rfl ?_
  rintro _ _ ⟨rfl, rfl⟩
  show Go _ _ _ _ _ _ _ _ _ _ _ _ 21 _ [(.int 1)]
  refine Go.istoreN (pc' := 22) (Ls' := #[.val (.ref b), .val (.int 124), .val (.int 0), .val (.int 1)]) d12_21 rfl rfl ?_
  refine Go.iloadN (pc' := 23) d12_22 rfl rfl ?_
  refine Go.iloadN (pc' := 24) d12_23 rfl rfl ?_
  refine Go.icmpYes (pc' := 29) d12_24 (XT.ii_lt_t (by decide)) (by decide) (by decide) ?_
  refine Go.aloadN (pc' := 30) d12_29 rfl rfl rfl ?_
  refine Go.iloadN (pc' := 31) d12_30 rfl rfl ?_
  refine Go.iloadN (pc' := 32) d12_31 rfl rfl ?_
  refine Go.iloadN (pc' := 33) d12_32 rfl rfl ?_
  refine Go.callS (cells' := 0) (slots' := 0) (pc' := 36) [(.ref b), (.int 124), (.int 0), (.int 1)] [] (ww hw 109 rfl) (ww hw 110 rfl) (ww hw 62 rfl) (ww hw 111 rfl) (by decide) (c_idxChar1 l Z a0 hw h b kb x0 v) pd_12 d12_33 rfl ?_
  rintro _ _ ⟨rfl, rfl⟩
  show Go _ _ _ _ _ _ _ _ _ _ _ _ 36 _ [(.int (if x0 = (124 : Int32) then (0 : Int32) else (-1 : Int32)))]
  exact Go.retI rfl d12_36 ⟨rfl, rfl⟩
theorem c_idxT1 (hw : HW a0 Z) (h : Heap) (a : Addr) (b : Addr) (kb : ClassId) (x0 : Int32) (cp : Int32) (hcp : ¬ (cp = (0 : Int32))) (scp : Sta Z Z.heap "java/lang/String" "COMPACT_STRINGS" "Z" (.int cp)) (e : Exa Z h a "java/lang/String") (f : Fld Z h a "java/lang/String" "coder" "B" (.int 0)) (g : Fld Z h a "java/lang/String" "value" "[B" (.ref b)) (v : Arv Z h b kb .byte (1 : Int32) [(.int x0)] (.int 0)) :
    Con l M_18 jdk_42_method_80_code 3 (some .int) (rm4 2 0 0 32) Z n0 #[(.ref a), (.int 124), (.int 0)] h (fun v h' => v = some (.int (if x0 = (124 : Int32) then (0 : Int32) else (-1 : Int32))) ∧ h = h') := by
  refine Con.of_go (plainFor_of_name pn_0) (Ls := #[.val (.ref a), .val (.int 124), .val (.int 0)]) ?_
  refine Go.aloadN (pc' := 1) d8_0 rfl rfl rfl ?_
  refine Go.callV (cells' := 0) (slots' := 0) (pc' := 4) [] [] e (ww hw 44 rfl) (ww hw 45 rfl) (nfS (ww hw 47 rfl)) (ww hw 47 rfl) (ww hw 46 rfl) (ww hw 7 rfl) (ww hw 48 rfl) (by decide) (c_isLatin1 l Z a0 hw h a cp hcp scp f) pd_3 d8_1 rfl ?_
  rintro _ _ ⟨rfl, rfl⟩
  show Go _ _ _ _ _ _ _ _ _ _ _ _ 4 _ [(.int 1)]
  refine Go.ifNo (pc' := 7) d8_4 (XT.i0_eq_f (by decide)) rfl ?_
  refine Go.aloadN (pc' := 8) d8_7 rfl rfl rfl ?_
  refine Go.getfield (pc' := 11) (host := "") (Or.inl (ww hw 28 rfl)) Via.refl g d8_8 rfl ?_
  refine Go.iloadN (pc' := 12) d8_11 rfl rfl ?_
  refine Go.iloadN (pc' := 13) d8_12 rfl rfl ?_
  refine Go.aloadN (pc' := 14) d8_13 rfl rfl rfl ?_
  refine Go.callV (cells' := 0) (slots' := 0) (pc' := 17) [] [(.int 0), (.int 124), (.ref b)] e (ww hw 50 rfl) (ww hw 51 rfl) (nfS (ww hw 53 rfl)) (ww hw 53 rfl) (ww hw 52 rfl) (ww hw 7 rfl) (ww hw 54 rfl) (by decide) (c_strLen1 l Z a0 hw h a b kb x0 cp hcp scp e f g v) pd_11 d8_14 rfl ?_
  rintro _ _ ⟨rfl, rfl⟩
  show Go _ _ _ _ _ _ _ _ _ _ _ _ 17 _ [(.int 1), (.int 0), (.int 124), (.ref b)]
  refine Go.callS (cells' := 0) (slots' := 0) (pc' := 20) [(.ref b), (.int 124), (.int 0), (.int 1)] [] (ww hw 60 rfl) (ww hw 61 rfl) (ww hw 62 rfl) (ww hw 63 rfl) (by decide) (c_idxL1 l Z a0 hw h b kb x0 v) pd_12 d8_17 rfl ?_
  rintro _ _ ⟨rfl, rfl⟩
  show Go _ _ _ _ _ _ _ _ _ _ _ _ 20 _ [(.int (if x0 = (124 : Int32) then (0 : Int32) else (-1 : Int32)))]
  refine Go.goto (pc' := 36) d8_20 (by decide) (by decide) ?_
  exact Go.retI rfl d8_36 ⟨rfl, rfl⟩
theorem c_idx1 (hw : HW a0 Z) (h : Heap) (a : Addr) (b : Addr) (kb : ClassId) (x0 : Int32) (cp : Int32) (hcp : ¬ (cp = (0 : Int32))) (scp : Sta Z Z.heap "java/lang/String" "COMPACT_STRINGS" "Z" (.int cp)) (e : Exa Z h a "java/lang/String") (f : Fld Z h a "java/lang/String" "coder" "B" (.int 0)) (g : Fld Z h a "java/lang/String" "value" "[B" (.ref b)) (v : Arv Z h b kb .byte (1 : Int32) [(.int x0)] (.int 0)) :
    Con l M_19 jdk_42_method_79_code 2 (some .int) (rm4 3 0 0 46) Z n0 #[(.ref a), (.int 124)] h (fun v h' => v = some (.int (if x0 = (124 : Int32) then (0 : Int32) else (-1 : Int32))) ∧ h = h') := by
  refine Con.of_go (plainFor_of_name pn_0) (Ls := #[.val (.ref a), .val (.int 124)]) ?_
  refine Go.aloadN (pc' := 1) d7_0 rfl rfl rfl ?_
  refine Go.iloadN (pc' := 2) d7_1 rfl rfl ?_
  refine Go.iconst (pc' := 3) (v := 0) d7_2 rfl rfl ?_
  refine Go.callV (cells' := 0) (slots' := 0) (pc' := 6) [(.int 124), (.int 0)] [] e (ww hw 39 rfl) (ww hw 40 rfl) (nfS (ww hw 42 rfl)) (ww hw 42 rfl) (ww hw 41 rfl) (ww hw 7 rfl) (ww hw 43 rfl) (by decide) (c_idxT1 l Z a0 hw h a b kb x0 cp hcp scp e f g v) pd_10 d7_3 rfl ?_
  rintro _ _ ⟨rfl, rfl⟩
  show Go _ _ _ _ _ _ _ _ _ _ _ _ 6 _ [(.int (if x0 = (124 : Int32) then (0 : Int32) else (-1 : Int32)))]
  exact Go.retI rfl d7_6 ⟨rfl, rfl⟩
theorem c_idxChar2 (hw : HW a0 Z) (h : Heap) (b : Addr) (kb : ClassId) (x0 : Int32) (x1 : Int32) (v : Arv Z h b kb .byte (2 : Int32) [(.int x0), (.int x1)] (.int 0)) :
    Con l M_20 jdk_43_method_23_code 6 (some .int) (rm4 0 0 0 0) Z n0 #[(.ref b), (.int 124), (.int 0), (.int 2)] h (fun v h' => v = some (.int (if x0 = (124 : Int32) then (0 : Int32) else (if x1 = (124 : Int32) then (1 : Int32) else (-1 : Int32)))) ∧ h = h') := by
  refine Con.of_go (plainFor_of_name pn_2) (Ls := #[.val (.ref b), .val (.int 124), .val (.int 0), .val (.int 2), .unset, .unset]) ?_
  refine Go.iloadN (pc' := 1) d23_0 rfl rfl ?_
  refine Go.i2b (pc' := 2) d23_1 rfl ?_
  show Go _ _ _ _ _ _ _ _ _ _ _ _ 2 #[.val (.ref b), .val (.int 124), .val (.int 0), .val (.int 2), .unset, .unset] [(.int 124)]
  refine Go.istore (pc' := 4) (Ls' := #[.val (.ref b), .val (.int 124), .val (.int 0), .val (.int 2), .val (.int 124), .unset]) d23_2 rfl rfl ?_
  refine Go.iloadN (pc' := 5) d23_4 rfl rfl ?_
  refine Go.istore (pc' := 7) (Ls' := #[.val (.ref b), .val (.int 124), .val (.int 0), .val (.int 2), .val (.int 124), .val (.int 0)]) d23_5 rfl rfl ?_
  refine Go.iload (pc' := 9) d23_7 rfl rfl ?_
  refine Go.iloadN (pc' := 10) d23_9 rfl rfl ?_
  refine Go.icmpNo (pc' := 13) d23_10 (XT.ii_ge_f (by decide)) rfl ?_
  refine Go.aloadN (pc' := 14) d23_13 rfl rfl rfl ?_
  refine Go.iload (pc' := 16) d23_14 rfl rfl ?_
  refine Go.baload (pc' := 17) (v := x0) v d23_16 (by decide) (by decide) rfl rfl ?_
  refine Go.iload (pc' := 19) d23_17 rfl rfl ?_
  by_cases hc1 : x0 = (124 : Int32)
  ·
    refine Go.icmpNo (pc' := 22) d23_19 (XT.ii_ne_f hc1) rfl ?_
    refine Go.iload (pc' := 24) d23_22 rfl rfl ?_
    exact Go.retI rfl d23_24 ⟨(by rw [if_pos hc1]), rfl⟩
  ·
    refine Go.icmpYes (pc' := 25) d23_19 (XT.ii_ne_t hc1) (by decide) (by decide) ?_
    refine Go.iinc (pc' := 28) (Ls' := #[.val (.ref b), .val (.int 124), .val (.int 0), .val (.int 2), .val (.int 124), .val (.int ((0 : Int32) + (1 : Int32)))]) (w := (1 : Int32)) d23_25 rfl rfl rfl rfl ?_
    show Go _ _ _ _ _ _ _ _ _ _ _ _ 28 #[.val (.ref b), .val (.int 124), .val (.int 0), .val (.int 2), .val (.int 124), .val (.int 1)] []
    refine Go.goto (pc' := 7) d23_28 (by decide) (by decide) ?_
    refine Go.iload (pc' := 9) d23_7 rfl rfl ?_
    refine Go.iloadN (pc' := 10) d23_9 rfl rfl ?_
    refine Go.icmpNo (pc' := 13) d23_10 (XT.ii_ge_f (by decide)) rfl ?_
    refine Go.aloadN (pc' := 14) d23_13 rfl rfl rfl ?_
    refine Go.iload (pc' := 16) d23_14 rfl rfl ?_
    refine Go.baload (pc' := 17) (v := x1) v d23_16 (by decide) (by decide) rfl rfl ?_
    refine Go.iload (pc' := 19) d23_17 rfl rfl ?_
    by_cases hc2 : x1 = (124 : Int32)
    ·
      refine Go.icmpNo (pc' := 22) d23_19 (XT.ii_ne_f hc2) rfl ?_
      refine Go.iload (pc' := 24) d23_22 rfl rfl ?_
      exact Go.retI rfl d23_24 ⟨(by rw [if_neg hc1, if_pos hc2]), rfl⟩
    ·
      refine Go.icmpYes (pc' := 25) d23_19 (XT.ii_ne_t hc2) (by decide) (by decide) ?_
      refine Go.iinc (pc' := 28) (Ls' := #[.val (.ref b), .val (.int 124), .val (.int 0), .val (.int 2), .val (.int 124), .val (.int ((1 : Int32) + (1 : Int32)))]) (w := (1 : Int32)) d23_25 rfl rfl rfl rfl ?_
      show Go _ _ _ _ _ _ _ _ _ _ _ _ 28 #[.val (.ref b), .val (.int 124), .val (.int 0), .val (.int 2), .val (.int 124), .val (.int 2)] []
      refine Go.goto (pc' := 7) d23_28 (by decide) (by decide) ?_
      refine Go.iload (pc' := 9) d23_7 rfl rfl ?_
      refine Go.iloadN (pc' := 10) d23_9 rfl rfl ?_
      refine Go.icmpYes (pc' := 31) d23_10 (XT.ii_ge_t (by decide)) (by decide) (by decide) ?_
      refine Go.iconst (pc' := 32) (v := (-1 : Int32)) d23_31 rfl rfl ?_
      exact Go.retI rfl d23_32 ⟨(by rw [if_neg hc1, if_neg hc2]), rfl⟩
theorem c_min2_2 (hw : HW a0 Z) (h : Heap) :
    Con l M_16 jdk_29_method_69_code 2 (some .int) (rm4 0 0 0 0) Z n0 #[(.int 2), (.int 2)] h (fun v h' => v = some (.int 2) ∧ h = h') := by
  refine Con.of_go (Jvm.Free.JP.mathPlain rfl (by decide +kernel)) (Ls := #[.val (.int 2), .val (.int 2)]) ?_
  refine Go.iloadN (pc' := 1) d15_0 rfl rfl ?_
  refine Go.iloadN (pc' := 2) d15_1 rfl rfl ?_
  refine Go.icmpNo (pc' := 5) d15_2 (XT.ii_gt_f (by decide)) rfl ?_
  refine Go.iloadN (pc' := 6) d15_5 rfl rfl ?_
  refine Go.goto (pc' := 10) d15_6 (by decide) (by decide) ?_
  exact Go.retI rfl d15_10 ⟨rfl, rfl⟩
theorem c_idxL2 (hw : HW a0 Z) (h : Heap) (b : Addr) (kb : ClassId) (x0 : Int32) (x1 : Int32) (v : Arv Z h b kb .byte (2 : Int32) [(.int x0), (.int x1)] (.int 0)) :
    Con l M_17 jdk_43_method_22_code 4 (some .int) (rm4 1 0 0 17) Z n0 #[(.ref b), (.int 124), (.int 0), (.int 2)] h (fun v h' => v = some (.int (if x0 = (124 : Int32) then (0 : Int32) else (if x1 = (124 : Int32) then (1 : Int32) else (-1 : Int32)))) ∧ h = h') := by
  refine Con.of_go (plainFor_of_name pn_2) (Ls := #[.val (.ref b), .val (.int 124), .val (.int 0), .val (.int 2)]) ?_
  refine Go.iloadN (pc' := 1) d12_0 rfl rfl ?_
  refine Go.callS (cells' := 0) (slots' := 0) (pc' := 4) [(.int 124)] [] (ww hw 64 rfl) (ww hw 65 rfl) (ww hw 62 rfl) (ww hw 66 rfl) (by decide) (c_canEnc l Z a0 hw h) pd_9 d12_1 rfl ?_
  rintro _ _ ⟨rfl, rfl⟩
  show Go _ _ _ _ _ _ _ _ _ _ _ _ 4 _ [(.int 1)]
  refine Go.ifYes (pc' := 9) d12_4 (XT.i0_ne_t (by decide)) (by decide) (by decide) ?_
  refine Go.iloadN (pc' := 10) d12_9 rfl rfl ?_
  refine Go.iconst (pc' := 11) (v := 0) d12_10 rfl rfl ?_
  refine Go.callS (cells' := 0) (slots' := 0) (pc' := 14) [(.int 0), (.int 0)] [] (ww hw 67 rfl) (ww hw 68 rfl) (ww hw 69 rfl) (ww hw 70 rfl) (by decide) (c_max0 l Z a0 hw h) pd_10 d12_11 rfl ?_
  rintro _ _ ⟨rfl, rfl⟩
  show Go _ _ _ _ _ _ _ _ _ _ _ _ 14 _ [(.int 0)]
  refine Go.istoreN (pc' := 15) (Ls' := #[.val (.ref b), .val (.int 124), .val (.int 0), .val (.int 2)]) d12_14 rfl rfl ?_
  refine Go.iloadN (pc' := 16) d12_15 rfl rfl ?_
  refine Go.aloadN (pc' := 17) d12_16 rfl rfl rfl ?_
  refine Go.arraylength (pc' := 18) v d12_17 rfl ?_
  refine Go.callS (cells' := 0) (slots' := 0) (pc' := 21) [(.int 2), (.int 2)] [] (ww hw 71 rfl) (ww hw 72 rfl) (ww hw 69 rfl) (ww hw 73 rfl) (by decide) (c_min2_2 l Z a0 hw h) pd_10 d12_18 rfl ?_
  rintro _ _ ⟨rfl, rfl⟩
  show Go _ _ _ _ _ _ _ _ _ _ _ _ 21 _ [(.int 2)]
  refine Go.istoreN (pc' := 22) (Ls' := #[.val (.ref b), .val (.int 124), .val (.int 0), .val (.int 2)]) d12_21 rfl rfl ?_
  refine Go.iloadN (pc' := 23) d12_22 rfl rfl ?_
  refine Go.iloadN (pc' := 24) d12_23 rfl rfl ?_
  refine Go.icmpYes (pc' := 29) d12_24 (XT.ii_lt_t (by decide)) (by decide) (by decide) ?_
  refine Go.aloadN (pc' := 30) d12_29 rfl rfl rfl ?_
  refine Go.iloadN (pc' := 31) d12_30 rfl rfl ?_
  refine Go.iloadN (pc' := 32) d12_31 rfl rfl ?_
  refine Go.iloadN (pc' := 33) d12_32 rfl rfl ?_
  refine Go.callS (cells' := 0) (slots' := 0) (pc' := 36) [(.ref b), (.int 124), (.int 0), (.int 2)] [] (ww hw 109 rfl) (ww hw 110 rfl) (ww hw 62 rfl) (ww hw 111 rfl) (by decide) (c_idxChar2 l Z a0 hw h b kb x0 x1 v) pd_12 d12_33 rfl ?_
  rintro _ _ ⟨rfl, rfl⟩
  show Go _ _ _ _ _ _ _ _ _ _ _ _ 36 _ [(.int (if x0 = (124 : Int32) then (0 : Int32) else (if x1 = (124 : Int32) then (1 : Int32) else (-1 : Int32))))]
  exact Go.retI rfl d12_36 ⟨rfl, rfl⟩
theorem c_idxT2 (hw : HW a0 Z) (h : Heap) (a : Addr) (b : Addr) (kb : ClassId) (x0 : Int32) (x1 : Int32) (cp : Int32) (hcp : ¬ (cp = (0 : Int32))) (scp : Sta Z Z.heap "java/lang/String" "COMPACT_STRINGS" "Z" (.int cp)) (e : Exa Z h a "java/lang/String") (f : Fld Z h a "java/lang/String" "coder" "B" (.int 0)) (g : Fld Z h a "java/lang/String" "value" "[B" (.ref b)) (v : Arv Z h b kb .byte (2 : Int32) [(.int x0), (.int x1)] (.int 0)) :
    Con l M_18 jdk_42_method_80_code 3 (some .int) (rm4 2 0 0 32) Z n0 #[(.ref a), (.int 124), (.int 0)] h (fun v h' => v = some (.int (if x0 = (124 : Int32) then (0 : Int32) else (if x1 = (124 : Int32) then (1 : Int32) else (-1 : Int32)))) ∧ h = h') := by
  refine Con.of_go (plainFor_of_name pn_0) (Ls := #[.val (.ref a), .val (.int 124), .val (.int 0)]) ?_
  refine Go.aloadN (pc' := 1) d8_0 rfl rfl rfl ?_
  refine Go.callV (cells' := 0) (slots' := 0) (pc' := 4) [] [] e (ww hw 44 rfl) (ww hw 45 rfl) (nfS (ww hw 47 rfl)) (ww hw 47 rfl) (ww hw 46 rfl) (ww hw 7 rfl) (ww hw 48 rfl) (by decide) (c_isLatin1 l Z a0 hw h a cp hcp scp f) pd_3 d8_1 rfl ?_
  rintro _ _ ⟨rfl, rfl⟩
  show Go _ _ _ _ _ _ _ _ _ _ _ _ 4 _ [(.int 1)]
  refine Go.ifNo (pc' := 7) d8_4 (XT.i0_eq_f (by decide)) rfl ?_
  refine Go.aloadN (pc' := 8) d8_7 rfl rfl rfl ?_
  refine Go.getfield (pc' := 11) (host := "") (Or.inl (ww hw 28 rfl)) Via.refl g d8_8 rfl ?_
  refine Go.iloadN (pc' := 12) d8_11 rfl rfl ?_
  refine Go.iloadN (pc' := 13) d8_12 rfl rfl ?_
  refine Go.aloadN (pc' := 14) d8_13 rfl rfl rfl ?_
  refine Go.callV (cells' := 0) (slots' := 0) (pc' := 17) [] [(.int 0), (.int 124), (.ref b)] e (ww hw 50 rfl) (ww hw 51 rfl) (nfS (ww hw 53 rfl)) (ww hw 53 rfl) (ww hw 52 rfl) (ww hw 7 rfl) (ww hw 54 rfl) (by decide) (c_strLen2 l Z a0 hw h a b kb x0 x1 cp hcp scp e f g v) pd_11 d8_14 rfl ?_
  rintro _ _ ⟨rfl, rfl⟩
  show Go _ _ _ _ _ _ _ _ _ _ _ _ 17 _ [(.int 2), (.int 0), (.int 124), (.ref b)]
  refine Go.callS (cells' := 0) (slots' := 0) (pc' := 20) [(.ref b), (.int 124), (.int 0), (.int 2)] [] (ww hw 60 rfl) (ww hw 61 rfl) (ww hw 62 rfl) (ww hw 63 rfl) (by decide) (c_idxL2 l Z a0 hw h b kb x0 x1 v) pd_12 d8_17 rfl ?_
  rintro _ _ ⟨rfl, rfl⟩
  show Go _ _ _ _ _ _ _ _ _ _ _ _ 20 _ [(.int (if x0 = (124 : Int32) then (0 : Int32) else (if x1 = (124 : Int32) then (1 : Int32) else (-1 : Int32))))]
  refine Go.goto (pc' := 36) d8_20 (by decide) (by decide) ?_
  exact Go.retI rfl d8_36 ⟨rfl, rfl⟩
theorem c_idx2 (hw : HW a0 Z) (h : Heap) (a : Addr) (b : Addr) (kb : ClassId) (x0 : Int32) (x1 : Int32) (cp : Int32) (hcp : ¬ (cp = (0 : Int32))) (scp : Sta Z Z.heap "java/lang/String" "COMPACT_STRINGS" "Z" (.int cp)) (e : Exa Z h a "java/lang/String") (f : Fld Z h a "java/lang/String" "coder" "B" (.int 0)) (g : Fld Z h a "java/lang/String" "value" "[B" (.ref b)) (v : Arv Z h b kb .byte (2 : Int32) [(.int x0), (.int x1)] (.int 0)) :
    Con l M_19 jdk_42_method_79_code 2 (some .int) (rm4 3 0 0 46) Z n0 #[(.ref a), (.int 124)] h (fun v h' => v = some (.int (if x0 = (124 : Int32) then (0 : Int32) else (if x1 = (124 : Int32) then (1 : Int32) else (-1 : Int32)))) ∧ h = h') := by
  refine Con.of_go (plainFor_of_name pn_0) (Ls := #[.val (.ref a), .val (.int 124)]) ?_
  refine Go.aloadN (pc' := 1) d7_0 rfl rfl rfl ?_
  refine Go.iloadN (pc' := 2) d7_1 rfl rfl ?_
  refine Go.iconst (pc' := 3) (v := 0) d7_2 rfl rfl ?_
  refine Go.callV (cells' := 0) (slots' := 0) (pc' := 6) [(.int 124), (.int 0)] [] e (ww hw 39 rfl) (ww hw 40 rfl) (nfS (ww hw 42 rfl)) (ww hw 42 rfl) (ww hw 41 rfl) (ww hw 7 rfl) (ww hw 43 rfl) (by decide) (c_idxT2 l Z a0 hw h a b kb x0 x1 cp hcp scp e f g v) pd_10 d7_3 rfl ?_
  rintro _ _ ⟨rfl, rfl⟩
  show Go _ _ _ _ _ _ _ _ _ _ _ _ 6 _ [(.int (if x0 = (124 : Int32) then (0 : Int32) else (if x1 = (124 : Int32) then (1 : Int32) else (-1 : Int32))))]
  exact Go.retI rfl d7_6 ⟨rfl, rfl⟩
theorem c_idxChar3 (hw : HW a0 Z) (h : Heap) (b : Addr) (kb : ClassId) (x0 : Int32) (x1 : Int32) (x2 : Int32) (v : Arv Z h b kb .byte (3 : Int32) [(.int x0), (.int x1), (.int x2)] (.int 0)) :
    Con l M_20 jdk_43_method_23_code 6 (some .int) (rm4 0 0 0 0) Z n0 #[(.ref b), (.int 124), (.int 0), (.int 3)] h (fun v h' => v = some (.int (if x0 = (124 : Int32) then (0 : Int32) else (if x1 = (124 : Int32) then (1 : Int32) else (if x2 = (124 : Int32) then (2 : Int32) else (-1 : Int32))))) ∧ h = h') := by
  refine Con.of_go (plainFor_of_name pn_2) (Ls := #[.val (.ref b), .val (.int 124), .val (.int 0), .val (.int 3), .unset, .unset]) ?_
  refine Go.iloadN (pc' := 1) d23_0 rfl rfl ?_
  refine Go.i2b (pc' := 2) d23_1 rfl ?_
  show Go _ _ _ _ _ _ _ _ _ _ _ _ 2 #[.val (.ref b), .val (.int 124), .val (.int 0), .val (.int 3), .unset, .unset] [(.int 124)]
  refine Go.istore (pc' := 4) (Ls' := #[.val (.ref b), .val (.int 124), .val (.int 0), .val (.int 3), .val (.int 124), .unset]) d23_2 rfl rfl ?_
  refine Go.iloadN (pc' := 5) d23_4 rfl rfl ?_
  refine Go.istore (pc' := 7) (Ls' := #[.val (.ref b), .val (.int 124), .val (.int 0), .val (.int 3), .val (.int 124), .val (.int 0)]) d23_5 rfl rfl ?_
  refine Go.iload (pc' := 9) d23_7 rfl rfl ?_
  refine Go.iloadN (pc' := 10) d23_9 rfl rfl ?_
  refine Go.icmpNo (pc' := 13) d23_10 (XT.ii_ge_f (by decide)) rfl ?_
  refine Go.aloadN (pc' := 14) d23_13 rfl rfl rfl ?_
  refine Go.iload (pc' := 16) d23_14 rfl rfl ?_
  refine Go.baload (pc' := 17) (v := x0) v d23_16 (by decide) (by decide) rfl rfl ?_
  refine Go.iload (pc' := 19) d23_17 rfl rfl ?_
  by_cases hc1 : x0 = (124 : Int32)
  ·
    refine Go.icmpNo (pc' := 22) d23_19 (XT.ii_ne_f hc1) rfl ?_
    refine Go.iload (pc' := 24) d23_22 rfl rfl ?_
    exact Go.retI rfl d23_24 ⟨(by rw [if_pos hc1]), rfl⟩
  ·
    refine Go.icmpYes (pc' := 25) d23_19 (XT.ii_ne_t hc1) (by decide) (by decide) ?_
    refine Go.iinc (pc' := 28) (Ls' := #[.val (.ref b), .val (.int 124), .val (.int 0), .val (.int 3), .val (.int 124), .val (.int ((0 : Int32) + (1 : Int32)))]) (w := (1 : Int32)) d23_25 rfl rfl rfl rfl ?_
    show Go _ _ _ _ _ _ _ _ _ _ _ _ 28 #[.val (.ref b), .val (.int 124), .val (.int 0), .val (.int 3), .val (.int 124), .val (.int 1)] []
    refine Go.goto (pc' := 7) d23_28 (by decide) (by decide) ?_
    refine Go.iload (pc' := 9) d23_7 rfl rfl ?_
    refine Go.iloadN (pc' := 10) d23_9 rfl rfl ?_
    refine Go.icmpNo (pc' := 13) d23_10 (XT.ii_ge_f (by decide)) rfl ?_
    refine Go.aloadN (pc' := 14) d23_13 rfl rfl rfl ?_
    refine Go.iload (pc' := 16) d23_14 rfl rfl ?_
    refine Go.baload (pc' := 17) (v := x1) v d23_16 (by decide) (by decide) rfl rfl ?_
    refine Go.iload (pc' := 19) d23_17 rfl rfl ?_
    by_cases hc2 : x1 = (124 : Int32)
    ·
      refine Go.icmpNo (pc' := 22) d23_19 (XT.ii_ne_f hc2) rfl ?_
      refine Go.iload (pc' := 24) d23_22 rfl rfl ?_
      exact Go.retI rfl d23_24 ⟨(by rw [if_neg hc1, if_pos hc2]), rfl⟩
    ·
      refine Go.icmpYes (pc' := 25) d23_19 (XT.ii_ne_t hc2) (by decide) (by decide) ?_
      refine Go.iinc (pc' := 28) (Ls' := #[.val (.ref b), .val (.int 124), .val (.int 0), .val (.int 3), .val (.int 124), .val (.int ((1 : Int32) + (1 : Int32)))]) (w := (1 : Int32)) d23_25 rfl rfl rfl rfl ?_
      show Go _ _ _ _ _ _ _ _ _ _ _ _ 28 #[.val (.ref b), .val (.int 124), .val (.int 0), .val (.int 3), .val (.int 124), .val (.int 2)] []
      refine Go.goto (pc' := 7) d23_28 (by decide) (by decide) ?_
      refine Go.iload (pc' := 9) d23_7 rfl rfl ?_
      refine Go.iloadN (pc' := 10) d23_9 rfl rfl ?_
      refine Go.icmpNo (pc' := 13) d23_10 (XT.ii_ge_f (by decide)) rfl ?_
      refine Go.aloadN (pc' := 14) d23_13 rfl rfl rfl ?_
      refine Go.iload (pc' := 16) d23_14 rfl rfl ?_
      refine Go.baload (pc' := 17) (v := x2) v d23_16 (by decide) (by decide) rfl rfl ?_
      refine Go.iload (pc' := 19) d23_17 rfl rfl ?_
      by_cases hc3 : x2 = (124 : Int32)
      ·
        refine Go.icmpNo (pc' := 22) d23_19 (XT.ii_ne_f hc3) rfl ?_
        refine Go.iload (pc' := 24) d23_22 rfl rfl ?_
        exact Go.retI rfl d23_24 ⟨(by rw [if_neg hc1, if_neg hc2, if_pos hc3]), rfl⟩
      ·
        refine Go.icmpYes (pc' := 25) d23_19 (XT.ii_ne_t hc3) (by decide) (by decide) ?_
        refine Go.iinc (pc' := 28) (Ls' := #[.val (.ref b), .val (.int 124), .val (.int 0), .val (.int 3), .val (.int 124), .val (.int ((2 : Int32) + (1 : Int32)))]) (w := (1 : Int32)) d23_25 rfl rfl rfl rfl ?_
        show Go _ _ _ _ _ _ _ _ _ _ _ _ 28 #[.val (.ref b), .val (.int 124), .val (.int 0), .val (.int 3), .val (.int 124), .val (.int 3)] []
        refine Go.goto (pc' := 7) d23_28 (by decide) (by decide) ?_
        refine Go.iload (pc' := 9) d23_7 rfl rfl ?_
        refine Go.iloadN (pc' := 10) d23_9 rfl rfl ?_
        refine Go.icmpYes (pc' := 31) d23_10 (XT.ii_ge_t (by decide)) (by decide) (by decide) ?_
        refine Go.iconst (pc' := 32) (v := (-1 : Int32)) d23_31 rfl rfl ?_
        exact Go.retI rfl d23_32 ⟨(by rw [if_neg hc1, if_neg hc2, if_neg hc3]), rfl⟩
theorem c_min3_3 (hw : HW a0 Z) (h : Heap) :
    Con l M_16 jdk_29_method_69_code 2 (some .int) (rm4 0 0 0 0) Z n0 #[(.int 3), (.int 3)] h (fun v h' => v = some (.int 3) ∧ h = h') := by
  refine Con.of_go (Jvm.Free.JP.mathPlain rfl (by decide +kernel)) (Ls := #[.val (.int 3), .val (.int 3)]) ?_
  refine Go.iloadN (pc' := 1) d15_0 rfl rfl ?_
  refine Go.iloadN (pc' := 2) d15_1 rfl rfl ?_
  refine Go.icmpNo (pc' := 5) d15_2 (XT.ii_gt_f (by decide)) rfl ?_
  refine Go.iloadN (pc' := 6) d15_5 rfl rfl ?_
  refine Go.goto (pc' := 10) d15_6 (by decide) (by decide) ?_
  exact Go.retI rfl d15_10 ⟨rfl, rfl⟩
theorem c_idxL3 (hw : HW a0 Z) (h : Heap) (b : Addr) (kb : ClassId) (x0 : Int32) (x1 : Int32) (x2 : Int32) (v : Arv Z h b kb .byte (3 : Int32) [(.int x0), (.int x1), (.int x2)] (.int 0)) :
    Con l M_17 jdk_43_method_22_code 4 (some .int) (rm4 1 0 0 17) Z n0 #[(.ref b), (.int 124), (.int 0), (.int 3)] h (fun v h' => v = some (.int (if x0 = (124 : Int32) then (0 : Int32) else (if x1 = (124 : Int32) then (1 : Int32) else (if x2 = (124 : Int32) then (2 : Int32) else (-1 : Int32))))) ∧ h = h') := by
  refine Con.of_go (plainFor_of_name pn_2) (Ls := #[.val (.ref b), .val (.int 124), .val (.int 0), .val (.int 3)]) ?_
  refine Go.iloadN (pc' := 1) d12_0 rfl rfl ?_
  refine Go.callS (cells' := 0) (slots' := 0) (pc' := 4) [(.int 124)] [] (ww hw 64 rfl) (ww hw 65 rfl) (ww hw 62 rfl) (ww hw 66 rfl) (by decide) (c_canEnc l Z a0 hw h) pd_9 d12_1 rfl ?_
  rintro _ _ ⟨rfl, rfl⟩
  show Go _ _ _ _ _ _ _ _ _ _ _ _ 4 _ [(.int 1)]
  refine Go.ifYes (pc' := 9) d12_4 (XT.i0_ne_t (by decide)) (by decide) (by decide) ?_
  refine Go.iloadN (pc' := 10) d12_9 rfl rfl ?_
  refine Go.iconst (pc' := 11) (v := 0) d12_10 rfl rfl ?_
  refine Go.callS (cells' := 0) (slots' := 0) (pc' := 14) [(.int 0), (.int 0)] [] (ww hw 67 rfl) (ww hw 68 rfl) (ww hw 69 rfl) (ww hw 70 rfl) (by decide) (c_max0 l Z a0 hw h) pd_10 d12_11 rfl ?_
  rintro _ _ ⟨rfl, rfl⟩
  show Go _ _ _ _ _ _ _ _ _ _ _ _ 14 _ [(.int 0)]
  refine Go.istoreN (pc' := 15) (Ls' := #[.val (.ref b), .val (.int 124), .val (.int 0), .val (.int 3)]) d12_14 rfl rfl ?_
  refine Go.iloadN (pc' := 16) d12_15 rfl rfl ?_
  refine Go.aloadN (pc' := 17) d12_16 rfl rfl rfl ?_
  refine Go.arraylength (pc' := 18) v d12_17 rfl ?_
  refine Go.callS (cells' := 0) (slots' := 0) (pc' := 21) [(.int 3), (.int 3)] [] (ww hw 71 rfl) (ww hw 72 rfl) (ww hw 69 rfl) (ww hw 73 rfl) (by decide) (c_min3_3 l Z a0 hw h) pd_10 d12_18 rfl ?_
  rintro _ _ ⟨rfl, rfl⟩
  show Go _ _ _ _ _ _ _ _ _ _ _ _ 21 _ [(.int 3)]
  refine Go.istoreN (pc' := 22) (Ls' := #[.val (.ref b), .val (.int 124), .val (.int 0), .val (.int 3)]) d12_21 rfl rfl ?_
  refine Go.iloadN (pc' := 23) d12_22 rfl rfl ?_
  refine Go.iloadN (pc' := 24) d12_23 rfl rfl ?_
  refine Go.icmpYes (pc' := 29) d12_24 (XT.ii_lt_t (by decide)) (by decide) (by decide) ?_
  refine Go.aloadN (pc' := 30) d12_29 rfl rfl rfl ?_
  refine Go.iloadN (pc' := 31) d12_30 rfl rfl ?_
  refine Go.iloadN (pc' := 32) d12_31 rfl rfl ?_
  refine Go.iloadN (pc' := 33) d12_32 rfl rfl ?_
  refine Go.callS (cells' := 0) (slots' := 0) (pc' := 36) [(.ref b), (.int 124), (.int 0), (.int 3)] [] (ww hw 109 rfl) (ww hw 110 rfl) (ww hw 62 rfl) (ww hw 111 rfl) (by decide) (c_idxChar3 l Z a0 hw h b kb x0 x1 x2 v) pd_12 d12_33 rfl ?_
  rintro _ _ ⟨rfl, rfl⟩
  show Go _ _ _ _ _ _ _ _ _ _ _ _ 36 _ [(.int (if x0 = (124 : Int32) then (0 : Int32) else (if x1 = (124 : Int32) then (1 : Int32) else (if x2 = (124 : Int32) then (2 : Int32) else (-1 : Int32)))))]
  exact Go.retI rfl d12_36 ⟨rfl, rfl⟩
theorem c_idxT3 (hw : HW a0 Z) (h : Heap) (a : Addr) (b : Addr) (kb : ClassId) (x0 : Int32) (x1 : Int32) (x2 : Int32) (cp : Int32) (hcp : ¬ (cp = (0 : Int32))) (scp : Sta Z Z.heap "java/lang/String" "COMPACT_STRINGS" "Z" (.int cp)) (e : Exa Z h a "java/lang/String") (f : Fld Z h a "java/lang/String" "coder" "B" (.int 0)) (g : Fld Z h a "java/lang/String" "value" "[B" (.ref b)) (v : Arv Z h b kb .byte (3 : Int32) [(.int x0), (.int x1), (.int x2)] (.int 0)) :
    Con l M_18 jdk_42_method_80_code 3 (some .int) (rm4 2 0 0 32) Z n0 #[(.ref a), (.int 124), (.int 0)] h (fun v h' => v = some (.int (if x0 = (124 : Int32) then (0 : Int32) else (if x1 = (124 : Int32) then (1 : Int32) else (if x2 = (124 : Int32) then (2 : Int32) else (-1 : Int32))))) ∧ h = h') := by
  refine Con.of_go (plainFor_of_name pn_0) (Ls := #[.val (.ref a), .val (.int 124), .val (.int 0)]) ?_
  refine Go.aloadN (pc' := 1) d8_0 rfl rfl rfl ?_
  refine Go.callV (cells' := 0) (slots' := 0) (pc' := 4) [] [] e (ww hw 44 rfl) (ww hw 45 rfl) (nfS (ww hw 47 rfl)) (ww hw 47 rfl) (ww hw 46 rfl) (ww hw 7 rfl) (ww hw 48 rfl) (by decide) (c_isLatin1 l Z a0 hw h a cp hcp scp f) pd_3 d8_1 rfl ?_
  rintro _ _ ⟨rfl, rfl⟩
  show Go _ _ _ _ _ _ _ _ _ _ _ _ 4 _ [(.int 1)]
  refine Go.ifNo (pc' := 7) d8_4 (XT.i0_eq_f (by decide)) rfl ?_
  refine Go.aloadN (pc' := 8) d8_7 rfl rfl rfl ?_
  refine Go.getfield (pc' := 11) (host := "") (Or.inl (ww hw 28 rfl)) Via.refl g d8_8 rfl ?_
  refine Go.iloadN (pc' := 12) d8_11 rfl rfl ?_
  refine Go.iloadN (pc' := 13) d8_12 rfl rfl ?_
  refine Go.aloadN (pc' := 14) d8_13 rfl rfl rfl ?_
  refine Go.callV (cells' := 0) (slots' := 0) (pc' := 17) [] [(.int 0), (.int 124), (.ref b)] e (ww hw 50 rfl) (ww hw 51 rfl) (nfS (ww hw 53 rfl)) (ww hw 53 rfl) (ww hw 52 rfl) (ww hw 7 rfl) (ww hw 54 rfl) (by decide) (c_strLen3 l Z a0 hw h a b kb x0 x1 x2 cp hcp scp e f g v) pd_11 d8_14 rfl ?_
  rintro _ _ ⟨rfl, rfl⟩
  show Go _ _ _ _ _ _ _ _ _ _ _ _ 17 _ [(.int 3), (.int 0), (.int 124), (.ref b)]
  refine Go.callS (cells' := 0) (slots' := 0) (pc' := 20) [(.ref b), (.int 124), (.int 0), (.int 3)] [] (ww hw 60 rfl) (ww hw 61 rfl) (ww hw 62 rfl) (ww hw 63 rfl) (by decide) (c_idxL3 l Z a0 hw h b kb x0 x1 x2 v) pd_12 d8_17 rfl ?_
  rintro _ _ ⟨rfl, rfl⟩
  show Go _ _ _ _ _ _ _ _ _ _ _ _ 20 _ [(.int (if x0 = (124 : Int32) then (0 : Int32) else (if x1 = (124 : Int32) then (1 : Int32) else (if x2 = (124 : Int32) then (2 : Int32) else (-1 : Int32)))))]
  refine Go.goto (pc' := 36) d8_20 (by decide) (by decide) ?_
  exact Go.retI rfl d8_36 ⟨rfl, rfl⟩
theorem c_idx3 (hw : HW a0 Z) (h : Heap) (a : Addr) (b : Addr) (kb : ClassId) (x0 : Int32) (x1 : Int32) (x2 : Int32) (cp : Int32) (hcp : ¬ (cp = (0 : Int32))) (scp : Sta Z Z.heap "java/lang/String" "COMPACT_STRINGS" "Z" (.int cp)) (e : Exa Z h a "java/lang/String") (f : Fld Z h a "java/lang/String" "coder" "B" (.int 0)) (g : Fld Z h a "java/lang/String" "value" "[B" (.ref b)) (v : Arv Z h b kb .byte (3 : Int32) [(.int x0), (.int x1), (.int x2)] (.int 0)) :
    Con l M_19 jdk_42_method_79_code 2 (some .int) (rm4 3 0 0 46) Z n0 #[(.ref a), (.int 124)] h (fun v h' => v = some (.int (if x0 = (124 : Int32) then (0 : Int32) else (if x1 = (124 : Int32) then (1 : Int32) else (if x2 = (124 : Int32) then (2 : Int32) else (-1 : Int32))))) ∧ h = h') := by
  refine Con.of_go (plainFor_of_name pn_0) (Ls := #[.val (.ref a), .val (.int 124)]) ?_
  refine Go.aloadN (pc' := 1) d7_0 rfl rfl rfl ?_
  refine Go.iloadN (pc' := 2) d7_1 rfl rfl ?_
  refine Go.iconst (pc' := 3) (v := 0) d7_2 rfl rfl ?_
  refine Go.callV (cells' := 0) (slots' := 0) (pc' := 6) [(.int 124), (.int 0)] [] e (ww hw 39 rfl) (ww hw 40 rfl) (nfS (ww hw 42 rfl)) (ww hw 42 rfl) (ww hw 41 rfl) (ww hw 7 rfl) (ww hw 43 rfl) (by decide) (c_idxT3 l Z a0 hw h a b kb x0 x1 x2 cp hcp scp e f g v) pd_10 d7_3 rfl ?_
  rintro _ _ ⟨rfl, rfl⟩
  show Go _ _ _ _ _ _ _ _ _ _ _ _ 6 _ [(.int (if x0 = (124 : Int32) then (0 : Int32) else (if x1 = (124 : Int32) then (1 : Int32) else (if x2 = (124 : Int32) then (2 : Int32) else (-1 : Int32)))))]
  exact Go.retI rfl d7_6 ⟨rfl, rfl⟩
theorem c_idxChar4 (hw : HW a0 Z) (h : Heap) (b : Addr) (kb : ClassId) (x0 : Int32) (x1 : Int32) (x2 : Int32) (x3 : Int32) (v : Arv Z h b kb .byte (4 : Int32) [(.int x0), (.int x1), (.int x2), (.int x3)] (.int 0)) :
    Con l M_20 jdk_43_method_23_code 6 (some .int) (rm4 0 0 0 0) Z n0 #[(.ref b), (.int 124), (.int 0), (.int 4)] h (fun v h' => v = some (.int (if x0 = (124 : Int32) then (0 : Int32) else (if x1 = (124 : Int32) then (1 : Int32) else (if x2 = (124 : Int32) then (2 : Int32) else (if x3 = (124 : Int32) then (3 : Int32) else (-1 : Int32)))))) ∧ h = h') := by
  refine Con.of_go (plainFor_of_name pn_2) (Ls := #[.val (.ref b), .val (.int 124), .val (.int 0), .val (.int 4), .unset, .unset]) ?_
  refine Go.iloadN (pc' := 1) d23_0 rfl rfl ?_
  refine Go.i2b (pc' := 2) d23_1 rfl ?_
  show Go _ _ _ _ _ _ _ _ _ _ _ _ 2 #[.val (.ref b), .val (.int 124), .val (.int 0), .val (.int 4), .unset, .unset] [(.int 124)]
  refine Go.istore (pc' := 4) (Ls' := #[.val (.ref b), .val (.int 124), .val (.int 0), .val (.int 4), .val (.int 124), .unset]) d23_2 rfl rfl ?_
  refine Go.iloadN (pc' := 5) d23_4 rfl rfl ?_
  refine Go.istore (pc' := 7) (Ls' := #[.val (.ref b), .val (.int 124), .val (.int 0), .val (.int 4), .val (.int 124), .val (.int 0)]) d23_5 rfl rfl ?_
  refine Go.iload (pc' := 9) d23_7 rfl rfl ?_
  refine Go.iloadN (pc' := 10) d23_9 rfl rfl ?_
  refine Go.icmpNo (pc' := 13) d23_10 (XT.ii_ge_f (by decide)) rfl ?_
  refine Go.aloadN (pc' := 14) d23_13 rfl rfl rfl ?_
  refine Go.iload (pc' := 16) d23_14 rfl rfl ?_
  refine Go.baload (pc' := 17) (v := x0) v d23_16 (by decide) (by decide) rfl rfl ?_
  refine Go.iload (pc' := 19) d23_17 rfl rfl ?_
  by_cases hc1 : x0 = (124 : Int32)
  ·
    refine Go.icmpNo (pc' := 22) d23_19 (XT.ii_ne_f hc1) rfl ?_
    refine Go.iload (pc' := 24) d23_22 rfl rfl ?_
    exact Go.retI rfl d23_24 ⟨(by rw [if_pos hc1]), rfl⟩
  ·
    refine Go.icmpYes (pc' := 25) d23_19 (XT.ii_ne_t hc1) (by decide) (by decide) ?_
    refine Go.iinc (pc' := 28) (Ls' := #[.val (.ref b), .val (.int 124), .val (.int 0), .val (.int 4), .val (.int 124), .val (.int ((0 : Int32) + (1 : Int32)))]) (w := (1 : Int32)) d23_25 rfl rfl rfl rfl ?_
    show Go _ _ _ _ _ _ _ _ _ _ _ _ 28 #[.val (.ref b), .val (.int 124), .val (.int 0), .val (.int 4), .val (.int 124), .val (.int 1)] []
    refine Go.goto (pc' := 7) d23_28 (by decide) (by decide) ?_
    refine Go.iload (pc' := 9) d23_7 rfl rfl ?_
    refine Go.iloadN (pc' := 10) d23_9 rfl rfl ?_
    refine Go.icmpNo (pc' := 13) d23_10 (XT.ii_ge_f (by decide)) rfl ?_
    refine Go.aloadN (pc' := 14) d23_13 rfl rfl rfl ?_
    refine Go.iload (pc' := 16) d23_14 rfl rfl ?_
    refine Go.baload (pc' := 17) (v := x1) v d23_16 (by decide) (by decide) rfl rfl ?_
    refine Go.iload (pc' := 19) d23_17 rfl rfl ?_
    by_cases hc2 : x1 = (124 : Int32)
    ·
      refine Go.icmpNo (pc' := 22) d23_19 (XT.ii_ne_f hc2) rfl ?_
      refine Go.iload (pc' := 24) d23_22 rfl rfl ?_
      exact Go.retI rfl d23_24 ⟨(by rw [if_neg hc1, if_pos hc2]), rfl⟩
    ·
      refine Go.icmpYes (pc' := 25) d23_19 (XT.ii_ne_t hc2) (by decide) (by decide) ?_
      refine Go.iinc (pc' := 28) (Ls' := #[.val (.ref b), .val (.int 124), .val (.int 0), .val (.int 4), .val (.int 124), .val (.int ((1 : Int32) + (1 : Int32)))]) (w := (1 : Int32)) d23_25 rfl rfl rfl rfl ?_
      show Go _ _ _ _ _ _ _ _ _ _ _ _ 28 #[.val (.ref b), .val (.int 124), .val (.int 0), .val (.int 4), .val (.int 124), .val (.int 2)] []
      refine Go.goto (pc' := 7) d23_28 (by decide) (by decide) ?_
      refine Go.iload (pc' := 9) d23_7 rfl rfl ?_
      refine Go.iloadN (pc' := 10) d23_9 rfl rfl ?_
      refine Go.icmpNo (pc' := 13) d23_10 (XT.ii_ge_f (by decide)) rfl ?_
      refine Go.aloadN (pc' := 14) d23_13 rfl rfl rfl ?_
      refine Go.iload (pc' := 16) d23_14 rfl rfl ?_
      refine Go.baload (pc' := 17) (v := x2) v d23_16 (by decide) (by decide) rfl rfl ?_
      refine Go.iload (pc' := 19) d23_17 rfl rfl ?_
      by_cases hc3 : x2 = (124 : Int32)
      ·
        refine Go.icmpNo (pc' := 22) d23_19 (XT.ii_ne_f hc3) rfl ?_
        refine Go.iload (pc' := 24) d23_22 rfl rfl ?_
        exact Go.retI rfl d23_24 ⟨(by rw [if_neg hc1, if_neg hc2, if_pos hc3]), rfl⟩
      ·
        refine Go.icmpYes (pc' := 25) d23_19 (XT.ii_ne_t hc3) (by decide) (by decide) ?_
        refine Go.iinc (pc' := 28) (Ls' := #[.val (.ref b), .val (.int 124), .val (.int 0), .val (.int 4), .val (.int 124), .val (.int ((2 : Int32) + (1 : Int32)))]) (w := (1 : Int32)) d23_25 rfl rfl rfl rfl ?_
        show Go _ _ _ _ _ _ _ _ _ _ _ _ 28 #[.val (.ref b), .val (.int 124), .val (.int 0), .val (.int 4), .val (.int 124), .val (.int 3)] []
        refine Go.goto (pc' := 7) d23_28 (by decide) (by decide) ?_
        refine Go.iload (pc' := 9) d23_7 rfl rfl ?_
        refine Go.iloadN (pc' := 10) d23_9 rfl rfl ?_
        refine Go.icmpNo (pc' := 13) d23_10 (XT.ii_ge_f (by decide)) rfl ?_
        refine Go.aloadN (pc' := 14) d23_13 rfl rfl rfl ?_
        refine Go.iload (pc' := 16) d23_14 rfl rfl ?_
        refine Go.baload (pc' := 17) (v := x3) v d23_16 (by decide) (by decide) rfl rfl ?_
        refine Go.iload (pc' := 19) d23_17 rfl rfl ?_
        by_cases hc4 : x3 = (124 : Int32)
        ·
          refine Go.icmpNo (pc' := 22) d23_19 (XT.ii_ne_f hc4) rfl ?_
          refine Go.iload (pc' := 24) d23_22 rfl rfl ?_
          exact Go.retI rfl d23_24 ⟨(by rw [if_neg hc1, if_neg hc2, if_neg hc3, if_pos hc4]), rfl⟩
        ·
          refine Go.icmpYes (pc' := 25) d23_19 (XT.ii_ne_t hc4) (by decide) (by decide) ?_
          refine Go.iinc (pc' := 28) (Ls' := #[.val (.ref b), .val (.int 124), .val (.int 0), .val (.int 4), .val (.int 124), .val (.int ((3 : Int32) + (1 : Int32)))]) (w := (1 : Int32)) d23_25 rfl rfl rfl rfl ?_
          show Go _ _ _ _ _ _ _ _ _ _ _ _ 28 #[.val (.ref b), .val (.int 124), .val (.int 0), .val (.int 4), .val (.int 124), .val (.int 4)] []
          refine Go.goto (pc' := 7) d23_28 (by decide) (by decide) ?_
          refine Go.iload (pc' := 9) d23_7 rfl rfl ?_
          refine Go.iloadN (pc' := 10) d23_9 rfl rfl ?_
          refine Go.icmpYes (pc' := 31) d23_10 (XT.ii_ge_t (by decide)) (by decide) (by decide) ?_
          refine Go.iconst (pc' := 32) (v := (-1 : Int32)) d23_31 rfl rfl ?_
          exact Go.retI rfl d23_32 ⟨(by rw [if_neg hc1, if_neg hc2, if_neg hc3, if_neg hc4]), rfl⟩
theorem c_min4_4 (hw : HW a0 Z) (h : Heap) :
    Con l M_16 jdk_29_method_69_code 2 (some .int) (rm4 0 0 0 0) Z n0 #[(.int 4), (.int 4)] h (fun v h' => v = some (.int 4) ∧ h = h') := by
  refine Con.of_go (Jvm.Free.JP.mathPlain rfl (by decide +kernel)) (Ls := #[.val (.int 4), .val (.int 4)]) ?_
  refine Go.iloadN (pc' := 1) d15_0 rfl rfl ?_
  refine Go.iloadN (pc' := 2) d15_1 rfl rfl ?_
  refine Go.icmpNo (pc' := 5) d15_2 (XT.ii_gt_f (by decide)) rfl ?_
  refine Go.iloadN (pc' := 6) d15_5 rfl rfl ?_
  refine Go.goto (pc' := 10) d15_6 (by decide) (by decide) ?_
  exact Go.retI rfl d15_10 ⟨rfl, rfl⟩
theorem c_idxL4 (hw : HW a0 Z) (h : Heap) (b : Addr) (kb : ClassId) (x0 : Int32) (x1 : Int32) (x2 : Int32) (x3 : Int32) (v : Arv Z h b kb .byte (4 : Int32) [(.int x0), (.int x1), (.int x2), (.int x3)] (.int 0)) :
    Con l M_17 jdk_43_method_22_code 4 (some .int) (rm4 1 0 0 17) Z n0 #[(.ref b), (.int 124), (.int 0), (.int 4)] h (fun v h' => v = some (.int (if x0 = (124 : Int32) then (0 : Int32) else (if x1 = (124 : Int32) then (1 : Int32) else (if x2 = (124 : Int32) then (2 : Int32) else (if x3 = (124 : Int32) then (3 : Int32) else (-1 : Int32)))))) ∧ h = h') := by
  refine Con.of_go (plainFor_of_name pn_2) (Ls := #[.val (.ref b), .val (.int 124), .val (.int 0), .val (.int 4)]) ?_
  refine Go.iloadN (pc' := 1) d12_0 rfl rfl ?_
  refine Go.callS (cells' := 0) (slots' := 0) (pc' := 4) [(.int 124)] [] (ww hw 64 rfl) (ww hw 65 rfl) (ww hw 62 rfl) (ww hw 66 rfl) (by decide) (c_canEnc l Z a0 hw h) pd_9 d12_1 rfl ?_
  rintro _ _ ⟨rfl, rfl⟩
  show Go _ _ _ _ _ _ _ _ _ _ _ _ 4 _ [(.int 1)]
  refine Go.ifYes (pc' := 9) d12_4 (XT.i0_ne_t (by decide)) (by decide) (by decide) ?_
  refine Go.iloadN (pc' := 10) d12_9 rfl rfl ?_
  refine Go.iconst (pc' := 11) (v := 0) d12_10 rfl rfl ?_
  refine Go.callS (cells' := 0) (slots' := 0) (pc' := 14) [(.int 0), (.int 0)] [] (ww hw 67 rfl) (ww hw 68 rfl) (ww hw 69 rfl) (ww hw 70 rfl) (by decide) (c_max0 l Z a0 hw h) pd_10 d12_11 rfl ?_
  rintro _ _ ⟨rfl, rfl⟩
  show Go _ _ _ _ _ _ _ _ _ _ _ _ 14 _ [(.int 0)]
  refine Go.istoreN (pc' := 15) (Ls' := #[.val (.ref b), .val (.int 124), .val (.int 0), .val (.int 4)]) d12_14 rfl rfl ?_
  refine Go.iloadN (pc' := 16) d12_15 rfl rfl ?_
  refine Go.aloadN (pc' := 17) d12_16 rfl rfl rfl ?_
  refine Go.arraylength (pc' := 18) v d12_17 rfl ?_
  refine Go.callS (cells' := 0) (slots' := 0) (pc' := 21) [(.int 4), (.int 4)] [] (ww hw 71 rfl) (ww hw 72 rfl) (ww hw 69 rfl) (ww hw 73 rfl) (by decide) (c_min4_4 l Z a0 hw h) pd_10 d12_18 rfl ?_
  rintro _ _ ⟨rfl, rfl⟩
  show Go _ _ _ _ _ _ _ _ _ _ _ _ 21 _ [(.int 4)]
  refine Go.istoreN (pc' := 22) (Ls' := #[.val (.ref b), .val (.int 124), .val (.int 0), .val (.int 4)]) d12_21 rfl rfl ?_
  refine Go.iloadN (pc' := 23) d12_22 rfl rfl ?_
  refine Go.iloadN (pc' := 24) d12_23 rfl rfl ?_
  refine Go.icmpYes (pc' := 29) d12_24 (XT.ii_lt_t (by decide)) (by decide) (by decide) ?_
  refine Go.aloadN (pc' := 30) d12_29 rfl rfl rfl ?_
  refine Go.iloadN (pc' := 31) d12_30 rfl rfl ?_
  refine Go.iloadN (pc' := 32) d12_31 rfl rfl ?_
  refine Go.iloadN (pc' := 33) d12_32 rfl rfl ?_
  refine Go.callS (cells' := 0) (slots' := 0) (pc' := 36) [(.ref b), (.int 124), (.int 0), (.int 4)] [] (ww hw 109 rfl) (ww hw 110 rfl) (ww hw 62 rfl) (ww hw 111 rfl) (by decide) (c_idxChar4 l Z a0 hw h b kb x0 x1 x2 x3 v) pd_12 d12_33 rfl ?_
  rintro _ _ ⟨rfl, rfl⟩
  show Go _ _ _ _ _ _ _ _ _ _ _ _ 36 _ [(.int (if x0 = (124 : Int32) then (0 : Int32) else (if x1 = (124 : Int32) then (1 : Int32) else (if x2 = (124 : Int32) then (2 : Int32) else (if x3 = (124 : Int32) then (3 : Int32) else (-1 : Int32))))))]
  exact Go.retI rfl d12_36 ⟨rfl, rfl⟩
theorem c_idxT4 (hw : HW a0 Z) (h : Heap) (a : Addr) (b : Addr) (kb : ClassId) (x0 : Int32) (x1 : Int32) (x2 : Int32) (x3 : Int32) (cp : Int32) (hcp : ¬ (cp = (0 : Int32))) (scp : Sta Z Z.heap "java/lang/String" "COMPACT_STRINGS" "Z" (.int cp)) (e : Exa Z h a "java/lang/String") (f : Fld Z h a "java/lang/String" "coder" "B" (.int 0)) (g : Fld Z h a "java/lang/String" "value" "[B" (.ref b)) (v : Arv Z h b kb .byte (4 : Int32) [(.int x0), (.int x1), (.int x2), (.int x3)] (.int 0)) :
    Con l M_18 jdk_42_method_80_code 3 (some .int) (rm4 2 0 0 32) Z n0 #[(.ref a), (.int 124), (.int 0)] h (fun v h' => v = some (.int (if x0 = (124 : Int32) then (0 : Int32) else (if x1 = (124 : Int32) then (1 : Int32) else (if x2 = (124 : Int32) then (2 : Int32) else (if x3 = (124 : Int32) then (3 : Int32) else (-1 : Int32)))))) ∧ h = h') := by
  refine Con.of_go (plainFor_of_name pn_0) (Ls := #[.val (.ref a), .val (.int 124), .val (.int 0)]) ?_
  refine Go.aloadN (pc' := 1) d8_0 rfl rfl rfl ?_
  refine Go.callV (cells' := 0) (slots' := 0) (pc' := 4) [] [] e (ww hw 44 rfl) (ww hw 45 rfl) (nfS (ww hw 47 rfl)) (ww hw 47 rfl) (ww hw 46 rfl) (ww hw 7 rfl) (ww hw 48 rfl) (by decide) (c_isLatin1 l Z a0 hw h a cp hcp scp f) pd_3 d8_1 rfl ?_
  rintro _ _ ⟨rfl, rfl⟩
  show Go _ _ _ _ _ _ _ _ _ _ _ _ 4 _ [(.int 1)]
  refine Go.ifNo (pc' := 7) d8_4 (XT.i0_eq_f (by decide)) rfl ?_
  refine Go.aloadN (pc' := 8) d8_7 rfl rfl rfl ?_
  refine Go.getfield (pc' := 11) (host := "") (Or.inl (ww hw 28 rfl)) Via.refl g d8_8 rfl ?_
  refine Go.iloadN (pc' := 12) d8_11 rfl rfl ?_
  refine Go.iloadN (pc' := 13) d8_12 rfl rfl ?_
  refine Go.aloadN (pc' := 14) d8_13 rfl rfl rfl ?_
  refine Go.callV (cells' := 0) (slots' := 0) (pc' := 17) [] [(.int 0), (.int 124), (.ref b)] e (ww hw 50 rfl) (ww hw 51 rfl) (nfS (ww hw 53 rfl)) (ww hw 53 rfl) (ww hw 52 rfl) (ww hw 7 rfl) (ww hw 54 rfl) (by decide) (c_strLen4 l Z a0 hw h a b kb x0 x1 x2 x3 cp hcp scp e f g v) pd_11 d8_14 rfl ?_
  rintro _ _ ⟨rfl, rfl⟩
  show Go _ _ _ _ _ _ _ _ _ _ _ _ 17 _ [(.int 4), (.int 0), (.int 124), (.ref b)]
  refine Go.callS (cells' := 0) (slots' := 0) (pc' := 20) [(.ref b), (.int 124), (.int 0), (.int 4)] [] (ww hw 60 rfl) (ww hw 61 rfl) (ww hw 62 rfl) (ww hw 63 rfl) (by decide) (c_idxL4 l Z a0 hw h b kb x0 x1 x2 x3 v) pd_12 d8_17 rfl ?_
  rintro _ _ ⟨rfl, rfl⟩
  show Go _ _ _ _ _ _ _ _ _ _ _ _ 20 _ [(.int (if x0 = (124 : Int32) then (0 : Int32) else (if x1 = (124 : Int32) then (1 : Int32) else (if x2 = (124 : Int32) then (2 : Int32) else (if x3 = (124 : Int32) then (3 : Int32) else (-1 : Int32))))))]
  refine Go.goto (pc' := 36) d8_20 (by decide) (by decide) ?_
  exact Go.retI rfl d8_36 ⟨rfl, rfl⟩
theorem c_idx4 (hw : HW a0 Z) (h : Heap) (a : Addr) (b : Addr) (kb : ClassId) (x0 : Int32) (x1 : Int32) (x2 : Int32) (x3 : Int32) (cp : Int32) (hcp : ¬ (cp = (0 : Int32))) (scp : Sta Z Z.heap "java/lang/String" "COMPACT_STRINGS" "Z" (.int cp)) (e : Exa Z h a "java/lang/String") (f : Fld Z h a "java/lang/String" "coder" "B" (.int 0)) (g : Fld Z h a "java/lang/String" "value" "[B" (.ref b)) (v : Arv Z h b kb .byte (4 : Int32) [(.int x0), (.int x1), (.int x2), (.int x3)] (.int 0)) :
    Con l M_19 jdk_42_method_79_code 2 (some .int) (rm4 3 0 0 46) Z n0 #[(.ref a), (.int 124)] h (fun v h' => v = some (.int (if x0 = (124 : Int32) then (0 : Int32) else (if x1 = (124 : Int32) then (1 : Int32) else (if x2 = (124 : Int32) then (2 : Int32) else (if x3 = (124 : Int32) then (3 : Int32) else (-1 : Int32)))))) ∧ h = h') := by
  refine Con.of_go (plainFor_of_name pn_0) (Ls := #[.val (.ref a), .val (.int 124)]) ?_
  refine Go.aloadN (pc' := 1) d7_0 rfl rfl rfl ?_
  refine Go.iloadN (pc' := 2) d7_1 rfl rfl ?_
  refine Go.iconst (pc' := 3) (v := 0) d7_2 rfl rfl ?_
  refine Go.callV (cells' := 0) (slots' := 0) (pc' := 6) [(.int 124), (.int 0)] [] e (ww hw 39 rfl) (ww hw 40 rfl) (nfS (ww hw 42 rfl)) (ww hw 42 rfl) (ww hw 41 rfl) (ww hw 7 rfl) (ww hw 43 rfl) (by decide) (c_idxT4 l Z a0 hw h a b kb x0 x1 x2 x3 cp hcp scp e f g v) pd_10 d7_3 rfl ?_
  rintro _ _ ⟨rfl, rfl⟩
  show Go _ _ _ _ _ _ _ _ _ _ _ _ 6 _ [(.int (if x0 = (124 : Int32) then (0 : Int32) else (if x1 = (124 : Int32) then (1 : Int32) else (if x2 = (124 : Int32) then (2 : Int32) else (if x3 = (124 : Int32) then (3 : Int32) else (-1 : Int32))))))]
  exact Go.retI rfl d7_6 ⟨rfl, rfl⟩
theorem c_fromTo (hw : HW a0 Z) (h : Heap) (i : Int32) (j : Int32) (n : Int32) (wf : Value) (h1 : ¬ (i < (0 : Int32))) (h2 : ¬ (j < i)) (h3 : ¬ (n < j)) (hwf : wf.isRef = true) :
    Con l M_21 jdk_41_method_12_code 4 (some .int) (rm4 0 0 0 0) Z n0 #[(.int i), (.int j), (.int n), wf] h (fun v h' => v = some (.int i) ∧ h = h') := by
  refine Con.of_go (plainFor_of_name pn_1) (Ls := #[.val (.int i), .val (.int j), .val (.int n), .val wf]) (he := fun m => by rcases XT.refc hwf with rfl | ⟨_, rfl⟩ <;> rfl) ?_
  refine Go.iloadN (pc' := 1) d26_0 rfl rfl ?_
  refine Go.ifNo (pc' := 4) d26_1 (XT.i0_lt_f h1) rfl ?_
  refine Go.iloadN (pc' := 5) d26_4 rfl rfl ?_
  refine Go.iloadN (pc' := 6) d26_5 rfl rfl ?_
  refine Go.icmpNo (pc' := 9) d26_6 (XT.ii_gt_f h2) rfl ?_
  refine Go.iloadN (pc' := 10) d26_9 rfl rfl ?_
  refine Go.iloadN (pc' := 11) d26_10 rfl rfl ?_
  refine Go.icmpYes (pc' := 22) d26_11 (XT.ii_le_t h3) (by decide) (by decide) ?_
  refine Go.iloadN (pc' := 23) d26_22 rfl rfl ?_
  exact Go.retI rfl d26_23 ⟨rfl, rfl⟩
theorem c_bounds (hw : HW a0 Z) (h : Heap) (i : Int32) (j : Int32) (n : Int32) (wf : Value) (h1 : ¬ (i < (0 : Int32))) (h2 : ¬ (j < i)) (h3 : ¬ (n < j)) (hwf : wf.isRef = true) (sfm : Sta Z Z.heap "jdk/internal/util/Preconditions" "SIOOBE_FORMATTER" "Ljava/util/function/BiFunction;" wf) :
    Con l M_22 jdk_42_method_158_code 3 none (rm4 1 0 0 15) Z n0 #[(.int i), (.int j), (.int n)] h (fun v h' => v = none ∧ h = h') := by
  refine Con.of_go (plainFor_of_name pn_0) (Ls := #[.val (.int i), .val (.int j), .val (.int n)]) ?_
  refine Go.iloadN (pc' := 1) d25_0 rfl rfl ?_
  refine Go.iloadN (pc' := 2) d25_1 rfl rfl ?_
  refine Go.iloadN (pc' := 3) d25_2 rfl rfl ?_
  refine Go.old (fun old1 => ?_)
  refine Go.getstatic (pc' := 6) (host := "") (Or.inl (ww hw 120 rfl)) Via.refl (sfm.ext old1.2) d25_3 rfl ?_
  refine Go.callS (cells' := 0) (slots' := 0) (pc' := 9) [(.int i), (.int j), (.int n), wf] [] (ww hw 122 rfl) (ww hw 123 rfl) (ww hw 121 rfl) (ww hw 124 rfl) (by decide) (c_fromTo l Z a0 hw h i j n wf h1 h2 h3 hwf) pd_13 d25_6 rfl ?_
  rintro _ _ ⟨rfl, rfl⟩
  show Go _ _ _ _ _ _ _ _ _ _ _ _ 9 _ [(.int i)]
  refine Go.pop (pc' := 10) d25_9 rfl rfl ?_
  exact Go.retV rfl d25_10 ⟨rfl, rfl⟩
theorem c_chkLen (hw : HW a0 Z) (h : Heap) (i : Int32) (j : Int32) (hlt : ¬ (j < i)) :
    Con l M_23 jdk_65_method_131_code 2 none (rm4 0 0 0 0) Z n0 #[(.int i), (.int j)] h (fun v h' => v = none ∧ h = h') := by
  refine Con.of_go (plainFor_of_name pn_5) (Ls := #[.val (.int i), .val (.int j)]) ?_
  refine Go.iloadN (pc' := 1) d30_0 rfl rfl ?_
  refine Go.iloadN (pc' := 2) d30_1 rfl rfl ?_
  refine Go.icmpYes (pc' := 37) d30_2 (XT.ii_ge_t hlt) (by decide) (by decide) ?_
  exact Go.retV rfl d30_37 ⟨rfl, rfl⟩
theorem c_strB (hw : HW a0 Z) (h : Heap) (a : Addr) (b : Addr) (ge_a : n0 ≤ a) (x : Exa Z h a "java/lang/String") (pf0 : Fld Z h a "java/lang/String" "value" "[B" .null) (pf1 : Fld Z h a "java/lang/String" "coder" "B" (.int 0)) :
    Con l M_24 jdk_42_method_151_code 3 none (rm4 1 0 0 12) Z n0 #[(.ref a), (.ref b), (.int 0)] h (fun v h' => v = none ∧ Keep h h' [a] ∧ Fld Z h' a "java/lang/String" "value" "[B" (.ref b) ∧ Fld Z h' a "java/lang/String" "coder" "B" (.int 0)) := by
  refine Con.of_go (plainFor_of_name pn_0) (Ls := #[.val (.ref a), .val (.ref b), .val (.int 0)]) ?_
  refine Go.aloadN (pc' := 1) d31_0 rfl rfl rfl ?_
  refine Go.initO (pc' := 4) (ww hw 19 rfl) (ww hw 20 rfl) (ww hw 21 rfl) d31_1 rfl (nl rfl) (nl rfl) rfl ?_
  refine Go.aloadN (pc' := 5) d31_4 rfl rfl rfl ?_
  refine Go.aloadN (pc' := 6) d31_5 rfl rfl rfl ?_
  refine Go.putfield (pc' := 9) (host := "") (Or.inl (ww hw 28 rfl)) Via.refl pf0 x (Or.inr ⟨(ww hw 24 rfl), rfl, rfl⟩) (ww hw 6 rfl) (ty := (.array .byte)) (by decide) rfl rfl ge_a d31_6 rfl ?_
  intro h1 W2
  have K3 : Keep h h1 [a] := (Keep.refl h [a]).wr W2 (Or.inl (List.mem_of_getElem? (i := 0) rfl))
  have f4 := pf0.same W2
  refine Go.aloadN (pc' := 10) d31_9 rfl rfl rfl ?_
  refine Go.iloadN (pc' := 11) d31_10 rfl rfl ?_
  have f5 : Fld Z h1 a "java/lang/String" "coder" "B" (.int 0) := (pf1.other W2 (Or.inr (slot_ne (Or.inr (ww hw 25 rfl)) (Or.inr (ww hw 24 rfl)) (by decide) (t := .byte) (t' := (.array .byte)) (by decide) (by decide))))
  refine Go.putfieldN (pc' := 14) (ww hw 29 rfl) Via.refl f5 (x.wr W2) (Or.inr ⟨(ww hw 25 rfl), rfl, rfl⟩) (ww hw 6 rfl) (ty := .byte) (v' := (0 : Int32)) (by decide) (by first | rfl | decide) (by first | rfl | decide | exact fits_nar_byte _) ge_a d31_11 rfl ?_
  intro h6 W7
  have K8 : Keep h h6 [a] := K3.wr W7 (Or.inl (List.mem_of_getElem? (i := 0) rfl))
  have f9 := f5.same W7
  have f10 : Fld Z h6 a "java/lang/String" "value" "[B" (.ref b) := (f4.other W7 (Or.inr (slot_ne (Or.inr (ww hw 24 rfl)) (Or.inr (ww hw 25 rfl)) (by decide) (t := (.array .byte)) (t' := .byte) (by decide) (by decide))))
  exact Go.retV rfl d31_14 ⟨rfl, K8, f10, f9⟩
theorem c_wlInit (hw : HW a0 Z) (h : Heap) (a : Addr) (t : Addr) (l2 : Addr) (ge_a : n0 ≤ a) (x : Exa Z h a "com/example/inquire/inquire/io/WikiLink") (pf0 : Fld Z h a "com/example/inquire/inquire/io/WikiLink" "target" "Ljava/lang/String;" .null) (pf1 : Fld Z h a "com/example/inquire/inquire/io/WikiLink" "label" "Ljava/lang/String;" .null) :
    Con l M_25 prog_40_method_1_code 3 none (rm4 1 0 0 12) Z n0 #[(.ref a), (.ref t), (.ref l2)] h (fun v h' => v = none ∧ Keep h h' [a] ∧ Fld Z h' a "com/example/inquire/inquire/io/WikiLink" "target" "Ljava/lang/String;" (.ref t) ∧ Fld Z h' a "com/example/inquire/inquire/io/WikiLink" "label" "Ljava/lang/String;" (.ref l2)) := by
  refine Con.of_go (plainFor_of_name pn_6) (Ls := #[.val (.ref a), .val (.ref t), .val (.ref l2)]) ?_
  refine Go.aloadN (pc' := 1) d16_0 rfl rfl rfl ?_
  refine Go.initO (pc' := 4) (ww hw 80 rfl) (ww hw 20 rfl) (ww hw 21 rfl) d16_1 rfl (nl rfl) (nl rfl) rfl ?_
  refine Go.aloadN (pc' := 5) d16_4 rfl rfl rfl ?_
  refine Go.aloadN (pc' := 6) d16_5 rfl rfl rfl ?_
  refine Go.putfield (pc' := 9) (host := "") (Or.inl (ww hw 81 rfl)) Via.refl pf0 x (Or.inr ⟨(ww hw 82 rfl), rfl, rfl⟩) (ww hw 76 rfl) (ty := (.object "java/lang/String")) (by decide) rfl rfl ge_a d16_6 rfl ?_
  intro h1 W2
  have K3 : Keep h h1 [a] := (Keep.refl h [a]).wr W2 (Or.inl (List.mem_of_getElem? (i := 0) rfl))
  have f4 := pf0.same W2
  refine Go.aloadN (pc' := 10) d16_9 rfl rfl rfl ?_
  refine Go.aloadN (pc' := 11) d16_10 rfl rfl rfl ?_
  have f5 : Fld Z h1 a "com/example/inquire/inquire/io/WikiLink" "label" "Ljava/lang/String;" .null := (pf1.other W2 (Or.inr (slot_ne (Or.inr (ww hw 84 rfl)) (Or.inr (ww hw 82 rfl)) (by decide) (t := (.object "java/lang/String")) (t' := (.object "java/lang/String")) (by decide) (by decide))))
  refine Go.putfield (pc' := 14) (host := "") (Or.inl (ww hw 83 rfl)) Via.refl f5 (x.wr W2) (Or.inr ⟨(ww hw 84 rfl), rfl, rfl⟩) (ww hw 76 rfl) (ty := (.object "java/lang/String")) (by decide) rfl rfl ge_a d16_11 rfl ?_
  intro h6 W7
  have K8 : Keep h h6 [a] := K3.wr W7 (Or.inl (List.mem_of_getElem? (i := 0) rfl))
  have f9 := f5.same W7
  have f10 : Fld Z h6 a "com/example/inquire/inquire/io/WikiLink" "target" "Ljava/lang/String;" (.ref t) := (f4.other W7 (Or.inr (slot_ne (Or.inr (ww hw 82 rfl)) (Or.inr (ww hw 84 rfl)) (by decide) (t := (.object "java/lang/String")) (t' := (.object "java/lang/String")) (by decide) (by decide))))
  exact Go.retV rfl d16_14 ⟨rfl, K8, f10, f9⟩
theorem c_getT (hw : HW a0 Z) (h : Heap) (a : Addr) (t : Addr) (x : Exa Z h a "com/example/inquire/inquire/io/WikiLink") (f : Fld Z h a "com/example/inquire/inquire/io/WikiLink" "target" "Ljava/lang/String;" (.ref t)) :
    Con l M_26 prog_40_method_3_code 1 (some (.object "java/lang/String")) (rm4 0 0 0 0) Z n0 #[(.ref a)] h (fun v h' => v = some (.ref t) ∧ h = h') := by
  refine Con.of_go (plainFor_of_name pn_6) (Ls := #[.val (.ref a)]) ?_
  refine Go.aloadN (pc' := 1) d17_0 rfl rfl rfl ?_
  refine Go.getfield (pc' := 4) (host := "") (Or.inl (ww hw 81 rfl)) Via.refl f d17_1 rfl ?_
  exact Go.retR rfl rfl rfl rfl d17_4 ⟨rfl, rfl⟩
theorem c_getL (hw : HW a0 Z) (h : Heap) (a : Addr) (t : Addr) (x : Exa Z h a "com/example/inquire/inquire/io/WikiLink") (f : Fld Z h a "com/example/inquire/inquire/io/WikiLink" "label" "Ljava/lang/String;" (.ref t)) :
    Con l M_27 prog_40_method_4_code 1 (some (.object "java/lang/String")) (rm4 0 0 0 0) Z n0 #[(.ref a)] h (fun v h' => v = some (.ref t) ∧ h = h') := by
  refine Con.of_go (plainFor_of_name pn_6) (Ls := #[.val (.ref a)]) ?_
  refine Go.aloadN (pc' := 1) d18_0 rfl rfl rfl ?_
  refine Go.getfield (pc' := 4) (host := "") (Or.inl (ww hw 83 rfl)) Via.refl f d18_1 rfl ?_
  exact Go.retR rfl rfl rfl rfl d18_4 ⟨rfl, rfl⟩
theorem c_parse0_m (hw : HW a0 Z) (h : Heap) (a : Addr) (b : Addr) (kb : ClassId) (za : Addr) (zb : Addr) (cp : Int32) (wf : Value) (hcp : ¬ (cp = (0 : Int32))) (hwf : wf.isRef = true) (hcw : Jvm.Lit.compactW.before a0 Z = true) (hch26 : Jvm.Lit.constHeld Z "com/example/inquire/inquire/io/WikiLink" 26) (hch151 : Jvm.Lit.constHeld Z "java/lang/StringLatin1" 151) (scp : Sta Z Z.heap "java/lang/String" "COMPACT_STRINGS" "Z" (.int cp)) (sfm : Sta Z Z.heap "jdk/internal/util/Preconditions" "SIOOBE_FORMATTER" "Ljava/util/function/BiFunction;" wf) (e : Exa Z h a "java/lang/String") (f : Fld Z h a "java/lang/String" "coder" "B" (.int 0)) (g : Fld Z h a "java/lang/String" "value" "[B" (.ref b)) (v : Arv Z h b kb .byte (0 : Int32) [] (.int 0)) (HZ : Hel Z h za zb ("")) :
    ConS l M_28 prog_40_method_2_code 4 (some (.object "com/example/inquire/inquire/io/WikiLink")) (rm4 4 3 6 55) Z n0 #[(.ref a)] h [("", za, "java/lang/String", 7)] (fun v h' LL' => ∃ w : Addr, ∃ rl : Addr, ∃ dl : Addr, ∃ kl : ClassId, v = some (.ref w) ∧ Keep h h' [] ∧ Exa Z h' w "com/example/inquire/inquire/io/WikiLink" ∧ Fld Z h' w "com/example/inquire/inquire/io/WikiLink" "target" "Ljava/lang/String;" (.ref a) ∧ Fld Z h' w "com/example/inquire/inquire/io/WikiLink" "label" "Ljava/lang/String;" (.ref rl) ∧ Exa Z h' rl "java/lang/String" ∧ Fld Z h' rl "java/lang/String" "coder" "B" (.int 0) ∧ Fld Z h' rl "java/lang/String" "value" "[B" (.ref dl) ∧ Arv Z h' dl kl .byte (0 : Int32) [] (.int 0)) := by
  refine ConS.of_go (plainFor_of_name pn_6) (Ls := #[.val (.ref a), .unset, .unset, .unset]) ?_
  refine GoS.aloadN (pc' := 1) d6_0 rfl rfl rfl ?_
  refine GoS.bipush (pc' := 3) (v := 124) d6_1 rfl rfl ?_
  refine GoS.callV (cells' := 0) (slots' := 0) (pc' := 6) [(.int 124)] [] e (ww hw 34 rfl) (ww hw 35 rfl) (nfS (ww hw 37 rfl)) (ww hw 37 rfl) (ww hw 36 rfl) (ww hw 7 rfl) (ww hw 38 rfl) (by decide) (Con.cold (c_idx0 l Z a0 hw h a b kb cp hcp scp e f g v)) pd_14 d6_3 rfl ?_
  rintro _ _ _ ⟨⟨rfl, rfl⟩, rfl⟩
  show GoS _ _ _ _ _ _ _ _ _ _ _ _ _ _ 6 _ [(.int (-1 : Int32))]
  refine GoS.istoreN (pc' := 7) (Ls' := #[.val (.ref a), .val (.int (-1 : Int32)), .unset, .unset]) d6_6 rfl rfl ?_
  refine GoS.iloadN (pc' := 8) d6_7 rfl rfl ?_
  refine GoS.ifNo (pc' := 11) d6_8 (XT.i0_ge_f (by decide)) rfl ?_
  refine GoS.aloadN (pc' := 12) d6_11 rfl rfl rfl ?_
  refine GoS.goto (pc' := 21) d6_12 (by decide) (by decide) ?_
  refine GoS.astoreN (pc' := 22) (Ls' := #[.val (.ref a), .val (.int (-1 : Int32)), .val (.ref a), .unset]) d6_21 rfl rfl rfl ?_
  refine GoS.iloadN (pc' := 23) d6_22 rfl rfl ?_
  refine GoS.ifNo (pc' := 26) d6_23 (XT.i0_ge_f (by decide)) rfl ?_
  refine GoS.ldcS (pc' := 28) (cells' := 2) (slots' := 4) (n := 0) (z := (0 : Int32)) (vs := []) (ww hw 74 rfl) (wsA hw) hch26 hcw (Keep.refl h []) (HL.yes (ww hw 6 rfl) HZ HL.nil) tx_0 (by decide) rfl d6_26 (nl rfl) (nl rfl) rfl rfl (nl rfl) (nl rfl) rfl ?_
  intro h2 sa2 sb2 kb2 E2 F2_0 F2_1 F2_2 F2_3 F2_4 F2_5
  have K3 : Keep h h2 [] := (Keep.refl h []).ext E2
  have H4 : Hel Z h2 sa2 sb2 "" := ⟨kb2, _, _, F2_0, F2_1, F2_2, F2_3, F2_4, tx_0, rfl⟩
  show GoS _ _ _ _ _ _ _ _ _ _ _ _ _ _ 28 _ [(.ref sa2)]
  refine GoS.goto (pc' := 38) d6_28 (by decide) (by decide) ?_
  refine GoS.astoreN (pc' := 39) (Ls' := #[.val (.ref a), .val (.int (-1 : Int32)), .val (.ref a), .val (.ref sa2)]) d6_38 rfl rfl rfl ?_
  refine GoS.new (pc' := 42) (cells' := 3) (slots' := 6) (ww hw 75 rfl) (ww hw 76 rfl) (ww hw 32 rfl) d6_39 rfl rfl (by decide) (by decide) rfl ?_
  intro h5 b5 g5 E5 ge5 A5 D5
  have sz6 : h.size ≤ b5 := Nat.le_trans K3.1 (Nat.le_of_eq g5.symm)
  have K7 : Keep h h5 [] := K3.ext E5
  refine GoS.dup (pc' := 43) d6_42 rfl rfl ?_
  refine GoS.aloadN (pc' := 44) d6_43 rfl rfl rfl ?_
  refine GoS.aloadN (pc' := 45) d6_44 rfl rfl rfl ?_
  refine GoS.callC (cells' := 3) (slots' := 6) (pc' := 48) [(.ref a), (.ref sa2)] [(.ref b5)] (a := b5) rfl rfl (ww hw 77 rfl) (ww hw 78 rfl) (ww hw 32 rfl) (ww hw 79 rfl) (by decide) (Con.cold (c_wlInit l Z a0 hw h5 b5 a sa2 ge5 A5 ((D5 (Or.inr (ww hw 82 rfl)) (ty := (.object "java/lang/String")) (by decide) : Fld Z h5 b5 "com/example/inquire/inquire/io/WikiLink" "target" "Ljava/lang/String;" .null)) ((D5 (Or.inr (ww hw 84 rfl)) (ty := (.object "java/lang/String")) (by decide) : Fld Z h5 b5 "com/example/inquire/inquire/io/WikiLink" "label" "Ljava/lang/String;" .null)))) pd_15 d6_45 rfl ?_
  rintro _ h8 _ ⟨⟨rfl, K8, F8_0, F8_1⟩, rfl⟩
  have K9 : Keep h h8 [] := K7.trans K8 (allS (Or.inr sz6) all0)
  show GoS _ _ _ _ _ _ _ _ _ _ _ _ _ _ 48 _ [(.ref b5)]
  have ne10 : sa2 ≠ b5 := (Nat.ne_of_lt (Nat.lt_of_lt_of_le H4.lt0 (Nat.le_of_eq g5.symm)))
  have ne11 : sb2 ≠ b5 := (Nat.ne_of_lt (Nat.lt_of_lt_of_le H4.lt1 (Nat.le_of_eq g5.symm)))
  exact GoS.retR rfl rfl rfl rfl d6_48 ⟨b5, sa2, sb2, kb2, rfl, K9, (A5.keep K8), F8_0, F8_1, ((F2_0.ext E5).keep K8), ((F2_1.ext E5).keep K8 (ninS ne10 nin0)), ((F2_2.ext E5).keep K8 (ninS ne10 nin0)), ((F2_3.ext E5).keep K8 (ninS ne11 nin0))⟩
theorem c_parse1_m (hw : HW a0 Z) (h : Heap) (a : Addr) (b : Addr) (kb : ClassId) (x0 : Int32) (cp : Int32) (wf : Value) (hcp : ¬ (cp = (0 : Int32))) (hwf : wf.isRef = true) (hcw : Jvm.Lit.compactW.before a0 Z = true) (hch26 : Jvm.Lit.constHeld Z "com/example/inquire/inquire/io/WikiLink" 26) (hch151 : Jvm.Lit.constHeld Z "java/lang/StringLatin1" 151) (hx0 : ¬ (x0 = (124 : Int32))) (scp : Sta Z Z.heap "java/lang/String" "COMPACT_STRINGS" "Z" (.int cp)) (sfm : Sta Z Z.heap "jdk/internal/util/Preconditions" "SIOOBE_FORMATTER" "Ljava/util/function/BiFunction;" wf) (e : Exa Z h a "java/lang/String") (f : Fld Z h a "java/lang/String" "coder" "B" (.int 0)) (g : Fld Z h a "java/lang/String" "value" "[B" (.ref b)) (v : Arv Z h b kb .byte (1 : Int32) [(.int x0)] (.int 0)) :
    ConS l M_28 prog_40_method_2_code 4 (some (.object "com/example/inquire/inquire/io/WikiLink")) (rm4 4 3 6 59) Z n0 #[(.ref a)] h [] (fun v h' LL' => ∃ w : Addr, ∃ rl : Addr, ∃ dl : Addr, ∃ kl : ClassId, v = some (.ref w) ∧ Keep h h' [] ∧ Exa Z h' w "com/example/inquire/inquire/io/WikiLink" ∧ Fld Z h' w "com/example/inquire/inquire/io/WikiLink" "target" "Ljava/lang/String;" (.ref a) ∧ Fld Z h' w "com/example/inquire/inquire/io/WikiLink" "label" "Ljava/lang/String;" (.ref rl) ∧ Exa Z h' rl "java/lang/String" ∧ Fld Z h' rl "java/lang/String" "coder" "B" (.int 0) ∧ Fld Z h' rl "java/lang/String" "value" "[B" (.ref dl) ∧ Arv Z h' dl kl .byte (0 : Int32) [] (.int 0)) := by
  refine ConS.of_go (plainFor_of_name pn_6) (Ls := #[.val (.ref a), .unset, .unset, .unset]) ?_
  refine GoS.aloadN (pc' := 1) d6_0 rfl rfl rfl ?_
  refine GoS.bipush (pc' := 3) (v := 124) d6_1 rfl rfl ?_
  refine GoS.callV (cells' := 0) (slots' := 0) (pc' := 6) [(.int 124)] [] e (ww hw 34 rfl) (ww hw 35 rfl) (nfS (ww hw 37 rfl)) (ww hw 37 rfl) (ww hw 36 rfl) (ww hw 7 rfl) (ww hw 38 rfl) (by decide) (Con.cold (c_idx1 l Z a0 hw h a b kb x0 cp hcp scp e f g v)) pd_14 d6_3 rfl ?_
  rintro _ _ _ ⟨⟨rfl, rfl⟩, rfl⟩
  show GoS _ _ _ _ _ _ _ _ _ _ _ _ _ _ 6 _ [(.int (if x0 = (124 : Int32) then (0 : Int32) else (-1 : Int32)))]
  rw [if_neg hx0]
  refine GoS.istoreN (pc' := 7) (Ls' := #[.val (.ref a), .val (.int (-1 : Int32)), .unset, .unset]) d6_6 rfl rfl ?_
  refine GoS.iloadN (pc' := 8) d6_7 rfl rfl ?_
  refine GoS.ifNo (pc' := 11) d6_8 (XT.i0_ge_f (by decide)) rfl ?_
  refine GoS.aloadN (pc' := 12) d6_11 rfl rfl rfl ?_
  refine GoS.goto (pc' := 21) d6_12 (by decide) (by decide) ?_
  refine GoS.astoreN (pc' := 22) (Ls' := #[.val (.ref a), .val (.int (-1 : Int32)), .val (.ref a), .unset]) d6_21 rfl rfl rfl ?_
  refine GoS.iloadN (pc' := 23) d6_22 rfl rfl ?_
  refine GoS.ifNo (pc' := 26) d6_23 (XT.i0_ge_f (by decide)) rfl ?_
  refine GoS.ldcS (pc' := 28) (cells' := 2) (slots' := 4) (n := 0) (z := (0 : Int32)) (vs := []) (ww hw 74 rfl) (wsA hw) hch26 hcw (Keep.refl h []) HL.nil tx_0 (by decide) rfl d6_26 (nl rfl) (nl rfl) rfl rfl (nl rfl) (nl rfl) rfl ?_
  intro h2 sa2 sb2 kb2 E2 F2_0 F2_1 F2_2 F2_3 F2_4 F2_5
  have K3 : Keep h h2 [] := (Keep.refl h []).ext E2
  have H4 : Hel Z h2 sa2 sb2 "" := ⟨kb2, _, _, F2_0, F2_1, F2_2, F2_3, F2_4, tx_0, rfl⟩
  show GoS _ _ _ _ _ _ _ _ _ _ _ _ _ _ 28 _ [(.ref sa2)]
  refine GoS.goto (pc' := 38) d6_28 (by decide) (by decide) ?_
  refine GoS.astoreN (pc' := 39) (Ls' := #[.val (.ref a), .val (.int (-1 : Int32)), .val (.ref a), .val (.ref sa2)]) d6_38 rfl rfl rfl ?_
  refine GoS.new (pc' := 42) (cells' := 3) (slots' := 6) (ww hw 75 rfl) (ww hw 76 rfl) (ww hw 32 rfl) d6_39 rfl rfl (by decide) (by decide) rfl ?_
  intro h5 b5 g5 E5 ge5 A5 D5
  have sz6 : h.size ≤ b5 := Nat.le_trans K3.1 (Nat.le_of_eq g5.symm)
  have K7 : Keep h h5 [] := K3.ext E5
  refine GoS.dup (pc' := 43) d6_42 rfl rfl ?_
  refine GoS.aloadN (pc' := 44) d6_43 rfl rfl rfl ?_
  refine GoS.aloadN (pc' := 45) d6_44 rfl rfl rfl ?_
  refine GoS.callC (cells' := 3) (slots' := 6) (pc' := 48) [(.ref a), (.ref sa2)] [(.ref b5)] (a := b5) rfl rfl (ww hw 77 rfl) (ww hw 78 rfl) (ww hw 32 rfl) (ww hw 79 rfl) (by decide) (Con.cold (c_wlInit l Z a0 hw h5 b5 a sa2 ge5 A5 ((D5 (Or.inr (ww hw 82 rfl)) (ty := (.object "java/lang/String")) (by decide) : Fld Z h5 b5 "com/example/inquire/inquire/io/WikiLink" "target" "Ljava/lang/String;" .null)) ((D5 (Or.inr (ww hw 84 rfl)) (ty := (.object "java/lang/String")) (by decide) : Fld Z h5 b5 "com/example/inquire/inquire/io/WikiLink" "label" "Ljava/lang/String;" .null)))) pd_15 d6_45 rfl ?_
  rintro _ h8 _ ⟨⟨rfl, K8, F8_0, F8_1⟩, rfl⟩
  have K9 : Keep h h8 [] := K7.trans K8 (allS (Or.inr sz6) all0)
  show GoS _ _ _ _ _ _ _ _ _ _ _ _ _ _ 48 _ [(.ref b5)]
  have ne10 : sa2 ≠ b5 := (Nat.ne_of_lt (Nat.lt_of_lt_of_le H4.lt0 (Nat.le_of_eq g5.symm)))
  have ne11 : sb2 ≠ b5 := (Nat.ne_of_lt (Nat.lt_of_lt_of_le H4.lt1 (Nat.le_of_eq g5.symm)))
  exact GoS.retR rfl rfl rfl rfl d6_48 ⟨b5, sa2, sb2, kb2, rfl, K9, (A5.keep K8), F8_0, F8_1, ((F2_0.ext E5).keep K8), ((F2_1.ext E5).keep K8 (ninS ne10 nin0)), ((F2_2.ext E5).keep K8 (ninS ne10 nin0)), ((F2_3.ext E5).keep K8 (ninS ne11 nin0))⟩
theorem c_newStr1_0_0 (hw : HW a0 Z) (h : Heap) (b : Addr) (hcw : Jvm.Lit.compactW.before a0 Z = true) (hch151 : Jvm.Lit.constHeld Z "java/lang/StringLatin1" 151) :
    ConS l M_29 jdk_43_method_47_code 3 (some (.object "java/lang/String")) (rm4 0 2 4 0) Z n0 #[(.ref b), (.int 0), (.int 0)] h [] (fun v h' LL' => ∃ ea : Addr, ∃ eb : Addr, ∃ ke : ClassId, v = some (.ref ea) ∧ Keep h h' [] ∧ Exa Z h' ea "java/lang/String" ∧ Fld Z h' ea "java/lang/String" "coder" "B" (.int 0) ∧ Fld Z h' ea "java/lang/String" "value" "[B" (.ref eb) ∧ Arv Z h' eb ke .byte (0 : Int32) [] (.int 0) ∧ Exa Z h' eb "[B" ∧ Hel Z h' ea eb ("") ∧ LL' = [("", ea, "java/lang/StringLatin1", 151)]) := by
  refine ConS.of_go (plainFor_of_name pn_2) (Ls := #[.val (.ref b), .val (.int 0), .val (.int 0)]) ?_
  refine GoS.iloadN (pc' := 1) d27_0 rfl rfl ?_
  refine GoS.ifNo (pc' := 4) d27_1 (XT.i0_ne_f (by decide)) rfl ?_
  refine GoS.ldcS (pc' := 6) (cells' := 2) (slots' := 4) (n := 0) (z := (0 : Int32)) (vs := []) (ww hw 153 rfl) (wsA hw) hch151 hcw (Keep.refl h []) HL.nil tx_0 (by decide) rfl d27_4 (nl rfl) (nl rfl) rfl rfl (nl rfl) (nl rfl) rfl ?_
  intro h1 sa1 sb1 kb1 E1 F1_0 F1_1 F1_2 F1_3 F1_4 F1_5
  have K2 : Keep h h1 [] := (Keep.refl h []).ext E1
  have H3 : Hel Z h1 sa1 sb1 "" := ⟨kb1, _, _, F1_0, F1_1, F1_2, F1_3, F1_4, tx_0, rfl⟩
  show GoS _ _ _ _ _ _ _ _ _ _ _ _ _ _ 6 _ [(.ref sa1)]
  exact GoS.retR rfl rfl rfl rfl d27_6 ⟨sa1, sb1, kb1, rfl, K2, F1_0, F1_1, F1_2, F1_3, F1_4, H3, rfl⟩
theorem c_sub1_0_0 (hw : HW a0 Z) (h : Heap) (a : Addr) (b : Addr) (kb : ClassId) (x0 : Int32) (cp : Int32) (wf : Value) (hcp : ¬ (cp = (0 : Int32))) (hwf : wf.isRef = true) (hcw : Jvm.Lit.compactW.before a0 Z = true) (hch151 : Jvm.Lit.constHeld Z "java/lang/StringLatin1" 151) (scp : Sta Z Z.heap "java/lang/String" "COMPACT_STRINGS" "Z" (.int cp)) (sfm : Sta Z Z.heap "jdk/internal/util/Preconditions" "SIOOBE_FORMATTER" "Ljava/util/function/BiFunction;" wf) (e : Exa Z h a "java/lang/String") (f : Fld Z h a "java/lang/String" "coder" "B" (.int 0)) (g : Fld Z h a "java/lang/String" "value" "[B" (.ref b)) (v : Arv Z h b kb .byte (1 : Int32) [(.int x0)] (.int 0)) :
    ConS l M_30 jdk_42_method_92_code 5 (some (.object "java/lang/String")) (rm4 2 2 4 29) Z n0 #[(.ref a), (.int 0), (.int 0)] h [] (fun v h' LL' => ∃ ea : Addr, ∃ eb : Addr, ∃ ke : ClassId, v = some (.ref ea) ∧ Keep h h' [] ∧ Exa Z h' ea "java/lang/String" ∧ Fld Z h' ea "java/lang/String" "coder" "B" (.int 0) ∧ Fld Z h' ea "java/lang/String" "value" "[B" (.ref eb) ∧ Arv Z h' eb ke .byte (0 : Int32) [] (.int 0) ∧ Exa Z h' eb "[B" ∧ Hel Z h' ea eb ("") ∧ LL' = [("", ea, "java/lang/StringLatin1", 151)]) := by
  refine ConS.of_go (plainFor_of_name pn_0) (Ls := #[.val (.ref a), .val (.int 0), .val (.int 0), .unset, .unset]) ?_
  refine GoS.aloadN (pc' := 1) d24_0 rfl rfl rfl ?_
  refine GoS.callV (cells' := 0) (slots' := 0) (pc' := 4) [] [] e (ww hw 50 rfl) (ww hw 51 rfl) (nfS (ww hw 53 rfl)) (ww hw 53 rfl) (ww hw 52 rfl) (ww hw 7 rfl) (ww hw 54 rfl) (by decide) (Con.cold (c_strLen1 l Z a0 hw h a b kb x0 cp hcp scp e f g v)) pd_11 d24_1 rfl ?_
  rintro _ _ _ ⟨⟨rfl, rfl⟩, rfl⟩
  show GoS _ _ _ _ _ _ _ _ _ _ _ _ _ _ 4 _ [(.int 1)]
  refine GoS.istoreN (pc' := 5) (Ls' := #[.val (.ref a), .val (.int 0), .val (.int 0), .val (.int 1), .unset]) d24_4 rfl rfl ?_
  refine GoS.iloadN (pc' := 6) d24_5 rfl rfl ?_
  refine GoS.iloadN (pc' := 7) d24_6 rfl rfl ?_
  refine GoS.iloadN (pc' := 8) d24_7 rfl rfl ?_
  refine GoS.callS (cells' := 0) (slots' := 0) (pc' := 11) [(.int 0), (.int 0), (.int 1)] [] (ww hw 117 rfl) (ww hw 118 rfl) (ww hw 7 rfl) (ww hw 119 rfl) (by decide) (Con.cold (c_bounds l Z a0 hw h (0 : Int32) (0 : Int32) (1 : Int32) wf (by decide) (by decide) (by decide) hwf sfm)) pd_16 d24_8 rfl ?_
  rintro _ _ _ ⟨⟨rfl, rfl⟩, rfl⟩
  show GoS _ _ _ _ _ _ _ _ _ _ _ _ _ _ 11 _ []
  refine GoS.iloadN (pc' := 12) d24_11 rfl rfl ?_
  refine GoS.ifNo (pc' := 15) d24_12 (XT.i0_ne_f (by decide)) rfl ?_
  refine GoS.iloadN (pc' := 16) d24_15 rfl rfl ?_
  refine GoS.iloadN (pc' := 17) d24_16 rfl rfl ?_
  refine GoS.icmpYes (pc' := 22) d24_17 (XT.ii_ne_t (by decide)) (by decide) (by decide) ?_
  refine GoS.iloadN (pc' := 23) d24_22 rfl rfl ?_
  refine GoS.iloadN (pc' := 24) d24_23 rfl rfl ?_
  refine GoS.isub (pc' := 25) d24_24 rfl ?_
  show GoS _ _ _ _ _ _ _ _ _ _ _ _ _ _ 25 _ [(.int 0)]
  refine GoS.istore (pc' := 27) (Ls' := #[.val (.ref a), .val (.int 0), .val (.int 0), .val (.int 1), .val (.int 0)]) d24_25 rfl rfl ?_
  refine GoS.aloadN (pc' := 28) d24_27 rfl rfl rfl ?_
  refine GoS.callV (cells' := 0) (slots' := 0) (pc' := 31) [] [] e (ww hw 44 rfl) (ww hw 45 rfl) (nfS (ww hw 47 rfl)) (ww hw 47 rfl) (ww hw 46 rfl) (ww hw 7 rfl) (ww hw 48 rfl) (by decide) (Con.cold (c_isLatin1 l Z a0 hw h a cp hcp scp f)) pd_3 d24_28 rfl ?_
  rintro _ _ _ ⟨⟨rfl, rfl⟩, rfl⟩
  show GoS _ _ _ _ _ _ _ _ _ _ _ _ _ _ 31 _ [(.int 1)]
  refine GoS.ifNo (pc' := 34) d24_31 (XT.i0_eq_f (by decide)) rfl ?_
  refine GoS.aloadN (pc' := 35) d24_34 rfl rfl rfl ?_
  refine GoS.getfield (pc' := 38) (host := "") (Or.inl (ww hw 28 rfl)) Via.refl g d24_35 rfl ?_
  refine GoS.iloadN (pc' := 39) d24_38 rfl rfl ?_
  refine GoS.iload (pc' := 41) d24_39 rfl rfl ?_
  refine GoS.callS (cells' := 2) (slots' := 4) (pc' := 44) [(.ref b), (.int 0), (.int 0)] [] (ww hw 125 rfl) (ww hw 126 rfl) (ww hw 62 rfl) (ww hw 127 rfl) (by decide) (c_newStr1_0_0 l Z a0 hw h b hcw hch151) pd_17 d24_41 rfl ?_
  rintro _ h4 _ ⟨ea_4, eb_4, ke_4, rfl, K4, F4_0, F4_1, F4_2, F4_3, F4_4, F4_5, rfl⟩
  show GoS _ _ _ _ _ _ _ _ _ _ _ _ _ _ 44 _ [(.ref ea_4)]
  refine GoS.goto (pc' := 57) d24_44 (by decide) (by decide) ?_
  exact GoS.retR rfl rfl rfl rfl d24_57 ⟨ea_4, eb_4, ke_4, rfl, K4, F4_0, F4_1, F4_2, F4_3, F4_4, F4_5, rfl⟩
theorem c_newStr1_1_1a (hw : HW a0 Z) (h : Heap) (b : Addr) (ea : Addr) (eb : Addr) (ke : ClassId) (ex0 : Exa Z h ea "java/lang/String") (ex1 : Fld Z h ea "java/lang/String" "coder" "B" (.int 0)) (ex2 : Fld Z h ea "java/lang/String" "value" "[B" (.ref eb)) (ex3 : Arv Z h eb ke .byte (0 : Int32) [] (.int 0)) (ex4 : Exa Z h eb "[B") (ex5 : Hel Z h ea eb ("")) :
    ConS l M_29 jdk_43_method_47_code 3 (some (.object "java/lang/String")) (rm4 0 0 0 0) Z n0 #[(.ref b), (.int 1), (.int 0)] h [("", ea, "java/lang/StringLatin1", 151)] (fun v h' LL' => v = some (.ref ea) ∧ h = h' ∧ LL' = [("", ea, "java/lang/StringLatin1", 151)]) := by
  refine ConS.of_go (plainFor_of_name pn_2) (Ls := #[.val (.ref b), .val (.int 1), .val (.int 0)]) ?_
  refine GoS.iloadN (pc' := 1) d27_0 rfl rfl ?_
  refine GoS.ifNo (pc' := 4) d27_1 (XT.i0_ne_f (by decide)) rfl ?_
  refine GoS.ldcAgain (pc' := 6) (a := ea) (ww hw 153 rfl) (List.mem_of_getElem? (i := 0) rfl) d27_4 rfl ?_
  exact GoS.retR rfl rfl rfl rfl d27_6 ⟨rfl, rfl, rfl⟩
theorem c_sub1_1_1a (hw : HW a0 Z) (h : Heap) (a : Addr) (b : Addr) (kb : ClassId) (x0 : Int32) (ea : Addr) (eb : Addr) (ke : ClassId) (cp : Int32) (wf : Value) (hcp : ¬ (cp = (0 : Int32))) (hwf : wf.isRef = true) (scp : Sta Z Z.heap "java/lang/String" "COMPACT_STRINGS" "Z" (.int cp)) (sfm : Sta Z Z.heap "jdk/internal/util/Preconditions" "SIOOBE_FORMATTER" "Ljava/util/function/BiFunction;" wf) (e : Exa Z h a "java/lang/String") (f : Fld Z h a "java/lang/String" "coder" "B" (.int 0)) (g : Fld Z h a "java/lang/String" "value" "[B" (.ref b)) (v : Arv Z h b kb .byte (1 : Int32) [(.int x0)] (.int 0)) (ex0 : Exa Z h ea "java/lang/String") (ex1 : Fld Z h ea "java/lang/String" "coder" "B" (.int 0)) (ex2 : Fld Z h ea "java/lang/String" "value" "[B" (.ref eb)) (ex3 : Arv Z h eb ke .byte (0 : Int32) [] (.int 0)) (ex4 : Exa Z h eb "[B") (ex5 : Hel Z h ea eb ("")) :
    ConS l M_30 jdk_42_method_92_code 5 (some (.object "java/lang/String")) (rm4 2 0 0 29) Z n0 #[(.ref a), (.int 1), (.int 1)] h [("", ea, "java/lang/StringLatin1", 151)] (fun v h' LL' => v = some (.ref ea) ∧ h = h' ∧ LL' = [("", ea, "java/lang/StringLatin1", 151)]) := by
  refine ConS.of_go (plainFor_of_name pn_0) (Ls := #[.val (.ref a), .val (.int 1), .val (.int 1), .unset, .unset]) ?_
  refine GoS.aloadN (pc' := 1) d24_0 rfl rfl rfl ?_
  refine GoS.callV (cells' := 0) (slots' := 0) (pc' := 4) [] [] e (ww hw 50 rfl) (ww hw 51 rfl) (nfS (ww hw 53 rfl)) (ww hw 53 rfl) (ww hw 52 rfl) (ww hw 7 rfl) (ww hw 54 rfl) (by decide) (Con.cold (c_strLen1 l Z a0 hw h a b kb x0 cp hcp scp e f g v)) pd_11 d24_1 rfl ?_
  rintro _ _ _ ⟨⟨rfl, rfl⟩, rfl⟩
  show GoS _ _ _ _ _ _ _ _ _ _ _ _ _ _ 4 _ [(.int 1)]
  refine GoS.istoreN (pc' := 5) (Ls' := #[.val (.ref a), .val (.int 1), .val (.int 1), .val (.int 1), .unset]) d24_4 rfl rfl ?_
  refine GoS.iloadN (pc' := 6) d24_5 rfl rfl ?_
  refine GoS.iloadN (pc' := 7) d24_6 rfl rfl ?_
  refine GoS.iloadN (pc' := 8) d24_7 rfl rfl ?_
  refine GoS.callS (cells' := 0) (slots' := 0) (pc' := 11) [(.int 1), (.int 1), (.int 1)] [] (ww hw 117 rfl) (ww hw 118 rfl) (ww hw 7 rfl) (ww hw 119 rfl) (by decide) (Con.cold (c_bounds l Z a0 hw h (1 : Int32) (1 : Int32) (1 : Int32) wf (by decide) (by decide) (by decide) hwf sfm)) pd_16 d24_8 rfl ?_
  rintro _ _ _ ⟨⟨rfl, rfl⟩, rfl⟩
  show GoS _ _ _ _ _ _ _ _ _ _ _ _ _ _ 11 _ []
  refine GoS.iloadN (pc' := 12) d24_11 rfl rfl ?_
  refine GoS.ifYes (pc' := 22) d24_12 (XT.i0_ne_t (by decide)) (by decide) (by decide) ?_
  refine GoS.iloadN (pc' := 23) d24_22 rfl rfl ?_
  refine GoS.iloadN (pc' := 24) d24_23 rfl rfl ?_
  refine GoS.isub (pc' := 25) d24_24 rfl ?_
  show GoS _ _ _ _ _ _ _ _ _ _ _ _ _ _ 25 _ [(.int 0)]
  refine GoS.istore (pc' := 27) (Ls' := #[.val (.ref a), .val (.int 1), .val (.int 1), .val (.int 1), .val (.int 0)]) d24_25 rfl rfl ?_
  refine GoS.aloadN (pc' := 28) d24_27 rfl rfl rfl ?_
  refine GoS.callV (cells' := 0) (slots' := 0) (pc' := 31) [] [] e (ww hw 44 rfl) (ww hw 45 rfl) (nfS (ww hw 47 rfl)) (ww hw 47 rfl) (ww hw 46 rfl) (ww hw 7 rfl) (ww hw 48 rfl) (by decide) (Con.cold (c_isLatin1 l Z a0 hw h a cp hcp scp f)) pd_3 d24_28 rfl ?_
  rintro _ _ _ ⟨⟨rfl, rfl⟩, rfl⟩
  show GoS _ _ _ _ _ _ _ _ _ _ _ _ _ _ 31 _ [(.int 1)]
  refine GoS.ifNo (pc' := 34) d24_31 (XT.i0_eq_f (by decide)) rfl ?_
  refine GoS.aloadN (pc' := 35) d24_34 rfl rfl rfl ?_
  refine GoS.getfield (pc' := 38) (host := "") (Or.inl (ww hw 28 rfl)) Via.refl g d24_35 rfl ?_
  refine GoS.iloadN (pc' := 39) d24_38 rfl rfl ?_
  refine GoS.iload (pc' := 41) d24_39 rfl rfl ?_
  refine GoS.callS (cells' := 0) (slots' := 0) (pc' := 44) [(.ref b), (.int 1), (.int 0)] [] (ww hw 125 rfl) (ww hw 126 rfl) (ww hw 62 rfl) (ww hw 127 rfl) (by decide) (c_newStr1_1_1a l Z a0 hw h b ea eb ke ex0 ex1 ex2 ex3 ex4 ex5) pd_17 d24_41 rfl ?_
  rintro _ _ _ ⟨rfl, rfl, rfl⟩
  show GoS _ _ _ _ _ _ _ _ _ _ _ _ _ _ 44 _ [(.ref ea)]
  refine GoS.goto (pc' := 57) d24_44 (by decide) (by decide) ?_
  exact GoS.retR rfl rfl rfl rfl d24_57 ⟨rfl, rfl, rfl⟩
theorem c_subI1_1_1a (hw : HW a0 Z) (h : Heap) (a : Addr) (b : Addr) (kb : ClassId) (x0 : Int32) (ea : Addr) (eb : Addr) (ke : ClassId) (cp : Int32) (wf : Value) (hcp : ¬ (cp = (0 : Int32))) (hwf : wf.isRef = true) (scp : Sta Z Z.heap "java/lang/String" "COMPACT_STRINGS" "Z" (.int cp)) (sfm : Sta Z Z.heap "jdk/internal/util/Preconditions" "SIOOBE_FORMATTER" "Ljava/util/function/BiFunction;" wf) (e : Exa Z h a "java/lang/String") (f : Fld Z h a "java/lang/String" "coder" "B" (.int 0)) (g : Fld Z h a "java/lang/String" "value" "[B" (.ref b)) (v : Arv Z h b kb .byte (1 : Int32) [(.int x0)] (.int 0)) (ex0 : Exa Z h ea "java/lang/String") (ex1 : Fld Z h ea "java/lang/String" "coder" "B" (.int 0)) (ex2 : Fld Z h ea "java/lang/String" "value" "[B" (.ref eb)) (ex3 : Arv Z h eb ke .byte (0 : Int32) [] (.int 0)) (ex4 : Exa Z h eb "[B") (ex5 : Hel Z h ea eb ("")) :
    ConS l M_31 jdk_42_method_91_code 2 (some (.object "java/lang/String")) (rm4 3 0 0 45) Z n0 #[(.ref a), (.int 1)] h [("", ea, "java/lang/StringLatin1", 151)] (fun v h' LL' => v = some (.ref ea) ∧ h = h' ∧ LL' = [("", ea, "java/lang/StringLatin1", 151)]) := by
  refine ConS.of_go (plainFor_of_name pn_0) (Ls := #[.val (.ref a), .val (.int 1)]) ?_
  refine GoS.aloadN (pc' := 1) d32_0 rfl rfl rfl ?_
  refine GoS.iloadN (pc' := 2) d32_1 rfl rfl ?_
  refine GoS.aloadN (pc' := 3) d32_2 rfl rfl rfl ?_
  refine GoS.callV (cells' := 0) (slots' := 0) (pc' := 6) [] [(.int 1), (.ref a)] e (ww hw 50 rfl) (ww hw 51 rfl) (nfS (ww hw 53 rfl)) (ww hw 53 rfl) (ww hw 52 rfl) (ww hw 7 rfl) (ww hw 54 rfl) (by decide) (Con.cold (c_strLen1 l Z a0 hw h a b kb x0 cp hcp scp e f g v)) pd_11 d32_3 rfl ?_
  rintro _ _ _ ⟨⟨rfl, rfl⟩, rfl⟩
  show GoS _ _ _ _ _ _ _ _ _ _ _ _ _ _ 6 _ [(.int 1), (.int 1), (.ref a)]
  refine GoS.callV (cells' := 0) (slots' := 0) (pc' := 9) [(.int 1), (.int 1)] [] e (ww hw 152 rfl) (ww hw 113 rfl) (nfS (ww hw 115 rfl)) (ww hw 115 rfl) (ww hw 114 rfl) (ww hw 7 rfl) (ww hw 116 rfl) (by decide) (c_sub1_1_1a l Z a0 hw h a b kb x0 ea eb ke cp wf hcp hwf scp sfm e f g v ex0 ex1 ex2 ex3 ex4 ex5) pd_18 d32_6 rfl ?_
  rintro _ _ _ ⟨rfl, rfl, rfl⟩
  show GoS _ _ _ _ _ _ _ _ _ _ _ _ _ _ 9 _ [(.ref ea)]
  exact GoS.retR rfl rfl rfl rfl d32_9 ⟨rfl, rfl, rfl⟩
theorem c_parse1_0 (hw : HW a0 Z) (h : Heap) (a : Addr) (b : Addr) (kb : ClassId) (x0 : Int32) (cp : Int32) (wf : Value) (hcp : ¬ (cp = (0 : Int32))) (hwf : wf.isRef = true) (hcw : Jvm.Lit.compactW.before a0 Z = true) (hch26 : Jvm.Lit.constHeld Z "com/example/inquire/inquire/io/WikiLink" 26) (hch151 : Jvm.Lit.constHeld Z "java/lang/StringLatin1" 151) (hx0 : x0 = (124 : Int32)) (scp : Sta Z Z.heap "java/lang/String" "COMPACT_STRINGS" "Z" (.int cp)) (sfm : Sta Z Z.heap "jdk/internal/util/Preconditions" "SIOOBE_FORMATTER" "Ljava/util/function/BiFunction;" wf) (e : Exa Z h a "java/lang/String") (f : Fld Z h a "java/lang/String" "coder" "B" (.int 0)) (g : Fld Z h a "java/lang/String" "value" "[B" (.ref b)) (v : Arv Z h b kb .byte (1 : Int32) [(.int x0)] (.int 0)) :
    ConS l M_28 prog_40_method_2_code 4 (some (.object "com/example/inquire/inquire/io/WikiLink")) (rm4 4 3 6 59) Z n0 #[(.ref a)] h [] (fun v h' LL' => ∃ w : Addr, ∃ rt : Addr, ∃ dt : Addr, ∃ kt : ClassId, ∃ rl : Addr, ∃ dl : Addr, ∃ kl : ClassId, v = some (.ref w) ∧ Keep h h' [] ∧ Exa Z h' w "com/example/inquire/inquire/io/WikiLink" ∧ Fld Z h' w "com/example/inquire/inquire/io/WikiLink" "target" "Ljava/lang/String;" (.ref rt) ∧ Fld Z h' w "com/example/inquire/inquire/io/WikiLink" "label" "Ljava/lang/String;" (.ref rl) ∧ Exa Z h' rt "java/lang/String" ∧ Fld Z h' rt "java/lang/String" "coder" "B" (.int 0) ∧ Fld Z h' rt "java/lang/String" "value" "[B" (.ref dt) ∧ Arv Z h' dt kt .byte (0 : Int32) [] (.int 0) ∧ Exa Z h' rl "java/lang/String" ∧ Fld Z h' rl "java/lang/String" "coder" "B" (.int 0) ∧ Fld Z h' rl "java/lang/String" "value" "[B" (.ref dl) ∧ Arv Z h' dl kl .byte (0 : Int32) [] (.int 0)) := by
  refine ConS.of_go (plainFor_of_name pn_6) (Ls := #[.val (.ref a), .unset, .unset, .unset]) ?_
  refine GoS.aloadN (pc' := 1) d6_0 rfl rfl rfl ?_
  refine GoS.bipush (pc' := 3) (v := 124) d6_1 rfl rfl ?_
  refine GoS.callV (cells' := 0) (slots' := 0) (pc' := 6) [(.int 124)] [] e (ww hw 34 rfl) (ww hw 35 rfl) (nfS (ww hw 37 rfl)) (ww hw 37 rfl) (ww hw 36 rfl) (ww hw 7 rfl) (ww hw 38 rfl) (by decide) (Con.cold (c_idx1 l Z a0 hw h a b kb x0 cp hcp scp e f g v)) pd_14 d6_3 rfl ?_
  rintro _ _ _ ⟨⟨rfl, rfl⟩, rfl⟩
  show GoS _ _ _ _ _ _ _ _ _ _ _ _ _ _ 6 _ [(.int (if x0 = (124 : Int32) then (0 : Int32) else (-1 : Int32)))]
  rw [if_pos hx0]
  refine GoS.istoreN (pc' := 7) (Ls' := #[.val (.ref a), .val (.int 0), .unset, .unset]) d6_6 rfl rfl ?_
  refine GoS.iloadN (pc' := 8) d6_7 rfl rfl ?_
  refine GoS.ifYes (pc' := 15) d6_8 (XT.i0_ge_t (by decide)) (by decide) (by decide) ?_
  refine GoS.aloadN (pc' := 16) d6_15 rfl rfl rfl ?_
  refine GoS.iconst (pc' := 17) (v := 0) d6_16 rfl rfl ?_
  refine GoS.iloadN (pc' := 18) d6_17 rfl rfl ?_
  refine GoS.callV (cells' := 2) (slots' := 4) (pc' := 21) [(.int 0), (.int 0)] [] e (ww hw 112 rfl) (ww hw 113 rfl) (nfS (ww hw 115 rfl)) (ww hw 115 rfl) (ww hw 114 rfl) (ww hw 7 rfl) (ww hw 116 rfl) (by decide) (c_sub1_0_0 l Z a0 hw h a b kb x0 cp wf hcp hwf hcw hch151 scp sfm e f g v) pd_18 d6_18 rfl ?_
  rintro _ h2 _ ⟨ea_2, eb_2, ke_2, rfl, K2, F2_0, F2_1, F2_2, F2_3, F2_4, F2_5, rfl⟩
  show GoS _ _ _ _ _ _ _ _ _ _ _ _ _ _ 21 _ [(.ref ea_2)]
  refine GoS.astoreN (pc' := 22) (Ls' := #[.val (.ref a), .val (.int 0), .val (.ref ea_2), .unset]) d6_21 rfl rfl rfl ?_
  refine GoS.iloadN (pc' := 23) d6_22 rfl rfl ?_
  refine GoS.ifYes (pc' := 31) d6_23 (XT.i0_ge_t (by decide)) (by decide) (by decide) ?_
  refine GoS.aloadN (pc' := 32) d6_31 rfl rfl rfl ?_
  refine GoS.iloadN (pc' := 33) d6_32 rfl rfl ?_
  refine GoS.iconst (pc' := 34) (v := 1) d6_33 rfl rfl ?_
  refine GoS.iadd (pc' := 35) d6_34 rfl ?_
  show GoS _ _ _ _ _ _ _ _ _ _ _ _ _ _ 35 _ [(.int 1), (.ref a)]
  refine GoS.callV (cells' := 2) (slots' := 4) (pc' := 38) [(.int 1)] [] (e.keep K2) (ww hw 147 rfl) (ww hw 148 rfl) (nfS (ww hw 150 rfl)) (ww hw 150 rfl) (ww hw 149 rfl) (ww hw 7 rfl) (ww hw 151 rfl) (by decide) (c_subI1_1_1a l Z a0 hw h2 a b kb x0 ea_2 eb_2 ke_2 cp wf hcp hwf scp sfm (e.keep K2) (f.keep K2 nin0) (g.keep K2 nin0) (v.keep K2 nin0) F2_0 F2_1 F2_2 F2_3 F2_4 F2_5) pd_19 d6_35 rfl ?_
  rintro _ _ _ ⟨rfl, rfl, rfl⟩
  show GoS _ _ _ _ _ _ _ _ _ _ _ _ _ _ 38 _ [(.ref ea_2)]
  refine GoS.astoreN (pc' := 39) (Ls' := #[.val (.ref a), .val (.int 0), .val (.ref ea_2), .val (.ref ea_2)]) d6_38 rfl rfl rfl ?_
  refine GoS.new (pc' := 42) (cells' := 3) (slots' := 6) (ww hw 75 rfl) (ww hw 76 rfl) (ww hw 32 rfl) d6_39 rfl rfl (by decide) (by decide) rfl ?_
  intro h5 b5 g5 E5 ge5 A5 D5
  have sz6 : h.size ≤ b5 := Nat.le_trans K2.1 (Nat.le_of_eq g5.symm)
  have K7 : Keep h h5 [] := K2.ext E5
  refine GoS.dup (pc' := 43) d6_42 rfl rfl ?_
  refine GoS.aloadN (pc' := 44) d6_43 rfl rfl rfl ?_
  refine GoS.aloadN (pc' := 45) d6_44 rfl rfl rfl ?_
  refine GoS.callC (cells' := 3) (slots' := 6) (pc' := 48) [(.ref ea_2), (.ref ea_2)] [(.ref b5)] (a := b5) rfl rfl (ww hw 77 rfl) (ww hw 78 rfl) (ww hw 32 rfl) (ww hw 79 rfl) (by decide) (Con.cold (c_wlInit l Z a0 hw h5 b5 ea_2 ea_2 ge5 A5 ((D5 (Or.inr (ww hw 82 rfl)) (ty := (.object "java/lang/String")) (by decide) : Fld Z h5 b5 "com/example/inquire/inquire/io/WikiLink" "target" "Ljava/lang/String;" .null)) ((D5 (Or.inr (ww hw 84 rfl)) (ty := (.object "java/lang/String")) (by decide) : Fld Z h5 b5 "com/example/inquire/inquire/io/WikiLink" "label" "Ljava/lang/String;" .null)))) pd_15 d6_45 rfl ?_
  rintro _ h8 _ ⟨⟨rfl, K8, F8_0, F8_1⟩, rfl⟩
  have K9 : Keep h h8 [] := K7.trans K8 (allS (Or.inr sz6) all0)
  show GoS _ _ _ _ _ _ _ _ _ _ _ _ _ _ 48 _ [(.ref b5)]
  have ne10 : ea_2 ≠ b5 := (Nat.ne_of_lt (Nat.lt_of_lt_of_le F2_5.lt0 (Nat.le_of_eq g5.symm)))
  have ne11 : eb_2 ≠ b5 := (Nat.ne_of_lt (Nat.lt_of_lt_of_le F2_5.lt1 (Nat.le_of_eq g5.symm)))
  exact GoS.retR rfl rfl rfl rfl d6_48 ⟨b5, ea_2, eb_2, ke_2, ea_2, eb_2, ke_2, rfl, K9, (A5.keep K8), F8_0, F8_1, ((F2_0.ext E5).keep K8), ((F2_1.ext E5).keep K8 (ninS ne10 nin0)), ((F2_2.ext E5).keep K8 (ninS ne10 nin0)), ((F2_3.ext E5).keep K8 (ninS ne11 nin0)), ((F2_0.ext E5).keep K8), ((F2_1.ext E5).keep K8 (ninS ne10 nin0)), ((F2_2.ext E5).keep K8 (ninS ne10 nin0)), ((F2_3.ext E5).keep K8 (ninS ne11 nin0))⟩
theorem c_parse2_m (hw : HW a0 Z) (h : Heap) (a : Addr) (b : Addr) (kb : ClassId) (x0 : Int32) (x1 : Int32) (cp : Int32) (wf : Value) (hcp : ¬ (cp = (0 : Int32))) (hwf : wf.isRef = true) (hcw : Jvm.Lit.compactW.before a0 Z = true) (hch26 : Jvm.Lit.constHeld Z "com/example/inquire/inquire/io/WikiLink" 26) (hch151 : Jvm.Lit.constHeld Z "java/lang/StringLatin1" 151) (hx0 : ¬ (x0 = (124 : Int32))) (hx1 : ¬ (x1 = (124 : Int32))) (scp : Sta Z Z.heap "java/lang/String" "COMPACT_STRINGS" "Z" (.int cp)) (sfm : Sta Z Z.heap "jdk/internal/util/Preconditions" "SIOOBE_FORMATTER" "Ljava/util/function/BiFunction;" wf) (e : Exa Z h a "java/lang/String") (f : Fld Z h a "java/lang/String" "coder" "B" (.int 0)) (g : Fld Z h a "java/lang/String" "value" "[B" (.ref b)) (v : Arv Z h b kb .byte (2 : Int32) [(.int x0), (.int x1)] (.int 0)) :
    ConS l M_28 prog_40_method_2_code 4 (some (.object "com/example/inquire/inquire/io/WikiLink")) (rm4 4 3 6 59) Z n0 #[(.ref a)] h [] (fun v h' LL' => ∃ w : Addr, ∃ rl : Addr, ∃ dl : Addr, ∃ kl : ClassId, v = some (.ref w) ∧ Keep h h' [] ∧ Exa Z h' w "com/example/inquire/inquire/io/WikiLink" ∧ Fld Z h' w "com/example/inquire/inquire/io/WikiLink" "target" "Ljava/lang/String;" (.ref a) ∧ Fld Z h' w "com/example/inquire/inquire/io/WikiLink" "label" "Ljava/lang/String;" (.ref rl) ∧ Exa Z h' rl "java/lang/String" ∧ Fld Z h' rl "java/lang/String" "coder" "B" (.int 0) ∧ Fld Z h' rl "java/lang/String" "value" "[B" (.ref dl) ∧ Arv Z h' dl kl .byte (0 : Int32) [] (.int 0)) := by
  refine ConS.of_go (plainFor_of_name pn_6) (Ls := #[.val (.ref a), .unset, .unset, .unset]) ?_
  refine GoS.aloadN (pc' := 1) d6_0 rfl rfl rfl ?_
  refine GoS.bipush (pc' := 3) (v := 124) d6_1 rfl rfl ?_
  refine GoS.callV (cells' := 0) (slots' := 0) (pc' := 6) [(.int 124)] [] e (ww hw 34 rfl) (ww hw 35 rfl) (nfS (ww hw 37 rfl)) (ww hw 37 rfl) (ww hw 36 rfl) (ww hw 7 rfl) (ww hw 38 rfl) (by decide) (Con.cold (c_idx2 l Z a0 hw h a b kb x0 x1 cp hcp scp e f g v)) pd_14 d6_3 rfl ?_
  rintro _ _ _ ⟨⟨rfl, rfl⟩, rfl⟩
  show GoS _ _ _ _ _ _ _ _ _ _ _ _ _ _ 6 _ [(.int (if x0 = (124 : Int32) then (0 : Int32) else (if x1 = (124 : Int32) then (1 : Int32) else (-1 : Int32))))]
  rw [if_neg hx0, if_neg hx1]
  refine GoS.istoreN (pc' := 7) (Ls' := #[.val (.ref a), .val (.int (-1 : Int32)), .unset, .unset]) d6_6 rfl rfl ?_
  refine GoS.iloadN (pc' := 8) d6_7 rfl rfl ?_
  refine GoS.ifNo (pc' := 11) d6_8 (XT.i0_ge_f (by decide)) rfl ?_
  refine GoS.aloadN (pc' := 12) d6_11 rfl rfl rfl ?_
  refine GoS.goto (pc' := 21) d6_12 (by decide) (by decide) ?_
  refine GoS.astoreN (pc' := 22) (Ls' := #[.val (.ref a), .val (.int (-1 : Int32)), .val (.ref a), .unset]) d6_21 rfl rfl rfl ?_
  refine GoS.iloadN (pc' := 23) d6_22 rfl rfl ?_
  refine GoS.ifNo (pc' := 26) d6_23 (XT.i0_ge_f (by decide)) rfl ?_
  refine GoS.ldcS (pc' := 28) (cells' := 2) (slots' := 4) (n := 0) (z := (0 : Int32)) (vs := []) (ww hw 74 rfl) (wsA hw) hch26 hcw (Keep.refl h []) HL.nil tx_0 (by decide) rfl d6_26 (nl rfl) (nl rfl) rfl rfl (nl rfl) (nl rfl) rfl ?_
  intro h2 sa2 sb2 kb2 E2 F2_0 F2_1 F2_2 F2_3 F2_4 F2_5
  have K3 : Keep h h2 [] := (Keep.refl h []).ext E2
  have H4 : Hel Z h2 sa2 sb2 "" := ⟨kb2, _, _, F2_0, F2_1, F2_2, F2_3, F2_4, tx_0, rfl⟩
  show GoS _ _ _ _ _ _ _ _ _ _ _ _ _ _ 28 _ [(.ref sa2)]
  refine GoS.goto (pc' := 38) d6_28 (by decide) (by decide) ?_
  refine GoS.astoreN (pc' := 39) (Ls' := #[.val (.ref a), .val (.int (-1 : Int32)), .val (.ref a), .val (.ref sa2)]) d6_38 rfl rfl rfl ?_
  refine GoS.new (pc' := 42) (cells' := 3) (slots' := 6) (ww hw 75 rfl) (ww hw 76 rfl) (ww hw 32 rfl) d6_39 rfl rfl (by decide) (by decide) rfl ?_
  intro h5 b5 g5 E5 ge5 A5 D5
  have sz6 : h.size ≤ b5 := Nat.le_trans K3.1 (Nat.le_of_eq g5.symm)
  have K7 : Keep h h5 [] := K3.ext E5
  refine GoS.dup (pc' := 43) d6_42 rfl rfl ?_
  refine GoS.aloadN (pc' := 44) d6_43 rfl rfl rfl ?_
  refine GoS.aloadN (pc' := 45) d6_44 rfl rfl rfl ?_
  refine GoS.callC (cells' := 3) (slots' := 6) (pc' := 48) [(.ref a), (.ref sa2)] [(.ref b5)] (a := b5) rfl rfl (ww hw 77 rfl) (ww hw 78 rfl) (ww hw 32 rfl) (ww hw 79 rfl) (by decide) (Con.cold (c_wlInit l Z a0 hw h5 b5 a sa2 ge5 A5 ((D5 (Or.inr (ww hw 82 rfl)) (ty := (.object "java/lang/String")) (by decide) : Fld Z h5 b5 "com/example/inquire/inquire/io/WikiLink" "target" "Ljava/lang/String;" .null)) ((D5 (Or.inr (ww hw 84 rfl)) (ty := (.object "java/lang/String")) (by decide) : Fld Z h5 b5 "com/example/inquire/inquire/io/WikiLink" "label" "Ljava/lang/String;" .null)))) pd_15 d6_45 rfl ?_
  rintro _ h8 _ ⟨⟨rfl, K8, F8_0, F8_1⟩, rfl⟩
  have K9 : Keep h h8 [] := K7.trans K8 (allS (Or.inr sz6) all0)
  show GoS _ _ _ _ _ _ _ _ _ _ _ _ _ _ 48 _ [(.ref b5)]
  have ne10 : sa2 ≠ b5 := (Nat.ne_of_lt (Nat.lt_of_lt_of_le H4.lt0 (Nat.le_of_eq g5.symm)))
  have ne11 : sb2 ≠ b5 := (Nat.ne_of_lt (Nat.lt_of_lt_of_le H4.lt1 (Nat.le_of_eq g5.symm)))
  exact GoS.retR rfl rfl rfl rfl d6_48 ⟨b5, sa2, sb2, kb2, rfl, K9, (A5.keep K8), F8_0, F8_1, ((F2_0.ext E5).keep K8), ((F2_1.ext E5).keep K8 (ninS ne10 nin0)), ((F2_2.ext E5).keep K8 (ninS ne10 nin0)), ((F2_3.ext E5).keep K8 (ninS ne11 nin0))⟩
theorem c_newStr2_0_0 (hw : HW a0 Z) (h : Heap) (b : Addr) (hcw : Jvm.Lit.compactW.before a0 Z = true) (hch151 : Jvm.Lit.constHeld Z "java/lang/StringLatin1" 151) :
    ConS l M_29 jdk_43_method_47_code 3 (some (.object "java/lang/String")) (rm4 0 2 4 0) Z n0 #[(.ref b), (.int 0), (.int 0)] h [] (fun v h' LL' => ∃ ea : Addr, ∃ eb : Addr, ∃ ke : ClassId, v = some (.ref ea) ∧ Keep h h' [] ∧ Exa Z h' ea "java/lang/String" ∧ Fld Z h' ea "java/lang/String" "coder" "B" (.int 0) ∧ Fld Z h' ea "java/lang/String" "value" "[B" (.ref eb) ∧ Arv Z h' eb ke .byte (0 : Int32) [] (.int 0) ∧ Exa Z h' eb "[B" ∧ Hel Z h' ea eb ("") ∧ LL' = [("", ea, "java/lang/StringLatin1", 151)]) := by
  refine ConS.of_go (plainFor_of_name pn_2) (Ls := #[.val (.ref b), .val (.int 0), .val (.int 0)]) ?_
  refine GoS.iloadN (pc' := 1) d27_0 rfl rfl ?_
  refine GoS.ifNo (pc' := 4) d27_1 (XT.i0_ne_f (by decide)) rfl ?_
  refine GoS.ldcS (pc' := 6) (cells' := 2) (slots' := 4) (n := 0) (z := (0 : Int32)) (vs := []) (ww hw 153 rfl) (wsA hw) hch151 hcw (Keep.refl h []) HL.nil tx_0 (by decide) rfl d27_4 (nl rfl) (nl rfl) rfl rfl (nl rfl) (nl rfl) rfl ?_
  intro h1 sa1 sb1 kb1 E1 F1_0 F1_1 F1_2 F1_3 F1_4 F1_5
  have K2 : Keep h h1 [] := (Keep.refl h []).ext E1
  have H3 : Hel Z h1 sa1 sb1 "" := ⟨kb1, _, _, F1_0, F1_1, F1_2, F1_3, F1_4, tx_0, rfl⟩
  show GoS _ _ _ _ _ _ _ _ _ _ _ _ _ _ 6 _ [(.ref sa1)]
  exact GoS.retR rfl rfl rfl rfl d27_6 ⟨sa1, sb1, kb1, rfl, K2, F1_0, F1_1, F1_2, F1_3, F1_4, H3, rfl⟩
theorem c_sub2_0_0 (hw : HW a0 Z) (h : Heap) (a : Addr) (b : Addr) (kb : ClassId) (x0 : Int32) (x1 : Int32) (cp : Int32) (wf : Value) (hcp : ¬ (cp = (0 : Int32))) (hwf : wf.isRef = true) (hcw : Jvm.Lit.compactW.before a0 Z = true) (hch151 : Jvm.Lit.constHeld Z "java/lang/StringLatin1" 151) (scp : Sta Z Z.heap "java/lang/String" "COMPACT_STRINGS" "Z" (.int cp)) (sfm : Sta Z Z.heap "jdk/internal/util/Preconditions" "SIOOBE_FORMATTER" "Ljava/util/function/BiFunction;" wf) (e : Exa Z h a "java/lang/String") (f : Fld Z h a "java/lang/String" "coder" "B" (.int 0)) (g : Fld Z h a "java/lang/String" "value" "[B" (.ref b)) (v : Arv Z h b kb .byte (2 : Int32) [(.int x0), (.int x1)] (.int 0)) :
    ConS l M_30 jdk_42_method_92_code 5 (some (.object "java/lang/String")) (rm4 2 2 4 29) Z n0 #[(.ref a), (.int 0), (.int 0)] h [] (fun v h' LL' => ∃ ea : Addr, ∃ eb : Addr, ∃ ke : ClassId, v = some (.ref ea) ∧ Keep h h' [] ∧ Exa Z h' ea "java/lang/String" ∧ Fld Z h' ea "java/lang/String" "coder" "B" (.int 0) ∧ Fld Z h' ea "java/lang/String" "value" "[B" (.ref eb) ∧ Arv Z h' eb ke .byte (0 : Int32) [] (.int 0) ∧ Exa Z h' eb "[B" ∧ Hel Z h' ea eb ("") ∧ LL' = [("", ea, "java/lang/StringLatin1", 151)]) := by
  refine ConS.of_go (plainFor_of_name pn_0) (Ls := #[.val (.ref a), .val (.int 0), .val (.int 0), .unset, .unset]) ?_
  refine GoS.aloadN (pc' := 1) d24_0 rfl rfl rfl ?_
  refine GoS.callV (cells' := 0) (slots' := 0) (pc' := 4) [] [] e (ww hw 50 rfl) (ww hw 51 rfl) (nfS (ww hw 53 rfl)) (ww hw 53 rfl) (ww hw 52 rfl) (ww hw 7 rfl) (ww hw 54 rfl) (by decide) (Con.cold (c_strLen2 l Z a0 hw h a b kb x0 x1 cp hcp scp e f g v)) pd_11 d24_1 rfl ?_
  rintro _ _ _ ⟨⟨rfl, rfl⟩, rfl⟩
  show GoS _ _ _ _ _ _ _ _ _ _ _ _ _ _ 4 _ [(.int 2)]
  refine GoS.istoreN (pc' := 5) (Ls' := #[.val (.ref a), .val (.int 0), .val (.int 0), .val (.int 2), .unset]) d24_4 rfl rfl ?_
  refine GoS.iloadN (pc' := 6) d24_5 rfl rfl ?_
  refine GoS.iloadN (pc' := 7) d24_6 rfl rfl ?_
  refine GoS.iloadN (pc' := 8) d24_7 rfl rfl ?_
  refine GoS.callS (cells' := 0) (slots' := 0) (pc' := 11) [(.int 0), (.int 0), (.int 2)] [] (ww hw 117 rfl) (ww hw 118 rfl) (ww hw 7 rfl) (ww hw 119 rfl) (by decide) (Con.cold (c_bounds l Z a0 hw h (0 : Int32) (0 : Int32) (2 : Int32) wf (by decide) (by decide) (by decide) hwf sfm)) pd_16 d24_8 rfl ?_
  rintro _ _ _ ⟨⟨rfl, rfl⟩, rfl⟩
  show GoS _ _ _ _ _ _ _ _ _ _ _ _ _ _ 11 _ []
  refine GoS.iloadN (pc' := 12) d24_11 rfl rfl ?_
  refine GoS.ifNo (pc' := 15) d24_12 (XT.i0_ne_f (by decide)) rfl ?_
  refine GoS.iloadN (pc' := 16) d24_15 rfl rfl ?_
  refine GoS.iloadN (pc' := 17) d24_16 rfl rfl ?_
  refine GoS.icmpYes (pc' := 22) d24_17 (XT.ii_ne_t (by decide)) (by decide) (by decide) ?_
  refine GoS.iloadN (pc' := 23) d24_22 rfl rfl ?_
  refine GoS.iloadN (pc' := 24) d24_23 rfl rfl ?_
  refine GoS.isub (pc' := 25) d24_24 rfl ?_
  show GoS _ _ _ _ _ _ _ _ _ _ _ _ _ _ 25 _ [(.int 0)]
  refine GoS.istore (pc' := 27) (Ls' := #[.val (.ref a), .val (.int 0), .val (.int 0), .val (.int 2), .val (.int 0)]) d24_25 rfl rfl ?_
  refine GoS.aloadN (pc' := 28) d24_27 rfl rfl rfl ?_
  refine GoS.callV (cells' := 0) (slots' := 0) (pc' := 31) [] [] e (ww hw 44 rfl) (ww hw 45 rfl) (nfS (ww hw 47 rfl)) (ww hw 47 rfl) (ww hw 46 rfl) (ww hw 7 rfl) (ww hw 48 rfl) (by decide) (Con.cold (c_isLatin1 l Z a0 hw h a cp hcp scp f)) pd_3 d24_28 rfl ?_
  rintro _ _ _ ⟨⟨rfl, rfl⟩, rfl⟩
  show GoS _ _ _ _ _ _ _ _ _ _ _ _ _ _ 31 _ [(.int 1)]
  refine GoS.ifNo (pc' := 34) d24_31 (XT.i0_eq_f (by decide)) rfl ?_
  refine GoS.aloadN (pc' := 35) d24_34 rfl rfl rfl ?_
  refine GoS.getfield (pc' := 38) (host := "") (Or.inl (ww hw 28 rfl)) Via.refl g d24_35 rfl ?_
  refine GoS.iloadN (pc' := 39) d24_38 rfl rfl ?_
  refine GoS.iload (pc' := 41) d24_39 rfl rfl ?_
  refine GoS.callS (cells' := 2) (slots' := 4) (pc' := 44) [(.ref b), (.int 0), (.int 0)] [] (ww hw 125 rfl) (ww hw 126 rfl) (ww hw 62 rfl) (ww hw 127 rfl) (by decide) (c_newStr2_0_0 l Z a0 hw h b hcw hch151) pd_17 d24_41 rfl ?_
  rintro _ h4 _ ⟨ea_4, eb_4, ke_4, rfl, K4, F4_0, F4_1, F4_2, F4_3, F4_4, F4_5, rfl⟩
  show GoS _ _ _ _ _ _ _ _ _ _ _ _ _ _ 44 _ [(.ref ea_4)]
  refine GoS.goto (pc' := 57) d24_44 (by decide) (by decide) ?_
  exact GoS.retR rfl rfl rfl rfl d24_57 ⟨ea_4, eb_4, ke_4, rfl, K4, F4_0, F4_1, F4_2, F4_3, F4_4, F4_5, rfl⟩
theorem c_corB2_1_2 (hw : HW a0 Z) (h : Heap) (b : Addr) (kb : ClassId) (x0 : Int32) (x1 : Int32) (v : Arv Z h b kb .byte (2 : Int32) [(.int x0), (.int x1)] (.int 0)) :
    Con l M_32 jdk_65_method_133_code 5 (some (.array .byte)) (rm4 1 1 1 18) Z n0 #[(.ref b), (.int 1), (.int 2)] h (fun v h' => ∃ d : Addr, ∃ kd : ClassId, v = some (.ref d) ∧ Keep h h' [] ∧ n0 ≤ d ∧ h.size ≤ d ∧ Arv Z h' d kd .byte (1 : Int32) [(.int x1)] (.int 0)) := by
  refine Con.of_go (plainFor_of_name pn_5) (Ls := #[.val (.ref b), .val (.int 1), .val (.int 2), .unset, .unset]) ?_
  refine Go.iloadN (pc' := 1) d29_0 rfl rfl ?_
  refine Go.iloadN (pc' := 2) d29_1 rfl rfl ?_
  refine Go.callS (cells' := 0) (slots' := 0) (pc' := 5) [(.int 1), (.int 2)] [] (ww hw 136 rfl) (ww hw 137 rfl) (ww hw 131 rfl) (ww hw 138 rfl) (by decide) (c_chkLen l Z a0 hw h (1 : Int32) (2 : Int32) (by decide)) pd_2 d29_2 rfl ?_
  rintro _ _ ⟨rfl, rfl⟩
  show Go _ _ _ _ _ _ _ _ _ _ _ _ 5 _ []
  refine Go.iloadN (pc' := 6) d29_5 rfl rfl ?_
  refine Go.iloadN (pc' := 7) d29_6 rfl rfl ?_
  refine Go.isub (pc' := 8) d29_7 rfl ?_
  show Go _ _ _ _ _ _ _ _ _ _ _ _ 8 _ [(.int 1)]
  refine Go.istoreN (pc' := 9) (Ls' := #[.val (.ref b), .val (.int 1), .val (.int 2), .val (.int 1), .unset]) d29_8 rfl rfl ?_
  refine Go.iloadN (pc' := 10) d29_9 rfl rfl ?_
  refine Go.newarray (pc' := 12) (cells' := 1) (slots' := 1) (cap := 1) (ww hw 23 rfl) d29_10 (ad := "[B") (by decide) (by decide) (by decide) rfl rfl (by decide) (by decide) (by decide) rfl ?_
  intro h2 b2 g2 E2 ge2 kA2 A2 X2
  have K3 : Keep h h2 [] := (Keep.refl h []).ext E2
  have V2 : Arv Z h2 b2 kA2 .byte (1 : Int32) [(.int 0)] (.int 0) := Arv.pad A2 (pad_rep [] (.int 0) 1)
  refine Go.astore (pc' := 14) (Ls' := #[.val (.ref b), .val (.int 1), .val (.int 2), .val (.int 1), .val (.ref b2)]) d29_12 rfl rfl rfl ?_
  refine Go.aloadN (pc' := 15) d29_14 rfl rfl rfl ?_
  refine Go.iloadN (pc' := 16) d29_15 rfl rfl ?_
  refine Go.aload (pc' := 18) d29_16 rfl rfl rfl ?_
  refine Go.iconst (pc' := 19) (v := 0) d29_18 rfl rfl ?_
  refine Go.aloadN (pc' := 20) d29_19 rfl rfl rfl ?_
  refine Go.arraylength (pc' := 21) (v.ext E2) d29_20 rfl ?_
  refine Go.iloadN (pc' := 22) d29_21 rfl rfl ?_
  refine Go.isub (pc' := 23) d29_22 rfl ?_
  show Go _ _ _ _ _ _ _ _ _ _ _ _ 23 _ [(.int 1), (.int 0), (.ref b2), (.int 1), (.ref b)]
  refine Go.iloadN (pc' := 24) d29_23 rfl rfl ?_
  refine Go.callS (cells' := 1) (slots' := 1) (pc' := 27) [(.int 1), (.int 1)] [(.int 0), (.ref b2), (.int 1), (.ref b)] (ww hw 139 rfl) (ww hw 72 rfl) (ww hw 69 rfl) (ww hw 73 rfl) (by decide) (c_min1_1 l Z a0 hw h2) pd_10 d29_24 rfl ?_
  rintro _ _ ⟨rfl, rfl⟩
  show Go _ _ _ _ _ _ _ _ _ _ _ _ 27 _ [(.int 1), (.int 0), (.ref b2), (.int 1), (.ref b)]
  refine Go.arraycopy (pc' := 30) (us := [(.int x1)]) (vd' := [(.int x1)]) (ww hw 140 rfl) (ww hw 143 rfl) (ww hw 141 rfl) (ww hw 142 rfl) (v.ext E2) V2 (Or.inl ⟨rfl, rfl⟩) (by decide) (by decide) (by decide) (by decide) (by decide) rfl (nl rfl) rfl ge2 d29_27 rfl (nl rfl) (nl rfl) rfl ?_
  intro h5 K6 V7
  have K8 : Keep h h5 [] := K3.trans K6 (allS (Or.inr (Nat.le_of_eq g2.symm)) all0)
  refine Go.aload (pc' := 32) d29_30 rfl rfl rfl ?_
  exact Go.retR rfl rfl rfl rfl d29_32 ⟨b2, kA2, rfl, K8, ge2, (Nat.le_of_eq g2.symm), V7⟩
theorem c_cor2_1_2 (hw : HW a0 Z) (h : Heap) (b : Addr) (kb : ClassId) (x0 : Int32) (x1 : Int32) (v : Arv Z h b kb .byte (2 : Int32) [(.int x0), (.int x1)] (.int 0)) :
    Con l M_33 jdk_65_method_132_code 3 (some (.array .byte)) (rm4 2 1 1 34) Z n0 #[(.ref b), (.int 1), (.int 2)] h (fun v h' => ∃ d : Addr, ∃ kd : ClassId, v = some (.ref d) ∧ Keep h h' [] ∧ n0 ≤ d ∧ h.size ≤ d ∧ Arv Z h' d kd .byte (1 : Int32) [(.int x1)] (.int 0)) := by
  refine Con.of_go (plainFor_of_name pn_5) (Ls := #[.val (.ref b), .val (.int 1), .val (.int 2)]) ?_
  refine Go.iloadN (pc' := 1) d28_0 rfl rfl ?_
  refine Go.ifYes (pc' := 10) d28_1 (XT.i0_ne_t (by decide)) (by decide) (by decide) ?_
  refine Go.aloadN (pc' := 11) d28_10 rfl rfl rfl ?_
  refine Go.iloadN (pc' := 12) d28_11 rfl rfl ?_
  refine Go.iloadN (pc' := 13) d28_12 rfl rfl ?_
  refine Go.callS (cells' := 1) (slots' := 1) (pc' := 16) [(.ref b), (.int 1), (.int 2)] [] (ww hw 133 rfl) (ww hw 134 rfl) (ww hw 131 rfl) (ww hw 135 rfl) (by decide) (c_corB2_1_2 l Z a0 hw h b kb x0 x1 v) pd_20 d28_13 rfl ?_
  rintro _ h1 ⟨d_1, kd_1, rfl, K1, ge_d_1, sz_d_1, F1_0⟩
  show Go _ _ _ _ _ _ _ _ _ _ _ _ 16 _ [(.ref d_1)]
  exact Go.retR rfl rfl rfl rfl d28_16 ⟨d_1, kd_1, rfl, K1, ge_d_1, sz_d_1, F1_0⟩
theorem c_newStr2_1_2 (hw : HW a0 Z) (h : Heap) (b : Addr) (kb : ClassId) (x0 : Int32) (x1 : Int32) (v : Arv Z h b kb .byte (2 : Int32) [(.int x0), (.int x1)] (.int 0)) :
    Con l M_29 jdk_43_method_47_code 3 (some (.object "java/lang/String")) (rm4 3 2 5 50) Z n0 #[(.ref b), (.int 1), (.int 1)] h (fun v h' => ∃ r : Addr, ∃ d : Addr, ∃ kd : ClassId, v = some (.ref r) ∧ Keep h h' [] ∧ n0 ≤ r ∧ h.size ≤ r ∧ n0 ≤ d ∧ h.size ≤ d ∧ r ≠ d ∧ Exa Z h' r "java/lang/String" ∧ Fld Z h' r "java/lang/String" "coder" "B" (.int 0) ∧ Fld Z h' r "java/lang/String" "value" "[B" (.ref d) ∧ Arv Z h' d kd .byte (1 : Int32) [(.int x1)] (.int 0)) := by
  refine Con.of_go (plainFor_of_name pn_2) (Ls := #[.val (.ref b), .val (.int 1), .val (.int 1)]) ?_
  refine Go.iloadN (pc' := 1) d27_0 rfl rfl ?_
  refine Go.ifYes (pc' := 7) d27_1 (XT.i0_ne_t (by decide)) (by decide) (by decide) ?_
  refine Go.new (pc' := 10) (cells' := 1) (slots' := 4) (ww hw 128 rfl) (ww hw 6 rfl) (ww hw 7 rfl) d27_7 rfl rfl (by decide) (by decide) rfl ?_
  intro h1 b1 g1 E1 ge1 A1 D1
  have K2 : Keep h h1 [] := (Keep.refl h []).ext E1
  refine Go.dup (pc' := 11) d27_10 rfl rfl ?_
  refine Go.aloadN (pc' := 12) d27_11 rfl rfl rfl ?_
  refine Go.iloadN (pc' := 13) d27_12 rfl rfl ?_
  refine Go.iloadN (pc' := 14) d27_13 rfl rfl ?_
  refine Go.iloadN (pc' := 15) d27_14 rfl rfl ?_
  refine Go.iadd (pc' := 16) d27_15 rfl ?_
  show Go _ _ _ _ _ _ _ _ _ _ _ _ 16 _ [(.int 2), (.int 1), (.ref b), (.ref b1), (.ref b1)]
  refine Go.callS (cells' := 2) (slots' := 5) (pc' := 19) [(.ref b), (.int 1), (.int 2)] [(.ref b1), (.ref b1)] (ww hw 129 rfl) (ww hw 130 rfl) (ww hw 131 rfl) (ww hw 132 rfl) (by decide) (c_cor2_1_2 l Z a0 hw h1 b kb x0 x1 (v.ext E1)) pd_20 d27_16 rfl ?_
  rintro _ h3 ⟨d_3, kd_3, rfl, K3, ge_d_3, sz_d_3, F3_0⟩
  have sz4 : h.size ≤ d_3 := Nat.le_trans K2.1 sz_d_3
  have K5 : Keep h h3 [] := K2.trans K3 all0
  show Go _ _ _ _ _ _ _ _ _ _ _ _ 19 _ [(.ref d_3), (.ref b1), (.ref b1)]
  refine Go.iconst (pc' := 20) (v := 0) d27_19 rfl rfl ?_
  have f6 : Fld Z h3 b1 "java/lang/String" "value" "[B" .null := ((D1 (Or.inr (ww hw 24 rfl)) (ty := (.array .byte)) (by decide) : Fld Z h1 b1 "java/lang/String" "value" "[B" .null).keep K3 nin0)
  have f7 : Fld Z h3 b1 "java/lang/String" "coder" "B" (.int 0) := ((D1 (Or.inr (ww hw 25 rfl)) (ty := .byte) (by decide) : Fld Z h1 b1 "java/lang/String" "coder" "B" (.int 0)).keep K3 nin0)
  refine Go.callC (cells' := 2) (slots' := 5) (pc' := 23) [(.ref d_3), (.int 0)] [(.ref b1)] (a := b1) rfl rfl (ww hw 144 rfl) (ww hw 145 rfl) (ww hw 7 rfl) (ww hw 146 rfl) (by decide) (c_strB l Z a0 hw h3 b1 d_3 ge1 (A1.keep K3) f6 f7) pd_21 d27_20 rfl ?_
  rintro _ h8 ⟨rfl, K8, F8_0, F8_1⟩
  have K9 : Keep h h8 [] := K5.trans K8 (allS (Or.inr (Nat.le_of_eq g1.symm)) all0)
  show Go _ _ _ _ _ _ _ _ _ _ _ _ 23 _ [(.ref b1)]
  have ne10 : b1 ≠ d_3 := (Nat.ne_of_lt (Nat.lt_of_lt_of_le (D1 (Or.inr (ww hw 25 rfl)) (ty := .byte) (by decide) : Fld Z h1 b1 "java/lang/String" "coder" "B" (.int 0)).lt sz_d_3))
  have f11 : Arv Z h8 d_3 kd_3 .byte (1 : Int32) [(.int x1)] (.int 0) := (F3_0.keep K8 (ninS (Ne.symm ne10) nin0))
  exact Go.retR rfl rfl rfl rfl d27_23 ⟨b1, d_3, kd_3, rfl, K9, ge1, (Nat.le_of_eq g1.symm), ge_d_3, sz4, ne10, ((A1.keep K3).keep K8), F8_1, F8_0, f11⟩
theorem c_sub2_1_2 (hw : HW a0 Z) (h : Heap) (a : Addr) (b : Addr) (kb : ClassId) (x0 : Int32) (x1 : Int32) (cp : Int32) (wf : Value) (hcp : ¬ (cp = (0 : Int32))) (hwf : wf.isRef = true) (scp : Sta Z Z.heap "java/lang/String" "COMPACT_STRINGS" "Z" (.int cp)) (sfm : Sta Z Z.heap "jdk/internal/util/Preconditions" "SIOOBE_FORMATTER" "Ljava/util/function/BiFunction;" wf) (e : Exa Z h a "java/lang/String") (f : Fld Z h a "java/lang/String" "coder" "B" (.int 0)) (g : Fld Z h a "java/lang/String" "value" "[B" (.ref b)) (v : Arv Z h b kb .byte (2 : Int32) [(.int x0), (.int x1)] (.int 0)) :
    Con l M_30 jdk_42_method_92_code 5 (some (.object "java/lang/String")) (rm4 4 2 5 64) Z n0 #[(.ref a), (.int 1), (.int 2)] h (fun v h' => ∃ r : Addr, ∃ d : Addr, ∃ kd : ClassId, v = some (.ref r) ∧ Keep h h' [] ∧ n0 ≤ r ∧ h.size ≤ r ∧ n0 ≤ d ∧ h.size ≤ d ∧ r ≠ d ∧ Exa Z h' r "java/lang/String" ∧ Fld Z h' r "java/lang/String" "coder" "B" (.int 0) ∧ Fld Z h' r "java/lang/String" "value" "[B" (.ref d) ∧ Arv Z h' d kd .byte (1 : Int32) [(.int x1)] (.int 0)) := by
  refine Con.of_go (plainFor_of_name pn_0) (Ls := #[.val (.ref a), .val (.int 1), .val (.int 2), .unset, .unset]) ?_
  refine Go.aloadN (pc' := 1) d24_0 rfl rfl rfl ?_
  refine Go.callV (cells' := 0) (slots' := 0) (pc' := 4) [] [] e (ww hw 50 rfl) (ww hw 51 rfl) (nfS (ww hw 53 rfl)) (ww hw 53 rfl) (ww hw 52 rfl) (ww hw 7 rfl) (ww hw 54 rfl) (by decide) (c_strLen2 l Z a0 hw h a b kb x0 x1 cp hcp scp e f g v) pd_11 d24_1 rfl ?_
  rintro _ _ ⟨rfl, rfl⟩
  show Go _ _ _ _ _ _ _ _ _ _ _ _ 4 _ [(.int 2)]
  refine Go.istoreN (pc' := 5) (Ls' := #[.val (.ref a), .val (.int 1), .val (.int 2), .val (.int 2), .unset]) d24_4 rfl rfl ?_
  refine Go.iloadN (pc' := 6) d24_5 rfl rfl ?_
  refine Go.iloadN (pc' := 7) d24_6 rfl rfl ?_
  refine Go.iloadN (pc' := 8) d24_7 rfl rfl ?_
  refine Go.callS (cells' := 0) (slots' := 0) (pc' := 11) [(.int 1), (.int 2), (.int 2)] [] (ww hw 117 rfl) (ww hw 118 rfl) (ww hw 7 rfl) (ww hw 119 rfl) (by decide) (c_bounds l Z a0 hw h (1 : Int32) (2 : Int32) (2 : Int32) wf (by decide) (by decide) (by decide) hwf sfm) pd_16 d24_8 rfl ?_
  rintro _ _ ⟨rfl, rfl⟩
  show Go _ _ _ _ _ _ _ _ _ _ _ _ 11 _ []
  refine Go.iloadN (pc' := 12) d24_11 rfl rfl ?_
  refine Go.ifYes (pc' := 22) d24_12 (XT.i0_ne_t (by decide)) (by decide) (by decide) ?_
  refine Go.iloadN (pc' := 23) d24_22 rfl rfl ?_
  refine Go.iloadN (pc' := 24) d24_23 rfl rfl ?_
  refine Go.isub (pc' := 25) d24_24 rfl ?_
  show Go _ _ _ _ _ _ _ _ _ _ _ _ 25 _ [(.int 1)]
  refine Go.istore (pc' := 27) (Ls' := #[.val (.ref a), .val (.int 1), .val (.int 2), .val (.int 2), .val (.int 1)]) d24_25 rfl rfl ?_
  refine Go.aloadN (pc' := 28) d24_27 rfl rfl rfl ?_
  refine Go.callV (cells' := 0) (slots' := 0) (pc' := 31) [] [] e (ww hw 44 rfl) (ww hw 45 rfl) (nfS (ww hw 47 rfl)) (ww hw 47 rfl) (ww hw 46 rfl) (ww hw 7 rfl) (ww hw 48 rfl) (by decide) (c_isLatin1 l Z a0 hw h a cp hcp scp f) pd_3 d24_28 rfl ?_
  rintro _ _ ⟨rfl, rfl⟩
  show Go _ _ _ _ _ _ _ _ _ _ _ _ 31 _ [(.int 1)]
  refine Go.ifNo (pc' := 34) d24_31 (XT.i0_eq_f (by decide)) rfl ?_
  refine Go.aloadN (pc' := 35) d24_34 rfl rfl rfl ?_
  refine Go.getfield (pc' := 38) (host := "") (Or.inl (ww hw 28 rfl)) Via.refl g d24_35 rfl ?_
  refine Go.iloadN (pc' := 39) d24_38 rfl rfl ?_
  refine Go.iload (pc' := 41) d24_39 rfl rfl ?_
  refine Go.callS (cells' := 2) (slots' := 5) (pc' := 44) [(.ref b), (.int 1), (.int 1)] [] (ww hw 125 rfl) (ww hw 126 rfl) (ww hw 62 rfl) (ww hw 127 rfl) (by decide) (c_newStr2_1_2 l Z a0 hw h b kb x0 x1 v) pd_17 d24_41 rfl ?_
  rintro _ h4 ⟨r_4, d_4, kd_4, rfl, K4, ge_r_4, sz_r_4, ge_d_4, sz_d_4, ne4_0, F4_0, F4_1, F4_2, F4_3⟩
  show Go _ _ _ _ _ _ _ _ _ _ _ _ 44 _ [(.ref r_4)]
  refine Go.goto (pc' := 57) d24_44 (by decide) (by decide) ?_
  exact Go.retR rfl rfl rfl rfl d24_57 ⟨r_4, d_4, kd_4, rfl, K4, ge_r_4, sz_r_4, ge_d_4, sz_d_4, ne4_0, F4_0, F4_1, F4_2, F4_3⟩
theorem c_subI2_1_2 (hw : HW a0 Z) (h : Heap) (a : Addr) (b : Addr) (kb : ClassId) (x0 : Int32) (x1 : Int32) (cp : Int32) (wf : Value) (hcp : ¬ (cp = (0 : Int32))) (hwf : wf.isRef = true) (scp : Sta Z Z.heap "java/lang/String" "COMPACT_STRINGS" "Z" (.int cp)) (sfm : Sta Z Z.heap "jdk/internal/util/Preconditions" "SIOOBE_FORMATTER" "Ljava/util/function/BiFunction;" wf) (e : Exa Z h a "java/lang/String") (f : Fld Z h a "java/lang/String" "coder" "B" (.int 0)) (g : Fld Z h a "java/lang/String" "value" "[B" (.ref b)) (v : Arv Z h b kb .byte (2 : Int32) [(.int x0), (.int x1)] (.int 0)) :
    Con l M_31 jdk_42_method_91_code 2 (some (.object "java/lang/String")) (rm4 5 2 5 80) Z n0 #[(.ref a), (.int 1)] h (fun v h' => ∃ r : Addr, ∃ d : Addr, ∃ kd : ClassId, v = some (.ref r) ∧ Keep h h' [] ∧ n0 ≤ r ∧ h.size ≤ r ∧ n0 ≤ d ∧ h.size ≤ d ∧ r ≠ d ∧ Exa Z h' r "java/lang/String" ∧ Fld Z h' r "java/lang/String" "coder" "B" (.int 0) ∧ Fld Z h' r "java/lang/String" "value" "[B" (.ref d) ∧ Arv Z h' d kd .byte (1 : Int32) [(.int x1)] (.int 0)) := by
  refine Con.of_go (plainFor_of_name pn_0) (Ls := #[.val (.ref a), .val (.int 1)]) ?_
  refine Go.aloadN (pc' := 1) d32_0 rfl rfl rfl ?_
  refine Go.iloadN (pc' := 2) d32_1 rfl rfl ?_
  refine Go.aloadN (pc' := 3) d32_2 rfl rfl rfl ?_
  refine Go.callV (cells' := 0) (slots' := 0) (pc' := 6) [] [(.int 1), (.ref a)] e (ww hw 50 rfl) (ww hw 51 rfl) (nfS (ww hw 53 rfl)) (ww hw 53 rfl) (ww hw 52 rfl) (ww hw 7 rfl) (ww hw 54 rfl) (by decide) (c_strLen2 l Z a0 hw h a b kb x0 x1 cp hcp scp e f g v) pd_11 d32_3 rfl ?_
  rintro _ _ ⟨rfl, rfl⟩
  show Go _ _ _ _ _ _ _ _ _ _ _ _ 6 _ [(.int 2), (.int 1), (.ref a)]
  refine Go.callV (cells' := 2) (slots' := 5) (pc' := 9) [(.int 1), (.int 2)] [] e (ww hw 152 rfl) (ww hw 113 rfl) (nfS (ww hw 115 rfl)) (ww hw 115 rfl) (ww hw 114 rfl) (ww hw 7 rfl) (ww hw 116 rfl) (by decide) (c_sub2_1_2 l Z a0 hw h a b kb x0 x1 cp wf hcp hwf scp sfm e f g v) pd_18 d32_6 rfl ?_
  rintro _ h2 ⟨r_2, d_2, kd_2, rfl, K2, ge_r_2, sz_r_2, ge_d_2, sz_d_2, ne2_0, F2_0, F2_1, F2_2, F2_3⟩
  show Go _ _ _ _ _ _ _ _ _ _ _ _ 9 _ [(.ref r_2)]
  exact Go.retR rfl rfl rfl rfl d32_9 ⟨r_2, d_2, kd_2, rfl, K2, ge_r_2, sz_r_2, ge_d_2, sz_d_2, ne2_0, F2_0, F2_1, F2_2, F2_3⟩
theorem c_parse2_0 (hw : HW a0 Z) (h : Heap) (a : Addr) (b : Addr) (kb : ClassId) (x0 : Int32) (x1 : Int32) (cp : Int32) (wf : Value) (hcp : ¬ (cp = (0 : Int32))) (hwf : wf.isRef = true) (hcw : Jvm.Lit.compactW.before a0 Z = true) (hch26 : Jvm.Lit.constHeld Z "com/example/inquire/inquire/io/WikiLink" 26) (hch151 : Jvm.Lit.constHeld Z "java/lang/StringLatin1" 151) (hx0 : x0 = (124 : Int32)) (scp : Sta Z Z.heap "java/lang/String" "COMPACT_STRINGS" "Z" (.int cp)) (sfm : Sta Z Z.heap "jdk/internal/util/Preconditions" "SIOOBE_FORMATTER" "Ljava/util/function/BiFunction;" wf) (e : Exa Z h a "java/lang/String") (f : Fld Z h a "java/lang/String" "coder" "B" (.int 0)) (g : Fld Z h a "java/lang/String" "value" "[B" (.ref b)) (v : Arv Z h b kb .byte (2 : Int32) [(.int x0), (.int x1)] (.int 0)) :
    ConS l M_28 prog_40_method_2_code 4 (some (.object "com/example/inquire/inquire/io/WikiLink")) (rm4 6 5 11 93) Z n0 #[(.ref a)] h [] (fun v h' LL' => ∃ w : Addr, ∃ rt : Addr, ∃ dt : Addr, ∃ kt : ClassId, ∃ rl : Addr, ∃ dl : Addr, ∃ kl : ClassId, v = some (.ref w) ∧ Keep h h' [] ∧ Exa Z h' w "com/example/inquire/inquire/io/WikiLink" ∧ Fld Z h' w "com/example/inquire/inquire/io/WikiLink" "target" "Ljava/lang/String;" (.ref rt) ∧ Fld Z h' w "com/example/inquire/inquire/io/WikiLink" "label" "Ljava/lang/String;" (.ref rl) ∧ Exa Z h' rt "java/lang/String" ∧ Fld Z h' rt "java/lang/String" "coder" "B" (.int 0) ∧ Fld Z h' rt "java/lang/String" "value" "[B" (.ref dt) ∧ Arv Z h' dt kt .byte (0 : Int32) [] (.int 0) ∧ Exa Z h' rl "java/lang/String" ∧ Fld Z h' rl "java/lang/String" "coder" "B" (.int 0) ∧ Fld Z h' rl "java/lang/String" "value" "[B" (.ref dl) ∧ Arv Z h' dl kl .byte (1 : Int32) [(.int x1)] (.int 0)) := by
  refine ConS.of_go (plainFor_of_name pn_6) (Ls := #[.val (.ref a), .unset, .unset, .unset]) ?_
  refine GoS.aloadN (pc' := 1) d6_0 rfl rfl rfl ?_
  refine GoS.bipush (pc' := 3) (v := 124) d6_1 rfl rfl ?_
  refine GoS.callV (cells' := 0) (slots' := 0) (pc' := 6) [(.int 124)] [] e (ww hw 34 rfl) (ww hw 35 rfl) (nfS (ww hw 37 rfl)) (ww hw 37 rfl) (ww hw 36 rfl) (ww hw 7 rfl) (ww hw 38 rfl) (by decide) (Con.cold (c_idx2 l Z a0 hw h a b kb x0 x1 cp hcp scp e f g v)) pd_14 d6_3 rfl ?_
  rintro _ _ _ ⟨⟨rfl, rfl⟩, rfl⟩
  show GoS _ _ _ _ _ _ _ _ _ _ _ _ _ _ 6 _ [(.int (if x0 = (124 : Int32) then (0 : Int32) else (if x1 = (124 : Int32) then (1 : Int32) else (-1 : Int32))))]
  rw [if_pos hx0]
  refine GoS.istoreN (pc' := 7) (Ls' := #[.val (.ref a), .val (.int 0), .unset, .unset]) d6_6 rfl rfl ?_
  refine GoS.iloadN (pc' := 8) d6_7 rfl rfl ?_
  refine GoS.ifYes (pc' := 15) d6_8 (XT.i0_ge_t (by decide)) (by decide) (by decide) ?_
  refine GoS.aloadN (pc' := 16) d6_15 rfl rfl rfl ?_
  refine GoS.iconst (pc' := 17) (v := 0) d6_16 rfl rfl ?_
  refine GoS.iloadN (pc' := 18) d6_17 rfl rfl ?_
  refine GoS.callV (cells' := 2) (slots' := 4) (pc' := 21) [(.int 0), (.int 0)] [] e (ww hw 112 rfl) (ww hw 113 rfl) (nfS (ww hw 115 rfl)) (ww hw 115 rfl) (ww hw 114 rfl) (ww hw 7 rfl) (ww hw 116 rfl) (by decide) (c_sub2_0_0 l Z a0 hw h a b kb x0 x1 cp wf hcp hwf hcw hch151 scp sfm e f g v) pd_18 d6_18 rfl ?_
  rintro _ h2 _ ⟨ea_2, eb_2, ke_2, rfl, K2, F2_0, F2_1, F2_2, F2_3, F2_4, F2_5, rfl⟩
  show GoS _ _ _ _ _ _ _ _ _ _ _ _ _ _ 21 _ [(.ref ea_2)]
  refine GoS.astoreN (pc' := 22) (Ls' := #[.val (.ref a), .val (.int 0), .val (.ref ea_2), .unset]) d6_21 rfl rfl rfl ?_
  refine GoS.iloadN (pc' := 23) d6_22 rfl rfl ?_
  refine GoS.ifYes (pc' := 31) d6_23 (XT.i0_ge_t (by decide)) (by decide) (by decide) ?_
  refine GoS.aloadN (pc' := 32) d6_31 rfl rfl rfl ?_
  refine GoS.iloadN (pc' := 33) d6_32 rfl rfl ?_
  refine GoS.iconst (pc' := 34) (v := 1) d6_33 rfl rfl ?_
  refine GoS.iadd (pc' := 35) d6_34 rfl ?_
  show GoS _ _ _ _ _ _ _ _ _ _ _ _ _ _ 35 _ [(.int 1), (.ref a)]
  refine GoS.callV (cells' := 4) (slots' := 9) (pc' := 38) [(.int 1)] [] (e.keep K2) (ww hw 147 rfl) (ww hw 148 rfl) (nfS (ww hw 150 rfl)) (ww hw 150 rfl) (ww hw 149 rfl) (ww hw 7 rfl) (ww hw 151 rfl) (by decide) (Con.cold (c_subI2_1_2 l Z a0 hw h2 a b kb x0 x1 cp wf hcp hwf scp sfm (e.keep K2) (f.keep K2 nin0) (g.keep K2 nin0) (v.keep K2 nin0))) pd_19 d6_35 rfl ?_
  rintro _ h4 _ ⟨⟨r_4, d_4, kd_4, rfl, K4, ge_r_4, sz_r_4, ge_d_4, sz_d_4, ne4_0, F4_0, F4_1, F4_2, F4_3⟩, rfl⟩
  have sz5 : h.size ≤ r_4 := Nat.le_trans K2.1 sz_r_4
  have sz6 : h.size ≤ d_4 := Nat.le_trans K2.1 sz_d_4
  have K7 : Keep h h4 [] := K2.trans K4 all0
  show GoS _ _ _ _ _ _ _ _ _ _ _ _ _ _ 38 _ [(.ref r_4)]
  refine GoS.astoreN (pc' := 39) (Ls' := #[.val (.ref a), .val (.int 0), .val (.ref ea_2), .val (.ref r_4)]) d6_38 rfl rfl rfl ?_
  refine GoS.new (pc' := 42) (cells' := 5) (slots' := 11) (ww hw 75 rfl) (ww hw 76 rfl) (ww hw 32 rfl) d6_39 rfl rfl (by decide) (by decide) rfl ?_
  intro h8 b8 g8 E8 ge8 A8 D8
  have sz9 : h.size ≤ b8 := Nat.le_trans K7.1 (Nat.le_of_eq g8.symm)
  have K10 : Keep h h8 [] := K7.ext E8
  refine GoS.dup (pc' := 43) d6_42 rfl rfl ?_
  refine GoS.aloadN (pc' := 44) d6_43 rfl rfl rfl ?_
  refine GoS.aloadN (pc' := 45) d6_44 rfl rfl rfl ?_
  refine GoS.callC (cells' := 5) (slots' := 11) (pc' := 48) [(.ref ea_2), (.ref r_4)] [(.ref b8)] (a := b8) rfl rfl (ww hw 77 rfl) (ww hw 78 rfl) (ww hw 32 rfl) (ww hw 79 rfl) (by decide) (Con.cold (c_wlInit l Z a0 hw h8 b8 ea_2 r_4 ge8 A8 ((D8 (Or.inr (ww hw 82 rfl)) (ty := (.object "java/lang/String")) (by decide) : Fld Z h8 b8 "com/example/inquire/inquire/io/WikiLink" "target" "Ljava/lang/String;" .null)) ((D8 (Or.inr (ww hw 84 rfl)) (ty := (.object "java/lang/String")) (by decide) : Fld Z h8 b8 "com/example/inquire/inquire/io/WikiLink" "label" "Ljava/lang/String;" .null)))) pd_15 d6_45 rfl ?_
  rintro _ h11 _ ⟨⟨rfl, K11, F11_0, F11_1⟩, rfl⟩
  have K12 : Keep h h11 [] := K10.trans K11 (allS (Or.inr sz9) all0)
  show GoS _ _ _ _ _ _ _ _ _ _ _ _ _ _ 48 _ [(.ref b8)]
  have ne13 : ea_2 ≠ b8 := (Nat.ne_of_lt (Nat.lt_of_lt_of_le (F2_5.keep K4 nin0 nin0).lt0 (Nat.le_of_eq g8.symm)))
  have f14 : Fld Z h11 ea_2 "java/lang/String" "coder" "B" (.int 0) := (((F2_1.keep K4 nin0).ext E8).keep K11 (ninS ne13 nin0))
  have f15 : Fld Z h11 ea_2 "java/lang/String" "value" "[B" (.ref eb_2) := (((F2_2.keep K4 nin0).ext E8).keep K11 (ninS ne13 nin0))
  have ne16 : eb_2 ≠ b8 := (Nat.ne_of_lt (Nat.lt_of_lt_of_le (F2_5.keep K4 nin0 nin0).lt1 (Nat.le_of_eq g8.symm)))
  have f17 : Arv Z h11 eb_2 ke_2 .byte (0 : Int32) [] (.int 0) := (((F2_3.keep K4 nin0).ext E8).keep K11 (ninS ne16 nin0))
  have ne18 : r_4 ≠ b8 := (Nat.ne_of_lt (Nat.lt_of_lt_of_le F4_2.lt (Nat.le_of_eq g8.symm)))
  have f19 : Fld Z h11 r_4 "java/lang/String" "coder" "B" (.int 0) := ((F4_1.ext E8).keep K11 (ninS ne18 nin0))
  have f20 : Fld Z h11 r_4 "java/lang/String" "value" "[B" (.ref d_4) := ((F4_2.ext E8).keep K11 (ninS ne18 nin0))
  have ne21 : d_4 ≠ b8 := (Nat.ne_of_lt (Nat.lt_of_lt_of_le F4_3.lt (Nat.le_of_eq g8.symm)))
  have f22 : Arv Z h11 d_4 kd_4 .byte (1 : Int32) [(.int x1)] (.int 0) := ((F4_3.ext E8).keep K11 (ninS ne21 nin0))
  exact GoS.retR rfl rfl rfl rfl d6_48 ⟨b8, ea_2, eb_2, ke_2, r_4, d_4, kd_4, rfl, K12, (A8.keep K11), F11_0, F11_1, (((F2_0.keep K4).ext E8).keep K11), f14, f15, f17, ((F4_0.ext E8).keep K11), f19, f20, f22⟩
theorem c_min2_1 (hw : HW a0 Z) (h : Heap) :
    Con l M_16 jdk_29_method_69_code 2 (some .int) (rm4 0 0 0 0) Z n0 #[(.int 2), (.int 1)] h (fun v h' => v = some (.int 1) ∧ h = h') := by
  refine Con.of_go (Jvm.Free.JP.mathPlain rfl (by decide +kernel)) (Ls := #[.val (.int 2), .val (.int 1)]) ?_
  refine Go.iloadN (pc' := 1) d15_0 rfl rfl ?_
  refine Go.iloadN (pc' := 2) d15_1 rfl rfl ?_
  refine Go.icmpYes (pc' := 9) d15_2 (XT.ii_gt_t (by decide)) (by decide) (by decide) ?_
  refine Go.iloadN (pc' := 10) d15_9 rfl rfl ?_
  exact Go.retI rfl d15_10 ⟨rfl, rfl⟩
theorem c_corB2_0_1 (hw : HW a0 Z) (h : Heap) (b : Addr) (kb : ClassId) (x0 : Int32) (x1 : Int32) (v : Arv Z h b kb .byte (2 : Int32) [(.int x0), (.int x1)] (.int 0)) :
    Con l M_32 jdk_65_method_133_code 5 (some (.array .byte)) (rm4 1 1 1 18) Z n0 #[(.ref b), (.int 0), (.int 1)] h (fun v h' => ∃ d : Addr, ∃ kd : ClassId, v = some (.ref d) ∧ Keep h h' [] ∧ n0 ≤ d ∧ h.size ≤ d ∧ Arv Z h' d kd .byte (1 : Int32) [(.int x0)] (.int 0)) := by
  refine Con.of_go (plainFor_of_name pn_5) (Ls := #[.val (.ref b), .val (.int 0), .val (.int 1), .unset, .unset]) ?_
  refine Go.iloadN (pc' := 1) d29_0 rfl rfl ?_
  refine Go.iloadN (pc' := 2) d29_1 rfl rfl ?_
  refine Go.callS (cells' := 0) (slots' := 0) (pc' := 5) [(.int 0), (.int 1)] [] (ww hw 136 rfl) (ww hw 137 rfl) (ww hw 131 rfl) (ww hw 138 rfl) (by decide) (c_chkLen l Z a0 hw h (0 : Int32) (1 : Int32) (by decide)) pd_2 d29_2 rfl ?_
  rintro _ _ ⟨rfl, rfl⟩
  show Go _ _ _ _ _ _ _ _ _ _ _ _ 5 _ []
  refine Go.iloadN (pc' := 6) d29_5 rfl rfl ?_
  refine Go.iloadN (pc' := 7) d29_6 rfl rfl ?_
  refine Go.isub (pc' := 8) d29_7 rfl ?_
  show Go _ _ _ _ _ _ _ _ _ _ _ _ 8 _ [(.int 1)]
  refine Go.istoreN (pc' := 9) (Ls' := #[.val (.ref b), .val (.int 0), .val (.int 1), .val (.int 1), .unset]) d29_8 rfl rfl ?_
  refine Go.iloadN (pc' := 10) d29_9 rfl rfl ?_
  refine Go.newarray (pc' := 12) (cells' := 1) (slots' := 1) (cap := 1) (ww hw 23 rfl) d29_10 (ad := "[B") (by decide) (by decide) (by decide) rfl rfl (by decide) (by decide) (by decide) rfl ?_
  intro h2 b2 g2 E2 ge2 kA2 A2 X2
  have K3 : Keep h h2 [] := (Keep.refl h []).ext E2
  have V2 : Arv Z h2 b2 kA2 .byte (1 : Int32) [(.int 0)] (.int 0) := Arv.pad A2 (pad_rep [] (.int 0) 1)
  refine Go.astore (pc' := 14) (Ls' := #[.val (.ref b), .val (.int 0), .val (.int 1), .val (.int 1), .val (.ref b2)]) d29_12 rfl rfl rfl ?_
  refine Go.aloadN (pc' := 15) d29_14 rfl rfl rfl ?_
  refine Go.iloadN (pc' := 16) d29_15 rfl rfl ?_
  refine Go.aload (pc' := 18) d29_16 rfl rfl rfl ?_
  refine Go.iconst (pc' := 19) (v := 0) d29_18 rfl rfl ?_
  refine Go.aloadN (pc' := 20) d29_19 rfl rfl rfl ?_
  refine Go.arraylength (pc' := 21) (v.ext E2) d29_20 rfl ?_
  refine Go.iloadN (pc' := 22) d29_21 rfl rfl ?_
  refine Go.isub (pc' := 23) d29_22 rfl ?_
  show Go _ _ _ _ _ _ _ _ _ _ _ _ 23 _ [(.int 2), (.int 0), (.ref b2), (.int 0), (.ref b)]
  refine Go.iloadN (pc' := 24) d29_23 rfl rfl ?_
  refine Go.callS (cells' := 1) (slots' := 1) (pc' := 27) [(.int 2), (.int 1)] [(.int 0), (.ref b2), (.int 0), (.ref b)] (ww hw 139 rfl) (ww hw 72 rfl) (ww hw 69 rfl) (ww hw 73 rfl) (by decide) (c_min2_1 l Z a0 hw h2) pd_10 d29_24 rfl ?_
  rintro _ _ ⟨rfl, rfl⟩
  show Go _ _ _ _ _ _ _ _ _ _ _ _ 27 _ [(.int 1), (.int 0), (.ref b2), (.int 0), (.ref b)]
  refine Go.arraycopy (pc' := 30) (us := [(.int x0)]) (vd' := [(.int x0)]) (ww hw 140 rfl) (ww hw 143 rfl) (ww hw 141 rfl) (ww hw 142 rfl) (v.ext E2) V2 (Or.inl ⟨rfl, rfl⟩) (by decide) (by decide) (by decide) (by decide) (by decide) rfl (nl rfl) rfl ge2 d29_27 rfl (nl rfl) (nl rfl) rfl ?_
  intro h5 K6 V7
  have K8 : Keep h h5 [] := K3.trans K6 (allS (Or.inr (Nat.le_of_eq g2.symm)) all0)
  refine Go.aload (pc' := 32) d29_30 rfl rfl rfl ?_
  exact Go.retR rfl rfl rfl rfl d29_32 ⟨b2, kA2, rfl, K8, ge2, (Nat.le_of_eq g2.symm), V7⟩
theorem c_cor2_0_1 (hw : HW a0 Z) (h : Heap) (b : Addr) (kb : ClassId) (x0 : Int32) (x1 : Int32) (v : Arv Z h b kb .byte (2 : Int32) [(.int x0), (.int x1)] (.int 0)) :
    Con l M_33 jdk_65_method_132_code 3 (some (.array .byte)) (rm4 2 1 1 34) Z n0 #[(.ref b), (.int 0), (.int 1)] h (fun v h' => ∃ d : Addr, ∃ kd : ClassId, v = some (.ref d) ∧ Keep h h' [] ∧ n0 ≤ d ∧ h.size ≤ d ∧ Arv Z h' d kd .byte (1 : Int32) [(.int x0)] (.int 0)) := by
  refine Con.of_go (plainFor_of_name pn_5) (Ls := #[.val (.ref b), .val (.int 0), .val (.int 1)]) ?_
  refine Go.iloadN (pc' := 1) d28_0 rfl rfl ?_
  refine Go.ifNo (pc' := 4) d28_1 (XT.i0_ne_f (by decide)) rfl ?_
  refine Go.iloadN (pc' := 5) d28_4 rfl rfl ?_
  refine Go.aloadN (pc' := 6) d28_5 rfl rfl rfl ?_
  refine Go.arraylength (pc' := 7) v d28_6 rfl ?_
  refine Go.icmpNo (pc' := 10) d28_7 (XT.ii_eq_f (by decide)) rfl ?_
  refine Go.aloadN (pc' := 11) d28_10 rfl rfl rfl ?_
  refine Go.iloadN (pc' := 12) d28_11 rfl rfl ?_
  refine Go.iloadN (pc' := 13) d28_12 rfl rfl ?_
  refine Go.callS (cells' := 1) (slots' := 1) (pc' := 16) [(.ref b), (.int 0), (.int 1)] [] (ww hw 133 rfl) (ww hw 134 rfl) (ww hw 131 rfl) (ww hw 135 rfl) (by decide) (c_corB2_0_1 l Z a0 hw h b kb x0 x1 v) pd_20 d28_13 rfl ?_
  rintro _ h1 ⟨d_1, kd_1, rfl, K1, ge_d_1, sz_d_1, F1_0⟩
  show Go _ _ _ _ _ _ _ _ _ _ _ _ 16 _ [(.ref d_1)]
  exact Go.retR rfl rfl rfl rfl d28_16 ⟨d_1, kd_1, rfl, K1, ge_d_1, sz_d_1, F1_0⟩
theorem c_newStr2_0_1 (hw : HW a0 Z) (h : Heap) (b : Addr) (kb : ClassId) (x0 : Int32) (x1 : Int32) (v : Arv Z h b kb .byte (2 : Int32) [(.int x0), (.int x1)] (.int 0)) :
    Con l M_29 jdk_43_method_47_code 3 (some (.object "java/lang/String")) (rm4 3 2 5 50) Z n0 #[(.ref b), (.int 0), (.int 1)] h (fun v h' => ∃ r : Addr, ∃ d : Addr, ∃ kd : ClassId, v = some (.ref r) ∧ Keep h h' [] ∧ n0 ≤ r ∧ h.size ≤ r ∧ n0 ≤ d ∧ h.size ≤ d ∧ r ≠ d ∧ Exa Z h' r "java/lang/String" ∧ Fld Z h' r "java/lang/String" "coder" "B" (.int 0) ∧ Fld Z h' r "java/lang/String" "value" "[B" (.ref d) ∧ Arv Z h' d kd .byte (1 : Int32) [(.int x0)] (.int 0)) := by
  refine Con.of_go (plainFor_of_name pn_2) (Ls := #[.val (.ref b), .val (.int 0), .val (.int 1)]) ?_
  refine Go.iloadN (pc' := 1) d27_0 rfl rfl ?_
  refine Go.ifYes (pc' := 7) d27_1 (XT.i0_ne_t (by decide)) (by decide) (by decide) ?_
  refine Go.new (pc' := 10) (cells' := 1) (slots' := 4) (ww hw 128 rfl) (ww hw 6 rfl) (ww hw 7 rfl) d27_7 rfl rfl (by decide) (by decide) rfl ?_
  intro h1 b1 g1 E1 ge1 A1 D1
  have K2 : Keep h h1 [] := (Keep.refl h []).ext E1
  refine Go.dup (pc' := 11) d27_10 rfl rfl ?_
  refine Go.aloadN (pc' := 12) d27_11 rfl rfl rfl ?_
  refine Go.iloadN (pc' := 13) d27_12 rfl rfl ?_
  refine Go.iloadN (pc' := 14) d27_13 rfl rfl ?_
  refine Go.iloadN (pc' := 15) d27_14 rfl rfl ?_
  refine Go.iadd (pc' := 16) d27_15 rfl ?_
  show Go _ _ _ _ _ _ _ _ _ _ _ _ 16 _ [(.int 1), (.int 0), (.ref b), (.ref b1), (.ref b1)]
  refine Go.callS (cells' := 2) (slots' := 5) (pc' := 19) [(.ref b), (.int 0), (.int 1)] [(.ref b1), (.ref b1)] (ww hw 129 rfl) (ww hw 130 rfl) (ww hw 131 rfl) (ww hw 132 rfl) (by decide) (c_cor2_0_1 l Z a0 hw h1 b kb x0 x1 (v.ext E1)) pd_20 d27_16 rfl ?_
  rintro _ h3 ⟨d_3, kd_3, rfl, K3, ge_d_3, sz_d_3, F3_0⟩
  have sz4 : h.size ≤ d_3 := Nat.le_trans K2.1 sz_d_3
  have K5 : Keep h h3 [] := K2.trans K3 all0
  show Go _ _ _ _ _ _ _ _ _ _ _ _ 19 _ [(.ref d_3), (.ref b1), (.ref b1)]
  refine Go.iconst (pc' := 20) (v := 0) d27_19 rfl rfl ?_
  have f6 : Fld Z h3 b1 "java/lang/String" "value" "[B" .null := ((D1 (Or.inr (ww hw 24 rfl)) (ty := (.array .byte)) (by decide) : Fld Z h1 b1 "java/lang/String" "value" "[B" .null).keep K3 nin0)
  have f7 : Fld Z h3 b1 "java/lang/String" "coder" "B" (.int 0) := ((D1 (Or.inr (ww hw 25 rfl)) (ty := .byte) (by decide) : Fld Z h1 b1 "java/lang/String" "coder" "B" (.int 0)).keep K3 nin0)
  refine Go.callC (cells' := 2) (slots' := 5) (pc' := 23) [(.ref d_3), (.int 0)] [(.ref b1)] (a := b1) rfl rfl (ww hw 144 rfl) (ww hw 145 rfl) (ww hw 7 rfl) (ww hw 146 rfl) (by decide) (c_strB l Z a0 hw h3 b1 d_3 ge1 (A1.keep K3) f6 f7) pd_21 d27_20 rfl ?_
  rintro _ h8 ⟨rfl, K8, F8_0, F8_1⟩
  have K9 : Keep h h8 [] := K5.trans K8 (allS (Or.inr (Nat.le_of_eq g1.symm)) all0)
  show Go _ _ _ _ _ _ _ _ _ _ _ _ 23 _ [(.ref b1)]
  have ne10 : b1 ≠ d_3 := (Nat.ne_of_lt (Nat.lt_of_lt_of_le (D1 (Or.inr (ww hw 25 rfl)) (ty := .byte) (by decide) : Fld Z h1 b1 "java/lang/String" "coder" "B" (.int 0)).lt sz_d_3))
  have f11 : Arv Z h8 d_3 kd_3 .byte (1 : Int32) [(.int x0)] (.int 0) := (F3_0.keep K8 (ninS (Ne.symm ne10) nin0))
  exact Go.retR rfl rfl rfl rfl d27_23 ⟨b1, d_3, kd_3, rfl, K9, ge1, (Nat.le_of_eq g1.symm), ge_d_3, sz4, ne10, ((A1.keep K3).keep K8), F8_1, F8_0, f11⟩
theorem c_sub2_0_1 (hw : HW a0 Z) (h : Heap) (a : Addr) (b : Addr) (kb : ClassId) (x0 : Int32) (x1 : Int32) (cp : Int32) (wf : Value) (hcp : ¬ (cp = (0 : Int32))) (hwf : wf.isRef = true) (scp : Sta Z Z.heap "java/lang/String" "COMPACT_STRINGS" "Z" (.int cp)) (sfm : Sta Z Z.heap "jdk/internal/util/Preconditions" "SIOOBE_FORMATTER" "Ljava/util/function/BiFunction;" wf) (e : Exa Z h a "java/lang/String") (f : Fld Z h a "java/lang/String" "coder" "B" (.int 0)) (g : Fld Z h a "java/lang/String" "value" "[B" (.ref b)) (v : Arv Z h b kb .byte (2 : Int32) [(.int x0), (.int x1)] (.int 0)) :
    Con l M_30 jdk_42_method_92_code 5 (some (.object "java/lang/String")) (rm4 4 2 5 64) Z n0 #[(.ref a), (.int 0), (.int 1)] h (fun v h' => ∃ r : Addr, ∃ d : Addr, ∃ kd : ClassId, v = some (.ref r) ∧ Keep h h' [] ∧ n0 ≤ r ∧ h.size ≤ r ∧ n0 ≤ d ∧ h.size ≤ d ∧ r ≠ d ∧ Exa Z h' r "java/lang/String" ∧ Fld Z h' r "java/lang/String" "coder" "B" (.int 0) ∧ Fld Z h' r "java/lang/String" "value" "[B" (.ref d) ∧ Arv Z h' d kd .byte (1 : Int32) [(.int x0)] (.int 0)) := by
  refine Con.of_go (plainFor_of_name pn_0) (Ls := #[.val (.ref a), .val (.int 0), .val (.int 1), .unset, .unset]) ?_
  refine Go.aloadN (pc' := 1) d24_0 rfl rfl rfl ?_
  refine Go.callV (cells' := 0) (slots' := 0) (pc' := 4) [] [] e (ww hw 50 rfl) (ww hw 51 rfl) (nfS (ww hw 53 rfl)) (ww hw 53 rfl) (ww hw 52 rfl) (ww hw 7 rfl) (ww hw 54 rfl) (by decide) (c_strLen2 l Z a0 hw h a b kb x0 x1 cp hcp scp e f g v) pd_11 d24_1 rfl ?_
  rintro _ _ ⟨rfl, rfl⟩
  show Go _ _ _ _ _ _ _ _ _ _ _ _ 4 _ [(.int 2)]
  refine Go.istoreN (pc' := 5) (Ls' := #[.val (.ref a), .val (.int 0), .val (.int 1), .val (.int 2), .unset]) d24_4 rfl rfl ?_
  refine Go.iloadN (pc' := 6) d24_5 rfl rfl ?_
  refine Go.iloadN (pc' := 7) d24_6 rfl rfl ?_
  refine Go.iloadN (pc' := 8) d24_7 rfl rfl ?_
  refine Go.callS (cells' := 0) (slots' := 0) (pc' := 11) [(.int 0), (.int 1), (.int 2)] [] (ww hw 117 rfl) (ww hw 118 rfl) (ww hw 7 rfl) (ww hw 119 rfl) (by decide) (c_bounds l Z a0 hw h (0 : Int32) (1 : Int32) (2 : Int32) wf (by decide) (by decide) (by decide) hwf sfm) pd_16 d24_8 rfl ?_
  rintro _ _ ⟨rfl, rfl⟩
  show Go _ _ _ _ _ _ _ _ _ _ _ _ 11 _ []
  refine Go.iloadN (pc' := 12) d24_11 rfl rfl ?_
  refine Go.ifNo (pc' := 15) d24_12 (XT.i0_ne_f (by decide)) rfl ?_
  refine Go.iloadN (pc' := 16) d24_15 rfl rfl ?_
  refine Go.iloadN (pc' := 17) d24_16 rfl rfl ?_
  refine Go.icmpYes (pc' := 22) d24_17 (XT.ii_ne_t (by decide)) (by decide) (by decide) ?_
  refine Go.iloadN (pc' := 23) d24_22 rfl rfl ?_
  refine Go.iloadN (pc' := 24) d24_23 rfl rfl ?_
  refine Go.isub (pc' := 25) d24_24 rfl ?_
  show Go _ _ _ _ _ _ _ _ _ _ _ _ 25 _ [(.int 1)]
  refine Go.istore (pc' := 27) (Ls' := #[.val (.ref a), .val (.int 0), .val (.int 1), .val (.int 2), .val (.int 1)]) d24_25 rfl rfl ?_
  refine Go.aloadN (pc' := 28) d24_27 rfl rfl rfl ?_
  refine Go.callV (cells' := 0) (slots' := 0) (pc' := 31) [] [] e (ww hw 44 rfl) (ww hw 45 rfl) (nfS (ww hw 47 rfl)) (ww hw 47 rfl) (ww hw 46 rfl) (ww hw 7 rfl) (ww hw 48 rfl) (by decide) (c_isLatin1 l Z a0 hw h a cp hcp scp f) pd_3 d24_28 rfl ?_
  rintro _ _ ⟨rfl, rfl⟩
  show Go _ _ _ _ _ _ _ _ _ _ _ _ 31 _ [(.int 1)]
  refine Go.ifNo (pc' := 34) d24_31 (XT.i0_eq_f (by decide)) rfl ?_
  refine Go.aloadN (pc' := 35) d24_34 rfl rfl rfl ?_
  refine Go.getfield (pc' := 38) (host := "") (Or.inl (ww hw 28 rfl)) Via.refl g d24_35 rfl ?_
  refine Go.iloadN (pc' := 39) d24_38 rfl rfl ?_
  refine Go.iload (pc' := 41) d24_39 rfl rfl ?_
  refine Go.callS (cells' := 2) (slots' := 5) (pc' := 44) [(.ref b), (.int 0), (.int 1)] [] (ww hw 125 rfl) (ww hw 126 rfl) (ww hw 62 rfl) (ww hw 127 rfl) (by decide) (c_newStr2_0_1 l Z a0 hw h b kb x0 x1 v) pd_17 d24_41 rfl ?_
  rintro _ h4 ⟨r_4, d_4, kd_4, rfl, K4, ge_r_4, sz_r_4, ge_d_4, sz_d_4, ne4_0, F4_0, F4_1, F4_2, F4_3⟩
  show Go _ _ _ _ _ _ _ _ _ _ _ _ 44 _ [(.ref r_4)]
  refine Go.goto (pc' := 57) d24_44 (by decide) (by decide) ?_
  exact Go.retR rfl rfl rfl rfl d24_57 ⟨r_4, d_4, kd_4, rfl, K4, ge_r_4, sz_r_4, ge_d_4, sz_d_4, ne4_0, F4_0, F4_1, F4_2, F4_3⟩
theorem c_newStr2_2_2 (hw : HW a0 Z) (h : Heap) (b : Addr) (hcw : Jvm.Lit.compactW.before a0 Z = true) (hch151 : Jvm.Lit.constHeld Z "java/lang/StringLatin1" 151) :
    ConS l M_29 jdk_43_method_47_code 3 (some (.object "java/lang/String")) (rm4 0 2 4 0) Z n0 #[(.ref b), (.int 2), (.int 0)] h [] (fun v h' LL' => ∃ ea : Addr, ∃ eb : Addr, ∃ ke : ClassId, v = some (.ref ea) ∧ Keep h h' [] ∧ Exa Z h' ea "java/lang/String" ∧ Fld Z h' ea "java/lang/String" "coder" "B" (.int 0) ∧ Fld Z h' ea "java/lang/String" "value" "[B" (.ref eb) ∧ Arv Z h' eb ke .byte (0 : Int32) [] (.int 0) ∧ Exa Z h' eb "[B" ∧ Hel Z h' ea eb ("") ∧ LL' = [("", ea, "java/lang/StringLatin1", 151)]) := by
  refine ConS.of_go (plainFor_of_name pn_2) (Ls := #[.val (.ref b), .val (.int 2), .val (.int 0)]) ?_
  refine GoS.iloadN (pc' := 1) d27_0 rfl rfl ?_
  refine GoS.ifNo (pc' := 4) d27_1 (XT.i0_ne_f (by decide)) rfl ?_
  refine GoS.ldcS (pc' := 6) (cells' := 2) (slots' := 4) (n := 0) (z := (0 : Int32)) (vs := []) (ww hw 153 rfl) (wsA hw) hch151 hcw (Keep.refl h []) HL.nil tx_0 (by decide) rfl d27_4 (nl rfl) (nl rfl) rfl rfl (nl rfl) (nl rfl) rfl ?_
  intro h1 sa1 sb1 kb1 E1 F1_0 F1_1 F1_2 F1_3 F1_4 F1_5
  have K2 : Keep h h1 [] := (Keep.refl h []).ext E1
  have H3 : Hel Z h1 sa1 sb1 "" := ⟨kb1, _, _, F1_0, F1_1, F1_2, F1_3, F1_4, tx_0, rfl⟩
  show GoS _ _ _ _ _ _ _ _ _ _ _ _ _ _ 6 _ [(.ref sa1)]
  exact GoS.retR rfl rfl rfl rfl d27_6 ⟨sa1, sb1, kb1, rfl, K2, F1_0, F1_1, F1_2, F1_3, F1_4, H3, rfl⟩
theorem c_sub2_2_2 (hw : HW a0 Z) (h : Heap) (a : Addr) (b : Addr) (kb : ClassId) (x0 : Int32) (x1 : Int32) (cp : Int32) (wf : Value) (hcp : ¬ (cp = (0 : Int32))) (hwf : wf.isRef = true) (hcw : Jvm.Lit.compactW.before a0 Z = true) (hch151 : Jvm.Lit.constHeld Z "java/lang/StringLatin1" 151) (scp : Sta Z Z.heap "java/lang/String" "COMPACT_STRINGS" "Z" (.int cp)) (sfm : Sta Z Z.heap "jdk/internal/util/Preconditions" "SIOOBE_FORMATTER" "Ljava/util/function/BiFunction;" wf) (e : Exa Z h a "java/lang/String") (f : Fld Z h a "java/lang/String" "coder" "B" (.int 0)) (g : Fld Z h a "java/lang/String" "value" "[B" (.ref b)) (v : Arv Z h b kb .byte (2 : Int32) [(.int x0), (.int x1)] (.int 0)) :
    ConS l M_30 jdk_42_method_92_code 5 (some (.object "java/lang/String")) (rm4 2 2 4 29) Z n0 #[(.ref a), (.int 2), (.int 2)] h [] (fun v h' LL' => ∃ ea : Addr, ∃ eb : Addr, ∃ ke : ClassId, v = some (.ref ea) ∧ Keep h h' [] ∧ Exa Z h' ea "java/lang/String" ∧ Fld Z h' ea "java/lang/String" "coder" "B" (.int 0) ∧ Fld Z h' ea "java/lang/String" "value" "[B" (.ref eb) ∧ Arv Z h' eb ke .byte (0 : Int32) [] (.int 0) ∧ Exa Z h' eb "[B" ∧ Hel Z h' ea eb ("") ∧ LL' = [("", ea, "java/lang/StringLatin1", 151)]) := by
  refine ConS.of_go (plainFor_of_name pn_0) (Ls := #[.val (.ref a), .val (.int 2), .val (.int 2), .unset, .unset]) ?_
  refine GoS.aloadN (pc' := 1) d24_0 rfl rfl rfl ?_
  refine GoS.callV (cells' := 0) (slots' := 0) (pc' := 4) [] [] e (ww hw 50 rfl) (ww hw 51 rfl) (nfS (ww hw 53 rfl)) (ww hw 53 rfl) (ww hw 52 rfl) (ww hw 7 rfl) (ww hw 54 rfl) (by decide) (Con.cold (c_strLen2 l Z a0 hw h a b kb x0 x1 cp hcp scp e f g v)) pd_11 d24_1 rfl ?_
  rintro _ _ _ ⟨⟨rfl, rfl⟩, rfl⟩
  show GoS _ _ _ _ _ _ _ _ _ _ _ _ _ _ 4 _ [(.int 2)]
  refine GoS.istoreN (pc' := 5) (Ls' := #[.val (.ref a), .val (.int 2), .val (.int 2), .val (.int 2), .unset]) d24_4 rfl rfl ?_
  refine GoS.iloadN (pc' := 6) d24_5 rfl rfl ?_
  refine GoS.iloadN (pc' := 7) d24_6 rfl rfl ?_
  refine GoS.iloadN (pc' := 8) d24_7 rfl rfl ?_
  refine GoS.callS (cells' := 0) (slots' := 0) (pc' := 11) [(.int 2), (.int 2), (.int 2)] [] (ww hw 117 rfl) (ww hw 118 rfl) (ww hw 7 rfl) (ww hw 119 rfl) (by decide) (Con.cold (c_bounds l Z a0 hw h (2 : Int32) (2 : Int32) (2 : Int32) wf (by decide) (by decide) (by decide) hwf sfm)) pd_16 d24_8 rfl ?_
  rintro _ _ _ ⟨⟨rfl, rfl⟩, rfl⟩
  show GoS _ _ _ _ _ _ _ _ _ _ _ _ _ _ 11 _ []
  refine GoS.iloadN (pc' := 12) d24_11 rfl rfl ?_
  refine GoS.ifYes (pc' := 22) d24_12 (XT.i0_ne_t (by decide)) (by decide) (by decide) ?_
  refine GoS.iloadN (pc' := 23) d24_22 rfl rfl ?_
  refine GoS.iloadN (pc' := 24) d24_23 rfl rfl ?_
  refine GoS.isub (pc' := 25) d24_24 rfl ?_
  show GoS _ _ _ _ _ _ _ _ _ _ _ _ _ _ 25 _ [(.int 0)]
  refine GoS.istore (pc' := 27) (Ls' := #[.val (.ref a), .val (.int 2), .val (.int 2), .val (.int 2), .val (.int 0)]) d24_25 rfl rfl ?_
  refine GoS.aloadN (pc' := 28) d24_27 rfl rfl rfl ?_
  refine GoS.callV (cells' := 0) (slots' := 0) (pc' := 31) [] [] e (ww hw 44 rfl) (ww hw 45 rfl) (nfS (ww hw 47 rfl)) (ww hw 47 rfl) (ww hw 46 rfl) (ww hw 7 rfl) (ww hw 48 rfl) (by decide) (Con.cold (c_isLatin1 l Z a0 hw h a cp hcp scp f)) pd_3 d24_28 rfl ?_
  rintro _ _ _ ⟨⟨rfl, rfl⟩, rfl⟩
  show GoS _ _ _ _ _ _ _ _ _ _ _ _ _ _ 31 _ [(.int 1)]
  refine GoS.ifNo (pc' := 34) d24_31 (XT.i0_eq_f (by decide)) rfl ?_
  refine GoS.aloadN (pc' := 35) d24_34 rfl rfl rfl ?_
  refine GoS.getfield (pc' := 38) (host := "") (Or.inl (ww hw 28 rfl)) Via.refl g d24_35 rfl ?_
  refine GoS.iloadN (pc' := 39) d24_38 rfl rfl ?_
  refine GoS.iload (pc' := 41) d24_39 rfl rfl ?_
  refine GoS.callS (cells' := 2) (slots' := 4) (pc' := 44) [(.ref b), (.int 2), (.int 0)] [] (ww hw 125 rfl) (ww hw 126 rfl) (ww hw 62 rfl) (ww hw 127 rfl) (by decide) (c_newStr2_2_2 l Z a0 hw h b hcw hch151) pd_17 d24_41 rfl ?_
  rintro _ h4 _ ⟨ea_4, eb_4, ke_4, rfl, K4, F4_0, F4_1, F4_2, F4_3, F4_4, F4_5, rfl⟩
  show GoS _ _ _ _ _ _ _ _ _ _ _ _ _ _ 44 _ [(.ref ea_4)]
  refine GoS.goto (pc' := 57) d24_44 (by decide) (by decide) ?_
  exact GoS.retR rfl rfl rfl rfl d24_57 ⟨ea_4, eb_4, ke_4, rfl, K4, F4_0, F4_1, F4_2, F4_3, F4_4, F4_5, rfl⟩
theorem c_subI2_2_2 (hw : HW a0 Z) (h : Heap) (a : Addr) (b : Addr) (kb : ClassId) (x0 : Int32) (x1 : Int32) (cp : Int32) (wf : Value) (hcp : ¬ (cp = (0 : Int32))) (hwf : wf.isRef = true) (hcw : Jvm.Lit.compactW.before a0 Z = true) (hch151 : Jvm.Lit.constHeld Z "java/lang/StringLatin1" 151) (scp : Sta Z Z.heap "java/lang/String" "COMPACT_STRINGS" "Z" (.int cp)) (sfm : Sta Z Z.heap "jdk/internal/util/Preconditions" "SIOOBE_FORMATTER" "Ljava/util/function/BiFunction;" wf) (e : Exa Z h a "java/lang/String") (f : Fld Z h a "java/lang/String" "coder" "B" (.int 0)) (g : Fld Z h a "java/lang/String" "value" "[B" (.ref b)) (v : Arv Z h b kb .byte (2 : Int32) [(.int x0), (.int x1)] (.int 0)) :
    ConS l M_31 jdk_42_method_91_code 2 (some (.object "java/lang/String")) (rm4 3 2 4 45) Z n0 #[(.ref a), (.int 2)] h [] (fun v h' LL' => ∃ ea : Addr, ∃ eb : Addr, ∃ ke : ClassId, v = some (.ref ea) ∧ Keep h h' [] ∧ Exa Z h' ea "java/lang/String" ∧ Fld Z h' ea "java/lang/String" "coder" "B" (.int 0) ∧ Fld Z h' ea "java/lang/String" "value" "[B" (.ref eb) ∧ Arv Z h' eb ke .byte (0 : Int32) [] (.int 0) ∧ Exa Z h' eb "[B" ∧ Hel Z h' ea eb ("") ∧ LL' = [("", ea, "java/lang/StringLatin1", 151)]) := by
  refine ConS.of_go (plainFor_of_name pn_0) (Ls := #[.val (.ref a), .val (.int 2)]) ?_
  refine GoS.aloadN (pc' := 1) d32_0 rfl rfl rfl ?_
  refine GoS.iloadN (pc' := 2) d32_1 rfl rfl ?_
  refine GoS.aloadN (pc' := 3) d32_2 rfl rfl rfl ?_
  refine GoS.callV (cells' := 0) (slots' := 0) (pc' := 6) [] [(.int 2), (.ref a)] e (ww hw 50 rfl) (ww hw 51 rfl) (nfS (ww hw 53 rfl)) (ww hw 53 rfl) (ww hw 52 rfl) (ww hw 7 rfl) (ww hw 54 rfl) (by decide) (Con.cold (c_strLen2 l Z a0 hw h a b kb x0 x1 cp hcp scp e f g v)) pd_11 d32_3 rfl ?_
  rintro _ _ _ ⟨⟨rfl, rfl⟩, rfl⟩
  show GoS _ _ _ _ _ _ _ _ _ _ _ _ _ _ 6 _ [(.int 2), (.int 2), (.ref a)]
  refine GoS.callV (cells' := 2) (slots' := 4) (pc' := 9) [(.int 2), (.int 2)] [] e (ww hw 152 rfl) (ww hw 113 rfl) (nfS (ww hw 115 rfl)) (ww hw 115 rfl) (ww hw 114 rfl) (ww hw 7 rfl) (ww hw 116 rfl) (by decide) (c_sub2_2_2 l Z a0 hw h a b kb x0 x1 cp wf hcp hwf hcw hch151 scp sfm e f g v) pd_18 d32_6 rfl ?_
  rintro _ h2 _ ⟨ea_2, eb_2, ke_2, rfl, K2, F2_0, F2_1, F2_2, F2_3, F2_4, F2_5, rfl⟩
  show GoS _ _ _ _ _ _ _ _ _ _ _ _ _ _ 9 _ [(.ref ea_2)]
  exact GoS.retR rfl rfl rfl rfl d32_9 ⟨ea_2, eb_2, ke_2, rfl, K2, F2_0, F2_1, F2_2, F2_3, F2_4, F2_5, rfl⟩
theorem c_parse2_1 (hw : HW a0 Z) (h : Heap) (a : Addr) (b : Addr) (kb : ClassId) (x0 : Int32) (x1 : Int32) (cp : Int32) (wf : Value) (hcp : ¬ (cp = (0 : Int32))) (hwf : wf.isRef = true) (hcw : Jvm.Lit.compactW.before a0 Z = true) (hch26 : Jvm.Lit.constHeld Z "com/example/inquire/inquire/io/WikiLink" 26) (hch151 : Jvm.Lit.constHeld Z "java/lang/StringLatin1" 151) (hx0 : ¬ (x0 = (124 : Int32))) (hx1 : x1 = (124 : Int32)) (scp : Sta Z Z.heap "java/lang/String" "COMPACT_STRINGS" "Z" (.int cp)) (sfm : Sta Z Z.heap "jdk/internal/util/Preconditions" "SIOOBE_FORMATTER" "Ljava/util/function/BiFunction;" wf) (e : Exa Z h a "java/lang/String") (f : Fld Z h a "java/lang/String" "coder" "B" (.int 0)) (g : Fld Z h a "java/lang/String" "value" "[B" (.ref b)) (v : Arv Z h b kb .byte (2 : Int32) [(.int x0), (.int x1)] (.int 0)) :
    ConS l M_28 prog_40_method_2_code 4 (some (.object "com/example/inquire/inquire/io/WikiLink")) (rm4 5 5 11 80) Z n0 #[(.ref a)] h [] (fun v h' LL' => ∃ w : Addr, ∃ rt : Addr, ∃ dt : Addr, ∃ kt : ClassId, ∃ rl : Addr, ∃ dl : Addr, ∃ kl : ClassId, v = some (.ref w) ∧ Keep h h' [] ∧ Exa Z h' w "com/example/inquire/inquire/io/WikiLink" ∧ Fld Z h' w "com/example/inquire/inquire/io/WikiLink" "target" "Ljava/lang/String;" (.ref rt) ∧ Fld Z h' w "com/example/inquire/inquire/io/WikiLink" "label" "Ljava/lang/String;" (.ref rl) ∧ Exa Z h' rt "java/lang/String" ∧ Fld Z h' rt "java/lang/String" "coder" "B" (.int 0) ∧ Fld Z h' rt "java/lang/String" "value" "[B" (.ref dt) ∧ Arv Z h' dt kt .byte (1 : Int32) [(.int x0)] (.int 0) ∧ Exa Z h' rl "java/lang/String" ∧ Fld Z h' rl "java/lang/String" "coder" "B" (.int 0) ∧ Fld Z h' rl "java/lang/String" "value" "[B" (.ref dl) ∧ Arv Z h' dl kl .byte (0 : Int32) [] (.int 0)) := by
  refine ConS.of_go (plainFor_of_name pn_6) (Ls := #[.val (.ref a), .unset, .unset, .unset]) ?_
  refine GoS.aloadN (pc' := 1) d6_0 rfl rfl rfl ?_
  refine GoS.bipush (pc' := 3) (v := 124) d6_1 rfl rfl ?_
  refine GoS.callV (cells' := 0) (slots' := 0) (pc' := 6) [(.int 124)] [] e (ww hw 34 rfl) (ww hw 35 rfl) (nfS (ww hw 37 rfl)) (ww hw 37 rfl) (ww hw 36 rfl) (ww hw 7 rfl) (ww hw 38 rfl) (by decide) (Con.cold (c_idx2 l Z a0 hw h a b kb x0 x1 cp hcp scp e f g v)) pd_14 d6_3 rfl ?_
  rintro _ _ _ ⟨⟨rfl, rfl⟩, rfl⟩
  show GoS _ _ _ _ _ _ _ _ _ _ _ _ _ _ 6 _ [(.int (if x0 = (124 : Int32) then (0 : Int32) else (if x1 = (124 : Int32) then (1 : Int32) else (-1 : Int32))))]
  rw [if_neg hx0, if_pos hx1]
  refine GoS.istoreN (pc' := 7) (Ls' := #[.val (.ref a), .val (.int 1), .unset, .unset]) d6_6 rfl rfl ?_
  refine GoS.iloadN (pc' := 8) d6_7 rfl rfl ?_
  refine GoS.ifYes (pc' := 15) d6_8 (XT.i0_ge_t (by decide)) (by decide) (by decide) ?_
  refine GoS.aloadN (pc' := 16) d6_15 rfl rfl rfl ?_
  refine GoS.iconst (pc' := 17) (v := 0) d6_16 rfl rfl ?_
  refine GoS.iloadN (pc' := 18) d6_17 rfl rfl ?_
  refine GoS.callV (cells' := 2) (slots' := 5) (pc' := 21) [(.int 0), (.int 1)] [] e (ww hw 112 rfl) (ww hw 113 rfl) (nfS (ww hw 115 rfl)) (ww hw 115 rfl) (ww hw 114 rfl) (ww hw 7 rfl) (ww hw 116 rfl) (by decide) (Con.cold (c_sub2_0_1 l Z a0 hw h a b kb x0 x1 cp wf hcp hwf scp sfm e f g v)) pd_18 d6_18 rfl ?_
  rintro _ h2 _ ⟨⟨r_2, d_2, kd_2, rfl, K2, ge_r_2, sz_r_2, ge_d_2, sz_d_2, ne2_0, F2_0, F2_1, F2_2, F2_3⟩, rfl⟩
  show GoS _ _ _ _ _ _ _ _ _ _ _ _ _ _ 21 _ [(.ref r_2)]
  refine GoS.astoreN (pc' := 22) (Ls' := #[.val (.ref a), .val (.int 1), .val (.ref r_2), .unset]) d6_21 rfl rfl rfl ?_
  refine GoS.iloadN (pc' := 23) d6_22 rfl rfl ?_
  refine GoS.ifYes (pc' := 31) d6_23 (XT.i0_ge_t (by decide)) (by decide) (by decide) ?_
  refine GoS.aloadN (pc' := 32) d6_31 rfl rfl rfl ?_
  refine GoS.iloadN (pc' := 33) d6_32 rfl rfl ?_
  refine GoS.iconst (pc' := 34) (v := 1) d6_33 rfl rfl ?_
  refine GoS.iadd (pc' := 35) d6_34 rfl ?_
  show GoS _ _ _ _ _ _ _ _ _ _ _ _ _ _ 35 _ [(.int 2), (.ref a)]
  refine GoS.callV (cells' := 4) (slots' := 9) (pc' := 38) [(.int 2)] [] (e.keep K2) (ww hw 147 rfl) (ww hw 148 rfl) (nfS (ww hw 150 rfl)) (ww hw 150 rfl) (ww hw 149 rfl) (ww hw 7 rfl) (ww hw 151 rfl) (by decide) (c_subI2_2_2 l Z a0 hw h2 a b kb x0 x1 cp wf hcp hwf hcw hch151 scp sfm (e.keep K2) (f.keep K2 nin0) (g.keep K2 nin0) (v.keep K2 nin0)) pd_19 d6_35 rfl ?_
  rintro _ h4 _ ⟨ea_4, eb_4, ke_4, rfl, K4, F4_0, F4_1, F4_2, F4_3, F4_4, F4_5, rfl⟩
  have K5 : Keep h h4 [] := K2.trans K4 all0
  show GoS _ _ _ _ _ _ _ _ _ _ _ _ _ _ 38 _ [(.ref ea_4)]
  refine GoS.astoreN (pc' := 39) (Ls' := #[.val (.ref a), .val (.int 1), .val (.ref r_2), .val (.ref ea_4)]) d6_38 rfl rfl rfl ?_
  refine GoS.new (pc' := 42) (cells' := 5) (slots' := 11) (ww hw 75 rfl) (ww hw 76 rfl) (ww hw 32 rfl) d6_39 rfl rfl (by decide) (by decide) rfl ?_
  intro h6 b6 g6 E6 ge6 A6 D6
  have sz7 : h.size ≤ b6 := Nat.le_trans K5.1 (Nat.le_of_eq g6.symm)
  have K8 : Keep h h6 [] := K5.ext E6
  refine GoS.dup (pc' := 43) d6_42 rfl rfl ?_
  refine GoS.aloadN (pc' := 44) d6_43 rfl rfl rfl ?_
  refine GoS.aloadN (pc' := 45) d6_44 rfl rfl rfl ?_
  refine GoS.callC (cells' := 5) (slots' := 11) (pc' := 48) [(.ref r_2), (.ref ea_4)] [(.ref b6)] (a := b6) rfl rfl (ww hw 77 rfl) (ww hw 78 rfl) (ww hw 32 rfl) (ww hw 79 rfl) (by decide) (Con.cold (c_wlInit l Z a0 hw h6 b6 r_2 ea_4 ge6 A6 ((D6 (Or.inr (ww hw 82 rfl)) (ty := (.object "java/lang/String")) (by decide) : Fld Z h6 b6 "com/example/inquire/inquire/io/WikiLink" "target" "Ljava/lang/String;" .null)) ((D6 (Or.inr (ww hw 84 rfl)) (ty := (.object "java/lang/String")) (by decide) : Fld Z h6 b6 "com/example/inquire/inquire/io/WikiLink" "label" "Ljava/lang/String;" .null)))) pd_15 d6_45 rfl ?_
  rintro _ h9 _ ⟨⟨rfl, K9, F9_0, F9_1⟩, rfl⟩
  have K10 : Keep h h9 [] := K8.trans K9 (allS (Or.inr sz7) all0)
  show GoS _ _ _ _ _ _ _ _ _ _ _ _ _ _ 48 _ [(.ref b6)]
  have ne11 : r_2 ≠ b6 := (Nat.ne_of_lt (Nat.lt_of_lt_of_le (F2_2.keep K4 nin0).lt (Nat.le_of_eq g6.symm)))
  have f12 : Fld Z h9 r_2 "java/lang/String" "coder" "B" (.int 0) := (((F2_1.keep K4 nin0).ext E6).keep K9 (ninS ne11 nin0))
  have f13 : Fld Z h9 r_2 "java/lang/String" "value" "[B" (.ref d_2) := (((F2_2.keep K4 nin0).ext E6).keep K9 (ninS ne11 nin0))
  have ne14 : d_2 ≠ b6 := (Nat.ne_of_lt (Nat.lt_of_lt_of_le (F2_3.keep K4 nin0).lt (Nat.le_of_eq g6.symm)))
  have f15 : Arv Z h9 d_2 kd_2 .byte (1 : Int32) [(.int x0)] (.int 0) := (((F2_3.keep K4 nin0).ext E6).keep K9 (ninS ne14 nin0))
  have ne16 : ea_4 ≠ b6 := (Nat.ne_of_lt (Nat.lt_of_lt_of_le F4_5.lt0 (Nat.le_of_eq g6.symm)))
  have ne17 : eb_4 ≠ b6 := (Nat.ne_of_lt (Nat.lt_of_lt_of_le F4_5.lt1 (Nat.le_of_eq g6.symm)))
  exact GoS.retR rfl rfl rfl rfl d6_48 ⟨b6, r_2, d_2, kd_2, ea_4, eb_4, ke_4, rfl, K10, (A6.keep K9), F9_0, F9_1, (((F2_0.keep K4).ext E6).keep K9), f12, f13, f15, ((F4_0.ext E6).keep K9), ((F4_1.ext E6).keep K9 (ninS ne16 nin0)), ((F4_2.ext E6).keep K9 (ninS ne16 nin0)), ((F4_3.ext E6).keep K9 (ninS ne17 nin0))⟩
theorem c_parse3_m (hw : HW a0 Z) (h : Heap) (a : Addr) (b : Addr) (kb : ClassId) (x0 : Int32) (x1 : Int32) (x2 : Int32) (cp : Int32) (wf : Value) (hcp : ¬ (cp = (0 : Int32))) (hwf : wf.isRef = true) (hcw : Jvm.Lit.compactW.before a0 Z = true) (hch26 : Jvm.Lit.constHeld Z "com/example/inquire/inquire/io/WikiLink" 26) (hch151 : Jvm.Lit.constHeld Z "java/lang/StringLatin1" 151) (hx0 : ¬ (x0 = (124 : Int32))) (hx1 : ¬ (x1 = (124 : Int32))) (hx2 : ¬ (x2 = (124 : Int32))) (scp : Sta Z Z.heap "java/lang/String" "COMPACT_STRINGS" "Z" (.int cp)) (sfm : Sta Z Z.heap "jdk/internal/util/Preconditions" "SIOOBE_FORMATTER" "Ljava/util/function/BiFunction;" wf) (e : Exa Z h a "java/lang/String") (f : Fld Z h a "java/lang/String" "coder" "B" (.int 0)) (g : Fld Z h a "java/lang/String" "value" "[B" (.ref b)) (v : Arv Z h b kb .byte (3 : Int32) [(.int x0), (.int x1), (.int x2)] (.int 0)) :
    ConS l M_28 prog_40_method_2_code 4 (some (.object "com/example/inquire/inquire/io/WikiLink")) (rm4 4 3 6 59) Z n0 #[(.ref a)] h [] (fun v h' LL' => ∃ w : Addr, ∃ rl : Addr, ∃ dl : Addr, ∃ kl : ClassId, v = some (.ref w) ∧ Keep h h' [] ∧ Exa Z h' w "com/example/inquire/inquire/io/WikiLink" ∧ Fld Z h' w "com/example/inquire/inquire/io/WikiLink" "target" "Ljava/lang/String;" (.ref a) ∧ Fld Z h' w "com/example/inquire/inquire/io/WikiLink" "label" "Ljava/lang/String;" (.ref rl) ∧ Exa Z h' rl "java/lang/String" ∧ Fld Z h' rl "java/lang/String" "coder" "B" (.int 0) ∧ Fld Z h' rl "java/lang/String" "value" "[B" (.ref dl) ∧ Arv Z h' dl kl .byte (0 : Int32) [] (.int 0)) := by
  refine ConS.of_go (plainFor_of_name pn_6) (Ls := #[.val (.ref a), .unset, .unset, .unset]) ?_
  refine GoS.aloadN (pc' := 1) d6_0 rfl rfl rfl ?_
  refine GoS.bipush (pc' := 3) (v := 124) d6_1 rfl rfl ?_
  refine GoS.callV (cells' := 0) (slots' := 0) (pc' := 6) [(.int 124)] [] e (ww hw 34 rfl) (ww hw 35 rfl) (nfS (ww hw 37 rfl)) (ww hw 37 rfl) (ww hw 36 rfl) (ww hw 7 rfl) (ww hw 38 rfl) (by decide) (Con.cold (c_idx3 l Z a0 hw h a b kb x0 x1 x2 cp hcp scp e f g v)) pd_14 d6_3 rfl ?_
  rintro _ _ _ ⟨⟨rfl, rfl⟩, rfl⟩
  show GoS _ _ _ _ _ _ _ _ _ _ _ _ _ _ 6 _ [(.int (if x0 = (124 : Int32) then (0 : Int32) else (if x1 = (124 : Int32) then (1 : Int32) else (if x2 = (124 : Int32) then (2 : Int32) else (-1 : Int32)))))]
  rw [if_neg hx0, if_neg hx1, if_neg hx2]
  refine GoS.istoreN (pc' := 7) (Ls' := #[.val (.ref a), .val (.int (-1 : Int32)), .unset, .unset]) d6_6 rfl rfl ?_
  refine GoS.iloadN (pc' := 8) d6_7 rfl rfl ?_
  refine GoS.ifNo (pc' := 11) d6_8 (XT.i0_ge_f (by decide)) rfl ?_
  refine GoS.aloadN (pc' := 12) d6_11 rfl rfl rfl ?_
  refine GoS.goto (pc' := 21) d6_12 (by decide) (by decide) ?_
  refine GoS.astoreN (pc' := 22) (Ls' := #[.val (.ref a), .val (.int (-1 : Int32)), .val (.ref a), .unset]) d6_21 rfl rfl rfl ?_
  refine GoS.iloadN (pc' := 23) d6_22 rfl rfl ?_
  refine GoS.ifNo (pc' := 26) d6_23 (XT.i0_ge_f (by decide)) rfl ?_
  refine GoS.ldcS (pc' := 28) (cells' := 2) (slots' := 4) (n := 0) (z := (0 : Int32)) (vs := []) (ww hw 74 rfl) (wsA hw) hch26 hcw (Keep.refl h []) HL.nil tx_0 (by decide) rfl d6_26 (nl rfl) (nl rfl) rfl rfl (nl rfl) (nl rfl) rfl ?_
  intro h2 sa2 sb2 kb2 E2 F2_0 F2_1 F2_2 F2_3 F2_4 F2_5
  have K3 : Keep h h2 [] := (Keep.refl h []).ext E2
  have H4 : Hel Z h2 sa2 sb2 "" := ⟨kb2, _, _, F2_0, F2_1, F2_2, F2_3, F2_4, tx_0, rfl⟩
  show GoS _ _ _ _ _ _ _ _ _ _ _ _ _ _ 28 _ [(.ref sa2)]
  refine GoS.goto (pc' := 38) d6_28 (by decide) (by decide) ?_
  refine GoS.astoreN (pc' := 39) (Ls' := #[.val (.ref a), .val (.int (-1 : Int32)), .val (.ref a), .val (.ref sa2)]) d6_38 rfl rfl rfl ?_
  refine GoS.new (pc' := 42) (cells' := 3) (slots' := 6) (ww hw 75 rfl) (ww hw 76 rfl) (ww hw 32 rfl) d6_39 rfl rfl (by decide) (by decide) rfl ?_
  intro h5 b5 g5 E5 ge5 A5 D5
  have sz6 : h.size ≤ b5 := Nat.le_trans K3.1 (Nat.le_of_eq g5.symm)
  have K7 : Keep h h5 [] := K3.ext E5
  refine GoS.dup (pc' := 43) d6_42 rfl rfl ?_
  refine GoS.aloadN (pc' := 44) d6_43 rfl rfl rfl ?_
  refine GoS.aloadN (pc' := 45) d6_44 rfl rfl rfl ?_
  refine GoS.callC (cells' := 3) (slots' := 6) (pc' := 48) [(.ref a), (.ref sa2)] [(.ref b5)] (a := b5) rfl rfl (ww hw 77 rfl) (ww hw 78 rfl) (ww hw 32 rfl) (ww hw 79 rfl) (by decide) (Con.cold (c_wlInit l Z a0 hw h5 b5 a sa2 ge5 A5 ((D5 (Or.inr (ww hw 82 rfl)) (ty := (.object "java/lang/String")) (by decide) : Fld Z h5 b5 "com/example/inquire/inquire/io/WikiLink" "target" "Ljava/lang/String;" .null)) ((D5 (Or.inr (ww hw 84 rfl)) (ty := (.object "java/lang/String")) (by decide) : Fld Z h5 b5 "com/example/inquire/inquire/io/WikiLink" "label" "Ljava/lang/String;" .null)))) pd_15 d6_45 rfl ?_
  rintro _ h8 _ ⟨⟨rfl, K8, F8_0, F8_1⟩, rfl⟩
  have K9 : Keep h h8 [] := K7.trans K8 (allS (Or.inr sz6) all0)
  show GoS _ _ _ _ _ _ _ _ _ _ _ _ _ _ 48 _ [(.ref b5)]
  have ne10 : sa2 ≠ b5 := (Nat.ne_of_lt (Nat.lt_of_lt_of_le H4.lt0 (Nat.le_of_eq g5.symm)))
  have ne11 : sb2 ≠ b5 := (Nat.ne_of_lt (Nat.lt_of_lt_of_le H4.lt1 (Nat.le_of_eq g5.symm)))
  exact GoS.retR rfl rfl rfl rfl d6_48 ⟨b5, sa2, sb2, kb2, rfl, K9, (A5.keep K8), F8_0, F8_1, ((F2_0.ext E5).keep K8), ((F2_1.ext E5).keep K8 (ninS ne10 nin0)), ((F2_2.ext E5).keep K8 (ninS ne10 nin0)), ((F2_3.ext E5).keep K8 (ninS ne11 nin0))⟩
theorem c_newStr3_0_0 (hw : HW a0 Z) (h : Heap) (b : Addr) (hcw : Jvm.Lit.compactW.before a0 Z = true) (hch151 : Jvm.Lit.constHeld Z "java/lang/StringLatin1" 151) :
    ConS l M_29 jdk_43_method_47_code 3 (some (.object "java/lang/String")) (rm4 0 2 4 0) Z n0 #[(.ref b), (.int 0), (.int 0)] h [] (fun v h' LL' => ∃ ea : Addr, ∃ eb : Addr, ∃ ke : ClassId, v = some (.ref ea) ∧ Keep h h' [] ∧ Exa Z h' ea "java/lang/String" ∧ Fld Z h' ea "java/lang/String" "coder" "B" (.int 0) ∧ Fld Z h' ea "java/lang/String" "value" "[B" (.ref eb) ∧ Arv Z h' eb ke .byte (0 : Int32) [] (.int 0) ∧ Exa Z h' eb "[B" ∧ Hel Z h' ea eb ("") ∧ LL' = [("", ea, "java/lang/StringLatin1", 151)]) := by
  refine ConS.of_go (plainFor_of_name pn_2) (Ls := #[.val (.ref b), .val (.int 0), .val (.int 0)]) ?_
  refine GoS.iloadN (pc' := 1) d27_0 rfl rfl ?_
  refine GoS.ifNo (pc' := 4) d27_1 (XT.i0_ne_f (by decide)) rfl ?_
  refine GoS.ldcS (pc' := 6) (cells' := 2) (slots' := 4) (n := 0) (z := (0 : Int32)) (vs := []) (ww hw 153 rfl) (wsA hw) hch151 hcw (Keep.refl h []) HL.nil tx_0 (by decide) rfl d27_4 (nl rfl) (nl rfl) rfl rfl (nl rfl) (nl rfl) rfl ?_
  intro h1 sa1 sb1 kb1 E1 F1_0 F1_1 F1_2 F1_3 F1_4 F1_5
  have K2 : Keep h h1 [] := (Keep.refl h []).ext E1
  have H3 : Hel Z h1 sa1 sb1 "" := ⟨kb1, _, _, F1_0, F1_1, F1_2, F1_3, F1_4, tx_0, rfl⟩
  show GoS _ _ _ _ _ _ _ _ _ _ _ _ _ _ 6 _ [(.ref sa1)]
  exact GoS.retR rfl rfl rfl rfl d27_6 ⟨sa1, sb1, kb1, rfl, K2, F1_0, F1_1, F1_2, F1_3, F1_4, H3, rfl⟩
theorem c_sub3_0_0 (hw : HW a0 Z) (h : Heap) (a : Addr) (b : Addr) (kb : ClassId) (x0 : Int32) (x1 : Int32) (x2 : Int32) (cp : Int32) (wf : Value) (hcp : ¬ (cp = (0 : Int32))) (hwf : wf.isRef = true) (hcw : Jvm.Lit.compactW.before a0 Z = true) (hch151 : Jvm.Lit.constHeld Z "java/lang/StringLatin1" 151) (scp : Sta Z Z.heap "java/lang/String" "COMPACT_STRINGS" "Z" (.int cp)) (sfm : Sta Z Z.heap "jdk/internal/util/Preconditions" "SIOOBE_FORMATTER" "Ljava/util/function/BiFunction;" wf) (e : Exa Z h a "java/lang/String") (f : Fld Z h a "java/lang/String" "coder" "B" (.int 0)) (g : Fld Z h a "java/lang/String" "value" "[B" (.ref b)) (v : Arv Z h b kb .byte (3 : Int32) [(.int x0), (.int x1), (.int x2)] (.int 0)) :
    ConS l M_30 jdk_42_method_92_code 5 (some (.object "java/lang/String")) (rm4 2 2 4 29) Z n0 #[(.ref a), (.int 0), (.int 0)] h [] (fun v h' LL' => ∃ ea : Addr, ∃ eb : Addr, ∃ ke : ClassId, v = some (.ref ea) ∧ Keep h h' [] ∧ Exa Z h' ea "java/lang/String" ∧ Fld Z h' ea "java/lang/String" "coder" "B" (.int 0) ∧ Fld Z h' ea "java/lang/String" "value" "[B" (.ref eb) ∧ Arv Z h' eb ke .byte (0 : Int32) [] (.int 0) ∧ Exa Z h' eb "[B" ∧ Hel Z h' ea eb ("") ∧ LL' = [("", ea, "java/lang/StringLatin1", 151)]) := by
  refine ConS.of_go (plainFor_of_name pn_0) (Ls := #[.val (.ref a), .val (.int 0), .val (.int 0), .unset, .unset]) ?_
  refine GoS.aloadN (pc' := 1) d24_0 rfl rfl rfl ?_
  refine GoS.callV (cells' := 0) (slots' := 0) (pc' := 4) [] [] e (ww hw 50 rfl) (ww hw 51 rfl) (nfS (ww hw 53 rfl)) (ww hw 53 rfl) (ww hw 52 rfl) (ww hw 7 rfl) (ww hw 54 rfl) (by decide) (Con.cold (c_strLen3 l Z a0 hw h a b kb x0 x1 x2 cp hcp scp e f g v)) pd_11 d24_1 rfl ?_
  rintro _ _ _ ⟨⟨rfl, rfl⟩, rfl⟩
  show GoS _ _ _ _ _ _ _ _ _ _ _ _ _ _ 4 _ [(.int 3)]
  refine GoS.istoreN (pc' := 5) (Ls' := #[.val (.ref a), .val (.int 0), .val (.int 0), .val (.int 3), .unset]) d24_4 rfl rfl ?_
  refine GoS.iloadN (pc' := 6) d24_5 rfl rfl ?_
  refine GoS.iloadN (pc' := 7) d24_6 rfl rfl ?_
  refine GoS.iloadN (pc' := 8) d24_7 rfl rfl ?_
  refine GoS.callS (cells' := 0) (slots' := 0) (pc' := 11) [(.int 0), (.int 0), (.int 3)] [] (ww hw 117 rfl) (ww hw 118 rfl) (ww hw 7 rfl) (ww hw 119 rfl) (by decide) (Con.cold (c_bounds l Z a0 hw h (0 : Int32) (0 : Int32) (3 : Int32) wf (by decide) (by decide) (by decide) hwf sfm)) pd_16 d24_8 rfl ?_
  rintro _ _ _ ⟨⟨rfl, rfl⟩, rfl⟩
  show GoS _ _ _ _ _ _ _ _ _ _ _ _ _ _ 11 _ []
  refine GoS.iloadN (pc' := 12) d24_11 rfl rfl ?_
  refine GoS.ifNo (pc' := 15) d24_12 (XT.i0_ne_f (by decide)) rfl ?_
  refine GoS.iloadN (pc' := 16) d24_15 rfl rfl ?_
  refine GoS.iloadN (pc' := 17) d24_16 rfl rfl ?_
  refine GoS.icmpYes (pc' := 22) d24_17 (XT.ii_ne_t (by decide)) (by decide) (by decide) ?_
  refine GoS.iloadN (pc' := 23) d24_22 rfl rfl ?_
  refine GoS.iloadN (pc' := 24) d24_23 rfl rfl ?_
  refine GoS.isub (pc' := 25) d24_24 rfl ?_
  show GoS _ _ _ _ _ _ _ _ _ _ _ _ _ _ 25 _ [(.int 0)]
  refine GoS.istore (pc' := 27) (Ls' := #[.val (.ref a), .val (.int 0), .val (.int 0), .val (.int 3), .val (.int 0)]) d24_25 rfl rfl ?_
  refine GoS.aloadN (pc' := 28) d24_27 rfl rfl rfl ?_
  refine GoS.callV (cells' := 0) (slots' := 0) (pc' := 31) [] [] e (ww hw 44 rfl) (ww hw 45 rfl) (nfS (ww hw 47 rfl)) (ww hw 47 rfl) (ww hw 46 rfl) (ww hw 7 rfl) (ww hw 48 rfl) (by decide) (Con.cold (c_isLatin1 l Z a0 hw h a cp hcp scp f)) pd_3 d24_28 rfl ?_
  rintro _ _ _ ⟨⟨rfl, rfl⟩, rfl⟩
  show GoS _ _ _ _ _ _ _ _ _ _ _ _ _ _ 31 _ [(.int 1)]
  refine GoS.ifNo (pc' := 34) d24_31 (XT.i0_eq_f (by decide)) rfl ?_
  refine GoS.aloadN (pc' := 35) d24_34 rfl rfl rfl ?_
  refine GoS.getfield (pc' := 38) (host := "") (Or.inl (ww hw 28 rfl)) Via.refl g d24_35 rfl ?_
  refine GoS.iloadN (pc' := 39) d24_38 rfl rfl ?_
  refine GoS.iload (pc' := 41) d24_39 rfl rfl ?_
  refine GoS.callS (cells' := 2) (slots' := 4) (pc' := 44) [(.ref b), (.int 0), (.int 0)] [] (ww hw 125 rfl) (ww hw 126 rfl) (ww hw 62 rfl) (ww hw 127 rfl) (by decide) (c_newStr3_0_0 l Z a0 hw h b hcw hch151) pd_17 d24_41 rfl ?_
  rintro _ h4 _ ⟨ea_4, eb_4, ke_4, rfl, K4, F4_0, F4_1, F4_2, F4_3, F4_4, F4_5, rfl⟩
  show GoS _ _ _ _ _ _ _ _ _ _ _ _ _ _ 44 _ [(.ref ea_4)]
  refine GoS.goto (pc' := 57) d24_44 (by decide) (by decide) ?_
  exact GoS.retR rfl rfl rfl rfl d24_57 ⟨ea_4, eb_4, ke_4, rfl, K4, F4_0, F4_1, F4_2, F4_3, F4_4, F4_5, rfl⟩
theorem c_corB3_1_3 (hw : HW a0 Z) (h : Heap) (b : Addr) (kb : ClassId) (x0 : Int32) (x1 : Int32) (x2 : Int32) (v : Arv Z h b kb .byte (3 : Int32) [(.int x0), (.int x1), (.int x2)] (.int 0)) :
    Con l M_32 jdk_65_method_133_code 5 (some (.array .byte)) (rm4 1 1 2 18) Z n0 #[(.ref b), (.int 1), (.int 3)] h (fun v h' => ∃ d : Addr, ∃ kd : ClassId, v = some (.ref d) ∧ Keep h h' [] ∧ n0 ≤ d ∧ h.size ≤ d ∧ Arv Z h' d kd .byte (2 : Int32) [(.int x1), (.int x2)] (.int 0)) := by
  refine Con.of_go (plainFor_of_name pn_5) (Ls := #[.val (.ref b), .val (.int 1), .val (.int 3), .unset, .unset]) ?_
  refine Go.iloadN (pc' := 1) d29_0 rfl rfl ?_
  refine Go.iloadN (pc' := 2) d29_1 rfl rfl ?_
  refine Go.callS (cells' := 0) (slots' := 0) (pc' := 5) [(.int 1), (.int 3)] [] (ww hw 136 rfl) (ww hw 137 rfl) (ww hw 131 rfl) (ww hw 138 rfl) (by decide) (c_chkLen l Z a0 hw h (1 : Int32) (3 : Int32) (by decide)) pd_2 d29_2 rfl ?_
  rintro _ _ ⟨rfl, rfl⟩
  show Go _ _ _ _ _ _ _ _ _ _ _ _ 5 _ []
  refine Go.iloadN (pc' := 6) d29_5 rfl rfl ?_
  refine Go.iloadN (pc' := 7) d29_6 rfl rfl ?_
  refine Go.isub (pc' := 8) d29_7 rfl ?_
  show Go _ _ _ _ _ _ _ _ _ _ _ _ 8 _ [(.int 2)]
  refine Go.istoreN (pc' := 9) (Ls' := #[.val (.ref b), .val (.int 1), .val (.int 3), .val (.int 2), .unset]) d29_8 rfl rfl ?_
  refine Go.iloadN (pc' := 10) d29_9 rfl rfl ?_
  refine Go.newarray (pc' := 12) (cells' := 1) (slots' := 2) (cap := 2) (ww hw 23 rfl) d29_10 (ad := "[B") (by decide) (by decide) (by decide) rfl rfl (by decide) (by decide) (by decide) rfl ?_
  intro h2 b2 g2 E2 ge2 kA2 A2 X2
  have K3 : Keep h h2 [] := (Keep.refl h []).ext E2
  have V2 : Arv Z h2 b2 kA2 .byte (2 : Int32) [(.int 0), (.int 0)] (.int 0) := Arv.pad A2 (pad_rep [] (.int 0) 2)
  refine Go.astore (pc' := 14) (Ls' := #[.val (.ref b), .val (.int 1), .val (.int 3), .val (.int 2), .val (.ref b2)]) d29_12 rfl rfl rfl ?_
  refine Go.aloadN (pc' := 15) d29_14 rfl rfl rfl ?_
  refine Go.iloadN (pc' := 16) d29_15 rfl rfl ?_
  refine Go.aload (pc' := 18) d29_16 rfl rfl rfl ?_
  refine Go.iconst (pc' := 19) (v := 0) d29_18 rfl rfl ?_
  refine Go.aloadN (pc' := 20) d29_19 rfl rfl rfl ?_
  refine Go.arraylength (pc' := 21) (v.ext E2) d29_20 rfl ?_
  refine Go.iloadN (pc' := 22) d29_21 rfl rfl ?_
  refine Go.isub (pc' := 23) d29_22 rfl ?_
  show Go _ _ _ _ _ _ _ _ _ _ _ _ 23 _ [(.int 2), (.int 0), (.ref b2), (.int 1), (.ref b)]
  refine Go.iloadN (pc' := 24) d29_23 rfl rfl ?_
  refine Go.callS (cells' := 1) (slots' := 2) (pc' := 27) [(.int 2), (.int 2)] [(.int 0), (.ref b2), (.int 1), (.ref b)] (ww hw 139 rfl) (ww hw 72 rfl) (ww hw 69 rfl) (ww hw 73 rfl) (by decide) (c_min2_2 l Z a0 hw h2) pd_10 d29_24 rfl ?_
  rintro _ _ ⟨rfl, rfl⟩
  show Go _ _ _ _ _ _ _ _ _ _ _ _ 27 _ [(.int 2), (.int 0), (.ref b2), (.int 1), (.ref b)]
  refine Go.arraycopy (pc' := 30) (us := [(.int x1), (.int x2)]) (vd' := [(.int x1), (.int x2)]) (ww hw 140 rfl) (ww hw 143 rfl) (ww hw 141 rfl) (ww hw 142 rfl) (v.ext E2) V2 (Or.inl ⟨rfl, rfl⟩) (by decide) (by decide) (by decide) (by decide) (by decide) rfl (nl rfl) rfl ge2 d29_27 rfl (nl rfl) (nl rfl) rfl ?_
  intro h5 K6 V7
  have K8 : Keep h h5 [] := K3.trans K6 (allS (Or.inr (Nat.le_of_eq g2.symm)) all0)
  refine Go.aload (pc' := 32) d29_30 rfl rfl rfl ?_
  exact Go.retR rfl rfl rfl rfl d29_32 ⟨b2, kA2, rfl, K8, ge2, (Nat.le_of_eq g2.symm), V7⟩
theorem c_cor3_1_3 (hw : HW a0 Z) (h : Heap) (b : Addr) (kb : ClassId) (x0 : Int32) (x1 : Int32) (x2 : Int32) (v : Arv Z h b kb .byte (3 : Int32) [(.int x0), (.int x1), (.int x2)] (.int 0)) :
    Con l M_33 jdk_65_method_132_code 3 (some (.array .byte)) (rm4 2 1 2 34) Z n0 #[(.ref b), (.int 1), (.int 3)] h (fun v h' => ∃ d : Addr, ∃ kd : ClassId, v = some (.ref d) ∧ Keep h h' [] ∧ n0 ≤ d ∧ h.size ≤ d ∧ Arv Z h' d kd .byte (2 : Int32) [(.int x1), (.int x2)] (.int 0)) := by
  refine Con.of_go (plainFor_of_name pn_5) (Ls := #[.val (.ref b), .val (.int 1), .val (.int 3)]) ?_
  refine Go.iloadN (pc' := 1) d28_0 rfl rfl ?_
  refine Go.ifYes (pc' := 10) d28_1 (XT.i0_ne_t (by decide)) (by decide) (by decide) ?_
  refine Go.aloadN (pc' := 11) d28_10 rfl rfl rfl ?_
  refine Go.iloadN (pc' := 12) d28_11 rfl rfl ?_
  refine Go.iloadN (pc' := 13) d28_12 rfl rfl ?_
  refine Go.callS (cells' := 1) (slots' := 2) (pc' := 16) [(.ref b), (.int 1), (.int 3)] [] (ww hw 133 rfl) (ww hw 134 rfl) (ww hw 131 rfl) (ww hw 135 rfl) (by decide) (c_corB3_1_3 l Z a0 hw h b kb x0 x1 x2 v) pd_20 d28_13 rfl ?_
  rintro _ h1 ⟨d_1, kd_1, rfl, K1, ge_d_1, sz_d_1, F1_0⟩
  show Go _ _ _ _ _ _ _ _ _ _ _ _ 16 _ [(.ref d_1)]
  exact Go.retR rfl rfl rfl rfl d28_16 ⟨d_1, kd_1, rfl, K1, ge_d_1, sz_d_1, F1_0⟩
theorem c_newStr3_1_3 (hw : HW a0 Z) (h : Heap) (b : Addr) (kb : ClassId) (x0 : Int32) (x1 : Int32) (x2 : Int32) (v : Arv Z h b kb .byte (3 : Int32) [(.int x0), (.int x1), (.int x2)] (.int 0)) :
    Con l M_29 jdk_43_method_47_code 3 (some (.object "java/lang/String")) (rm4 3 2 6 50) Z n0 #[(.ref b), (.int 1), (.int 2)] h (fun v h' => ∃ r : Addr, ∃ d : Addr, ∃ kd : ClassId, v = some (.ref r) ∧ Keep h h' [] ∧ n0 ≤ r ∧ h.size ≤ r ∧ n0 ≤ d ∧ h.size ≤ d ∧ r ≠ d ∧ Exa Z h' r "java/lang/String" ∧ Fld Z h' r "java/lang/String" "coder" "B" (.int 0) ∧ Fld Z h' r "java/lang/String" "value" "[B" (.ref d) ∧ Arv Z h' d kd .byte (2 : Int32) [(.int x1), (.int x2)] (.int 0)) := by
  refine Con.of_go (plainFor_of_name pn_2) (Ls := #[.val (.ref b), .val (.int 1), .val (.int 2)]) ?_
  refine Go.iloadN (pc' := 1) d27_0 rfl rfl ?_
  refine Go.ifYes (pc' := 7) d27_1 (XT.i0_ne_t (by decide)) (by decide) (by decide) ?_
  refine Go.new (pc' := 10) (cells' := 1) (slots' := 4) (ww hw 128 rfl) (ww hw 6 rfl) (ww hw 7 rfl) d27_7 rfl rfl (by decide) (by decide) rfl ?_
  intro h1 b1 g1 E1 ge1 A1 D1
  have K2 : Keep h h1 [] := (Keep.refl h []).ext E1
  refine Go.dup (pc' := 11) d27_10 rfl rfl ?_
  refine Go.aloadN (pc' := 12) d27_11 rfl rfl rfl ?_
  refine Go.iloadN (pc' := 13) d27_12 rfl rfl ?_
  refine Go.iloadN (pc' := 14) d27_13 rfl rfl ?_
  refine Go.iloadN (pc' := 15) d27_14 rfl rfl ?_
  refine Go.iadd (pc' := 16) d27_15 rfl ?_
  show Go _ _ _ _ _ _ _ _ _ _ _ _ 16 _ [(.int 3), (.int 1), (.ref b), (.ref b1), (.ref b1)]
  refine Go.callS (cells' := 2) (slots' := 6) (pc' := 19) [(.ref b), (.int 1), (.int 3)] [(.ref b1), (.ref b1)] (ww hw 129 rfl) (ww hw 130 rfl) (ww hw 131 rfl) (ww hw 132 rfl) (by decide) (c_cor3_1_3 l Z a0 hw h1 b kb x0 x1 x2 (v.ext E1)) pd_20 d27_16 rfl ?_
  rintro _ h3 ⟨d_3, kd_3, rfl, K3, ge_d_3, sz_d_3, F3_0⟩
  have sz4 : h.size ≤ d_3 := Nat.le_trans K2.1 sz_d_3
  have K5 : Keep h h3 [] := K2.trans K3 all0
  show Go _ _ _ _ _ _ _ _ _ _ _ _ 19 _ [(.ref d_3), (.ref b1), (.ref b1)]
  refine Go.iconst (pc' := 20) (v := 0) d27_19 rfl rfl ?_
  have f6 : Fld Z h3 b1 "java/lang/String" "value" "[B" .null := ((D1 (Or.inr (ww hw 24 rfl)) (ty := (.array .byte)) (by decide) : Fld Z h1 b1 "java/lang/String" "value" "[B" .null).keep K3 nin0)
  have f7 : Fld Z h3 b1 "java/lang/String" "coder" "B" (.int 0) := ((D1 (Or.inr (ww hw 25 rfl)) (ty := .byte) (by decide) : Fld Z h1 b1 "java/lang/String" "coder" "B" (.int 0)).keep K3 nin0)
  refine Go.callC (cells' := 2) (slots' := 6) (pc' := 23) [(.ref d_3), (.int 0)] [(.ref b1)] (a := b1) rfl rfl (ww hw 144 rfl) (ww hw 145 rfl) (ww hw 7 rfl) (ww hw 146 rfl) (by decide) (c_strB l Z a0 hw h3 b1 d_3 ge1 (A1.keep K3) f6 f7) pd_21 d27_20 rfl ?_
  rintro _ h8 ⟨rfl, K8, F8_0, F8_1⟩
  have K9 : Keep h h8 [] := K5.trans K8 (allS (Or.inr (Nat.le_of_eq g1.symm)) all0)
  show Go _ _ _ _ _ _ _ _ _ _ _ _ 23 _ [(.ref b1)]
  have ne10 : b1 ≠ d_3 := (Nat.ne_of_lt (Nat.lt_of_lt_of_le (D1 (Or.inr (ww hw 25 rfl)) (ty := .byte) (by decide) : Fld Z h1 b1 "java/lang/String" "coder" "B" (.int 0)).lt sz_d_3))
  have f11 : Arv Z h8 d_3 kd_3 .byte (2 : Int32) [(.int x1), (.int x2)] (.int 0) := (F3_0.keep K8 (ninS (Ne.symm ne10) nin0))
  exact Go.retR rfl rfl rfl rfl d27_23 ⟨b1, d_3, kd_3, rfl, K9, ge1, (Nat.le_of_eq g1.symm), ge_d_3, sz4, ne10, ((A1.keep K3).keep K8), F8_1, F8_0, f11⟩
theorem c_sub3_1_3 (hw : HW a0 Z) (h : Heap) (a : Addr) (b : Addr) (kb : ClassId) (x0 : Int32) (x1 : Int32) (x2 : Int32) (cp : Int32) (wf : Value) (hcp : ¬ (cp = (0 : Int32))) (hwf : wf.isRef = true) (scp : Sta Z Z.heap "java/lang/String" "COMPACT_STRINGS" "Z" (.int cp)) (sfm : Sta Z Z.heap "jdk/internal/util/Preconditions" "SIOOBE_FORMATTER" "Ljava/util/function/BiFunction;" wf) (e : Exa Z h a "java/lang/String") (f : Fld Z h a "java/lang/String" "coder" "B" (.int 0)) (g : Fld Z h a "java/lang/String" "value" "[B" (.ref b)) (v : Arv Z h b kb .byte (3 : Int32) [(.int x0), (.int x1), (.int x2)] (.int 0)) :
    Con l M_30 jdk_42_method_92_code 5 (some (.object "java/lang/String")) (rm4 4 2 6 64) Z n0 #[(.ref a), (.int 1), (.int 3)] h (fun v h' => ∃ r : Addr, ∃ d : Addr, ∃ kd : ClassId, v = some (.ref r) ∧ Keep h h' [] ∧ n0 ≤ r ∧ h.size ≤ r ∧ n0 ≤ d ∧ h.size ≤ d ∧ r ≠ d ∧ Exa Z h' r "java/lang/String" ∧ Fld Z h' r "java/lang/String" "coder" "B" (.int 0) ∧ Fld Z h' r "java/lang/String" "value" "[B" (.ref d) ∧ Arv Z h' d kd .byte (2 : Int32) [(.int x1), (.int x2)] (.int 0)) := by
  refine Con.of_go (plainFor_of_name pn_0) (Ls := #[.val (.ref a), .val (.int 1), .val (.int 3), .unset, .unset]) ?_
  refine Go.aloadN (pc' := 1) d24_0 rfl rfl rfl ?_
  refine Go.callV (cells' := 0) (slots' := 0) (pc' := 4) [] [] e (ww hw 50 rfl) (ww hw 51 rfl) (nfS (ww hw 53 rfl)) (ww hw 53 rfl) (ww hw 52 rfl) (ww hw 7 rfl) (ww hw 54 rfl) (by decide) (c_strLen3 l Z a0 hw h a b kb x0 x1 x2 cp hcp scp e f g v) pd_11 d24_1 rfl ?_
  rintro _ _ ⟨rfl, rfl⟩
  show Go _ _ _ _ _ _ _ _ _ _ _ _ 4 _ [(.int 3)]
  refine Go.istoreN (pc' := 5) (Ls' := #[.val (.ref a), .val (.int 1), .val (.int 3), .val (.int 3), .unset]) d24_4 rfl rfl ?_
  refine Go.iloadN (pc' := 6) d24_5 rfl rfl ?_
  refine Go.iloadN (pc' := 7) d24_6 rfl rfl ?_
  refine Go.iloadN (pc' := 8) d24_7 rfl rfl ?_
  refine Go.callS (cells' := 0) (slots' := 0) (pc' := 11) [(.int 1), (.int 3), (.int 3)] [] (ww hw 117 rfl) (ww hw 118 rfl) (ww hw 7 rfl) (ww hw 119 rfl) (by decide) (c_bounds l Z a0 hw h (1 : Int32) (3 : Int32) (3 : Int32) wf (by decide) (by decide) (by decide) hwf sfm) pd_16 d24_8 rfl ?_
  rintro _ _ ⟨rfl, rfl⟩
  show Go _ _ _ _ _ _ _ _ _ _ _ _ 11 _ []
  refine Go.iloadN (pc' := 12) d24_11 rfl rfl ?_
  refine Go.ifYes (pc' := 22) d24_12 (XT.i0_ne_t (by decide)) (by decide) (by decide) ?_
  refine Go.iloadN (pc' := 23) d24_22 rfl rfl ?_
  refine Go.iloadN (pc' := 24) d24_23 rfl rfl ?_
  refine Go.isub (pc' := 25) d24_24 rfl ?_
  show Go _ _ _ _ _ _ _ _ _ _ _ _ 25 _ [(.int 2)]
  refine Go.istore (pc' := 27) (Ls' := #[.val (.ref a), .val (.int 1), .val (.int 3), .val (.int 3), .val (.int 2)]) d24_25 rfl rfl ?_
  refine Go.aloadN (pc' := 28) d24_27 rfl rfl rfl ?_
  refine Go.callV (cells' := 0) (slots' := 0) (pc' := 31) [] [] e (ww hw 44 rfl) (ww hw 45 rfl) (nfS (ww hw 47 rfl)) (ww hw 47 rfl) (ww hw 46 rfl) (ww hw 7 rfl) (ww hw 48 rfl) (by decide) (c_isLatin1 l Z a0 hw h a cp hcp scp f) pd_3 d24_28 rfl ?_
  rintro _ _ ⟨rfl, rfl⟩
  show Go _ _ _ _ _ _ _ _ _ _ _ _ 31 _ [(.int 1)]
  refine Go.ifNo (pc' := 34) d24_31 (XT.i0_eq_f (by decide)) rfl ?_
  refine Go.aloadN (pc' := 35) d24_34 rfl rfl rfl ?_
  refine Go.getfield (pc' := 38) (host := "") (Or.inl (ww hw 28 rfl)) Via.refl g d24_35 rfl ?_
  refine Go.iloadN (pc' := 39) d24_38 rfl rfl ?_
  refine Go.iload (pc' := 41) d24_39 rfl rfl ?_
  refine Go.callS (cells' := 2) (slots' := 6) (pc' := 44) [(.ref b), (.int 1), (.int 2)] [] (ww hw 125 rfl) (ww hw 126 rfl) (ww hw 62 rfl) (ww hw 127 rfl) (by decide) (c_newStr3_1_3 l Z a0 hw h b kb x0 x1 x2 v) pd_17 d24_41 rfl ?_
  rintro _ h4 ⟨r_4, d_4, kd_4, rfl, K4, ge_r_4, sz_r_4, ge_d_4, sz_d_4, ne4_0, F4_0, F4_1, F4_2, F4_3⟩
  show Go _ _ _ _ _ _ _ _ _ _ _ _ 44 _ [(.ref r_4)]
  refine Go.goto (pc' := 57) d24_44 (by decide) (by decide) ?_
  exact Go.retR rfl rfl rfl rfl d24_57 ⟨r_4, d_4, kd_4, rfl, K4, ge_r_4, sz_r_4, ge_d_4, sz_d_4, ne4_0, F4_0, F4_1, F4_2, F4_3⟩
theorem c_subI3_1_3 (hw : HW a0 Z) (h : Heap) (a : Addr) (b : Addr) (kb : ClassId) (x0 : Int32) (x1 : Int32) (x2 : Int32) (cp : Int32) (wf : Value) (hcp : ¬ (cp = (0 : Int32))) (hwf : wf.isRef = true) (scp : Sta Z Z.heap "java/lang/String" "COMPACT_STRINGS" "Z" (.int cp)) (sfm : Sta Z Z.heap "jdk/internal/util/Preconditions" "SIOOBE_FORMATTER" "Ljava/util/function/BiFunction;" wf) (e : Exa Z h a "java/lang/String") (f : Fld Z h a "java/lang/String" "coder" "B" (.int 0)) (g : Fld Z h a "java/lang/String" "value" "[B" (.ref b)) (v : Arv Z h b kb .byte (3 : Int32) [(.int x0), (.int x1), (.int x2)] (.int 0)) :
    Con l M_31 jdk_42_method_91_code 2 (some (.object "java/lang/String")) (rm4 5 2 6 80) Z n0 #[(.ref a), (.int 1)] h (fun v h' => ∃ r : Addr, ∃ d : Addr, ∃ kd : ClassId, v = some (.ref r) ∧ Keep h h' [] ∧ n0 ≤ r ∧ h.size ≤ r ∧ n0 ≤ d ∧ h.size ≤ d ∧ r ≠ d ∧ Exa Z h' r "java/lang/String" ∧ Fld Z h' r "java/lang/String" "coder" "B" (.int 0) ∧ Fld Z h' r "java/lang/String" "value" "[B" (.ref d) ∧ Arv Z h' d kd .byte (2 : Int32) [(.int x1), (.int x2)] (.int 0)) := by
  refine Con.of_go (plainFor_of_name pn_0) (Ls := #[.val (.ref a), .val (.int 1)]) ?_
  refine Go.aloadN (pc' := 1) d32_0 rfl rfl rfl ?_
  refine Go.iloadN (pc' := 2) d32_1 rfl rfl ?_
  refine Go.aloadN (pc' := 3) d32_2 rfl rfl rfl ?_
  refine Go.callV (cells' := 0) (slots' := 0) (pc' := 6) [] [(.int 1), (.ref a)] e (ww hw 50 rfl) (ww hw 51 rfl) (nfS (ww hw 53 rfl)) (ww hw 53 rfl) (ww hw 52 rfl) (ww hw 7 rfl) (ww hw 54 rfl) (by decide) (c_strLen3 l Z a0 hw h a b kb x0 x1 x2 cp hcp scp e f g v) pd_11 d32_3 rfl ?_
  rintro _ _ ⟨rfl, rfl⟩
  show Go _ _ _ _ _ _ _ _ _ _ _ _ 6 _ [(.int 3), (.int 1), (.ref a)]
  refine Go.callV (cells' := 2) (slots' := 6) (pc' := 9) [(.int 1), (.int 3)] [] e (ww hw 152 rfl) (ww hw 113 rfl) (nfS (ww hw 115 rfl)) (ww hw 115 rfl) (ww hw 114 rfl) (ww hw 7 rfl) (ww hw 116 rfl) (by decide) (c_sub3_1_3 l Z a0 hw h a b kb x0 x1 x2 cp wf hcp hwf scp sfm e f g v) pd_18 d32_6 rfl ?_
  rintro _ h2 ⟨r_2, d_2, kd_2, rfl, K2, ge_r_2, sz_r_2, ge_d_2, sz_d_2, ne2_0, F2_0, F2_1, F2_2, F2_3⟩
  show Go _ _ _ _ _ _ _ _ _ _ _ _ 9 _ [(.ref r_2)]
  exact Go.retR rfl rfl rfl rfl d32_9 ⟨r_2, d_2, kd_2, rfl, K2, ge_r_2, sz_r_2, ge_d_2, sz_d_2, ne2_0, F2_0, F2_1, F2_2, F2_3⟩
theorem c_parse3_0 (hw : HW a0 Z) (h : Heap) (a : Addr) (b : Addr) (kb : ClassId) (x0 : Int32) (x1 : Int32) (x2 : Int32) (cp : Int32) (wf : Value) (hcp : ¬ (cp = (0 : Int32))) (hwf : wf.isRef = true) (hcw : Jvm.Lit.compactW.before a0 Z = true) (hch26 : Jvm.Lit.constHeld Z "com/example/inquire/inquire/io/WikiLink" 26) (hch151 : Jvm.Lit.constHeld Z "java/lang/StringLatin1" 151) (hx0 : x0 = (124 : Int32)) (scp : Sta Z Z.heap "java/lang/String" "COMPACT_STRINGS" "Z" (.int cp)) (sfm : Sta Z Z.heap "jdk/internal/util/Preconditions" "SIOOBE_FORMATTER" "Ljava/util/function/BiFunction;" wf) (e : Exa Z h a "java/lang/String") (f : Fld Z h a "java/lang/String" "coder" "B" (.int 0)) (g : Fld Z h a "java/lang/String" "value" "[B" (.ref b)) (v : Arv Z h b kb .byte (3 : Int32) [(.int x0), (.int x1), (.int x2)] (.int 0)) :
    ConS l M_28 prog_40_method_2_code 4 (some (.object "com/example/inquire/inquire/io/WikiLink")) (rm4 6 5 12 93) Z n0 #[(.ref a)] h [] (fun v h' LL' => ∃ w : Addr, ∃ rt : Addr, ∃ dt : Addr, ∃ kt : ClassId, ∃ rl : Addr, ∃ dl : Addr, ∃ kl : ClassId, v = some (.ref w) ∧ Keep h h' [] ∧ Exa Z h' w "com/example/inquire/inquire/io/WikiLink" ∧ Fld Z h' w "com/example/inquire/inquire/io/WikiLink" "target" "Ljava/lang/String;" (.ref rt) ∧ Fld Z h' w "com/example/inquire/inquire/io/WikiLink" "label" "Ljava/lang/String;" (.ref rl) ∧ Exa Z h' rt "java/lang/String" ∧ Fld Z h' rt "java/lang/String" "coder" "B" (.int 0) ∧ Fld Z h' rt "java/lang/String" "value" "[B" (.ref dt) ∧ Arv Z h' dt kt .byte (0 : Int32) [] (.int 0) ∧ Exa Z h' rl "java/lang/String" ∧ Fld Z h' rl "java/lang/String" "coder" "B" (.int 0) ∧ Fld Z h' rl "java/lang/String" "value" "[B" (.ref dl) ∧ Arv Z h' dl kl .byte (2 : Int32) [(.int x1), (.int x2)] (.int 0)) := by
  refine ConS.of_go (plainFor_of_name pn_6) (Ls := #[.val (.ref a), .unset, .unset, .unset]) ?_
  refine GoS.aloadN (pc' := 1) d6_0 rfl rfl rfl ?_
  refine GoS.bipush (pc' := 3) (v := 124) d6_1 rfl rfl ?_
  refine GoS.callV (cells' := 0) (slots' := 0) (pc' := 6) [(.int 124)] [] e (ww hw 34 rfl) (ww hw 35 rfl) (nfS (ww hw 37 rfl)) (ww hw 37 rfl) (ww hw 36 rfl) (ww hw 7 rfl) (ww hw 38 rfl) (by decide) (Con.cold (c_idx3 l Z a0 hw h a b kb x0 x1 x2 cp hcp scp e f g v)) pd_14 d6_3 rfl ?_
  rintro _ _ _ ⟨⟨rfl, rfl⟩, rfl⟩
  show GoS _ _ _ _ _ _ _ _ _ _ _ _ _ _ 6 _ [(.int (if x0 = (124 : Int32) then (0 : Int32) else (if x1 = (124 : Int32) then (1 : Int32) else (if x2 = (124 : Int32) then (2 : Int32) else (-1 : Int32)))))]
  rw [if_pos hx0]
  refine GoS.istoreN (pc' := 7) (Ls' := #[.val (.ref a), .val (.int 0), .unset, .unset]) d6_6 rfl rfl ?_
  refine GoS.iloadN (pc' := 8) d6_7 rfl rfl ?_
  refine GoS.ifYes (pc' := 15) d6_8 (XT.i0_ge_t (by decide)) (by decide) (by decide) ?_
  refine GoS.aloadN (pc' := 16) d6_15 rfl rfl rfl ?_
  refine GoS.iconst (pc' := 17) (v := 0) d6_16 rfl rfl ?_
  refine GoS.iloadN (pc' := 18) d6_17 rfl rfl ?_
  refine GoS.callV (cells' := 2) (slots' := 4) (pc' := 21) [(.int 0), (.int 0)] [] e (ww hw 112 rfl) (ww hw 113 rfl) (nfS (ww hw 115 rfl)) (ww hw 115 rfl) (ww hw 114 rfl) (ww hw 7 rfl) (ww hw 116 rfl) (by decide) (c_sub3_0_0 l Z a0 hw h a b kb x0 x1 x2 cp wf hcp hwf hcw hch151 scp sfm e f g v) pd_18 d6_18 rfl ?_
  rintro _ h2 _ ⟨ea_2, eb_2, ke_2, rfl, K2, F2_0, F2_1, F2_2, F2_3, F2_4, F2_5, rfl⟩
  show GoS _ _ _ _ _ _ _ _ _ _ _ _ _ _ 21 _ [(.ref ea_2)]
  refine GoS.astoreN (pc' := 22) (Ls' := #[.val (.ref a), .val (.int 0), .val (.ref ea_2), .unset]) d6_21 rfl rfl rfl ?_
  refine GoS.iloadN (pc' := 23) d6_22 rfl rfl ?_
  refine GoS.ifYes (pc' := 31) d6_23 (XT.i0_ge_t (by decide)) (by decide) (by decide) ?_
  refine GoS.aloadN (pc' := 32) d6_31 rfl rfl rfl ?_
  refine GoS.iloadN (pc' := 33) d6_32 rfl rfl ?_
  refine GoS.iconst (pc' := 34) (v := 1) d6_33 rfl rfl ?_
  refine GoS.iadd (pc' := 35) d6_34 rfl ?_
  show GoS _ _ _ _ _ _ _ _ _ _ _ _ _ _ 35 _ [(.int 1), (.ref a)]
  refine GoS.callV (cells' := 4) (slots' := 10) (pc' := 38) [(.int 1)] [] (e.keep K2) (ww hw 147 rfl) (ww hw 148 rfl) (nfS (ww hw 150 rfl)) (ww hw 150 rfl) (ww hw 149 rfl) (ww hw 7 rfl) (ww hw 151 rfl) (by decide) (Con.cold (c_subI3_1_3 l Z a0 hw h2 a b kb x0 x1 x2 cp wf hcp hwf scp sfm (e.keep K2) (f.keep K2 nin0) (g.keep K2 nin0) (v.keep K2 nin0))) pd_19 d6_35 rfl ?_
  rintro _ h4 _ ⟨⟨r_4, d_4, kd_4, rfl, K4, ge_r_4, sz_r_4, ge_d_4, sz_d_4, ne4_0, F4_0, F4_1, F4_2, F4_3⟩, rfl⟩
  have sz5 : h.size ≤ r_4 := Nat.le_trans K2.1 sz_r_4
  have sz6 : h.size ≤ d_4 := Nat.le_trans K2.1 sz_d_4
  have K7 : Keep h h4 [] := K2.trans K4 all0
  show GoS _ _ _ _ _ _ _ _ _ _ _ _ _ _ 38 _ [(.ref r_4)]
  refine GoS.astoreN (pc' := 39) (Ls' := #[.val (.ref a), .val (.int 0), .val (.ref ea_2), .val (.ref r_4)]) d6_38 rfl rfl rfl ?_
  refine GoS.new (pc' := 42) (cells' := 5) (slots' := 12) (ww hw 75 rfl) (ww hw 76 rfl) (ww hw 32 rfl) d6_39 rfl rfl (by decide) (by decide) rfl ?_
  intro h8 b8 g8 E8 ge8 A8 D8
  have sz9 : h.size ≤ b8 := Nat.le_trans K7.1 (Nat.le_of_eq g8.symm)
  have K10 : Keep h h8 [] := K7.ext E8
  refine GoS.dup (pc' := 43) d6_42 rfl rfl ?_
  refine GoS.aloadN (pc' := 44) d6_43 rfl rfl rfl ?_
  refine GoS.aloadN (pc' := 45) d6_44 rfl rfl rfl ?_
  refine GoS.callC (cells' := 5) (slots' := 12) (pc' := 48) [(.ref ea_2), (.ref r_4)] [(.ref b8)] (a := b8) rfl rfl (ww hw 77 rfl) (ww hw 78 rfl) (ww hw 32 rfl) (ww hw 79 rfl) (by decide) (Con.cold (c_wlInit l Z a0 hw h8 b8 ea_2 r_4 ge8 A8 ((D8 (Or.inr (ww hw 82 rfl)) (ty := (.object "java/lang/String")) (by decide) : Fld Z h8 b8 "com/example/inquire/inquire/io/WikiLink" "target" "Ljava/lang/String;" .null)) ((D8 (Or.inr (ww hw 84 rfl)) (ty := (.object "java/lang/String")) (by decide) : Fld Z h8 b8 "com/example/inquire/inquire/io/WikiLink" "label" "Ljava/lang/String;" .null)))) pd_15 d6_45 rfl ?_
  rintro _ h11 _ ⟨⟨rfl, K11, F11_0, F11_1⟩, rfl⟩
  have K12 : Keep h h11 [] := K10.trans K11 (allS (Or.inr sz9) all0)
  show GoS _ _ _ _ _ _ _ _ _ _ _ _ _ _ 48 _ [(.ref b8)]
  have ne13 : ea_2 ≠ b8 := (Nat.ne_of_lt (Nat.lt_of_lt_of_le (F2_5.keep K4 nin0 nin0).lt0 (Nat.le_of_eq g8.symm)))
  have f14 : Fld Z h11 ea_2 "java/lang/String" "coder" "B" (.int 0) := (((F2_1.keep K4 nin0).ext E8).keep K11 (ninS ne13 nin0))
  have f15 : Fld Z h11 ea_2 "java/lang/String" "value" "[B" (.ref eb_2) := (((F2_2.keep K4 nin0).ext E8).keep K11 (ninS ne13 nin0))
  have ne16 : eb_2 ≠ b8 := (Nat.ne_of_lt (Nat.lt_of_lt_of_le (F2_5.keep K4 nin0 nin0).lt1 (Nat.le_of_eq g8.symm)))
  have f17 : Arv Z h11 eb_2 ke_2 .byte (0 : Int32) [] (.int 0) := (((F2_3.keep K4 nin0).ext E8).keep K11 (ninS ne16 nin0))
  have ne18 : r_4 ≠ b8 := (Nat.ne_of_lt (Nat.lt_of_lt_of_le F4_2.lt (Nat.le_of_eq g8.symm)))
  have f19 : Fld Z h11 r_4 "java/lang/String" "coder" "B" (.int 0) := ((F4_1.ext E8).keep K11 (ninS ne18 nin0))
  have f20 : Fld Z h11 r_4 "java/lang/String" "value" "[B" (.ref d_4) := ((F4_2.ext E8).keep K11 (ninS ne18 nin0))
  have ne21 : d_4 ≠ b8 := (Nat.ne_of_lt (Nat.lt_of_lt_of_le F4_3.lt (Nat.le_of_eq g8.symm)))
  have f22 : Arv Z h11 d_4 kd_4 .byte (2 : Int32) [(.int x1), (.int x2)] (.int 0) := ((F4_3.ext E8).keep K11 (ninS ne21 nin0))
  exact GoS.retR rfl rfl rfl rfl d6_48 ⟨b8, ea_2, eb_2, ke_2, r_4, d_4, kd_4, rfl, K12, (A8.keep K11), F11_0, F11_1, (((F2_0.keep K4).ext E8).keep K11), f14, f15, f17, ((F4_0.ext E8).keep K11), f19, f20, f22⟩
theorem c_min3_1 (hw : HW a0 Z) (h : Heap) :
    Con l M_16 jdk_29_method_69_code 2 (some .int) (rm4 0 0 0 0) Z n0 #[(.int 3), (.int 1)] h (fun v h' => v = some (.int 1) ∧ h = h') := by
  refine Con.of_go (Jvm.Free.JP.mathPlain rfl (by decide +kernel)) (Ls := #[.val (.int 3), .val (.int 1)]) ?_
  refine Go.iloadN (pc' := 1) d15_0 rfl rfl ?_
  refine Go.iloadN (pc' := 2) d15_1 rfl rfl ?_
  refine Go.icmpYes (pc' := 9) d15_2 (XT.ii_gt_t (by decide)) (by decide) (by decide) ?_
  refine Go.iloadN (pc' := 10) d15_9 rfl rfl ?_
  exact Go.retI rfl d15_10 ⟨rfl, rfl⟩
theorem c_corB3_0_1 (hw : HW a0 Z) (h : Heap) (b : Addr) (kb : ClassId) (x0 : Int32) (x1 : Int32) (x2 : Int32) (v : Arv Z h b kb .byte (3 : Int32) [(.int x0), (.int x1), (.int x2)] (.int 0)) :
    Con l M_32 jdk_65_method_133_code 5 (some (.array .byte)) (rm4 1 1 1 18) Z n0 #[(.ref b), (.int 0), (.int 1)] h (fun v h' => ∃ d : Addr, ∃ kd : ClassId, v = some (.ref d) ∧ Keep h h' [] ∧ n0 ≤ d ∧ h.size ≤ d ∧ Arv Z h' d kd .byte (1 : Int32) [(.int x0)] (.int 0)) := by
  refine Con.of_go (plainFor_of_name pn_5) (Ls := #[.val (.ref b), .val (.int 0), .val (.int 1), .unset, .unset]) ?_
  refine Go.iloadN (pc' := 1) d29_0 rfl rfl ?_
  refine Go.iloadN (pc' := 2) d29_1 rfl rfl ?_
  refine Go.callS (cells' := 0) (slots' := 0) (pc' := 5) [(.int 0), (.int 1)] [] (ww hw 136 rfl) (ww hw 137 rfl) (ww hw 131 rfl) (ww hw 138 rfl) (by decide) (c_chkLen l Z a0 hw h (0 : Int32) (1 : Int32) (by decide)) pd_2 d29_2 rfl ?_
  rintro _ _ ⟨rfl, rfl⟩
  show Go _ _ _ _ _ _ _ _ _ _ _ _ 5 _ []
  refine Go.iloadN (pc' := 6) d29_5 rfl rfl ?_
  refine Go.iloadN (pc' := 7) d29_6 rfl rfl ?_
  refine Go.isub (pc' := 8) d29_7 rfl ?_
  show Go _ _ _ _ _ _ _ _ _ _ _ _ 8 _ [(.int 1)]
  refine Go.istoreN (pc' := 9) (Ls' := #[.val (.ref b), .val (.int 0), .val (.int 1), .val (.int 1), .unset]) d29_8 rfl rfl ?_
  refine Go.iloadN (pc' := 10) d29_9 rfl rfl ?_
  refine Go.newarray (pc' := 12) (cells' := 1) (slots' := 1) (cap := 1) (ww hw 23 rfl) d29_10 (ad := "[B") (by decide) (by decide) (by decide) rfl rfl (by decide) (by decide) (by decide) rfl ?_
  intro h2 b2 g2 E2 ge2 kA2 A2 X2
  have K3 : Keep h h2 [] := (Keep.refl h []).ext E2
  have V2 : Arv Z h2 b2 kA2 .byte (1 : Int32) [(.int 0)] (.int 0) := Arv.pad A2 (pad_rep [] (.int 0) 1)
  refine Go.astore (pc' := 14) (Ls' := #[.val (.ref b), .val (.int 0), .val (.int 1), .val (.int 1), .val (.ref b2)]) d29_12 rfl rfl rfl ?_
  refine Go.aloadN (pc' := 15) d29_14 rfl rfl rfl ?_
  refine Go.iloadN (pc' := 16) d29_15 rfl rfl ?_
  refine Go.aload (pc' := 18) d29_16 rfl rfl rfl ?_
  refine Go.iconst (pc' := 19) (v := 0) d29_18 rfl rfl ?_
  refine Go.aloadN (pc' := 20) d29_19 rfl rfl rfl ?_
  refine Go.arraylength (pc' := 21) (v.ext E2) d29_20 rfl ?_
  refine Go.iloadN (pc' := 22) d29_21 rfl rfl ?_
  refine Go.isub (pc' := 23) d29_22 rfl ?_
  show Go _ _ _ _ _ _ _ _ _ _ _ _ 23 _ [(.int 3), (.int 0), (.ref b2), (.int 0), (.ref b)]
  refine Go.iloadN (pc' := 24) d29_23 rfl rfl ?_
  refine Go.callS (cells' := 1) (slots' := 1) (pc' := 27) [(.int 3), (.int 1)] [(.int 0), (.ref b2), (.int 0), (.ref b)] (ww hw 139 rfl) (ww hw 72 rfl) (ww hw 69 rfl) (ww hw 73 rfl) (by decide) (c_min3_1 l Z a0 hw h2) pd_10 d29_24 rfl ?_
  rintro _ _ ⟨rfl, rfl⟩
  show Go _ _ _ _ _ _ _ _ _ _ _ _ 27 _ [(.int 1), (.int 0), (.ref b2), (.int 0), (.ref b)]
  refine Go.arraycopy (pc' := 30) (us := [(.int x0)]) (vd' := [(.int x0)]) (ww hw 140 rfl) (ww hw 143 rfl) (ww hw 141 rfl) (ww hw 142 rfl) (v.ext E2) V2 (Or.inl ⟨rfl, rfl⟩) (by decide) (by decide) (by decide) (by decide) (by decide) rfl (nl rfl) rfl ge2 d29_27 rfl (nl rfl) (nl rfl) rfl ?_
  intro h5 K6 V7
  have K8 : Keep h h5 [] := K3.trans K6 (allS (Or.inr (Nat.le_of_eq g2.symm)) all0)
  refine Go.aload (pc' := 32) d29_30 rfl rfl rfl ?_
  exact Go.retR rfl rfl rfl rfl d29_32 ⟨b2, kA2, rfl, K8, ge2, (Nat.le_of_eq g2.symm), V7⟩
theorem c_cor3_0_1 (hw : HW a0 Z) (h : Heap) (b : Addr) (kb : ClassId) (x0 : Int32) (x1 : Int32) (x2 : Int32) (v : Arv Z h b kb .byte (3 : Int32) [(.int x0), (.int x1), (.int x2)] (.int 0)) :
    Con l M_33 jdk_65_method_132_code 3 (some (.array .byte)) (rm4 2 1 1 34) Z n0 #[(.ref b), (.int 0), (.int 1)] h (fun v h' => ∃ d : Addr, ∃ kd : ClassId, v = some (.ref d) ∧ Keep h h' [] ∧ n0 ≤ d ∧ h.size ≤ d ∧ Arv Z h' d kd .byte (1 : Int32) [(.int x0)] (.int 0)) := by
  refine Con.of_go (plainFor_of_name pn_5) (Ls := #[.val (.ref b), .val (.int 0), .val (.int 1)]) ?_
  refine Go.iloadN (pc' := 1) d28_0 rfl rfl ?_
  refine Go.ifNo (pc' := 4) d28_1 (XT.i0_ne_f (by decide)) rfl ?_
  refine Go.iloadN (pc' := 5) d28_4 rfl rfl ?_
  refine Go.aloadN (pc' := 6) d28_5 rfl rfl rfl ?_
  refine Go.arraylength (pc' := 7) v d28_6 rfl ?_
  refine Go.icmpNo (pc' := 10) d28_7 (XT.ii_eq_f (by decide)) rfl ?_
  refine Go.aloadN (pc' := 11) d28_10 rfl rfl rfl ?_
  refine Go.iloadN (pc' := 12) d28_11 rfl rfl ?_
  refine Go.iloadN (pc' := 13) d28_12 rfl rfl ?_
  refine Go.callS (cells' := 1) (slots' := 1) (pc' := 16) [(.ref b), (.int 0), (.int 1)] [] (ww hw 133 rfl) (ww hw 134 rfl) (ww hw 131 rfl) (ww hw 135 rfl) (by decide) (c_corB3_0_1 l Z a0 hw h b kb x0 x1 x2 v) pd_20 d28_13 rfl ?_
  rintro _ h1 ⟨d_1, kd_1, rfl, K1, ge_d_1, sz_d_1, F1_0⟩
  show Go _ _ _ _ _ _ _ _ _ _ _ _ 16 _ [(.ref d_1)]
  exact Go.retR rfl rfl rfl rfl d28_16 ⟨d_1, kd_1, rfl, K1, ge_d_1, sz_d_1, F1_0⟩
theorem c_newStr3_0_1 (hw : HW a0 Z) (h : Heap) (b : Addr) (kb : ClassId) (x0 : Int32) (x1 : Int32) (x2 : Int32) (v : Arv Z h b kb .byte (3 : Int32) [(.int x0), (.int x1), (.int x2)] (.int 0)) :
    Con l M_29 jdk_43_method_47_code 3 (some (.object "java/lang/String")) (rm4 3 2 5 50) Z n0 #[(.ref b), (.int 0), (.int 1)] h (fun v h' => ∃ r : Addr, ∃ d : Addr, ∃ kd : ClassId, v = some (.ref r) ∧ Keep h h' [] ∧ n0 ≤ r ∧ h.size ≤ r ∧ n0 ≤ d ∧ h.size ≤ d ∧ r ≠ d ∧ Exa Z h' r "java/lang/String" ∧ Fld Z h' r "java/lang/String" "coder" "B" (.int 0) ∧ Fld Z h' r "java/lang/String" "value" "[B" (.ref d) ∧ Arv Z h' d kd .byte (1 : Int32) [(.int x0)] (.int 0)) := by
  refine Con.of_go (plainFor_of_name pn_2) (Ls := #[.val (.ref b), .val (.int 0), .val (.int 1)]) ?_
  refine Go.iloadN (pc' := 1) d27_0 rfl rfl ?_
  refine Go.ifYes (pc' := 7) d27_1 (XT.i0_ne_t (by decide)) (by decide) (by decide) ?_
  refine Go.new (pc' := 10) (cells' := 1) (slots' := 4) (ww hw 128 rfl) (ww hw 6 rfl) (ww hw 7 rfl) d27_7 rfl rfl (by decide) (by decide) rfl ?_
  intro h1 b1 g1 E1 ge1 A1 D1
  have K2 : Keep h h1 [] := (Keep.refl h []).ext E1
  refine Go.dup (pc' := 11) d27_10 rfl rfl ?_
  refine Go.aloadN (pc' := 12) d27_11 rfl rfl rfl ?_
  refine Go.iloadN (pc' := 13) d27_12 rfl rfl ?_
  refine Go.iloadN (pc' := 14) d27_13 rfl rfl ?_
  refine Go.iloadN (pc' := 15) d27_14 rfl rfl ?_
  refine Go.iadd (pc' := 16) d27_15 rfl ?_
  show Go _ _ _ _ _ _ _ _ _ _ _ _ 16 _ [(.int 1), (.int 0), (.ref b), (.ref b1), (.ref b1)]
  refine Go.callS (cells' := 2) (slots' := 5) (pc' := 19) [(.ref b), (.int 0), (.int 1)] [(.ref b1), (.ref b1)] (ww hw 129 rfl) (ww hw 130 rfl) (ww hw 131 rfl) (ww hw 132 rfl) (by decide) (c_cor3_0_1 l Z a0 hw h1 b kb x0 x1 x2 (v.ext E1)) pd_20 d27_16 rfl ?_
  rintro _ h3 ⟨d_3, kd_3, rfl, K3, ge_d_3, sz_d_3, F3_0⟩
  have sz4 : h.size ≤ d_3 := Nat.le_trans K2.1 sz_d_3
  have K5 : Keep h h3 [] := K2.trans K3 all0
  show Go _ _ _ _ _ _ _ _ _ _ _ _ 19 _ [(.ref d_3), (.ref b1), (.ref b1)]
  refine Go.iconst (pc' := 20) (v := 0) d27_19 rfl rfl ?_
  have f6 : Fld Z h3 b1 "java/lang/String" "value" "[B" .null := ((D1 (Or.inr (ww hw 24 rfl)) (ty := (.array .byte)) (by decide) : Fld Z h1 b1 "java/lang/String" "value" "[B" .null).keep K3 nin0)
  have f7 : Fld Z h3 b1 "java/lang/String" "coder" "B" (.int 0) := ((D1 (Or.inr (ww hw 25 rfl)) (ty := .byte) (by decide) : Fld Z h1 b1 "java/lang/String" "coder" "B" (.int 0)).keep K3 nin0)
  refine Go.callC (cells' := 2) (slots' := 5) (pc' := 23) [(.ref d_3), (.int 0)] [(.ref b1)] (a := b1) rfl rfl (ww hw 144 rfl) (ww hw 145 rfl) (ww hw 7 rfl) (ww hw 146 rfl) (by decide) (c_strB l Z a0 hw h3 b1 d_3 ge1 (A1.keep K3) f6 f7) pd_21 d27_20 rfl ?_
  rintro _ h8 ⟨rfl, K8, F8_0, F8_1⟩
  have K9 : Keep h h8 [] := K5.trans K8 (allS (Or.inr (Nat.le_of_eq g1.symm)) all0)
  show Go _ _ _ _ _ _ _ _ _ _ _ _ 23 _ [(.ref b1)]
  have ne10 : b1 ≠ d_3 := (Nat.ne_of_lt (Nat.lt_of_lt_of_le (D1 (Or.inr (ww hw 25 rfl)) (ty := .byte) (by decide) : Fld Z h1 b1 "java/lang/String" "coder" "B" (.int 0)).lt sz_d_3))
  have f11 : Arv Z h8 d_3 kd_3 .byte (1 : Int32) [(.int x0)] (.int 0) := (F3_0.keep K8 (ninS (Ne.symm ne10) nin0))
  exact Go.retR rfl rfl rfl rfl d27_23 ⟨b1, d_3, kd_3, rfl, K9, ge1, (Nat.le_of_eq g1.symm), ge_d_3, sz4, ne10, ((A1.keep K3).keep K8), F8_1, F8_0, f11⟩
theorem c_sub3_0_1 (hw : HW a0 Z) (h : Heap) (a : Addr) (b : Addr) (kb : ClassId) (x0 : Int32) (x1 : Int32) (x2 : Int32) (cp : Int32) (wf : Value) (hcp : ¬ (cp = (0 : Int32))) (hwf : wf.isRef = true) (scp : Sta Z Z.heap "java/lang/String" "COMPACT_STRINGS" "Z" (.int cp)) (sfm : Sta Z Z.heap "jdk/internal/util/Preconditions" "SIOOBE_FORMATTER" "Ljava/util/function/BiFunction;" wf) (e : Exa Z h a "java/lang/String") (f : Fld Z h a "java/lang/String" "coder" "B" (.int 0)) (g : Fld Z h a "java/lang/String" "value" "[B" (.ref b)) (v : Arv Z h b kb .byte (3 : Int32) [(.int x0), (.int x1), (.int x2)] (.int 0)) :
    Con l M_30 jdk_42_method_92_code 5 (some (.object "java/lang/String")) (rm4 4 2 5 64) Z n0 #[(.ref a), (.int 0), (.int 1)] h (fun v h' => ∃ r : Addr, ∃ d : Addr, ∃ kd : ClassId, v = some (.ref r) ∧ Keep h h' [] ∧ n0 ≤ r ∧ h.size ≤ r ∧ n0 ≤ d ∧ h.size ≤ d ∧ r ≠ d ∧ Exa Z h' r "java/lang/String" ∧ Fld Z h' r "java/lang/String" "coder" "B" (.int 0) ∧ Fld Z h' r "java/lang/String" "value" "[B" (.ref d) ∧ Arv Z h' d kd .byte (1 : Int32) [(.int x0)] (.int 0)) := by
  refine Con.of_go (plainFor_of_name pn_0) (Ls := #[.val (.ref a), .val (.int 0), .val (.int 1), .unset, .unset]) ?_
  refine Go.aloadN (pc' := 1) d24_0 rfl rfl rfl ?_
  refine Go.callV (cells' := 0) (slots' := 0) (pc' := 4) [] [] e (ww hw 50 rfl) (ww hw 51 rfl) (nfS (ww hw 53 rfl)) (ww hw 53 rfl) (ww hw 52 rfl) (ww hw 7 rfl) (ww hw 54 rfl) (by decide) (c_strLen3 l Z a0 hw h a b kb x0 x1 x2 cp hcp scp e f g v) pd_11 d24_1 rfl ?_
  rintro _ _ ⟨rfl, rfl⟩
  show Go _ _ _ _ _ _ _ _ _ _ _ _ 4 _ [(.int 3)]
  refine Go.istoreN (pc' := 5) (Ls' := #[.val (.ref a), .val (.int 0), .val (.int 1), .val (.int 3), .unset]) d24_4 rfl rfl ?_
  refine Go.iloadN (pc' := 6) d24_5 rfl rfl ?_
  refine Go.iloadN (pc' := 7) d24_6 rfl rfl ?_
  refine Go.iloadN (pc' := 8) d24_7 rfl rfl ?_
  refine Go.callS (cells' := 0) (slots' := 0) (pc' := 11) [(.int 0), (.int 1), (.int 3)] [] (ww hw 117 rfl) (ww hw 118 rfl) (ww hw 7 rfl) (ww hw 119 rfl) (by decide) (c_bounds l Z a0 hw h (0 : Int32) (1 : Int32) (3 : Int32) wf (by decide) (by decide) (by decide) hwf sfm) pd_16 d24_8 rfl ?_
  rintro _ _ ⟨rfl, rfl⟩
  show Go _ _ _ _ _ _ _ _ _ _ _ _ 11 _ []
  refine Go.iloadN (pc' := 12) d24_11 rfl rfl ?_
  refine Go.ifNo (pc' := 15) d24_12 (XT.i0_ne_f (by decide)) rfl ?_
  refine Go.iloadN (pc' := 16) d24_15 rfl rfl ?_
  refine Go.iloadN (pc' := 17) d24_16 rfl rfl ?_
  refine Go.icmpYes (pc' := 22) d24_17 (XT.ii_ne_t (by decide)) (by decide) (by decide) ?_
  refine Go.iloadN (pc' := 23) d24_22 rfl rfl ?_
  refine Go.iloadN (pc' := 24) d24_23 rfl rfl ?_
  refine Go.isub (pc' := 25) d24_24 rfl ?_
  show Go _ _ _ _ _ _ _ _ _ _ _ _ 25 _ [(.int 1)]
  refine Go.istore (pc' := 27) (Ls' := #[.val (.ref a), .val (.int 0), .val (.int 1), .val (.int 3), .val (.int 1)]) d24_25 rfl rfl ?_
  refine Go.aloadN (pc' := 28) d24_27 rfl rfl rfl ?_
  refine Go.callV (cells' := 0) (slots' := 0) (pc' := 31) [] [] e (ww hw 44 rfl) (ww hw 45 rfl) (nfS (ww hw 47 rfl)) (ww hw 47 rfl) (ww hw 46 rfl) (ww hw 7 rfl) (ww hw 48 rfl) (by decide) (c_isLatin1 l Z a0 hw h a cp hcp scp f) pd_3 d24_28 rfl ?_
  rintro _ _ ⟨rfl, rfl⟩
  show Go _ _ _ _ _ _ _ _ _ _ _ _ 31 _ [(.int 1)]
  refine Go.ifNo (pc' := 34) d24_31 (XT.i0_eq_f (by decide)) rfl ?_
  refine Go.aloadN (pc' := 35) d24_34 rfl rfl rfl ?_
  refine Go.getfield (pc' := 38) (host := "") (Or.inl (ww hw 28 rfl)) Via.refl g d24_35 rfl ?_
  refine Go.iloadN (pc' := 39) d24_38 rfl rfl ?_
  refine Go.iload (pc' := 41) d24_39 rfl rfl ?_
  refine Go.callS (cells' := 2) (slots' := 5) (pc' := 44) [(.ref b), (.int 0), (.int 1)] [] (ww hw 125 rfl) (ww hw 126 rfl) (ww hw 62 rfl) (ww hw 127 rfl) (by decide) (c_newStr3_0_1 l Z a0 hw h b kb x0 x1 x2 v) pd_17 d24_41 rfl ?_
  rintro _ h4 ⟨r_4, d_4, kd_4, rfl, K4, ge_r_4, sz_r_4, ge_d_4, sz_d_4, ne4_0, F4_0, F4_1, F4_2, F4_3⟩
  show Go _ _ _ _ _ _ _ _ _ _ _ _ 44 _ [(.ref r_4)]
  refine Go.goto (pc' := 57) d24_44 (by decide) (by decide) ?_
  exact Go.retR rfl rfl rfl rfl d24_57 ⟨r_4, d_4, kd_4, rfl, K4, ge_r_4, sz_r_4, ge_d_4, sz_d_4, ne4_0, F4_0, F4_1, F4_2, F4_3⟩
theorem c_corB3_2_3 (hw : HW a0 Z) (h : Heap) (b : Addr) (kb : ClassId) (x0 : Int32) (x1 : Int32) (x2 : Int32) (v : Arv Z h b kb .byte (3 : Int32) [(.int x0), (.int x1), (.int x2)] (.int 0)) :
    Con l M_32 jdk_65_method_133_code 5 (some (.array .byte)) (rm4 1 1 1 18) Z n0 #[(.ref b), (.int 2), (.int 3)] h (fun v h' => ∃ d : Addr, ∃ kd : ClassId, v = some (.ref d) ∧ Keep h h' [] ∧ n0 ≤ d ∧ h.size ≤ d ∧ Arv Z h' d kd .byte (1 : Int32) [(.int x2)] (.int 0)) := by
  refine Con.of_go (plainFor_of_name pn_5) (Ls := #[.val (.ref b), .val (.int 2), .val (.int 3), .unset, .unset]) ?_
  refine Go.iloadN (pc' := 1) d29_0 rfl rfl ?_
  refine Go.iloadN (pc' := 2) d29_1 rfl rfl ?_
  refine Go.callS (cells' := 0) (slots' := 0) (pc' := 5) [(.int 2), (.int 3)] [] (ww hw 136 rfl) (ww hw 137 rfl) (ww hw 131 rfl) (ww hw 138 rfl) (by decide) (c_chkLen l Z a0 hw h (2 : Int32) (3 : Int32) (by decide)) pd_2 d29_2 rfl ?_
  rintro _ _ ⟨rfl, rfl⟩
  show Go _ _ _ _ _ _ _ _ _ _ _ _ 5 _ []
  refine Go.iloadN (pc' := 6) d29_5 rfl rfl ?_
  refine Go.iloadN (pc' := 7) d29_6 rfl rfl ?_
  refine Go.isub (pc' := 8) d29_7 rfl ?_
  show Go _ _ _ _ _ _ _ _ _ _ _ _ 8 _ [(.int 1)]
  refine Go.istoreN (pc' := 9) (Ls' := #[.val (.ref b), .val (.int 2), .val (.int 3), .val (.int 1), .unset]) d29_8 rfl rfl ?_
  refine Go.iloadN (pc' := 10) d29_9 rfl rfl ?_
  refine Go.newarray (pc' := 12) (cells' := 1) (slots' := 1) (cap := 1) (ww hw 23 rfl) d29_10 (ad := "[B") (by decide) (by decide) (by decide) rfl rfl (by decide) (by decide) (by decide) rfl ?_
  intro h2 b2 g2 E2 ge2 kA2 A2 X2
  have K3 : Keep h h2 [] := (Keep.refl h []).ext E2
  have V2 : Arv Z h2 b2 kA2 .byte (1 : Int32) [(.int 0)] (.int 0) := Arv.pad A2 (pad_rep [] (.int 0) 1)
  refine Go.astore (pc' := 14) (Ls' := #[.val (.ref b), .val (.int 2), .val (.int 3), .val (.int 1), .val (.ref b2)]) d29_12 rfl rfl rfl ?_
  refine Go.aloadN (pc' := 15) d29_14 rfl rfl rfl ?_
  refine Go.iloadN (pc' := 16) d29_15 rfl rfl ?_
  refine Go.aload (pc' := 18) d29_16 rfl rfl rfl ?_
  refine Go.iconst (pc' := 19) (v := 0) d29_18 rfl rfl ?_
  refine Go.aloadN (pc' := 20) d29_19 rfl rfl rfl ?_
  refine Go.arraylength (pc' := 21) (v.ext E2) d29_20 rfl ?_
  refine Go.iloadN (pc' := 22) d29_21 rfl rfl ?_
  refine Go.isub (pc' := 23) d29_22 rfl ?_
  show Go _ _ _ _ _ _ _ _ _ _ _ _ 23 _ [(.int 1), (.int 0), (.ref b2), (.int 2), (.ref b)]
  refine Go.iloadN (pc' := 24) d29_23 rfl rfl ?_
  refine Go.callS (cells' := 1) (slots' := 1) (pc' := 27) [(.int 1), (.int 1)] [(.int 0), (.ref b2), (.int 2), (.ref b)] (ww hw 139 rfl) (ww hw 72 rfl) (ww hw 69 rfl) (ww hw 73 rfl) (by decide) (c_min1_1 l Z a0 hw h2) pd_10 d29_24 rfl ?_
  rintro _ _ ⟨rfl, rfl⟩
  show Go _ _ _ _ _ _ _ _ _ _ _ _ 27 _ [(.int 1), (.int 0), (.ref b2), (.int 2), (.ref b)]
  refine Go.arraycopy (pc' := 30) (us := [(.int x2)]) (vd' := [(.int x2)]) (ww hw 140 rfl) (ww hw 143 rfl) (ww hw 141 rfl) (ww hw 142 rfl) (v.ext E2) V2 (Or.inl ⟨rfl, rfl⟩) (by decide) (by decide) (by decide) (by decide) (by decide) rfl (nl rfl) rfl ge2 d29_27 rfl (nl rfl) (nl rfl) rfl ?_
  intro h5 K6 V7
  have K8 : Keep h h5 [] := K3.trans K6 (allS (Or.inr (Nat.le_of_eq g2.symm)) all0)
  refine Go.aload (pc' := 32) d29_30 rfl rfl rfl ?_
  exact Go.retR rfl rfl rfl rfl d29_32 ⟨b2, kA2, rfl, K8, ge2, (Nat.le_of_eq g2.symm), V7⟩
theorem c_cor3_2_3 (hw : HW a0 Z) (h : Heap) (b : Addr) (kb : ClassId) (x0 : Int32) (x1 : Int32) (x2 : Int32) (v : Arv Z h b kb .byte (3 : Int32) [(.int x0), (.int x1), (.int x2)] (.int 0)) :
    Con l M_33 jdk_65_method_132_code 3 (some (.array .byte)) (rm4 2 1 1 34) Z n0 #[(.ref b), (.int 2), (.int 3)] h (fun v h' => ∃ d : Addr, ∃ kd : ClassId, v = some (.ref d) ∧ Keep h h' [] ∧ n0 ≤ d ∧ h.size ≤ d ∧ Arv Z h' d kd .byte (1 : Int32) [(.int x2)] (.int 0)) := by
  refine Con.of_go (plainFor_of_name pn_5) (Ls := #[.val (.ref b), .val (.int 2), .val (.int 3)]) ?_
  refine Go.iloadN (pc' := 1) d28_0 rfl rfl ?_
  refine Go.ifYes (pc' := 10) d28_1 (XT.i0_ne_t (by decide)) (by decide) (by decide) ?_
  refine Go.aloadN (pc' := 11) d28_10 rfl rfl rfl ?_
  refine Go.iloadN (pc' := 12) d28_11 rfl rfl ?_
  refine Go.iloadN (pc' := 13) d28_12 rfl rfl ?_
  refine Go.callS (cells' := 1) (slots' := 1) (pc' := 16) [(.ref b), (.int 2), (.int 3)] [] (ww hw 133 rfl) (ww hw 134 rfl) (ww hw 131 rfl) (ww hw 135 rfl) (by decide) (c_corB3_2_3 l Z a0 hw h b kb x0 x1 x2 v) pd_20 d28_13 rfl ?_
  rintro _ h1 ⟨d_1, kd_1, rfl, K1, ge_d_1, sz_d_1, F1_0⟩
  show Go _ _ _ _ _ _ _ _ _ _ _ _ 16 _ [(.ref d_1)]
  exact Go.retR rfl rfl rfl rfl d28_16 ⟨d_1, kd_1, rfl, K1, ge_d_1, sz_d_1, F1_0⟩
theorem c_newStr3_2_3 (hw : HW a0 Z) (h : Heap) (b : Addr) (kb : ClassId) (x0 : Int32) (x1 : Int32) (x2 : Int32) (v : Arv Z h b kb .byte (3 : Int32) [(.int x0), (.int x1), (.int x2)] (.int 0)) :
    Con l M_29 jdk_43_method_47_code 3 (some (.object "java/lang/String")) (rm4 3 2 5 50) Z n0 #[(.ref b), (.int 2), (.int 1)] h (fun v h' => ∃ r : Addr, ∃ d : Addr, ∃ kd : ClassId, v = some (.ref r) ∧ Keep h h' [] ∧ n0 ≤ r ∧ h.size ≤ r ∧ n0 ≤ d ∧ h.size ≤ d ∧ r ≠ d ∧ Exa Z h' r "java/lang/String" ∧ Fld Z h' r "java/lang/String" "coder" "B" (.int 0) ∧ Fld Z h' r "java/lang/String" "value" "[B" (.ref d) ∧ Arv Z h' d kd .byte (1 : Int32) [(.int x2)] (.int 0)) := by
  refine Con.of_go (plainFor_of_name pn_2) (Ls := #[.val (.ref b), .val (.int 2), .val (.int 1)]) ?_
  refine Go.iloadN (pc' := 1) d27_0 rfl rfl ?_
  refine Go.ifYes (pc' := 7) d27_1 (XT.i0_ne_t (by decide)) (by decide) (by decide) ?_
  refine Go.new (pc' := 10) (cells' := 1) (slots' := 4) (ww hw 128 rfl) (ww hw 6 rfl) (ww hw 7 rfl) d27_7 rfl rfl (by decide) (by decide) rfl ?_
  intro h1 b1 g1 E1 ge1 A1 D1
  have K2 : Keep h h1 [] := (Keep.refl h []).ext E1
  refine Go.dup (pc' := 11) d27_10 rfl rfl ?_
  refine Go.aloadN (pc' := 12) d27_11 rfl rfl rfl ?_
  refine Go.iloadN (pc' := 13) d27_12 rfl rfl ?_
  refine Go.iloadN (pc' := 14) d27_13 rfl rfl ?_
  refine Go.iloadN (pc' := 15) d27_14 rfl rfl ?_
  refine Go.iadd (pc' := 16) d27_15 rfl ?_
  show Go _ _ _ _ _ _ _ _ _ _ _ _ 16 _ [(.int 3), (.int 2), (.ref b), (.ref b1), (.ref b1)]
  refine Go.callS (cells' := 2) (slots' := 5) (pc' := 19) [(.ref b), (.int 2), (.int 3)] [(.ref b1), (.ref b1)] (ww hw 129 rfl) (ww hw 130 rfl) (ww hw 131 rfl) (ww hw 132 rfl) (by decide) (c_cor3_2_3 l Z a0 hw h1 b kb x0 x1 x2 (v.ext E1)) pd_20 d27_16 rfl ?_
  rintro _ h3 ⟨d_3, kd_3, rfl, K3, ge_d_3, sz_d_3, F3_0⟩
  have sz4 : h.size ≤ d_3 := Nat.le_trans K2.1 sz_d_3
  have K5 : Keep h h3 [] := K2.trans K3 all0
  show Go _ _ _ _ _ _ _ _ _ _ _ _ 19 _ [(.ref d_3), (.ref b1), (.ref b1)]
  refine Go.iconst (pc' := 20) (v := 0) d27_19 rfl rfl ?_
  have f6 : Fld Z h3 b1 "java/lang/String" "value" "[B" .null := ((D1 (Or.inr (ww hw 24 rfl)) (ty := (.array .byte)) (by decide) : Fld Z h1 b1 "java/lang/String" "value" "[B" .null).keep K3 nin0)
  have f7 : Fld Z h3 b1 "java/lang/String" "coder" "B" (.int 0) := ((D1 (Or.inr (ww hw 25 rfl)) (ty := .byte) (by decide) : Fld Z h1 b1 "java/lang/String" "coder" "B" (.int 0)).keep K3 nin0)
  refine Go.callC (cells' := 2) (slots' := 5) (pc' := 23) [(.ref d_3), (.int 0)] [(.ref b1)] (a := b1) rfl rfl (ww hw 144 rfl) (ww hw 145 rfl) (ww hw 7 rfl) (ww hw 146 rfl) (by decide) (c_strB l Z a0 hw h3 b1 d_3 ge1 (A1.keep K3) f6 f7) pd_21 d27_20 rfl ?_
  rintro _ h8 ⟨rfl, K8, F8_0, F8_1⟩
  have K9 : Keep h h8 [] := K5.trans K8 (allS (Or.inr (Nat.le_of_eq g1.symm)) all0)
  show Go _ _ _ _ _ _ _ _ _ _ _ _ 23 _ [(.ref b1)]
  have ne10 : b1 ≠ d_3 := (Nat.ne_of_lt (Nat.lt_of_lt_of_le (D1 (Or.inr (ww hw 25 rfl)) (ty := .byte) (by decide) : Fld Z h1 b1 "java/lang/String" "coder" "B" (.int 0)).lt sz_d_3))
  have f11 : Arv Z h8 d_3 kd_3 .byte (1 : Int32) [(.int x2)] (.int 0) := (F3_0.keep K8 (ninS (Ne.symm ne10) nin0))
  exact Go.retR rfl rfl rfl rfl d27_23 ⟨b1, d_3, kd_3, rfl, K9, ge1, (Nat.le_of_eq g1.symm), ge_d_3, sz4, ne10, ((A1.keep K3).keep K8), F8_1, F8_0, f11⟩
theorem c_sub3_2_3 (hw : HW a0 Z) (h : Heap) (a : Addr) (b : Addr) (kb : ClassId) (x0 : Int32) (x1 : Int32) (x2 : Int32) (cp : Int32) (wf : Value) (hcp : ¬ (cp = (0 : Int32))) (hwf : wf.isRef = true) (scp : Sta Z Z.heap "java/lang/String" "COMPACT_STRINGS" "Z" (.int cp)) (sfm : Sta Z Z.heap "jdk/internal/util/Preconditions" "SIOOBE_FORMATTER" "Ljava/util/function/BiFunction;" wf) (e : Exa Z h a "java/lang/String") (f : Fld Z h a "java/lang/String" "coder" "B" (.int 0)) (g : Fld Z h a "java/lang/String" "value" "[B" (.ref b)) (v : Arv Z h b kb .byte (3 : Int32) [(.int x0), (.int x1), (.int x2)] (.int 0)) :
    Con l M_30 jdk_42_method_92_code 5 (some (.object "java/lang/String")) (rm4 4 2 5 64) Z n0 #[(.ref a), (.int 2), (.int 3)] h (fun v h' => ∃ r : Addr, ∃ d : Addr, ∃ kd : ClassId, v = some (.ref r) ∧ Keep h h' [] ∧ n0 ≤ r ∧ h.size ≤ r ∧ n0 ≤ d ∧ h.size ≤ d ∧ r ≠ d ∧ Exa Z h' r "java/lang/String" ∧ Fld Z h' r "java/lang/String" "coder" "B" (.int 0) ∧ Fld Z h' r "java/lang/String" "value" "[B" (.ref d) ∧ Arv Z h' d kd .byte (1 : Int32) [(.int x2)] (.int 0)) := by
  refine Con.of_go (plainFor_of_name pn_0) (Ls := #[.val (.ref a), .val (.int 2), .val (.int 3), .unset, .unset]) ?_
  refine Go.aloadN (pc' := 1) d24_0 rfl rfl rfl ?_
  refine Go.callV (cells' := 0) (slots' := 0) (pc' := 4) [] [] e (ww hw 50 rfl) (ww hw 51 rfl) (nfS (ww hw 53 rfl)) (ww hw 53 rfl) (ww hw 52 rfl) (ww hw 7 rfl) (ww hw 54 rfl) (by decide) (c_strLen3 l Z a0 hw h a b kb x0 x1 x2 cp hcp scp e f g v) pd_11 d24_1 rfl ?_
  rintro _ _ ⟨rfl, rfl⟩
  show Go _ _ _ _ _ _ _ _ _ _ _ _ 4 _ [(.int 3)]
  refine Go.istoreN (pc' := 5) (Ls' := #[.val (.ref a), .val (.int 2), .val (.int 3), .val (.int 3), .unset]) d24_4 rfl rfl ?_
  refine Go.iloadN (pc' := 6) d24_5 rfl rfl ?_
  refine Go.iloadN (pc' := 7) d24_6 rfl rfl ?_
  refine Go.iloadN (pc' := 8) d24_7 rfl rfl ?_
  refine Go.callS (cells' := 0) (slots' := 0) (pc' := 11) [(.int 2), (.int 3), (.int 3)] [] (ww hw 117 rfl) (ww hw 118 rfl) (ww hw 7 rfl) (ww hw 119 rfl) (by decide) (c_bounds l Z a0 hw h (2 : Int32) (3 : Int32) (3 : Int32) wf (by decide) (by decide) (by decide) hwf sfm) pd_16 d24_8 rfl ?_
  rintro _ _ ⟨rfl, rfl⟩
  show Go _ _ _ _ _ _ _ _ _ _ _ _ 11 _ []
  refine Go.iloadN (pc' := 12) d24_11 rfl rfl ?_
  refine Go.ifYes (pc' := 22) d24_12 (XT.i0_ne_t (by decide)) (by decide) (by decide) ?_
  refine Go.iloadN (pc' := 23) d24_22 rfl rfl ?_
  refine Go.iloadN (pc' := 24) d24_23 rfl rfl ?_
  refine Go.isub (pc' := 25) d24_24 rfl ?_
  show Go _ _ _ _ _ _ _ _ _ _ _ _ 25 _ [(.int 1)]
  refine Go.istore (pc' := 27) (Ls' := #[.val (.ref a), .val (.int 2), .val (.int 3), .val (.int 3), .val (.int 1)]) d24_25 rfl rfl ?_
  refine Go.aloadN (pc' := 28) d24_27 rfl rfl rfl ?_
  refine Go.callV (cells' := 0) (slots' := 0) (pc' := 31) [] [] e (ww hw 44 rfl) (ww hw 45 rfl) (nfS (ww hw 47 rfl)) (ww hw 47 rfl) (ww hw 46 rfl) (ww hw 7 rfl) (ww hw 48 rfl) (by decide) (c_isLatin1 l Z a0 hw h a cp hcp scp f) pd_3 d24_28 rfl ?_
  rintro _ _ ⟨rfl, rfl⟩
  show Go _ _ _ _ _ _ _ _ _ _ _ _ 31 _ [(.int 1)]
  refine Go.ifNo (pc' := 34) d24_31 (XT.i0_eq_f (by decide)) rfl ?_
  refine Go.aloadN (pc' := 35) d24_34 rfl rfl rfl ?_
  refine Go.getfield (pc' := 38) (host := "") (Or.inl (ww hw 28 rfl)) Via.refl g d24_35 rfl ?_
  refine Go.iloadN (pc' := 39) d24_38 rfl rfl ?_
  refine Go.iload (pc' := 41) d24_39 rfl rfl ?_
  refine Go.callS (cells' := 2) (slots' := 5) (pc' := 44) [(.ref b), (.int 2), (.int 1)] [] (ww hw 125 rfl) (ww hw 126 rfl) (ww hw 62 rfl) (ww hw 127 rfl) (by decide) (c_newStr3_2_3 l Z a0 hw h b kb x0 x1 x2 v) pd_17 d24_41 rfl ?_
  rintro _ h4 ⟨r_4, d_4, kd_4, rfl, K4, ge_r_4, sz_r_4, ge_d_4, sz_d_4, ne4_0, F4_0, F4_1, F4_2, F4_3⟩
  show Go _ _ _ _ _ _ _ _ _ _ _ _ 44 _ [(.ref r_4)]
  refine Go.goto (pc' := 57) d24_44 (by decide) (by decide) ?_
  exact Go.retR rfl rfl rfl rfl d24_57 ⟨r_4, d_4, kd_4, rfl, K4, ge_r_4, sz_r_4, ge_d_4, sz_d_4, ne4_0, F4_0, F4_1, F4_2, F4_3⟩
theorem c_subI3_2_3 (hw : HW a0 Z) (h : Heap) (a : Addr) (b : Addr) (kb : ClassId) (x0 : Int32) (x1 : Int32) (x2 : Int32) (cp : Int32) (wf : Value) (hcp : ¬ (cp = (0 : Int32))) (hwf : wf.isRef = true) (scp : Sta Z Z.heap "java/lang/String" "COMPACT_STRINGS" "Z" (.int cp)) (sfm : Sta Z Z.heap "jdk/internal/util/Preconditions" "SIOOBE_FORMATTER" "Ljava/util/function/BiFunction;" wf) (e : Exa Z h a "java/lang/String") (f : Fld Z h a "java/lang/String" "coder" "B" (.int 0)) (g : Fld Z h a "java/lang/String" "value" "[B" (.ref b)) (v : Arv Z h b kb .byte (3 : Int32) [(.int x0), (.int x1), (.int x2)] (.int 0)) :
    Con l M_31 jdk_42_method_91_code 2 (some (.object "java/lang/String")) (rm4 5 2 5 80) Z n0 #[(.ref a), (.int 2)] h (fun v h' => ∃ r : Addr, ∃ d : Addr, ∃ kd : ClassId, v = some (.ref r) ∧ Keep h h' [] ∧ n0 ≤ r ∧ h.size ≤ r ∧ n0 ≤ d ∧ h.size ≤ d ∧ r ≠ d ∧ Exa Z h' r "java/lang/String" ∧ Fld Z h' r "java/lang/String" "coder" "B" (.int 0) ∧ Fld Z h' r "java/lang/String" "value" "[B" (.ref d) ∧ Arv Z h' d kd .byte (1 : Int32) [(.int x2)] (.int 0)) := by
  refine Con.of_go (plainFor_of_name pn_0) (Ls := #[.val (.ref a), .val (.int 2)]) ?_
  refine Go.aloadN (pc' := 1) d32_0 rfl rfl rfl ?_
  refine Go.iloadN (pc' := 2) d32_1 rfl rfl ?_
  refine Go.aloadN (pc' := 3) d32_2 rfl rfl rfl ?_
  refine Go.callV (cells' := 0) (slots' := 0) (pc' := 6) [] [(.int 2), (.ref a)] e (ww hw 50 rfl) (ww hw 51 rfl) (nfS (ww hw 53 rfl)) (ww hw 53 rfl) (ww hw 52 rfl) (ww hw 7 rfl) (ww hw 54 rfl) (by decide) (c_strLen3 l Z a0 hw h a b kb x0 x1 x2 cp hcp scp e f g v) pd_11 d32_3 rfl ?_
  rintro _ _ ⟨rfl, rfl⟩
  show Go _ _ _ _ _ _ _ _ _ _ _ _ 6 _ [(.int 3), (.int 2), (.ref a)]
  refine Go.callV (cells' := 2) (slots' := 5) (pc' := 9) [(.int 2), (.int 3)] [] e (ww hw 152 rfl) (ww hw 113 rfl) (nfS (ww hw 115 rfl)) (ww hw 115 rfl) (ww hw 114 rfl) (ww hw 7 rfl) (ww hw 116 rfl) (by decide) (c_sub3_2_3 l Z a0 hw h a b kb x0 x1 x2 cp wf hcp hwf scp sfm e f g v) pd_18 d32_6 rfl ?_
  rintro _ h2 ⟨r_2, d_2, kd_2, rfl, K2, ge_r_2, sz_r_2, ge_d_2, sz_d_2, ne2_0, F2_0, F2_1, F2_2, F2_3⟩
  show Go _ _ _ _ _ _ _ _ _ _ _ _ 9 _ [(.ref r_2)]
  exact Go.retR rfl rfl rfl rfl d32_9 ⟨r_2, d_2, kd_2, rfl, K2, ge_r_2, sz_r_2, ge_d_2, sz_d_2, ne2_0, F2_0, F2_1, F2_2, F2_3⟩
theorem c_parse3_1 (hw : HW a0 Z) (h : Heap) (a : Addr) (b : Addr) (kb : ClassId) (x0 : Int32) (x1 : Int32) (x2 : Int32) (cp : Int32) (wf : Value) (hcp : ¬ (cp = (0 : Int32))) (hwf : wf.isRef = true) (hcw : Jvm.Lit.compactW.before a0 Z = true) (hch26 : Jvm.Lit.constHeld Z "com/example/inquire/inquire/io/WikiLink" 26) (hch151 : Jvm.Lit.constHeld Z "java/lang/StringLatin1" 151) (hx0 : ¬ (x0 = (124 : Int32))) (hx1 : x1 = (124 : Int32)) (scp : Sta Z Z.heap "java/lang/String" "COMPACT_STRINGS" "Z" (.int cp)) (sfm : Sta Z Z.heap "jdk/internal/util/Preconditions" "SIOOBE_FORMATTER" "Ljava/util/function/BiFunction;" wf) (e : Exa Z h a "java/lang/String") (f : Fld Z h a "java/lang/String" "coder" "B" (.int 0)) (g : Fld Z h a "java/lang/String" "value" "[B" (.ref b)) (v : Arv Z h b kb .byte (3 : Int32) [(.int x0), (.int x1), (.int x2)] (.int 0)) :
    ConS l M_28 prog_40_method_2_code 4 (some (.object "com/example/inquire/inquire/io/WikiLink")) (rm4 6 5 12 93) Z n0 #[(.ref a)] h [] (fun v h' LL' => ∃ w : Addr, ∃ rt : Addr, ∃ dt : Addr, ∃ kt : ClassId, ∃ rl : Addr, ∃ dl : Addr, ∃ kl : ClassId, v = some (.ref w) ∧ Keep h h' [] ∧ Exa Z h' w "com/example/inquire/inquire/io/WikiLink" ∧ Fld Z h' w "com/example/inquire/inquire/io/WikiLink" "target" "Ljava/lang/String;" (.ref rt) ∧ Fld Z h' w "com/example/inquire/inquire/io/WikiLink" "label" "Ljava/lang/String;" (.ref rl) ∧ Exa Z h' rt "java/lang/String" ∧ Fld Z h' rt "java/lang/String" "coder" "B" (.int 0) ∧ Fld Z h' rt "java/lang/String" "value" "[B" (.ref dt) ∧ Arv Z h' dt kt .byte (1 : Int32) [(.int x0)] (.int 0) ∧ Exa Z h' rl "java/lang/String" ∧ Fld Z h' rl "java/lang/String" "coder" "B" (.int 0) ∧ Fld Z h' rl "java/lang/String" "value" "[B" (.ref dl) ∧ Arv Z h' dl kl .byte (1 : Int32) [(.int x2)] (.int 0)) := by
  refine ConS.of_go (plainFor_of_name pn_6) (Ls := #[.val (.ref a), .unset, .unset, .unset]) ?_
  refine GoS.aloadN (pc' := 1) d6_0 rfl rfl rfl ?_
  refine GoS.bipush (pc' := 3) (v := 124) d6_1 rfl rfl ?_
  refine GoS.callV (cells' := 0) (slots' := 0) (pc' := 6) [(.int 124)] [] e (ww hw 34 rfl) (ww hw 35 rfl) (nfS (ww hw 37 rfl)) (ww hw 37 rfl) (ww hw 36 rfl) (ww hw 7 rfl) (ww hw 38 rfl) (by decide) (Con.cold (c_idx3 l Z a0 hw h a b kb x0 x1 x2 cp hcp scp e f g v)) pd_14 d6_3 rfl ?_
  rintro _ _ _ ⟨⟨rfl, rfl⟩, rfl⟩
  show GoS _ _ _ _ _ _ _ _ _ _ _ _ _ _ 6 _ [(.int (if x0 = (124 : Int32) then (0 : Int32) else (if x1 = (124 : Int32) then (1 : Int32) else (if x2 = (124 : Int32) then (2 : Int32) else (-1 : Int32)))))]
  rw [if_neg hx0, if_pos hx1]
  refine GoS.istoreN (pc' := 7) (Ls' := #[.val (.ref a), .val (.int 1), .unset, .unset]) d6_6 rfl rfl ?_
  refine GoS.iloadN (pc' := 8) d6_7 rfl rfl ?_
  refine GoS.ifYes (pc' := 15) d6_8 (XT.i0_ge_t (by decide)) (by decide) (by decide) ?_
  refine GoS.aloadN (pc' := 16) d6_15 rfl rfl rfl ?_
  refine GoS.iconst (pc' := 17) (v := 0) d6_16 rfl rfl ?_
  refine GoS.iloadN (pc' := 18) d6_17 rfl rfl ?_
  refine GoS.callV (cells' := 2) (slots' := 5) (pc' := 21) [(.int 0), (.int 1)] [] e (ww hw 112 rfl) (ww hw 113 rfl) (nfS (ww hw 115 rfl)) (ww hw 115 rfl) (ww hw 114 rfl) (ww hw 7 rfl) (ww hw 116 rfl) (by decide) (Con.cold (c_sub3_0_1 l Z a0 hw h a b kb x0 x1 x2 cp wf hcp hwf scp sfm e f g v)) pd_18 d6_18 rfl ?_
  rintro _ h2 _ ⟨⟨r_2, d_2, kd_2, rfl, K2, ge_r_2, sz_r_2, ge_d_2, sz_d_2, ne2_0, F2_0, F2_1, F2_2, F2_3⟩, rfl⟩
  show GoS _ _ _ _ _ _ _ _ _ _ _ _ _ _ 21 _ [(.ref r_2)]
  refine GoS.astoreN (pc' := 22) (Ls' := #[.val (.ref a), .val (.int 1), .val (.ref r_2), .unset]) d6_21 rfl rfl rfl ?_
  refine GoS.iloadN (pc' := 23) d6_22 rfl rfl ?_
  refine GoS.ifYes (pc' := 31) d6_23 (XT.i0_ge_t (by decide)) (by decide) (by decide) ?_
  refine GoS.aloadN (pc' := 32) d6_31 rfl rfl rfl ?_
  refine GoS.iloadN (pc' := 33) d6_32 rfl rfl ?_
  refine GoS.iconst (pc' := 34) (v := 1) d6_33 rfl rfl ?_
  refine GoS.iadd (pc' := 35) d6_34 rfl ?_
  show GoS _ _ _ _ _ _ _ _ _ _ _ _ _ _ 35 _ [(.int 2), (.ref a)]
  refine GoS.callV (cells' := 4) (slots' := 10) (pc' := 38) [(.int 2)] [] (e.keep K2) (ww hw 147 rfl) (ww hw 148 rfl) (nfS (ww hw 150 rfl)) (ww hw 150 rfl) (ww hw 149 rfl) (ww hw 7 rfl) (ww hw 151 rfl) (by decide) (Con.cold (c_subI3_2_3 l Z a0 hw h2 a b kb x0 x1 x2 cp wf hcp hwf scp sfm (e.keep K2) (f.keep K2 nin0) (g.keep K2 nin0) (v.keep K2 nin0))) pd_19 d6_35 rfl ?_
  rintro _ h4 _ ⟨⟨r_4, d_4, kd_4, rfl, K4, ge_r_4, sz_r_4, ge_d_4, sz_d_4, ne4_0, F4_0, F4_1, F4_2, F4_3⟩, rfl⟩
  have sz5 : h.size ≤ r_4 := Nat.le_trans K2.1 sz_r_4
  have sz6 : h.size ≤ d_4 := Nat.le_trans K2.1 sz_d_4
  have K7 : Keep h h4 [] := K2.trans K4 all0
  show GoS _ _ _ _ _ _ _ _ _ _ _ _ _ _ 38 _ [(.ref r_4)]
  refine GoS.astoreN (pc' := 39) (Ls' := #[.val (.ref a), .val (.int 1), .val (.ref r_2), .val (.ref r_4)]) d6_38 rfl rfl rfl ?_
  refine GoS.new (pc' := 42) (cells' := 5) (slots' := 12) (ww hw 75 rfl) (ww hw 76 rfl) (ww hw 32 rfl) d6_39 rfl rfl (by decide) (by decide) rfl ?_
  intro h8 b8 g8 E8 ge8 A8 D8
  have sz9 : h.size ≤ b8 := Nat.le_trans K7.1 (Nat.le_of_eq g8.symm)
  have K10 : Keep h h8 [] := K7.ext E8
  refine GoS.dup (pc' := 43) d6_42 rfl rfl ?_
  refine GoS.aloadN (pc' := 44) d6_43 rfl rfl rfl ?_
  refine GoS.aloadN (pc' := 45) d6_44 rfl rfl rfl ?_
  refine GoS.callC (cells' := 5) (slots' := 12) (pc' := 48) [(.ref r_2), (.ref r_4)] [(.ref b8)] (a := b8) rfl rfl (ww hw 77 rfl) (ww hw 78 rfl) (ww hw 32 rfl) (ww hw 79 rfl) (by decide) (Con.cold (c_wlInit l Z a0 hw h8 b8 r_2 r_4 ge8 A8 ((D8 (Or.inr (ww hw 82 rfl)) (ty := (.object "java/lang/String")) (by decide) : Fld Z h8 b8 "com/example/inquire/inquire/io/WikiLink" "target" "Ljava/lang/String;" .null)) ((D8 (Or.inr (ww hw 84 rfl)) (ty := (.object "java/lang/String")) (by decide) : Fld Z h8 b8 "com/example/inquire/inquire/io/WikiLink" "label" "Ljava/lang/String;" .null)))) pd_15 d6_45 rfl ?_
  rintro _ h11 _ ⟨⟨rfl, K11, F11_0, F11_1⟩, rfl⟩
  have K12 : Keep h h11 [] := K10.trans K11 (allS (Or.inr sz9) all0)
  show GoS _ _ _ _ _ _ _ _ _ _ _ _ _ _ 48 _ [(.ref b8)]
  have ne13 : r_2 ≠ b8 := (Nat.ne_of_lt (Nat.lt_of_lt_of_le (F2_2.keep K4 nin0).lt (Nat.le_of_eq g8.symm)))
  have f14 : Fld Z h11 r_2 "java/lang/String" "coder" "B" (.int 0) := (((F2_1.keep K4 nin0).ext E8).keep K11 (ninS ne13 nin0))
  have f15 : Fld Z h11 r_2 "java/lang/String" "value" "[B" (.ref d_2) := (((F2_2.keep K4 nin0).ext E8).keep K11 (ninS ne13 nin0))
  have ne16 : d_2 ≠ b8 := (Nat.ne_of_lt (Nat.lt_of_lt_of_le (F2_3.keep K4 nin0).lt (Nat.le_of_eq g8.symm)))
  have f17 : Arv Z h11 d_2 kd_2 .byte (1 : Int32) [(.int x0)] (.int 0) := (((F2_3.keep K4 nin0).ext E8).keep K11 (ninS ne16 nin0))
  have ne18 : r_4 ≠ b8 := (Nat.ne_of_lt (Nat.lt_of_lt_of_le F4_2.lt (Nat.le_of_eq g8.symm)))
  have f19 : Fld Z h11 r_4 "java/lang/String" "coder" "B" (.int 0) := ((F4_1.ext E8).keep K11 (ninS ne18 nin0))
  have f20 : Fld Z h11 r_4 "java/lang/String" "value" "[B" (.ref d_4) := ((F4_2.ext E8).keep K11 (ninS ne18 nin0))
  have ne21 : d_4 ≠ b8 := (Nat.ne_of_lt (Nat.lt_of_lt_of_le F4_3.lt (Nat.le_of_eq g8.symm)))
  have f22 : Arv Z h11 d_4 kd_4 .byte (1 : Int32) [(.int x2)] (.int 0) := ((F4_3.ext E8).keep K11 (ninS ne21 nin0))
  exact GoS.retR rfl rfl rfl rfl d6_48 ⟨b8, r_2, d_2, kd_2, r_4, d_4, kd_4, rfl, K12, (A8.keep K11), F11_0, F11_1, (((F2_0.keep K4).ext E8).keep K11), f14, f15, f17, ((F4_0.ext E8).keep K11), f19, f20, f22⟩
theorem c_min3_2 (hw : HW a0 Z) (h : Heap) :
    Con l M_16 jdk_29_method_69_code 2 (some .int) (rm4 0 0 0 0) Z n0 #[(.int 3), (.int 2)] h (fun v h' => v = some (.int 2) ∧ h = h') := by
  refine Con.of_go (Jvm.Free.JP.mathPlain rfl (by decide +kernel)) (Ls := #[.val (.int 3), .val (.int 2)]) ?_
  refine Go.iloadN (pc' := 1) d15_0 rfl rfl ?_
  refine Go.iloadN (pc' := 2) d15_1 rfl rfl ?_
  refine Go.icmpYes (pc' := 9) d15_2 (XT.ii_gt_t (by decide)) (by decide) (by decide) ?_
  refine Go.iloadN (pc' := 10) d15_9 rfl rfl ?_
  exact Go.retI rfl d15_10 ⟨rfl, rfl⟩
theorem c_corB3_0_2 (hw : HW a0 Z) (h : Heap) (b : Addr) (kb : ClassId) (x0 : Int32) (x1 : Int32) (x2 : Int32) (v : Arv Z h b kb .byte (3 : Int32) [(.int x0), (.int x1), (.int x2)] (.int 0)) :
    Con l M_32 jdk_65_method_133_code 5 (some (.array .byte)) (rm4 1 1 2 18) Z n0 #[(.ref b), (.int 0), (.int 2)] h (fun v h' => ∃ d : Addr, ∃ kd : ClassId, v = some (.ref d) ∧ Keep h h' [] ∧ n0 ≤ d ∧ h.size ≤ d ∧ Arv Z h' d kd .byte (2 : Int32) [(.int x0), (.int x1)] (.int 0)) := by
  refine Con.of_go (plainFor_of_name pn_5) (Ls := #[.val (.ref b), .val (.int 0), .val (.int 2), .unset, .unset]) ?_
  refine Go.iloadN (pc' := 1) d29_0 rfl rfl ?_
  refine Go.iloadN (pc' := 2) d29_1 rfl rfl ?_
  refine Go.callS (cells' := 0) (slots' := 0) (pc' := 5) [(.int 0), (.int 2)] [] (ww hw 136 rfl) (ww hw 137 rfl) (ww hw 131 rfl) (ww hw 138 rfl) (by decide) (c_chkLen l Z a0 hw h (0 : Int32) (2 : Int32) (by decide)) pd_2 d29_2 rfl ?_
  rintro _ _ ⟨rfl, rfl⟩
  show Go _ _ _ _ _ _ _ _ _ _ _ _ 5 _ []
  refine Go.iloadN (pc' := 6) d29_5 rfl rfl ?_
  refine Go.iloadN (pc' := 7) d29_6 rfl rfl ?_
  refine Go.isub (pc' := 8) d29_7 rfl ?_
  show Go _ _ _ _ _ _ _ _ _ _ _ _ 8 _ [(.int 2)]
  refine Go.istoreN (pc' := 9) (Ls' := #[.val (.ref b), .val (.int 0), .val (.int 2), .val (.int 2), .unset]) d29_8 rfl rfl ?_
  refine Go.iloadN (pc' := 10) d29_9 rfl rfl ?_
  refine Go.newarray (pc' := 12) (cells' := 1) (slots' := 2) (cap := 2) (ww hw 23 rfl) d29_10 (ad := "[B") (by decide) (by decide) (by decide) rfl rfl (by decide) (by decide) (by decide) rfl ?_
  intro h2 b2 g2 E2 ge2 kA2 A2 X2
  have K3 : Keep h h2 [] := (Keep.refl h []).ext E2
  have V2 : Arv Z h2 b2 kA2 .byte (2 : Int32) [(.int 0), (.int 0)] (.int 0) := Arv.pad A2 (pad_rep [] (.int 0) 2)
  refine Go.astore (pc' := 14) (Ls' := #[.val (.ref b), .val (.int 0), .val (.int 2), .val (.int 2), .val (.ref b2)]) d29_12 rfl rfl rfl ?_
  refine Go.aloadN (pc' := 15) d29_14 rfl rfl rfl ?_
  refine Go.iloadN (pc' := 16) d29_15 rfl rfl ?_
  refine Go.aload (pc' := 18) d29_16 rfl rfl rfl ?_
  refine Go.iconst (pc' := 19) (v := 0) d29_18 rfl rfl ?_
  refine Go.aloadN (pc' := 20) d29_19 rfl rfl rfl ?_
  refine Go.arraylength (pc' := 21) (v.ext E2) d29_20 rfl ?_
  refine Go.iloadN (pc' := 22) d29_21 rfl rfl ?_
  refine Go.isub (pc' := 23) d29_22 rfl ?_
  show Go _ _ _ _ _ _ _ _ _ _ _ _ 23 _ [(.int 3), (.int 0), (.ref b2), (.int 0), (.ref b)]
  refine Go.iloadN (pc' := 24) d29_23 rfl rfl ?_
  refine Go.callS (cells' := 1) (slots' := 2) (pc' := 27) [(.int 3), (.int 2)] [(.int 0), (.ref b2), (.int 0), (.ref b)] (ww hw 139 rfl) (ww hw 72 rfl) (ww hw 69 rfl) (ww hw 73 rfl) (by decide) (c_min3_2 l Z a0 hw h2) pd_10 d29_24 rfl ?_
  rintro _ _ ⟨rfl, rfl⟩
  show Go _ _ _ _ _ _ _ _ _ _ _ _ 27 _ [(.int 2), (.int 0), (.ref b2), (.int 0), (.ref b)]
  refine Go.arraycopy (pc' := 30) (us := [(.int x0), (.int x1)]) (vd' := [(.int x0), (.int x1)]) (ww hw 140 rfl) (ww hw 143 rfl) (ww hw 141 rfl) (ww hw 142 rfl) (v.ext E2) V2 (Or.inl ⟨rfl, rfl⟩) (by decide) (by decide) (by decide) (by decide) (by decide) rfl (nl rfl) rfl ge2 d29_27 rfl (nl rfl) (nl rfl) rfl ?_
  intro h5 K6 V7
  have K8 : Keep h h5 [] := K3.trans K6 (allS (Or.inr (Nat.le_of_eq g2.symm)) all0)
  refine Go.aload (pc' := 32) d29_30 rfl rfl rfl ?_
  exact Go.retR rfl rfl rfl rfl d29_32 ⟨b2, kA2, rfl, K8, ge2, (Nat.le_of_eq g2.symm), V7⟩
theorem c_cor3_0_2 (hw : HW a0 Z) (h : Heap) (b : Addr) (kb : ClassId) (x0 : Int32) (x1 : Int32) (x2 : Int32) (v : Arv Z h b kb .byte (3 : Int32) [(.int x0), (.int x1), (.int x2)] (.int 0)) :
    Con l M_33 jdk_65_method_132_code 3 (some (.array .byte)) (rm4 2 1 2 34) Z n0 #[(.ref b), (.int 0), (.int 2)] h (fun v h' => ∃ d : Addr, ∃ kd : ClassId, v = some (.ref d) ∧ Keep h h' [] ∧ n0 ≤ d ∧ h.size ≤ d ∧ Arv Z h' d kd .byte (2 : Int32) [(.int x0), (.int x1)] (.int 0)) := by
  refine Con.of_go (plainFor_of_name pn_5) (Ls := #[.val (.ref b), .val (.int 0), .val (.int 2)]) ?_
  refine Go.iloadN (pc' := 1) d28_0 rfl rfl ?_
  refine Go.ifNo (pc' := 4) d28_1 (XT.i0_ne_f (by decide)) rfl ?_
  refine Go.iloadN (pc' := 5) d28_4 rfl rfl ?_
  refine Go.aloadN (pc' := 6) d28_5 rfl rfl rfl ?_
  refine Go.arraylength (pc' := 7) v d28_6 rfl ?_
  refine Go.icmpNo (pc' := 10) d28_7 (XT.ii_eq_f (by decide)) rfl ?_
  refine Go.aloadN (pc' := 11) d28_10 rfl rfl rfl ?_
  refine Go.iloadN (pc' := 12) d28_11 rfl rfl ?_
  refine Go.iloadN (pc' := 13) d28_12 rfl rfl ?_
  refine Go.callS (cells' := 1) (slots' := 2) (pc' := 16) [(.ref b), (.int 0), (.int 2)] [] (ww hw 133 rfl) (ww hw 134 rfl) (ww hw 131 rfl) (ww hw 135 rfl) (by decide) (c_corB3_0_2 l Z a0 hw h b kb x0 x1 x2 v) pd_20 d28_13 rfl ?_
  rintro _ h1 ⟨d_1, kd_1, rfl, K1, ge_d_1, sz_d_1, F1_0⟩
  show Go _ _ _ _ _ _ _ _ _ _ _ _ 16 _ [(.ref d_1)]
  exact Go.retR rfl rfl rfl rfl d28_16 ⟨d_1, kd_1, rfl, K1, ge_d_1, sz_d_1, F1_0⟩
theorem c_newStr3_0_2 (hw : HW a0 Z) (h : Heap) (b : Addr) (kb : ClassId) (x0 : Int32) (x1 : Int32) (x2 : Int32) (v : Arv Z h b kb .byte (3 : Int32) [(.int x0), (.int x1), (.int x2)] (.int 0)) :
    Con l M_29 jdk_43_method_47_code 3 (some (.object "java/lang/String")) (rm4 3 2 6 50) Z n0 #[(.ref b), (.int 0), (.int 2)] h (fun v h' => ∃ r : Addr, ∃ d : Addr, ∃ kd : ClassId, v = some (.ref r) ∧ Keep h h' [] ∧ n0 ≤ r ∧ h.size ≤ r ∧ n0 ≤ d ∧ h.size ≤ d ∧ r ≠ d ∧ Exa Z h' r "java/lang/String" ∧ Fld Z h' r "java/lang/String" "coder" "B" (.int 0) ∧ Fld Z h' r "java/lang/String" "value" "[B" (.ref d) ∧ Arv Z h' d kd .byte (2 : Int32) [(.int x0), (.int x1)] (.int 0)) := by
  refine Con.of_go (plainFor_of_name pn_2) (Ls := #[.val (.ref b), .val (.int 0), .val (.int 2)]) ?_
  refine Go.iloadN (pc' := 1) d27_0 rfl rfl ?_
  refine Go.ifYes (pc' := 7) d27_1 (XT.i0_ne_t (by decide)) (by decide) (by decide) ?_
  refine Go.new (pc' := 10) (cells' := 1) (slots' := 4) (ww hw 128 rfl) (ww hw 6 rfl) (ww hw 7 rfl) d27_7 rfl rfl (by decide) (by decide) rfl ?_
  intro h1 b1 g1 E1 ge1 A1 D1
  have K2 : Keep h h1 [] := (Keep.refl h []).ext E1
  refine Go.dup (pc' := 11) d27_10 rfl rfl ?_
  refine Go.aloadN (pc' := 12) d27_11 rfl rfl rfl ?_
  refine Go.iloadN (pc' := 13) d27_12 rfl rfl ?_
  refine Go.iloadN (pc' := 14) d27_13 rfl rfl ?_
  refine Go.iloadN (pc' := 15) d27_14 rfl rfl ?_
  refine Go.iadd (pc' := 16) d27_15 rfl ?_
  show Go _ _ _ _ _ _ _ _ _ _ _ _ 16 _ [(.int 2), (.int 0), (.ref b), (.ref b1), (.ref b1)]
  refine Go.callS (cells' := 2) (slots' := 6) (pc' := 19) [(.ref b), (.int 0), (.int 2)] [(.ref b1), (.ref b1)] (ww hw 129 rfl) (ww hw 130 rfl) (ww hw 131 rfl) (ww hw 132 rfl) (by decide) (c_cor3_0_2 l Z a0 hw h1 b kb x0 x1 x2 (v.ext E1)) pd_20 d27_16 rfl ?_
  rintro _ h3 ⟨d_3, kd_3, rfl, K3, ge_d_3, sz_d_3, F3_0⟩
  have sz4 : h.size ≤ d_3 := Nat.le_trans K2.1 sz_d_3
  have K5 : Keep h h3 [] := K2.trans K3 all0
  show Go _ _ _ _ _ _ _ _ _ _ _ _ 19 _ [(.ref d_3), (.ref b1), (.ref b1)]
  refine Go.iconst (pc' := 20) (v := 0) d27_19 rfl rfl ?_
  have f6 : Fld Z h3 b1 "java/lang/String" "value" "[B" .null := ((D1 (Or.inr (ww hw 24 rfl)) (ty := (.array .byte)) (by decide) : Fld Z h1 b1 "java/lang/String" "value" "[B" .null).keep K3 nin0)
  have f7 : Fld Z h3 b1 "java/lang/String" "coder" "B" (.int 0) := ((D1 (Or.inr (ww hw 25 rfl)) (ty := .byte) (by decide) : Fld Z h1 b1 "java/lang/String" "coder" "B" (.int 0)).keep K3 nin0)
  refine Go.callC (cells' := 2) (slots' := 6) (pc' := 23) [(.ref d_3), (.int 0)] [(.ref b1)] (a := b1) rfl rfl (ww hw 144 rfl) (ww hw 145 rfl) (ww hw 7 rfl) (ww hw 146 rfl) (by decide) (c_strB l Z a0 hw h3 b1 d_3 ge1 (A1.keep K3) f6 f7) pd_21 d27_20 rfl ?_
  rintro _ h8 ⟨rfl, K8, F8_0, F8_1⟩
  have K9 : Keep h h8 [] := K5.trans K8 (allS (Or.inr (Nat.le_of_eq g1.symm)) all0)
  show Go _ _ _ _ _ _ _ _ _ _ _ _ 23 _ [(.ref b1)]
  have ne10 : b1 ≠ d_3 := (Nat.ne_of_lt (Nat.lt_of_lt_of_le (D1 (Or.inr (ww hw 25 rfl)) (ty := .byte) (by decide) : Fld Z h1 b1 "java/lang/String" "coder" "B" (.int 0)).lt sz_d_3))
  have f11 : Arv Z h8 d_3 kd_3 .byte (2 : Int32) [(.int x0), (.int x1)] (.int 0) := (F3_0.keep K8 (ninS (Ne.symm ne10) nin0))
  exact Go.retR rfl rfl rfl rfl d27_23 ⟨b1, d_3, kd_3, rfl, K9, ge1, (Nat.le_of_eq g1.symm), ge_d_3, sz4, ne10, ((A1.keep K3).keep K8), F8_1, F8_0, f11⟩
theorem c_sub3_0_2 (hw : HW a0 Z) (h : Heap) (a : Addr) (b : Addr) (kb : ClassId) (x0 : Int32) (x1 : Int32) (x2 : Int32) (cp : Int32) (wf : Value) (hcp : ¬ (cp = (0 : Int32))) (hwf : wf.isRef = true) (scp : Sta Z Z.heap "java/lang/String" "COMPACT_STRINGS" "Z" (.int cp)) (sfm : Sta Z Z.heap "jdk/internal/util/Preconditions" "SIOOBE_FORMATTER" "Ljava/util/function/BiFunction;" wf) (e : Exa Z h a "java/lang/String") (f : Fld Z h a "java/lang/String" "coder" "B" (.int 0)) (g : Fld Z h a "java/lang/String" "value" "[B" (.ref b)) (v : Arv Z h b kb .byte (3 : Int32) [(.int x0), (.int x1), (.int x2)] (.int 0)) :
    Con l M_30 jdk_42_method_92_code 5 (some (.object "java/lang/String")) (rm4 4 2 6 64) Z n0 #[(.ref a), (.int 0), (.int 2)] h (fun v h' => ∃ r : Addr, ∃ d : Addr, ∃ kd : ClassId, v = some (.ref r) ∧ Keep h h' [] ∧ n0 ≤ r ∧ h.size ≤ r ∧ n0 ≤ d ∧ h.size ≤ d ∧ r ≠ d ∧ Exa Z h' r "java/lang/String" ∧ Fld Z h' r "java/lang/String" "coder" "B" (.int 0) ∧ Fld Z h' r "java/lang/String" "value" "[B" (.ref d) ∧ Arv Z h' d kd .byte (2 : Int32) [(.int x0), (.int x1)] (.int 0)) := by
  refine Con.of_go (plainFor_of_name pn_0) (Ls := #[.val (.ref a), .val (.int 0), .val (.int 2), .unset, .unset]) ?_
  refine Go.aloadN (pc' := 1) d24_0 rfl rfl rfl ?_
  refine Go.callV (cells' := 0) (slots' := 0) (pc' := 4) [] [] e (ww hw 50 rfl) (ww hw 51 rfl) (nfS (ww hw 53 rfl)) (ww hw 53 rfl) (ww hw 52 rfl) (ww hw 7 rfl) (ww hw 54 rfl) (by decide) (c_strLen3 l Z a0 hw h a b kb x0 x1 x2 cp hcp scp e f g v) pd_11 d24_1 rfl ?_
  rintro _ _ ⟨rfl, rfl⟩
  show Go _ _ _ _ _ _ _ _ _ _ _ _ 4 _ [(.int 3)]
  refine Go.istoreN (pc' := 5) (Ls' := #[.val (.ref a), .val (.int 0), .val (.int 2), .val (.int 3), .unset]) d24_4 rfl rfl ?_
  refine Go.iloadN (pc' := 6) d24_5 rfl rfl ?_
  refine Go.iloadN (pc' := 7) d24_6 rfl rfl ?_
  refine Go.iloadN (pc' := 8) d24_7 rfl rfl ?_
  refine Go.callS (cells' := 0) (slots' := 0) (pc' := 11) [(.int 0), (.int 2), (.int 3)] [] (ww hw 117 rfl) (ww hw 118 rfl) (ww hw 7 rfl) (ww hw 119 rfl) (by decide) (c_bounds l Z a0 hw h (0 : Int32) (2 : Int32) (3 : Int32) wf (by decide) (by decide) (by decide) hwf sfm) pd_16 d24_8 rfl ?_
  rintro _ _ ⟨rfl, rfl⟩
  show Go _ _ _ _ _ _ _ _ _ _ _ _ 11 _ []
  refine Go.iloadN (pc' := 12) d24_11 rfl rfl ?_
  refine Go.ifNo (pc' := 15) d24_12 (XT.i0_ne_f (by decide)) rfl ?_
  refine Go.iloadN (pc' := 16) d24_15 rfl rfl ?_
  refine Go.iloadN (pc' := 17) d24_16 rfl rfl ?_
  refine Go.icmpYes (pc' := 22) d24_17 (XT.ii_ne_t (by decide)) (by decide) (by decide) ?_
  refine Go.iloadN (pc' := 23) d24_22 rfl rfl ?_
  refine Go.iloadN (pc' := 24) d24_23 rfl rfl ?_
  refine Go.isub (pc' := 25) d24_24 rfl ?_
  show Go _ _ _ _ _ _ _ _ _ _ _ _ 25 _ [(.int 2)]
  refine Go.istore (pc' := 27) (Ls' := #[.val (.ref a), .val (.int 0), .val (.int 2), .val (.int 3), .val (.int 2)]) d24_25 rfl rfl ?_
  refine Go.aloadN (pc' := 28) d24_27 rfl rfl rfl ?_
  refine Go.callV (cells' := 0) (slots' := 0) (pc' := 31) [] [] e (ww hw 44 rfl) (ww hw 45 rfl) (nfS (ww hw 47 rfl)) (ww hw 47 rfl) (ww hw 46 rfl) (ww hw 7 rfl) (ww hw 48 rfl) (by decide) (c_isLatin1 l Z a0 hw h a cp hcp scp f) pd_3 d24_28 rfl ?_
  rintro _ _ ⟨rfl, rfl⟩
  show Go _ _ _ _ _ _ _ _ _ _ _ _ 31 _ [(.int 1)]
  refine Go.ifNo (pc' := 34) d24_31 (XT.i0_eq_f (by decide)) rfl ?_
  refine Go.aloadN (pc' := 35) d24_34 rfl rfl rfl ?_
  refine Go.getfield (pc' := 38) (host := "") (Or.inl (ww hw 28 rfl)) Via.refl g d24_35 rfl ?_
  refine Go.iloadN (pc' := 39) d24_38 rfl rfl ?_
  refine Go.iload (pc' := 41) d24_39 rfl rfl ?_
  refine Go.callS (cells' := 2) (slots' := 6) (pc' := 44) [(.ref b), (.int 0), (.int 2)] [] (ww hw 125 rfl) (ww hw 126 rfl) (ww hw 62 rfl) (ww hw 127 rfl) (by decide) (c_newStr3_0_2 l Z a0 hw h b kb x0 x1 x2 v) pd_17 d24_41 rfl ?_
  rintro _ h4 ⟨r_4, d_4, kd_4, rfl, K4, ge_r_4, sz_r_4, ge_d_4, sz_d_4, ne4_0, F4_0, F4_1, F4_2, F4_3⟩
  show Go _ _ _ _ _ _ _ _ _ _ _ _ 44 _ [(.ref r_4)]
  refine Go.goto (pc' := 57) d24_44 (by decide) (by decide) ?_
  exact Go.retR rfl rfl rfl rfl d24_57 ⟨r_4, d_4, kd_4, rfl, K4, ge_r_4, sz_r_4, ge_d_4, sz_d_4, ne4_0, F4_0, F4_1, F4_2, F4_3⟩
theorem c_newStr3_3_3 (hw : HW a0 Z) (h : Heap) (b : Addr) (hcw : Jvm.Lit.compactW.before a0 Z = true) (hch151 : Jvm.Lit.constHeld Z "java/lang/StringLatin1" 151) :
    ConS l M_29 jdk_43_method_47_code 3 (some (.object "java/lang/String")) (rm4 0 2 4 0) Z n0 #[(.ref b), (.int 3), (.int 0)] h [] (fun v h' LL' => ∃ ea : Addr, ∃ eb : Addr, ∃ ke : ClassId, v = some (.ref ea) ∧ Keep h h' [] ∧ Exa Z h' ea "java/lang/String" ∧ Fld Z h' ea "java/lang/String" "coder" "B" (.int 0) ∧ Fld Z h' ea "java/lang/String" "value" "[B" (.ref eb) ∧ Arv Z h' eb ke .byte (0 : Int32) [] (.int 0) ∧ Exa Z h' eb "[B" ∧ Hel Z h' ea eb ("") ∧ LL' = [("", ea, "java/lang/StringLatin1", 151)]) := by
  refine ConS.of_go (plainFor_of_name pn_2) (Ls := #[.val (.ref b), .val (.int 3), .val (.int 0)]) ?_
  refine GoS.iloadN (pc' := 1) d27_0 rfl rfl ?_
  refine GoS.ifNo (pc' := 4) d27_1 (XT.i0_ne_f (by decide)) rfl ?_
  refine GoS.ldcS (pc' := 6) (cells' := 2) (slots' := 4) (n := 0) (z := (0 : Int32)) (vs := []) (ww hw 153 rfl) (wsA hw) hch151 hcw (Keep.refl h []) HL.nil tx_0 (by decide) rfl d27_4 (nl rfl) (nl rfl) rfl rfl (nl rfl) (nl rfl) rfl ?_
  intro h1 sa1 sb1 kb1 E1 F1_0 F1_1 F1_2 F1_3 F1_4 F1_5
  have K2 : Keep h h1 [] := (Keep.refl h []).ext E1
  have H3 : Hel Z h1 sa1 sb1 "" := ⟨kb1, _, _, F1_0, F1_1, F1_2, F1_3, F1_4, tx_0, rfl⟩
  show GoS _ _ _ _ _ _ _ _ _ _ _ _ _ _ 6 _ [(.ref sa1)]
  exact GoS.retR rfl rfl rfl rfl d27_6 ⟨sa1, sb1, kb1, rfl, K2, F1_0, F1_1, F1_2, F1_3, F1_4, H3, rfl⟩
theorem c_sub3_3_3 (hw : HW a0 Z) (h : Heap) (a : Addr) (b : Addr) (kb : ClassId) (x0 : Int32) (x1 : Int32) (x2 : Int32) (cp : Int32) (wf : Value) (hcp : ¬ (cp = (0 : Int32))) (hwf : wf.isRef = true) (hcw : Jvm.Lit.compactW.before a0 Z = true) (hch151 : Jvm.Lit.constHeld Z "java/lang/StringLatin1" 151) (scp : Sta Z Z.heap "java/lang/String" "COMPACT_STRINGS" "Z" (.int cp)) (sfm : Sta Z Z.heap "jdk/internal/util/Preconditions" "SIOOBE_FORMATTER" "Ljava/util/function/BiFunction;" wf) (e : Exa Z h a "java/lang/String") (f : Fld Z h a "java/lang/String" "coder" "B" (.int 0)) (g : Fld Z h a "java/lang/String" "value" "[B" (.ref b)) (v : Arv Z h b kb .byte (3 : Int32) [(.int x0), (.int x1), (.int x2)] (.int 0)) :
    ConS l M_30 jdk_42_method_92_code 5 (some (.object "java/lang/String")) (rm4 2 2 4 29) Z n0 #[(.ref a), (.int 3), (.int 3)] h [] (fun v h' LL' => ∃ ea : Addr, ∃ eb : Addr, ∃ ke : ClassId, v = some (.ref ea) ∧ Keep h h' [] ∧ Exa Z h' ea "java/lang/String" ∧ Fld Z h' ea "java/lang/String" "coder" "B" (.int 0) ∧ Fld Z h' ea "java/lang/String" "value" "[B" (.ref eb) ∧ Arv Z h' eb ke .byte (0 : Int32) [] (.int 0) ∧ Exa Z h' eb "[B" ∧ Hel Z h' ea eb ("") ∧ LL' = [("", ea, "java/lang/StringLatin1", 151)]) := by
  refine ConS.of_go (plainFor_of_name pn_0) (Ls := #[.val (.ref a), .val (.int 3), .val (.int 3), .unset, .unset]) ?_
  refine GoS.aloadN (pc' := 1) d24_0 rfl rfl rfl ?_
  refine GoS.callV (cells' := 0) (slots' := 0) (pc' := 4) [] [] e (ww hw 50 rfl) (ww hw 51 rfl) (nfS (ww hw 53 rfl)) (ww hw 53 rfl) (ww hw 52 rfl) (ww hw 7 rfl) (ww hw 54 rfl) (by decide) (Con.cold (c_strLen3 l Z a0 hw h a b kb x0 x1 x2 cp hcp scp e f g v)) pd_11 d24_1 rfl ?_
  rintro _ _ _ ⟨⟨rfl, rfl⟩, rfl⟩
  show GoS _ _ _ _ _ _ _ _ _ _ _ _ _ _ 4 _ [(.int 3)]
  refine GoS.istoreN (pc' := 5) (Ls' := #[.val (.ref a), .val (.int 3), .val (.int 3), .val (.int 3), .unset]) d24_4 rfl rfl ?_
  refine GoS.iloadN (pc' := 6) d24_5 rfl rfl ?_
  refine GoS.iloadN (pc' := 7) d24_6 rfl rfl ?_
  refine GoS.iloadN (pc' := 8) d24_7 rfl rfl ?_
  refine GoS.callS (cells' := 0) (slots' := 0) (pc' := 11) [(.int 3), (.int 3), (.int 3)] [] (ww hw 117 rfl) (ww hw 118 rfl) (ww hw 7 rfl) (ww hw 119 rfl) (by decide) (Con.cold (c_bounds l Z a0 hw h (3 : Int32) (3 : Int32) (3 : Int32) wf (by decide) (by decide) (by decide) hwf sfm)) pd_16 d24_8 rfl ?_
  rintro _ _ _ ⟨⟨rfl, rfl⟩, rfl⟩
  show GoS _ _ _ _ _ _ _ _ _ _ _ _ _ _ 11 _ []
  refine GoS.iloadN (pc' := 12) d24_11 rfl rfl ?_
  refine GoS.ifYes (pc' := 22) d24_12 (XT.i0_ne_t (by decide)) (by decide) (by decide) ?_
  refine GoS.iloadN (pc' := 23) d24_22 rfl rfl ?_
  refine GoS.iloadN (pc' := 24) d24_23 rfl rfl ?_
  refine GoS.isub (pc' := 25) d24_24 rfl ?_
  show GoS _ _ _ _ _ _ _ _ _ _ _ _ _ _ 25 _ [(.int 0)]
  refine GoS.istore (pc' := 27) (Ls' := #[.val (.ref a), .val (.int 3), .val (.int 3), .val (.int 3), .val (.int 0)]) d24_25 rfl rfl ?_
  refine GoS.aloadN (pc' := 28) d24_27 rfl rfl rfl ?_
  refine GoS.callV (cells' := 0) (slots' := 0) (pc' := 31) [] [] e (ww hw 44 rfl) (ww hw 45 rfl) (nfS (ww hw 47 rfl)) (ww hw 47 rfl) (ww hw 46 rfl) (ww hw 7 rfl) (ww hw 48 rfl) (by decide) (Con.cold (c_isLatin1 l Z a0 hw h a cp hcp scp f)) pd_3 d24_28 rfl ?_
  rintro _ _ _ ⟨⟨rfl, rfl⟩, rfl⟩
  show GoS _ _ _ _ _ _ _ _ _ _ _ _ _ _ 31 _ [(.int 1)]
  refine GoS.ifNo (pc' := 34) d24_31 (XT.i0_eq_f (by decide)) rfl ?_
  refine GoS.aloadN (pc' := 35) d24_34 rfl rfl rfl ?_
  refine GoS.getfield (pc' := 38) (host := "") (Or.inl (ww hw 28 rfl)) Via.refl g d24_35 rfl ?_
  refine GoS.iloadN (pc' := 39) d24_38 rfl rfl ?_
  refine GoS.iload (pc' := 41) d24_39 rfl rfl ?_
  refine GoS.callS (cells' := 2) (slots' := 4) (pc' := 44) [(.ref b), (.int 3), (.int 0)] [] (ww hw 125 rfl) (ww hw 126 rfl) (ww hw 62 rfl) (ww hw 127 rfl) (by decide) (c_newStr3_3_3 l Z a0 hw h b hcw hch151) pd_17 d24_41 rfl ?_
  rintro _ h4 _ ⟨ea_4, eb_4, ke_4, rfl, K4, F4_0, F4_1, F4_2, F4_3, F4_4, F4_5, rfl⟩
  show GoS _ _ _ _ _ _ _ _ _ _ _ _ _ _ 44 _ [(.ref ea_4)]
  refine GoS.goto (pc' := 57) d24_44 (by decide) (by decide) ?_
  exact GoS.retR rfl rfl rfl rfl d24_57 ⟨ea_4, eb_4, ke_4, rfl, K4, F4_0, F4_1, F4_2, F4_3, F4_4, F4_5, rfl⟩
theorem c_subI3_3_3 (hw : HW a0 Z) (h : Heap) (a : Addr) (b : Addr) (kb : ClassId) (x0 : Int32) (x1 : Int32) (x2 : Int32) (cp : Int32) (wf : Value) (hcp : ¬ (cp = (0 : Int32))) (hwf : wf.isRef = true) (hcw : Jvm.Lit.compactW.before a0 Z = true) (hch151 : Jvm.Lit.constHeld Z "java/lang/StringLatin1" 151) (scp : Sta Z Z.heap "java/lang/String" "COMPACT_STRINGS" "Z" (.int cp)) (sfm : Sta Z Z.heap "jdk/internal/util/Preconditions" "SIOOBE_FORMATTER" "Ljava/util/function/BiFunction;" wf) (e : Exa Z h a "java/lang/String") (f : Fld Z h a "java/lang/String" "coder" "B" (.int 0)) (g : Fld Z h a "java/lang/String" "value" "[B" (.ref b)) (v : Arv Z h b kb .byte (3 : Int32) [(.int x0), (.int x1), (.int x2)] (.int 0)) :
    ConS l M_31 jdk_42_method_91_code 2 (some (.object "java/lang/String")) (rm4 3 2 4 45) Z n0 #[(.ref a), (.int 3)] h [] (fun v h' LL' => ∃ ea : Addr, ∃ eb : Addr, ∃ ke : ClassId, v = some (.ref ea) ∧ Keep h h' [] ∧ Exa Z h' ea "java/lang/String" ∧ Fld Z h' ea "java/lang/String" "coder" "B" (.int 0) ∧ Fld Z h' ea "java/lang/String" "value" "[B" (.ref eb) ∧ Arv Z h' eb ke .byte (0 : Int32) [] (.int 0) ∧ Exa Z h' eb "[B" ∧ Hel Z h' ea eb ("") ∧ LL' = [("", ea, "java/lang/StringLatin1", 151)]) := by
  refine ConS.of_go (plainFor_of_name pn_0) (Ls := #[.val (.ref a), .val (.int 3)]) ?_
  refine GoS.aloadN (pc' := 1) d32_0 rfl rfl rfl ?_
  refine GoS.iloadN (pc' := 2) d32_1 rfl rfl ?_
  refine GoS.aloadN (pc' := 3) d32_2 rfl rfl rfl ?_
  refine GoS.callV (cells' := 0) (slots' := 0) (pc' := 6) [] [(.int 3), (.ref a)] e (ww hw 50 rfl) (ww hw 51 rfl) (nfS (ww hw 53 rfl)) (ww hw 53 rfl) (ww hw 52 rfl) (ww hw 7 rfl) (ww hw 54 rfl) (by decide) (Con.cold (c_strLen3 l Z a0 hw h a b kb x0 x1 x2 cp hcp scp e f g v)) pd_11 d32_3 rfl ?_
  rintro _ _ _ ⟨⟨rfl, rfl⟩, rfl⟩
  show GoS _ _ _ _ _ _ _ _ _ _ _ _ _ _ 6 _ [(.int 3), (.int 3), (.ref a)]
  refine GoS.callV (cells' := 2) (slots' := 4) (pc' := 9) [(.int 3), (.int 3)] [] e (ww hw 152 rfl) (ww hw 113 rfl) (nfS (ww hw 115 rfl)) (ww hw 115 rfl) (ww hw 114 rfl) (ww hw 7 rfl) (ww hw 116 rfl) (by decide) (c_sub3_3_3 l Z a0 hw h a b kb x0 x1 x2 cp wf hcp hwf hcw hch151 scp sfm e f g v) pd_18 d32_6 rfl ?_
  rintro _ h2 _ ⟨ea_2, eb_2, ke_2, rfl, K2, F2_0, F2_1, F2_2, F2_3, F2_4, F2_5, rfl⟩
  show GoS _ _ _ _ _ _ _ _ _ _ _ _ _ _ 9 _ [(.ref ea_2)]
  exact GoS.retR rfl rfl rfl rfl d32_9 ⟨ea_2, eb_2, ke_2, rfl, K2, F2_0, F2_1, F2_2, F2_3, F2_4, F2_5, rfl⟩
theorem c_parse3_2 (hw : HW a0 Z) (h : Heap) (a : Addr) (b : Addr) (kb : ClassId) (x0 : Int32) (x1 : Int32) (x2 : Int32) (cp : Int32) (wf : Value) (hcp : ¬ (cp = (0 : Int32))) (hwf : wf.isRef = true) (hcw : Jvm.Lit.compactW.before a0 Z = true) (hch26 : Jvm.Lit.constHeld Z "com/example/inquire/inquire/io/WikiLink" 26) (hch151 : Jvm.Lit.constHeld Z "java/lang/StringLatin1" 151) (hx0 : ¬ (x0 = (124 : Int32))) (hx1 : ¬ (x1 = (124 : Int32))) (hx2 : x2 = (124 : Int32)) (scp : Sta Z Z.heap "java/lang/String" "COMPACT_STRINGS" "Z" (.int cp)) (sfm : Sta Z Z.heap "jdk/internal/util/Preconditions" "SIOOBE_FORMATTER" "Ljava/util/function/BiFunction;" wf) (e : Exa Z h a "java/lang/String") (f : Fld Z h a "java/lang/String" "coder" "B" (.int 0)) (g : Fld Z h a "java/lang/String" "value" "[B" (.ref b)) (v : Arv Z h b kb .byte (3 : Int32) [(.int x0), (.int x1), (.int x2)] (.int 0)) :
    ConS l M_28 prog_40_method_2_code 4 (some (.object "com/example/inquire/inquire/io/WikiLink")) (rm4 5 5 12 80) Z n0 #[(.ref a)] h [] (fun v h' LL' => ∃ w : Addr, ∃ rt : Addr, ∃ dt : Addr, ∃ kt : ClassId, ∃ rl : Addr, ∃ dl : Addr, ∃ kl : ClassId, v = some (.ref w) ∧ Keep h h' [] ∧ Exa Z h' w "com/example/inquire/inquire/io/WikiLink" ∧ Fld Z h' w "com/example/inquire/inquire/io/WikiLink" "target" "Ljava/lang/String;" (.ref rt) ∧ Fld Z h' w "com/example/inquire/inquire/io/WikiLink" "label" "Ljava/lang/String;" (.ref rl) ∧ Exa Z h' rt "java/lang/String" ∧ Fld Z h' rt "java/lang/String" "coder" "B" (.int 0) ∧ Fld Z h' rt "java/lang/String" "value" "[B" (.ref dt) ∧ Arv Z h' dt kt .byte (2 : Int32) [(.int x0), (.int x1)] (.int 0) ∧ Exa Z h' rl "java/lang/String" ∧ Fld Z h' rl "java/lang/String" "coder" "B" (.int 0) ∧ Fld Z h' rl "java/lang/String" "value" "[B" (.ref dl) ∧ Arv Z h' dl kl .byte (0 : Int32) [] (.int 0)) := by
  refine ConS.of_go (plainFor_of_name pn_6) (Ls := #[.val (.ref a), .unset, .unset, .unset]) ?_
  refine GoS.aloadN (pc' := 1) d6_0 rfl rfl rfl ?_
  refine GoS.bipush (pc' := 3) (v := 124) d6_1 rfl rfl ?_
  refine GoS.callV (cells' := 0) (slots' := 0) (pc' := 6) [(.int 124)] [] e (ww hw 34 rfl) (ww hw 35 rfl) (nfS (ww hw 37 rfl)) (ww hw 37 rfl) (ww hw 36 rfl) (ww hw 7 rfl) (ww hw 38 rfl) (by decide) (Con.cold (c_idx3 l Z a0 hw h a b kb x0 x1 x2 cp hcp scp e f g v)) pd_14 d6_3 rfl ?_
  rintro _ _ _ ⟨⟨rfl, rfl⟩, rfl⟩
  show GoS _ _ _ _ _ _ _ _ _ _ _ _ _ _ 6 _ [(.int (if x0 = (124 : Int32) then (0 : Int32) else (if x1 = (124 : Int32) then (1 : Int32) else (if x2 = (124 : Int32) then (2 : Int32) else (-1 : Int32)))))]
  rw [if_neg hx0, if_neg hx1, if_pos hx2]
  refine GoS.istoreN (pc' := 7) (Ls' := #[.val (.ref a), .val (.int 2), .unset, .unset]) d6_6 rfl rfl ?_
  refine GoS.iloadN (pc' := 8) d6_7 rfl rfl ?_
  refine GoS.ifYes (pc' := 15) d6_8 (XT.i0_ge_t (by decide)) (by decide) (by decide) ?_
  refine GoS.aloadN (pc' := 16) d6_15 rfl rfl rfl ?_
  refine GoS.iconst (pc' := 17) (v := 0) d6_16 rfl rfl ?_
  refine GoS.iloadN (pc' := 18) d6_17 rfl rfl ?_
  refine GoS.callV (cells' := 2) (slots' := 6) (pc' := 21) [(.int 0), (.int 2)] [] e (ww hw 112 rfl) (ww hw 113 rfl) (nfS (ww hw 115 rfl)) (ww hw 115 rfl) (ww hw 114 rfl) (ww hw 7 rfl) (ww hw 116 rfl) (by decide) (Con.cold (c_sub3_0_2 l Z a0 hw h a b kb x0 x1 x2 cp wf hcp hwf scp sfm e f g v)) pd_18 d6_18 rfl ?_
  rintro _ h2 _ ⟨⟨r_2, d_2, kd_2, rfl, K2, ge_r_2, sz_r_2, ge_d_2, sz_d_2, ne2_0, F2_0, F2_1, F2_2, F2_3⟩, rfl⟩
  show GoS _ _ _ _ _ _ _ _ _ _ _ _ _ _ 21 _ [(.ref r_2)]
  refine GoS.astoreN (pc' := 22) (Ls' := #[.val (.ref a), .val (.int 2), .val (.ref r_2), .unset]) d6_21 rfl rfl rfl ?_
  refine GoS.iloadN (pc' := 23) d6_22 rfl rfl ?_
  refine GoS.ifYes (pc' := 31) d6_23 (XT.i0_ge_t (by decide)) (by decide) (by decide) ?_
  refine GoS.aloadN (pc' := 32) d6_31 rfl rfl rfl ?_
  refine GoS.iloadN (pc' := 33) d6_32 rfl rfl ?_
  refine GoS.iconst (pc' := 34) (v := 1) d6_33 rfl rfl ?_
  refine GoS.iadd (pc' := 35) d6_34 rfl ?_
  show GoS _ _ _ _ _ _ _ _ _ _ _ _ _ _ 35 _ [(.int 3), (.ref a)]
  refine GoS.callV (cells' := 4) (slots' := 10) (pc' := 38) [(.int 3)] [] (e.keep K2) (ww hw 147 rfl) (ww hw 148 rfl) (nfS (ww hw 150 rfl)) (ww hw 150 rfl) (ww hw 149 rfl) (ww hw 7 rfl) (ww hw 151 rfl) (by decide) (c_subI3_3_3 l Z a0 hw h2 a b kb x0 x1 x2 cp wf hcp hwf hcw hch151 scp sfm (e.keep K2) (f.keep K2 nin0) (g.keep K2 nin0) (v.keep K2 nin0)) pd_19 d6_35 rfl ?_
  rintro _ h4 _ ⟨ea_4, eb_4, ke_4, rfl, K4, F4_0, F4_1, F4_2, F4_3, F4_4, F4_5, rfl⟩
  have K5 : Keep h h4 [] := K2.trans K4 all0
  show GoS _ _ _ _ _ _ _ _ _ _ _ _ _ _ 38 _ [(.ref ea_4)]
  refine GoS.astoreN (pc' := 39) (Ls' := #[.val (.ref a), .val (.int 2), .val (.ref r_2), .val (.ref ea_4)]) d6_38 rfl rfl rfl ?_
  refine GoS.new (pc' := 42) (cells' := 5) (slots' := 12) (ww hw 75 rfl) (ww hw 76 rfl) (ww hw 32 rfl) d6_39 rfl rfl (by decide) (by decide) rfl ?_
  intro h6 b6 g6 E6 ge6 A6 D6
  have sz7 : h.size ≤ b6 := Nat.le_trans K5.1 (Nat.le_of_eq g6.symm)
  have K8 : Keep h h6 [] := K5.ext E6
  refine GoS.dup (pc' := 43) d6_42 rfl rfl ?_
  refine GoS.aloadN (pc' := 44) d6_43 rfl rfl rfl ?_
  refine GoS.aloadN (pc' := 45) d6_44 rfl rfl rfl ?_
  refine GoS.callC (cells' := 5) (slots' := 12) (pc' := 48) [(.ref r_2), (.ref ea_4)] [(.ref b6)] (a := b6) rfl rfl (ww hw 77 rfl) (ww hw 78 rfl) (ww hw 32 rfl) (ww hw 79 rfl) (by decide) (Con.cold (c_wlInit l Z a0 hw h6 b6 r_2 ea_4 ge6 A6 ((D6 (Or.inr (ww hw 82 rfl)) (ty := (.object "java/lang/String")) (by decide) : Fld Z h6 b6 "com/example/inquire/inquire/io/WikiLink" "target" "Ljava/lang/String;" .null)) ((D6 (Or.inr (ww hw 84 rfl)) (ty := (.object "java/lang/String")) (by decide) : Fld Z h6 b6 "com/example/inquire/inquire/io/WikiLink" "label" "Ljava/lang/String;" .null)))) pd_15 d6_45 rfl ?_
  rintro _ h9 _ ⟨⟨rfl, K9, F9_0, F9_1⟩, rfl⟩
  have K10 : Keep h h9 [] := K8.trans K9 (allS (Or.inr sz7) all0)
  show GoS _ _ _ _ _ _ _ _ _ _ _ _ _ _ 48 _ [(.ref b6)]
  have ne11 : r_2 ≠ b6 := (Nat.ne_of_lt (Nat.lt_of_lt_of_le (F2_2.keep K4 nin0).lt (Nat.le_of_eq g6.symm)))
  have f12 : Fld Z h9 r_2 "java/lang/String" "coder" "B" (.int 0) := (((F2_1.keep K4 nin0).ext E6).keep K9 (ninS ne11 nin0))
  have f13 : Fld Z h9 r_2 "java/lang/String" "value" "[B" (.ref d_2) := (((F2_2.keep K4 nin0).ext E6).keep K9 (ninS ne11 nin0))
  have ne14 : d_2 ≠ b6 := (Nat.ne_of_lt (Nat.lt_of_lt_of_le (F2_3.keep K4 nin0).lt (Nat.le_of_eq g6.symm)))
  have f15 : Arv Z h9 d_2 kd_2 .byte (2 : Int32) [(.int x0), (.int x1)] (.int 0) := (((F2_3.keep K4 nin0).ext E6).keep K9 (ninS ne14 nin0))
  have ne16 : ea_4 ≠ b6 := (Nat.ne_of_lt (Nat.lt_of_lt_of_le F4_5.lt0 (Nat.le_of_eq g6.symm)))
  have ne17 : eb_4 ≠ b6 := (Nat.ne_of_lt (Nat.lt_of_lt_of_le F4_5.lt1 (Nat.le_of_eq g6.symm)))
  exact GoS.retR rfl rfl rfl rfl d6_48 ⟨b6, r_2, d_2, kd_2, ea_4, eb_4, ke_4, rfl, K10, (A6.keep K9), F9_0, F9_1, (((F2_0.keep K4).ext E6).keep K9), f12, f13, f15, ((F4_0.ext E6).keep K9), ((F4_1.ext E6).keep K9 (ninS ne16 nin0)), ((F4_2.ext E6).keep K9 (ninS ne16 nin0)), ((F4_3.ext E6).keep K9 (ninS ne17 nin0))⟩
theorem c_parse4_m (hw : HW a0 Z) (h : Heap) (a : Addr) (b : Addr) (kb : ClassId) (x0 : Int32) (x1 : Int32) (x2 : Int32) (x3 : Int32) (cp : Int32) (wf : Value) (hcp : ¬ (cp = (0 : Int32))) (hwf : wf.isRef = true) (hcw : Jvm.Lit.compactW.before a0 Z = true) (hch26 : Jvm.Lit.constHeld Z "com/example/inquire/inquire/io/WikiLink" 26) (hch151 : Jvm.Lit.constHeld Z "java/lang/StringLatin1" 151) (hx0 : ¬ (x0 = (124 : Int32))) (hx1 : ¬ (x1 = (124 : Int32))) (hx2 : ¬ (x2 = (124 : Int32))) (hx3 : ¬ (x3 = (124 : Int32))) (scp : Sta Z Z.heap "java/lang/String" "COMPACT_STRINGS" "Z" (.int cp)) (sfm : Sta Z Z.heap "jdk/internal/util/Preconditions" "SIOOBE_FORMATTER" "Ljava/util/function/BiFunction;" wf) (e : Exa Z h a "java/lang/String") (f : Fld Z h a "java/lang/String" "coder" "B" (.int 0)) (g : Fld Z h a "java/lang/String" "value" "[B" (.ref b)) (v : Arv Z h b kb .byte (4 : Int32) [(.int x0), (.int x1), (.int x2), (.int x3)] (.int 0)) :
    ConS l M_28 prog_40_method_2_code 4 (some (.object "com/example/inquire/inquire/io/WikiLink")) (rm4 4 3 6 59) Z n0 #[(.ref a)] h [] (fun v h' LL' => ∃ w : Addr, ∃ rl : Addr, ∃ dl : Addr, ∃ kl : ClassId, v = some (.ref w) ∧ Keep h h' [] ∧ Exa Z h' w "com/example/inquire/inquire/io/WikiLink" ∧ Fld Z h' w "com/example/inquire/inquire/io/WikiLink" "target" "Ljava/lang/String;" (.ref a) ∧ Fld Z h' w "com/example/inquire/inquire/io/WikiLink" "label" "Ljava/lang/String;" (.ref rl) ∧ Exa Z h' rl "java/lang/String" ∧ Fld Z h' rl "java/lang/String" "coder" "B" (.int 0) ∧ Fld Z h' rl "java/lang/String" "value" "[B" (.ref dl) ∧ Arv Z h' dl kl .byte (0 : Int32) [] (.int 0)) := by
  refine ConS.of_go (plainFor_of_name pn_6) (Ls := #[.val (.ref a), .unset, .unset, .unset]) ?_
  refine GoS.aloadN (pc' := 1) d6_0 rfl rfl rfl ?_
  refine GoS.bipush (pc' := 3) (v := 124) d6_1 rfl rfl ?_
  refine GoS.callV (cells' := 0) (slots' := 0) (pc' := 6) [(.int 124)] [] e (ww hw 34 rfl) (ww hw 35 rfl) (nfS (ww hw 37 rfl)) (ww hw 37 rfl) (ww hw 36 rfl) (ww hw 7 rfl) (ww hw 38 rfl) (by decide) (Con.cold (c_idx4 l Z a0 hw h a b kb x0 x1 x2 x3 cp hcp scp e f g v)) pd_14 d6_3 rfl ?_
  rintro _ _ _ ⟨⟨rfl, rfl⟩, rfl⟩
  show GoS _ _ _ _ _ _ _ _ _ _ _ _ _ _ 6 _ [(.int (if x0 = (124 : Int32) then (0 : Int32) else (if x1 = (124 : Int32) then (1 : Int32) else (if x2 = (124 : Int32) then (2 : Int32) else (if x3 = (124 : Int32) then (3 : Int32) else (-1 : Int32))))))]
  rw [if_neg hx0, if_neg hx1, if_neg hx2, if_neg hx3]
  refine GoS.istoreN (pc' := 7) (Ls' := #[.val (.ref a), .val (.int (-1 : Int32)), .unset, .unset]) d6_6 rfl rfl ?_
  refine GoS.iloadN (pc' := 8) d6_7 rfl rfl ?_
  refine GoS.ifNo (pc' := 11) d6_8 (XT.i0_ge_f (by decide)) rfl ?_
  refine GoS.aloadN (pc' := 12) d6_11 rfl rfl rfl ?_
  refine GoS.goto (pc' := 21) d6_12 (by decide) (by decide) ?_
  refine GoS.astoreN (pc' := 22) (Ls' := #[.val (.ref a), .val (.int (-1 : Int32)), .val (.ref a), .unset]) d6_21 rfl rfl rfl ?_
  refine GoS.iloadN (pc' := 23) d6_22 rfl rfl ?_
  refine GoS.ifNo (pc' := 26) d6_23 (XT.i0_ge_f (by decide)) rfl ?_
  refine GoS.ldcS (pc' := 28) (cells' := 2) (slots' := 4) (n := 0) (z := (0 : Int32)) (vs := []) (ww hw 74 rfl) (wsA hw) hch26 hcw (Keep.refl h []) HL.nil tx_0 (by decide) rfl d6_26 (nl rfl) (nl rfl) rfl rfl (nl rfl) (nl rfl) rfl ?_
  intro h2 sa2 sb2 kb2 E2 F2_0 F2_1 F2_2 F2_3 F2_4 F2_5
  have K3 : Keep h h2 [] := (Keep.refl h []).ext E2
  have H4 : Hel Z h2 sa2 sb2 "" := ⟨kb2, _, _, F2_0, F2_1, F2_2, F2_3, F2_4, tx_0, rfl⟩
  show GoS _ _ _ _ _ _ _ _ _ _ _ _ _ _ 28 _ [(.ref sa2)]
  refine GoS.goto (pc' := 38) d6_28 (by decide) (by decide) ?_
  refine GoS.astoreN (pc' := 39) (Ls' := #[.val (.ref a), .val (.int (-1 : Int32)), .val (.ref a), .val (.ref sa2)]) d6_38 rfl rfl rfl ?_
  refine GoS.new (pc' := 42) (cells' := 3) (slots' := 6) (ww hw 75 rfl) (ww hw 76 rfl) (ww hw 32 rfl) d6_39 rfl rfl (by decide) (by decide) rfl ?_
  intro h5 b5 g5 E5 ge5 A5 D5
  have sz6 : h.size ≤ b5 := Nat.le_trans K3.1 (Nat.le_of_eq g5.symm)
  have K7 : Keep h h5 [] := K3.ext E5
  refine GoS.dup (pc' := 43) d6_42 rfl rfl ?_
  refine GoS.aloadN (pc' := 44) d6_43 rfl rfl rfl ?_
  refine GoS.aloadN (pc' := 45) d6_44 rfl rfl rfl ?_
  refine GoS.callC (cells' := 3) (slots' := 6) (pc' := 48) [(.ref a), (.ref sa2)] [(.ref b5)] (a := b5) rfl rfl (ww hw 77 rfl) (ww hw 78 rfl) (ww hw 32 rfl) (ww hw 79 rfl) (by decide) (Con.cold (c_wlInit l Z a0 hw h5 b5 a sa2 ge5 A5 ((D5 (Or.inr (ww hw 82 rfl)) (ty := (.object "java/lang/String")) (by decide) : Fld Z h5 b5 "com/example/inquire/inquire/io/WikiLink" "target" "Ljava/lang/String;" .null)) ((D5 (Or.inr (ww hw 84 rfl)) (ty := (.object "java/lang/String")) (by decide) : Fld Z h5 b5 "com/example/inquire/inquire/io/WikiLink" "label" "Ljava/lang/String;" .null)))) pd_15 d6_45 rfl ?_
  rintro _ h8 _ ⟨⟨rfl, K8, F8_0, F8_1⟩, rfl⟩
  have K9 : Keep h h8 [] := K7.trans K8 (allS (Or.inr sz6) all0)
  show GoS _ _ _ _ _ _ _ _ _ _ _ _ _ _ 48 _ [(.ref b5)]
  have ne10 : sa2 ≠ b5 := (Nat.ne_of_lt (Nat.lt_of_lt_of_le H4.lt0 (Nat.le_of_eq g5.symm)))
  have ne11 : sb2 ≠ b5 := (Nat.ne_of_lt (Nat.lt_of_lt_of_le H4.lt1 (Nat.le_of_eq g5.symm)))
  exact GoS.retR rfl rfl rfl rfl d6_48 ⟨b5, sa2, sb2, kb2, rfl, K9, (A5.keep K8), F8_0, F8_1, ((F2_0.ext E5).keep K8), ((F2_1.ext E5).keep K8 (ninS ne10 nin0)), ((F2_2.ext E5).keep K8 (ninS ne10 nin0)), ((F2_3.ext E5).keep K8 (ninS ne11 nin0))⟩
theorem c_newStr4_0_0 (hw : HW a0 Z) (h : Heap) (b : Addr) (hcw : Jvm.Lit.compactW.before a0 Z = true) (hch151 : Jvm.Lit.constHeld Z "java/lang/StringLatin1" 151) :
    ConS l M_29 jdk_43_method_47_code 3 (some (.object "java/lang/String")) (rm4 0 2 4 0) Z n0 #[(.ref b), (.int 0), (.int 0)] h [] (fun v h' LL' => ∃ ea : Addr, ∃ eb : Addr, ∃ ke : ClassId, v = some (.ref ea) ∧ Keep h h' [] ∧ Exa Z h' ea "java/lang/String" ∧ Fld Z h' ea "java/lang/String" "coder" "B" (.int 0) ∧ Fld Z h' ea "java/lang/String" "value" "[B" (.ref eb) ∧ Arv Z h' eb ke .byte (0 : Int32) [] (.int 0) ∧ Exa Z h' eb "[B" ∧ Hel Z h' ea eb ("") ∧ LL' = [("", ea, "java/lang/StringLatin1", 151)]) := by
  refine ConS.of_go (plainFor_of_name pn_2) (Ls := #[.val (.ref b), .val (.int 0), .val (.int 0)]) ?_
  refine GoS.iloadN (pc' := 1) d27_0 rfl rfl ?_
  refine GoS.ifNo (pc' := 4) d27_1 (XT.i0_ne_f (by decide)) rfl ?_
  refine GoS.ldcS (pc' := 6) (cells' := 2) (slots' := 4) (n := 0) (z := (0 : Int32)) (vs := []) (ww hw 153 rfl) (wsA hw) hch151 hcw (Keep.refl h []) HL.nil tx_0 (by decide) rfl d27_4 (nl rfl) (nl rfl) rfl rfl (nl rfl) (nl rfl) rfl ?_
  intro h1 sa1 sb1 kb1 E1 F1_0 F1_1 F1_2 F1_3 F1_4 F1_5
  have K2 : Keep h h1 [] := (Keep.refl h []).ext E1
  have H3 : Hel Z h1 sa1 sb1 "" := ⟨kb1, _, _, F1_0, F1_1, F1_2, F1_3, F1_4, tx_0, rfl⟩
  show GoS _ _ _ _ _ _ _ _ _ _ _ _ _ _ 6 _ [(.ref sa1)]
  exact GoS.retR rfl rfl rfl rfl d27_6 ⟨sa1, sb1, kb1, rfl, K2, F1_0, F1_1, F1_2, F1_3, F1_4, H3, rfl⟩
theorem c_sub4_0_0 (hw : HW a0 Z) (h : Heap) (a : Addr) (b : Addr) (kb : ClassId) (x0 : Int32) (x1 : Int32) (x2 : Int32) (x3 : Int32) (cp : Int32) (wf : Value) (hcp : ¬ (cp = (0 : Int32))) (hwf : wf.isRef = true) (hcw : Jvm.Lit.compactW.before a0 Z = true) (hch151 : Jvm.Lit.constHeld Z "java/lang/StringLatin1" 151) (scp : Sta Z Z.heap "java/lang/String" "COMPACT_STRINGS" "Z" (.int cp)) (sfm : Sta Z Z.heap "jdk/internal/util/Preconditions" "SIOOBE_FORMATTER" "Ljava/util/function/BiFunction;" wf) (e : Exa Z h a "java/lang/String") (f : Fld Z h a "java/lang/String" "coder" "B" (.int 0)) (g : Fld Z h a "java/lang/String" "value" "[B" (.ref b)) (v : Arv Z h b kb .byte (4 : Int32) [(.int x0), (.int x1), (.int x2), (.int x3)] (.int 0)) :
    ConS l M_30 jdk_42_method_92_code 5 (some (.object "java/lang/String")) (rm4 2 2 4 29) Z n0 #[(.ref a), (.int 0), (.int 0)] h [] (fun v h' LL' => ∃ ea : Addr, ∃ eb : Addr, ∃ ke : ClassId, v = some (.ref ea) ∧ Keep h h' [] ∧ Exa Z h' ea "java/lang/String" ∧ Fld Z h' ea "java/lang/String" "coder" "B" (.int 0) ∧ Fld Z h' ea "java/lang/String" "value" "[B" (.ref eb) ∧ Arv Z h' eb ke .byte (0 : Int32) [] (.int 0) ∧ Exa Z h' eb "[B" ∧ Hel Z h' ea eb ("") ∧ LL' = [("", ea, "java/lang/StringLatin1", 151)]) := by
  refine ConS.of_go (plainFor_of_name pn_0) (Ls := #[.val (.ref a), .val (.int 0), .val (.int 0), .unset, .unset]) ?_
  refine GoS.aloadN (pc' := 1) d24_0 rfl rfl rfl ?_
  refine GoS.callV (cells' := 0) (slots' := 0) (pc' := 4) [] [] e (ww hw 50 rfl) (ww hw 51 rfl) (nfS (ww hw 53 rfl)) (ww hw 53 rfl) (ww hw 52 rfl) (ww hw 7 rfl) (ww hw 54 rfl) (by decide) (Con.cold (c_strLen4 l Z a0 hw h a b kb x0 x1 x2 x3 cp hcp scp e f g v)) pd_11 d24_1 rfl ?_
  rintro _ _ _ ⟨⟨rfl, rfl⟩, rfl⟩
  show GoS _ _ _ _ _ _ _ _ _ _ _ _ _ _ 4 _ [(.int 4)]
  refine GoS.istoreN (pc' := 5) (Ls' := #[.val (.ref a), .val (.int 0), .val (.int 0), .val (.int 4), .unset]) d24_4 rfl rfl ?_
  refine GoS.iloadN (pc' := 6) d24_5 rfl rfl ?_
  refine GoS.iloadN (pc' := 7) d24_6 rfl rfl ?_
  refine GoS.iloadN (pc' := 8) d24_7 rfl rfl ?_
  refine GoS.callS (cells' := 0) (slots' := 0) (pc' := 11) [(.int 0), (.int 0), (.int 4)] [] (ww hw 117 rfl) (ww hw 118 rfl) (ww hw 7 rfl) (ww hw 119 rfl) (by decide) (Con.cold (c_bounds l Z a0 hw h (0 : Int32) (0 : Int32) (4 : Int32) wf (by decide) (by decide) (by decide) hwf sfm)) pd_16 d24_8 rfl ?_
  rintro _ _ _ ⟨⟨rfl, rfl⟩, rfl⟩
  show GoS _ _ _ _ _ _ _ _ _ _ _ _ _ _ 11 _ []
  refine GoS.iloadN (pc' := 12) d24_11 rfl rfl ?_
  refine GoS.ifNo (pc' := 15) d24_12 (XT.i0_ne_f (by decide)) rfl ?_
  refine GoS.iloadN (pc' := 16) d24_15 rfl rfl ?_
  refine GoS.iloadN (pc' := 17) d24_16 rfl rfl ?_
  refine GoS.icmpYes (pc' := 22) d24_17 (XT.ii_ne_t (by decide)) (by decide) (by decide) ?_
  refine GoS.iloadN (pc' := 23) d24_22 rfl rfl ?_
  refine GoS.iloadN (pc' := 24) d24_23 rfl rfl ?_
  refine GoS.isub (pc' := 25) d24_24 rfl ?_
  show GoS _ _ _ _ _ _ _ _ _ _ _ _ _ _ 25 _ [(.int 0)]
  refine GoS.istore (pc' := 27) (Ls' := #[.val (.ref a), .val (.int 0), .val (.int 0), .val (.int 4), .val (.int 0)]) d24_25 rfl rfl ?_
  refine GoS.aloadN (pc' := 28) d24_27 rfl rfl rfl ?_
  refine GoS.callV (cells' := 0) (slots' := 0) (pc' := 31) [] [] e (ww hw 44 rfl) (ww hw 45 rfl) (nfS (ww hw 47 rfl)) (ww hw 47 rfl) (ww hw 46 rfl) (ww hw 7 rfl) (ww hw 48 rfl) (by decide) (Con.cold (c_isLatin1 l Z a0 hw h a cp hcp scp f)) pd_3 d24_28 rfl ?_
  rintro _ _ _ ⟨⟨rfl, rfl⟩, rfl⟩
  show GoS _ _ _ _ _ _ _ _ _ _ _ _ _ _ 31 _ [(.int 1)]
  refine GoS.ifNo (pc' := 34) d24_31 (XT.i0_eq_f (by decide)) rfl ?_
  refine GoS.aloadN (pc' := 35) d24_34 rfl rfl rfl ?_
  refine GoS.getfield (pc' := 38) (host := "") (Or.inl (ww hw 28 rfl)) Via.refl g d24_35 rfl ?_
  refine GoS.iloadN (pc' := 39) d24_38 rfl rfl ?_
  refine GoS.iload (pc' := 41) d24_39 rfl rfl ?_
  refine GoS.callS (cells' := 2) (slots' := 4) (pc' := 44) [(.ref b), (.int 0), (.int 0)] [] (ww hw 125 rfl) (ww hw 126 rfl) (ww hw 62 rfl) (ww hw 127 rfl) (by decide) (c_newStr4_0_0 l Z a0 hw h b hcw hch151) pd_17 d24_41 rfl ?_
  rintro _ h4 _ ⟨ea_4, eb_4, ke_4, rfl, K4, F4_0, F4_1, F4_2, F4_3, F4_4, F4_5, rfl⟩
  show GoS _ _ _ _ _ _ _ _ _ _ _ _ _ _ 44 _ [(.ref ea_4)]
  refine GoS.goto (pc' := 57) d24_44 (by decide) (by decide) ?_
  exact GoS.retR rfl rfl rfl rfl d24_57 ⟨ea_4, eb_4, ke_4, rfl, K4, F4_0, F4_1, F4_2, F4_3, F4_4, F4_5, rfl⟩
theorem c_corB4_1_4 (hw : HW a0 Z) (h : Heap) (b : Addr) (kb : ClassId) (x0 : Int32) (x1 : Int32) (x2 : Int32) (x3 : Int32) (v : Arv Z h b kb .byte (4 : Int32) [(.int x0), (.int x1), (.int x2), (.int x3)] (.int 0)) :
    Con l M_32 jdk_65_method_133_code 5 (some (.array .byte)) (rm4 1 1 3 18) Z n0 #[(.ref b), (.int 1), (.int 4)] h (fun v h' => ∃ d : Addr, ∃ kd : ClassId, v = some (.ref d) ∧ Keep h h' [] ∧ n0 ≤ d ∧ h.size ≤ d ∧ Arv Z h' d kd .byte (3 : Int32) [(.int x1), (.int x2), (.int x3)] (.int 0)) := by
  refine Con.of_go (plainFor_of_name pn_5) (Ls := #[.val (.ref b), .val (.int 1), .val (.int 4), .unset, .unset]) ?_
  refine Go.iloadN (pc' := 1) d29_0 rfl rfl ?_
  refine Go.iloadN (pc' := 2) d29_1 rfl rfl ?_
  refine Go.callS (cells' := 0) (slots' := 0) (pc' := 5) [(.int 1), (.int 4)] [] (ww hw 136 rfl) (ww hw 137 rfl) (ww hw 131 rfl) (ww hw 138 rfl) (by decide) (c_chkLen l Z a0 hw h (1 : Int32) (4 : Int32) (by decide)) pd_2 d29_2 rfl ?_
  rintro _ _ ⟨rfl, rfl⟩
  show Go _ _ _ _ _ _ _ _ _ _ _ _ 5 _ []
  refine Go.iloadN (pc' := 6) d29_5 rfl rfl ?_
  refine Go.iloadN (pc' := 7) d29_6 rfl rfl ?_
  refine Go.isub (pc' := 8) d29_7 rfl ?_
  show Go _ _ _ _ _ _ _ _ _ _ _ _ 8 _ [(.int 3)]
  refine Go.istoreN (pc' := 9) (Ls' := #[.val (.ref b), .val (.int 1), .val (.int 4), .val (.int 3), .unset]) d29_8 rfl rfl ?_
  refine Go.iloadN (pc' := 10) d29_9 rfl rfl ?_
  refine Go.newarray (pc' := 12) (cells' := 1) (slots' := 3) (cap := 3) (ww hw 23 rfl) d29_10 (ad := "[B") (by decide) (by decide) (by decide) rfl rfl (by decide) (by decide) (by decide) rfl ?_
  intro h2 b2 g2 E2 ge2 kA2 A2 X2
  have K3 : Keep h h2 [] := (Keep.refl h []).ext E2
  have V2 : Arv Z h2 b2 kA2 .byte (3 : Int32) [(.int 0), (.int 0), (.int 0)] (.int 0) := Arv.pad A2 (pad_rep [] (.int 0) 3)
  refine Go.astore (pc' := 14) (Ls' := #[.val (.ref b), .val (.int 1), .val (.int 4), .val (.int 3), .val (.ref b2)]) d29_12 rfl rfl rfl ?_
  refine Go.aloadN (pc' := 15) d29_14 rfl rfl rfl ?_
  refine Go.iloadN (pc' := 16) d29_15 rfl rfl ?_
  refine Go.aload (pc' := 18) d29_16 rfl rfl rfl ?_
  refine Go.iconst (pc' := 19) (v := 0) d29_18 rfl rfl ?_
  refine Go.aloadN (pc' := 20) d29_19 rfl rfl rfl ?_
  refine Go.arraylength (pc' := 21) (v.ext E2) d29_20 rfl ?_
  refine Go.iloadN (pc' := 22) d29_21 rfl rfl ?_
  refine Go.isub (pc' := 23) d29_22 rfl ?_
  show Go _ _ _ _ _ _ _ _ _ _ _ _ 23 _ [(.int 3), (.int 0), (.ref b2), (.int 1), (.ref b)]
  refine Go.iloadN (pc' := 24) d29_23 rfl rfl ?_
  refine Go.callS (cells' := 1) (slots' := 3) (pc' := 27) [(.int 3), (.int 3)] [(.int 0), (.ref b2), (.int 1), (.ref b)] (ww hw 139 rfl) (ww hw 72 rfl) (ww hw 69 rfl) (ww hw 73 rfl) (by decide) (c_min3_3 l Z a0 hw h2) pd_10 d29_24 rfl ?_
  rintro _ _ ⟨rfl, rfl⟩
  show Go _ _ _ _ _ _ _ _ _ _ _ _ 27 _ [(.int 3), (.int 0), (.ref b2), (.int 1), (.ref b)]
  refine Go.arraycopy (pc' := 30) (us := [(.int x1), (.int x2), (.int x3)]) (vd' := [(.int x1), (.int x2), (.int x3)]) (ww hw 140 rfl) (ww hw 143 rfl) (ww hw 141 rfl) (ww hw 142 rfl) (v.ext E2) V2 (Or.inl ⟨rfl, rfl⟩) (by decide) (by decide) (by decide) (by decide) (by decide) rfl (nl rfl) rfl ge2 d29_27 rfl (nl rfl) (nl rfl) rfl ?_
  intro h5 K6 V7
  have K8 : Keep h h5 [] := K3.trans K6 (allS (Or.inr (Nat.le_of_eq g2.symm)) all0)
  refine Go.aload (pc' := 32) d29_30 rfl rfl rfl ?_
  exact Go.retR rfl rfl rfl rfl d29_32 ⟨b2, kA2, rfl, K8, ge2, (Nat.le_of_eq g2.symm), V7⟩
theorem c_cor4_1_4 (hw : HW a0 Z) (h : Heap) (b : Addr) (kb : ClassId) (x0 : Int32) (x1 : Int32) (x2 : Int32) (x3 : Int32) (v : Arv Z h b kb .byte (4 : Int32) [(.int x0), (.int x1), (.int x2), (.int x3)] (.int 0)) :
    Con l M_33 jdk_65_method_132_code 3 (some (.array .byte)) (rm4 2 1 3 34) Z n0 #[(.ref b), (.int 1), (.int 4)] h (fun v h' => ∃ d : Addr, ∃ kd : ClassId, v = some (.ref d) ∧ Keep h h' [] ∧ n0 ≤ d ∧ h.size ≤ d ∧ Arv Z h' d kd .byte (3 : Int32) [(.int x1), (.int x2), (.int x3)] (.int 0)) := by
  refine Con.of_go (plainFor_of_name pn_5) (Ls := #[.val (.ref b), .val (.int 1), .val (.int 4)]) ?_
  refine Go.iloadN (pc' := 1) d28_0 rfl rfl ?_
  refine Go.ifYes (pc' := 10) d28_1 (XT.i0_ne_t (by decide)) (by decide) (by decide) ?_
  refine Go.aloadN (pc' := 11) d28_10 rfl rfl rfl ?_
  refine Go.iloadN (pc' := 12) d28_11 rfl rfl ?_
  refine Go.iloadN (pc' := 13) d28_12 rfl rfl ?_
  refine Go.callS (cells' := 1) (slots' := 3) (pc' := 16) [(.ref b), (.int 1), (.int 4)] [] (ww hw 133 rfl) (ww hw 134 rfl) (ww hw 131 rfl) (ww hw 135 rfl) (by decide) (c_corB4_1_4 l Z a0 hw h b kb x0 x1 x2 x3 v) pd_20 d28_13 rfl ?_
  rintro _ h1 ⟨d_1, kd_1, rfl, K1, ge_d_1, sz_d_1, F1_0⟩
  show Go _ _ _ _ _ _ _ _ _ _ _ _ 16 _ [(.ref d_1)]
  exact Go.retR rfl rfl rfl rfl d28_16 ⟨d_1, kd_1, rfl, K1, ge_d_1, sz_d_1, F1_0⟩
theorem c_newStr4_1_4 (hw : HW a0 Z) (h : Heap) (b : Addr) (kb : ClassId) (x0 : Int32) (x1 : Int32) (x2 : Int32) (x3 : Int32) (v : Arv Z h b kb .byte (4 : Int32) [(.int x0), (.int x1), (.int x2), (.int x3)] (.int 0)) :
    Con l M_29 jdk_43_method_47_code 3 (some (.object "java/lang/String")) (rm4 3 2 7 50) Z n0 #[(.ref b), (.int 1), (.int 3)] h (fun v h' => ∃ r : Addr, ∃ d : Addr, ∃ kd : ClassId, v = some (.ref r) ∧ Keep h h' [] ∧ n0 ≤ r ∧ h.size ≤ r ∧ n0 ≤ d ∧ h.size ≤ d ∧ r ≠ d ∧ Exa Z h' r "java/lang/String" ∧ Fld Z h' r "java/lang/String" "coder" "B" (.int 0) ∧ Fld Z h' r "java/lang/String" "value" "[B" (.ref d) ∧ Arv Z h' d kd .byte (3 : Int32) [(.int x1), (.int x2), (.int x3)] (.int 0)) := by
  refine Con.of_go (plainFor_of_name pn_2) (Ls := #[.val (.ref b), .val (.int 1), .val (.int 3)]) ?_
  refine Go.iloadN (pc' := 1) d27_0 rfl rfl ?_
  refine Go.ifYes (pc' := 7) d27_1 (XT.i0_ne_t (by decide)) (by decide) (by decide) ?_
  refine Go.new (pc' := 10) (cells' := 1) (slots' := 4) (ww hw 128 rfl) (ww hw 6 rfl) (ww hw 7 rfl) d27_7 rfl rfl (by decide) (by decide) rfl ?_
  intro h1 b1 g1 E1 ge1 A1 D1
  have K2 : Keep h h1 [] := (Keep.refl h []).ext E1
  refine Go.dup (pc' := 11) d27_10 rfl rfl ?_
  refine Go.aloadN (pc' := 12) d27_11 rfl rfl rfl ?_
  refine Go.iloadN (pc' := 13) d27_12 rfl rfl ?_
  refine Go.iloadN (pc' := 14) d27_13 rfl rfl ?_
  refine Go.iloadN (pc' := 15) d27_14 rfl rfl ?_
  refine Go.iadd (pc' := 16) d27_15 rfl ?_
  show Go _ _ _ _ _ _ _ _ _ _ _ _ 16 _ [(.int 4), (.int 1), (.ref b), (.ref b1), (.ref b1)]
  refine Go.callS (cells' := 2) (slots' := 7) (pc' := 19) [(.ref b), (.int 1), (.int 4)] [(.ref b1), (.ref b1)] (ww hw 129 rfl) (ww hw 130 rfl) (ww hw 131 rfl) (ww hw 132 rfl) (by decide) (c_cor4_1_4 l Z a0 hw h1 b kb x0 x1 x2 x3 (v.ext E1)) pd_20 d27_16 rfl ?_
  rintro _ h3 ⟨d_3, kd_3, rfl, K3, ge_d_3, sz_d_3, F3_0⟩
  have sz4 : h.size ≤ d_3 := Nat.le_trans K2.1 sz_d_3
  have K5 : Keep h h3 [] := K2.trans K3 all0
  show Go _ _ _ _ _ _ _ _ _ _ _ _ 19 _ [(.ref d_3), (.ref b1), (.ref b1)]
  refine Go.iconst (pc' := 20) (v := 0) d27_19 rfl rfl ?_
  have f6 : Fld Z h3 b1 "java/lang/String" "value" "[B" .null := ((D1 (Or.inr (ww hw 24 rfl)) (ty := (.array .byte)) (by decide) : Fld Z h1 b1 "java/lang/String" "value" "[B" .null).keep K3 nin0)
  have f7 : Fld Z h3 b1 "java/lang/String" "coder" "B" (.int 0) := ((D1 (Or.inr (ww hw 25 rfl)) (ty := .byte) (by decide) : Fld Z h1 b1 "java/lang/String" "coder" "B" (.int 0)).keep K3 nin0)
  refine Go.callC (cells' := 2) (slots' := 7) (pc' := 23) [(.ref d_3), (.int 0)] [(.ref b1)] (a := b1) rfl rfl (ww hw 144 rfl) (ww hw 145 rfl) (ww hw 7 rfl) (ww hw 146 rfl) (by decide) (c_strB l Z a0 hw h3 b1 d_3 ge1 (A1.keep K3) f6 f7) pd_21 d27_20 rfl ?_
  rintro _ h8 ⟨rfl, K8, F8_0, F8_1⟩
  have K9 : Keep h h8 [] := K5.trans K8 (allS (Or.inr (Nat.le_of_eq g1.symm)) all0)
  show Go _ _ _ _ _ _ _ _ _ _ _ _ 23 _ [(.ref b1)]
  have ne10 : b1 ≠ d_3 := (Nat.ne_of_lt (Nat.lt_of_lt_of_le (D1 (Or.inr (ww hw 25 rfl)) (ty := .byte) (by decide) : Fld Z h1 b1 "java/lang/String" "coder" "B" (.int 0)).lt sz_d_3))
  have f11 : Arv Z h8 d_3 kd_3 .byte (3 : Int32) [(.int x1), (.int x2), (.int x3)] (.int 0) := (F3_0.keep K8 (ninS (Ne.symm ne10) nin0))
  exact Go.retR rfl rfl rfl rfl d27_23 ⟨b1, d_3, kd_3, rfl, K9, ge1, (Nat.le_of_eq g1.symm), ge_d_3, sz4, ne10, ((A1.keep K3).keep K8), F8_1, F8_0, f11⟩
theorem c_sub4_1_4 (hw : HW a0 Z) (h : Heap) (a : Addr) (b : Addr) (kb : ClassId) (x0 : Int32) (x1 : Int32) (x2 : Int32) (x3 : Int32) (cp : Int32) (wf : Value) (hcp : ¬ (cp = (0 : Int32))) (hwf : wf.isRef = true) (scp : Sta Z Z.heap "java/lang/String" "COMPACT_STRINGS" "Z" (.int cp)) (sfm : Sta Z Z.heap "jdk/internal/util/Preconditions" "SIOOBE_FORMATTER" "Ljava/util/function/BiFunction;" wf) (e : Exa Z h a "java/lang/String") (f : Fld Z h a "java/lang/String" "coder" "B" (.int 0)) (g : Fld Z h a "java/lang/String" "value" "[B" (.ref b)) (v : Arv Z h b kb .byte (4 : Int32) [(.int x0), (.int x1), (.int x2), (.int x3)] (.int 0)) :
    Con l M_30 jdk_42_method_92_code 5 (some (.object "java/lang/String")) (rm4 4 2 7 64) Z n0 #[(.ref a), (.int 1), (.int 4)] h (fun v h' => ∃ r : Addr, ∃ d : Addr, ∃ kd : ClassId, v = some (.ref r) ∧ Keep h h' [] ∧ n0 ≤ r ∧ h.size ≤ r ∧ n0 ≤ d ∧ h.size ≤ d ∧ r ≠ d ∧ Exa Z h' r "java/lang/String" ∧ Fld Z h' r "java/lang/String" "coder" "B" (.int 0) ∧ Fld Z h' r "java/lang/String" "value" "[B" (.ref d) ∧ Arv Z h' d kd .byte (3 : Int32) [(.int x1), (.int x2), (.int x3)] (.int 0)) := by
  refine Con.of_go (plainFor_of_name pn_0) (Ls := #[.val (.ref a), .val (.int 1), .val (.int 4), .unset, .unset]) ?_
  refine Go.aloadN (pc' := 1) d24_0 rfl rfl rfl ?_
  refine Go.callV (cells' := 0) (slots' := 0) (pc' := 4) [] [] e (ww hw 50 rfl) (ww hw 51 rfl) (nfS (ww hw 53 rfl)) (ww hw 53 rfl) (ww hw 52 rfl) (ww hw 7 rfl) (ww hw 54 rfl) (by decide) (c_strLen4 l Z a0 hw h a b kb x0 x1 x2 x3 cp hcp scp e f g v) pd_11 d24_1 rfl ?_
  rintro _ _ ⟨rfl, rfl⟩
  show Go _ _ _ _ _ _ _ _ _ _ _ _ 4 _ [(.int 4)]
  refine Go.istoreN (pc' := 5) (Ls' := #[.val (.ref a), .val (.int 1), .val (.int 4), .val (.int 4), .unset]) d24_4 rfl rfl ?_
  refine Go.iloadN (pc' := 6) d24_5 rfl rfl ?_
  refine Go.iloadN (pc' := 7) d24_6 rfl rfl ?_
  refine Go.iloadN (pc' := 8) d24_7 rfl rfl ?_
  refine Go.callS (cells' := 0) (slots' := 0) (pc' := 11) [(.int 1), (.int 4), (.int 4)] [] (ww hw 117 rfl) (ww hw 118 rfl) (ww hw 7 rfl) (ww hw 119 rfl) (by decide) (c_bounds l Z a0 hw h (1 : Int32) (4 : Int32) (4 : Int32) wf (by decide) (by decide) (by decide) hwf sfm) pd_16 d24_8 rfl ?_
  rintro _ _ ⟨rfl, rfl⟩
  show Go _ _ _ _ _ _ _ _ _ _ _ _ 11 _ []
  refine Go.iloadN (pc' := 12) d24_11 rfl rfl ?_
  refine Go.ifYes (pc' := 22) d24_12 (XT.i0_ne_t (by decide)) (by decide) (by decide) ?_
  refine Go.iloadN (pc' := 23) d24_22 rfl rfl ?_
  refine Go.iloadN (pc' := 24) d24_23 rfl rfl ?_
  refine Go.isub (pc' := 25) d24_24 rfl ?_
  show Go _ _ _ _ _ _ _ _ _ _ _ _ 25 _ [(.int 3)]
  refine Go.istore (pc' := 27) (Ls' := #[.val (.ref a), .val (.int 1), .val (.int 4), .val (.int 4), .val (.int 3)]) d24_25 rfl rfl ?_
  refine Go.aloadN (pc' := 28) d24_27 rfl rfl rfl ?_
  refine Go.callV (cells' := 0) (slots' := 0) (pc' := 31) [] [] e (ww hw 44 rfl) (ww hw 45 rfl) (nfS (ww hw 47 rfl)) (ww hw 47 rfl) (ww hw 46 rfl) (ww hw 7 rfl) (ww hw 48 rfl) (by decide) (c_isLatin1 l Z a0 hw h a cp hcp scp f) pd_3 d24_28 rfl ?_
  rintro _ _ ⟨rfl, rfl⟩
  show Go _ _ _ _ _ _ _ _ _ _ _ _ 31 _ [(.int 1)]
  refine Go.ifNo (pc' := 34) d24_31 (XT.i0_eq_f (by decide)) rfl ?_
  refine Go.aloadN (pc' := 35) d24_34 rfl rfl rfl ?_
  refine Go.getfield (pc' := 38) (host := "") (Or.inl (ww hw 28 rfl)) Via.refl g d24_35 rfl ?_
  refine Go.iloadN (pc' := 39) d24_38 rfl rfl ?_
  refine Go.iload (pc' := 41) d24_39 rfl rfl ?_
  refine Go.callS (cells' := 2) (slots' := 7) (pc' := 44) [(.ref b), (.int 1), (.int 3)] [] (ww hw 125 rfl) (ww hw 126 rfl) (ww hw 62 rfl) (ww hw 127 rfl) (by decide) (c_newStr4_1_4 l Z a0 hw h b kb x0 x1 x2 x3 v) pd_17 d24_41 rfl ?_
  rintro _ h4 ⟨r_4, d_4, kd_4, rfl, K4, ge_r_4, sz_r_4, ge_d_4, sz_d_4, ne4_0, F4_0, F4_1, F4_2, F4_3⟩
  show Go _ _ _ _ _ _ _ _ _ _ _ _ 44 _ [(.ref r_4)]
  refine Go.goto (pc' := 57) d24_44 (by decide) (by decide) ?_
  exact Go.retR rfl rfl rfl rfl d24_57 ⟨r_4, d_4, kd_4, rfl, K4, ge_r_4, sz_r_4, ge_d_4, sz_d_4, ne4_0, F4_0, F4_1, F4_2, F4_3⟩
theorem c_subI4_1_4 (hw : HW a0 Z) (h : Heap) (a : Addr) (b : Addr) (kb : ClassId) (x0 : Int32) (x1 : Int32) (x2 : Int32) (x3 : Int32) (cp : Int32) (wf : Value) (hcp : ¬ (cp = (0 : Int32))) (hwf : wf.isRef = true) (scp : Sta Z Z.heap "java/lang/String" "COMPACT_STRINGS" "Z" (.int cp)) (sfm : Sta Z Z.heap "jdk/internal/util/Preconditions" "SIOOBE_FORMATTER" "Ljava/util/function/BiFunction;" wf) (e : Exa Z h a "java/lang/String") (f : Fld Z h a "java/lang/String" "coder" "B" (.int 0)) (g : Fld Z h a "java/lang/String" "value" "[B" (.ref b)) (v : Arv Z h b kb .byte (4 : Int32) [(.int x0), (.int x1), (.int x2), (.int x3)] (.int 0)) :
    Con l M_31 jdk_42_method_91_code 2 (some (.object "java/lang/String")) (rm4 5 2 7 80) Z n0 #[(.ref a), (.int 1)] h (fun v h' => ∃ r : Addr, ∃ d : Addr, ∃ kd : ClassId, v = some (.ref r) ∧ Keep h h' [] ∧ n0 ≤ r ∧ h.size ≤ r ∧ n0 ≤ d ∧ h.size ≤ d ∧ r ≠ d ∧ Exa Z h' r "java/lang/String" ∧ Fld Z h' r "java/lang/String" "coder" "B" (.int 0) ∧ Fld Z h' r "java/lang/String" "value" "[B" (.ref d) ∧ Arv Z h' d kd .byte (3 : Int32) [(.int x1), (.int x2), (.int x3)] (.int 0)) := by
  refine Con.of_go (plainFor_of_name pn_0) (Ls := #[.val (.ref a), .val (.int 1)]) ?_
  refine Go.aloadN (pc' := 1) d32_0 rfl rfl rfl ?_
  refine Go.iloadN (pc' := 2) d32_1 rfl rfl ?_
  refine Go.aloadN (pc' := 3) d32_2 rfl rfl rfl ?_
  refine Go.callV (cells' := 0) (slots' := 0) (pc' := 6) [] [(.int 1), (.ref a)] e (ww hw 50 rfl) (ww hw 51 rfl) (nfS (ww hw 53 rfl)) (ww hw 53 rfl) (ww hw 52 rfl) (ww hw 7 rfl) (ww hw 54 rfl) (by decide) (c_strLen4 l Z a0 hw h a b kb x0 x1 x2 x3 cp hcp scp e f g v) pd_11 d32_3 rfl ?_
  rintro _ _ ⟨rfl, rfl⟩
  show Go _ _ _ _ _ _ _ _ _ _ _ _ 6 _ [(.int 4), (.int 1), (.ref a)]
  refine Go.callV (cells' := 2) (slots' := 7) (pc' := 9) [(.int 1), (.int 4)] [] e (ww hw 152 rfl) (ww hw 113 rfl) (nfS (ww hw 115 rfl)) (ww hw 115 rfl) (ww hw 114 rfl) (ww hw 7 rfl) (ww hw 116 rfl) (by decide) (c_sub4_1_4 l Z a0 hw h a b kb x0 x1 x2 x3 cp wf hcp hwf scp sfm e f g v) pd_18 d32_6 rfl ?_
  rintro _ h2 ⟨r_2, d_2, kd_2, rfl, K2, ge_r_2, sz_r_2, ge_d_2, sz_d_2, ne2_0, F2_0, F2_1, F2_2, F2_3⟩
  show Go _ _ _ _ _ _ _ _ _ _ _ _ 9 _ [(.ref r_2)]
  exact Go.retR rfl rfl rfl rfl d32_9 ⟨r_2, d_2, kd_2, rfl, K2, ge_r_2, sz_r_2, ge_d_2, sz_d_2, ne2_0, F2_0, F2_1, F2_2, F2_3⟩
theorem c_parse4_0 (hw : HW a0 Z) (h : Heap) (a : Addr) (b : Addr) (kb : ClassId) (x0 : Int32) (x1 : Int32) (x2 : Int32) (x3 : Int32) (cp : Int32) (wf : Value) (hcp : ¬ (cp = (0 : Int32))) (hwf : wf.isRef = true) (hcw : Jvm.Lit.compactW.before a0 Z = true) (hch26 : Jvm.Lit.constHeld Z "com/example/inquire/inquire/io/WikiLink" 26) (hch151 : Jvm.Lit.constHeld Z "java/lang/StringLatin1" 151) (hx0 : x0 = (124 : Int32)) (scp : Sta Z Z.heap "java/lang/String" "COMPACT_STRINGS" "Z" (.int cp)) (sfm : Sta Z Z.heap "jdk/internal/util/Preconditions" "SIOOBE_FORMATTER" "Ljava/util/function/BiFunction;" wf) (e : Exa Z h a "java/lang/String") (f : Fld Z h a "java/lang/String" "coder" "B" (.int 0)) (g : Fld Z h a "java/lang/String" "value" "[B" (.ref b)) (v : Arv Z h b kb .byte (4 : Int32) [(.int x0), (.int x1), (.int x2), (.int x3)] (.int 0)) :
    ConS l M_28 prog_40_method_2_code 4 (some (.object "com/example/inquire/inquire/io/WikiLink")) (rm4 6 5 13 93) Z n0 #[(.ref a)] h [] (fun v h' LL' => ∃ w : Addr, ∃ rt : Addr, ∃ dt : Addr, ∃ kt : ClassId, ∃ rl : Addr, ∃ dl : Addr, ∃ kl : ClassId, v = some (.ref w) ∧ Keep h h' [] ∧ Exa Z h' w "com/example/inquire/inquire/io/WikiLink" ∧ Fld Z h' w "com/example/inquire/inquire/io/WikiLink" "target" "Ljava/lang/String;" (.ref rt) ∧ Fld Z h' w "com/example/inquire/inquire/io/WikiLink" "label" "Ljava/lang/String;" (.ref rl) ∧ Exa Z h' rt "java/lang/String" ∧ Fld Z h' rt "java/lang/String" "coder" "B" (.int 0) ∧ Fld Z h' rt "java/lang/String" "value" "[B" (.ref dt) ∧ Arv Z h' dt kt .byte (0 : Int32) [] (.int 0) ∧ Exa Z h' rl "java/lang/String" ∧ Fld Z h' rl "java/lang/String" "coder" "B" (.int 0) ∧ Fld Z h' rl "java/lang/String" "value" "[B" (.ref dl) ∧ Arv Z h' dl kl .byte (3 : Int32) [(.int x1), (.int x2), (.int x3)] (.int 0)) := by
  refine ConS.of_go (plainFor_of_name pn_6) (Ls := #[.val (.ref a), .unset, .unset, .unset]) ?_
  refine GoS.aloadN (pc' := 1) d6_0 rfl rfl rfl ?_
  refine GoS.bipush (pc' := 3) (v := 124) d6_1 rfl rfl ?_
  refine GoS.callV (cells' := 0) (slots' := 0) (pc' := 6) [(.int 124)] [] e (ww hw 34 rfl) (ww hw 35 rfl) (nfS (ww hw 37 rfl)) (ww hw 37 rfl) (ww hw 36 rfl) (ww hw 7 rfl) (ww hw 38 rfl) (by decide) (Con.cold (c_idx4 l Z a0 hw h a b kb x0 x1 x2 x3 cp hcp scp e f g v)) pd_14 d6_3 rfl ?_
  rintro _ _ _ ⟨⟨rfl, rfl⟩, rfl⟩
  show GoS _ _ _ _ _ _ _ _ _ _ _ _ _ _ 6 _ [(.int (if x0 = (124 : Int32) then (0 : Int32) else (if x1 = (124 : Int32) then (1 : Int32) else (if x2 = (124 : Int32) then (2 : Int32) else (if x3 = (124 : Int32) then (3 : Int32) else (-1 : Int32))))))]
  rw [if_pos hx0]
  refine GoS.istoreN (pc' := 7) (Ls' := #[.val (.ref a), .val (.int 0), .unset, .unset]) d6_6 rfl rfl ?_
  refine GoS.iloadN (pc' := 8) d6_7 rfl rfl ?_
  refine GoS.ifYes (pc' := 15) d6_8 (XT.i0_ge_t (by decide)) (by decide) (by decide) ?_
  refine GoS.aloadN (pc' := 16) d6_15 rfl rfl rfl ?_
  refine GoS.iconst (pc' := 17) (v := 0) d6_16 rfl rfl ?_
  refine GoS.iloadN (pc' := 18) d6_17 rfl rfl ?_
  refine GoS.callV (cells' := 2) (slots' := 4) (pc' := 21) [(.int 0), (.int 0)] [] e (ww hw 112 rfl) (ww hw 113 rfl) (nfS (ww hw 115 rfl)) (ww hw 115 rfl) (ww hw 114 rfl) (ww hw 7 rfl) (ww hw 116 rfl) (by decide) (c_sub4_0_0 l Z a0 hw h a b kb x0 x1 x2 x3 cp wf hcp hwf hcw hch151 scp sfm e f g v) pd_18 d6_18 rfl ?_
  rintro _ h2 _ ⟨ea_2, eb_2, ke_2, rfl, K2, F2_0, F2_1, F2_2, F2_3, F2_4, F2_5, rfl⟩
  show GoS _ _ _ _ _ _ _ _ _ _ _ _ _ _ 21 _ [(.ref ea_2)]
  refine GoS.astoreN (pc' := 22) (Ls' := #[.val (.ref a), .val (.int 0), .val (.ref ea_2), .unset]) d6_21 rfl rfl rfl ?_
  refine GoS.iloadN (pc' := 23) d6_22 rfl rfl ?_
  refine GoS.ifYes (pc' := 31) d6_23 (XT.i0_ge_t (by decide)) (by decide) (by decide) ?_
  refine GoS.aloadN (pc' := 32) d6_31 rfl rfl rfl ?_
  refine GoS.iloadN (pc' := 33) d6_32 rfl rfl ?_
  refine GoS.iconst (pc' := 34) (v := 1) d6_33 rfl rfl ?_
  refine GoS.iadd (pc' := 35) d6_34 rfl ?_
  show GoS _ _ _ _ _ _ _ _ _ _ _ _ _ _ 35 _ [(.int 1), (.ref a)]
  refine GoS.callV (cells' := 4) (slots' := 11) (pc' := 38) [(.int 1)] [] (e.keep K2) (ww hw 147 rfl) (ww hw 148 rfl) (nfS (ww hw 150 rfl)) (ww hw 150 rfl) (ww hw 149 rfl) (ww hw 7 rfl) (ww hw 151 rfl) (by decide) (Con.cold (c_subI4_1_4 l Z a0 hw h2 a b kb x0 x1 x2 x3 cp wf hcp hwf scp sfm (e.keep K2) (f.keep K2 nin0) (g.keep K2 nin0) (v.keep K2 nin0))) pd_19 d6_35 rfl ?_
  rintro _ h4 _ ⟨⟨r_4, d_4, kd_4, rfl, K4, ge_r_4, sz_r_4, ge_d_4, sz_d_4, ne4_0, F4_0, F4_1, F4_2, F4_3⟩, rfl⟩
  have sz5 : h.size ≤ r_4 := Nat.le_trans K2.1 sz_r_4
  have sz6 : h.size ≤ d_4 := Nat.le_trans K2.1 sz_d_4
  have K7 : Keep h h4 [] := K2.trans K4 all0
  show GoS _ _ _ _ _ _ _ _ _ _ _ _ _ _ 38 _ [(.ref r_4)]
  refine GoS.astoreN (pc' := 39) (Ls' := #[.val (.ref a), .val (.int 0), .val (.ref ea_2), .val (.ref r_4)]) d6_38 rfl rfl rfl ?_
  refine GoS.new (pc' := 42) (cells' := 5) (slots' := 13) (ww hw 75 rfl) (ww hw 76 rfl) (ww hw 32 rfl) d6_39 rfl rfl (by decide) (by decide) rfl ?_
  intro h8 b8 g8 E8 ge8 A8 D8
  have sz9 : h.size ≤ b8 := Nat.le_trans K7.1 (Nat.le_of_eq g8.symm)
  have K10 : Keep h h8 [] := K7.ext E8
  refine GoS.dup (pc' := 43) d6_42 rfl rfl ?_
  refine GoS.aloadN (pc' := 44) d6_43 rfl rfl rfl ?_
  refine GoS.aloadN (pc' := 45) d6_44 rfl rfl rfl ?_
  refine GoS.callC (cells' := 5) (slots' := 13) (pc' := 48) [(.ref ea_2), (.ref r_4)] [(.ref b8)] (a := b8) rfl rfl (ww hw 77 rfl) (ww hw 78 rfl) (ww hw 32 rfl) (ww hw 79 rfl) (by decide) (Con.cold (c_wlInit l Z a0 hw h8 b8 ea_2 r_4 ge8 A8 ((D8 (Or.inr (ww hw 82 rfl)) (ty := (.object "java/lang/String")) (by decide) : Fld Z h8 b8 "com/example/inquire/inquire/io/WikiLink" "target" "Ljava/lang/String;" .null)) ((D8 (Or.inr (ww hw 84 rfl)) (ty := (.object "java/lang/String")) (by decide) : Fld Z h8 b8 "com/example/inquire/inquire/io/WikiLink" "label" "Ljava/lang/String;" .null)))) pd_15 d6_45 rfl ?_
  rintro _ h11 _ ⟨⟨rfl, K11, F11_0, F11_1⟩, rfl⟩
  have K12 : Keep h h11 [] := K10.trans K11 (allS (Or.inr sz9) all0)
  show GoS _ _ _ _ _ _ _ _ _ _ _ _ _ _ 48 _ [(.ref b8)]
  have ne13 : ea_2 ≠ b8 := (Nat.ne_of_lt (Nat.lt_of_lt_of_le (F2_5.keep K4 nin0 nin0).lt0 (Nat.le_of_eq g8.symm)))
  have f14 : Fld Z h11 ea_2 "java/lang/String" "coder" "B" (.int 0) := (((F2_1.keep K4 nin0).ext E8).keep K11 (ninS ne13 nin0))
  have f15 : Fld Z h11 ea_2 "java/lang/String" "value" "[B" (.ref eb_2) := (((F2_2.keep K4 nin0).ext E8).keep K11 (ninS ne13 nin0))
  have ne16 : eb_2 ≠ b8 := (Nat.ne_of_lt (Nat.lt_of_lt_of_le (F2_5.keep K4 nin0 nin0).lt1 (Nat.le_of_eq g8.symm)))
  have f17 : Arv Z h11 eb_2 ke_2 .byte (0 : Int32) [] (.int 0) := (((F2_3.keep K4 nin0).ext E8).keep K11 (ninS ne16 nin0))
  have ne18 : r_4 ≠ b8 := (Nat.ne_of_lt (Nat.lt_of_lt_of_le F4_2.lt (Nat.le_of_eq g8.symm)))
  have f19 : Fld Z h11 r_4 "java/lang/String" "coder" "B" (.int 0) := ((F4_1.ext E8).keep K11 (ninS ne18 nin0))
  have f20 : Fld Z h11 r_4 "java/lang/String" "value" "[B" (.ref d_4) := ((F4_2.ext E8).keep K11 (ninS ne18 nin0))
  have ne21 : d_4 ≠ b8 := (Nat.ne_of_lt (Nat.lt_of_lt_of_le F4_3.lt (Nat.le_of_eq g8.symm)))
  have f22 : Arv Z h11 d_4 kd_4 .byte (3 : Int32) [(.int x1), (.int x2), (.int x3)] (.int 0) := ((F4_3.ext E8).keep K11 (ninS ne21 nin0))
  exact GoS.retR rfl rfl rfl rfl d6_48 ⟨b8, ea_2, eb_2, ke_2, r_4, d_4, kd_4, rfl, K12, (A8.keep K11), F11_0, F11_1, (((F2_0.keep K4).ext E8).keep K11), f14, f15, f17, ((F4_0.ext E8).keep K11), f19, f20, f22⟩
theorem c_min4_1 (hw : HW a0 Z) (h : Heap) :
    Con l M_16 jdk_29_method_69_code 2 (some .int) (rm4 0 0 0 0) Z n0 #[(.int 4), (.int 1)] h (fun v h' => v = some (.int 1) ∧ h = h') := by
  refine Con.of_go (Jvm.Free.JP.mathPlain rfl (by decide +kernel)) (Ls := #[.val (.int 4), .val (.int 1)]) ?_
  refine Go.iloadN (pc' := 1) d15_0 rfl rfl ?_
  refine Go.iloadN (pc' := 2) d15_1 rfl rfl ?_
  refine Go.icmpYes (pc' := 9) d15_2 (XT.ii_gt_t (by decide)) (by decide) (by decide) ?_
  refine Go.iloadN (pc' := 10) d15_9 rfl rfl ?_
  exact Go.retI rfl d15_10 ⟨rfl, rfl⟩
theorem c_corB4_0_1 (hw : HW a0 Z) (h : Heap) (b : Addr) (kb : ClassId) (x0 : Int32) (x1 : Int32) (x2 : Int32) (x3 : Int32) (v : Arv Z h b kb .byte (4 : Int32) [(.int x0), (.int x1), (.int x2), (.int x3)] (.int 0)) :
    Con l M_32 jdk_65_method_133_code 5 (some (.array .byte)) (rm4 1 1 1 18) Z n0 #[(.ref b), (.int 0), (.int 1)] h (fun v h' => ∃ d : Addr, ∃ kd : ClassId, v = some (.ref d) ∧ Keep h h' [] ∧ n0 ≤ d ∧ h.size ≤ d ∧ Arv Z h' d kd .byte (1 : Int32) [(.int x0)] (.int 0)) := by
  refine Con.of_go (plainFor_of_name pn_5) (Ls := #[.val (.ref b), .val (.int 0), .val (.int 1), .unset, .unset]) ?_
  refine Go.iloadN (pc' := 1) d29_0 rfl rfl ?_
  refine Go.iloadN (pc' := 2) d29_1 rfl rfl ?_
  refine Go.callS (cells' := 0) (slots' := 0) (pc' := 5) [(.int 0), (.int 1)] [] (ww hw 136 rfl) (ww hw 137 rfl) (ww hw 131 rfl) (ww hw 138 rfl) (by decide) (c_chkLen l Z a0 hw h (0 : Int32) (1 : Int32) (by decide)) pd_2 d29_2 rfl ?_
  rintro _ _ ⟨rfl, rfl⟩
  show Go _ _ _ _ _ _ _ _ _ _ _ _ 5 _ []
  refine Go.iloadN (pc' := 6) d29_5 rfl rfl ?_
  refine Go.iloadN (pc' := 7) d29_6 rfl rfl ?_
  refine Go.isub (pc' := 8) d29_7 rfl ?_
  show Go _ _ _ _ _ _ _ _ _ _ _ _ 8 _ [(.int 1)]
  refine Go.istoreN (pc' := 9) (Ls' := #[.val (.ref b), .val (.int 0), .val (.int 1), .val (.int 1), .unset]) d29_8 rfl rfl ?_
  refine Go.iloadN (pc' := 10) d29_9 rfl rfl ?_
  refine Go.newarray (pc' := 12) (cells' := 1) (slots' := 1) (cap := 1) (ww hw 23 rfl) d29_10 (ad := "[B") (by decide) (by decide) (by decide) rfl rfl (by decide) (by decide) (by decide) rfl ?_
  intro h2 b2 g2 E2 ge2 kA2 A2 X2
  have K3 : Keep h h2 [] := (Keep.refl h []).ext E2
  have V2 : Arv Z h2 b2 kA2 .byte (1 : Int32) [(.int 0)] (.int 0) := Arv.pad A2 (pad_rep [] (.int 0) 1)
  refine Go.astore (pc' := 14) (Ls' := #[.val (.ref b), .val (.int 0), .val (.int 1), .val (.int 1), .val (.ref b2)]) d29_12 rfl rfl rfl ?_
  refine Go.aloadN (pc' := 15) d29_14 rfl rfl rfl ?_
  refine Go.iloadN (pc' := 16) d29_15 rfl rfl ?_
  refine Go.aload (pc' := 18) d29_16 rfl rfl rfl ?_
  refine Go.iconst (pc' := 19) (v := 0) d29_18 rfl rfl ?_
  refine Go.aloadN (pc' := 20) d29_19 rfl rfl rfl ?_
  refine Go.arraylength (pc' := 21) (v.ext E2) d29_20 rfl ?_
  refine Go.iloadN (pc' := 22) d29_21 rfl rfl ?_
  refine Go.isub (pc' := 23) d29_22 rfl ?_
  show Go _ _ _ _ _ _ _ _ _ _ _ _ 23 _ [(.int 4), (.int 0), (.ref b2), (.int 0), (.ref b)]
  refine Go.iloadN (pc' := 24) d29_23 rfl rfl ?_
  refine Go.callS (cells' := 1) (slots' := 1) (pc' := 27) [(.int 4), (.int 1)] [(.int 0), (.ref b2), (.int 0), (.ref b)] (ww hw 139 rfl) (ww hw 72 rfl) (ww hw 69 rfl) (ww hw 73 rfl) (by decide) (c_min4_1 l Z a0 hw h2) pd_10 d29_24 rfl ?_
  rintro _ _ ⟨rfl, rfl⟩
  show Go _ _ _ _ _ _ _ _ _ _ _ _ 27 _ [(.int 1), (.int 0), (.ref b2), (.int 0), (.ref b)]
  refine Go.arraycopy (pc' := 30) (us := [(.int x0)]) (vd' := [(.int x0)]) (ww hw 140 rfl) (ww hw 143 rfl) (ww hw 141 rfl) (ww hw 142 rfl) (v.ext E2) V2 (Or.inl ⟨rfl, rfl⟩) (by decide) (by decide) (by decide) (by decide) (by decide) rfl (nl rfl) rfl ge2 d29_27 rfl (nl rfl) (nl rfl) rfl ?_
  intro h5 K6 V7
  have K8 : Keep h h5 [] := K3.trans K6 (allS (Or.inr (Nat.le_of_eq g2.symm)) all0)
  refine Go.aload (pc' := 32) d29_30 rfl rfl rfl ?_
  exact Go.retR rfl rfl rfl rfl d29_32 ⟨b2, kA2, rfl, K8, ge2, (Nat.le_of_eq g2.symm), V7⟩
theorem c_cor4_0_1 (hw : HW a0 Z) (h : Heap) (b : Addr) (kb : ClassId) (x0 : Int32) (x1 : Int32) (x2 : Int32) (x3 : Int32) (v : Arv Z h b kb .byte (4 : Int32) [(.int x0), (.int x1), (.int x2), (.int x3)] (.int 0)) :
    Con l M_33 jdk_65_method_132_code 3 (some (.array .byte)) (rm4 2 1 1 34) Z n0 #[(.ref b), (.int 0), (.int 1)] h (fun v h' => ∃ d : Addr, ∃ kd : ClassId, v = some (.ref d) ∧ Keep h h' [] ∧ n0 ≤ d ∧ h.size ≤ d ∧ Arv Z h' d kd .byte (1 : Int32) [(.int x0)] (.int 0)) := by
  refine Con.of_go (plainFor_of_name pn_5) (Ls := #[.val (.ref b), .val (.int 0), .val (.int 1)]) ?_
  refine Go.iloadN (pc' := 1) d28_0 rfl rfl ?_
  refine Go.ifNo (pc' := 4) d28_1 (XT.i0_ne_f (by decide)) rfl ?_
  refine Go.iloadN (pc' := 5) d28_4 rfl rfl ?_
  refine Go.aloadN (pc' := 6) d28_5 rfl rfl rfl ?_
  refine Go.arraylength (pc' := 7) v d28_6 rfl ?_
  refine Go.icmpNo (pc' := 10) d28_7 (XT.ii_eq_f (by decide)) rfl ?_
  refine Go.aloadN (pc' := 11) d28_10 rfl rfl rfl ?_
  refine Go.iloadN (pc' := 12) d28_11 rfl rfl ?_
  refine Go.iloadN (pc' := 13) d28_12 rfl rfl ?_
  refine Go.callS (cells' := 1) (slots' := 1) (pc' := 16) [(.ref b), (.int 0), (.int 1)] [] (ww hw 133 rfl) (ww hw 134 rfl) (ww hw 131 rfl) (ww hw 135 rfl) (by decide) (c_corB4_0_1 l Z a0 hw h b kb x0 x1 x2 x3 v) pd_20 d28_13 rfl ?_
  rintro _ h1 ⟨d_1, kd_1, rfl, K1, ge_d_1, sz_d_1, F1_0⟩
  show Go _ _ _ _ _ _ _ _ _ _ _ _ 16 _ [(.ref d_1)]
  exact Go.retR rfl rfl rfl rfl d28_16 ⟨d_1, kd_1, rfl, K1, ge_d_1, sz_d_1, F1_0⟩
theorem c_newStr4_0_1 (hw : HW a0 Z) (h : Heap) (b : Addr) (kb : ClassId) (x0 : Int32) (x1 : Int32) (x2 : Int32) (x3 : Int32) (v : Arv Z h b kb .byte (4 : Int32) [(.int x0), (.int x1), (.int x2), (.int x3)] (.int 0)) :
    Con l M_29 jdk_43_method_47_code 3 (some (.object "java/lang/String")) (rm4 3 2 5 50) Z n0 #[(.ref b), (.int 0), (.int 1)] h (fun v h' => ∃ r : Addr, ∃ d : Addr, ∃ kd : ClassId, v = some (.ref r) ∧ Keep h h' [] ∧ n0 ≤ r ∧ h.size ≤ r ∧ n0 ≤ d ∧ h.size ≤ d ∧ r ≠ d ∧ Exa Z h' r "java/lang/String" ∧ Fld Z h' r "java/lang/String" "coder" "B" (.int 0) ∧ Fld Z h' r "java/lang/String" "value" "[B" (.ref d) ∧ Arv Z h' d kd .byte (1 : Int32) [(.int x0)] (.int 0)) := by
  refine Con.of_go (plainFor_of_name pn_2) (Ls := #[.val (.ref b), .val (.int 0), .val (.int 1)]) ?_
  refine Go.iloadN (pc' := 1) d27_0 rfl rfl ?_
  refine Go.ifYes (pc' := 7) d27_1 (XT.i0_ne_t (by decide)) (by decide) (by decide) ?_
  refine Go.new (pc' := 10) (cells' := 1) (slots' := 4) (ww hw 128 rfl) (ww hw 6 rfl) (ww hw 7 rfl) d27_7 rfl rfl (by decide) (by decide) rfl ?_
  intro h1 b1 g1 E1 ge1 A1 D1
  have K2 : Keep h h1 [] := (Keep.refl h []).ext E1
  refine Go.dup (pc' := 11) d27_10 rfl rfl ?_
  refine Go.aloadN (pc' := 12) d27_11 rfl rfl rfl ?_
  refine Go.iloadN (pc' := 13) d27_12 rfl rfl ?_
  refine Go.iloadN (pc' := 14) d27_13 rfl rfl ?_
  refine Go.iloadN (pc' := 15) d27_14 rfl rfl ?_
  refine Go.iadd (pc' := 16) d27_15 rfl ?_
  show Go _ _ _ _ _ _ _ _ _ _ _ _ 16 _ [(.int 1), (.int 0), (.ref b), (.ref b1), (.ref b1)]
  refine Go.callS (cells' := 2) (slots' := 5) (pc' := 19) [(.ref b), (.int 0), (.int 1)] [(.ref b1), (.ref b1)] (ww hw 129 rfl) (ww hw 130 rfl) (ww hw 131 rfl) (ww hw 132 rfl) (by decide) (c_cor4_0_1 l Z a0 hw h1 b kb x0 x1 x2 x3 (v.ext E1)) pd_20 d27_16 rfl ?_
  rintro _ h3 ⟨d_3, kd_3, rfl, K3, ge_d_3, sz_d_3, F3_0⟩
  have sz4 : h.size ≤ d_3 := Nat.le_trans K2.1 sz_d_3
  have K5 : Keep h h3 [] := K2.trans K3 all0
  show Go _ _ _ _ _ _ _ _ _ _ _ _ 19 _ [(.ref d_3), (.ref b1), (.ref b1)]
  refine Go.iconst (pc' := 20) (v := 0) d27_19 rfl rfl ?_
  have f6 : Fld Z h3 b1 "java/lang/String" "value" "[B" .null := ((D1 (Or.inr (ww hw 24 rfl)) (ty := (.array .byte)) (by decide) : Fld Z h1 b1 "java/lang/String" "value" "[B" .null).keep K3 nin0)
  have f7 : Fld Z h3 b1 "java/lang/String" "coder" "B" (.int 0) := ((D1 (Or.inr (ww hw 25 rfl)) (ty := .byte) (by decide) : Fld Z h1 b1 "java/lang/String" "coder" "B" (.int 0)).keep K3 nin0)
  refine Go.callC (cells' := 2) (slots' := 5) (pc' := 23) [(.ref d_3), (.int 0)] [(.ref b1)] (a := b1) rfl rfl (ww hw 144 rfl) (ww hw 145 rfl) (ww hw 7 rfl) (ww hw 146 rfl) (by decide) (c_strB l Z a0 hw h3 b1 d_3 ge1 (A1.keep K3) f6 f7) pd_21 d27_20 rfl ?_
  rintro _ h8 ⟨rfl, K8, F8_0, F8_1⟩
  have K9 : Keep h h8 [] := K5.trans K8 (allS (Or.inr (Nat.le_of_eq g1.symm)) all0)
  show Go _ _ _ _ _ _ _ _ _ _ _ _ 23 _ [(.ref b1)]
  have ne10 : b1 ≠ d_3 := (Nat.ne_of_lt (Nat.lt_of_lt_of_le (D1 (Or.inr (ww hw 25 rfl)) (ty := .byte) (by decide) : Fld Z h1 b1 "java/lang/String" "coder" "B" (.int 0)).lt sz_d_3))
  have f11 : Arv Z h8 d_3 kd_3 .byte (1 : Int32) [(.int x0)] (.int 0) := (F3_0.keep K8 (ninS (Ne.symm ne10) nin0))
  exact Go.retR rfl rfl rfl rfl d27_23 ⟨b1, d_3, kd_3, rfl, K9, ge1, (Nat.le_of_eq g1.symm), ge_d_3, sz4, ne10, ((A1.keep K3).keep K8), F8_1, F8_0, f11⟩
theorem c_sub4_0_1 (hw : HW a0 Z) (h : Heap) (a : Addr) (b : Addr) (kb : ClassId) (x0 : Int32) (x1 : Int32) (x2 : Int32) (x3 : Int32) (cp : Int32) (wf : Value) (hcp : ¬ (cp = (0 : Int32))) (hwf : wf.isRef = true) (scp : Sta Z Z.heap "java/lang/String" "COMPACT_STRINGS" "Z" (.int cp)) (sfm : Sta Z Z.heap "jdk/internal/util/Preconditions" "SIOOBE_FORMATTER" "Ljava/util/function/BiFunction;" wf) (e : Exa Z h a "java/lang/String") (f : Fld Z h a "java/lang/String" "coder" "B" (.int 0)) (g : Fld Z h a "java/lang/String" "value" "[B" (.ref b)) (v : Arv Z h b kb .byte (4 : Int32) [(.int x0), (.int x1), (.int x2), (.int x3)] (.int 0)) :
    Con l M_30 jdk_42_method_92_code 5 (some (.object "java/lang/String")) (rm4 4 2 5 64) Z n0 #[(.ref a), (.int 0), (.int 1)] h (fun v h' => ∃ r : Addr, ∃ d : Addr, ∃ kd : ClassId, v = some (.ref r) ∧ Keep h h' [] ∧ n0 ≤ r ∧ h.size ≤ r ∧ n0 ≤ d ∧ h.size ≤ d ∧ r ≠ d ∧ Exa Z h' r "java/lang/String" ∧ Fld Z h' r "java/lang/String" "coder" "B" (.int 0) ∧ Fld Z h' r "java/lang/String" "value" "[B" (.ref d) ∧ Arv Z h' d kd .byte (1 : Int32) [(.int x0)] (.int 0)) := by
  refine Con.of_go (plainFor_of_name pn_0) (Ls := #[.val (.ref a), .val (.int 0), .val (.int 1), .unset, .unset]) ?_
  refine Go.aloadN (pc' := 1) d24_0 rfl rfl rfl ?_
  refine Go.callV (cells' := 0) (slots' := 0) (pc' := 4) [] [] e (ww hw 50 rfl) (ww hw 51 rfl) (nfS (ww hw 53 rfl)) (ww hw 53 rfl) (ww hw 52 rfl) (ww hw 7 rfl) (ww hw 54 rfl) (by decide) (c_strLen4 l Z a0 hw h a b kb x0 x1 x2 x3 cp hcp scp e f g v) pd_11 d24_1 rfl ?_
  rintro _ _ ⟨rfl, rfl⟩
  show Go _ _ _ _ _ _ _ _ _ _ _ _ 4 _ [(.int 4)]
  refine Go.istoreN (pc' := 5) (Ls' := #[.val (.ref a), .val (.int 0), .val (.int 1), .val (.int 4), .unset]) d24_4 rfl rfl ?_
  refine Go.iloadN (pc' := 6) d24_5 rfl rfl ?_
  refine Go.iloadN (pc' := 7) d24_6 rfl rfl ?_
  refine Go.iloadN (pc' := 8) d24_7 rfl rfl ?_
  refine Go.callS (cells' := 0) (slots' := 0) (pc' := 11) [(.int 0), (.int 1), (.int 4)] [] (ww hw 117 rfl) (ww hw 118 rfl) (ww hw 7 rfl) (ww hw 119 rfl) (by decide) (c_bounds l Z a0 hw h (0 : Int32) (1 : Int32) (4 : Int32) wf (by decide) (by decide) (by decide) hwf sfm) pd_16 d24_8 rfl ?_
  rintro _ _ ⟨rfl, rfl⟩
  show Go _ _ _ _ _ _ _ _ _ _ _ _ 11 _ []
  refine Go.iloadN (pc' := 12) d24_11 rfl rfl ?_
  refine Go.ifNo (pc' := 15) d24_12 (XT.i0_ne_f (by decide)) rfl ?_
  refine Go.iloadN (pc' := 16) d24_15 rfl rfl ?_
  refine Go.iloadN (pc' := 17) d24_16 rfl rfl ?_
  refine Go.icmpYes (pc' := 22) d24_17 (XT.ii_ne_t (by decide)) (by decide) (by decide) ?_
  refine Go.iloadN (pc' := 23) d24_22 rfl rfl ?_
  refine Go.iloadN (pc' := 24) d24_23 rfl rfl ?_
  refine Go.isub (pc' := 25) d24_24 rfl ?_
  show Go _ _ _ _ _ _ _ _ _ _ _ _ 25 _ [(.int 1)]
  refine Go.istore (pc' := 27) (Ls' := #[.val (.ref a), .val (.int 0), .val (.int 1), .val (.int 4), .val (.int 1)]) d24_25 rfl rfl ?_
  refine Go.aloadN (pc' := 28) d24_27 rfl rfl rfl ?_
  refine Go.callV (cells' := 0) (slots' := 0) (pc' := 31) [] [] e (ww hw 44 rfl) (ww hw 45 rfl) (nfS (ww hw 47 rfl)) (ww hw 47 rfl) (ww hw 46 rfl) (ww hw 7 rfl) (ww hw 48 rfl) (by decide) (c_isLatin1 l Z a0 hw h a cp hcp scp f) pd_3 d24_28 rfl ?_
  rintro _ _ ⟨rfl, rfl⟩
  show Go _ _ _ _ _ _ _ _ _ _ _ _ 31 _ [(.int 1)]
  refine Go.ifNo (pc' := 34) d24_31 (XT.i0_eq_f (by decide)) rfl ?_
  refine Go.aloadN (pc' := 35) d24_34 rfl rfl rfl ?_
  refine Go.getfield (pc' := 38) (host := "") (Or.inl (ww hw 28 rfl)) Via.refl g d24_35 rfl ?_
  refine Go.iloadN (pc' := 39) d24_38 rfl rfl ?_
  refine Go.iload (pc' := 41) d24_39 rfl rfl ?_
  refine Go.callS (cells' := 2) (slots' := 5) (pc' := 44) [(.ref b), (.int 0), (.int 1)] [] (ww hw 125 rfl) (ww hw 126 rfl) (ww hw 62 rfl) (ww hw 127 rfl) (by decide) (c_newStr4_0_1 l Z a0 hw h b kb x0 x1 x2 x3 v) pd_17 d24_41 rfl ?_
  rintro _ h4 ⟨r_4, d_4, kd_4, rfl, K4, ge_r_4, sz_r_4, ge_d_4, sz_d_4, ne4_0, F4_0, F4_1, F4_2, F4_3⟩
  show Go _ _ _ _ _ _ _ _ _ _ _ _ 44 _ [(.ref r_4)]
  refine Go.goto (pc' := 57) d24_44 (by decide) (by decide) ?_
  exact Go.retR rfl rfl rfl rfl d24_57 ⟨r_4, d_4, kd_4, rfl, K4, ge_r_4, sz_r_4, ge_d_4, sz_d_4, ne4_0, F4_0, F4_1, F4_2, F4_3⟩
theorem c_corB4_2_4 (hw : HW a0 Z) (h : Heap) (b : Addr) (kb : ClassId) (x0 : Int32) (x1 : Int32) (x2 : Int32) (x3 : Int32) (v : Arv Z h b kb .byte (4 : Int32) [(.int x0), (.int x1), (.int x2), (.int x3)] (.int 0)) :
    Con l M_32 jdk_65_method_133_code 5 (some (.array .byte)) (rm4 1 1 2 18) Z n0 #[(.ref b), (.int 2), (.int 4)] h (fun v h' => ∃ d : Addr, ∃ kd : ClassId, v = some (.ref d) ∧ Keep h h' [] ∧ n0 ≤ d ∧ h.size ≤ d ∧ Arv Z h' d kd .byte (2 : Int32) [(.int x2), (.int x3)] (.int 0)) := by
  refine Con.of_go (plainFor_of_name pn_5) (Ls := #[.val (.ref b), .val (.int 2), .val (.int 4), .unset, .unset]) ?_
  refine Go.iloadN (pc' := 1) d29_0 rfl rfl ?_
  refine Go.iloadN (pc' := 2) d29_1 rfl rfl ?_
  refine Go.callS (cells' := 0) (slots' := 0) (pc' := 5) [(.int 2), (.int 4)] [] (ww hw 136 rfl) (ww hw 137 rfl) (ww hw 131 rfl) (ww hw 138 rfl) (by decide) (c_chkLen l Z a0 hw h (2 : Int32) (4 : Int32) (by decide)) pd_2 d29_2 rfl ?_
  rintro _ _ ⟨rfl, rfl⟩
  show Go _ _ _ _ _ _ _ _ _ _ _ _ 5 _ []
  refine Go.iloadN (pc' := 6) d29_5 rfl rfl ?_
  refine Go.iloadN (pc' := 7) d29_6 rfl rfl ?_
  refine Go.isub (pc' := 8) d29_7 rfl ?_
  show Go _ _ _ _ _ _ _ _ _ _ _ _ 8 _ [(.int 2)]
  refine Go.istoreN (pc' := 9) (Ls' := #[.val (.ref b), .val (.int 2), .val (.int 4), .val (.int 2), .unset]) d29_8 rfl rfl ?_
  refine Go.iloadN (pc' := 10) d29_9 rfl rfl ?_
  refine Go.newarray (pc' := 12) (cells' := 1) (slots' := 2) (cap := 2) (ww hw 23 rfl) d29_10 (ad := "[B") (by decide) (by decide) (by decide) rfl rfl (by decide) (by decide) (by decide) rfl ?_
  intro h2 b2 g2 E2 ge2 kA2 A2 X2
  have K3 : Keep h h2 [] := (Keep.refl h []).ext E2
  have V2 : Arv Z h2 b2 kA2 .byte (2 : Int32) [(.int 0), (.int 0)] (.int 0) := Arv.pad A2 (pad_rep [] (.int 0) 2)
  refine Go.astore (pc' := 14) (Ls' := #[.val (.ref b), .val (.int 2), .val (.int 4), .val (.int 2), .val (.ref b2)]) d29_12 rfl rfl rfl ?_
  refine Go.aloadN (pc' := 15) d29_14 rfl rfl rfl ?_
  refine Go.iloadN (pc' := 16) d29_15 rfl rfl ?_
  refine Go.aload (pc' := 18) d29_16 rfl rfl rfl ?_
  refine Go.iconst (pc' := 19) (v := 0) d29_18 rfl rfl ?_
  refine Go.aloadN (pc' := 20) d29_19 rfl rfl rfl ?_
  refine Go.arraylength (pc' := 21) (v.ext E2) d29_20 rfl ?_
  refine Go.iloadN (pc' := 22) d29_21 rfl rfl ?_
  refine Go.isub (pc' := 23) d29_22 rfl ?_
  show Go _ _ _ _ _ _ _ _ _ _ _ _ 23 _ [(.int 2), (.int 0), (.ref b2), (.int 2), (.ref b)]
  refine Go.iloadN (pc' := 24) d29_23 rfl rfl ?_
  refine Go.callS (cells' := 1) (slots' := 2) (pc' := 27) [(.int 2), (.int 2)] [(.int 0), (.ref b2), (.int 2), (.ref b)] (ww hw 139 rfl) (ww hw 72 rfl) (ww hw 69 rfl) (ww hw 73 rfl) (by decide) (c_min2_2 l Z a0 hw h2) pd_10 d29_24 rfl ?_
  rintro _ _ ⟨rfl, rfl⟩
  show Go _ _ _ _ _ _ _ _ _ _ _ _ 27 _ [(.int 2), (.int 0), (.ref b2), (.int 2), (.ref b)]
  refine Go.arraycopy (pc' := 30) (us := [(.int x2), (.int x3)]) (vd' := [(.int x2), (.int x3)]) (ww hw 140 rfl) (ww hw 143 rfl) (ww hw 141 rfl) (ww hw 142 rfl) (v.ext E2) V2 (Or.inl ⟨rfl, rfl⟩) (by decide) (by decide) (by decide) (by decide) (by decide) rfl (nl rfl) rfl ge2 d29_27 rfl (nl rfl) (nl rfl) rfl ?_
  intro h5 K6 V7
  have K8 : Keep h h5 [] := K3.trans K6 (allS (Or.inr (Nat.le_of_eq g2.symm)) all0)
  refine Go.aload (pc' := 32) d29_30 rfl rfl rfl ?_
  exact Go.retR rfl rfl rfl rfl d29_32 ⟨b2, kA2, rfl, K8, ge2, (Nat.le_of_eq g2.symm), V7⟩
theorem c_cor4_2_4 (hw : HW a0 Z) (h : Heap) (b : Addr) (kb : ClassId) (x0 : Int32) (x1 : Int32) (x2 : Int32) (x3 : Int32) (v : Arv Z h b kb .byte (4 : Int32) [(.int x0), (.int x1), (.int x2), (.int x3)] (.int 0)) :
    Con l M_33 jdk_65_method_132_code 3 (some (.array .byte)) (rm4 2 1 2 34) Z n0 #[(.ref b), (.int 2), (.int 4)] h (fun v h' => ∃ d : Addr, ∃ kd : ClassId, v = some (.ref d) ∧ Keep h h' [] ∧ n0 ≤ d ∧ h.size ≤ d ∧ Arv Z h' d kd .byte (2 : Int32) [(.int x2), (.int x3)] (.int 0)) := by
  refine Con.of_go (plainFor_of_name pn_5) (Ls := #[.val (.ref b), .val (.int 2), .val (.int 4)]) ?_
  refine Go.iloadN (pc' := 1) d28_0 rfl rfl ?_
  refine Go.ifYes (pc' := 10) d28_1 (XT.i0_ne_t (by decide)) (by decide) (by decide) ?_
  refine Go.aloadN (pc' := 11) d28_10 rfl rfl rfl ?_
  refine Go.iloadN (pc' := 12) d28_11 rfl rfl ?_
  refine Go.iloadN (pc' := 13) d28_12 rfl rfl ?_
  refine Go.callS (cells' := 1) (slots' := 2) (pc' := 16) [(.ref b), (.int 2), (.int 4)] [] (ww hw 133 rfl) (ww hw 134 rfl) (ww hw 131 rfl) (ww hw 135 rfl) (by decide) (c_corB4_2_4 l Z a0 hw h b kb x0 x1 x2 x3 v) pd_20 d28_13 rfl ?_
  rintro _ h1 ⟨d_1, kd_1, rfl, K1, ge_d_1, sz_d_1, F1_0⟩
  show Go _ _ _ _ _ _ _ _ _ _ _ _ 16 _ [(.ref d_1)]
  exact Go.retR rfl rfl rfl rfl d28_16 ⟨d_1, kd_1, rfl, K1, ge_d_1, sz_d_1, F1_0⟩
theorem c_newStr4_2_4 (hw : HW a0 Z) (h : Heap) (b : Addr) (kb : ClassId) (x0 : Int32) (x1 : Int32) (x2 : Int32) (x3 : Int32) (v : Arv Z h b kb .byte (4 : Int32) [(.int x0), (.int x1), (.int x2), (.int x3)] (.int 0)) :
    Con l M_29 jdk_43_method_47_code 3 (some (.object "java/lang/String")) (rm4 3 2 6 50) Z n0 #[(.ref b), (.int 2), (.int 2)] h (fun v h' => ∃ r : Addr, ∃ d : Addr, ∃ kd : ClassId, v = some (.ref r) ∧ Keep h h' [] ∧ n0 ≤ r ∧ h.size ≤ r ∧ n0 ≤ d ∧ h.size ≤ d ∧ r ≠ d ∧ Exa Z h' r "java/lang/String" ∧ Fld Z h' r "java/lang/String" "coder" "B" (.int 0) ∧ Fld Z h' r "java/lang/String" "value" "[B" (.ref d) ∧ Arv Z h' d kd .byte (2 : Int32) [(.int x2), (.int x3)] (.int 0)) := by
  refine Con.of_go (plainFor_of_name pn_2) (Ls := #[.val (.ref b), .val (.int 2), .val (.int 2)]) ?_
  refine Go.iloadN (pc' := 1) d27_0 rfl rfl ?_
  refine Go.ifYes (pc' := 7) d27_1 (XT.i0_ne_t (by decide)) (by decide) (by decide) ?_
  refine Go.new (pc' := 10) (cells' := 1) (slots' := 4) (ww hw 128 rfl) (ww hw 6 rfl) (ww hw 7 rfl) d27_7 rfl rfl (by decide) (by decide) rfl ?_
  intro h1 b1 g1 E1 ge1 A1 D1
  have K2 : Keep h h1 [] := (Keep.refl h []).ext E1
  refine Go.dup (pc' := 11) d27_10 rfl rfl ?_
  refine Go.aloadN (pc' := 12) d27_11 rfl rfl rfl ?_
  refine Go.iloadN (pc' := 13) d27_12 rfl rfl ?_
  refine Go.iloadN (pc' := 14) d27_13 rfl rfl ?_
  refine Go.iloadN (pc' := 15) d27_14 rfl rfl ?_
  refine Go.iadd (pc' := 16) d27_15 rfl ?_
  show Go _ _ _ _ _ _ _ _ _ _ _ _ 16 _ [(.int 4), (.int 2), (.ref b), (.ref b1), (.ref b1)]
  refine Go.callS (cells' := 2) (slots' := 6) (pc' := 19) [(.ref b), (.int 2), (.int 4)] [(.ref b1), (.ref b1)] (ww hw 129 rfl) (ww hw 130 rfl) (ww hw 131 rfl) (ww hw 132 rfl) (by decide) (c_cor4_2_4 l Z a0 hw h1 b kb x0 x1 x2 x3 (v.ext E1)) pd_20 d27_16 rfl ?_
  rintro _ h3 ⟨d_3, kd_3, rfl, K3, ge_d_3, sz_d_3, F3_0⟩
  have sz4 : h.size ≤ d_3 := Nat.le_trans K2.1 sz_d_3
  have K5 : Keep h h3 [] := K2.trans K3 all0
  show Go _ _ _ _ _ _ _ _ _ _ _ _ 19 _ [(.ref d_3), (.ref b1), (.ref b1)]
  refine Go.iconst (pc' := 20) (v := 0) d27_19 rfl rfl ?_
  have f6 : Fld Z h3 b1 "java/lang/String" "value" "[B" .null := ((D1 (Or.inr (ww hw 24 rfl)) (ty := (.array .byte)) (by decide) : Fld Z h1 b1 "java/lang/String" "value" "[B" .null).keep K3 nin0)
  have f7 : Fld Z h3 b1 "java/lang/String" "coder" "B" (.int 0) := ((D1 (Or.inr (ww hw 25 rfl)) (ty := .byte) (by decide) : Fld Z h1 b1 "java/lang/String" "coder" "B" (.int 0)).keep K3 nin0)
  refine Go.callC (cells' := 2) (slots' := 6) (pc' := 23) [(.ref d_3), (.int 0)] [(.ref b1)] (a := b1) rfl rfl (ww hw 144 rfl) (ww hw 145 rfl) (ww hw 7 rfl) (ww hw 146 rfl) (by decide) (c_strB l Z a0 hw h3 b1 d_3 ge1 (A1.keep K3) f6 f7) pd_21 d27_20 rfl ?_
  rintro _ h8 ⟨rfl, K8, F8_0, F8_1⟩
  have K9 : Keep h h8 [] := K5.trans K8 (allS (Or.inr (Nat.le_of_eq g1.symm)) all0)
  show Go _ _ _ _ _ _ _ _ _ _ _ _ 23 _ [(.ref b1)]
  have ne10 : b1 ≠ d_3 := (Nat.ne_of_lt (Nat.lt_of_lt_of_le (D1 (Or.inr (ww hw 25 rfl)) (ty := .byte) (by decide) : Fld Z h1 b1 "java/lang/String" "coder" "B" (.int 0)).lt sz_d_3))
  have f11 : Arv Z h8 d_3 kd_3 .byte (2 : Int32) [(.int x2), (.int x3)] (.int 0) := (F3_0.keep K8 (ninS (Ne.symm ne10) nin0))
  exact Go.retR rfl rfl rfl rfl d27_23 ⟨b1, d_3, kd_3, rfl, K9, ge1, (Nat.le_of_eq g1.symm), ge_d_3, sz4, ne10, ((A1.keep K3).keep K8), F8_1, F8_0, f11⟩
theorem c_sub4_2_4 (hw : HW a0 Z) (h : Heap) (a : Addr) (b : Addr) (kb : ClassId) (x0 : Int32) (x1 : Int32) (x2 : Int32) (x3 : Int32) (cp : Int32) (wf : Value) (hcp : ¬ (cp = (0 : Int32))) (hwf : wf.isRef = true) (scp : Sta Z Z.heap "java/lang/String" "COMPACT_STRINGS" "Z" (.int cp)) (sfm : Sta Z Z.heap "jdk/internal/util/Preconditions" "SIOOBE_FORMATTER" "Ljava/util/function/BiFunction;" wf) (e : Exa Z h a "java/lang/String") (f : Fld Z h a "java/lang/String" "coder" "B" (.int 0)) (g : Fld Z h a "java/lang/String" "value" "[B" (.ref b)) (v : Arv Z h b kb .byte (4 : Int32) [(.int x0), (.int x1), (.int x2), (.int x3)] (.int 0)) :
    Con l M_30 jdk_42_method_92_code 5 (some (.object "java/lang/String")) (rm4 4 2 6 64) Z n0 #[(.ref a), (.int 2), (.int 4)] h (fun v h' => ∃ r : Addr, ∃ d : Addr, ∃ kd : ClassId, v = some (.ref r) ∧ Keep h h' [] ∧ n0 ≤ r ∧ h.size ≤ r ∧ n0 ≤ d ∧ h.size ≤ d ∧ r ≠ d ∧ Exa Z h' r "java/lang/String" ∧ Fld Z h' r "java/lang/String" "coder" "B" (.int 0) ∧ Fld Z h' r "java/lang/String" "value" "[B" (.ref d) ∧ Arv Z h' d kd .byte (2 : Int32) [(.int x2), (.int x3)] (.int 0)) := by
  refine Con.of_go (plainFor_of_name pn_0) (Ls := #[.val (.ref a), .val (.int 2), .val (.int 4), .unset, .unset]) ?_
  refine Go.aloadN (pc' := 1) d24_0 rfl rfl rfl ?_
  refine Go.callV (cells' := 0) (slots' := 0) (pc' := 4) [] [] e (ww hw 50 rfl) (ww hw 51 rfl) (nfS (ww hw 53 rfl)) (ww hw 53 rfl) (ww hw 52 rfl) (ww hw 7 rfl) (ww hw 54 rfl) (by decide) (c_strLen4 l Z a0 hw h a b kb x0 x1 x2 x3 cp hcp scp e f g v) pd_11 d24_1 rfl ?_
  rintro _ _ ⟨rfl, rfl⟩
  show Go _ _ _ _ _ _ _ _ _ _ _ _ 4 _ [(.int 4)]
  refine Go.istoreN (pc' := 5) (Ls' := #[.val (.ref a), .val (.int 2), .val (.int 4), .val (.int 4), .unset]) d24_4 rfl rfl ?_
  refine Go.iloadN (pc' := 6) d24_5 rfl rfl ?_
  refine Go.iloadN (pc' := 7) d24_6 rfl rfl ?_
  refine Go.iloadN (pc' := 8) d24_7 rfl rfl ?_
  refine Go.callS (cells' := 0) (slots' := 0) (pc' := 11) [(.int 2), (.int 4), (.int 4)] [] (ww hw 117 rfl) (ww hw 118 rfl) (ww hw 7 rfl) (ww hw 119 rfl) (by decide) (c_bounds l Z a0 hw h (2 : Int32) (4 : Int32) (4 : Int32) wf (by decide) (by decide) (by decide) hwf sfm) pd_16 d24_8 rfl ?_
  rintro _ _ ⟨rfl, rfl⟩
  show Go _ _ _ _ _ _ _ _ _ _ _ _ 11 _ []
  refine Go.iloadN (pc' := 12) d24_11 rfl rfl ?_
  refine Go.ifYes (pc' := 22) d24_12 (XT.i0_ne_t (by decide)) (by decide) (by decide) ?_
  refine Go.iloadN (pc' := 23) d24_22 rfl rfl ?_
  refine Go.iloadN (pc' := 24) d24_23 rfl rfl ?_
  refine Go.isub (pc' := 25) d24_24 rfl ?_
  show Go _ _ _ _ _ _ _ _ _ _ _ _ 25 _ [(.int 2)]
  refine Go.istore (pc' := 27) (Ls' := #[.val (.ref a), .val (.int 2), .val (.int 4), .val (.int 4), .val (.int 2)]) d24_25 rfl rfl ?_
  refine Go.aloadN (pc' := 28) d24_27 rfl rfl rfl ?_
  refine Go.callV (cells' := 0) (slots' := 0) (pc' := 31) [] [] e (ww hw 44 rfl) (ww hw 45 rfl) (nfS (ww hw 47 rfl)) (ww hw 47 rfl) (ww hw 46 rfl) (ww hw 7 rfl) (ww hw 48 rfl) (by decide) (c_isLatin1 l Z a0 hw h a cp hcp scp f) pd_3 d24_28 rfl ?_
  rintro _ _ ⟨rfl, rfl⟩
  show Go _ _ _ _ _ _ _ _ _ _ _ _ 31 _ [(.int 1)]
  refine Go.ifNo (pc' := 34) d24_31 (XT.i0_eq_f (by decide)) rfl ?_
  refine Go.aloadN (pc' := 35) d24_34 rfl rfl rfl ?_
  refine Go.getfield (pc' := 38) (host := "") (Or.inl (ww hw 28 rfl)) Via.refl g d24_35 rfl ?_
  refine Go.iloadN (pc' := 39) d24_38 rfl rfl ?_
  refine Go.iload (pc' := 41) d24_39 rfl rfl ?_
  refine Go.callS (cells' := 2) (slots' := 6) (pc' := 44) [(.ref b), (.int 2), (.int 2)] [] (ww hw 125 rfl) (ww hw 126 rfl) (ww hw 62 rfl) (ww hw 127 rfl) (by decide) (c_newStr4_2_4 l Z a0 hw h b kb x0 x1 x2 x3 v) pd_17 d24_41 rfl ?_
  rintro _ h4 ⟨r_4, d_4, kd_4, rfl, K4, ge_r_4, sz_r_4, ge_d_4, sz_d_4, ne4_0, F4_0, F4_1, F4_2, F4_3⟩
  show Go _ _ _ _ _ _ _ _ _ _ _ _ 44 _ [(.ref r_4)]
  refine Go.goto (pc' := 57) d24_44 (by decide) (by decide) ?_
  exact Go.retR rfl rfl rfl rfl d24_57 ⟨r_4, d_4, kd_4, rfl, K4, ge_r_4, sz_r_4, ge_d_4, sz_d_4, ne4_0, F4_0, F4_1, F4_2, F4_3⟩
theorem c_subI4_2_4 (hw : HW a0 Z) (h : Heap) (a : Addr) (b : Addr) (kb : ClassId) (x0 : Int32) (x1 : Int32) (x2 : Int32) (x3 : Int32) (cp : Int32) (wf : Value) (hcp : ¬ (cp = (0 : Int32))) (hwf : wf.isRef = true) (scp : Sta Z Z.heap "java/lang/String" "COMPACT_STRINGS" "Z" (.int cp)) (sfm : Sta Z Z.heap "jdk/internal/util/Preconditions" "SIOOBE_FORMATTER" "Ljava/util/function/BiFunction;" wf) (e : Exa Z h a "java/lang/String") (f : Fld Z h a "java/lang/String" "coder" "B" (.int 0)) (g : Fld Z h a "java/lang/String" "value" "[B" (.ref b)) (v : Arv Z h b kb .byte (4 : Int32) [(.int x0), (.int x1), (.int x2), (.int x3)] (.int 0)) :
    Con l M_31 jdk_42_method_91_code 2 (some (.object "java/lang/String")) (rm4 5 2 6 80) Z n0 #[(.ref a), (.int 2)] h (fun v h' => ∃ r : Addr, ∃ d : Addr, ∃ kd : ClassId, v = some (.ref r) ∧ Keep h h' [] ∧ n0 ≤ r ∧ h.size ≤ r ∧ n0 ≤ d ∧ h.size ≤ d ∧ r ≠ d ∧ Exa Z h' r "java/lang/String" ∧ Fld Z h' r "java/lang/String" "coder" "B" (.int 0) ∧ Fld Z h' r "java/lang/String" "value" "[B" (.ref d) ∧ Arv Z h' d kd .byte (2 : Int32) [(.int x2), (.int x3)] (.int 0)) := by
  refine Con.of_go (plainFor_of_name pn_0) (Ls := #[.val (.ref a), .val (.int 2)]) ?_
  refine Go.aloadN (pc' := 1) d32_0 rfl rfl rfl ?_
  refine Go.iloadN (pc' := 2) d32_1 rfl rfl ?_
  refine Go.aloadN (pc' := 3) d32_2 rfl rfl rfl ?_
  refine Go.callV (cells' := 0) (slots' := 0) (pc' := 6) [] [(.int 2), (.ref a)] e (ww hw 50 rfl) (ww hw 51 rfl) (nfS (ww hw 53 rfl)) (ww hw 53 rfl) (ww hw 52 rfl) (ww hw 7 rfl) (ww hw 54 rfl) (by decide) (c_strLen4 l Z a0 hw h a b kb x0 x1 x2 x3 cp hcp scp e f g v) pd_11 d32_3 rfl ?_
  rintro _ _ ⟨rfl, rfl⟩
  show Go _ _ _ _ _ _ _ _ _ _ _ _ 6 _ [(.int 4), (.int 2), (.ref a)]
  refine Go.callV (cells' := 2) (slots' := 6) (pc' := 9) [(.int 2), (.int 4)] [] e (ww hw 152 rfl) (ww hw 113 rfl) (nfS (ww hw 115 rfl)) (ww hw 115 rfl) (ww hw 114 rfl) (ww hw 7 rfl) (ww hw 116 rfl) (by decide) (c_sub4_2_4 l Z a0 hw h a b kb x0 x1 x2 x3 cp wf hcp hwf scp sfm e f g v) pd_18 d32_6 rfl ?_
  rintro _ h2 ⟨r_2, d_2, kd_2, rfl, K2, ge_r_2, sz_r_2, ge_d_2, sz_d_2, ne2_0, F2_0, F2_1, F2_2, F2_3⟩
  show Go _ _ _ _ _ _ _ _ _ _ _ _ 9 _ [(.ref r_2)]
  exact Go.retR rfl rfl rfl rfl d32_9 ⟨r_2, d_2, kd_2, rfl, K2, ge_r_2, sz_r_2, ge_d_2, sz_d_2, ne2_0, F2_0, F2_1, F2_2, F2_3⟩
theorem c_parse4_1 (hw : HW a0 Z) (h : Heap) (a : Addr) (b : Addr) (kb : ClassId) (x0 : Int32) (x1 : Int32) (x2 : Int32) (x3 : Int32) (cp : Int32) (wf : Value) (hcp : ¬ (cp = (0 : Int32))) (hwf : wf.isRef = true) (hcw : Jvm.Lit.compactW.before a0 Z = true) (hch26 : Jvm.Lit.constHeld Z "com/example/inquire/inquire/io/WikiLink" 26) (hch151 : Jvm.Lit.constHeld Z "java/lang/StringLatin1" 151) (hx0 : ¬ (x0 = (124 : Int32))) (hx1 : x1 = (124 : Int32)) (scp : Sta Z Z.heap "java/lang/String" "COMPACT_STRINGS" "Z" (.int cp)) (sfm : Sta Z Z.heap "jdk/internal/util/Preconditions" "SIOOBE_FORMATTER" "Ljava/util/function/BiFunction;" wf) (e : Exa Z h a "java/lang/String") (f : Fld Z h a "java/lang/String" "coder" "B" (.int 0)) (g : Fld Z h a "java/lang/String" "value" "[B" (.ref b)) (v : Arv Z h b kb .byte (4 : Int32) [(.int x0), (.int x1), (.int x2), (.int x3)] (.int 0)) :
    ConS l M_28 prog_40_method_2_code 4 (some (.object "com/example/inquire/inquire/io/WikiLink")) (rm4 6 5 13 93) Z n0 #[(.ref a)] h [] (fun v h' LL' => ∃ w : Addr, ∃ rt : Addr, ∃ dt : Addr, ∃ kt : ClassId, ∃ rl : Addr, ∃ dl : Addr, ∃ kl : ClassId, v = some (.ref w) ∧ Keep h h' [] ∧ Exa Z h' w "com/example/inquire/inquire/io/WikiLink" ∧ Fld Z h' w "com/example/inquire/inquire/io/WikiLink" "target" "Ljava/lang/String;" (.ref rt) ∧ Fld Z h' w "com/example/inquire/inquire/io/WikiLink" "label" "Ljava/lang/String;" (.ref rl) ∧ Exa Z h' rt "java/lang/String" ∧ Fld Z h' rt "java/lang/String" "coder" "B" (.int 0) ∧ Fld Z h' rt "java/lang/String" "value" "[B" (.ref dt) ∧ Arv Z h' dt kt .byte (1 : Int32) [(.int x0)] (.int 0) ∧ Exa Z h' rl "java/lang/String" ∧ Fld Z h' rl "java/lang/String" "coder" "B" (.int 0) ∧ Fld Z h' rl "java/lang/String" "value" "[B" (.ref dl) ∧ Arv Z h' dl kl .byte (2 : Int32) [(.int x2), (.int x3)] (.int 0)) := by
  refine ConS.of_go (plainFor_of_name pn_6) (Ls := #[.val (.ref a), .unset, .unset, .unset]) ?_
  refine GoS.aloadN (pc' := 1) d6_0 rfl rfl rfl ?_
  refine GoS.bipush (pc' := 3) (v := 124) d6_1 rfl rfl ?_
  refine GoS.callV (cells' := 0) (slots' := 0) (pc' := 6) [(.int 124)] [] e (ww hw 34 rfl) (ww hw 35 rfl) (nfS (ww hw 37 rfl)) (ww hw 37 rfl) (ww hw 36 rfl) (ww hw 7 rfl) (ww hw 38 rfl) (by decide) (Con.cold (c_idx4 l Z a0 hw h a b kb x0 x1 x2 x3 cp hcp scp e f g v)) pd_14 d6_3 rfl ?_
  rintro _ _ _ ⟨⟨rfl, rfl⟩, rfl⟩
  show GoS _ _ _ _ _ _ _ _ _ _ _ _ _ _ 6 _ [(.int (if x0 = (124 : Int32) then (0 : Int32) else (if x1 = (124 : Int32) then (1 : Int32) else (if x2 = (124 : Int32) then (2 : Int32) else (if x3 = (124 : Int32) then (3 : Int32) else (-1 : Int32))))))]
  rw [if_neg hx0, if_pos hx1]
  refine GoS.istoreN (pc' := 7) (Ls' := #[.val (.ref a), .val (.int 1), .unset, .unset]) d6_6 rfl rfl ?_
  refine GoS.iloadN (pc' := 8) d6_7 rfl rfl ?_
  refine GoS.ifYes (pc' := 15) d6_8 (XT.i0_ge_t (by decide)) (by decide) (by decide) ?_
  refine GoS.aloadN (pc' := 16) d6_15 rfl rfl rfl ?_
  refine GoS.iconst (pc' := 17) (v := 0) d6_16 rfl rfl ?_
  refine GoS.iloadN (pc' := 18) d6_17 rfl rfl ?_
  refine GoS.callV (cells' := 2) (slots' := 5) (pc' := 21) [(.int 0), (.int 1)] [] e (ww hw 112 rfl) (ww hw 113 rfl) (nfS (ww hw 115 rfl)) (ww hw 115 rfl) (ww hw 114 rfl) (ww hw 7 rfl) (ww hw 116 rfl) (by decide) (Con.cold (c_sub4_0_1 l Z a0 hw h a b kb x0 x1 x2 x3 cp wf hcp hwf scp sfm e f g v)) pd_18 d6_18 rfl ?_
  rintro _ h2 _ ⟨⟨r_2, d_2, kd_2, rfl, K2, ge_r_2, sz_r_2, ge_d_2, sz_d_2, ne2_0, F2_0, F2_1, F2_2, F2_3⟩, rfl⟩
  show GoS _ _ _ _ _ _ _ _ _ _ _ _ _ _ 21 _ [(.ref r_2)]
  refine GoS.astoreN (pc' := 22) (Ls' := #[.val (.ref a), .val (.int 1), .val (.ref r_2), .unset]) d6_21 rfl rfl rfl ?_
  refine GoS.iloadN (pc' := 23) d6_22 rfl rfl ?_
  refine GoS.ifYes (pc' := 31) d6_23 (XT.i0_ge_t (by decide)) (by decide) (by decide) ?_
  refine GoS.aloadN (pc' := 32) d6_31 rfl rfl rfl ?_
  refine GoS.iloadN (pc' := 33) d6_32 rfl rfl ?_
  refine GoS.iconst (pc' := 34) (v := 1) d6_33 rfl rfl ?_
  refine GoS.iadd (pc' := 35) d6_34 rfl ?_
  show GoS _ _ _ _ _ _ _ _ _ _ _ _ _ _ 35 _ [(.int 2), (.ref a)]
  refine GoS.callV (cells' := 4) (slots' := 11) (pc' := 38) [(.int 2)] [] (e.keep K2) (ww hw 147 rfl) (ww hw 148 rfl) (nfS (ww hw 150 rfl)) (ww hw 150 rfl) (ww hw 149 rfl) (ww hw 7 rfl) (ww hw 151 rfl) (by decide) (Con.cold (c_subI4_2_4 l Z a0 hw h2 a b kb x0 x1 x2 x3 cp wf hcp hwf scp sfm (e.keep K2) (f.keep K2 nin0) (g.keep K2 nin0) (v.keep K2 nin0))) pd_19 d6_35 rfl ?_
  rintro _ h4 _ ⟨⟨r_4, d_4, kd_4, rfl, K4, ge_r_4, sz_r_4, ge_d_4, sz_d_4, ne4_0, F4_0, F4_1, F4_2, F4_3⟩, rfl⟩
  have sz5 : h.size ≤ r_4 := Nat.le_trans K2.1 sz_r_4
  have sz6 : h.size ≤ d_4 := Nat.le_trans K2.1 sz_d_4
  have K7 : Keep h h4 [] := K2.trans K4 all0
  show GoS _ _ _ _ _ _ _ _ _ _ _ _ _ _ 38 _ [(.ref r_4)]
  refine GoS.astoreN (pc' := 39) (Ls' := #[.val (.ref a), .val (.int 1), .val (.ref r_2), .val (.ref r_4)]) d6_38 rfl rfl rfl ?_
  refine GoS.new (pc' := 42) (cells' := 5) (slots' := 13) (ww hw 75 rfl) (ww hw 76 rfl) (ww hw 32 rfl) d6_39 rfl rfl (by decide) (by decide) rfl ?_
  intro h8 b8 g8 E8 ge8 A8 D8
  have sz9 : h.size ≤ b8 := Nat.le_trans K7.1 (Nat.le_of_eq g8.symm)
  have K10 : Keep h h8 [] := K7.ext E8
  refine GoS.dup (pc' := 43) d6_42 rfl rfl ?_
  refine GoS.aloadN (pc' := 44) d6_43 rfl rfl rfl ?_
  refine GoS.aloadN (pc' := 45) d6_44 rfl rfl rfl ?_
  refine GoS.callC (cells' := 5) (slots' := 13) (pc' := 48) [(.ref r_2), (.ref r_4)] [(.ref b8)] (a := b8) rfl rfl (ww hw 77 rfl) (ww hw 78 rfl) (ww hw 32 rfl) (ww hw 79 rfl) (by decide) (Con.cold (c_wlInit l Z a0 hw h8 b8 r_2 r_4 ge8 A8 ((D8 (Or.inr (ww hw 82 rfl)) (ty := (.object "java/lang/String")) (by decide) : Fld Z h8 b8 "com/example/inquire/inquire/io/WikiLink" "target" "Ljava/lang/String;" .null)) ((D8 (Or.inr (ww hw 84 rfl)) (ty := (.object "java/lang/String")) (by decide) : Fld Z h8 b8 "com/example/inquire/inquire/io/WikiLink" "label" "Ljava/lang/String;" .null)))) pd_15 d6_45 rfl ?_
  rintro _ h11 _ ⟨⟨rfl, K11, F11_0, F11_1⟩, rfl⟩
  have K12 : Keep h h11 [] := K10.trans K11 (allS (Or.inr sz9) all0)
  show GoS _ _ _ _ _ _ _ _ _ _ _ _ _ _ 48 _ [(.ref b8)]
  have ne13 : r_2 ≠ b8 := (Nat.ne_of_lt (Nat.lt_of_lt_of_le (F2_2.keep K4 nin0).lt (Nat.le_of_eq g8.symm)))
  have f14 : Fld Z h11 r_2 "java/lang/String" "coder" "B" (.int 0) := (((F2_1.keep K4 nin0).ext E8).keep K11 (ninS ne13 nin0))
  have f15 : Fld Z h11 r_2 "java/lang/String" "value" "[B" (.ref d_2) := (((F2_2.keep K4 nin0).ext E8).keep K11 (ninS ne13 nin0))
  have ne16 : d_2 ≠ b8 := (Nat.ne_of_lt (Nat.lt_of_lt_of_le (F2_3.keep K4 nin0).lt (Nat.le_of_eq g8.symm)))
  have f17 : Arv Z h11 d_2 kd_2 .byte (1 : Int32) [(.int x0)] (.int 0) := (((F2_3.keep K4 nin0).ext E8).keep K11 (ninS ne16 nin0))
  have ne18 : r_4 ≠ b8 := (Nat.ne_of_lt (Nat.lt_of_lt_of_le F4_2.lt (Nat.le_of_eq g8.symm)))
  have f19 : Fld Z h11 r_4 "java/lang/String" "coder" "B" (.int 0) := ((F4_1.ext E8).keep K11 (ninS ne18 nin0))
  have f20 : Fld Z h11 r_4 "java/lang/String" "value" "[B" (.ref d_4) := ((F4_2.ext E8).keep K11 (ninS ne18 nin0))
  have ne21 : d_4 ≠ b8 := (Nat.ne_of_lt (Nat.lt_of_lt_of_le F4_3.lt (Nat.le_of_eq g8.symm)))
  have f22 : Arv Z h11 d_4 kd_4 .byte (2 : Int32) [(.int x2), (.int x3)] (.int 0) := ((F4_3.ext E8).keep K11 (ninS ne21 nin0))
  exact GoS.retR rfl rfl rfl rfl d6_48 ⟨b8, r_2, d_2, kd_2, r_4, d_4, kd_4, rfl, K12, (A8.keep K11), F11_0, F11_1, (((F2_0.keep K4).ext E8).keep K11), f14, f15, f17, ((F4_0.ext E8).keep K11), f19, f20, f22⟩
theorem c_min4_2 (hw : HW a0 Z) (h : Heap) :
    Con l M_16 jdk_29_method_69_code 2 (some .int) (rm4 0 0 0 0) Z n0 #[(.int 4), (.int 2)] h (fun v h' => v = some (.int 2) ∧ h = h') := by
  refine Con.of_go (Jvm.Free.JP.mathPlain rfl (by decide +kernel)) (Ls := #[.val (.int 4), .val (.int 2)]) ?_
  refine Go.iloadN (pc' := 1) d15_0 rfl rfl ?_
  refine Go.iloadN (pc' := 2) d15_1 rfl rfl ?_
  refine Go.icmpYes (pc' := 9) d15_2 (XT.ii_gt_t (by decide)) (by decide) (by decide) ?_
  refine Go.iloadN (pc' := 10) d15_9 rfl rfl ?_
  exact Go.retI rfl d15_10 ⟨rfl, rfl⟩
theorem c_corB4_0_2 (hw : HW a0 Z) (h : Heap) (b : Addr) (kb : ClassId) (x0 : Int32) (x1 : Int32) (x2 : Int32) (x3 : Int32) (v : Arv Z h b kb .byte (4 : Int32) [(.int x0), (.int x1), (.int x2), (.int x3)] (.int 0)) :
    Con l M_32 jdk_65_method_133_code 5 (some (.array .byte)) (rm4 1 1 2 18) Z n0 #[(.ref b), (.int 0), (.int 2)] h (fun v h' => ∃ d : Addr, ∃ kd : ClassId, v = some (.ref d) ∧ Keep h h' [] ∧ n0 ≤ d ∧ h.size ≤ d ∧ Arv Z h' d kd .byte (2 : Int32) [(.int x0), (.int x1)] (.int 0)) := by
  refine Con.of_go (plainFor_of_name pn_5) (Ls := #[.val (.ref b), .val (.int 0), .val (.int 2), .unset, .unset]) ?_
  refine Go.iloadN (pc' := 1) d29_0 rfl rfl ?_
  refine Go.iloadN (pc' := 2) d29_1 rfl rfl ?_
  refine Go.callS (cells' := 0) (slots' := 0) (pc' := 5) [(.int 0), (.int 2)] [] (ww hw 136 rfl) (ww hw 137 rfl) (ww hw 131 rfl) (ww hw 138 rfl) (by decide) (c_chkLen l Z a0 hw h (0 : Int32) (2 : Int32) (by decide)) pd_2 d29_2 rfl ?_
  rintro _ _ ⟨rfl, rfl⟩
  show Go _ _ _ _ _ _ _ _ _ _ _ _ 5 _ []
  refine Go.iloadN (pc' := 6) d29_5 rfl rfl ?_
  refine Go.iloadN (pc' := 7) d29_6 rfl rfl ?_
  refine Go.isub (pc' := 8) d29_7 rfl ?_
  show Go _ _ _ _ _ _ _ _ _ _ _ _ 8 _ [(.int 2)]
  refine Go.istoreN (pc' := 9) (Ls' := #[.val (.ref b), .val (.int 0), .val (.int 2), .val (.int 2), .unset]) d29_8 rfl rfl ?_
  refine Go.iloadN (pc' := 10) d29_9 rfl rfl ?_
  refine Go.newarray (pc' := 12) (cells' := 1) (slots' := 2) (cap := 2) (ww hw 23 rfl) d29_10 (ad := "[B") (by decide) (by decide) (by decide) rfl rfl (by decide) (by decide) (by decide) rfl ?_
  intro h2 b2 g2 E2 ge2 kA2 A2 X2
  have K3 : Keep h h2 [] := (Keep.refl h []).ext E2
  have V2 : Arv Z h2 b2 kA2 .byte (2 : Int32) [(.int 0), (.int 0)] (.int 0) := Arv.pad A2 (pad_rep [] (.int 0) 2)
  refine Go.astore (pc' := 14) (Ls' := #[.val (.ref b), .val (.int 0), .val (.int 2), .val (.int 2), .val (.ref b2)]) d29_12 rfl rfl rfl ?_
  refine Go.aloadN (pc' := 15) d29_14 rfl rfl rfl ?_
  refine Go.iloadN (pc' := 16) d29_15 rfl rfl ?_
  refine Go.aload (pc' := 18) d29_16 rfl rfl rfl ?_
  refine Go.iconst (pc' := 19) (v := 0) d29_18 rfl rfl ?_
  refine Go.aloadN (pc' := 20) d29_19 rfl rfl rfl ?_
  refine Go.arraylength (pc' := 21) (v.ext E2) d29_20 rfl ?_
  refine Go.iloadN (pc' := 22) d29_21 rfl rfl ?_
  refine Go.isub (pc' := 23) d29_22 rfl ?_
  show Go _ _ _ _ _ _ _ _ _ _ _ _ 23 _ [(.int 4), (.int 0), (.ref b2), (.int 0), (.ref b)]
  refine Go.iloadN (pc' := 24) d29_23 rfl rfl ?_
  refine Go.callS (cells' := 1) (slots' := 2) (pc' := 27) [(.int 4), (.int 2)] [(.int 0), (.ref b2), (.int 0), (.ref b)] (ww hw 139 rfl) (ww hw 72 rfl) (ww hw 69 rfl) (ww hw 73 rfl) (by decide) (c_min4_2 l Z a0 hw h2) pd_10 d29_24 rfl ?_
  rintro _ _ ⟨rfl, rfl⟩
  show Go _ _ _ _ _ _ _ _ _ _ _ _ 27 _ [(.int 2), (.int 0), (.ref b2), (.int 0), (.ref b)]
  refine Go.arraycopy (pc' := 30) (us := [(.int x0), (.int x1)]) (vd' := [(.int x0), (.int x1)]) (ww hw 140 rfl) (ww hw 143 rfl) (ww hw 141 rfl) (ww hw 142 rfl) (v.ext E2) V2 (Or.inl ⟨rfl, rfl⟩) (by decide) (by decide) (by decide) (by decide) (by decide) rfl (nl rfl) rfl ge2 d29_27 rfl (nl rfl) (nl rfl) rfl ?_
  intro h5 K6 V7
  have K8 : Keep h h5 [] := K3.trans K6 (allS (Or.inr (Nat.le_of_eq g2.symm)) all0)
  refine Go.aload (pc' := 32) d29_30 rfl rfl rfl ?_
  exact Go.retR rfl rfl rfl rfl d29_32 ⟨b2, kA2, rfl, K8, ge2, (Nat.le_of_eq g2.symm), V7⟩
theorem c_cor4_0_2 (hw : HW a0 Z) (h : Heap) (b : Addr) (kb : ClassId) (x0 : Int32) (x1 : Int32) (x2 : Int32) (x3 : Int32) (v : Arv Z h b kb .byte (4 : Int32) [(.int x0), (.int x1), (.int x2), (.int x3)] (.int 0)) :
    Con l M_33 jdk_65_method_132_code 3 (some (.array .byte)) (rm4 2 1 2 34) Z n0 #[(.ref b), (.int 0), (.int 2)] h (fun v h' => ∃ d : Addr, ∃ kd : ClassId, v = some (.ref d) ∧ Keep h h' [] ∧ n0 ≤ d ∧ h.size ≤ d ∧ Arv Z h' d kd .byte (2 : Int32) [(.int x0), (.int x1)] (.int 0)) := by
  refine Con.of_go (plainFor_of_name pn_5) (Ls := #[.val (.ref b), .val (.int 0), .val (.int 2)]) ?_
  refine Go.iloadN (pc' := 1) d28_0 rfl rfl ?_
  refine Go.ifNo (pc' := 4) d28_1 (XT.i0_ne_f (by decide)) rfl ?_
  refine Go.iloadN (pc' := 5) d28_4 rfl rfl ?_
  refine Go.aloadN (pc' := 6) d28_5 rfl rfl rfl ?_
  refine Go.arraylength (pc' := 7) v d28_6 rfl ?_
  refine Go.icmpNo (pc' := 10) d28_7 (XT.ii_eq_f (by decide)) rfl ?_
  refine Go.aloadN (pc' := 11) d28_10 rfl rfl rfl ?_
  refine Go.iloadN (pc' := 12) d28_11 rfl rfl ?_
  refine Go.iloadN (pc' := 13) d28_12 rfl rfl ?_
  refine Go.callS (cells' := 1) (slots' := 2) (pc' := 16) [(.ref b), (.int 0), (.int 2)] [] (ww hw 133 rfl) (ww hw 134 rfl) (ww hw 131 rfl) (ww hw 135 rfl) (by decide) (c_corB4_0_2 l Z a0 hw h b kb x0 x1 x2 x3 v) pd_20 d28_13 rfl ?_
  rintro _ h1 ⟨d_1, kd_1, rfl, K1, ge_d_1, sz_d_1, F1_0⟩
  show Go _ _ _ _ _ _ _ _ _ _ _ _ 16 _ [(.ref d_1)]
  exact Go.retR rfl rfl rfl rfl d28_16 ⟨d_1, kd_1, rfl, K1, ge_d_1, sz_d_1, F1_0⟩
theorem c_newStr4_0_2 (hw : HW a0 Z) (h : Heap) (b : Addr) (kb : ClassId) (x0 : Int32) (x1 : Int32) (x2 : Int32) (x3 : Int32) (v : Arv Z h b kb .byte (4 : Int32) [(.int x0), (.int x1), (.int x2), (.int x3)] (.int 0)) :
    Con l M_29 jdk_43_method_47_code 3 (some (.object "java/lang/String")) (rm4 3 2 6 50) Z n0 #[(.ref b), (.int 0), (.int 2)] h (fun v h' => ∃ r : Addr, ∃ d : Addr, ∃ kd : ClassId, v = some (.ref r) ∧ Keep h h' [] ∧ n0 ≤ r ∧ h.size ≤ r ∧ n0 ≤ d ∧ h.size ≤ d ∧ r ≠ d ∧ Exa Z h' r "java/lang/String" ∧ Fld Z h' r "java/lang/String" "coder" "B" (.int 0) ∧ Fld Z h' r "java/lang/String" "value" "[B" (.ref d) ∧ Arv Z h' d kd .byte (2 : Int32) [(.int x0), (.int x1)] (.int 0)) := by
  refine Con.of_go (plainFor_of_name pn_2) (Ls := #[.val (.ref b), .val (.int 0), .val (.int 2)]) ?_
  refine Go.iloadN (pc' := 1) d27_0 rfl rfl ?_
  refine Go.ifYes (pc' := 7) d27_1 (XT.i0_ne_t (by decide)) (by decide) (by decide) ?_
  refine Go.new (pc' := 10) (cells' := 1) (slots' := 4) (ww hw 128 rfl) (ww hw 6 rfl) (ww hw 7 rfl) d27_7 rfl rfl (by decide) (by decide) rfl ?_
  intro h1 b1 g1 E1 ge1 A1 D1
  have K2 : Keep h h1 [] := (Keep.refl h []).ext E1
  refine Go.dup (pc' := 11) d27_10 rfl rfl ?_
  refine Go.aloadN (pc' := 12) d27_11 rfl rfl rfl ?_
  refine Go.iloadN (pc' := 13) d27_12 rfl rfl ?_
  refine Go.iloadN (pc' := 14) d27_13 rfl rfl ?_
  refine Go.iloadN (pc' := 15) d27_14 rfl rfl ?_
  refine Go.iadd (pc' := 16) d27_15 rfl ?_
  show Go _ _ _ _ _ _ _ _ _ _ _ _ 16 _ [(.int 2), (.int 0), (.ref b), (.ref b1), (.ref b1)]
  refine Go.callS (cells' := 2) (slots' := 6) (pc' := 19) [(.ref b), (.int 0), (.int 2)] [(.ref b1), (.ref b1)] (ww hw 129 rfl) (ww hw 130 rfl) (ww hw 131 rfl) (ww hw 132 rfl) (by decide) (c_cor4_0_2 l Z a0 hw h1 b kb x0 x1 x2 x3 (v.ext E1)) pd_20 d27_16 rfl ?_
  rintro _ h3 ⟨d_3, kd_3, rfl, K3, ge_d_3, sz_d_3, F3_0⟩
  have sz4 : h.size ≤ d_3 := Nat.le_trans K2.1 sz_d_3
  have K5 : Keep h h3 [] := K2.trans K3 all0
  show Go _ _ _ _ _ _ _ _ _ _ _ _ 19 _ [(.ref d_3), (.ref b1), (.ref b1)]
  refine Go.iconst (pc' := 20) (v := 0) d27_19 rfl rfl ?_
  have f6 : Fld Z h3 b1 "java/lang/String" "value" "[B" .null := ((D1 (Or.inr (ww hw 24 rfl)) (ty := (.array .byte)) (by decide) : Fld Z h1 b1 "java/lang/String" "value" "[B" .null).keep K3 nin0)
  have f7 : Fld Z h3 b1 "java/lang/String" "coder" "B" (.int 0) := ((D1 (Or.inr (ww hw 25 rfl)) (ty := .byte) (by decide) : Fld Z h1 b1 "java/lang/String" "coder" "B" (.int 0)).keep K3 nin0)
  refine Go.callC (cells' := 2) (slots' := 6) (pc' := 23) [(.ref d_3), (.int 0)] [(.ref b1)] (a := b1) rfl rfl (ww hw 144 rfl) (ww hw 145 rfl) (ww hw 7 rfl) (ww hw 146 rfl) (by decide) (c_strB l Z a0 hw h3 b1 d_3 ge1 (A1.keep K3) f6 f7) pd_21 d27_20 rfl ?_
  rintro _ h8 ⟨rfl, K8, F8_0, F8_1⟩
  have K9 : Keep h h8 [] := K5.trans K8 (allS (Or.inr (Nat.le_of_eq g1.symm)) all0)
  show Go _ _ _ _ _ _ _ _ _ _ _ _ 23 _ [(.ref b1)]
  have ne10 : b1 ≠ d_3 := (Nat.ne_of_lt (Nat.lt_of_lt_of_le (D1 (Or.inr (ww hw 25 rfl)) (ty := .byte) (by decide) : Fld Z h1 b1 "java/lang/String" "coder" "B" (.int 0)).lt sz_d_3))
  have f11 : Arv Z h8 d_3 kd_3 .byte (2 : Int32) [(.int x0), (.int x1)] (.int 0) := (F3_0.keep K8 (ninS (Ne.symm ne10) nin0))
  exact Go.retR rfl rfl rfl rfl d27_23 ⟨b1, d_3, kd_3, rfl, K9, ge1, (Nat.le_of_eq g1.symm), ge_d_3, sz4, ne10, ((A1.keep K3).keep K8), F8_1, F8_0, f11⟩
theorem c_sub4_0_2 (hw : HW a0 Z) (h : Heap) (a : Addr) (b : Addr) (kb : ClassId) (x0 : Int32) (x1 : Int32) (x2 : Int32) (x3 : Int32) (cp : Int32) (wf : Value) (hcp : ¬ (cp = (0 : Int32))) (hwf : wf.isRef = true) (scp : Sta Z Z.heap "java/lang/String" "COMPACT_STRINGS" "Z" (.int cp)) (sfm : Sta Z Z.heap "jdk/internal/util/Preconditions" "SIOOBE_FORMATTER" "Ljava/util/function/BiFunction;" wf) (e : Exa Z h a "java/lang/String") (f : Fld Z h a "java/lang/String" "coder" "B" (.int 0)) (g : Fld Z h a "java/lang/String" "value" "[B" (.ref b)) (v : Arv Z h b kb .byte (4 : Int32) [(.int x0), (.int x1), (.int x2), (.int x3)] (.int 0)) :
    Con l M_30 jdk_42_method_92_code 5 (some (.object "java/lang/String")) (rm4 4 2 6 64) Z n0 #[(.ref a), (.int 0), (.int 2)] h (fun v h' => ∃ r : Addr, ∃ d : Addr, ∃ kd : ClassId, v = some (.ref r) ∧ Keep h h' [] ∧ n0 ≤ r ∧ h.size ≤ r ∧ n0 ≤ d ∧ h.size ≤ d ∧ r ≠ d ∧ Exa Z h' r "java/lang/String" ∧ Fld Z h' r "java/lang/String" "coder" "B" (.int 0) ∧ Fld Z h' r "java/lang/String" "value" "[B" (.ref d) ∧ Arv Z h' d kd .byte (2 : Int32) [(.int x0), (.int x1)] (.int 0)) := by
  refine Con.of_go (plainFor_of_name pn_0) (Ls := #[.val (.ref a), .val (.int 0), .val (.int 2), .unset, .unset]) ?_
  refine Go.aloadN (pc' := 1) d24_0 rfl rfl rfl ?_
  refine Go.callV (cells' := 0) (slots' := 0) (pc' := 4) [] [] e (ww hw 50 rfl) (ww hw 51 rfl) (nfS (ww hw 53 rfl)) (ww hw 53 rfl) (ww hw 52 rfl) (ww hw 7 rfl) (ww hw 54 rfl) (by decide) (c_strLen4 l Z a0 hw h a b kb x0 x1 x2 x3 cp hcp scp e f g v) pd_11 d24_1 rfl ?_
  rintro _ _ ⟨rfl, rfl⟩
  show Go _ _ _ _ _ _ _ _ _ _ _ _ 4 _ [(.int 4)]
  refine Go.istoreN (pc' := 5) (Ls' := #[.val (.ref a), .val (.int 0), .val (.int 2), .val (.int 4), .unset]) d24_4 rfl rfl ?_
  refine Go.iloadN (pc' := 6) d24_5 rfl rfl ?_
  refine Go.iloadN (pc' := 7) d24_6 rfl rfl ?_
  refine Go.iloadN (pc' := 8) d24_7 rfl rfl ?_
  refine Go.callS (cells' := 0) (slots' := 0) (pc' := 11) [(.int 0), (.int 2), (.int 4)] [] (ww hw 117 rfl) (ww hw 118 rfl) (ww hw 7 rfl) (ww hw 119 rfl) (by decide) (c_bounds l Z a0 hw h (0 : Int32) (2 : Int32) (4 : Int32) wf (by decide) (by decide) (by decide) hwf sfm) pd_16 d24_8 rfl ?_
  rintro _ _ ⟨rfl, rfl⟩
  show Go _ _ _ _ _ _ _ _ _ _ _ _ 11 _ []
  refine Go.iloadN (pc' := 12) d24_11 rfl rfl ?_
  refine Go.ifNo (pc' := 15) d24_12 (XT.i0_ne_f (by decide)) rfl ?_
  refine Go.iloadN (pc' := 16) d24_15 rfl rfl ?_
  refine Go.iloadN (pc' := 17) d24_16 rfl rfl ?_
  refine Go.icmpYes (pc' := 22) d24_17 (XT.ii_ne_t (by decide)) (by decide) (by decide) ?_
  refine Go.iloadN (pc' := 23) d24_22 rfl rfl ?_
  refine Go.iloadN (pc' := 24) d24_23 rfl rfl ?_
  refine Go.isub (pc' := 25) d24_24 rfl ?_
  show Go _ _ _ _ _ _ _ _ _ _ _ _ 25 _ [(.int 2)]
  refine Go.istore (pc' := 27) (Ls' := #[.val (.ref a), .val (.int 0), .val (.int 2), .val (.int 4), .val (.int 2)]) d24_25 rfl rfl ?_
  refine Go.aloadN (pc' := 28) d24_27 rfl rfl rfl ?_
  refine Go.callV (cells' := 0) (slots' := 0) (pc' := 31) [] [] e (ww hw 44 rfl) (ww hw 45 rfl) (nfS (ww hw 47 rfl)) (ww hw 47 rfl) (ww hw 46 rfl) (ww hw 7 rfl) (ww hw 48 rfl) (by decide) (c_isLatin1 l Z a0 hw h a cp hcp scp f) pd_3 d24_28 rfl ?_
  rintro _ _ ⟨rfl, rfl⟩
  show Go _ _ _ _ _ _ _ _ _ _ _ _ 31 _ [(.int 1)]
  refine Go.ifNo (pc' := 34) d24_31 (XT.i0_eq_f (by decide)) rfl ?_
  refine Go.aloadN (pc' := 35) d24_34 rfl rfl rfl ?_
  refine Go.getfield (pc' := 38) (host := "") (Or.inl (ww hw 28 rfl)) Via.refl g d24_35 rfl ?_
  refine Go.iloadN (pc' := 39) d24_38 rfl rfl ?_
  refine Go.iload (pc' := 41) d24_39 rfl rfl ?_
  refine Go.callS (cells' := 2) (slots' := 6) (pc' := 44) [(.ref b), (.int 0), (.int 2)] [] (ww hw 125 rfl) (ww hw 126 rfl) (ww hw 62 rfl) (ww hw 127 rfl) (by decide) (c_newStr4_0_2 l Z a0 hw h b kb x0 x1 x2 x3 v) pd_17 d24_41 rfl ?_
  rintro _ h4 ⟨r_4, d_4, kd_4, rfl, K4, ge_r_4, sz_r_4, ge_d_4, sz_d_4, ne4_0, F4_0, F4_1, F4_2, F4_3⟩
  show Go _ _ _ _ _ _ _ _ _ _ _ _ 44 _ [(.ref r_4)]
  refine Go.goto (pc' := 57) d24_44 (by decide) (by decide) ?_
  exact Go.retR rfl rfl rfl rfl d24_57 ⟨r_4, d_4, kd_4, rfl, K4, ge_r_4, sz_r_4, ge_d_4, sz_d_4, ne4_0, F4_0, F4_1, F4_2, F4_3⟩
theorem c_corB4_3_4 (hw : HW a0 Z) (h : Heap) (b : Addr) (kb : ClassId) (x0 : Int32) (x1 : Int32) (x2 : Int32) (x3 : Int32) (v : Arv Z h b kb .byte (4 : Int32) [(.int x0), (.int x1), (.int x2), (.int x3)] (.int 0)) :
    Con l M_32 jdk_65_method_133_code 5 (some (.array .byte)) (rm4 1 1 1 18) Z n0 #[(.ref b), (.int 3), (.int 4)] h (fun v h' => ∃ d : Addr, ∃ kd : ClassId, v = some (.ref d) ∧ Keep h h' [] ∧ n0 ≤ d ∧ h.size ≤ d ∧ Arv Z h' d kd .byte (1 : Int32) [(.int x3)] (.int 0)) := by
  refine Con.of_go (plainFor_of_name pn_5) (Ls := #[.val (.ref b), .val (.int 3), .val (.int 4), .unset, .unset]) ?_
  refine Go.iloadN (pc' := 1) d29_0 rfl rfl ?_
  refine Go.iloadN (pc' := 2) d29_1 rfl rfl ?_
  refine Go.callS (cells' := 0) (slots' := 0) (pc' := 5) [(.int 3), (.int 4)] [] (ww hw 136 rfl) (ww hw 137 rfl) (ww hw 131 rfl) (ww hw 138 rfl) (by decide) (c_chkLen l Z a0 hw h (3 : Int32) (4 : Int32) (by decide)) pd_2 d29_2 rfl ?_
  rintro _ _ ⟨rfl, rfl⟩
  show Go _ _ _ _ _ _ _ _ _ _ _ _ 5 _ []
  refine Go.iloadN (pc' := 6) d29_5 rfl rfl ?_
  refine Go.iloadN (pc' := 7) d29_6 rfl rfl ?_
  refine Go.isub (pc' := 8) d29_7 rfl ?_
  show Go _ _ _ _ _ _ _ _ _ _ _ _ 8 _ [(.int 1)]
  refine Go.istoreN (pc' := 9) (Ls' := #[.val (.ref b), .val (.int 3), .val (.int 4), .val (.int 1), .unset]) d29_8 rfl rfl ?_
  refine Go.iloadN (pc' := 10) d29_9 rfl rfl ?_
  refine Go.newarray (pc' := 12) (cells' := 1) (slots' := 1) (cap := 1) (ww hw 23 rfl) d29_10 (ad := "[B") (by decide) (by decide) (by decide) rfl rfl (by decide) (by decide) (by decide) rfl ?_
  intro h2 b2 g2 E2 ge2 kA2 A2 X2
  have K3 : Keep h h2 [] := (Keep.refl h []).ext E2
  have V2 : Arv Z h2 b2 kA2 .byte (1 : Int32) [(.int 0)] (.int 0) := Arv.pad A2 (pad_rep [] (.int 0) 1)
  refine Go.astore (pc' := 14) (Ls' := #[.val (.ref b), .val (.int 3), .val (.int 4), .val (.int 1), .val (.ref b2)]) d29_12 rfl rfl rfl ?_
  refine Go.aloadN (pc' := 15) d29_14 rfl rfl rfl ?_
  refine Go.iloadN (pc' := 16) d29_15 rfl rfl ?_
  refine Go.aload (pc' := 18) d29_16 rfl rfl rfl ?_
  refine Go.iconst (pc' := 19) (v := 0) d29_18 rfl rfl ?_
  refine Go.aloadN (pc' := 20) d29_19 rfl rfl rfl ?_
  refine Go.arraylength (pc' := 21) (v.ext E2) d29_20 rfl ?_
  refine Go.iloadN (pc' := 22) d29_21 rfl rfl ?_
  refine Go.isub (pc' := 23) d29_22 rfl ?_
  show Go _ _ _ _ _ _ _ _ _ _ _ _ 23 _ [(.int 1), (.int 0), (.ref b2), (.int 3), (.ref b)]
  refine Go.iloadN (pc' := 24) d29_23 rfl rfl ?_
  refine Go.callS (cells' := 1) (slots' := 1) (pc' := 27) [(.int 1), (.int 1)] [(.int 0), (.ref b2), (.int 3), (.ref b)] (ww hw 139 rfl) (ww hw 72 rfl) (ww hw 69 rfl) (ww hw 73 rfl) (by decide) (c_min1_1 l Z a0 hw h2) pd_10 d29_24 rfl ?_
  rintro _ _ ⟨rfl, rfl⟩
  show Go _ _ _ _ _ _ _ _ _ _ _ _ 27 _ [(.int 1), (.int 0), (.ref b2), (.int 3), (.ref b)]
  refine Go.arraycopy (pc' := 30) (us := [(.int x3)]) (vd' := [(.int x3)]) (ww hw 140 rfl) (ww hw 143 rfl) (ww hw 141 rfl) (ww hw 142 rfl) (v.ext E2) V2 (Or.inl ⟨rfl, rfl⟩) (by decide) (by decide) (by decide) (by decide) (by decide) rfl (nl rfl) rfl ge2 d29_27 rfl (nl rfl) (nl rfl) rfl ?_
  intro h5 K6 V7
  have K8 : Keep h h5 [] := K3.trans K6 (allS (Or.inr (Nat.le_of_eq g2.symm)) all0)
  refine Go.aload (pc' := 32) d29_30 rfl rfl rfl ?_
  exact Go.retR rfl rfl rfl rfl d29_32 ⟨b2, kA2, rfl, K8, ge2, (Nat.le_of_eq g2.symm), V7⟩
theorem c_cor4_3_4 (hw : HW a0 Z) (h : Heap) (b : Addr) (kb : ClassId) (x0 : Int32) (x1 : Int32) (x2 : Int32) (x3 : Int32) (v : Arv Z h b kb .byte (4 : Int32) [(.int x0), (.int x1), (.int x2), (.int x3)] (.int 0)) :
    Con l M_33 jdk_65_method_132_code 3 (some (.array .byte)) (rm4 2 1 1 34) Z n0 #[(.ref b), (.int 3), (.int 4)] h (fun v h' => ∃ d : Addr, ∃ kd : ClassId, v = some (.ref d) ∧ Keep h h' [] ∧ n0 ≤ d ∧ h.size ≤ d ∧ Arv Z h' d kd .byte (1 : Int32) [(.int x3)] (.int 0)) := by
  refine Con.of_go (plainFor_of_name pn_5) (Ls := #[.val (.ref b), .val (.int 3), .val (.int 4)]) ?_
  refine Go.iloadN (pc' := 1) d28_0 rfl rfl ?_
  refine Go.ifYes (pc' := 10) d28_1 (XT.i0_ne_t (by decide)) (by decide) (by decide) ?_
  refine Go.aloadN (pc' := 11) d28_10 rfl rfl rfl ?_
  refine Go.iloadN (pc' := 12) d28_11 rfl rfl ?_
  refine Go.iloadN (pc' := 13) d28_12 rfl rfl ?_
  refine Go.callS (cells' := 1) (slots' := 1) (pc' := 16) [(.ref b), (.int 3), (.int 4)] [] (ww hw 133 rfl) (ww hw 134 rfl) (ww hw 131 rfl) (ww hw 135 rfl) (by decide) (c_corB4_3_4 l Z a0 hw h b kb x0 x1 x2 x3 v) pd_20 d28_13 rfl ?_
  rintro _ h1 ⟨d_1, kd_1, rfl, K1, ge_d_1, sz_d_1, F1_0⟩
  show Go _ _ _ _ _ _ _ _ _ _ _ _ 16 _ [(.ref d_1)]
  exact Go.retR rfl rfl rfl rfl d28_16 ⟨d_1, kd_1, rfl, K1, ge_d_1, sz_d_1, F1_0⟩
theorem c_newStr4_3_4 (hw : HW a0 Z) (h : Heap) (b : Addr) (kb : ClassId) (x0 : Int32) (x1 : Int32) (x2 : Int32) (x3 : Int32) (v : Arv Z h b kb .byte (4 : Int32) [(.int x0), (.int x1), (.int x2), (.int x3)] (.int 0)) :
    Con l M_29 jdk_43_method_47_code 3 (some (.object "java/lang/String")) (rm4 3 2 5 50) Z n0 #[(.ref b), (.int 3), (.int 1)] h (fun v h' => ∃ r : Addr, ∃ d : Addr, ∃ kd : ClassId, v = some (.ref r) ∧ Keep h h' [] ∧ n0 ≤ r ∧ h.size ≤ r ∧ n0 ≤ d ∧ h.size ≤ d ∧ r ≠ d ∧ Exa Z h' r "java/lang/String" ∧ Fld Z h' r "java/lang/String" "coder" "B" (.int 0) ∧ Fld Z h' r "java/lang/String" "value" "[B" (.ref d) ∧ Arv Z h' d kd .byte (1 : Int32) [(.int x3)] (.int 0)) := by
  refine Con.of_go (plainFor_of_name pn_2) (Ls := #[.val (.ref b), .val (.int 3), .val (.int 1)]) ?_
  refine Go.iloadN (pc' := 1) d27_0 rfl rfl ?_
  refine Go.ifYes (pc' := 7) d27_1 (XT.i0_ne_t (by decide)) (by decide) (by decide) ?_
  refine Go.new (pc' := 10) (cells' := 1) (slots' := 4) (ww hw 128 rfl) (ww hw 6 rfl) (ww hw 7 rfl) d27_7 rfl rfl (by decide) (by decide) rfl ?_
  intro h1 b1 g1 E1 ge1 A1 D1
  have K2 : Keep h h1 [] := (Keep.refl h []).ext E1
  refine Go.dup (pc' := 11) d27_10 rfl rfl ?_
  refine Go.aloadN (pc' := 12) d27_11 rfl rfl rfl ?_
  refine Go.iloadN (pc' := 13) d27_12 rfl rfl ?_
  refine Go.iloadN (pc' := 14) d27_13 rfl rfl ?_
  refine Go.iloadN (pc' := 15) d27_14 rfl rfl ?_
  refine Go.iadd (pc' := 16) d27_15 rfl ?_
  show Go _ _ _ _ _ _ _ _ _ _ _ _ 16 _ [(.int 4), (.int 3), (.ref b), (.ref b1), (.ref b1)]
  refine Go.callS (cells' := 2) (slots' := 5) (pc' := 19) [(.ref b), (.int 3), (.int 4)] [(.ref b1), (.ref b1)] (ww hw 129 rfl) (ww hw 130 rfl) (ww hw 131 rfl) (ww hw 132 rfl) (by decide) (c_cor4_3_4 l Z a0 hw h1 b kb x0 x1 x2 x3 (v.ext E1)) pd_20 d27_16 rfl ?_
  rintro _ h3 ⟨d_3, kd_3, rfl, K3, ge_d_3, sz_d_3, F3_0⟩
  have sz4 : h.size ≤ d_3 := Nat.le_trans K2.1 sz_d_3
  have K5 : Keep h h3 [] := K2.trans K3 all0
  show Go _ _ _ _ _ _ _ _ _ _ _ _ 19 _ [(.ref d_3), (.ref b1), (.ref b1)]
  refine Go.iconst (pc' := 20) (v := 0) d27_19 rfl rfl ?_
  have f6 : Fld Z h3 b1 "java/lang/String" "value" "[B" .null := ((D1 (Or.inr (ww hw 24 rfl)) (ty := (.array .byte)) (by decide) : Fld Z h1 b1 "java/lang/String" "value" "[B" .null).keep K3 nin0)
  have f7 : Fld Z h3 b1 "java/lang/String" "coder" "B" (.int 0) := ((D1 (Or.inr (ww hw 25 rfl)) (ty := .byte) (by decide) : Fld Z h1 b1 "java/lang/String" "coder" "B" (.int 0)).keep K3 nin0)
  refine Go.callC (cells' := 2) (slots' := 5) (pc' := 23) [(.ref d_3), (.int 0)] [(.ref b1)] (a := b1) rfl rfl (ww hw 144 rfl) (ww hw 145 rfl) (ww hw 7 rfl) (ww hw 146 rfl) (by decide) (c_strB l Z a0 hw h3 b1 d_3 ge1 (A1.keep K3) f6 f7) pd_21 d27_20 rfl ?_
  rintro _ h8 ⟨rfl, K8, F8_0, F8_1⟩
  have K9 : Keep h h8 [] := K5.trans K8 (allS (Or.inr (Nat.le_of_eq g1.symm)) all0)
  show Go _ _ _ _ _ _ _ _ _ _ _ _ 23 _ [(.ref b1)]
  have ne10 : b1 ≠ d_3 := (Nat.ne_of_lt (Nat.lt_of_lt_of_le (D1 (Or.inr (ww hw 25 rfl)) (ty := .byte) (by decide) : Fld Z h1 b1 "java/lang/String" "coder" "B" (.int 0)).lt sz_d_3))
  have f11 : Arv Z h8 d_3 kd_3 .byte (1 : Int32) [(.int x3)] (.int 0) := (F3_0.keep K8 (ninS (Ne.symm ne10) nin0))
  exact Go.retR rfl rfl rfl rfl d27_23 ⟨b1, d_3, kd_3, rfl, K9, ge1, (Nat.le_of_eq g1.symm), ge_d_3, sz4, ne10, ((A1.keep K3).keep K8), F8_1, F8_0, f11⟩
theorem c_sub4_3_4 (hw : HW a0 Z) (h : Heap) (a : Addr) (b : Addr) (kb : ClassId) (x0 : Int32) (x1 : Int32) (x2 : Int32) (x3 : Int32) (cp : Int32) (wf : Value) (hcp : ¬ (cp = (0 : Int32))) (hwf : wf.isRef = true) (scp : Sta Z Z.heap "java/lang/String" "COMPACT_STRINGS" "Z" (.int cp)) (sfm : Sta Z Z.heap "jdk/internal/util/Preconditions" "SIOOBE_FORMATTER" "Ljava/util/function/BiFunction;" wf) (e : Exa Z h a "java/lang/String") (f : Fld Z h a "java/lang/String" "coder" "B" (.int 0)) (g : Fld Z h a "java/lang/String" "value" "[B" (.ref b)) (v : Arv Z h b kb .byte (4 : Int32) [(.int x0), (.int x1), (.int x2), (.int x3)] (.int 0)) :
    Con l M_30 jdk_42_method_92_code 5 (some (.object "java/lang/String")) (rm4 4 2 5 64) Z n0 #[(.ref a), (.int 3), (.int 4)] h (fun v h' => ∃ r : Addr, ∃ d : Addr, ∃ kd : ClassId, v = some (.ref r) ∧ Keep h h' [] ∧ n0 ≤ r ∧ h.size ≤ r ∧ n0 ≤ d ∧ h.size ≤ d ∧ r ≠ d ∧ Exa Z h' r "java/lang/String" ∧ Fld Z h' r "java/lang/String" "coder" "B" (.int 0) ∧ Fld Z h' r "java/lang/String" "value" "[B" (.ref d) ∧ Arv Z h' d kd .byte (1 : Int32) [(.int x3)] (.int 0)) := by
  refine Con.of_go (plainFor_of_name pn_0) (Ls := #[.val (.ref a), .val (.int 3), .val (.int 4), .unset, .unset]) ?_
  refine Go.aloadN (pc' := 1) d24_0 rfl rfl rfl ?_
  refine Go.callV (cells' := 0) (slots' := 0) (pc' := 4) [] [] e (ww hw 50 rfl) (ww hw 51 rfl) (nfS (ww hw 53 rfl)) (ww hw 53 rfl) (ww hw 52 rfl) (ww hw 7 rfl) (ww hw 54 rfl) (by decide) (c_strLen4 l Z a0 hw h a b kb x0 x1 x2 x3 cp hcp scp e f g v) pd_11 d24_1 rfl ?_
  rintro _ _ ⟨rfl, rfl⟩
  show Go _ _ _ _ _ _ _ _ _ _ _ _ 4 _ [(.int 4)]
  refine Go.istoreN (pc' := 5) (Ls' := #[.val (.ref a), .val (.int 3), .val (.int 4), .val (.int 4), .unset]) d24_4 rfl rfl ?_
  refine Go.iloadN (pc' := 6) d24_5 rfl rfl ?_
  refine Go.iloadN (pc' := 7) d24_6 rfl rfl ?_
  refine Go.iloadN (pc' := 8) d24_7 rfl rfl ?_
  refine Go.callS (cells' := 0) (slots' := 0) (pc' := 11) [(.int 3), (.int 4), (.int 4)] [] (ww hw 117 rfl) (ww hw 118 rfl) (ww hw 7 rfl) (ww hw 119 rfl) (by decide) (c_bounds l Z a0 hw h (3 : Int32) (4 : Int32) (4 : Int32) wf (by decide) (by decide) (by decide) hwf sfm) pd_16 d24_8 rfl ?_
  rintro _ _ ⟨rfl, rfl⟩
  show Go _ _ _ _ _ _ _ _ _ _ _ _ 11 _ []
  refine Go.iloadN (pc' := 12) d24_11 rfl rfl ?_
  refine Go.ifYes (pc' := 22) d24_12 (XT.i0_ne_t (by decide)) (by decide) (by decide) ?_
  refine Go.iloadN (pc' := 23) d24_22 rfl rfl ?_
  refine Go.iloadN (pc' := 24) d24_23 rfl rfl ?_
  refine Go.isub (pc' := 25) d24_24 rfl ?_
  show Go _ _ _ _ _ _ _ _ _ _ _ _ 25 _ [(.int 1)]
  refine Go.istore (pc' := 27) (Ls' := #[.val (.ref a), .val (.int 3), .val (.int 4), .val (.int 4), .val (.int 1)]) d24_25 rfl rfl ?_
  refine Go.aloadN (pc' := 28) d24_27 rfl rfl rfl ?_
  refine Go.callV (cells' := 0) (slots' := 0) (pc' := 31) [] [] e (ww hw 44 rfl) (ww hw 45 rfl) (nfS (ww hw 47 rfl)) (ww hw 47 rfl) (ww hw 46 rfl) (ww hw 7 rfl) (ww hw 48 rfl) (by decide) (c_isLatin1 l Z a0 hw h a cp hcp scp f) pd_3 d24_28 rfl ?_
  rintro _ _ ⟨rfl, rfl⟩
  show Go _ _ _ _ _ _ _ _ _ _ _ _ 31 _ [(.int 1)]
  refine Go.ifNo (pc' := 34) d24_31 (XT.i0_eq_f (by decide)) rfl ?_
  refine Go.aloadN (pc' := 35) d24_34 rfl rfl rfl ?_
  refine Go.getfield (pc' := 38) (host := "") (Or.inl (ww hw 28 rfl)) Via.refl g d24_35 rfl ?_
  refine Go.iloadN (pc' := 39) d24_38 rfl rfl ?_
  refine Go.iload (pc' := 41) d24_39 rfl rfl ?_
  refine Go.callS (cells' := 2) (slots' := 5) (pc' := 44) [(.ref b), (.int 3), (.int 1)] [] (ww hw 125 rfl) (ww hw 126 rfl) (ww hw 62 rfl) (ww hw 127 rfl) (by decide) (c_newStr4_3_4 l Z a0 hw h b kb x0 x1 x2 x3 v) pd_17 d24_41 rfl ?_
  rintro _ h4 ⟨r_4, d_4, kd_4, rfl, K4, ge_r_4, sz_r_4, ge_d_4, sz_d_4, ne4_0, F4_0, F4_1, F4_2, F4_3⟩
  show Go _ _ _ _ _ _ _ _ _ _ _ _ 44 _ [(.ref r_4)]
  refine Go.goto (pc' := 57) d24_44 (by decide) (by decide) ?_
  exact Go.retR rfl rfl rfl rfl d24_57 ⟨r_4, d_4, kd_4, rfl, K4, ge_r_4, sz_r_4, ge_d_4, sz_d_4, ne4_0, F4_0, F4_1, F4_2, F4_3⟩
theorem c_subI4_3_4 (hw : HW a0 Z) (h : Heap) (a : Addr) (b : Addr) (kb : ClassId) (x0 : Int32) (x1 : Int32) (x2 : Int32) (x3 : Int32) (cp : Int32) (wf : Value) (hcp : ¬ (cp = (0 : Int32))) (hwf : wf.isRef = true) (scp : Sta Z Z.heap "java/lang/String" "COMPACT_STRINGS" "Z" (.int cp)) (sfm : Sta Z Z.heap "jdk/internal/util/Preconditions" "SIOOBE_FORMATTER" "Ljava/util/function/BiFunction;" wf) (e : Exa Z h a "java/lang/String") (f : Fld Z h a "java/lang/String" "coder" "B" (.int 0)) (g : Fld Z h a "java/lang/String" "value" "[B" (.ref b)) (v : Arv Z h b kb .byte (4 : Int32) [(.int x0), (.int x1), (.int x2), (.int x3)] (.int 0)) :
    Con l M_31 jdk_42_method_91_code 2 (some (.object "java/lang/String")) (rm4 5 2 5 80) Z n0 #[(.ref a), (.int 3)] h (fun v h' => ∃ r : Addr, ∃ d : Addr, ∃ kd : ClassId, v = some (.ref r) ∧ Keep h h' [] ∧ n0 ≤ r ∧ h.size ≤ r ∧ n0 ≤ d ∧ h.size ≤ d ∧ r ≠ d ∧ Exa Z h' r "java/lang/String" ∧ Fld Z h' r "java/lang/String" "coder" "B" (.int 0) ∧ Fld Z h' r "java/lang/String" "value" "[B" (.ref d) ∧ Arv Z h' d kd .byte (1 : Int32) [(.int x3)] (.int 0)) := by
  refine Con.of_go (plainFor_of_name pn_0) (Ls := #[.val (.ref a), .val (.int 3)]) ?_
  refine Go.aloadN (pc' := 1) d32_0 rfl rfl rfl ?_
  refine Go.iloadN (pc' := 2) d32_1 rfl rfl ?_
  refine Go.aloadN (pc' := 3) d32_2 rfl rfl rfl ?_
  refine Go.callV (cells' := 0) (slots' := 0) (pc' := 6) [] [(.int 3), (.ref a)] e (ww hw 50 rfl) (ww hw 51 rfl) (nfS (ww hw 53 rfl)) (ww hw 53 rfl) (ww hw 52 rfl) (ww hw 7 rfl) (ww hw 54 rfl) (by decide) (c_strLen4 l Z a0 hw h a b kb x0 x1 x2 x3 cp hcp scp e f g v) pd_11 d32_3 rfl ?_
  rintro _ _ ⟨rfl, rfl⟩
  show Go _ _ _ _ _ _ _ _ _ _ _ _ 6 _ [(.int 4), (.int 3), (.ref a)]
  refine Go.callV (cells' := 2) (slots' := 5) (pc' := 9) [(.int 3), (.int 4)] [] e (ww hw 152 rfl) (ww hw 113 rfl) (nfS (ww hw 115 rfl)) (ww hw 115 rfl) (ww hw 114 rfl) (ww hw 7 rfl) (ww hw 116 rfl) (by decide) (c_sub4_3_4 l Z a0 hw h a b kb x0 x1 x2 x3 cp wf hcp hwf scp sfm e f g v) pd_18 d32_6 rfl ?_
  rintro _ h2 ⟨r_2, d_2, kd_2, rfl, K2, ge_r_2, sz_r_2, ge_d_2, sz_d_2, ne2_0, F2_0, F2_1, F2_2, F2_3⟩
  show Go _ _ _ _ _ _ _ _ _ _ _ _ 9 _ [(.ref r_2)]
  exact Go.retR rfl rfl rfl rfl d32_9 ⟨r_2, d_2, kd_2, rfl, K2, ge_r_2, sz_r_2, ge_d_2, sz_d_2, ne2_0, F2_0, F2_1, F2_2, F2_3⟩
theorem c_parse4_2 (hw : HW a0 Z) (h : Heap) (a : Addr) (b : Addr) (kb : ClassId) (x0 : Int32) (x1 : Int32) (x2 : Int32) (x3 : Int32) (cp : Int32) (wf : Value) (hcp : ¬ (cp = (0 : Int32))) (hwf : wf.isRef = true) (hcw : Jvm.Lit.compactW.before a0 Z = true) (hch26 : Jvm.Lit.constHeld Z "com/example/inquire/inquire/io/WikiLink" 26) (hch151 : Jvm.Lit.constHeld Z "java/lang/StringLatin1" 151) (hx0 : ¬ (x0 = (124 : Int32))) (hx1 : ¬ (x1 = (124 : Int32))) (hx2 : x2 = (124 : Int32)) (scp : Sta Z Z.heap "java/lang/String" "COMPACT_STRINGS" "Z" (.int cp)) (sfm : Sta Z Z.heap "jdk/internal/util/Preconditions" "SIOOBE_FORMATTER" "Ljava/util/function/BiFunction;" wf) (e : Exa Z h a "java/lang/String") (f : Fld Z h a "java/lang/String" "coder" "B" (.int 0)) (g : Fld Z h a "java/lang/String" "value" "[B" (.ref b)) (v : Arv Z h b kb .byte (4 : Int32) [(.int x0), (.int x1), (.int x2), (.int x3)] (.int 0)) :
    ConS l M_28 prog_40_method_2_code 4 (some (.object "com/example/inquire/inquire/io/WikiLink")) (rm4 6 5 13 93) Z n0 #[(.ref a)] h [] (fun v h' LL' => ∃ w : Addr, ∃ rt : Addr, ∃ dt : Addr, ∃ kt : ClassId, ∃ rl : Addr, ∃ dl : Addr, ∃ kl : ClassId, v = some (.ref w) ∧ Keep h h' [] ∧ Exa Z h' w "com/example/inquire/inquire/io/WikiLink" ∧ Fld Z h' w "com/example/inquire/inquire/io/WikiLink" "target" "Ljava/lang/String;" (.ref rt) ∧ Fld Z h' w "com/example/inquire/inquire/io/WikiLink" "label" "Ljava/lang/String;" (.ref rl) ∧ Exa Z h' rt "java/lang/String" ∧ Fld Z h' rt "java/lang/String" "coder" "B" (.int 0) ∧ Fld Z h' rt "java/lang/String" "value" "[B" (.ref dt) ∧ Arv Z h' dt kt .byte (2 : Int32) [(.int x0), (.int x1)] (.int 0) ∧ Exa Z h' rl "java/lang/String" ∧ Fld Z h' rl "java/lang/String" "coder" "B" (.int 0) ∧ Fld Z h' rl "java/lang/String" "value" "[B" (.ref dl) ∧ Arv Z h' dl kl .byte (1 : Int32) [(.int x3)] (.int 0)) := by
  refine ConS.of_go (plainFor_of_name pn_6) (Ls := #[.val (.ref a), .unset, .unset, .unset]) ?_
  refine GoS.aloadN (pc' := 1) d6_0 rfl rfl rfl ?_
  refine GoS.bipush (pc' := 3) (v := 124) d6_1 rfl rfl ?_
  refine GoS.callV (cells' := 0) (slots' := 0) (pc' := 6) [(.int 124)] [] e (ww hw 34 rfl) (ww hw 35 rfl) (nfS (ww hw 37 rfl)) (ww hw 37 rfl) (ww hw 36 rfl) (ww hw 7 rfl) (ww hw 38 rfl) (by decide) (Con.cold (c_idx4 l Z a0 hw h a b kb x0 x1 x2 x3 cp hcp scp e f g v)) pd_14 d6_3 rfl ?_
  rintro _ _ _ ⟨⟨rfl, rfl⟩, rfl⟩
  show GoS _ _ _ _ _ _ _ _ _ _ _ _ _ _ 6 _ [(.int (if x0 = (124 : Int32) then (0 : Int32) else (if x1 = (124 : Int32) then (1 : Int32) else (if x2 = (124 : Int32) then (2 : Int32) else (if x3 = (124 : Int32) then (3 : Int32) else (-1 : Int32))))))]
  rw [if_neg hx0, if_neg hx1, if_pos hx2]
  refine GoS.istoreN (pc' := 7) (Ls' := #[.val (.ref a), .val (.int 2), .unset, .unset]) d6_6 rfl rfl ?_
  refine GoS.iloadN (pc' := 8) d6_7 rfl rfl ?_
  refine GoS.ifYes (pc' := 15) d6_8 (XT.i0_ge_t (by decide)) (by decide) (by decide) ?_
  refine GoS.aloadN (pc' := 16) d6_15 rfl rfl rfl ?_
  refine GoS.iconst (pc' := 17) (v := 0) d6_16 rfl rfl ?_
  refine GoS.iloadN (pc' := 18) d6_17 rfl rfl ?_
  refine GoS.callV (cells' := 2) (slots' := 6) (pc' := 21) [(.int 0), (.int 2)] [] e (ww hw 112 rfl) (ww hw 113 rfl) (nfS (ww hw 115 rfl)) (ww hw 115 rfl) (ww hw 114 rfl) (ww hw 7 rfl) (ww hw 116 rfl) (by decide) (Con.cold (c_sub4_0_2 l Z a0 hw h a b kb x0 x1 x2 x3 cp wf hcp hwf scp sfm e f g v)) pd_18 d6_18 rfl ?_
  rintro _ h2 _ ⟨⟨r_2, d_2, kd_2, rfl, K2, ge_r_2, sz_r_2, ge_d_2, sz_d_2, ne2_0, F2_0, F2_1, F2_2, F2_3⟩, rfl⟩
  show GoS _ _ _ _ _ _ _ _ _ _ _ _ _ _ 21 _ [(.ref r_2)]
  refine GoS.astoreN (pc' := 22) (Ls' := #[.val (.ref a), .val (.int 2), .val (.ref r_2), .unset]) d6_21 rfl rfl rfl ?_
  refine GoS.iloadN (pc' := 23) d6_22 rfl rfl ?_
  refine GoS.ifYes (pc' := 31) d6_23 (XT.i0_ge_t (by decide)) (by decide) (by decide) ?_
  refine GoS.aloadN (pc' := 32) d6_31 rfl rfl rfl ?_
  refine GoS.iloadN (pc' := 33) d6_32 rfl rfl ?_
  refine GoS.iconst (pc' := 34) (v := 1) d6_33 rfl rfl ?_
  refine GoS.iadd (pc' := 35) d6_34 rfl ?_
  show GoS _ _ _ _ _ _ _ _ _ _ _ _ _ _ 35 _ [(.int 3), (.ref a)]
  refine GoS.callV (cells' := 4) (slots' := 11) (pc' := 38) [(.int 3)] [] (e.keep K2) (ww hw 147 rfl) (ww hw 148 rfl) (nfS (ww hw 150 rfl)) (ww hw 150 rfl) (ww hw 149 rfl) (ww hw 7 rfl) (ww hw 151 rfl) (by decide) (Con.cold (c_subI4_3_4 l Z a0 hw h2 a b kb x0 x1 x2 x3 cp wf hcp hwf scp sfm (e.keep K2) (f.keep K2 nin0) (g.keep K2 nin0) (v.keep K2 nin0))) pd_19 d6_35 rfl ?_
  rintro _ h4 _ ⟨⟨r_4, d_4, kd_4, rfl, K4, ge_r_4, sz_r_4, ge_d_4, sz_d_4, ne4_0, F4_0, F4_1, F4_2, F4_3⟩, rfl⟩
  have sz5 : h.size ≤ r_4 := Nat.le_trans K2.1 sz_r_4
  have sz6 : h.size ≤ d_4 := Nat.le_trans K2.1 sz_d_4
  have K7 : Keep h h4 [] := K2.trans K4 all0
  show GoS _ _ _ _ _ _ _ _ _ _ _ _ _ _ 38 _ [(.ref r_4)]
  refine GoS.astoreN (pc' := 39) (Ls' := #[.val (.ref a), .val (.int 2), .val (.ref r_2), .val (.ref r_4)]) d6_38 rfl rfl rfl ?_
  refine GoS.new (pc' := 42) (cells' := 5) (slots' := 13) (ww hw 75 rfl) (ww hw 76 rfl) (ww hw 32 rfl) d6_39 rfl rfl (by decide) (by decide) rfl ?_
  intro h8 b8 g8 E8 ge8 A8 D8
  have sz9 : h.size ≤ b8 := Nat.le_trans K7.1 (Nat.le_of_eq g8.symm)
  have K10 : Keep h h8 [] := K7.ext E8
  refine GoS.dup (pc' := 43) d6_42 rfl rfl ?_
  refine GoS.aloadN (pc' := 44) d6_43 rfl rfl rfl ?_
  refine GoS.aloadN (pc' := 45) d6_44 rfl rfl rfl ?_
  refine GoS.callC (cells' := 5) (slots' := 13) (pc' := 48) [(.ref r_2), (.ref r_4)] [(.ref b8)] (a := b8) rfl rfl (ww hw 77 rfl) (ww hw 78 rfl) (ww hw 32 rfl) (ww hw 79 rfl) (by decide) (Con.cold (c_wlInit l Z a0 hw h8 b8 r_2 r_4 ge8 A8 ((D8 (Or.inr (ww hw 82 rfl)) (ty := (.object "java/lang/String")) (by decide) : Fld Z h8 b8 "com/example/inquire/inquire/io/WikiLink" "target" "Ljava/lang/String;" .null)) ((D8 (Or.inr (ww hw 84 rfl)) (ty := (.object "java/lang/String")) (by decide) : Fld Z h8 b8 "com/example/inquire/inquire/io/WikiLink" "label" "Ljava/lang/String;" .null)))) pd_15 d6_45 rfl ?_
  rintro _ h11 _ ⟨⟨rfl, K11, F11_0, F11_1⟩, rfl⟩
  have K12 : Keep h h11 [] := K10.trans K11 (allS (Or.inr sz9) all0)
  show GoS _ _ _ _ _ _ _ _ _ _ _ _ _ _ 48 _ [(.ref b8)]
  have ne13 : r_2 ≠ b8 := (Nat.ne_of_lt (Nat.lt_of_lt_of_le (F2_2.keep K4 nin0).lt (Nat.le_of_eq g8.symm)))
  have f14 : Fld Z h11 r_2 "java/lang/String" "coder" "B" (.int 0) := (((F2_1.keep K4 nin0).ext E8).keep K11 (ninS ne13 nin0))
  have f15 : Fld Z h11 r_2 "java/lang/String" "value" "[B" (.ref d_2) := (((F2_2.keep K4 nin0).ext E8).keep K11 (ninS ne13 nin0))
  have ne16 : d_2 ≠ b8 := (Nat.ne_of_lt (Nat.lt_of_lt_of_le (F2_3.keep K4 nin0).lt (Nat.le_of_eq g8.symm)))
  have f17 : Arv Z h11 d_2 kd_2 .byte (2 : Int32) [(.int x0), (.int x1)] (.int 0) := (((F2_3.keep K4 nin0).ext E8).keep K11 (ninS ne16 nin0))
  have ne18 : r_4 ≠ b8 := (Nat.ne_of_lt (Nat.lt_of_lt_of_le F4_2.lt (Nat.le_of_eq g8.symm)))
  have f19 : Fld Z h11 r_4 "java/lang/String" "coder" "B" (.int 0) := ((F4_1.ext E8).keep K11 (ninS ne18 nin0))
  have f20 : Fld Z h11 r_4 "java/lang/String" "value" "[B" (.ref d_4) := ((F4_2.ext E8).keep K11 (ninS ne18 nin0))
  have ne21 : d_4 ≠ b8 := (Nat.ne_of_lt (Nat.lt_of_lt_of_le F4_3.lt (Nat.le_of_eq g8.symm)))
  have f22 : Arv Z h11 d_4 kd_4 .byte (1 : Int32) [(.int x3)] (.int 0) := ((F4_3.ext E8).keep K11 (ninS ne21 nin0))
  exact GoS.retR rfl rfl rfl rfl d6_48 ⟨b8, r_2, d_2, kd_2, r_4, d_4, kd_4, rfl, K12, (A8.keep K11), F11_0, F11_1, (((F2_0.keep K4).ext E8).keep K11), f14, f15, f17, ((F4_0.ext E8).keep K11), f19, f20, f22⟩
theorem c_min4_3 (hw : HW a0 Z) (h : Heap) :
    Con l M_16 jdk_29_method_69_code 2 (some .int) (rm4 0 0 0 0) Z n0 #[(.int 4), (.int 3)] h (fun v h' => v = some (.int 3) ∧ h = h') := by
  refine Con.of_go (Jvm.Free.JP.mathPlain rfl (by decide +kernel)) (Ls := #[.val (.int 4), .val (.int 3)]) ?_
  refine Go.iloadN (pc' := 1) d15_0 rfl rfl ?_
  refine Go.iloadN (pc' := 2) d15_1 rfl rfl ?_
  refine Go.icmpYes (pc' := 9) d15_2 (XT.ii_gt_t (by decide)) (by decide) (by decide) ?_
  refine Go.iloadN (pc' := 10) d15_9 rfl rfl ?_
  exact Go.retI rfl d15_10 ⟨rfl, rfl⟩
theorem c_corB4_0_3 (hw : HW a0 Z) (h : Heap) (b : Addr) (kb : ClassId) (x0 : Int32) (x1 : Int32) (x2 : Int32) (x3 : Int32) (v : Arv Z h b kb .byte (4 : Int32) [(.int x0), (.int x1), (.int x2), (.int x3)] (.int 0)) :
    Con l M_32 jdk_65_method_133_code 5 (some (.array .byte)) (rm4 1 1 3 18) Z n0 #[(.ref b), (.int 0), (.int 3)] h (fun v h' => ∃ d : Addr, ∃ kd : ClassId, v = some (.ref d) ∧ Keep h h' [] ∧ n0 ≤ d ∧ h.size ≤ d ∧ Arv Z h' d kd .byte (3 : Int32) [(.int x0), (.int x1), (.int x2)] (.int 0)) := by
  refine Con.of_go (plainFor_of_name pn_5) (Ls := #[.val (.ref b), .val (.int 0), .val (.int 3), .unset, .unset]) ?_
  refine Go.iloadN (pc' := 1) d29_0 rfl rfl ?_
  refine Go.iloadN (pc' := 2) d29_1 rfl rfl ?_
  refine Go.callS (cells' := 0) (slots' := 0) (pc' := 5) [(.int 0), (.int 3)] [] (ww hw 136 rfl) (ww hw 137 rfl) (ww hw 131 rfl) (ww hw 138 rfl) (by decide) (c_chkLen l Z a0 hw h (0 : Int32) (3 : Int32) (by decide)) pd_2 d29_2 rfl ?_
  rintro _ _ ⟨rfl, rfl⟩
  show Go _ _ _ _ _ _ _ _ _ _ _ _ 5 _ []
  refine Go.iloadN (pc' := 6) d29_5 rfl rfl ?_
  refine Go.iloadN (pc' := 7) d29_6 rfl rfl ?_
  refine Go.isub (pc' := 8) d29_7 rfl ?_
  show Go _ _ _ _ _ _ _ _ _ _ _ _ 8 _ [(.int 3)]
  refine Go.istoreN (pc' := 9) (Ls' := #[.val (.ref b), .val (.int 0), .val (.int 3), .val (.int 3), .unset]) d29_8 rfl rfl ?_
  refine Go.iloadN (pc' := 10) d29_9 rfl rfl ?_
  refine Go.newarray (pc' := 12) (cells' := 1) (slots' := 3) (cap := 3) (ww hw 23 rfl) d29_10 (ad := "[B") (by decide) (by decide) (by decide) rfl rfl (by decide) (by decide) (by decide) rfl ?_
  intro h2 b2 g2 E2 ge2 kA2 A2 X2
  have K3 : Keep h h2 [] := (Keep.refl h []).ext E2
  have V2 : Arv Z h2 b2 kA2 .byte (3 : Int32) [(.int 0), (.int 0), (.int 0)] (.int 0) := Arv.pad A2 (pad_rep [] (.int 0) 3)
  refine Go.astore (pc' := 14) (Ls' := #[.val (.ref b), .val (.int 0), .val (.int 3), .val (.int 3), .val (.ref b2)]) d29_12 rfl rfl rfl ?_
  refine Go.aloadN (pc' := 15) d29_14 rfl rfl rfl ?_
  refine Go.iloadN (pc' := 16) d29_15 rfl rfl ?_
  refine Go.aload (pc' := 18) d29_16 rfl rfl rfl ?_
  refine Go.iconst (pc' := 19) (v := 0) d29_18 rfl rfl ?_
  refine Go.aloadN (pc' := 20) d29_19 rfl rfl rfl ?_
  refine Go.arraylength (pc' := 21) (v.ext E2) d29_20 rfl ?_
  refine Go.iloadN (pc' := 22) d29_21 rfl rfl ?_
  refine Go.isub (pc' := 23) d29_22 rfl ?_
  show Go _ _ _ _ _ _ _ _ _ _ _ _ 23 _ [(.int 4), (.int 0), (.ref b2), (.int 0), (.ref b)]
  refine Go.iloadN (pc' := 24) d29_23 rfl rfl ?_
  refine Go.callS (cells' := 1) (slots' := 3) (pc' := 27) [(.int 4), (.int 3)] [(.int 0), (.ref b2), (.int 0), (.ref b)] (ww hw 139 rfl) (ww hw 72 rfl) (ww hw 69 rfl) (ww hw 73 rfl) (by decide) (c_min4_3 l Z a0 hw h2) pd_10 d29_24 rfl ?_
  rintro _ _ ⟨rfl, rfl⟩
  show Go _ _ _ _ _ _ _ _ _ _ _ _ 27 _ [(.int 3), (.int 0), (.ref b2), (.int 0), (.ref b)]
  refine Go.arraycopy (pc' := 30) (us := [(.int x0), (.int x1), (.int x2)]) (vd' := [(.int x0), (.int x1), (.int x2)]) (ww hw 140 rfl) (ww hw 143 rfl) (ww hw 141 rfl) (ww hw 142 rfl) (v.ext E2) V2 (Or.inl ⟨rfl, rfl⟩) (by decide) (by decide) (by decide) (by decide) (by decide) rfl (nl rfl) rfl ge2 d29_27 rfl (nl rfl) (nl rfl) rfl ?_
  intro h5 K6 V7
  have K8 : Keep h h5 [] := K3.trans K6 (allS (Or.inr (Nat.le_of_eq g2.symm)) all0)
  refine Go.aload (pc' := 32) d29_30 rfl rfl rfl ?_
  exact Go.retR rfl rfl rfl rfl d29_32 ⟨b2, kA2, rfl, K8, ge2, (Nat.le_of_eq g2.symm), V7⟩
theorem c_cor4_0_3 (hw : HW a0 Z) (h : Heap) (b : Addr) (kb : ClassId) (x0 : Int32) (x1 : Int32) (x2 : Int32) (x3 : Int32) (v : Arv Z h b kb .byte (4 : Int32) [(.int x0), (.int x1), (.int x2), (.int x3)] (.int 0)) :
    Con l M_33 jdk_65_method_132_code 3 (some (.array .byte)) (rm4 2 1 3 34) Z n0 #[(.ref b), (.int 0), (.int 3)] h (fun v h' => ∃ d : Addr, ∃ kd : ClassId, v = some (.ref d) ∧ Keep h h' [] ∧ n0 ≤ d ∧ h.size ≤ d ∧ Arv Z h' d kd .byte (3 : Int32) [(.int x0), (.int x1), (.int x2)] (.int 0)) := by
  refine Con.of_go (plainFor_of_name pn_5) (Ls := #[.val (.ref b), .val (.int 0), .val (.int 3)]) ?_
  refine Go.iloadN (pc' := 1) d28_0 rfl rfl ?_
  refine Go.ifNo (pc' := 4) d28_1 (XT.i0_ne_f (by decide)) rfl ?_
  refine Go.iloadN (pc' := 5) d28_4 rfl rfl ?_
  refine Go.aloadN (pc' := 6) d28_5 rfl rfl rfl ?_
  refine Go.arraylength (pc' := 7) v d28_6 rfl ?_
  refine Go.icmpNo (pc' := 10) d28_7 (XT.ii_eq_f (by decide)) rfl ?_
  refine Go.aloadN (pc' := 11) d28_10 rfl rfl rfl ?_
  refine Go.iloadN (pc' := 12) d28_11 rfl rfl ?_
  refine Go.iloadN (pc' := 13) d28_12 rfl rfl ?_
  refine Go.callS (cells' := 1) (slots' := 3) (pc' := 16) [(.ref b), (.int 0), (.int 3)] [] (ww hw 133 rfl) (ww hw 134 rfl) (ww hw 131 rfl) (ww hw 135 rfl) (by decide) (c_corB4_0_3 l Z a0 hw h b kb x0 x1 x2 x3 v) pd_20 d28_13 rfl ?_
  rintro _ h1 ⟨d_1, kd_1, rfl, K1, ge_d_1, sz_d_1, F1_0⟩
  show Go _ _ _ _ _ _ _ _ _ _ _ _ 16 _ [(.ref d_1)]
  exact Go.retR rfl rfl rfl rfl d28_16 ⟨d_1, kd_1, rfl, K1, ge_d_1, sz_d_1, F1_0⟩
theorem c_newStr4_0_3 (hw : HW a0 Z) (h : Heap) (b : Addr) (kb : ClassId) (x0 : Int32) (x1 : Int32) (x2 : Int32) (x3 : Int32) (v : Arv Z h b kb .byte (4 : Int32) [(.int x0), (.int x1), (.int x2), (.int x3)] (.int 0)) :
    Con l M_29 jdk_43_method_47_code 3 (some (.object "java/lang/String")) (rm4 3 2 7 50) Z n0 #[(.ref b), (.int 0), (.int 3)] h (fun v h' => ∃ r : Addr, ∃ d : Addr, ∃ kd : ClassId, v = some (.ref r) ∧ Keep h h' [] ∧ n0 ≤ r ∧ h.size ≤ r ∧ n0 ≤ d ∧ h.size ≤ d ∧ r ≠ d ∧ Exa Z h' r "java/lang/String" ∧ Fld Z h' r "java/lang/String" "coder" "B" (.int 0) ∧ Fld Z h' r "java/lang/String" "value" "[B" (.ref d) ∧ Arv Z h' d kd .byte (3 : Int32) [(.int x0), (.int x1), (.int x2)] (.int 0)) := by
  refine Con.of_go (plainFor_of_name pn_2) (Ls := #[.val (.ref b), .val (.int 0), .val (.int 3)]) ?_
  refine Go.iloadN (pc' := 1) d27_0 rfl rfl ?_
  refine Go.ifYes (pc' := 7) d27_1 (XT.i0_ne_t (by decide)) (by decide) (by decide) ?_
  refine Go.new (pc' := 10) (cells' := 1) (slots' := 4) (ww hw 128 rfl) (ww hw 6 rfl) (ww hw 7 rfl) d27_7 rfl rfl (by decide) (by decide) rfl ?_
  intro h1 b1 g1 E1 ge1 A1 D1
  have K2 : Keep h h1 [] := (Keep.refl h []).ext E1
  refine Go.dup (pc' := 11) d27_10 rfl rfl ?_
  refine Go.aloadN (pc' := 12) d27_11 rfl rfl rfl ?_
  refine Go.iloadN (pc' := 13) d27_12 rfl rfl ?_
  refine Go.iloadN (pc' := 14) d27_13 rfl rfl ?_
  refine Go.iloadN (pc' := 15) d27_14 rfl rfl ?_
  refine Go.iadd (pc' := 16) d27_15 rfl ?_
  show Go _ _ _ _ _ _ _ _ _ _ _ _ 16 _ [(.int 3), (.int 0), (.ref b), (.ref b1), (.ref b1)]
  refine Go.callS (cells' := 2) (slots' := 7) (pc' := 19) [(.ref b), (.int 0), (.int 3)] [(.ref b1), (.ref b1)] (ww hw 129 rfl) (ww hw 130 rfl) (ww hw 131 rfl) (ww hw 132 rfl) (by decide) (c_cor4_0_3 l Z a0 hw h1 b kb x0 x1 x2 x3 (v.ext E1)) pd_20 d27_16 rfl ?_
  rintro _ h3 ⟨d_3, kd_3, rfl, K3, ge_d_3, sz_d_3, F3_0⟩
  have sz4 : h.size ≤ d_3 := Nat.le_trans K2.1 sz_d_3
  have K5 : Keep h h3 [] := K2.trans K3 all0
  show Go _ _ _ _ _ _ _ _ _ _ _ _ 19 _ [(.ref d_3), (.ref b1), (.ref b1)]
  refine Go.iconst (pc' := 20) (v := 0) d27_19 rfl rfl ?_
  have f6 : Fld Z h3 b1 "java/lang/String" "value" "[B" .null := ((D1 (Or.inr (ww hw 24 rfl)) (ty := (.array .byte)) (by decide) : Fld Z h1 b1 "java/lang/String" "value" "[B" .null).keep K3 nin0)
  have f7 : Fld Z h3 b1 "java/lang/String" "coder" "B" (.int 0) := ((D1 (Or.inr (ww hw 25 rfl)) (ty := .byte) (by decide) : Fld Z h1 b1 "java/lang/String" "coder" "B" (.int 0)).keep K3 nin0)
  refine Go.callC (cells' := 2) (slots' := 7) (pc' := 23) [(.ref d_3), (.int 0)] [(.ref b1)] (a := b1) rfl rfl (ww hw 144 rfl) (ww hw 145 rfl) (ww hw 7 rfl) (ww hw 146 rfl) (by decide) (c_strB l Z a0 hw h3 b1 d_3 ge1 (A1.keep K3) f6 f7) pd_21 d27_20 rfl ?_
  rintro _ h8 ⟨rfl, K8, F8_0, F8_1⟩
  have K9 : Keep h h8 [] := K5.trans K8 (allS (Or.inr (Nat.le_of_eq g1.symm)) all0)
  show Go _ _ _ _ _ _ _ _ _ _ _ _ 23 _ [(.ref b1)]
  have ne10 : b1 ≠ d_3 := (Nat.ne_of_lt (Nat.lt_of_lt_of_le (D1 (Or.inr (ww hw 25 rfl)) (ty := .byte) (by decide) : Fld Z h1 b1 "java/lang/String" "coder" "B" (.int 0)).lt sz_d_3))
  have f11 : Arv Z h8 d_3 kd_3 .byte (3 : Int32) [(.int x0), (.int x1), (.int x2)] (.int 0) := (F3_0.keep K8 (ninS (Ne.symm ne10) nin0))
  exact Go.retR rfl rfl rfl rfl d27_23 ⟨b1, d_3, kd_3, rfl, K9, ge1, (Nat.le_of_eq g1.symm), ge_d_3, sz4, ne10, ((A1.keep K3).keep K8), F8_1, F8_0, f11⟩
theorem c_sub4_0_3 (hw : HW a0 Z) (h : Heap) (a : Addr) (b : Addr) (kb : ClassId) (x0 : Int32) (x1 : Int32) (x2 : Int32) (x3 : Int32) (cp : Int32) (wf : Value) (hcp : ¬ (cp = (0 : Int32))) (hwf : wf.isRef = true) (scp : Sta Z Z.heap "java/lang/String" "COMPACT_STRINGS" "Z" (.int cp)) (sfm : Sta Z Z.heap "jdk/internal/util/Preconditions" "SIOOBE_FORMATTER" "Ljava/util/function/BiFunction;" wf) (e : Exa Z h a "java/lang/String") (f : Fld Z h a "java/lang/String" "coder" "B" (.int 0)) (g : Fld Z h a "java/lang/String" "value" "[B" (.ref b)) (v : Arv Z h b kb .byte (4 : Int32) [(.int x0), (.int x1), (.int x2), (.int x3)] (.int 0)) :
    Con l M_30 jdk_42_method_92_code 5 (some (.object "java/lang/String")) (rm4 4 2 7 64) Z n0 #[(.ref a), (.int 0), (.int 3)] h (fun v h' => ∃ r : Addr, ∃ d : Addr, ∃ kd : ClassId, v = some (.ref r) ∧ Keep h h' [] ∧ n0 ≤ r ∧ h.size ≤ r ∧ n0 ≤ d ∧ h.size ≤ d ∧ r ≠ d ∧ Exa Z h' r "java/lang/String" ∧ Fld Z h' r "java/lang/String" "coder" "B" (.int 0) ∧ Fld Z h' r "java/lang/String" "value" "[B" (.ref d) ∧ Arv Z h' d kd .byte (3 : Int32) [(.int x0), (.int x1), (.int x2)] (.int 0)) := by
  refine Con.of_go (plainFor_of_name pn_0) (Ls := #[.val (.ref a), .val (.int 0), .val (.int 3), .unset, .unset]) ?_
  refine Go.aloadN (pc' := 1) d24_0 rfl rfl rfl ?_
  refine Go.callV (cells' := 0) (slots' := 0) (pc' := 4) [] [] e (ww hw 50 rfl) (ww hw 51 rfl) (nfS (ww hw 53 rfl)) (ww hw 53 rfl) (ww hw 52 rfl) (ww hw 7 rfl) (ww hw 54 rfl) (by decide) (c_strLen4 l Z a0 hw h a b kb x0 x1 x2 x3 cp hcp scp e f g v) pd_11 d24_1 rfl ?_
  rintro _ _ ⟨rfl, rfl⟩
  show Go _ _ _ _ _ _ _ _ _ _ _ _ 4 _ [(.int 4)]
  refine Go.istoreN (pc' := 5) (Ls' := #[.val (.ref a), .val (.int 0), .val (.int 3), .val (.int 4), .unset]) d24_4 rfl rfl ?_
  refine Go.iloadN (pc' := 6) d24_5 rfl rfl ?_
  refine Go.iloadN (pc' := 7) d24_6 rfl rfl ?_
  refine Go.iloadN (pc' := 8) d24_7 rfl rfl ?_
  refine Go.callS (cells' := 0) (slots' := 0) (pc' := 11) [(.int 0), (.int 3), (.int 4)] [] (ww hw 117 rfl) (ww hw 118 rfl) (ww hw 7 rfl) (ww hw 119 rfl) (by decide) (c_bounds l Z a0 hw h (0 : Int32) (3 : Int32) (4 : Int32) wf (by decide) (by decide) (by decide) hwf sfm) pd_16 d24_8 rfl ?_
  rintro _ _ ⟨rfl, rfl⟩
  show Go _ _ _ _ _ _ _ _ _ _ _ _ 11 _ []
  refine Go.iloadN (pc' := 12) d24_11 rfl rfl ?_
  refine Go.ifNo (pc' := 15) d24_12 (XT.i0_ne_f (by decide)) rfl ?_
  refine Go.iloadN (pc' := 16) d24_15 rfl rfl ?_
  refine Go.iloadN (pc' := 17) d24_16 rfl rfl ?_
  refine Go.icmpYes (pc' := 22) d24_17 (XT.ii_ne_t (by decide)) (by decide) (by decide) ?_
  refine Go.iloadN (pc' := 23) d24_22 rfl rfl ?_
  refine Go.iloadN (pc' := 24) d24_23 rfl rfl ?_
  refine Go.isub (pc' := 25) d24_24 rfl ?_
  show Go _ _ _ _ _ _ _ _ _ _ _ _ 25 _ [(.int 3)]
  refine Go.istore (pc' := 27) (Ls' := #[.val (.ref a), .val (.int 0), .val (.int 3), .val (.int 4), .val (.int 3)]) d24_25 rfl rfl ?_
  refine Go.aloadN (pc' := 28) d24_27 rfl rfl rfl ?_
  refine Go.callV (cells' := 0) (slots' := 0) (pc' := 31) [] [] e (ww hw 44 rfl) (ww hw 45 rfl) (nfS (ww hw 47 rfl)) (ww hw 47 rfl) (ww hw 46 rfl) (ww hw 7 rfl) (ww hw 48 rfl) (by decide) (c_isLatin1 l Z a0 hw h a cp hcp scp f) pd_3 d24_28 rfl ?_
  rintro _ _ ⟨rfl, rfl⟩
  show Go _ _ _ _ _ _ _ _ _ _ _ _ 31 _ [(.int 1)]
  refine Go.ifNo (pc' := 34) d24_31 (XT.i0_eq_f (by decide)) rfl ?_
  refine Go.aloadN (pc' := 35) d24_34 rfl rfl rfl ?_
  refine Go.getfield (pc' := 38) (host := "") (Or.inl (ww hw 28 rfl)) Via.refl g d24_35 rfl ?_
  refine Go.iloadN (pc' := 39) d24_38 rfl rfl ?_
  refine Go.iload (pc' := 41) d24_39 rfl rfl ?_
  refine Go.callS (cells' := 2) (slots' := 7) (pc' := 44) [(.ref b), (.int 0), (.int 3)] [] (ww hw 125 rfl) (ww hw 126 rfl) (ww hw 62 rfl) (ww hw 127 rfl) (by decide) (c_newStr4_0_3 l Z a0 hw h b kb x0 x1 x2 x3 v) pd_17 d24_41 rfl ?_
  rintro _ h4 ⟨r_4, d_4, kd_4, rfl, K4, ge_r_4, sz_r_4, ge_d_4, sz_d_4, ne4_0, F4_0, F4_1, F4_2, F4_3⟩
  show Go _ _ _ _ _ _ _ _ _ _ _ _ 44 _ [(.ref r_4)]
  refine Go.goto (pc' := 57) d24_44 (by decide) (by decide) ?_
  exact Go.retR rfl rfl rfl rfl d24_57 ⟨r_4, d_4, kd_4, rfl, K4, ge_r_4, sz_r_4, ge_d_4, sz_d_4, ne4_0, F4_0, F4_1, F4_2, F4_3⟩
theorem c_newStr4_4_4 (hw : HW a0 Z) (h : Heap) (b : Addr) (hcw : Jvm.Lit.compactW.before a0 Z = true) (hch151 : Jvm.Lit.constHeld Z "java/lang/StringLatin1" 151) :
    ConS l M_29 jdk_43_method_47_code 3 (some (.object "java/lang/String")) (rm4 0 2 4 0) Z n0 #[(.ref b), (.int 4), (.int 0)] h [] (fun v h' LL' => ∃ ea : Addr, ∃ eb : Addr, ∃ ke : ClassId, v = some (.ref ea) ∧ Keep h h' [] ∧ Exa Z h' ea "java/lang/String" ∧ Fld Z h' ea "java/lang/String" "coder" "B" (.int 0) ∧ Fld Z h' ea "java/lang/String" "value" "[B" (.ref eb) ∧ Arv Z h' eb ke .byte (0 : Int32) [] (.int 0) ∧ Exa Z h' eb "[B" ∧ Hel Z h' ea eb ("") ∧ LL' = [("", ea, "java/lang/StringLatin1", 151)]) := by
  refine ConS.of_go (plainFor_of_name pn_2) (Ls := #[.val (.ref b), .val (.int 4), .val (.int 0)]) ?_
  refine GoS.iloadN (pc' := 1) d27_0 rfl rfl ?_
  refine GoS.ifNo (pc' := 4) d27_1 (XT.i0_ne_f (by decide)) rfl ?_
  refine GoS.ldcS (pc' := 6) (cells' := 2) (slots' := 4) (n := 0) (z := (0 : Int32)) (vs := []) (ww hw 153 rfl) (wsA hw) hch151 hcw (Keep.refl h []) HL.nil tx_0 (by decide) rfl d27_4 (nl rfl) (nl rfl) rfl rfl (nl rfl) (nl rfl) rfl ?_
  intro h1 sa1 sb1 kb1 E1 F1_0 F1_1 F1_2 F1_3 F1_4 F1_5
  have K2 : Keep h h1 [] := (Keep.refl h []).ext E1
  have H3 : Hel Z h1 sa1 sb1 "" := ⟨kb1, _, _, F1_0, F1_1, F1_2, F1_3, F1_4, tx_0, rfl⟩
  show GoS _ _ _ _ _ _ _ _ _ _ _ _ _ _ 6 _ [(.ref sa1)]
  exact GoS.retR rfl rfl rfl rfl d27_6 ⟨sa1, sb1, kb1, rfl, K2, F1_0, F1_1, F1_2, F1_3, F1_4, H3, rfl⟩
theorem c_sub4_4_4 (hw : HW a0 Z) (h : Heap) (a : Addr) (b : Addr) (kb : ClassId) (x0 : Int32) (x1 : Int32) (x2 : Int32) (x3 : Int32) (cp : Int32) (wf : Value) (hcp : ¬ (cp = (0 : Int32))) (hwf : wf.isRef = true) (hcw : Jvm.Lit.compactW.before a0 Z = true) (hch151 : Jvm.Lit.constHeld Z "java/lang/StringLatin1" 151) (scp : Sta Z Z.heap "java/lang/String" "COMPACT_STRINGS" "Z" (.int cp)) (sfm : Sta Z Z.heap "jdk/internal/util/Preconditions" "SIOOBE_FORMATTER" "Ljava/util/function/BiFunction;" wf) (e : Exa Z h a "java/lang/String") (f : Fld Z h a "java/lang/String" "coder" "B" (.int 0)) (g : Fld Z h a "java/lang/String" "value" "[B" (.ref b)) (v : Arv Z h b kb .byte (4 : Int32) [(.int x0), (.int x1), (.int x2), (.int x3)] (.int 0)) :
    ConS l M_30 jdk_42_method_92_code 5 (some (.object "java/lang/String")) (rm4 2 2 4 29) Z n0 #[(.ref a), (.int 4), (.int 4)] h [] (fun v h' LL' => ∃ ea : Addr, ∃ eb : Addr, ∃ ke : ClassId, v = some (.ref ea) ∧ Keep h h' [] ∧ Exa Z h' ea "java/lang/String" ∧ Fld Z h' ea "java/lang/String" "coder" "B" (.int 0) ∧ Fld Z h' ea "java/lang/String" "value" "[B" (.ref eb) ∧ Arv Z h' eb ke .byte (0 : Int32) [] (.int 0) ∧ Exa Z h' eb "[B" ∧ Hel Z h' ea eb ("") ∧ LL' = [("", ea, "java/lang/StringLatin1", 151)]) := by
  refine ConS.of_go (plainFor_of_name pn_0) (Ls := #[.val (.ref a), .val (.int 4), .val (.int 4), .unset, .unset]) ?_
  refine GoS.aloadN (pc' := 1) d24_0 rfl rfl rfl ?_
  refine GoS.callV (cells' := 0) (slots' := 0) (pc' := 4) [] [] e (ww hw 50 rfl) (ww hw 51 rfl) (nfS (ww hw 53 rfl)) (ww hw 53 rfl) (ww hw 52 rfl) (ww hw 7 rfl) (ww hw 54 rfl) (by decide) (Con.cold (c_strLen4 l Z a0 hw h a b kb x0 x1 x2 x3 cp hcp scp e f g v)) pd_11 d24_1 rfl ?_
  rintro _ _ _ ⟨⟨rfl, rfl⟩, rfl⟩
  show GoS _ _ _ _ _ _ _ _ _ _ _ _ _ _ 4 _ [(.int 4)]
  refine GoS.istoreN (pc' := 5) (Ls' := #[.val (.ref a), .val (.int 4), .val (.int 4), .val (.int 4), .unset]) d24_4 rfl rfl ?_
  refine GoS.iloadN (pc' := 6) d24_5 rfl rfl ?_
  refine GoS.iloadN (pc' := 7) d24_6 rfl rfl ?_
  refine GoS.iloadN (pc' := 8) d24_7 rfl rfl ?_
  refine GoS.callS (cells' := 0) (slots' := 0) (pc' := 11) [(.int 4), (.int 4), (.int 4)] [] (ww hw 117 rfl) (ww hw 118 rfl) (ww hw 7 rfl) (ww hw 119 rfl) (by decide) (Con.cold (c_bounds l Z a0 hw h (4 : Int32) (4 : Int32) (4 : Int32) wf (by decide) (by decide) (by decide) hwf sfm)) pd_16 d24_8 rfl ?_
  rintro _ _ _ ⟨⟨rfl, rfl⟩, rfl⟩
  show GoS _ _ _ _ _ _ _ _ _ _ _ _ _ _ 11 _ []
  refine GoS.iloadN (pc' := 12) d24_11 rfl rfl ?_
  refine GoS.ifYes (pc' := 22) d24_12 (XT.i0_ne_t (by decide)) (by decide) (by decide) ?_
  refine GoS.iloadN (pc' := 23) d24_22 rfl rfl ?_
  refine GoS.iloadN (pc' := 24) d24_23 rfl rfl ?_
  refine GoS.isub (pc' := 25) d24_24 rfl ?_
  show GoS _ _ _ _ _ _ _ _ _ _ _ _ _ _ 25 _ [(.int 0)]
  refine GoS.istore (pc' := 27) (Ls' := #[.val (.ref a), .val (.int 4), .val (.int 4), .val (.int 4), .val (.int 0)]) d24_25 rfl rfl ?_
  refine GoS.aloadN (pc' := 28) d24_27 rfl rfl rfl ?_
  refine GoS.callV (cells' := 0) (slots' := 0) (pc' := 31) [] [] e (ww hw 44 rfl) (ww hw 45 rfl) (nfS (ww hw 47 rfl)) (ww hw 47 rfl) (ww hw 46 rfl) (ww hw 7 rfl) (ww hw 48 rfl) (by decide) (Con.cold (c_isLatin1 l Z a0 hw h a cp hcp scp f)) pd_3 d24_28 rfl ?_
  rintro _ _ _ ⟨⟨rfl, rfl⟩, rfl⟩
  show GoS _ _ _ _ _ _ _ _ _ _ _ _ _ _ 31 _ [(.int 1)]
  refine GoS.ifNo (pc' := 34) d24_31 (XT.i0_eq_f (by decide)) rfl ?_
  refine GoS.aloadN (pc' := 35) d24_34 rfl rfl rfl ?_
  refine GoS.getfield (pc' := 38) (host := "") (Or.inl (ww hw 28 rfl)) Via.refl g d24_35 rfl ?_
  refine GoS.iloadN (pc' := 39) d24_38 rfl rfl ?_
  refine GoS.iload (pc' := 41) d24_39 rfl rfl ?_
  refine GoS.callS (cells' := 2) (slots' := 4) (pc' := 44) [(.ref b), (.int 4), (.int 0)] [] (ww hw 125 rfl) (ww hw 126 rfl) (ww hw 62 rfl) (ww hw 127 rfl) (by decide) (c_newStr4_4_4 l Z a0 hw h b hcw hch151) pd_17 d24_41 rfl ?_
  rintro _ h4 _ ⟨ea_4, eb_4, ke_4, rfl, K4, F4_0, F4_1, F4_2, F4_3, F4_4, F4_5, rfl⟩
  show GoS _ _ _ _ _ _ _ _ _ _ _ _ _ _ 44 _ [(.ref ea_4)]
  refine GoS.goto (pc' := 57) d24_44 (by decide) (by decide) ?_
  exact GoS.retR rfl rfl rfl rfl d24_57 ⟨ea_4, eb_4, ke_4, rfl, K4, F4_0, F4_1, F4_2, F4_3, F4_4, F4_5, rfl⟩
theorem c_subI4_4_4 (hw : HW a0 Z) (h : Heap) (a : Addr) (b : Addr) (kb : ClassId) (x0 : Int32) (x1 : Int32) (x2 : Int32) (x3 : Int32) (cp : Int32) (wf : Value) (hcp : ¬ (cp = (0 : Int32))) (hwf : wf.isRef = true) (hcw : Jvm.Lit.compactW.before a0 Z = true) (hch151 : Jvm.Lit.constHeld Z "java/lang/StringLatin1" 151) (scp : Sta Z Z.heap "java/lang/String" "COMPACT_STRINGS" "Z" (.int cp)) (sfm : Sta Z Z.heap "jdk/internal/util/Preconditions" "SIOOBE_FORMATTER" "Ljava/util/function/BiFunction;" wf) (e : Exa Z h a "java/lang/String") (f : Fld Z h a "java/lang/String" "coder" "B" (.int 0)) (g : Fld Z h a "java/lang/String" "value" "[B" (.ref b)) (v : Arv Z h b kb .byte (4 : Int32) [(.int x0), (.int x1), (.int x2), (.int x3)] (.int 0)) :
    ConS l M_31 jdk_42_method_91_code 2 (some (.object "java/lang/String")) (rm4 3 2 4 45) Z n0 #[(.ref a), (.int 4)] h [] (fun v h' LL' => ∃ ea : Addr, ∃ eb : Addr, ∃ ke : ClassId, v = some (.ref ea) ∧ Keep h h' [] ∧ Exa Z h' ea "java/lang/String" ∧ Fld Z h' ea "java/lang/String" "coder" "B" (.int 0) ∧ Fld Z h' ea "java/lang/String" "value" "[B" (.ref eb) ∧ Arv Z h' eb ke .byte (0 : Int32) [] (.int 0) ∧ Exa Z h' eb "[B" ∧ Hel Z h' ea eb ("") ∧ LL' = [("", ea, "java/lang/StringLatin1", 151)]) := by
  refine ConS.of_go (plainFor_of_name pn_0) (Ls := #[.val (.ref a), .val (.int 4)]) ?_
  refine GoS.aloadN (pc' := 1) d32_0 rfl rfl rfl ?_
  refine GoS.iloadN (pc' := 2) d32_1 rfl rfl ?_
  refine GoS.aloadN (pc' := 3) d32_2 rfl rfl rfl ?_
  refine GoS.callV (cells' := 0) (slots' := 0) (pc' := 6) [] [(.int 4), (.ref a)] e (ww hw 50 rfl) (ww hw 51 rfl) (nfS (ww hw 53 rfl)) (ww hw 53 rfl) (ww hw 52 rfl) (ww hw 7 rfl) (ww hw 54 rfl) (by decide) (Con.cold (c_strLen4 l Z a0 hw h a b kb x0 x1 x2 x3 cp hcp scp e f g v)) pd_11 d32_3 rfl ?_
  rintro _ _ _ ⟨⟨rfl, rfl⟩, rfl⟩
  show GoS _ _ _ _ _ _ _ _ _ _ _ _ _ _ 6 _ [(.int 4), (.int 4), (.ref a)]
  refine GoS.callV (cells' := 2) (slots' := 4) (pc' := 9) [(.int 4), (.int 4)] [] e (ww hw 152 rfl) (ww hw 113 rfl) (nfS (ww hw 115 rfl)) (ww hw 115 rfl) (ww hw 114 rfl) (ww hw 7 rfl) (ww hw 116 rfl) (by decide) (c_sub4_4_4 l Z a0 hw h a b kb x0 x1 x2 x3 cp wf hcp hwf hcw hch151 scp sfm e f g v) pd_18 d32_6 rfl ?_
  rintro _ h2 _ ⟨ea_2, eb_2, ke_2, rfl, K2, F2_0, F2_1, F2_2, F2_3, F2_4, F2_5, rfl⟩
  show GoS _ _ _ _ _ _ _ _ _ _ _ _ _ _ 9 _ [(.ref ea_2)]
  exact GoS.retR rfl rfl rfl rfl d32_9 ⟨ea_2, eb_2, ke_2, rfl, K2, F2_0, F2_1, F2_2, F2_3, F2_4, F2_5, rfl⟩
theorem c_parse4_3 (hw : HW a0 Z) (h : Heap) (a : Addr) (b : Addr) (kb : ClassId) (x0 : Int32) (x1 : Int32) (x2 : Int32) (x3 : Int32) (cp : Int32) (wf : Value) (hcp : ¬ (cp = (0 : Int32))) (hwf : wf.isRef = true) (hcw : Jvm.Lit.compactW.before a0 Z = true) (hch26 : Jvm.Lit.constHeld Z "com/example/inquire/inquire/io/WikiLink" 26) (hch151 : Jvm.Lit.constHeld Z "java/lang/StringLatin1" 151) (hx0 : ¬ (x0 = (124 : Int32))) (hx1 : ¬ (x1 = (124 : Int32))) (hx2 : ¬ (x2 = (124 : Int32))) (hx3 : x3 = (124 : Int32)) (scp : Sta Z Z.heap "java/lang/String" "COMPACT_STRINGS" "Z" (.int cp)) (sfm : Sta Z Z.heap "jdk/internal/util/Preconditions" "SIOOBE_FORMATTER" "Ljava/util/function/BiFunction;" wf) (e : Exa Z h a "java/lang/String") (f : Fld Z h a "java/lang/String" "coder" "B" (.int 0)) (g : Fld Z h a "java/lang/String" "value" "[B" (.ref b)) (v : Arv Z h b kb .byte (4 : Int32) [(.int x0), (.int x1), (.int x2), (.int x3)] (.int 0)) :
    ConS l M_28 prog_40_method_2_code 4 (some (.object "com/example/inquire/inquire/io/WikiLink")) (rm4 5 5 13 80) Z n0 #[(.ref a)] h [] (fun v h' LL' => ∃ w : Addr, ∃ rt : Addr, ∃ dt : Addr, ∃ kt : ClassId, ∃ rl : Addr, ∃ dl : Addr, ∃ kl : ClassId, v = some (.ref w) ∧ Keep h h' [] ∧ Exa Z h' w "com/example/inquire/inquire/io/WikiLink" ∧ Fld Z h' w "com/example/inquire/inquire/io/WikiLink" "target" "Ljava/lang/String;" (.ref rt) ∧ Fld Z h' w "com/example/inquire/inquire/io/WikiLink" "label" "Ljava/lang/String;" (.ref rl) ∧ Exa Z h' rt "java/lang/String" ∧ Fld Z h' rt "java/lang/String" "coder" "B" (.int 0) ∧ Fld Z h' rt "java/lang/String" "value" "[B" (.ref dt) ∧ Arv Z h' dt kt .byte (3 : Int32) [(.int x0), (.int x1), (.int x2)] (.int 0) ∧ Exa Z h' rl "java/lang/String" ∧ Fld Z h' rl "java/lang/String" "coder" "B" (.int 0) ∧ Fld Z h' rl "java/lang/String" "value" "[B" (.ref dl) ∧ Arv Z h' dl kl .byte (0 : Int32) [] (.int 0)) := by
  refine ConS.of_go (plainFor_of_name pn_6) (Ls := #[.val (.ref a), .unset, .unset, .unset]) ?_
  refine GoS.aloadN (pc' := 1) d6_0 rfl rfl rfl ?_
  refine GoS.bipush (pc' := 3) (v := 124) d6_1 rfl rfl ?_
  refine GoS.callV (cells' := 0) (slots' := 0) (pc' := 6) [(.int 124)] [] e (ww hw 34 rfl) (ww hw 35 rfl) (nfS (ww hw 37 rfl)) (ww hw 37 rfl) (ww hw 36 rfl) (ww hw 7 rfl) (ww hw 38 rfl) (by decide) (Con.cold (c_idx4 l Z a0 hw h a b kb x0 x1 x2 x3 cp hcp scp e f g v)) pd_14 d6_3 rfl ?_
  rintro _ _ _ ⟨⟨rfl, rfl⟩, rfl⟩
  show GoS _ _ _ _ _ _ _ _ _ _ _ _ _ _ 6 _ [(.int (if x0 = (124 : Int32) then (0 : Int32) else (if x1 = (124 : Int32) then (1 : Int32) else (if x2 = (124 : Int32) then (2 : Int32) else (if x3 = (124 : Int32) then (3 : Int32) else (-1 : Int32))))))]
  rw [if_neg hx0, if_neg hx1, if_neg hx2, if_pos hx3]
  refine GoS.istoreN (pc' := 7) (Ls' := #[.val (.ref a), .val (.int 3), .unset, .unset]) d6_6 rfl rfl ?_
  refine GoS.iloadN (pc' := 8) d6_7 rfl rfl ?_
  refine GoS.ifYes (pc' := 15) d6_8 (XT.i0_ge_t (by decide)) (by decide) (by decide) ?_
  refine GoS.aloadN (pc' := 16) d6_15 rfl rfl rfl ?_
  refine GoS.iconst (pc' := 17) (v := 0) d6_16 rfl rfl ?_
  refine GoS.iloadN (pc' := 18) d6_17 rfl rfl ?_
  refine GoS.callV (cells' := 2) (slots' := 7) (pc' := 21) [(.int 0), (.int 3)] [] e (ww hw 112 rfl) (ww hw 113 rfl) (nfS (ww hw 115 rfl)) (ww hw 115 rfl) (ww hw 114 rfl) (ww hw 7 rfl) (ww hw 116 rfl) (by decide) (Con.cold (c_sub4_0_3 l Z a0 hw h a b kb x0 x1 x2 x3 cp wf hcp hwf scp sfm e f g v)) pd_18 d6_18 rfl ?_
  rintro _ h2 _ ⟨⟨r_2, d_2, kd_2, rfl, K2, ge_r_2, sz_r_2, ge_d_2, sz_d_2, ne2_0, F2_0, F2_1, F2_2, F2_3⟩, rfl⟩
  show GoS _ _ _ _ _ _ _ _ _ _ _ _ _ _ 21 _ [(.ref r_2)]
  refine GoS.astoreN (pc' := 22) (Ls' := #[.val (.ref a), .val (.int 3), .val (.ref r_2), .unset]) d6_21 rfl rfl rfl ?_
  refine GoS.iloadN (pc' := 23) d6_22 rfl rfl ?_
  refine GoS.ifYes (pc' := 31) d6_23 (XT.i0_ge_t (by decide)) (by decide) (by decide) ?_
  refine GoS.aloadN (pc' := 32) d6_31 rfl rfl rfl ?_
  refine GoS.iloadN (pc' := 33) d6_32 rfl rfl ?_
  refine GoS.iconst (pc' := 34) (v := 1) d6_33 rfl rfl ?_
  refine GoS.iadd (pc' := 35) d6_34 rfl ?_
  show GoS _ _ _ _ _ _ _ _ _ _ _ _ _ _ 35 _ [(.int 4), (.ref a)]
  refine GoS.callV (cells' := 4) (slots' := 11) (pc' := 38) [(.int 4)] [] (e.keep K2) (ww hw 147 rfl) (ww hw 148 rfl) (nfS (ww hw 150 rfl)) (ww hw 150 rfl) (ww hw 149 rfl) (ww hw 7 rfl) (ww hw 151 rfl) (by decide) (c_subI4_4_4 l Z a0 hw h2 a b kb x0 x1 x2 x3 cp wf hcp hwf hcw hch151 scp sfm (e.keep K2) (f.keep K2 nin0) (g.keep K2 nin0) (v.keep K2 nin0)) pd_19 d6_35 rfl ?_
  rintro _ h4 _ ⟨ea_4, eb_4, ke_4, rfl, K4, F4_0, F4_1, F4_2, F4_3, F4_4, F4_5, rfl⟩
  have K5 : Keep h h4 [] := K2.trans K4 all0
  show GoS _ _ _ _ _ _ _ _ _ _ _ _ _ _ 38 _ [(.ref ea_4)]
  refine GoS.astoreN (pc' := 39) (Ls' := #[.val (.ref a), .val (.int 3), .val (.ref r_2), .val (.ref ea_4)]) d6_38 rfl rfl rfl ?_
  refine GoS.new (pc' := 42) (cells' := 5) (slots' := 13) (ww hw 75 rfl) (ww hw 76 rfl) (ww hw 32 rfl) d6_39 rfl rfl (by decide) (by decide) rfl ?_
  intro h6 b6 g6 E6 ge6 A6 D6
  have sz7 : h.size ≤ b6 := Nat.le_trans K5.1 (Nat.le_of_eq g6.symm)
  have K8 : Keep h h6 [] := K5.ext E6
  refine GoS.dup (pc' := 43) d6_42 rfl rfl ?_
  refine GoS.aloadN (pc' := 44) d6_43 rfl rfl rfl ?_
  refine GoS.aloadN (pc' := 45) d6_44 rfl rfl rfl ?_
  refine GoS.callC (cells' := 5) (slots' := 13) (pc' := 48) [(.ref r_2), (.ref ea_4)] [(.ref b6)] (a := b6) rfl rfl (ww hw 77 rfl) (ww hw 78 rfl) (ww hw 32 rfl) (ww hw 79 rfl) (by decide) (Con.cold (c_wlInit l Z a0 hw h6 b6 r_2 ea_4 ge6 A6 ((D6 (Or.inr (ww hw 82 rfl)) (ty := (.object "java/lang/String")) (by decide) : Fld Z h6 b6 "com/example/inquire/inquire/io/WikiLink" "target" "Ljava/lang/String;" .null)) ((D6 (Or.inr (ww hw 84 rfl)) (ty := (.object "java/lang/String")) (by decide) : Fld Z h6 b6 "com/example/inquire/inquire/io/WikiLink" "label" "Ljava/lang/String;" .null)))) pd_15 d6_45 rfl ?_
  rintro _ h9 _ ⟨⟨rfl, K9, F9_0, F9_1⟩, rfl⟩
  have K10 : Keep h h9 [] := K8.trans K9 (allS (Or.inr sz7) all0)
  show GoS _ _ _ _ _ _ _ _ _ _ _ _ _ _ 48 _ [(.ref b6)]
  have ne11 : r_2 ≠ b6 := (Nat.ne_of_lt (Nat.lt_of_lt_of_le (F2_2.keep K4 nin0).lt (Nat.le_of_eq g6.symm)))
  have f12 : Fld Z h9 r_2 "java/lang/String" "coder" "B" (.int 0) := (((F2_1.keep K4 nin0).ext E6).keep K9 (ninS ne11 nin0))
  have f13 : Fld Z h9 r_2 "java/lang/String" "value" "[B" (.ref d_2) := (((F2_2.keep K4 nin0).ext E6).keep K9 (ninS ne11 nin0))
  have ne14 : d_2 ≠ b6 := (Nat.ne_of_lt (Nat.lt_of_lt_of_le (F2_3.keep K4 nin0).lt (Nat.le_of_eq g6.symm)))
  have f15 : Arv Z h9 d_2 kd_2 .byte (3 : Int32) [(.int x0), (.int x1), (.int x2)] (.int 0) := (((F2_3.keep K4 nin0).ext E6).keep K9 (ninS ne14 nin0))
  have ne16 : ea_4 ≠ b6 := (Nat.ne_of_lt (Nat.lt_of_lt_of_le F4_5.lt0 (Nat.le_of_eq g6.symm)))
  have ne17 : eb_4 ≠ b6 := (Nat.ne_of_lt (Nat.lt_of_lt_of_le F4_5.lt1 (Nat.le_of_eq g6.symm)))
  exact GoS.retR rfl rfl rfl rfl d6_48 ⟨b6, r_2, d_2, kd_2, ea_4, eb_4, ke_4, rfl, K10, (A6.keep K9), F9_0, F9_1, (((F2_0.keep K4).ext E6).keep K9), f12, f13, f15, ((F4_0.ext E6).keep K9), ((F4_1.ext E6).keep K9 (ninS ne16 nin0)), ((F4_2.ext E6).keep K9 (ninS ne16 nin0)), ((F4_3.ext E6).keep K9 (ninS ne17 nin0))⟩
theorem c_atA (hw : HW a0 Z) (h : Heap) (i : Int32) (n : Int32) (p : Int32) (c : Int32) (t : Addr) (l2 : Addr) (hlt : ¬ (i < n)) :
    Con l M_34 method_4_code 6 (some .boolean) (rm4 0 0 0 0) Z n0 #[(.int i), (.int n), (.int p), (.int c), (.ref t), (.ref l2)] h (fun v h' => v = some (.int 1) ∧ h = h') := by
  refine Con.of_go (plainFor_of_name pn_3) (Ls := #[.val (.int i), .val (.int n), .val (.int p), .val (.int c), .val (.ref t), .val (.ref l2)]) ?_
  refine Go.iloadN (pc' := 1) d19_0 rfl rfl ?_
  refine Go.iloadN (pc' := 2) d19_1 rfl rfl ?_
  refine Go.icmpNo (pc' := 5) d19_2 (XT.ii_lt_f hlt) rfl ?_
  refine Go.iconst (pc' := 6) (v := 1) d19_5 rfl rfl ?_
  exact Go.retN (t := .boolean) rfl (by simp) d19_6 ⟨rfl, rfl⟩
theorem c_atC0 (hw : HW a0 Z) (h : Heap) (n : Int32) (c : Int32) (t : Addr) (l2 : Addr) (hlt : (0 : Int32) < n) (hc : c = (124 : Int32)) :
    Con l M_34 method_4_code 6 (some .boolean) (rm4 0 0 0 0) Z n0 #[(.int 0), (.int n), (.int 0), (.int c), (.ref t), (.ref l2)] h (fun v h' => v = some (.int 1) ∧ h = h') := by
  refine Con.of_go (plainFor_of_name pn_3) (Ls := #[.val (.int 0), .val (.int n), .val (.int 0), .val (.int c), .val (.ref t), .val (.ref l2)]) ?_
  refine Go.iloadN (pc' := 1) d19_0 rfl rfl ?_
  refine Go.iloadN (pc' := 2) d19_1 rfl rfl ?_
  refine Go.icmpYes (pc' := 7) d19_2 (XT.ii_lt_t hlt) (by decide) (by decide) ?_
  refine Go.iloadN (pc' := 8) d19_7 rfl rfl ?_
  refine Go.ifNo (pc' := 11) d19_8 (XT.i0_lt_f (by decide)) rfl ?_
  refine Go.iloadN (pc' := 12) d19_11 rfl rfl ?_
  refine Go.iloadN (pc' := 13) d19_12 rfl rfl ?_
  refine Go.icmpYes (pc' := 32) d19_13 (XT.ii_ge_t (by decide)) (by decide) (by decide) ?_
  refine Go.iloadN (pc' := 33) d19_32 rfl rfl ?_
  refine Go.iloadN (pc' := 34) d19_33 rfl rfl ?_
  refine Go.icmpNo (pc' := 37) d19_34 (XT.ii_ne_f (by decide)) rfl ?_
  refine Go.iloadN (pc' := 38) d19_37 rfl rfl ?_
  refine Go.bipush (pc' := 40) (v := 124) d19_38 rfl rfl ?_
  refine Go.icmpNo (pc' := 43) d19_40 (XT.ii_ne_f hc) rfl ?_
  refine Go.iconst (pc' := 44) (v := 1) d19_43 rfl rfl ?_
  refine Go.goto (pc' := 48) d19_44 (by decide) (by decide) ?_
  exact Go.retN (t := .boolean) rfl (by simp) d19_48 ⟨rfl, rfl⟩
theorem c_atC1 (hw : HW a0 Z) (h : Heap) (n : Int32) (c : Int32) (t : Addr) (l2 : Addr) (hlt : (1 : Int32) < n) (hc : c = (124 : Int32)) :
    Con l M_34 method_4_code 6 (some .boolean) (rm4 0 0 0 0) Z n0 #[(.int 1), (.int n), (.int 1), (.int c), (.ref t), (.ref l2)] h (fun v h' => v = some (.int 1) ∧ h = h') := by
  refine Con.of_go (plainFor_of_name pn_3) (Ls := #[.val (.int 1), .val (.int n), .val (.int 1), .val (.int c), .val (.ref t), .val (.ref l2)]) ?_
  refine Go.iloadN (pc' := 1) d19_0 rfl rfl ?_
  refine Go.iloadN (pc' := 2) d19_1 rfl rfl ?_
  refine Go.icmpYes (pc' := 7) d19_2 (XT.ii_lt_t hlt) (by decide) (by decide) ?_
  refine Go.iloadN (pc' := 8) d19_7 rfl rfl ?_
  refine Go.ifNo (pc' := 11) d19_8 (XT.i0_lt_f (by decide)) rfl ?_
  refine Go.iloadN (pc' := 12) d19_11 rfl rfl ?_
  refine Go.iloadN (pc' := 13) d19_12 rfl rfl ?_
  refine Go.icmpYes (pc' := 32) d19_13 (XT.ii_ge_t (by decide)) (by decide) (by decide) ?_
  refine Go.iloadN (pc' := 33) d19_32 rfl rfl ?_
  refine Go.iloadN (pc' := 34) d19_33 rfl rfl ?_
  refine Go.icmpNo (pc' := 37) d19_34 (XT.ii_ne_f (by decide)) rfl ?_
  refine Go.iloadN (pc' := 38) d19_37 rfl rfl ?_
  refine Go.bipush (pc' := 40) (v := 124) d19_38 rfl rfl ?_
  refine Go.icmpNo (pc' := 43) d19_40 (XT.ii_ne_f hc) rfl ?_
  refine Go.iconst (pc' := 44) (v := 1) d19_43 rfl rfl ?_
  refine Go.goto (pc' := 48) d19_44 (by decide) (by decide) ?_
  exact Go.retN (t := .boolean) rfl (by simp) d19_48 ⟨rfl, rfl⟩
theorem c_atC2 (hw : HW a0 Z) (h : Heap) (n : Int32) (c : Int32) (t : Addr) (l2 : Addr) (hlt : (2 : Int32) < n) (hc : c = (124 : Int32)) :
    Con l M_34 method_4_code 6 (some .boolean) (rm4 0 0 0 0) Z n0 #[(.int 2), (.int n), (.int 2), (.int c), (.ref t), (.ref l2)] h (fun v h' => v = some (.int 1) ∧ h = h') := by
  refine Con.of_go (plainFor_of_name pn_3) (Ls := #[.val (.int 2), .val (.int n), .val (.int 2), .val (.int c), .val (.ref t), .val (.ref l2)]) ?_
  refine Go.iloadN (pc' := 1) d19_0 rfl rfl ?_
  refine Go.iloadN (pc' := 2) d19_1 rfl rfl ?_
  refine Go.icmpYes (pc' := 7) d19_2 (XT.ii_lt_t hlt) (by decide) (by decide) ?_
  refine Go.iloadN (pc' := 8) d19_7 rfl rfl ?_
  refine Go.ifNo (pc' := 11) d19_8 (XT.i0_lt_f (by decide)) rfl ?_
  refine Go.iloadN (pc' := 12) d19_11 rfl rfl ?_
  refine Go.iloadN (pc' := 13) d19_12 rfl rfl ?_
  refine Go.icmpYes (pc' := 32) d19_13 (XT.ii_ge_t (by decide)) (by decide) (by decide) ?_
  refine Go.iloadN (pc' := 33) d19_32 rfl rfl ?_
  refine Go.iloadN (pc' := 34) d19_33 rfl rfl ?_
  refine Go.icmpNo (pc' := 37) d19_34 (XT.ii_ne_f (by decide)) rfl ?_
  refine Go.iloadN (pc' := 38) d19_37 rfl rfl ?_
  refine Go.bipush (pc' := 40) (v := 124) d19_38 rfl rfl ?_
  refine Go.icmpNo (pc' := 43) d19_40 (XT.ii_ne_f hc) rfl ?_
  refine Go.iconst (pc' := 44) (v := 1) d19_43 rfl rfl ?_
  refine Go.goto (pc' := 48) d19_44 (by decide) (by decide) ?_
  exact Go.retN (t := .boolean) rfl (by simp) d19_48 ⟨rfl, rfl⟩
theorem c_atC3 (hw : HW a0 Z) (h : Heap) (n : Int32) (c : Int32) (t : Addr) (l2 : Addr) (hlt : (3 : Int32) < n) (hc : c = (124 : Int32)) :
    Con l M_34 method_4_code 6 (some .boolean) (rm4 0 0 0 0) Z n0 #[(.int 3), (.int n), (.int 3), (.int c), (.ref t), (.ref l2)] h (fun v h' => v = some (.int 1) ∧ h = h') := by
  refine Con.of_go (plainFor_of_name pn_3) (Ls := #[.val (.int 3), .val (.int n), .val (.int 3), .val (.int c), .val (.ref t), .val (.ref l2)]) ?_
  refine Go.iloadN (pc' := 1) d19_0 rfl rfl ?_
  refine Go.iloadN (pc' := 2) d19_1 rfl rfl ?_
  refine Go.icmpYes (pc' := 7) d19_2 (XT.ii_lt_t hlt) (by decide) (by decide) ?_
  refine Go.iloadN (pc' := 8) d19_7 rfl rfl ?_
  refine Go.ifNo (pc' := 11) d19_8 (XT.i0_lt_f (by decide)) rfl ?_
  refine Go.iloadN (pc' := 12) d19_11 rfl rfl ?_
  refine Go.iloadN (pc' := 13) d19_12 rfl rfl ?_
  refine Go.icmpYes (pc' := 32) d19_13 (XT.ii_ge_t (by decide)) (by decide) (by decide) ?_
  refine Go.iloadN (pc' := 33) d19_32 rfl rfl ?_
  refine Go.iloadN (pc' := 34) d19_33 rfl rfl ?_
  refine Go.icmpNo (pc' := 37) d19_34 (XT.ii_ne_f (by decide)) rfl ?_
  refine Go.iloadN (pc' := 38) d19_37 rfl rfl ?_
  refine Go.bipush (pc' := 40) (v := 124) d19_38 rfl rfl ?_
  refine Go.icmpNo (pc' := 43) d19_40 (XT.ii_ne_f hc) rfl ?_
  refine Go.iconst (pc' := 44) (v := 1) d19_43 rfl rfl ?_
  refine Go.goto (pc' := 48) d19_44 (by decide) (by decide) ?_
  exact Go.retN (t := .boolean) rfl (by simp) d19_48 ⟨rfl, rfl⟩
theorem c_atB0m (hw : HW a0 Z) (h : Heap) (n : Int32) (c : Int32) (t : Addr) (l2 : Addr) (b : Addr) (kb : ClassId) (z : Int32) (vs : List Value) (x : Int32) (cp : Int32) (wf : Value) (hcp : ¬ (cp = (0 : Int32))) (hwf : wf.isRef = true) (hlt : (0 : Int32) < n) (hz : (0 : Int32) < z) (hx : vs.getD 0 (.int 0) = .int x) (hc : (x &&& (255 : Int32)) = c) (scp : Sta Z Z.heap "java/lang/String" "COMPACT_STRINGS" "Z" (.int cp)) (sfm : Sta Z Z.heap "jdk/internal/util/Preconditions" "SIOOBE_FORMATTER" "Ljava/util/function/BiFunction;" wf) (e : Exa Z h t "java/lang/String") (f : Fld Z h t "java/lang/String" "coder" "B" (.int 0)) (g : Fld Z h t "java/lang/String" "value" "[B" (.ref b)) (v : Arv Z h b kb .byte z vs (.int 0)) :
    Con l M_34 method_4_code 6 (some .boolean) (rm4 4 0 0 53) Z n0 #[(.int 0), (.int n), (.int (-1 : Int32)), (.int c), (.ref t), (.ref l2)] h (fun v h' => v = some (.int 1) ∧ h = h') := by
  refine Con.of_go (plainFor_of_name pn_3) (Ls := #[.val (.int 0), .val (.int n), .val (.int (-1 : Int32)), .val (.int c), .val (.ref t), .val (.ref l2)]) ?_
  refine Go.iloadN (pc' := 1) d19_0 rfl rfl ?_
  refine Go.iloadN (pc' := 2) d19_1 rfl rfl ?_
  refine Go.icmpYes (pc' := 7) d19_2 (XT.ii_lt_t hlt) (by decide) (by decide) ?_
  refine Go.iloadN (pc' := 8) d19_7 rfl rfl ?_
  refine Go.ifYes (pc' := 16) d19_8 (XT.i0_lt_t (by decide)) (by decide) (by decide) ?_
  refine Go.aload (pc' := 18) d19_16 rfl rfl rfl ?_
  refine Go.iloadN (pc' := 19) d19_18 rfl rfl ?_
  refine Go.callV (cells' := 0) (slots' := 0) (pc' := 22) [(.int 0)] [] e (ww hw 154 rfl) (ww hw 155 rfl) (nfS (ww hw 157 rfl)) (ww hw 157 rfl) (ww hw 156 rfl) (ww hw 7 rfl) (ww hw 158 rfl) (by decide) (c_charAt0 l Z a0 hw h t b kb z vs x cp wf hcp hwf hz hx scp sfm e f g v) pd_22 d19_19 rfl ?_
  rintro _ _ ⟨rfl, rfl⟩
  show Go _ _ _ _ _ _ _ _ _ _ _ _ 22 _ [(.int (x &&& (255 : Int32)))]
  refine Go.iloadN (pc' := 23) d19_22 rfl rfl ?_
  refine Go.icmpNo (pc' := 26) d19_23 (XT.ii_ne_f hc) rfl ?_
  refine Go.iconst (pc' := 27) (v := 1) d19_26 rfl rfl ?_
  refine Go.goto (pc' := 31) d19_27 (by decide) (by decide) ?_
  exact Go.retN (t := .boolean) rfl (by simp) d19_31 ⟨rfl, rfl⟩
theorem c_atB0p (hw : HW a0 Z) (h : Heap) (n : Int32) (p : Int32) (c : Int32) (t : Addr) (l2 : Addr) (b : Addr) (kb : ClassId) (z : Int32) (vs : List Value) (x : Int32) (cp : Int32) (wf : Value) (hcp : ¬ (cp = (0 : Int32))) (hwf : wf.isRef = true) (hlt : (0 : Int32) < n) (hp : ¬ (p < (0 : Int32))) (hip : (0 : Int32) < p) (hz : (0 : Int32) < z) (hx : vs.getD 0 (.int 0) = .int x) (hc : (x &&& (255 : Int32)) = c) (scp : Sta Z Z.heap "java/lang/String" "COMPACT_STRINGS" "Z" (.int cp)) (sfm : Sta Z Z.heap "jdk/internal/util/Preconditions" "SIOOBE_FORMATTER" "Ljava/util/function/BiFunction;" wf) (e : Exa Z h t "java/lang/String") (f : Fld Z h t "java/lang/String" "coder" "B" (.int 0)) (g : Fld Z h t "java/lang/String" "value" "[B" (.ref b)) (v : Arv Z h b kb .byte z vs (.int 0)) :
    Con l M_34 method_4_code 6 (some .boolean) (rm4 4 0 0 53) Z n0 #[(.int 0), (.int n), (.int p), (.int c), (.ref t), (.ref l2)] h (fun v h' => v = some (.int 1) ∧ h = h') := by
  refine Con.of_go (plainFor_of_name pn_3) (Ls := #[.val (.int 0), .val (.int n), .val (.int p), .val (.int c), .val (.ref t), .val (.ref l2)]) ?_
  refine Go.iloadN (pc' := 1) d19_0 rfl rfl ?_
  refine Go.iloadN (pc' := 2) d19_1 rfl rfl ?_
  refine Go.icmpYes (pc' := 7) d19_2 (XT.ii_lt_t hlt) (by decide) (by decide) ?_
  refine Go.iloadN (pc' := 8) d19_7 rfl rfl ?_
  refine Go.ifNo (pc' := 11) d19_8 (XT.i0_lt_f hp) rfl ?_
  refine Go.iloadN (pc' := 12) d19_11 rfl rfl ?_
  refine Go.iloadN (pc' := 13) d19_12 rfl rfl ?_
  refine Go.icmpNo (pc' := 16) d19_13 (XT.ii_ge_f hip) rfl ?_
  refine Go.aload (pc' := 18) d19_16 rfl rfl rfl ?_
  refine Go.iloadN (pc' := 19) d19_18 rfl rfl ?_
  refine Go.callV (cells' := 0) (slots' := 0) (pc' := 22) [(.int 0)] [] e (ww hw 154 rfl) (ww hw 155 rfl) (nfS (ww hw 157 rfl)) (ww hw 157 rfl) (ww hw 156 rfl) (ww hw 7 rfl) (ww hw 158 rfl) (by decide) (c_charAt0 l Z a0 hw h t b kb z vs x cp wf hcp hwf hz hx scp sfm e f g v) pd_22 d19_19 rfl ?_
  rintro _ _ ⟨rfl, rfl⟩
  show Go _ _ _ _ _ _ _ _ _ _ _ _ 22 _ [(.int (x &&& (255 : Int32)))]
  refine Go.iloadN (pc' := 23) d19_22 rfl rfl ?_
  refine Go.icmpNo (pc' := 26) d19_23 (XT.ii_ne_f hc) rfl ?_
  refine Go.iconst (pc' := 27) (v := 1) d19_26 rfl rfl ?_
  refine Go.goto (pc' := 31) d19_27 (by decide) (by decide) ?_
  exact Go.retN (t := .boolean) rfl (by simp) d19_31 ⟨rfl, rfl⟩
theorem c_atB1m (hw : HW a0 Z) (h : Heap) (n : Int32) (c : Int32) (t : Addr) (l2 : Addr) (b : Addr) (kb : ClassId) (z : Int32) (vs : List Value) (x : Int32) (cp : Int32) (wf : Value) (hcp : ¬ (cp = (0 : Int32))) (hwf : wf.isRef = true) (hlt : (1 : Int32) < n) (hz : (1 : Int32) < z) (hx : vs.getD 1 (.int 0) = .int x) (hc : (x &&& (255 : Int32)) = c) (scp : Sta Z Z.heap "java/lang/String" "COMPACT_STRINGS" "Z" (.int cp)) (sfm : Sta Z Z.heap "jdk/internal/util/Preconditions" "SIOOBE_FORMATTER" "Ljava/util/function/BiFunction;" wf) (e : Exa Z h t "java/lang/String") (f : Fld Z h t "java/lang/String" "coder" "B" (.int 0)) (g : Fld Z h t "java/lang/String" "value" "[B" (.ref b)) (v : Arv Z h b kb .byte z vs (.int 0)) :
    Con l M_34 method_4_code 6 (some .boolean) (rm4 4 0 0 53) Z n0 #[(.int 1), (.int n), (.int (-1 : Int32)), (.int c), (.ref t), (.ref l2)] h (fun v h' => v = some (.int 1) ∧ h = h') := by
  refine Con.of_go (plainFor_of_name pn_3) (Ls := #[.val (.int 1), .val (.int n), .val (.int (-1 : Int32)), .val (.int c), .val (.ref t), .val (.ref l2)]) ?_
  refine Go.iloadN (pc' := 1) d19_0 rfl rfl ?_
  refine Go.iloadN (pc' := 2) d19_1 rfl rfl ?_
  refine Go.icmpYes (pc' := 7) d19_2 (XT.ii_lt_t hlt) (by decide) (by decide) ?_
  refine Go.iloadN (pc' := 8) d19_7 rfl rfl ?_
  refine Go.ifYes (pc' := 16) d19_8 (XT.i0_lt_t (by decide)) (by decide) (by decide) ?_
  refine Go.aload (pc' := 18) d19_16 rfl rfl rfl ?_
  refine Go.iloadN (pc' := 19) d19_18 rfl rfl ?_
  refine Go.callV (cells' := 0) (slots' := 0) (pc' := 22) [(.int 1)] [] e (ww hw 154 rfl) (ww hw 155 rfl) (nfS (ww hw 157 rfl)) (ww hw 157 rfl) (ww hw 156 rfl) (ww hw 7 rfl) (ww hw 158 rfl) (by decide) (c_charAt1 l Z a0 hw h t b kb z vs x cp wf hcp hwf hz hx scp sfm e f g v) pd_22 d19_19 rfl ?_
  rintro _ _ ⟨rfl, rfl⟩
  show Go _ _ _ _ _ _ _ _ _ _ _ _ 22 _ [(.int (x &&& (255 : Int32)))]
  refine Go.iloadN (pc' := 23) d19_22 rfl rfl ?_
  refine Go.icmpNo (pc' := 26) d19_23 (XT.ii_ne_f hc) rfl ?_
  refine Go.iconst (pc' := 27) (v := 1) d19_26 rfl rfl ?_
  refine Go.goto (pc' := 31) d19_27 (by decide) (by decide) ?_
  exact Go.retN (t := .boolean) rfl (by simp) d19_31 ⟨rfl, rfl⟩
theorem c_atB1p (hw : HW a0 Z) (h : Heap) (n : Int32) (p : Int32) (c : Int32) (t : Addr) (l2 : Addr) (b : Addr) (kb : ClassId) (z : Int32) (vs : List Value) (x : Int32) (cp : Int32) (wf : Value) (hcp : ¬ (cp = (0 : Int32))) (hwf : wf.isRef = true) (hlt : (1 : Int32) < n) (hp : ¬ (p < (0 : Int32))) (hip : (1 : Int32) < p) (hz : (1 : Int32) < z) (hx : vs.getD 1 (.int 0) = .int x) (hc : (x &&& (255 : Int32)) = c) (scp : Sta Z Z.heap "java/lang/String" "COMPACT_STRINGS" "Z" (.int cp)) (sfm : Sta Z Z.heap "jdk/internal/util/Preconditions" "SIOOBE_FORMATTER" "Ljava/util/function/BiFunction;" wf) (e : Exa Z h t "java/lang/String") (f : Fld Z h t "java/lang/String" "coder" "B" (.int 0)) (g : Fld Z h t "java/lang/String" "value" "[B" (.ref b)) (v : Arv Z h b kb .byte z vs (.int 0)) :
    Con l M_34 method_4_code 6 (some .boolean) (rm4 4 0 0 53) Z n0 #[(.int 1), (.int n), (.int p), (.int c), (.ref t), (.ref l2)] h (fun v h' => v = some (.int 1) ∧ h = h') := by
  refine Con.of_go (plainFor_of_name pn_3) (Ls := #[.val (.int 1), .val (.int n), .val (.int p), .val (.int c), .val (.ref t), .val (.ref l2)]) ?_
  refine Go.iloadN (pc' := 1) d19_0 rfl rfl ?_
  refine Go.iloadN (pc' := 2) d19_1 rfl rfl ?_
  refine Go.icmpYes (pc' := 7) d19_2 (XT.ii_lt_t hlt) (by decide) (by decide) ?_
  refine Go.iloadN (pc' := 8) d19_7 rfl rfl ?_
  refine Go.ifNo (pc' := 11) d19_8 (XT.i0_lt_f hp) rfl ?_
  refine Go.iloadN (pc' := 12) d19_11 rfl rfl ?_
  refine Go.iloadN (pc' := 13) d19_12 rfl rfl ?_
  refine Go.icmpNo (pc' := 16) d19_13 (XT.ii_ge_f hip) rfl ?_
  refine Go.aload (pc' := 18) d19_16 rfl rfl rfl ?_
  refine Go.iloadN (pc' := 19) d19_18 rfl rfl ?_
  refine Go.callV (cells' := 0) (slots' := 0) (pc' := 22) [(.int 1)] [] e (ww hw 154 rfl) (ww hw 155 rfl) (nfS (ww hw 157 rfl)) (ww hw 157 rfl) (ww hw 156 rfl) (ww hw 7 rfl) (ww hw 158 rfl) (by decide) (c_charAt1 l Z a0 hw h t b kb z vs x cp wf hcp hwf hz hx scp sfm e f g v) pd_22 d19_19 rfl ?_
  rintro _ _ ⟨rfl, rfl⟩
  show Go _ _ _ _ _ _ _ _ _ _ _ _ 22 _ [(.int (x &&& (255 : Int32)))]
  refine Go.iloadN (pc' := 23) d19_22 rfl rfl ?_
  refine Go.icmpNo (pc' := 26) d19_23 (XT.ii_ne_f hc) rfl ?_
  refine Go.iconst (pc' := 27) (v := 1) d19_26 rfl rfl ?_
  refine Go.goto (pc' := 31) d19_27 (by decide) (by decide) ?_
  exact Go.retN (t := .boolean) rfl (by simp) d19_31 ⟨rfl, rfl⟩
theorem c_atB2m (hw : HW a0 Z) (h : Heap) (n : Int32) (c : Int32) (t : Addr) (l2 : Addr) (b : Addr) (kb : ClassId) (z : Int32) (vs : List Value) (x : Int32) (cp : Int32) (wf : Value) (hcp : ¬ (cp = (0 : Int32))) (hwf : wf.isRef = true) (hlt : (2 : Int32) < n) (hz : (2 : Int32) < z) (hx : vs.getD 2 (.int 0) = .int x) (hc : (x &&& (255 : Int32)) = c) (scp : Sta Z Z.heap "java/lang/String" "COMPACT_STRINGS" "Z" (.int cp)) (sfm : Sta Z Z.heap "jdk/internal/util/Preconditions" "SIOOBE_FORMATTER" "Ljava/util/function/BiFunction;" wf) (e : Exa Z h t "java/lang/String") (f : Fld Z h t "java/lang/String" "coder" "B" (.int 0)) (g : Fld Z h t "java/lang/String" "value" "[B" (.ref b)) (v : Arv Z h b kb .byte z vs (.int 0)) :
    Con l M_34 method_4_code 6 (some .boolean) (rm4 4 0 0 53) Z n0 #[(.int 2), (.int n), (.int (-1 : Int32)), (.int c), (.ref t), (.ref l2)] h (fun v h' => v = some (.int 1) ∧ h = h') := by
  refine Con.of_go (plainFor_of_name pn_3) (Ls := #[.val (.int 2), .val (.int n), .val (.int (-1 : Int32)), .val (.int c), .val (.ref t), .val (.ref l2)]) ?_
  refine Go.iloadN (pc' := 1) d19_0 rfl rfl ?_
  refine Go.iloadN (pc' := 2) d19_1 rfl rfl ?_
  refine Go.icmpYes (pc' := 7) d19_2 (XT.ii_lt_t hlt) (by decide) (by decide) ?_
  refine Go.iloadN (pc' := 8) d19_7 rfl rfl ?_
  refine Go.ifYes (pc' := 16) d19_8 (XT.i0_lt_t (by decide)) (by decide) (by decide) ?_
  refine Go.aload (pc' := 18) d19_16 rfl rfl rfl ?_
  refine Go.iloadN (pc' := 19) d19_18 rfl rfl ?_
  refine Go.callV (cells' := 0) (slots' := 0) (pc' := 22) [(.int 2)] [] e (ww hw 154 rfl) (ww hw 155 rfl) (nfS (ww hw 157 rfl)) (ww hw 157 rfl) (ww hw 156 rfl) (ww hw 7 rfl) (ww hw 158 rfl) (by decide) (c_charAt2 l Z a0 hw h t b kb z vs x cp wf hcp hwf hz hx scp sfm e f g v) pd_22 d19_19 rfl ?_
  rintro _ _ ⟨rfl, rfl⟩
  show Go _ _ _ _ _ _ _ _ _ _ _ _ 22 _ [(.int (x &&& (255 : Int32)))]
  refine Go.iloadN (pc' := 23) d19_22 rfl rfl ?_
  refine Go.icmpNo (pc' := 26) d19_23 (XT.ii_ne_f hc) rfl ?_
  refine Go.iconst (pc' := 27) (v := 1) d19_26 rfl rfl ?_
  refine Go.goto (pc' := 31) d19_27 (by decide) (by decide) ?_
  exact Go.retN (t := .boolean) rfl (by simp) d19_31 ⟨rfl, rfl⟩
theorem c_atB2p (hw : HW a0 Z) (h : Heap) (n : Int32) (p : Int32) (c : Int32) (t : Addr) (l2 : Addr) (b : Addr) (kb : ClassId) (z : Int32) (vs : List Value) (x : Int32) (cp : Int32) (wf : Value) (hcp : ¬ (cp = (0 : Int32))) (hwf : wf.isRef = true) (hlt : (2 : Int32) < n) (hp : ¬ (p < (0 : Int32))) (hip : (2 : Int32) < p) (hz : (2 : Int32) < z) (hx : vs.getD 2 (.int 0) = .int x) (hc : (x &&& (255 : Int32)) = c) (scp : Sta Z Z.heap "java/lang/String" "COMPACT_STRINGS" "Z" (.int cp)) (sfm : Sta Z Z.heap "jdk/internal/util/Preconditions" "SIOOBE_FORMATTER" "Ljava/util/function/BiFunction;" wf) (e : Exa Z h t "java/lang/String") (f : Fld Z h t "java/lang/String" "coder" "B" (.int 0)) (g : Fld Z h t "java/lang/String" "value" "[B" (.ref b)) (v : Arv Z h b kb .byte z vs (.int 0)) :
    Con l M_34 method_4_code 6 (some .boolean) (rm4 4 0 0 53) Z n0 #[(.int 2), (.int n), (.int p), (.int c), (.ref t), (.ref l2)] h (fun v h' => v = some (.int 1) ∧ h = h') := by
  refine Con.of_go (plainFor_of_name pn_3) (Ls := #[.val (.int 2), .val (.int n), .val (.int p), .val (.int c), .val (.ref t), .val (.ref l2)]) ?_
  refine Go.iloadN (pc' := 1) d19_0 rfl rfl ?_
  refine Go.iloadN (pc' := 2) d19_1 rfl rfl ?_
  refine Go.icmpYes (pc' := 7) d19_2 (XT.ii_lt_t hlt) (by decide) (by decide) ?_
  refine Go.iloadN (pc' := 8) d19_7 rfl rfl ?_
  refine Go.ifNo (pc' := 11) d19_8 (XT.i0_lt_f hp) rfl ?_
  refine Go.iloadN (pc' := 12) d19_11 rfl rfl ?_
  refine Go.iloadN (pc' := 13) d19_12 rfl rfl ?_
  refine Go.icmpNo (pc' := 16) d19_13 (XT.ii_ge_f hip) rfl ?_
  refine Go.aload (pc' := 18) d19_16 rfl rfl rfl ?_
  refine Go.iloadN (pc' := 19) d19_18 rfl rfl ?_
  refine Go.callV (cells' := 0) (slots' := 0) (pc' := 22) [(.int 2)] [] e (ww hw 154 rfl) (ww hw 155 rfl) (nfS (ww hw 157 rfl)) (ww hw 157 rfl) (ww hw 156 rfl) (ww hw 7 rfl) (ww hw 158 rfl) (by decide) (c_charAt2 l Z a0 hw h t b kb z vs x cp wf hcp hwf hz hx scp sfm e f g v) pd_22 d19_19 rfl ?_
  rintro _ _ ⟨rfl, rfl⟩
  show Go _ _ _ _ _ _ _ _ _ _ _ _ 22 _ [(.int (x &&& (255 : Int32)))]
  refine Go.iloadN (pc' := 23) d19_22 rfl rfl ?_
  refine Go.icmpNo (pc' := 26) d19_23 (XT.ii_ne_f hc) rfl ?_
  refine Go.iconst (pc' := 27) (v := 1) d19_26 rfl rfl ?_
  refine Go.goto (pc' := 31) d19_27 (by decide) (by decide) ?_
  exact Go.retN (t := .boolean) rfl (by simp) d19_31 ⟨rfl, rfl⟩
theorem c_atB3m (hw : HW a0 Z) (h : Heap) (n : Int32) (c : Int32) (t : Addr) (l2 : Addr) (b : Addr) (kb : ClassId) (z : Int32) (vs : List Value) (x : Int32) (cp : Int32) (wf : Value) (hcp : ¬ (cp = (0 : Int32))) (hwf : wf.isRef = true) (hlt : (3 : Int32) < n) (hz : (3 : Int32) < z) (hx : vs.getD 3 (.int 0) = .int x) (hc : (x &&& (255 : Int32)) = c) (scp : Sta Z Z.heap "java/lang/String" "COMPACT_STRINGS" "Z" (.int cp)) (sfm : Sta Z Z.heap "jdk/internal/util/Preconditions" "SIOOBE_FORMATTER" "Ljava/util/function/BiFunction;" wf) (e : Exa Z h t "java/lang/String") (f : Fld Z h t "java/lang/String" "coder" "B" (.int 0)) (g : Fld Z h t "java/lang/String" "value" "[B" (.ref b)) (v : Arv Z h b kb .byte z vs (.int 0)) :
    Con l M_34 method_4_code 6 (some .boolean) (rm4 4 0 0 53) Z n0 #[(.int 3), (.int n), (.int (-1 : Int32)), (.int c), (.ref t), (.ref l2)] h (fun v h' => v = some (.int 1) ∧ h = h') := by
  refine Con.of_go (plainFor_of_name pn_3) (Ls := #[.val (.int 3), .val (.int n), .val (.int (-1 : Int32)), .val (.int c), .val (.ref t), .val (.ref l2)]) ?_
  refine Go.iloadN (pc' := 1) d19_0 rfl rfl ?_
  refine Go.iloadN (pc' := 2) d19_1 rfl rfl ?_
  refine Go.icmpYes (pc' := 7) d19_2 (XT.ii_lt_t hlt) (by decide) (by decide) ?_
  refine Go.iloadN (pc' := 8) d19_7 rfl rfl ?_
  refine Go.ifYes (pc' := 16) d19_8 (XT.i0_lt_t (by decide)) (by decide) (by decide) ?_
  refine Go.aload (pc' := 18) d19_16 rfl rfl rfl ?_
  refine Go.iloadN (pc' := 19) d19_18 rfl rfl ?_
  refine Go.callV (cells' := 0) (slots' := 0) (pc' := 22) [(.int 3)] [] e (ww hw 154 rfl) (ww hw 155 rfl) (nfS (ww hw 157 rfl)) (ww hw 157 rfl) (ww hw 156 rfl) (ww hw 7 rfl) (ww hw 158 rfl) (by decide) (c_charAt3 l Z a0 hw h t b kb z vs x cp wf hcp hwf hz hx scp sfm e f g v) pd_22 d19_19 rfl ?_
  rintro _ _ ⟨rfl, rfl⟩
  show Go _ _ _ _ _ _ _ _ _ _ _ _ 22 _ [(.int (x &&& (255 : Int32)))]
  refine Go.iloadN (pc' := 23) d19_22 rfl rfl ?_
  refine Go.icmpNo (pc' := 26) d19_23 (XT.ii_ne_f hc) rfl ?_
  refine Go.iconst (pc' := 27) (v := 1) d19_26 rfl rfl ?_
  refine Go.goto (pc' := 31) d19_27 (by decide) (by decide) ?_
  exact Go.retN (t := .boolean) rfl (by simp) d19_31 ⟨rfl, rfl⟩
theorem c_atD1_0 (hw : HW a0 Z) (h : Heap) (n : Int32) (c : Int32) (t : Addr) (l2 : Addr) (b : Addr) (kb : ClassId) (z : Int32) (vs : List Value) (x : Int32) (cp : Int32) (wf : Value) (hcp : ¬ (cp = (0 : Int32))) (hwf : wf.isRef = true) (hlt : (1 : Int32) < n) (hz : (0 : Int32) < z) (hx : vs.getD 0 (.int 0) = .int x) (hc : (x &&& (255 : Int32)) = c) (scp : Sta Z Z.heap "java/lang/String" "COMPACT_STRINGS" "Z" (.int cp)) (sfm : Sta Z Z.heap "jdk/internal/util/Preconditions" "SIOOBE_FORMATTER" "Ljava/util/function/BiFunction;" wf) (e : Exa Z h l2 "java/lang/String") (f : Fld Z h l2 "java/lang/String" "coder" "B" (.int 0)) (g : Fld Z h l2 "java/lang/String" "value" "[B" (.ref b)) (v : Arv Z h b kb .byte z vs (.int 0)) :
    Con l M_34 method_4_code 6 (some .boolean) (rm4 4 0 0 53) Z n0 #[(.int 1), (.int n), (.int 0), (.int c), (.ref t), (.ref l2)] h (fun v h' => v = some (.int 1) ∧ h = h') := by
  refine Con.of_go (plainFor_of_name pn_3) (Ls := #[.val (.int 1), .val (.int n), .val (.int 0), .val (.int c), .val (.ref t), .val (.ref l2)]) ?_
  refine Go.iloadN (pc' := 1) d19_0 rfl rfl ?_
  refine Go.iloadN (pc' := 2) d19_1 rfl rfl ?_
  refine Go.icmpYes (pc' := 7) d19_2 (XT.ii_lt_t hlt) (by decide) (by decide) ?_
  refine Go.iloadN (pc' := 8) d19_7 rfl rfl ?_
  refine Go.ifNo (pc' := 11) d19_8 (XT.i0_lt_f (by decide)) rfl ?_
  refine Go.iloadN (pc' := 12) d19_11 rfl rfl ?_
  refine Go.iloadN (pc' := 13) d19_12 rfl rfl ?_
  refine Go.icmpYes (pc' := 32) d19_13 (XT.ii_ge_t (by decide)) (by decide) (by decide) ?_
  refine Go.iloadN (pc' := 33) d19_32 rfl rfl ?_
  refine Go.iloadN (pc' := 34) d19_33 rfl rfl ?_
  refine Go.icmpYes (pc' := 49) d19_34 (XT.ii_ne_t (by decide)) (by decide) (by decide) ?_
  refine Go.aload (pc' := 51) d19_49 rfl rfl rfl ?_
  refine Go.iloadN (pc' := 52) d19_51 rfl rfl ?_
  refine Go.iloadN (pc' := 53) d19_52 rfl rfl ?_
  refine Go.isub (pc' := 54) d19_53 rfl ?_
  show Go _ _ _ _ _ _ _ _ _ _ _ _ 54 _ [(.int 1), (.ref l2)]
  refine Go.iconst (pc' := 55) (v := 1) d19_54 rfl rfl ?_
  refine Go.isub (pc' := 56) d19_55 rfl ?_
  show Go _ _ _ _ _ _ _ _ _ _ _ _ 56 _ [(.int 0), (.ref l2)]
  refine Go.callV (cells' := 0) (slots' := 0) (pc' := 59) [(.int 0)] [] e (ww hw 154 rfl) (ww hw 155 rfl) (nfS (ww hw 157 rfl)) (ww hw 157 rfl) (ww hw 156 rfl) (ww hw 7 rfl) (ww hw 158 rfl) (by decide) (c_charAt0 l Z a0 hw h l2 b kb z vs x cp wf hcp hwf hz hx scp sfm e f g v) pd_22 d19_56 rfl ?_
  rintro _ _ ⟨rfl, rfl⟩
  show Go _ _ _ _ _ _ _ _ _ _ _ _ 59 _ [(.int (x &&& (255 : Int32)))]
  refine Go.iloadN (pc' := 60) d19_59 rfl rfl ?_
  refine Go.icmpNo (pc' := 63) d19_60 (XT.ii_ne_f hc) rfl ?_
  refine Go.iconst (pc' := 64) (v := 1) d19_63 rfl rfl ?_
  refine Go.goto (pc' := 68) d19_64 (by decide) (by decide) ?_
  exact Go.retN (t := .boolean) rfl (by simp) d19_68 ⟨rfl, rfl⟩
theorem c_atD2_0 (hw : HW a0 Z) (h : Heap) (n : Int32) (c : Int32) (t : Addr) (l2 : Addr) (b : Addr) (kb : ClassId) (z : Int32) (vs : List Value) (x : Int32) (cp : Int32) (wf : Value) (hcp : ¬ (cp = (0 : Int32))) (hwf : wf.isRef = true) (hlt : (2 : Int32) < n) (hz : (1 : Int32) < z) (hx : vs.getD 1 (.int 0) = .int x) (hc : (x &&& (255 : Int32)) = c) (scp : Sta Z Z.heap "java/lang/String" "COMPACT_STRINGS" "Z" (.int cp)) (sfm : Sta Z Z.heap "jdk/internal/util/Preconditions" "SIOOBE_FORMATTER" "Ljava/util/function/BiFunction;" wf) (e : Exa Z h l2 "java/lang/String") (f : Fld Z h l2 "java/lang/String" "coder" "B" (.int 0)) (g : Fld Z h l2 "java/lang/String" "value" "[B" (.ref b)) (v : Arv Z h b kb .byte z vs (.int 0)) :
    Con l M_34 method_4_code 6 (some .boolean) (rm4 4 0 0 53) Z n0 #[(.int 2), (.int n), (.int 0), (.int c), (.ref t), (.ref l2)] h (fun v h' => v = some (.int 1) ∧ h = h') := by
  refine Con.of_go (plainFor_of_name pn_3) (Ls := #[.val (.int 2), .val (.int n), .val (.int 0), .val (.int c), .val (.ref t), .val (.ref l2)]) ?_
  refine Go.iloadN (pc' := 1) d19_0 rfl rfl ?_
  refine Go.iloadN (pc' := 2) d19_1 rfl rfl ?_
  refine Go.icmpYes (pc' := 7) d19_2 (XT.ii_lt_t hlt) (by decide) (by decide) ?_
  refine Go.iloadN (pc' := 8) d19_7 rfl rfl ?_
  refine Go.ifNo (pc' := 11) d19_8 (XT.i0_lt_f (by decide)) rfl ?_
  refine Go.iloadN (pc' := 12) d19_11 rfl rfl ?_
  refine Go.iloadN (pc' := 13) d19_12 rfl rfl ?_
  refine Go.icmpYes (pc' := 32) d19_13 (XT.ii_ge_t (by decide)) (by decide) (by decide) ?_
  refine Go.iloadN (pc' := 33) d19_32 rfl rfl ?_
  refine Go.iloadN (pc' := 34) d19_33 rfl rfl ?_
  refine Go.icmpYes (pc' := 49) d19_34 (XT.ii_ne_t (by decide)) (by decide) (by decide) ?_
  refine Go.aload (pc' := 51) d19_49 rfl rfl rfl ?_
  refine Go.iloadN (pc' := 52) d19_51 rfl rfl ?_
  refine Go.iloadN (pc' := 53) d19_52 rfl rfl ?_
  refine Go.isub (pc' := 54) d19_53 rfl ?_
  show Go _ _ _ _ _ _ _ _ _ _ _ _ 54 _ [(.int 2), (.ref l2)]
  refine Go.iconst (pc' := 55) (v := 1) d19_54 rfl rfl ?_
  refine Go.isub (pc' := 56) d19_55 rfl ?_
  show Go _ _ _ _ _ _ _ _ _ _ _ _ 56 _ [(.int 1), (.ref l2)]
  refine Go.callV (cells' := 0) (slots' := 0) (pc' := 59) [(.int 1)] [] e (ww hw 154 rfl) (ww hw 155 rfl) (nfS (ww hw 157 rfl)) (ww hw 157 rfl) (ww hw 156 rfl) (ww hw 7 rfl) (ww hw 158 rfl) (by decide) (c_charAt1 l Z a0 hw h l2 b kb z vs x cp wf hcp hwf hz hx scp sfm e f g v) pd_22 d19_56 rfl ?_
  rintro _ _ ⟨rfl, rfl⟩
  show Go _ _ _ _ _ _ _ _ _ _ _ _ 59 _ [(.int (x &&& (255 : Int32)))]
  refine Go.iloadN (pc' := 60) d19_59 rfl rfl ?_
  refine Go.icmpNo (pc' := 63) d19_60 (XT.ii_ne_f hc) rfl ?_
  refine Go.iconst (pc' := 64) (v := 1) d19_63 rfl rfl ?_
  refine Go.goto (pc' := 68) d19_64 (by decide) (by decide) ?_
  exact Go.retN (t := .boolean) rfl (by simp) d19_68 ⟨rfl, rfl⟩
theorem c_atD2_1 (hw : HW a0 Z) (h : Heap) (n : Int32) (c : Int32) (t : Addr) (l2 : Addr) (b : Addr) (kb : ClassId) (z : Int32) (vs : List Value) (x : Int32) (cp : Int32) (wf : Value) (hcp : ¬ (cp = (0 : Int32))) (hwf : wf.isRef = true) (hlt : (2 : Int32) < n) (hz : (0 : Int32) < z) (hx : vs.getD 0 (.int 0) = .int x) (hc : (x &&& (255 : Int32)) = c) (scp : Sta Z Z.heap "java/lang/String" "COMPACT_STRINGS" "Z" (.int cp)) (sfm : Sta Z Z.heap "jdk/internal/util/Preconditions" "SIOOBE_FORMATTER" "Ljava/util/function/BiFunction;" wf) (e : Exa Z h l2 "java/lang/String") (f : Fld Z h l2 "java/lang/String" "coder" "B" (.int 0)) (g : Fld Z h l2 "java/lang/String" "value" "[B" (.ref b)) (v : Arv Z h b kb .byte z vs (.int 0)) :
    Con l M_34 method_4_code 6 (some .boolean) (rm4 4 0 0 53) Z n0 #[(.int 2), (.int n), (.int 1), (.int c), (.ref t), (.ref l2)] h (fun v h' => v = some (.int 1) ∧ h = h') := by
  refine Con.of_go (plainFor_of_name pn_3) (Ls := #[.val (.int 2), .val (.int n), .val (.int 1), .val (.int c), .val (.ref t), .val (.ref l2)]) ?_
  refine Go.iloadN (pc' := 1) d19_0 rfl rfl ?_
  refine Go.iloadN (pc' := 2) d19_1 rfl rfl ?_
  refine Go.icmpYes (pc' := 7) d19_2 (XT.ii_lt_t hlt) (by decide) (by decide) ?_
  refine Go.iloadN (pc' := 8) d19_7 rfl rfl ?_
  refine Go.ifNo (pc' := 11) d19_8 (XT.i0_lt_f (by decide)) rfl ?_
  refine Go.iloadN (pc' := 12) d19_11 rfl rfl ?_
  refine Go.iloadN (pc' := 13) d19_12 rfl rfl ?_
  refine Go.icmpYes (pc' := 32) d19_13 (XT.ii_ge_t (by decide)) (by decide) (by decide) ?_
  refine Go.iloadN (pc' := 33) d19_32 rfl rfl ?_
  refine Go.iloadN (pc' := 34) d19_33 rfl rfl ?_
  refine Go.icmpYes (pc' := 49) d19_34 (XT.ii_ne_t (by decide)) (by decide) (by decide) ?_
  refine Go.aload (pc' := 51) d19_49 rfl rfl rfl ?_
  refine Go.iloadN (pc' := 52) d19_51 rfl rfl ?_
  refine Go.iloadN (pc' := 53) d19_52 rfl rfl ?_
  refine Go.isub (pc' := 54) d19_53 rfl ?_
  show Go _ _ _ _ _ _ _ _ _ _ _ _ 54 _ [(.int 1), (.ref l2)]
  refine Go.iconst (pc' := 55) (v := 1) d19_54 rfl rfl ?_
  refine Go.isub (pc' := 56) d19_55 rfl ?_
  show Go _ _ _ _ _ _ _ _ _ _ _ _ 56 _ [(.int 0), (.ref l2)]
  refine Go.callV (cells' := 0) (slots' := 0) (pc' := 59) [(.int 0)] [] e (ww hw 154 rfl) (ww hw 155 rfl) (nfS (ww hw 157 rfl)) (ww hw 157 rfl) (ww hw 156 rfl) (ww hw 7 rfl) (ww hw 158 rfl) (by decide) (c_charAt0 l Z a0 hw h l2 b kb z vs x cp wf hcp hwf hz hx scp sfm e f g v) pd_22 d19_56 rfl ?_
  rintro _ _ ⟨rfl, rfl⟩
  show Go _ _ _ _ _ _ _ _ _ _ _ _ 59 _ [(.int (x &&& (255 : Int32)))]
  refine Go.iloadN (pc' := 60) d19_59 rfl rfl ?_
  refine Go.icmpNo (pc' := 63) d19_60 (XT.ii_ne_f hc) rfl ?_
  refine Go.iconst (pc' := 64) (v := 1) d19_63 rfl rfl ?_
  refine Go.goto (pc' := 68) d19_64 (by decide) (by decide) ?_
  exact Go.retN (t := .boolean) rfl (by simp) d19_68 ⟨rfl, rfl⟩
theorem c_atD3_0 (hw : HW a0 Z) (h : Heap) (n : Int32) (c : Int32) (t : Addr) (l2 : Addr) (b : Addr) (kb : ClassId) (z : Int32) (vs : List Value) (x : Int32) (cp : Int32) (wf : Value) (hcp : ¬ (cp = (0 : Int32))) (hwf : wf.isRef = true) (hlt : (3 : Int32) < n) (hz : (2 : Int32) < z) (hx : vs.getD 2 (.int 0) = .int x) (hc : (x &&& (255 : Int32)) = c) (scp : Sta Z Z.heap "java/lang/String" "COMPACT_STRINGS" "Z" (.int cp)) (sfm : Sta Z Z.heap "jdk/internal/util/Preconditions" "SIOOBE_FORMATTER" "Ljava/util/function/BiFunction;" wf) (e : Exa Z h l2 "java/lang/String") (f : Fld Z h l2 "java/lang/String" "coder" "B" (.int 0)) (g : Fld Z h l2 "java/lang/String" "value" "[B" (.ref b)) (v : Arv Z h b kb .byte z vs (.int 0)) :
    Con l M_34 method_4_code 6 (some .boolean) (rm4 4 0 0 53) Z n0 #[(.int 3), (.int n), (.int 0), (.int c), (.ref t), (.ref l2)] h (fun v h' => v = some (.int 1) ∧ h = h') := by
  refine Con.of_go (plainFor_of_name pn_3) (Ls := #[.val (.int 3), .val (.int n), .val (.int 0), .val (.int c), .val (.ref t), .val (.ref l2)]) ?_
  refine Go.iloadN (pc' := 1) d19_0 rfl rfl ?_
  refine Go.iloadN (pc' := 2) d19_1 rfl rfl ?_
  refine Go.icmpYes (pc' := 7) d19_2 (XT.ii_lt_t hlt) (by decide) (by decide) ?_
  refine Go.iloadN (pc' := 8) d19_7 rfl rfl ?_
  refine Go.ifNo (pc' := 11) d19_8 (XT.i0_lt_f (by decide)) rfl ?_
  refine Go.iloadN (pc' := 12) d19_11 rfl rfl ?_
  refine Go.iloadN (pc' := 13) d19_12 rfl rfl ?_
  refine Go.icmpYes (pc' := 32) d19_13 (XT.ii_ge_t (by decide)) (by decide) (by decide) ?_
  refine Go.iloadN (pc' := 33) d19_32 rfl rfl ?_
  refine Go.iloadN (pc' := 34) d19_33 rfl rfl ?_
  refine Go.icmpYes (pc' := 49) d19_34 (XT.ii_ne_t (by decide)) (by decide) (by decide) ?_
  refine Go.aload (pc' := 51) d19_49 rfl rfl rfl ?_
  refine Go.iloadN (pc' := 52) d19_51 rfl rfl ?_
  refine Go.iloadN (pc' := 53) d19_52 rfl rfl ?_
  refine Go.isub (pc' := 54) d19_53 rfl ?_
  show Go _ _ _ _ _ _ _ _ _ _ _ _ 54 _ [(.int 3), (.ref l2)]
  refine Go.iconst (pc' := 55) (v := 1) d19_54 rfl rfl ?_
  refine Go.isub (pc' := 56) d19_55 rfl ?_
  show Go _ _ _ _ _ _ _ _ _ _ _ _ 56 _ [(.int 2), (.ref l2)]
  refine Go.callV (cells' := 0) (slots' := 0) (pc' := 59) [(.int 2)] [] e (ww hw 154 rfl) (ww hw 155 rfl) (nfS (ww hw 157 rfl)) (ww hw 157 rfl) (ww hw 156 rfl) (ww hw 7 rfl) (ww hw 158 rfl) (by decide) (c_charAt2 l Z a0 hw h l2 b kb z vs x cp wf hcp hwf hz hx scp sfm e f g v) pd_22 d19_56 rfl ?_
  rintro _ _ ⟨rfl, rfl⟩
  show Go _ _ _ _ _ _ _ _ _ _ _ _ 59 _ [(.int (x &&& (255 : Int32)))]
  refine Go.iloadN (pc' := 60) d19_59 rfl rfl ?_
  refine Go.icmpNo (pc' := 63) d19_60 (XT.ii_ne_f hc) rfl ?_
  refine Go.iconst (pc' := 64) (v := 1) d19_63 rfl rfl ?_
  refine Go.goto (pc' := 68) d19_64 (by decide) (by decide) ?_
  exact Go.retN (t := .boolean) rfl (by simp) d19_68 ⟨rfl, rfl⟩
theorem c_atD3_1 (hw : HW a0 Z) (h : Heap) (n : Int32) (c : Int32) (t : Addr) (l2 : Addr) (b : Addr) (kb : ClassId) (z : Int32) (vs : List Value) (x : Int32) (cp : Int32) (wf : Value) (hcp : ¬ (cp = (0 : Int32))) (hwf : wf.isRef = true) (hlt : (3 : Int32) < n) (hz : (1 : Int32) < z) (hx : vs.getD 1 (.int 0) = .int x) (hc : (x &&& (255 : Int32)) = c) (scp : Sta Z Z.heap "java/lang/String" "COMPACT_STRINGS" "Z" (.int cp)) (sfm : Sta Z Z.heap "jdk/internal/util/Preconditions" "SIOOBE_FORMATTER" "Ljava/util/function/BiFunction;" wf) (e : Exa Z h l2 "java/lang/String") (f : Fld Z h l2 "java/lang/String" "coder" "B" (.int 0)) (g : Fld Z h l2 "java/lang/String" "value" "[B" (.ref b)) (v : Arv Z h b kb .byte z vs (.int 0)) :
    Con l M_34 method_4_code 6 (some .boolean) (rm4 4 0 0 53) Z n0 #[(.int 3), (.int n), (.int 1), (.int c), (.ref t), (.ref l2)] h (fun v h' => v = some (.int 1) ∧ h = h') := by
  refine Con.of_go (plainFor_of_name pn_3) (Ls := #[.val (.int 3), .val (.int n), .val (.int 1), .val (.int c), .val (.ref t), .val (.ref l2)]) ?_
  refine Go.iloadN (pc' := 1) d19_0 rfl rfl ?_
  refine Go.iloadN (pc' := 2) d19_1 rfl rfl ?_
  refine Go.icmpYes (pc' := 7) d19_2 (XT.ii_lt_t hlt) (by decide) (by decide) ?_
  refine Go.iloadN (pc' := 8) d19_7 rfl rfl ?_
  refine Go.ifNo (pc' := 11) d19_8 (XT.i0_lt_f (by decide)) rfl ?_
  refine Go.iloadN (pc' := 12) d19_11 rfl rfl ?_
  refine Go.iloadN (pc' := 13) d19_12 rfl rfl ?_
  refine Go.icmpYes (pc' := 32) d19_13 (XT.ii_ge_t (by decide)) (by decide) (by decide) ?_
  refine Go.iloadN (pc' := 33) d19_32 rfl rfl ?_
  refine Go.iloadN (pc' := 34) d19_33 rfl rfl ?_
  refine Go.icmpYes (pc' := 49) d19_34 (XT.ii_ne_t (by decide)) (by decide) (by decide) ?_
  refine Go.aload (pc' := 51) d19_49 rfl rfl rfl ?_
  refine Go.iloadN (pc' := 52) d19_51 rfl rfl ?_
  refine Go.iloadN (pc' := 53) d19_52 rfl rfl ?_
  refine Go.isub (pc' := 54) d19_53 rfl ?_
  show Go _ _ _ _ _ _ _ _ _ _ _ _ 54 _ [(.int 2), (.ref l2)]
  refine Go.iconst (pc' := 55) (v := 1) d19_54 rfl rfl ?_
  refine Go.isub (pc' := 56) d19_55 rfl ?_
  show Go _ _ _ _ _ _ _ _ _ _ _ _ 56 _ [(.int 1), (.ref l2)]
  refine Go.callV (cells' := 0) (slots' := 0) (pc' := 59) [(.int 1)] [] e (ww hw 154 rfl) (ww hw 155 rfl) (nfS (ww hw 157 rfl)) (ww hw 157 rfl) (ww hw 156 rfl) (ww hw 7 rfl) (ww hw 158 rfl) (by decide) (c_charAt1 l Z a0 hw h l2 b kb z vs x cp wf hcp hwf hz hx scp sfm e f g v) pd_22 d19_56 rfl ?_
  rintro _ _ ⟨rfl, rfl⟩
  show Go _ _ _ _ _ _ _ _ _ _ _ _ 59 _ [(.int (x &&& (255 : Int32)))]
  refine Go.iloadN (pc' := 60) d19_59 rfl rfl ?_
  refine Go.icmpNo (pc' := 63) d19_60 (XT.ii_ne_f hc) rfl ?_
  refine Go.iconst (pc' := 64) (v := 1) d19_63 rfl rfl ?_
  refine Go.goto (pc' := 68) d19_64 (by decide) (by decide) ?_
  exact Go.retN (t := .boolean) rfl (by simp) d19_68 ⟨rfl, rfl⟩
theorem c_atD3_2 (hw : HW a0 Z) (h : Heap) (n : Int32) (c : Int32) (t : Addr) (l2 : Addr) (b : Addr) (kb : ClassId) (z : Int32) (vs : List Value) (x : Int32) (cp : Int32) (wf : Value) (hcp : ¬ (cp = (0 : Int32))) (hwf : wf.isRef = true) (hlt : (3 : Int32) < n) (hz : (0 : Int32) < z) (hx : vs.getD 0 (.int 0) = .int x) (hc : (x &&& (255 : Int32)) = c) (scp : Sta Z Z.heap "java/lang/String" "COMPACT_STRINGS" "Z" (.int cp)) (sfm : Sta Z Z.heap "jdk/internal/util/Preconditions" "SIOOBE_FORMATTER" "Ljava/util/function/BiFunction;" wf) (e : Exa Z h l2 "java/lang/String") (f : Fld Z h l2 "java/lang/String" "coder" "B" (.int 0)) (g : Fld Z h l2 "java/lang/String" "value" "[B" (.ref b)) (v : Arv Z h b kb .byte z vs (.int 0)) :
    Con l M_34 method_4_code 6 (some .boolean) (rm4 4 0 0 53) Z n0 #[(.int 3), (.int n), (.int 2), (.int c), (.ref t), (.ref l2)] h (fun v h' => v = some (.int 1) ∧ h = h') := by
  refine Con.of_go (plainFor_of_name pn_3) (Ls := #[.val (.int 3), .val (.int n), .val (.int 2), .val (.int c), .val (.ref t), .val (.ref l2)]) ?_
  refine Go.iloadN (pc' := 1) d19_0 rfl rfl ?_
  refine Go.iloadN (pc' := 2) d19_1 rfl rfl ?_
  refine Go.icmpYes (pc' := 7) d19_2 (XT.ii_lt_t hlt) (by decide) (by decide) ?_
  refine Go.iloadN (pc' := 8) d19_7 rfl rfl ?_
  refine Go.ifNo (pc' := 11) d19_8 (XT.i0_lt_f (by decide)) rfl ?_
  refine Go.iloadN (pc' := 12) d19_11 rfl rfl ?_
  refine Go.iloadN (pc' := 13) d19_12 rfl rfl ?_
  refine Go.icmpYes (pc' := 32) d19_13 (XT.ii_ge_t (by decide)) (by decide) (by decide) ?_
  refine Go.iloadN (pc' := 33) d19_32 rfl rfl ?_
  refine Go.iloadN (pc' := 34) d19_33 rfl rfl ?_
  refine Go.icmpYes (pc' := 49) d19_34 (XT.ii_ne_t (by decide)) (by decide) (by decide) ?_
  refine Go.aload (pc' := 51) d19_49 rfl rfl rfl ?_
  refine Go.iloadN (pc' := 52) d19_51 rfl rfl ?_
  refine Go.iloadN (pc' := 53) d19_52 rfl rfl ?_
  refine Go.isub (pc' := 54) d19_53 rfl ?_
  show Go _ _ _ _ _ _ _ _ _ _ _ _ 54 _ [(.int 1), (.ref l2)]
  refine Go.iconst (pc' := 55) (v := 1) d19_54 rfl rfl ?_
  refine Go.isub (pc' := 56) d19_55 rfl ?_
  show Go _ _ _ _ _ _ _ _ _ _ _ _ 56 _ [(.int 0), (.ref l2)]
  refine Go.callV (cells' := 0) (slots' := 0) (pc' := 59) [(.int 0)] [] e (ww hw 154 rfl) (ww hw 155 rfl) (nfS (ww hw 157 rfl)) (ww hw 157 rfl) (ww hw 156 rfl) (ww hw 7 rfl) (ww hw 158 rfl) (by decide) (c_charAt0 l Z a0 hw h l2 b kb z vs x cp wf hcp hwf hz hx scp sfm e f g v) pd_22 d19_56 rfl ?_
  rintro _ _ ⟨rfl, rfl⟩
  show Go _ _ _ _ _ _ _ _ _ _ _ _ 59 _ [(.int (x &&& (255 : Int32)))]
  refine Go.iloadN (pc' := 60) d19_59 rfl rfl ?_
  refine Go.icmpNo (pc' := 63) d19_60 (XT.ii_ne_f hc) rfl ?_
  refine Go.iconst (pc' := 64) (v := 1) d19_63 rfl rfl ?_
  refine Go.goto (pc' := 68) d19_64 (by decide) (by decide) ?_
  exact Go.retN (t := .boolean) rfl (by simp) d19_68 ⟨rfl, rfl⟩
theorem c_rest0_m (hw : HW a0 Z) (hs h : Heap) (p0 : Int32) (p1 : Int32) (p2 : Int32) (p3 : Int32) (p4 : Int32) (k0 : Int32) (k1 : Int32) (k2 : Int32) (k3 : Int32) (s : Addr) (b : Addr) (kb : ClassId) (za : Addr) (zb : Addr) (cp : Int32) (wf : Value) (hcp : ¬ (cp = (0 : Int32))) (hwf : wf.isRef = true) (hcw : Jvm.Lit.compactW.before a0 Z = true) (hch7 : Jvm.Lit.constHeld Z "java/lang/String" 7) (hch26 : Jvm.Lit.constHeld Z "com/example/inquire/inquire/io/WikiLink" 26) (hch151 : Jvm.Lit.constHeld Z "java/lang/StringLatin1" 151) (hk0 : ¬ ((255 : Int32) < k0)) (hk1 : ¬ ((255 : Int32) < k1)) (hk2 : ¬ ((255 : Int32) < k2)) (hk3 : ¬ ((255 : Int32) < k3)) (hn0 : nar .char k0 = k0) (hn1 : nar .char k1 = k1) (hn2 : nar .char k2 = k2) (hn3 : nar .char k3 = k3) (scp : Sta Z Z.heap "java/lang/String" "COMPACT_STRINGS" "Z" (.int cp)) (sfm : Sta Z Z.heap "jdk/internal/util/Preconditions" "SIOOBE_FORMATTER" "Ljava/util/function/BiFunction;" wf) (xs : Exa Z h s "java/lang/String") (fs : Fld Z h s "java/lang/String" "coder" "B" (.int 0)) (gs : Fld Z h s "java/lang/String" "value" "[B" (.ref b)) (vs : Arv Z h b kb .byte (0 : Int32) [] (.int 0)) (HZ : Hel Z h za zb ("")) (Kp : Keep hs h []) :
    GoS l room_1 Z n0 x code maxLocals ret (fun v h' LL' => v = some (.int 1) ∧ Keep hs h' []) hs [("", za, "java/lang/String", 7)] 8 60 h 121 #[.val (.int p0), .val (.int p1), .val (.int p2), .val (.int p3), .val (.int p4), .val (.int 0), .val (.int k0), .val (.int k1), .val (.int k2), .val (.int k3), .val (.ref s), .val (.int (-1 : Int32)), .unset, .unset, .unset, .unset, .unset] [] := by
  refine GoS.aload (pc' := 123) at_121 rfl rfl rfl ?_
  refine GoS.callS (cells' := 11) (slots' := 66) (pc' := 126) [(.ref s)] [] (ww hw 30 rfl) (ww hw 31 rfl) (ww hw 32 rfl) (ww hw 33 rfl) (by decide) (c_parse0_m l Z a0 hw h s b kb za zb cp wf hcp hwf hcw hch26 hch151 scp sfm xs fs gs vs HZ) pd_23 at_123 rfl ?_
  rintro _ h1 LL2 ⟨w_1, rl_1, dl_1, kl_1, rfl, K1, F1_0, F1_1, F1_2, F1_3, F1_4, F1_5, F1_6⟩
  have K3 : Keep hs h1 [] := Kp.trans K1 all0
  show GoS _ _ _ _ _ _ _ _ _ _ _ _ _ _ 126 _ [(.ref w_1)]
  refine GoS.astore (pc' := 128) (Ls' := #[.val (.int p0), .val (.int p1), .val (.int p2), .val (.int p3), .val (.int p4), .val (.int 0), .val (.int k0), .val (.int k1), .val (.int k2), .val (.int k3), .val (.ref s), .val (.int (-1 : Int32)), .val (.ref w_1), .unset, .unset, .unset, .unset]) at_126 rfl rfl rfl ?_
  refine GoS.aload (pc' := 130) at_128 rfl rfl rfl ?_
  refine GoS.callV (cells' := 11) (slots' := 66) (pc' := 133) [] [] F1_0 (ww hw 85 rfl) (ww hw 86 rfl) (nfS (ww hw 88 rfl)) (ww hw 88 rfl) (ww hw 87 rfl) (ww hw 32 rfl) (ww hw 89 rfl) (by decide) (Con.cold (c_getT l Z a0 hw h1 w_1 s F1_0 F1_1)) pd_24 at_130 rfl ?_
  rintro _ _ _ ⟨⟨rfl, rfl⟩, rfl⟩
  show GoS _ _ _ _ _ _ _ _ _ _ _ _ _ _ 133 _ [(.ref s)]
  refine GoS.astore (pc' := 135) (Ls' := #[.val (.int p0), .val (.int p1), .val (.int p2), .val (.int p3), .val (.int p4), .val (.int 0), .val (.int k0), .val (.int k1), .val (.int k2), .val (.int k3), .val (.ref s), .val (.int (-1 : Int32)), .val (.ref w_1), .val (.ref s), .unset, .unset, .unset]) at_133 rfl rfl rfl ?_
  refine GoS.aload (pc' := 137) at_135 rfl rfl rfl ?_
  refine GoS.callV (cells' := 11) (slots' := 66) (pc' := 140) [] [] F1_0 (ww hw 90 rfl) (ww hw 91 rfl) (nfS (ww hw 93 rfl)) (ww hw 93 rfl) (ww hw 92 rfl) (ww hw 32 rfl) (ww hw 94 rfl) (by decide) (Con.cold (c_getL l Z a0 hw h1 w_1 rl_1 F1_0 F1_2)) pd_24 at_137 rfl ?_
  rintro _ _ _ ⟨⟨rfl, rfl⟩, rfl⟩
  show GoS _ _ _ _ _ _ _ _ _ _ _ _ _ _ 140 _ [(.ref rl_1)]
  refine GoS.astore (pc' := 142) (Ls' := #[.val (.int p0), .val (.int p1), .val (.int p2), .val (.int p3), .val (.int p4), .val (.int 0), .val (.int k0), .val (.int k1), .val (.int k2), .val (.int k3), .val (.ref s), .val (.int (-1 : Int32)), .val (.ref w_1), .val (.ref s), .val (.ref rl_1), .unset, .unset]) at_140 rfl rfl rfl ?_
  refine GoS.iload (pc' := 144) at_142 rfl rfl ?_
  refine GoS.ifNo (pc' := 147) at_144 (XT.i0_ge_f (by decide)) rfl ?_
  refine GoS.iload (pc' := 149) at_147 rfl rfl ?_
  refine GoS.goto (pc' := 154) at_149 (by decide) (by decide) ?_
  refine GoS.istore (pc' := 156) (Ls' := #[.val (.int p0), .val (.int p1), .val (.int p2), .val (.int p3), .val (.int p4), .val (.int 0), .val (.int k0), .val (.int k1), .val (.int k2), .val (.int k3), .val (.ref s), .val (.int (-1 : Int32)), .val (.ref w_1), .val (.ref s), .val (.ref rl_1), .val (.int 0), .unset]) at_154 rfl rfl ?_
  refine GoS.iload (pc' := 158) at_156 rfl rfl ?_
  refine GoS.ifNo (pc' := 161) at_158 (XT.i0_ge_f (by decide)) rfl ?_
  refine GoS.iconst (pc' := 162) (v := 0) at_161 rfl rfl ?_
  refine GoS.goto (pc' := 172) at_162 (by decide) (by decide) ?_
  refine GoS.istore (pc' := 174) (Ls' := #[.val (.int p0), .val (.int p1), .val (.int p2), .val (.int p3), .val (.int p4), .val (.int 0), .val (.int k0), .val (.int k1), .val (.int k2), .val (.int k3), .val (.ref s), .val (.int (-1 : Int32)), .val (.ref w_1), .val (.ref s), .val (.ref rl_1), .val (.int 0), .val (.int 0)]) at_172 rfl rfl ?_
  refine GoS.aload (pc' := 176) at_174 rfl rfl rfl ?_
  refine GoS.callV (cells' := 11) (slots' := 66) (pc' := 179) [] [] (xs.keep K1) (ww hw 95 rfl) (ww hw 51 rfl) (nfS (ww hw 53 rfl)) (ww hw 53 rfl) (ww hw 52 rfl) (ww hw 7 rfl) (ww hw 54 rfl) (by decide) (Con.cold (c_strLen0 l Z a0 hw h1 s b kb cp hcp scp (xs.keep K1) (fs.keep K1 nin0) (gs.keep K1 nin0) (vs.keep K1 nin0))) pd_11 at_176 rfl ?_
  rintro _ _ _ ⟨⟨rfl, rfl⟩, rfl⟩
  show GoS _ _ _ _ _ _ _ _ _ _ _ _ _ _ 179 _ [(.int 0)]
  refine GoS.iload (pc' := 181) at_179 rfl rfl ?_
  refine GoS.icmpNo (pc' := 184) at_181 (XT.ii_ne_f (by decide)) rfl ?_
  refine GoS.aload (pc' := 186) at_184 rfl rfl rfl ?_
  refine GoS.callV (cells' := 11) (slots' := 66) (pc' := 189) [] [] F1_3 (ww hw 95 rfl) (ww hw 51 rfl) (nfS (ww hw 53 rfl)) (ww hw 53 rfl) (ww hw 52 rfl) (ww hw 7 rfl) (ww hw 54 rfl) (by decide) (Con.cold (c_strLen0 l Z a0 hw h1 rl_1 dl_1 kl_1 cp hcp scp F1_3 F1_4 F1_5 F1_6)) pd_11 at_186 rfl ?_
  rintro _ _ _ ⟨⟨rfl, rfl⟩, rfl⟩
  show GoS _ _ _ _ _ _ _ _ _ _ _ _ _ _ 189 _ [(.int 0)]
  refine GoS.iload (pc' := 191) at_189 rfl rfl ?_
  refine GoS.icmpYes (pc' := 196) at_191 (XT.ii_eq_t (by decide)) (by decide) (by decide) ?_
  refine GoS.iconst (pc' := 197) (v := 0) at_196 rfl rfl ?_
  refine GoS.iload (pc' := 199) at_197 rfl rfl ?_
  refine GoS.iload (pc' := 201) at_199 rfl rfl ?_
  refine GoS.iload (pc' := 203) at_201 rfl rfl ?_
  refine GoS.aload (pc' := 205) at_203 rfl rfl rfl ?_
  refine GoS.aload (pc' := 207) at_205 rfl rfl rfl ?_
  refine GoS.callS (cells' := 11) (slots' := 66) (pc' := 210) [(.int 0), (.int 0), (.int (-1 : Int32)), (.int k0), (.ref s), (.ref rl_1)] [] (ww hw 96 rfl) (ww hw 97 rfl) (ww hw 3 rfl) (ww hw 98 rfl) (by decide) (Con.cold (c_atA l Z a0 hw h1 (0 : Int32) (0 : Int32) (-1 : Int32) k0 s rl_1 (by decide))) pd_25 at_207 rfl ?_
  rintro _ _ _ ⟨⟨rfl, rfl⟩, rfl⟩
  show GoS _ _ _ _ _ _ _ _ _ _ _ _ _ _ 210 _ [(.int 1)]
  refine GoS.ifNo (pc' := 213) at_210 (XT.i0_eq_f (by decide)) rfl ?_
  refine GoS.iconst (pc' := 214) (v := 1) at_213 rfl rfl ?_
  refine GoS.iload (pc' := 216) at_214 rfl rfl ?_
  refine GoS.iload (pc' := 218) at_216 rfl rfl ?_
  refine GoS.iload (pc' := 220) at_218 rfl rfl ?_
  refine GoS.aload (pc' := 222) at_220 rfl rfl rfl ?_
  refine GoS.aload (pc' := 224) at_222 rfl rfl rfl ?_
  refine GoS.callS (cells' := 11) (slots' := 66) (pc' := 227) [(.int 1), (.int 0), (.int (-1 : Int32)), (.int k1), (.ref s), (.ref rl_1)] [] (ww hw 96 rfl) (ww hw 97 rfl) (ww hw 3 rfl) (ww hw 98 rfl) (by decide) (Con.cold (c_atA l Z a0 hw h1 (1 : Int32) (0 : Int32) (-1 : Int32) k1 s rl_1 (by decide))) pd_25 at_224 rfl ?_
  rintro _ _ _ ⟨⟨rfl, rfl⟩, rfl⟩
  show GoS _ _ _ _ _ _ _ _ _ _ _ _ _ _ 227 _ [(.int 1)]
  refine GoS.ifNo (pc' := 230) at_227 (XT.i0_eq_f (by decide)) rfl ?_
  refine GoS.iconst (pc' := 231) (v := 2) at_230 rfl rfl ?_
  refine GoS.iload (pc' := 233) at_231 rfl rfl ?_
  refine GoS.iload (pc' := 235) at_233 rfl rfl ?_
  refine GoS.iload (pc' := 237) at_235 rfl rfl ?_
  refine GoS.aload (pc' := 239) at_237 rfl rfl rfl ?_
  refine GoS.aload (pc' := 241) at_239 rfl rfl rfl ?_
  refine GoS.callS (cells' := 11) (slots' := 66) (pc' := 244) [(.int 2), (.int 0), (.int (-1 : Int32)), (.int k2), (.ref s), (.ref rl_1)] [] (ww hw 96 rfl) (ww hw 97 rfl) (ww hw 3 rfl) (ww hw 98 rfl) (by decide) (Con.cold (c_atA l Z a0 hw h1 (2 : Int32) (0 : Int32) (-1 : Int32) k2 s rl_1 (by decide))) pd_25 at_241 rfl ?_
  rintro _ _ _ ⟨⟨rfl, rfl⟩, rfl⟩
  show GoS _ _ _ _ _ _ _ _ _ _ _ _ _ _ 244 _ [(.int 1)]
  refine GoS.ifNo (pc' := 247) at_244 (XT.i0_eq_f (by decide)) rfl ?_
  refine GoS.iconst (pc' := 248) (v := 3) at_247 rfl rfl ?_
  refine GoS.iload (pc' := 250) at_248 rfl rfl ?_
  refine GoS.iload (pc' := 252) at_250 rfl rfl ?_
  refine GoS.iload (pc' := 254) at_252 rfl rfl ?_
  refine GoS.aload (pc' := 256) at_254 rfl rfl rfl ?_
  refine GoS.aload (pc' := 258) at_256 rfl rfl rfl ?_
  refine GoS.callS (cells' := 11) (slots' := 66) (pc' := 261) [(.int 3), (.int 0), (.int (-1 : Int32)), (.int k3), (.ref s), (.ref rl_1)] [] (ww hw 96 rfl) (ww hw 97 rfl) (ww hw 3 rfl) (ww hw 98 rfl) (by decide) (Con.cold (c_atA l Z a0 hw h1 (3 : Int32) (0 : Int32) (-1 : Int32) k3 s rl_1 (by decide))) pd_25 at_258 rfl ?_
  rintro _ _ _ ⟨⟨rfl, rfl⟩, rfl⟩
  show GoS _ _ _ _ _ _ _ _ _ _ _ _ _ _ 261 _ [(.int 1)]
  refine GoS.ifNo (pc' := 264) at_261 (XT.i0_eq_f (by decide)) rfl ?_
  refine GoS.iconst (pc' := 265) (v := 1) at_264 rfl rfl ?_
  refine GoS.goto (pc' := 269) at_265 (by decide) (by decide) ?_
  exact GoS.retN (t := .boolean) rfl (by simp) at_269 ⟨rfl, K3⟩
theorem c_rest1_m (hw : HW a0 Z) (hs h : Heap) (p0 : Int32) (p1 : Int32) (p2 : Int32) (p3 : Int32) (p4 : Int32) (k0 : Int32) (k1 : Int32) (k2 : Int32) (k3 : Int32) (s : Addr) (b : Addr) (kb : ClassId) (cp : Int32) (wf : Value) (hcp : ¬ (cp = (0 : Int32))) (hwf : wf.isRef = true) (hcw : Jvm.Lit.compactW.before a0 Z = true) (hch7 : Jvm.Lit.constHeld Z "java/lang/String" 7) (hch26 : Jvm.Lit.constHeld Z "com/example/inquire/inquire/io/WikiLink" 26) (hch151 : Jvm.Lit.constHeld Z "java/lang/StringLatin1" 151) (hk0 : ¬ ((255 : Int32) < k0)) (hk1 : ¬ ((255 : Int32) < k1)) (hk2 : ¬ ((255 : Int32) < k2)) (hk3 : ¬ ((255 : Int32) < k3)) (hn0 : nar .char k0 = k0) (hn1 : nar .char k1 = k1) (hn2 : nar .char k2 = k2) (hn3 : nar .char k3 = k3) (hx0 : ¬ (k0 = (124 : Int32))) (scp : Sta Z Z.heap "java/lang/String" "COMPACT_STRINGS" "Z" (.int cp)) (sfm : Sta Z Z.heap "jdk/internal/util/Preconditions" "SIOOBE_FORMATTER" "Ljava/util/function/BiFunction;" wf) (xs : Exa Z h s "java/lang/String") (fs : Fld Z h s "java/lang/String" "coder" "B" (.int 0)) (gs : Fld Z h s "java/lang/String" "value" "[B" (.ref b)) (vs : Arv Z h b kb .byte (1 : Int32) [(.int k0.toInt8.toInt32)] (.int 0)) (Kp : Keep hs h []) :
    GoS l room_1 Z n0 x code maxLocals ret (fun v h' LL' => v = some (.int 1) ∧ Keep hs h' []) hs [] 8 60 h 121 #[.val (.int p0), .val (.int p1), .val (.int p2), .val (.int p3), .val (.int p4), .val (.int 1), .val (.int k0), .val (.int k1), .val (.int k2), .val (.int k3), .val (.ref s), .val (.int (-1 : Int32)), .unset, .unset, .unset, .unset, .unset] [] := by
  refine GoS.aload (pc' := 123) at_121 rfl rfl rfl ?_
  refine GoS.callS (cells' := 11) (slots' := 66) (pc' := 126) [(.ref s)] [] (ww hw 30 rfl) (ww hw 31 rfl) (ww hw 32 rfl) (ww hw 33 rfl) (by decide) (c_parse1_m l Z a0 hw h s b kb k0.toInt8.toInt32 cp wf hcp hwf hcw hch26 hch151 (own_bne hk0 hn0 hx0) scp sfm xs fs gs vs) pd_23 at_123 rfl ?_
  rintro _ h1 LL2 ⟨w_1, rl_1, dl_1, kl_1, rfl, K1, F1_0, F1_1, F1_2, F1_3, F1_4, F1_5, F1_6⟩
  have K3 : Keep hs h1 [] := Kp.trans K1 all0
  show GoS _ _ _ _ _ _ _ _ _ _ _ _ _ _ 126 _ [(.ref w_1)]
  refine GoS.astore (pc' := 128) (Ls' := #[.val (.int p0), .val (.int p1), .val (.int p2), .val (.int p3), .val (.int p4), .val (.int 1), .val (.int k0), .val (.int k1), .val (.int k2), .val (.int k3), .val (.ref s), .val (.int (-1 : Int32)), .val (.ref w_1), .unset, .unset, .unset, .unset]) at_126 rfl rfl rfl ?_
  refine GoS.aload (pc' := 130) at_128 rfl rfl rfl ?_
  refine GoS.callV (cells' := 11) (slots' := 66) (pc' := 133) [] [] F1_0 (ww hw 85 rfl) (ww hw 86 rfl) (nfS (ww hw 88 rfl)) (ww hw 88 rfl) (ww hw 87 rfl) (ww hw 32 rfl) (ww hw 89 rfl) (by decide) (Con.cold (c_getT l Z a0 hw h1 w_1 s F1_0 F1_1)) pd_24 at_130 rfl ?_
  rintro _ _ _ ⟨⟨rfl, rfl⟩, rfl⟩
  show GoS _ _ _ _ _ _ _ _ _ _ _ _ _ _ 133 _ [(.ref s)]
  refine GoS.astore (pc' := 135) (Ls' := #[.val (.int p0), .val (.int p1), .val (.int p2), .val (.int p3), .val (.int p4), .val (.int 1), .val (.int k0), .val (.int k1), .val (.int k2), .val (.int k3), .val (.ref s), .val (.int (-1 : Int32)), .val (.ref w_1), .val (.ref s), .unset, .unset, .unset]) at_133 rfl rfl rfl ?_
  refine GoS.aload (pc' := 137) at_135 rfl rfl rfl ?_
  refine GoS.callV (cells' := 11) (slots' := 66) (pc' := 140) [] [] F1_0 (ww hw 90 rfl) (ww hw 91 rfl) (nfS (ww hw 93 rfl)) (ww hw 93 rfl) (ww hw 92 rfl) (ww hw 32 rfl) (ww hw 94 rfl) (by decide) (Con.cold (c_getL l Z a0 hw h1 w_1 rl_1 F1_0 F1_2)) pd_24 at_137 rfl ?_
  rintro _ _ _ ⟨⟨rfl, rfl⟩, rfl⟩
  show GoS _ _ _ _ _ _ _ _ _ _ _ _ _ _ 140 _ [(.ref rl_1)]
  refine GoS.astore (pc' := 142) (Ls' := #[.val (.int p0), .val (.int p1), .val (.int p2), .val (.int p3), .val (.int p4), .val (.int 1), .val (.int k0), .val (.int k1), .val (.int k2), .val (.int k3), .val (.ref s), .val (.int (-1 : Int32)), .val (.ref w_1), .val (.ref s), .val (.ref rl_1), .unset, .unset]) at_140 rfl rfl rfl ?_
  refine GoS.iload (pc' := 144) at_142 rfl rfl ?_
  refine GoS.ifNo (pc' := 147) at_144 (XT.i0_ge_f (by decide)) rfl ?_
  refine GoS.iload (pc' := 149) at_147 rfl rfl ?_
  refine GoS.goto (pc' := 154) at_149 (by decide) (by decide) ?_
  refine GoS.istore (pc' := 156) (Ls' := #[.val (.int p0), .val (.int p1), .val (.int p2), .val (.int p3), .val (.int p4), .val (.int 1), .val (.int k0), .val (.int k1), .val (.int k2), .val (.int k3), .val (.ref s), .val (.int (-1 : Int32)), .val (.ref w_1), .val (.ref s), .val (.ref rl_1), .val (.int 1), .unset]) at_154 rfl rfl ?_
  refine GoS.iload (pc' := 158) at_156 rfl rfl ?_
  refine GoS.ifNo (pc' := 161) at_158 (XT.i0_ge_f (by decide)) rfl ?_
  refine GoS.iconst (pc' := 162) (v := 0) at_161 rfl rfl ?_
  refine GoS.goto (pc' := 172) at_162 (by decide) (by decide) ?_
  refine GoS.istore (pc' := 174) (Ls' := #[.val (.int p0), .val (.int p1), .val (.int p2), .val (.int p3), .val (.int p4), .val (.int 1), .val (.int k0), .val (.int k1), .val (.int k2), .val (.int k3), .val (.ref s), .val (.int (-1 : Int32)), .val (.ref w_1), .val (.ref s), .val (.ref rl_1), .val (.int 1), .val (.int 0)]) at_172 rfl rfl ?_
  refine GoS.aload (pc' := 176) at_174 rfl rfl rfl ?_
  refine GoS.callV (cells' := 11) (slots' := 66) (pc' := 179) [] [] (xs.keep K1) (ww hw 95 rfl) (ww hw 51 rfl) (nfS (ww hw 53 rfl)) (ww hw 53 rfl) (ww hw 52 rfl) (ww hw 7 rfl) (ww hw 54 rfl) (by decide) (Con.cold (c_strLen1 l Z a0 hw h1 s b kb k0.toInt8.toInt32 cp hcp scp (xs.keep K1) (fs.keep K1 nin0) (gs.keep K1 nin0) (vs.keep K1 nin0))) pd_11 at_176 rfl ?_
  rintro _ _ _ ⟨⟨rfl, rfl⟩, rfl⟩
  show GoS _ _ _ _ _ _ _ _ _ _ _ _ _ _ 179 _ [(.int 1)]
  refine GoS.iload (pc' := 181) at_179 rfl rfl ?_
  refine GoS.icmpNo (pc' := 184) at_181 (XT.ii_ne_f (by decide)) rfl ?_
  refine GoS.aload (pc' := 186) at_184 rfl rfl rfl ?_
  refine GoS.callV (cells' := 11) (slots' := 66) (pc' := 189) [] [] F1_3 (ww hw 95 rfl) (ww hw 51 rfl) (nfS (ww hw 53 rfl)) (ww hw 53 rfl) (ww hw 52 rfl) (ww hw 7 rfl) (ww hw 54 rfl) (by decide) (Con.cold (c_strLen0 l Z a0 hw h1 rl_1 dl_1 kl_1 cp hcp scp F1_3 F1_4 F1_5 F1_6)) pd_11 at_186 rfl ?_
  rintro _ _ _ ⟨⟨rfl, rfl⟩, rfl⟩
  show GoS _ _ _ _ _ _ _ _ _ _ _ _ _ _ 189 _ [(.int 0)]
  refine GoS.iload (pc' := 191) at_189 rfl rfl ?_
  refine GoS.icmpYes (pc' := 196) at_191 (XT.ii_eq_t (by decide)) (by decide) (by decide) ?_
  refine GoS.iconst (pc' := 197) (v := 0) at_196 rfl rfl ?_
  refine GoS.iload (pc' := 199) at_197 rfl rfl ?_
  refine GoS.iload (pc' := 201) at_199 rfl rfl ?_
  refine GoS.iload (pc' := 203) at_201 rfl rfl ?_
  refine GoS.aload (pc' := 205) at_203 rfl rfl rfl ?_
  refine GoS.aload (pc' := 207) at_205 rfl rfl rfl ?_
  refine GoS.callS (cells' := 11) (slots' := 66) (pc' := 210) [(.int 0), (.int 1), (.int (-1 : Int32)), (.int k0), (.ref s), (.ref rl_1)] [] (ww hw 96 rfl) (ww hw 97 rfl) (ww hw 3 rfl) (ww hw 98 rfl) (by decide) (Con.cold (c_atB0m l Z a0 hw h1 (1 : Int32) k0 s rl_1 b kb (1 : Int32) ([(.int k0.toInt8.toInt32)]) k0.toInt8.toInt32 cp wf hcp hwf (by decide) (by decide) rfl (own_b255 hk0 hn0) scp sfm (xs.keep K1) (fs.keep K1 nin0) (gs.keep K1 nin0) (vs.keep K1 nin0))) pd_25 at_207 rfl ?_
  rintro _ _ _ ⟨⟨rfl, rfl⟩, rfl⟩
  show GoS _ _ _ _ _ _ _ _ _ _ _ _ _ _ 210 _ [(.int 1)]
  refine GoS.ifNo (pc' := 213) at_210 (XT.i0_eq_f (by decide)) rfl ?_
  refine GoS.iconst (pc' := 214) (v := 1) at_213 rfl rfl ?_
  refine GoS.iload (pc' := 216) at_214 rfl rfl ?_
  refine GoS.iload (pc' := 218) at_216 rfl rfl ?_
  refine GoS.iload (pc' := 220) at_218 rfl rfl ?_
  refine GoS.aload (pc' := 222) at_220 rfl rfl rfl ?_
  refine GoS.aload (pc' := 224) at_222 rfl rfl rfl ?_
  refine GoS.callS (cells' := 11) (slots' := 66) (pc' := 227) [(.int 1), (.int 1), (.int (-1 : Int32)), (.int k1), (.ref s), (.ref rl_1)] [] (ww hw 96 rfl) (ww hw 97 rfl) (ww hw 3 rfl) (ww hw 98 rfl) (by decide) (Con.cold (c_atA l Z a0 hw h1 (1 : Int32) (1 : Int32) (-1 : Int32) k1 s rl_1 (by decide))) pd_25 at_224 rfl ?_
  rintro _ _ _ ⟨⟨rfl, rfl⟩, rfl⟩
  show GoS _ _ _ _ _ _ _ _ _ _ _ _ _ _ 227 _ [(.int 1)]
  refine GoS.ifNo (pc' := 230) at_227 (XT.i0_eq_f (by decide)) rfl ?_
  refine GoS.iconst (pc' := 231) (v := 2) at_230 rfl rfl ?_
  refine GoS.iload (pc' := 233) at_231 rfl rfl ?_
  refine GoS.iload (pc' := 235) at_233 rfl rfl ?_
  refine GoS.iload (pc' := 237) at_235 rfl rfl ?_
  refine GoS.aload (pc' := 239) at_237 rfl rfl rfl ?_
  refine GoS.aload (pc' := 241) at_239 rfl rfl rfl ?_
  refine GoS.callS (cells' := 11) (slots' := 66) (pc' := 244) [(.int 2), (.int 1), (.int (-1 : Int32)), (.int k2), (.ref s), (.ref rl_1)] [] (ww hw 96 rfl) (ww hw 97 rfl) (ww hw 3 rfl) (ww hw 98 rfl) (by decide) (Con.cold (c_atA l Z a0 hw h1 (2 : Int32) (1 : Int32) (-1 : Int32) k2 s rl_1 (by decide))) pd_25 at_241 rfl ?_
  rintro _ _ _ ⟨⟨rfl, rfl⟩, rfl⟩
  show GoS _ _ _ _ _ _ _ _ _ _ _ _ _ _ 244 _ [(.int 1)]
  refine GoS.ifNo (pc' := 247) at_244 (XT.i0_eq_f (by decide)) rfl ?_
  refine GoS.iconst (pc' := 248) (v := 3) at_247 rfl rfl ?_
  refine GoS.iload (pc' := 250) at_248 rfl rfl ?_
  refine GoS.iload (pc' := 252) at_250 rfl rfl ?_
  refine GoS.iload (pc' := 254) at_252 rfl rfl ?_
  refine GoS.aload (pc' := 256) at_254 rfl rfl rfl ?_
  refine GoS.aload (pc' := 258) at_256 rfl rfl rfl ?_
  refine GoS.callS (cells' := 11) (slots' := 66) (pc' := 261) [(.int 3), (.int 1), (.int (-1 : Int32)), (.int k3), (.ref s), (.ref rl_1)] [] (ww hw 96 rfl) (ww hw 97 rfl) (ww hw 3 rfl) (ww hw 98 rfl) (by decide) (Con.cold (c_atA l Z a0 hw h1 (3 : Int32) (1 : Int32) (-1 : Int32) k3 s rl_1 (by decide))) pd_25 at_258 rfl ?_
  rintro _ _ _ ⟨⟨rfl, rfl⟩, rfl⟩
  show GoS _ _ _ _ _ _ _ _ _ _ _ _ _ _ 261 _ [(.int 1)]
  refine GoS.ifNo (pc' := 264) at_261 (XT.i0_eq_f (by decide)) rfl ?_
  refine GoS.iconst (pc' := 265) (v := 1) at_264 rfl rfl ?_
  refine GoS.goto (pc' := 269) at_265 (by decide) (by decide) ?_
  exact GoS.retN (t := .boolean) rfl (by simp) at_269 ⟨rfl, K3⟩
theorem c_rest1_0 (hw : HW a0 Z) (hs h : Heap) (p0 : Int32) (p1 : Int32) (p2 : Int32) (p3 : Int32) (p4 : Int32) (k0 : Int32) (k1 : Int32) (k2 : Int32) (k3 : Int32) (s : Addr) (b : Addr) (kb : ClassId) (cp : Int32) (wf : Value) (hcp : ¬ (cp = (0 : Int32))) (hwf : wf.isRef = true) (hcw : Jvm.Lit.compactW.before a0 Z = true) (hch7 : Jvm.Lit.constHeld Z "java/lang/String" 7) (hch26 : Jvm.Lit.constHeld Z "com/example/inquire/inquire/io/WikiLink" 26) (hch151 : Jvm.Lit.constHeld Z "java/lang/StringLatin1" 151) (hk0 : ¬ ((255 : Int32) < k0)) (hk1 : ¬ ((255 : Int32) < k1)) (hk2 : ¬ ((255 : Int32) < k2)) (hk3 : ¬ ((255 : Int32) < k3)) (hn0 : nar .char k0 = k0) (hn1 : nar .char k1 = k1) (hn2 : nar .char k2 = k2) (hn3 : nar .char k3 = k3) (hx0 : k0 = (124 : Int32)) (scp : Sta Z Z.heap "java/lang/String" "COMPACT_STRINGS" "Z" (.int cp)) (sfm : Sta Z Z.heap "jdk/internal/util/Preconditions" "SIOOBE_FORMATTER" "Ljava/util/function/BiFunction;" wf) (xs : Exa Z h s "java/lang/String") (fs : Fld Z h s "java/lang/String" "coder" "B" (.int 0)) (gs : Fld Z h s "java/lang/String" "value" "[B" (.ref b)) (vs : Arv Z h b kb .byte (1 : Int32) [(.int k0.toInt8.toInt32)] (.int 0)) (Kp : Keep hs h []) :
    GoS l room_1 Z n0 x code maxLocals ret (fun v h' LL' => v = some (.int 1) ∧ Keep hs h' []) hs [] 8 60 h 121 #[.val (.int p0), .val (.int p1), .val (.int p2), .val (.int p3), .val (.int p4), .val (.int 1), .val (.int k0), .val (.int k1), .val (.int k2), .val (.int k3), .val (.ref s), .val (.int 0), .unset, .unset, .unset, .unset, .unset] [] := by
  refine GoS.aload (pc' := 123) at_121 rfl rfl rfl ?_
  refine GoS.callS (cells' := 11) (slots' := 66) (pc' := 126) [(.ref s)] [] (ww hw 30 rfl) (ww hw 31 rfl) (ww hw 32 rfl) (ww hw 33 rfl) (by decide) (c_parse1_0 l Z a0 hw h s b kb k0.toInt8.toInt32 cp wf hcp hwf hcw hch26 hch151 (own_beq hx0) scp sfm xs fs gs vs) pd_23 at_123 rfl ?_
  rintro _ h1 LL2 ⟨w_1, rt_1, dt_1, kt_1, rl_1, dl_1, kl_1, rfl, K1, F1_0, F1_1, F1_2, F1_3, F1_4, F1_5, F1_6, F1_7, F1_8, F1_9, F1_10⟩
  have K3 : Keep hs h1 [] := Kp.trans K1 all0
  show GoS _ _ _ _ _ _ _ _ _ _ _ _ _ _ 126 _ [(.ref w_1)]
  refine GoS.astore (pc' := 128) (Ls' := #[.val (.int p0), .val (.int p1), .val (.int p2), .val (.int p3), .val (.int p4), .val (.int 1), .val (.int k0), .val (.int k1), .val (.int k2), .val (.int k3), .val (.ref s), .val (.int 0), .val (.ref w_1), .unset, .unset, .unset, .unset]) at_126 rfl rfl rfl ?_
  refine GoS.aload (pc' := 130) at_128 rfl rfl rfl ?_
  refine GoS.callV (cells' := 11) (slots' := 66) (pc' := 133) [] [] F1_0 (ww hw 85 rfl) (ww hw 86 rfl) (nfS (ww hw 88 rfl)) (ww hw 88 rfl) (ww hw 87 rfl) (ww hw 32 rfl) (ww hw 89 rfl) (by decide) (Con.cold (c_getT l Z a0 hw h1 w_1 rt_1 F1_0 F1_1)) pd_24 at_130 rfl ?_
  rintro _ _ _ ⟨⟨rfl, rfl⟩, rfl⟩
  show GoS _ _ _ _ _ _ _ _ _ _ _ _ _ _ 133 _ [(.ref rt_1)]
  refine GoS.astore (pc' := 135) (Ls' := #[.val (.int p0), .val (.int p1), .val (.int p2), .val (.int p3), .val (.int p4), .val (.int 1), .val (.int k0), .val (.int k1), .val (.int k2), .val (.int k3), .val (.ref s), .val (.int 0), .val (.ref w_1), .val (.ref rt_1), .unset, .unset, .unset]) at_133 rfl rfl rfl ?_
  refine GoS.aload (pc' := 137) at_135 rfl rfl rfl ?_
  refine GoS.callV (cells' := 11) (slots' := 66) (pc' := 140) [] [] F1_0 (ww hw 90 rfl) (ww hw 91 rfl) (nfS (ww hw 93 rfl)) (ww hw 93 rfl) (ww hw 92 rfl) (ww hw 32 rfl) (ww hw 94 rfl) (by decide) (Con.cold (c_getL l Z a0 hw h1 w_1 rl_1 F1_0 F1_2)) pd_24 at_137 rfl ?_
  rintro _ _ _ ⟨⟨rfl, rfl⟩, rfl⟩
  show GoS _ _ _ _ _ _ _ _ _ _ _ _ _ _ 140 _ [(.ref rl_1)]
  refine GoS.astore (pc' := 142) (Ls' := #[.val (.int p0), .val (.int p1), .val (.int p2), .val (.int p3), .val (.int p4), .val (.int 1), .val (.int k0), .val (.int k1), .val (.int k2), .val (.int k3), .val (.ref s), .val (.int 0), .val (.ref w_1), .val (.ref rt_1), .val (.ref rl_1), .unset, .unset]) at_140 rfl rfl rfl ?_
  refine GoS.iload (pc' := 144) at_142 rfl rfl ?_
  refine GoS.ifYes (pc' := 152) at_144 (XT.i0_ge_t (by decide)) (by decide) (by decide) ?_
  refine GoS.iload (pc' := 154) at_152 rfl rfl ?_
  refine GoS.istore (pc' := 156) (Ls' := #[.val (.int p0), .val (.int p1), .val (.int p2), .val (.int p3), .val (.int p4), .val (.int 1), .val (.int k0), .val (.int k1), .val (.int k2), .val (.int k3), .val (.ref s), .val (.int 0), .val (.ref w_1), .val (.ref rt_1), .val (.ref rl_1), .val (.int 0), .unset]) at_154 rfl rfl ?_
  refine GoS.iload (pc' := 158) at_156 rfl rfl ?_
  refine GoS.ifYes (pc' := 165) at_158 (XT.i0_ge_t (by decide)) (by decide) (by decide) ?_
  refine GoS.iload (pc' := 167) at_165 rfl rfl ?_
  refine GoS.iload (pc' := 169) at_167 rfl rfl ?_
  refine GoS.isub (pc' := 170) at_169 rfl ?_
  show GoS _ _ _ _ _ _ _ _ _ _ _ _ _ _ 170 _ [(.int 1)]
  refine GoS.iconst (pc' := 171) (v := 1) at_170 rfl rfl ?_
  refine GoS.isub (pc' := 172) at_171 rfl ?_
  show GoS _ _ _ _ _ _ _ _ _ _ _ _ _ _ 172 _ [(.int 0)]
  refine GoS.istore (pc' := 174) (Ls' := #[.val (.int p0), .val (.int p1), .val (.int p2), .val (.int p3), .val (.int p4), .val (.int 1), .val (.int k0), .val (.int k1), .val (.int k2), .val (.int k3), .val (.ref s), .val (.int 0), .val (.ref w_1), .val (.ref rt_1), .val (.ref rl_1), .val (.int 0), .val (.int 0)]) at_172 rfl rfl ?_
  refine GoS.aload (pc' := 176) at_174 rfl rfl rfl ?_
  refine GoS.callV (cells' := 11) (slots' := 66) (pc' := 179) [] [] F1_3 (ww hw 95 rfl) (ww hw 51 rfl) (nfS (ww hw 53 rfl)) (ww hw 53 rfl) (ww hw 52 rfl) (ww hw 7 rfl) (ww hw 54 rfl) (by decide) (Con.cold (c_strLen0 l Z a0 hw h1 rt_1 dt_1 kt_1 cp hcp scp F1_3 F1_4 F1_5 F1_6)) pd_11 at_176 rfl ?_
  rintro _ _ _ ⟨⟨rfl, rfl⟩, rfl⟩
  show GoS _ _ _ _ _ _ _ _ _ _ _ _ _ _ 179 _ [(.int 0)]
  refine GoS.iload (pc' := 181) at_179 rfl rfl ?_
  refine GoS.icmpNo (pc' := 184) at_181 (XT.ii_ne_f (by decide)) rfl ?_
  refine GoS.aload (pc' := 186) at_184 rfl rfl rfl ?_
  refine GoS.callV (cells' := 11) (slots' := 66) (pc' := 189) [] [] F1_7 (ww hw 95 rfl) (ww hw 51 rfl) (nfS (ww hw 53 rfl)) (ww hw 53 rfl) (ww hw 52 rfl) (ww hw 7 rfl) (ww hw 54 rfl) (by decide) (Con.cold (c_strLen0 l Z a0 hw h1 rl_1 dl_1 kl_1 cp hcp scp F1_7 F1_8 F1_9 F1_10)) pd_11 at_186 rfl ?_
  rintro _ _ _ ⟨⟨rfl, rfl⟩, rfl⟩
  show GoS _ _ _ _ _ _ _ _ _ _ _ _ _ _ 189 _ [(.int 0)]
  refine GoS.iload (pc' := 191) at_189 rfl rfl ?_
  refine GoS.icmpYes (pc' := 196) at_191 (XT.ii_eq_t (by decide)) (by decide) (by decide) ?_
  refine GoS.iconst (pc' := 197) (v := 0) at_196 rfl rfl ?_
  refine GoS.iload (pc' := 199) at_197 rfl rfl ?_
  refine GoS.iload (pc' := 201) at_199 rfl rfl ?_
  refine GoS.iload (pc' := 203) at_201 rfl rfl ?_
  refine GoS.aload (pc' := 205) at_203 rfl rfl rfl ?_
  refine GoS.aload (pc' := 207) at_205 rfl rfl rfl ?_
  refine GoS.callS (cells' := 11) (slots' := 66) (pc' := 210) [(.int 0), (.int 1), (.int 0), (.int k0), (.ref rt_1), (.ref rl_1)] [] (ww hw 96 rfl) (ww hw 97 rfl) (ww hw 3 rfl) (ww hw 98 rfl) (by decide) (Con.cold (c_atC0 l Z a0 hw h1 (1 : Int32) k0 rt_1 rl_1 (by decide) hx0)) pd_25 at_207 rfl ?_
  rintro _ _ _ ⟨⟨rfl, rfl⟩, rfl⟩
  show GoS _ _ _ _ _ _ _ _ _ _ _ _ _ _ 210 _ [(.int 1)]
  refine GoS.ifNo (pc' := 213) at_210 (XT.i0_eq_f (by decide)) rfl ?_
  refine GoS.iconst (pc' := 214) (v := 1) at_213 rfl rfl ?_
  refine GoS.iload (pc' := 216) at_214 rfl rfl ?_
  refine GoS.iload (pc' := 218) at_216 rfl rfl ?_
  refine GoS.iload (pc' := 220) at_218 rfl rfl ?_
  refine GoS.aload (pc' := 222) at_220 rfl rfl rfl ?_
  refine GoS.aload (pc' := 224) at_222 rfl rfl rfl ?_
  refine GoS.callS (cells' := 11) (slots' := 66) (pc' := 227) [(.int 1), (.int 1), (.int 0), (.int k1), (.ref rt_1), (.ref rl_1)] [] (ww hw 96 rfl) (ww hw 97 rfl) (ww hw 3 rfl) (ww hw 98 rfl) (by decide) (Con.cold (c_atA l Z a0 hw h1 (1 : Int32) (1 : Int32) (0 : Int32) k1 rt_1 rl_1 (by decide))) pd_25 at_224 rfl ?_
  rintro _ _ _ ⟨⟨rfl, rfl⟩, rfl⟩
  show GoS _ _ _ _ _ _ _ _ _ _ _ _ _ _ 227 _ [(.int 1)]
  refine GoS.ifNo (pc' := 230) at_227 (XT.i0_eq_f (by decide)) rfl ?_
  refine GoS.iconst (pc' := 231) (v := 2) at_230 rfl rfl ?_
  refine GoS.iload (pc' := 233) at_231 rfl rfl ?_
  refine GoS.iload (pc' := 235) at_233 rfl rfl ?_
  refine GoS.iload (pc' := 237) at_235 rfl rfl ?_
  refine GoS.aload (pc' := 239) at_237 rfl rfl rfl ?_
  refine GoS.aload (pc' := 241) at_239 rfl rfl rfl ?_
  refine GoS.callS (cells' := 11) (slots' := 66) (pc' := 244) [(.int 2), (.int 1), (.int 0), (.int k2), (.ref rt_1), (.ref rl_1)] [] (ww hw 96 rfl) (ww hw 97 rfl) (ww hw 3 rfl) (ww hw 98 rfl) (by decide) (Con.cold (c_atA l Z a0 hw h1 (2 : Int32) (1 : Int32) (0 : Int32) k2 rt_1 rl_1 (by decide))) pd_25 at_241 rfl ?_
  rintro _ _ _ ⟨⟨rfl, rfl⟩, rfl⟩
  show GoS _ _ _ _ _ _ _ _ _ _ _ _ _ _ 244 _ [(.int 1)]
  refine GoS.ifNo (pc' := 247) at_244 (XT.i0_eq_f (by decide)) rfl ?_
  refine GoS.iconst (pc' := 248) (v := 3) at_247 rfl rfl ?_
  refine GoS.iload (pc' := 250) at_248 rfl rfl ?_
  refine GoS.iload (pc' := 252) at_250 rfl rfl ?_
  refine GoS.iload (pc' := 254) at_252 rfl rfl ?_
  refine GoS.aload (pc' := 256) at_254 rfl rfl rfl ?_
  refine GoS.aload (pc' := 258) at_256 rfl rfl rfl ?_
  refine GoS.callS (cells' := 11) (slots' := 66) (pc' := 261) [(.int 3), (.int 1), (.int 0), (.int k3), (.ref rt_1), (.ref rl_1)] [] (ww hw 96 rfl) (ww hw 97 rfl) (ww hw 3 rfl) (ww hw 98 rfl) (by decide) (Con.cold (c_atA l Z a0 hw h1 (3 : Int32) (1 : Int32) (0 : Int32) k3 rt_1 rl_1 (by decide))) pd_25 at_258 rfl ?_
  rintro _ _ _ ⟨⟨rfl, rfl⟩, rfl⟩
  show GoS _ _ _ _ _ _ _ _ _ _ _ _ _ _ 261 _ [(.int 1)]
  refine GoS.ifNo (pc' := 264) at_261 (XT.i0_eq_f (by decide)) rfl ?_
  refine GoS.iconst (pc' := 265) (v := 1) at_264 rfl rfl ?_
  refine GoS.goto (pc' := 269) at_265 (by decide) (by decide) ?_
  exact GoS.retN (t := .boolean) rfl (by simp) at_269 ⟨rfl, K3⟩
theorem c_rest2_m (hw : HW a0 Z) (hs h : Heap) (p0 : Int32) (p1 : Int32) (p2 : Int32) (p3 : Int32) (p4 : Int32) (k0 : Int32) (k1 : Int32) (k2 : Int32) (k3 : Int32) (s : Addr) (b : Addr) (kb : ClassId) (cp : Int32) (wf : Value) (hcp : ¬ (cp = (0 : Int32))) (hwf : wf.isRef = true) (hcw : Jvm.Lit.compactW.before a0 Z = true) (hch7 : Jvm.Lit.constHeld Z "java/lang/String" 7) (hch26 : Jvm.Lit.constHeld Z "com/example/inquire/inquire/io/WikiLink" 26) (hch151 : Jvm.Lit.constHeld Z "java/lang/StringLatin1" 151) (hk0 : ¬ ((255 : Int32) < k0)) (hk1 : ¬ ((255 : Int32) < k1)) (hk2 : ¬ ((255 : Int32) < k2)) (hk3 : ¬ ((255 : Int32) < k3)) (hn0 : nar .char k0 = k0) (hn1 : nar .char k1 = k1) (hn2 : nar .char k2 = k2) (hn3 : nar .char k3 = k3) (hx0 : ¬ (k0 = (124 : Int32))) (hx1 : ¬ (k1 = (124 : Int32))) (scp : Sta Z Z.heap "java/lang/String" "COMPACT_STRINGS" "Z" (.int cp)) (sfm : Sta Z Z.heap "jdk/internal/util/Preconditions" "SIOOBE_FORMATTER" "Ljava/util/function/BiFunction;" wf) (xs : Exa Z h s "java/lang/String") (fs : Fld Z h s "java/lang/String" "coder" "B" (.int 0)) (gs : Fld Z h s "java/lang/String" "value" "[B" (.ref b)) (vs : Arv Z h b kb .byte (2 : Int32) [(.int k0.toInt8.toInt32), (.int k1.toInt8.toInt32)] (.int 0)) (Kp : Keep hs h []) :
    GoS l room_1 Z n0 x code maxLocals ret (fun v h' LL' => v = some (.int 1) ∧ Keep hs h' []) hs [] 8 60 h 121 #[.val (.int p0), .val (.int p1), .val (.int p2), .val (.int p3), .val (.int p4), .val (.int 2), .val (.int k0), .val (.int k1), .val (.int k2), .val (.int k3), .val (.ref s), .val (.int (-1 : Int32)), .unset, .unset, .unset, .unset, .unset] [] := by
  refine GoS.aload (pc' := 123) at_121 rfl rfl rfl ?_
  refine GoS.callS (cells' := 11) (slots' := 66) (pc' := 126) [(.ref s)] [] (ww hw 30 rfl) (ww hw 31 rfl) (ww hw 32 rfl) (ww hw 33 rfl) (by decide) (c_parse2_m l Z a0 hw h s b kb k0.toInt8.toInt32 k1.toInt8.toInt32 cp wf hcp hwf hcw hch26 hch151 (own_bne hk0 hn0 hx0) (own_bne hk1 hn1 hx1) scp sfm xs fs gs vs) pd_23 at_123 rfl ?_
  rintro _ h1 LL2 ⟨w_1, rl_1, dl_1, kl_1, rfl, K1, F1_0, F1_1, F1_2, F1_3, F1_4, F1_5, F1_6⟩
  have K3 : Keep hs h1 [] := Kp.trans K1 all0
  show GoS _ _ _ _ _ _ _ _ _ _ _ _ _ _ 126 _ [(.ref w_1)]
  refine GoS.astore (pc' := 128) (Ls' := #[.val (.int p0), .val (.int p1), .val (.int p2), .val (.int p3), .val (.int p4), .val (.int 2), .val (.int k0), .val (.int k1), .val (.int k2), .val (.int k3), .val (.ref s), .val (.int (-1 : Int32)), .val (.ref w_1), .unset, .unset, .unset, .unset]) at_126 rfl rfl rfl ?_
  refine GoS.aload (pc' := 130) at_128 rfl rfl rfl ?_
  refine GoS.callV (cells' := 11) (slots' := 66) (pc' := 133) [] [] F1_0 (ww hw 85 rfl) (ww hw 86 rfl) (nfS (ww hw 88 rfl)) (ww hw 88 rfl) (ww hw 87 rfl) (ww hw 32 rfl) (ww hw 89 rfl) (by decide) (Con.cold (c_getT l Z a0 hw h1 w_1 s F1_0 F1_1)) pd_24 at_130 rfl ?_
  rintro _ _ _ ⟨⟨rfl, rfl⟩, rfl⟩
  show GoS _ _ _ _ _ _ _ _ _ _ _ _ _ _ 133 _ [(.ref s)]
  refine GoS.astore (pc' := 135) (Ls' := #[.val (.int p0), .val (.int p1), .val (.int p2), .val (.int p3), .val (.int p4), .val (.int 2), .val (.int k0), .val (.int k1), .val (.int k2), .val (.int k3), .val (.ref s), .val (.int (-1 : Int32)), .val (.ref w_1), .val (.ref s), .unset, .unset, .unset]) at_133 rfl rfl rfl ?_
  refine GoS.aload (pc' := 137) at_135 rfl rfl rfl ?_
  refine GoS.callV (cells' := 11) (slots' := 66) (pc' := 140) [] [] F1_0 (ww hw 90 rfl) (ww hw 91 rfl) (nfS (ww hw 93 rfl)) (ww hw 93 rfl) (ww hw 92 rfl) (ww hw 32 rfl) (ww hw 94 rfl) (by decide) (Con.cold (c_getL l Z a0 hw h1 w_1 rl_1 F1_0 F1_2)) pd_24 at_137 rfl ?_
  rintro _ _ _ ⟨⟨rfl, rfl⟩, rfl⟩
  show GoS _ _ _ _ _ _ _ _ _ _ _ _ _ _ 140 _ [(.ref rl_1)]
  refine GoS.astore (pc' := 142) (Ls' := #[.val (.int p0), .val (.int p1), .val (.int p2), .val (.int p3), .val (.int p4), .val (.int 2), .val (.int k0), .val (.int k1), .val (.int k2), .val (.int k3), .val (.ref s), .val (.int (-1 : Int32)), .val (.ref w_1), .val (.ref s), .val (.ref rl_1), .unset, .unset]) at_140 rfl rfl rfl ?_
  refine GoS.iload (pc' := 144) at_142 rfl rfl ?_
  refine GoS.ifNo (pc' := 147) at_144 (XT.i0_ge_f (by decide)) rfl ?_
  refine GoS.iload (pc' := 149) at_147 rfl rfl ?_
  refine GoS.goto (pc' := 154) at_149 (by decide) (by decide) ?_
  refine GoS.istore (pc' := 156) (Ls' := #[.val (.int p0), .val (.int p1), .val (.int p2), .val (.int p3), .val (.int p4), .val (.int 2), .val (.int k0), .val (.int k1), .val (.int k2), .val (.int k3), .val (.ref s), .val (.int (-1 : Int32)), .val (.ref w_1), .val (.ref s), .val (.ref rl_1), .val (.int 2), .unset]) at_154 rfl rfl ?_
  refine GoS.iload (pc' := 158) at_156 rfl rfl ?_
  refine GoS.ifNo (pc' := 161) at_158 (XT.i0_ge_f (by decide)) rfl ?_
  refine GoS.iconst (pc' := 162) (v := 0) at_161 rfl rfl ?_
  refine GoS.goto (pc' := 172) at_162 (by decide) (by decide) ?_
  refine GoS.istore (pc' := 174) (Ls' := #[.val (.int p0), .val (.int p1), .val (.int p2), .val (.int p3), .val (.int p4), .val (.int 2), .val (.int k0), .val (.int k1), .val (.int k2), .val (.int k3), .val (.ref s), .val (.int (-1 : Int32)), .val (.ref w_1), .val (.ref s), .val (.ref rl_1), .val (.int 2), .val (.int 0)]) at_172 rfl rfl ?_
  refine GoS.aload (pc' := 176) at_174 rfl rfl rfl ?_
  refine GoS.callV (cells' := 11) (slots' := 66) (pc' := 179) [] [] (xs.keep K1) (ww hw 95 rfl) (ww hw 51 rfl) (nfS (ww hw 53 rfl)) (ww hw 53 rfl) (ww hw 52 rfl) (ww hw 7 rfl) (ww hw 54 rfl) (by decide) (Con.cold (c_strLen2 l Z a0 hw h1 s b kb k0.toInt8.toInt32 k1.toInt8.toInt32 cp hcp scp (xs.keep K1) (fs.keep K1 nin0) (gs.keep K1 nin0) (vs.keep K1 nin0))) pd_11 at_176 rfl ?_
  rintro _ _ _ ⟨⟨rfl, rfl⟩, rfl⟩
  show GoS _ _ _ _ _ _ _ _ _ _ _ _ _ _ 179 _ [(.int 2)]
  refine GoS.iload (pc' := 181) at_179 rfl rfl ?_
  refine GoS.icmpNo (pc' := 184) at_181 (XT.ii_ne_f (by decide)) rfl ?_
  refine GoS.aload (pc' := 186) at_184 rfl rfl rfl ?_
  refine GoS.callV (cells' := 11) (slots' := 66) (pc' := 189) [] [] F1_3 (ww hw 95 rfl) (ww hw 51 rfl) (nfS (ww hw 53 rfl)) (ww hw 53 rfl) (ww hw 52 rfl) (ww hw 7 rfl) (ww hw 54 rfl) (by decide) (Con.cold (c_strLen0 l Z a0 hw h1 rl_1 dl_1 kl_1 cp hcp scp F1_3 F1_4 F1_5 F1_6)) pd_11 at_186 rfl ?_
  rintro _ _ _ ⟨⟨rfl, rfl⟩, rfl⟩
  show GoS _ _ _ _ _ _ _ _ _ _ _ _ _ _ 189 _ [(.int 0)]
  refine GoS.iload (pc' := 191) at_189 rfl rfl ?_
  refine GoS.icmpYes (pc' := 196) at_191 (XT.ii_eq_t (by decide)) (by decide) (by decide) ?_
  refine GoS.iconst (pc' := 197) (v := 0) at_196 rfl rfl ?_
  refine GoS.iload (pc' := 199) at_197 rfl rfl ?_
  refine GoS.iload (pc' := 201) at_199 rfl rfl ?_
  refine GoS.iload (pc' := 203) at_201 rfl rfl ?_
  refine GoS.aload (pc' := 205) at_203 rfl rfl rfl ?_
  refine GoS.aload (pc' := 207) at_205 rfl rfl rfl ?_
  refine GoS.callS (cells' := 11) (slots' := 66) (pc' := 210) [(.int 0), (.int 2), (.int (-1 : Int32)), (.int k0), (.ref s), (.ref rl_1)] [] (ww hw 96 rfl) (ww hw 97 rfl) (ww hw 3 rfl) (ww hw 98 rfl) (by decide) (Con.cold (c_atB0m l Z a0 hw h1 (2 : Int32) k0 s rl_1 b kb (2 : Int32) ([(.int k0.toInt8.toInt32), (.int k1.toInt8.toInt32)]) k0.toInt8.toInt32 cp wf hcp hwf (by decide) (by decide) rfl (own_b255 hk0 hn0) scp sfm (xs.keep K1) (fs.keep K1 nin0) (gs.keep K1 nin0) (vs.keep K1 nin0))) pd_25 at_207 rfl ?_
  rintro _ _ _ ⟨⟨rfl, rfl⟩, rfl⟩
  show GoS _ _ _ _ _ _ _ _ _ _ _ _ _ _ 210 _ [(.int 1)]
  refine GoS.ifNo (pc' := 213) at_210 (XT.i0_eq_f (by decide)) rfl ?_
  refine GoS.iconst (pc' := 214) (v := 1) at_213 rfl rfl ?_
  refine GoS.iload (pc' := 216) at_214 rfl rfl ?_
  refine GoS.iload (pc' := 218) at_216 rfl rfl ?_
  refine GoS.iload (pc' := 220) at_218 rfl rfl ?_
  refine GoS.aload (pc' := 222) at_220 rfl rfl rfl ?_
  refine GoS.aload (pc' := 224) at_222 rfl rfl rfl ?_
  refine GoS.callS (cells' := 11) (slots' := 66) (pc' := 227) [(.int 1), (.int 2), (.int (-1 : Int32)), (.int k1), (.ref s), (.ref rl_1)] [] (ww hw 96 rfl) (ww hw 97 rfl) (ww hw 3 rfl) (ww hw 98 rfl) (by decide) (Con.cold (c_atB1m l Z a0 hw h1 (2 : Int32) k1 s rl_1 b kb (2 : Int32) ([(.int k0.toInt8.toInt32), (.int k1.toInt8.toInt32)]) k1.toInt8.toInt32 cp wf hcp hwf (by decide) (by decide) rfl (own_b255 hk1 hn1) scp sfm (xs.keep K1) (fs.keep K1 nin0) (gs.keep K1 nin0) (vs.keep K1 nin0))) pd_25 at_224 rfl ?_
  rintro _ _ _ ⟨⟨rfl, rfl⟩, rfl⟩
  show GoS _ _ _ _ _ _ _ _ _ _ _ _ _ _ 227 _ [(.int 1)]
  refine GoS.ifNo (pc' := 230) at_227 (XT.i0_eq_f (by decide)) rfl ?_
  refine GoS.iconst (pc' := 231) (v := 2) at_230 rfl rfl ?_
  refine GoS.iload (pc' := 233) at_231 rfl rfl ?_
  refine GoS.iload (pc' := 235) at_233 rfl rfl ?_
  refine GoS.iload (pc' := 237) at_235 rfl rfl ?_
  refine GoS.aload (pc' := 239) at_237 rfl rfl rfl ?_
  refine GoS.aload (pc' := 241) at_239 rfl rfl rfl ?_
  refine GoS.callS (cells' := 11) (slots' := 66) (pc' := 244) [(.int 2), (.int 2), (.int (-1 : Int32)), (.int k2), (.ref s), (.ref rl_1)] [] (ww hw 96 rfl) (ww hw 97 rfl) (ww hw 3 rfl) (ww hw 98 rfl) (by decide) (Con.cold (c_atA l Z a0 hw h1 (2 : Int32) (2 : Int32) (-1 : Int32) k2 s rl_1 (by decide))) pd_25 at_241 rfl ?_
  rintro _ _ _ ⟨⟨rfl, rfl⟩, rfl⟩
  show GoS _ _ _ _ _ _ _ _ _ _ _ _ _ _ 244 _ [(.int 1)]
  refine GoS.ifNo (pc' := 247) at_244 (XT.i0_eq_f (by decide)) rfl ?_
  refine GoS.iconst (pc' := 248) (v := 3) at_247 rfl rfl ?_
  refine GoS.iload (pc' := 250) at_248 rfl rfl ?_
  refine GoS.iload (pc' := 252) at_250 rfl rfl ?_
  refine GoS.iload (pc' := 254) at_252 rfl rfl ?_
  refine GoS.aload (pc' := 256) at_254 rfl rfl rfl ?_
  refine GoS.aload (pc' := 258) at_256 rfl rfl rfl ?_
  refine GoS.callS (cells' := 11) (slots' := 66) (pc' := 261) [(.int 3), (.int 2), (.int (-1 : Int32)), (.int k3), (.ref s), (.ref rl_1)] [] (ww hw 96 rfl) (ww hw 97 rfl) (ww hw 3 rfl) (ww hw 98 rfl) (by decide) (Con.cold (c_atA l Z a0 hw h1 (3 : Int32) (2 : Int32) (-1 : Int32) k3 s rl_1 (by decide))) pd_25 at_258 rfl ?_
  rintro _ _ _ ⟨⟨rfl, rfl⟩, rfl⟩
  show GoS _ _ _ _ _ _ _ _ _ _ _ _ _ _ 261 _ [(.int 1)]
  refine GoS.ifNo (pc' := 264) at_261 (XT.i0_eq_f (by decide)) rfl ?_
  refine GoS.iconst (pc' := 265) (v := 1) at_264 rfl rfl ?_
  refine GoS.goto (pc' := 269) at_265 (by decide) (by decide) ?_
  exact GoS.retN (t := .boolean) rfl (by simp) at_269 ⟨rfl, K3⟩
theorem c_rest2_0 (hw : HW a0 Z) (hs h : Heap) (p0 : Int32) (p1 : Int32) (p2 : Int32) (p3 : Int32) (p4 : Int32) (k0 : Int32) (k1 : Int32) (k2 : Int32) (k3 : Int32) (s : Addr) (b : Addr) (kb : ClassId) (cp : Int32) (wf : Value) (hcp : ¬ (cp = (0 : Int32))) (hwf : wf.isRef = true) (hcw : Jvm.Lit.compactW.before a0 Z = true) (hch7 : Jvm.Lit.constHeld Z "java/lang/String" 7) (hch26 : Jvm.Lit.constHeld Z "com/example/inquire/inquire/io/WikiLink" 26) (hch151 : Jvm.Lit.constHeld Z "java/lang/StringLatin1" 151) (hk0 : ¬ ((255 : Int32) < k0)) (hk1 : ¬ ((255 : Int32) < k1)) (hk2 : ¬ ((255 : Int32) < k2)) (hk3 : ¬ ((255 : Int32) < k3)) (hn0 : nar .char k0 = k0) (hn1 : nar .char k1 = k1) (hn2 : nar .char k2 = k2) (hn3 : nar .char k3 = k3) (hx0 : k0 = (124 : Int32)) (scp : Sta Z Z.heap "java/lang/String" "COMPACT_STRINGS" "Z" (.int cp)) (sfm : Sta Z Z.heap "jdk/internal/util/Preconditions" "SIOOBE_FORMATTER" "Ljava/util/function/BiFunction;" wf) (xs : Exa Z h s "java/lang/String") (fs : Fld Z h s "java/lang/String" "coder" "B" (.int 0)) (gs : Fld Z h s "java/lang/String" "value" "[B" (.ref b)) (vs : Arv Z h b kb .byte (2 : Int32) [(.int k0.toInt8.toInt32), (.int k1.toInt8.toInt32)] (.int 0)) (Kp : Keep hs h []) :
    GoS l room_1 Z n0 x code maxLocals ret (fun v h' LL' => v = some (.int 1) ∧ Keep hs h' []) hs [] 8 60 h 121 #[.val (.int p0), .val (.int p1), .val (.int p2), .val (.int p3), .val (.int p4), .val (.int 2), .val (.int k0), .val (.int k1), .val (.int k2), .val (.int k3), .val (.ref s), .val (.int 0), .unset, .unset, .unset, .unset, .unset] [] := by
  refine GoS.aload (pc' := 123) at_121 rfl rfl rfl ?_
  refine GoS.callS (cells' := 13) (slots' := 71) (pc' := 126) [(.ref s)] [] (ww hw 30 rfl) (ww hw 31 rfl) (ww hw 32 rfl) (ww hw 33 rfl) (by decide) (c_parse2_0 l Z a0 hw h s b kb k0.toInt8.toInt32 k1.toInt8.toInt32 cp wf hcp hwf hcw hch26 hch151 (own_beq hx0) scp sfm xs fs gs vs) pd_23 at_123 rfl ?_
  rintro _ h1 LL2 ⟨w_1, rt_1, dt_1, kt_1, rl_1, dl_1, kl_1, rfl, K1, F1_0, F1_1, F1_2, F1_3, F1_4, F1_5, F1_6, F1_7, F1_8, F1_9, F1_10⟩
  have K3 : Keep hs h1 [] := Kp.trans K1 all0
  show GoS _ _ _ _ _ _ _ _ _ _ _ _ _ _ 126 _ [(.ref w_1)]
  refine GoS.astore (pc' := 128) (Ls' := #[.val (.int p0), .val (.int p1), .val (.int p2), .val (.int p3), .val (.int p4), .val (.int 2), .val (.int k0), .val (.int k1), .val (.int k2), .val (.int k3), .val (.ref s), .val (.int 0), .val (.ref w_1), .unset, .unset, .unset, .unset]) at_126 rfl rfl rfl ?_
  refine GoS.aload (pc' := 130) at_128 rfl rfl rfl ?_
  refine GoS.callV (cells' := 13) (slots' := 71) (pc' := 133) [] [] F1_0 (ww hw 85 rfl) (ww hw 86 rfl) (nfS (ww hw 88 rfl)) (ww hw 88 rfl) (ww hw 87 rfl) (ww hw 32 rfl) (ww hw 89 rfl) (by decide) (Con.cold (c_getT l Z a0 hw h1 w_1 rt_1 F1_0 F1_1)) pd_24 at_130 rfl ?_
  rintro _ _ _ ⟨⟨rfl, rfl⟩, rfl⟩
  show GoS _ _ _ _ _ _ _ _ _ _ _ _ _ _ 133 _ [(.ref rt_1)]
  refine GoS.astore (pc' := 135) (Ls' := #[.val (.int p0), .val (.int p1), .val (.int p2), .val (.int p3), .val (.int p4), .val (.int 2), .val (.int k0), .val (.int k1), .val (.int k2), .val (.int k3), .val (.ref s), .val (.int 0), .val (.ref w_1), .val (.ref rt_1), .unset, .unset, .unset]) at_133 rfl rfl rfl ?_
  refine GoS.aload (pc' := 137) at_135 rfl rfl rfl ?_
  refine GoS.callV (cells' := 13) (slots' := 71) (pc' := 140) [] [] F1_0 (ww hw 90 rfl) (ww hw 91 rfl) (nfS (ww hw 93 rfl)) (ww hw 93 rfl) (ww hw 92 rfl) (ww hw 32 rfl) (ww hw 94 rfl) (by decide) (Con.cold (c_getL l Z a0 hw h1 w_1 rl_1 F1_0 F1_2)) pd_24 at_137 rfl ?_
  rintro _ _ _ ⟨⟨rfl, rfl⟩, rfl⟩
  show GoS _ _ _ _ _ _ _ _ _ _ _ _ _ _ 140 _ [(.ref rl_1)]
  refine GoS.astore (pc' := 142) (Ls' := #[.val (.int p0), .val (.int p1), .val (.int p2), .val (.int p3), .val (.int p4), .val (.int 2), .val (.int k0), .val (.int k1), .val (.int k2), .val (.int k3), .val (.ref s), .val (.int 0), .val (.ref w_1), .val (.ref rt_1), .val (.ref rl_1), .unset, .unset]) at_140 rfl rfl rfl ?_
  refine GoS.iload (pc' := 144) at_142 rfl rfl ?_
  refine GoS.ifYes (pc' := 152) at_144 (XT.i0_ge_t (by decide)) (by decide) (by decide) ?_
  refine GoS.iload (pc' := 154) at_152 rfl rfl ?_
  refine GoS.istore (pc' := 156) (Ls' := #[.val (.int p0), .val (.int p1), .val (.int p2), .val (.int p3), .val (.int p4), .val (.int 2), .val (.int k0), .val (.int k1), .val (.int k2), .val (.int k3), .val (.ref s), .val (.int 0), .val (.ref w_1), .val (.ref rt_1), .val (.ref rl_1), .val (.int 0), .unset]) at_154 rfl rfl ?_
  refine GoS.iload (pc' := 158) at_156 rfl rfl ?_
  refine GoS.ifYes (pc' := 165) at_158 (XT.i0_ge_t (by decide)) (by decide) (by decide) ?_
  refine GoS.iload (pc' := 167) at_165 rfl rfl ?_
  refine GoS.iload (pc' := 169) at_167 rfl rfl ?_
  refine GoS.isub (pc' := 170) at_169 rfl ?_
  show GoS _ _ _ _ _ _ _ _ _ _ _ _ _ _ 170 _ [(.int 2)]
  refine GoS.iconst (pc' := 171) (v := 1) at_170 rfl rfl ?_
  refine GoS.isub (pc' := 172) at_171 rfl ?_
  show GoS _ _ _ _ _ _ _ _ _ _ _ _ _ _ 172 _ [(.int 1)]
  refine GoS.istore (pc' := 174) (Ls' := #[.val (.int p0), .val (.int p1), .val (.int p2), .val (.int p3), .val (.int p4), .val (.int 2), .val (.int k0), .val (.int k1), .val (.int k2), .val (.int k3), .val (.ref s), .val (.int 0), .val (.ref w_1), .val (.ref rt_1), .val (.ref rl_1), .val (.int 0), .val (.int 1)]) at_172 rfl rfl ?_
  refine GoS.aload (pc' := 176) at_174 rfl rfl rfl ?_
  refine GoS.callV (cells' := 13) (slots' := 71) (pc' := 179) [] [] F1_3 (ww hw 95 rfl) (ww hw 51 rfl) (nfS (ww hw 53 rfl)) (ww hw 53 rfl) (ww hw 52 rfl) (ww hw 7 rfl) (ww hw 54 rfl) (by decide) (Con.cold (c_strLen0 l Z a0 hw h1 rt_1 dt_1 kt_1 cp hcp scp F1_3 F1_4 F1_5 F1_6)) pd_11 at_176 rfl ?_
  rintro _ _ _ ⟨⟨rfl, rfl⟩, rfl⟩
  show GoS _ _ _ _ _ _ _ _ _ _ _ _ _ _ 179 _ [(.int 0)]
  refine GoS.iload (pc' := 181) at_179 rfl rfl ?_
  refine GoS.icmpNo (pc' := 184) at_181 (XT.ii_ne_f (by decide)) rfl ?_
  refine GoS.aload (pc' := 186) at_184 rfl rfl rfl ?_
  refine GoS.callV (cells' := 13) (slots' := 71) (pc' := 189) [] [] F1_7 (ww hw 95 rfl) (ww hw 51 rfl) (nfS (ww hw 53 rfl)) (ww hw 53 rfl) (ww hw 52 rfl) (ww hw 7 rfl) (ww hw 54 rfl) (by decide) (Con.cold (c_strLen1 l Z a0 hw h1 rl_1 dl_1 kl_1 k1.toInt8.toInt32 cp hcp scp F1_7 F1_8 F1_9 F1_10)) pd_11 at_186 rfl ?_
  rintro _ _ _ ⟨⟨rfl, rfl⟩, rfl⟩
  show GoS _ _ _ _ _ _ _ _ _ _ _ _ _ _ 189 _ [(.int 1)]
  refine GoS.iload (pc' := 191) at_189 rfl rfl ?_
  refine GoS.icmpYes (pc' := 196) at_191 (XT.ii_eq_t (by decide)) (by decide) (by decide) ?_
  refine GoS.iconst (pc' := 197) (v := 0) at_196 rfl rfl ?_
  refine GoS.iload (pc' := 199) at_197 rfl rfl ?_
  refine GoS.iload (pc' := 201) at_199 rfl rfl ?_
  refine GoS.iload (pc' := 203) at_201 rfl rfl ?_
  refine GoS.aload (pc' := 205) at_203 rfl rfl rfl ?_
  refine GoS.aload (pc' := 207) at_205 rfl rfl rfl ?_
  refine GoS.callS (cells' := 13) (slots' := 71) (pc' := 210) [(.int 0), (.int 2), (.int 0), (.int k0), (.ref rt_1), (.ref rl_1)] [] (ww hw 96 rfl) (ww hw 97 rfl) (ww hw 3 rfl) (ww hw 98 rfl) (by decide) (Con.cold (c_atC0 l Z a0 hw h1 (2 : Int32) k0 rt_1 rl_1 (by decide) hx0)) pd_25 at_207 rfl ?_
  rintro _ _ _ ⟨⟨rfl, rfl⟩, rfl⟩
  show GoS _ _ _ _ _ _ _ _ _ _ _ _ _ _ 210 _ [(.int 1)]
  refine GoS.ifNo (pc' := 213) at_210 (XT.i0_eq_f (by decide)) rfl ?_
  refine GoS.iconst (pc' := 214) (v := 1) at_213 rfl rfl ?_
  refine GoS.iload (pc' := 216) at_214 rfl rfl ?_
  refine GoS.iload (pc' := 218) at_216 rfl rfl ?_
  refine GoS.iload (pc' := 220) at_218 rfl rfl ?_
  refine GoS.aload (pc' := 222) at_220 rfl rfl rfl ?_
  refine GoS.aload (pc' := 224) at_222 rfl rfl rfl ?_
  refine GoS.callS (cells' := 13) (slots' := 71) (pc' := 227) [(.int 1), (.int 2), (.int 0), (.int k1), (.ref rt_1), (.ref rl_1)] [] (ww hw 96 rfl) (ww hw 97 rfl) (ww hw 3 rfl) (ww hw 98 rfl) (by decide) (Con.cold (c_atD1_0 l Z a0 hw h1 (2 : Int32) k1 rt_1 rl_1 dl_1 kl_1 (1 : Int32) ([(.int k1.toInt8.toInt32)]) k1.toInt8.toInt32 cp wf hcp hwf (by decide) (by decide) rfl (own_b255 hk1 hn1) scp sfm F1_7 F1_8 F1_9 F1_10)) pd_25 at_224 rfl ?_
  rintro _ _ _ ⟨⟨rfl, rfl⟩, rfl⟩
  show GoS _ _ _ _ _ _ _ _ _ _ _ _ _ _ 227 _ [(.int 1)]
  refine GoS.ifNo (pc' := 230) at_227 (XT.i0_eq_f (by decide)) rfl ?_
  refine GoS.iconst (pc' := 231) (v := 2) at_230 rfl rfl ?_
  refine GoS.iload (pc' := 233) at_231 rfl rfl ?_
  refine GoS.iload (pc' := 235) at_233 rfl rfl ?_
  refine GoS.iload (pc' := 237) at_235 rfl rfl ?_
  refine GoS.aload (pc' := 239) at_237 rfl rfl rfl ?_
  refine GoS.aload (pc' := 241) at_239 rfl rfl rfl ?_
  refine GoS.callS (cells' := 13) (slots' := 71) (pc' := 244) [(.int 2), (.int 2), (.int 0), (.int k2), (.ref rt_1), (.ref rl_1)] [] (ww hw 96 rfl) (ww hw 97 rfl) (ww hw 3 rfl) (ww hw 98 rfl) (by decide) (Con.cold (c_atA l Z a0 hw h1 (2 : Int32) (2 : Int32) (0 : Int32) k2 rt_1 rl_1 (by decide))) pd_25 at_241 rfl ?_
  rintro _ _ _ ⟨⟨rfl, rfl⟩, rfl⟩
  show GoS _ _ _ _ _ _ _ _ _ _ _ _ _ _ 244 _ [(.int 1)]
  refine GoS.ifNo (pc' := 247) at_244 (XT.i0_eq_f (by decide)) rfl ?_
  refine GoS.iconst (pc' := 248) (v := 3) at_247 rfl rfl ?_
  refine GoS.iload (pc' := 250) at_248 rfl rfl ?_
  refine GoS.iload (pc' := 252) at_250 rfl rfl ?_
  refine GoS.iload (pc' := 254) at_252 rfl rfl ?_
  refine GoS.aload (pc' := 256) at_254 rfl rfl rfl ?_
  refine GoS.aload (pc' := 258) at_256 rfl rfl rfl ?_
  refine GoS.callS (cells' := 13) (slots' := 71) (pc' := 261) [(.int 3), (.int 2), (.int 0), (.int k3), (.ref rt_1), (.ref rl_1)] [] (ww hw 96 rfl) (ww hw 97 rfl) (ww hw 3 rfl) (ww hw 98 rfl) (by decide) (Con.cold (c_atA l Z a0 hw h1 (3 : Int32) (2 : Int32) (0 : Int32) k3 rt_1 rl_1 (by decide))) pd_25 at_258 rfl ?_
  rintro _ _ _ ⟨⟨rfl, rfl⟩, rfl⟩
  show GoS _ _ _ _ _ _ _ _ _ _ _ _ _ _ 261 _ [(.int 1)]
  refine GoS.ifNo (pc' := 264) at_261 (XT.i0_eq_f (by decide)) rfl ?_
  refine GoS.iconst (pc' := 265) (v := 1) at_264 rfl rfl ?_
  refine GoS.goto (pc' := 269) at_265 (by decide) (by decide) ?_
  exact GoS.retN (t := .boolean) rfl (by simp) at_269 ⟨rfl, K3⟩
theorem c_rest2_1 (hw : HW a0 Z) (hs h : Heap) (p0 : Int32) (p1 : Int32) (p2 : Int32) (p3 : Int32) (p4 : Int32) (k0 : Int32) (k1 : Int32) (k2 : Int32) (k3 : Int32) (s : Addr) (b : Addr) (kb : ClassId) (cp : Int32) (wf : Value) (hcp : ¬ (cp = (0 : Int32))) (hwf : wf.isRef = true) (hcw : Jvm.Lit.compactW.before a0 Z = true) (hch7 : Jvm.Lit.constHeld Z "java/lang/String" 7) (hch26 : Jvm.Lit.constHeld Z "com/example/inquire/inquire/io/WikiLink" 26) (hch151 : Jvm.Lit.constHeld Z "java/lang/StringLatin1" 151) (hk0 : ¬ ((255 : Int32) < k0)) (hk1 : ¬ ((255 : Int32) < k1)) (hk2 : ¬ ((255 : Int32) < k2)) (hk3 : ¬ ((255 : Int32) < k3)) (hn0 : nar .char k0 = k0) (hn1 : nar .char k1 = k1) (hn2 : nar .char k2 = k2) (hn3 : nar .char k3 = k3) (hx0 : ¬ (k0 = (124 : Int32))) (hx1 : k1 = (124 : Int32)) (scp : Sta Z Z.heap "java/lang/String" "COMPACT_STRINGS" "Z" (.int cp)) (sfm : Sta Z Z.heap "jdk/internal/util/Preconditions" "SIOOBE_FORMATTER" "Ljava/util/function/BiFunction;" wf) (xs : Exa Z h s "java/lang/String") (fs : Fld Z h s "java/lang/String" "coder" "B" (.int 0)) (gs : Fld Z h s "java/lang/String" "value" "[B" (.ref b)) (vs : Arv Z h b kb .byte (2 : Int32) [(.int k0.toInt8.toInt32), (.int k1.toInt8.toInt32)] (.int 0)) (Kp : Keep hs h []) :
    GoS l room_1 Z n0 x code maxLocals ret (fun v h' LL' => v = some (.int 1) ∧ Keep hs h' []) hs [] 8 60 h 121 #[.val (.int p0), .val (.int p1), .val (.int p2), .val (.int p3), .val (.int p4), .val (.int 2), .val (.int k0), .val (.int k1), .val (.int k2), .val (.int k3), .val (.ref s), .val (.int 1), .unset, .unset, .unset, .unset, .unset] [] := by
  refine GoS.aload (pc' := 123) at_121 rfl rfl rfl ?_
  refine GoS.callS (cells' := 13) (slots' := 71) (pc' := 126) [(.ref s)] [] (ww hw 30 rfl) (ww hw 31 rfl) (ww hw 32 rfl) (ww hw 33 rfl) (by decide) (c_parse2_1 l Z a0 hw h s b kb k0.toInt8.toInt32 k1.toInt8.toInt32 cp wf hcp hwf hcw hch26 hch151 (own_bne hk0 hn0 hx0) (own_beq hx1) scp sfm xs fs gs vs) pd_23 at_123 rfl ?_
  rintro _ h1 LL2 ⟨w_1, rt_1, dt_1, kt_1, rl_1, dl_1, kl_1, rfl, K1, F1_0, F1_1, F1_2, F1_3, F1_4, F1_5, F1_6, F1_7, F1_8, F1_9, F1_10⟩
  have K3 : Keep hs h1 [] := Kp.trans K1 all0
  show GoS _ _ _ _ _ _ _ _ _ _ _ _ _ _ 126 _ [(.ref w_1)]
  refine GoS.astore (pc' := 128) (Ls' := #[.val (.int p0), .val (.int p1), .val (.int p2), .val (.int p3), .val (.int p4), .val (.int 2), .val (.int k0), .val (.int k1), .val (.int k2), .val (.int k3), .val (.ref s), .val (.int 1), .val (.ref w_1), .unset, .unset, .unset, .unset]) at_126 rfl rfl rfl ?_
  refine GoS.aload (pc' := 130) at_128 rfl rfl rfl ?_
  refine GoS.callV (cells' := 13) (slots' := 71) (pc' := 133) [] [] F1_0 (ww hw 85 rfl) (ww hw 86 rfl) (nfS (ww hw 88 rfl)) (ww hw 88 rfl) (ww hw 87 rfl) (ww hw 32 rfl) (ww hw 89 rfl) (by decide) (Con.cold (c_getT l Z a0 hw h1 w_1 rt_1 F1_0 F1_1)) pd_24 at_130 rfl ?_
  rintro _ _ _ ⟨⟨rfl, rfl⟩, rfl⟩
  show GoS _ _ _ _ _ _ _ _ _ _ _ _ _ _ 133 _ [(.ref rt_1)]
  refine GoS.astore (pc' := 135) (Ls' := #[.val (.int p0), .val (.int p1), .val (.int p2), .val (.int p3), .val (.int p4), .val (.int 2), .val (.int k0), .val (.int k1), .val (.int k2), .val (.int k3), .val (.ref s), .val (.int 1), .val (.ref w_1), .val (.ref rt_1), .unset, .unset, .unset]) at_133 rfl rfl rfl ?_
  refine GoS.aload (pc' := 137) at_135 rfl rfl rfl ?_
  refine GoS.callV (cells' := 13) (slots' := 71) (pc' := 140) [] [] F1_0 (ww hw 90 rfl) (ww hw 91 rfl) (nfS (ww hw 93 rfl)) (ww hw 93 rfl) (ww hw 92 rfl) (ww hw 32 rfl) (ww hw 94 rfl) (by decide) (Con.cold (c_getL l Z a0 hw h1 w_1 rl_1 F1_0 F1_2)) pd_24 at_137 rfl ?_
  rintro _ _ _ ⟨⟨rfl, rfl⟩, rfl⟩
  show GoS _ _ _ _ _ _ _ _ _ _ _ _ _ _ 140 _ [(.ref rl_1)]
  refine GoS.astore (pc' := 142) (Ls' := #[.val (.int p0), .val (.int p1), .val (.int p2), .val (.int p3), .val (.int p4), .val (.int 2), .val (.int k0), .val (.int k1), .val (.int k2), .val (.int k3), .val (.ref s), .val (.int 1), .val (.ref w_1), .val (.ref rt_1), .val (.ref rl_1), .unset, .unset]) at_140 rfl rfl rfl ?_
  refine GoS.iload (pc' := 144) at_142 rfl rfl ?_
  refine GoS.ifYes (pc' := 152) at_144 (XT.i0_ge_t (by decide)) (by decide) (by decide) ?_
  refine GoS.iload (pc' := 154) at_152 rfl rfl ?_
  refine GoS.istore (pc' := 156) (Ls' := #[.val (.int p0), .val (.int p1), .val (.int p2), .val (.int p3), .val (.int p4), .val (.int 2), .val (.int k0), .val (.int k1), .val (.int k2), .val (.int k3), .val (.ref s), .val (.int 1), .val (.ref w_1), .val (.ref rt_1), .val (.ref rl_1), .val (.int 1), .unset]) at_154 rfl rfl ?_
  refine GoS.iload (pc' := 158) at_156 rfl rfl ?_
  refine GoS.ifYes (pc' := 165) at_158 (XT.i0_ge_t (by decide)) (by decide) (by decide) ?_
  refine GoS.iload (pc' := 167) at_165 rfl rfl ?_
  refine GoS.iload (pc' := 169) at_167 rfl rfl ?_
  refine GoS.isub (pc' := 170) at_169 rfl ?_
  show GoS _ _ _ _ _ _ _ _ _ _ _ _ _ _ 170 _ [(.int 1)]
  refine GoS.iconst (pc' := 171) (v := 1) at_170 rfl rfl ?_
  refine GoS.isub (pc' := 172) at_171 rfl ?_
  show GoS _ _ _ _ _ _ _ _ _ _ _ _ _ _ 172 _ [(.int 0)]
  refine GoS.istore (pc' := 174) (Ls' := #[.val (.int p0), .val (.int p1), .val (.int p2), .val (.int p3), .val (.int p4), .val (.int 2), .val (.int k0), .val (.int k1), .val (.int k2), .val (.int k3), .val (.ref s), .val (.int 1), .val (.ref w_1), .val (.ref rt_1), .val (.ref rl_1), .val (.int 1), .val (.int 0)]) at_172 rfl rfl ?_
  refine GoS.aload (pc' := 176) at_174 rfl rfl rfl ?_
  refine GoS.callV (cells' := 13) (slots' := 71) (pc' := 179) [] [] F1_3 (ww hw 95 rfl) (ww hw 51 rfl) (nfS (ww hw 53 rfl)) (ww hw 53 rfl) (ww hw 52 rfl) (ww hw 7 rfl) (ww hw 54 rfl) (by decide) (Con.cold (c_strLen1 l Z a0 hw h1 rt_1 dt_1 kt_1 k0.toInt8.toInt32 cp hcp scp F1_3 F1_4 F1_5 F1_6)) pd_11 at_176 rfl ?_
  rintro _ _ _ ⟨⟨rfl, rfl⟩, rfl⟩
  show GoS _ _ _ _ _ _ _ _ _ _ _ _ _ _ 179 _ [(.int 1)]
  refine GoS.iload (pc' := 181) at_179 rfl rfl ?_
  refine GoS.icmpNo (pc' := 184) at_181 (XT.ii_ne_f (by decide)) rfl ?_
  refine GoS.aload (pc' := 186) at_184 rfl rfl rfl ?_
  refine GoS.callV (cells' := 13) (slots' := 71) (pc' := 189) [] [] F1_7 (ww hw 95 rfl) (ww hw 51 rfl) (nfS (ww hw 53 rfl)) (ww hw 53 rfl) (ww hw 52 rfl) (ww hw 7 rfl) (ww hw 54 rfl) (by decide) (Con.cold (c_strLen0 l Z a0 hw h1 rl_1 dl_1 kl_1 cp hcp scp F1_7 F1_8 F1_9 F1_10)) pd_11 at_186 rfl ?_
  rintro _ _ _ ⟨⟨rfl, rfl⟩, rfl⟩
  show GoS _ _ _ _ _ _ _ _ _ _ _ _ _ _ 189 _ [(.int 0)]
  refine GoS.iload (pc' := 191) at_189 rfl rfl ?_
  refine GoS.icmpYes (pc' := 196) at_191 (XT.ii_eq_t (by decide)) (by decide) (by decide) ?_
  refine GoS.iconst (pc' := 197) (v := 0) at_196 rfl rfl ?_
  refine GoS.iload (pc' := 199) at_197 rfl rfl ?_
  refine GoS.iload (pc' := 201) at_199 rfl rfl ?_
  refine GoS.iload (pc' := 203) at_201 rfl rfl ?_
  refine GoS.aload (pc' := 205) at_203 rfl rfl rfl ?_
  refine GoS.aload (pc' := 207) at_205 rfl rfl rfl ?_
  refine GoS.callS (cells' := 13) (slots' := 71) (pc' := 210) [(.int 0), (.int 2), (.int 1), (.int k0), (.ref rt_1), (.ref rl_1)] [] (ww hw 96 rfl) (ww hw 97 rfl) (ww hw 3 rfl) (ww hw 98 rfl) (by decide) (Con.cold (c_atB0p l Z a0 hw h1 (2 : Int32) (1 : Int32) k0 rt_1 rl_1 dt_1 kt_1 (1 : Int32) ([(.int k0.toInt8.toInt32)]) k0.toInt8.toInt32 cp wf hcp hwf (by decide) (by decide) (by decide) (by decide) rfl (own_b255 hk0 hn0) scp sfm F1_3 F1_4 F1_5 F1_6)) pd_25 at_207 rfl ?_
  rintro _ _ _ ⟨⟨rfl, rfl⟩, rfl⟩
  show GoS _ _ _ _ _ _ _ _ _ _ _ _ _ _ 210 _ [(.int 1)]
  refine GoS.ifNo (pc' := 213) at_210 (XT.i0_eq_f (by decide)) rfl ?_
  refine GoS.iconst (pc' := 214) (v := 1) at_213 rfl rfl ?_
  refine GoS.iload (pc' := 216) at_214 rfl rfl ?_
  refine GoS.iload (pc' := 218) at_216 rfl rfl ?_
  refine GoS.iload (pc' := 220) at_218 rfl rfl ?_
  refine GoS.aload (pc' := 222) at_220 rfl rfl rfl ?_
  refine GoS.aload (pc' := 224) at_222 rfl rfl rfl ?_
  refine GoS.callS (cells' := 13) (slots' := 71) (pc' := 227) [(.int 1), (.int 2), (.int 1), (.int k1), (.ref rt_1), (.ref rl_1)] [] (ww hw 96 rfl) (ww hw 97 rfl) (ww hw 3 rfl) (ww hw 98 rfl) (by decide) (Con.cold (c_atC1 l Z a0 hw h1 (2 : Int32) k1 rt_1 rl_1 (by decide) hx1)) pd_25 at_224 rfl ?_
  rintro _ _ _ ⟨⟨rfl, rfl⟩, rfl⟩
  show GoS _ _ _ _ _ _ _ _ _ _ _ _ _ _ 227 _ [(.int 1)]
  refine GoS.ifNo (pc' := 230) at_227 (XT.i0_eq_f (by decide)) rfl ?_
  refine GoS.iconst (pc' := 231) (v := 2) at_230 rfl rfl ?_
  refine GoS.iload (pc' := 233) at_231 rfl rfl ?_
  refine GoS.iload (pc' := 235) at_233 rfl rfl ?_
  refine GoS.iload (pc' := 237) at_235 rfl rfl ?_
  refine GoS.aload (pc' := 239) at_237 rfl rfl rfl ?_
  refine GoS.aload (pc' := 241) at_239 rfl rfl rfl ?_
  refine GoS.callS (cells' := 13) (slots' := 71) (pc' := 244) [(.int 2), (.int 2), (.int 1), (.int k2), (.ref rt_1), (.ref rl_1)] [] (ww hw 96 rfl) (ww hw 97 rfl) (ww hw 3 rfl) (ww hw 98 rfl) (by decide) (Con.cold (c_atA l Z a0 hw h1 (2 : Int32) (2 : Int32) (1 : Int32) k2 rt_1 rl_1 (by decide))) pd_25 at_241 rfl ?_
  rintro _ _ _ ⟨⟨rfl, rfl⟩, rfl⟩
  show GoS _ _ _ _ _ _ _ _ _ _ _ _ _ _ 244 _ [(.int 1)]
  refine GoS.ifNo (pc' := 247) at_244 (XT.i0_eq_f (by decide)) rfl ?_
  refine GoS.iconst (pc' := 248) (v := 3) at_247 rfl rfl ?_
  refine GoS.iload (pc' := 250) at_248 rfl rfl ?_
  refine GoS.iload (pc' := 252) at_250 rfl rfl ?_
  refine GoS.iload (pc' := 254) at_252 rfl rfl ?_
  refine GoS.aload (pc' := 256) at_254 rfl rfl rfl ?_
  refine GoS.aload (pc' := 258) at_256 rfl rfl rfl ?_
  refine GoS.callS (cells' := 13) (slots' := 71) (pc' := 261) [(.int 3), (.int 2), (.int 1), (.int k3), (.ref rt_1), (.ref rl_1)] [] (ww hw 96 rfl) (ww hw 97 rfl) (ww hw 3 rfl) (ww hw 98 rfl) (by decide) (Con.cold (c_atA l Z a0 hw h1 (3 : Int32) (2 : Int32) (1 : Int32) k3 rt_1 rl_1 (by decide))) pd_25 at_258 rfl ?_
  rintro _ _ _ ⟨⟨rfl, rfl⟩, rfl⟩
  show GoS _ _ _ _ _ _ _ _ _ _ _ _ _ _ 261 _ [(.int 1)]
  refine GoS.ifNo (pc' := 264) at_261 (XT.i0_eq_f (by decide)) rfl ?_
  refine GoS.iconst (pc' := 265) (v := 1) at_264 rfl rfl ?_
  refine GoS.goto (pc' := 269) at_265 (by decide) (by decide) ?_
  exact GoS.retN (t := .boolean) rfl (by simp) at_269 ⟨rfl, K3⟩
theorem c_rest3_m (hw : HW a0 Z) (hs h : Heap) (p0 : Int32) (p1 : Int32) (p2 : Int32) (p3 : Int32) (p4 : Int32) (k0 : Int32) (k1 : Int32) (k2 : Int32) (k3 : Int32) (s : Addr) (b : Addr) (kb : ClassId) (cp : Int32) (wf : Value) (hcp : ¬ (cp = (0 : Int32))) (hwf : wf.isRef = true) (hcw : Jvm.Lit.compactW.before a0 Z = true) (hch7 : Jvm.Lit.constHeld Z "java/lang/String" 7) (hch26 : Jvm.Lit.constHeld Z "com/example/inquire/inquire/io/WikiLink" 26) (hch151 : Jvm.Lit.constHeld Z "java/lang/StringLatin1" 151) (hk0 : ¬ ((255 : Int32) < k0)) (hk1 : ¬ ((255 : Int32) < k1)) (hk2 : ¬ ((255 : Int32) < k2)) (hk3 : ¬ ((255 : Int32) < k3)) (hn0 : nar .char k0 = k0) (hn1 : nar .char k1 = k1) (hn2 : nar .char k2 = k2) (hn3 : nar .char k3 = k3) (hx0 : ¬ (k0 = (124 : Int32))) (hx1 : ¬ (k1 = (124 : Int32))) (hx2 : ¬ (k2 = (124 : Int32))) (scp : Sta Z Z.heap "java/lang/String" "COMPACT_STRINGS" "Z" (.int cp)) (sfm : Sta Z Z.heap "jdk/internal/util/Preconditions" "SIOOBE_FORMATTER" "Ljava/util/function/BiFunction;" wf) (xs : Exa Z h s "java/lang/String") (fs : Fld Z h s "java/lang/String" "coder" "B" (.int 0)) (gs : Fld Z h s "java/lang/String" "value" "[B" (.ref b)) (vs : Arv Z h b kb .byte (3 : Int32) [(.int k0.toInt8.toInt32), (.int k1.toInt8.toInt32), (.int k2.toInt8.toInt32)] (.int 0)) (Kp : Keep hs h []) :
    GoS l room_1 Z n0 x code maxLocals ret (fun v h' LL' => v = some (.int 1) ∧ Keep hs h' []) hs [] 8 60 h 121 #[.val (.int p0), .val (.int p1), .val (.int p2), .val (.int p3), .val (.int p4), .val (.int 3), .val (.int k0), .val (.int k1), .val (.int k2), .val (.int k3), .val (.ref s), .val (.int (-1 : Int32)), .unset, .unset, .unset, .unset, .unset] [] := by
  refine GoS.aload (pc' := 123) at_121 rfl rfl rfl ?_
  refine GoS.callS (cells' := 11) (slots' := 66) (pc' := 126) [(.ref s)] [] (ww hw 30 rfl) (ww hw 31 rfl) (ww hw 32 rfl) (ww hw 33 rfl) (by decide) (c_parse3_m l Z a0 hw h s b kb k0.toInt8.toInt32 k1.toInt8.toInt32 k2.toInt8.toInt32 cp wf hcp hwf hcw hch26 hch151 (own_bne hk0 hn0 hx0) (own_bne hk1 hn1 hx1) (own_bne hk2 hn2 hx2) scp sfm xs fs gs vs) pd_23 at_123 rfl ?_
  rintro _ h1 LL2 ⟨w_1, rl_1, dl_1, kl_1, rfl, K1, F1_0, F1_1, F1_2, F1_3, F1_4, F1_5, F1_6⟩
  have K3 : Keep hs h1 [] := Kp.trans K1 all0
  show GoS _ _ _ _ _ _ _ _ _ _ _ _ _ _ 126 _ [(.ref w_1)]
  refine GoS.astore (pc' := 128) (Ls' := #[.val (.int p0), .val (.int p1), .val (.int p2), .val (.int p3), .val (.int p4), .val (.int 3), .val (.int k0), .val (.int k1), .val (.int k2), .val (.int k3), .val (.ref s), .val (.int (-1 : Int32)), .val (.ref w_1), .unset, .unset, .unset, .unset]) at_126 rfl rfl rfl ?_
  refine GoS.aload (pc' := 130) at_128 rfl rfl rfl ?_
  refine GoS.callV (cells' := 11) (slots' := 66) (pc' := 133) [] [] F1_0 (ww hw 85 rfl) (ww hw 86 rfl) (nfS (ww hw 88 rfl)) (ww hw 88 rfl) (ww hw 87 rfl) (ww hw 32 rfl) (ww hw 89 rfl) (by decide) (Con.cold (c_getT l Z a0 hw h1 w_1 s F1_0 F1_1)) pd_24 at_130 rfl ?_
  rintro _ _ _ ⟨⟨rfl, rfl⟩, rfl⟩
  show GoS _ _ _ _ _ _ _ _ _ _ _ _ _ _ 133 _ [(.ref s)]
  refine GoS.astore (pc' := 135) (Ls' := #[.val (.int p0), .val (.int p1), .val (.int p2), .val (.int p3), .val (.int p4), .val (.int 3), .val (.int k0), .val (.int k1), .val (.int k2), .val (.int k3), .val (.ref s), .val (.int (-1 : Int32)), .val (.ref w_1), .val (.ref s), .unset, .unset, .unset]) at_133 rfl rfl rfl ?_
  refine GoS.aload (pc' := 137) at_135 rfl rfl rfl ?_
  refine GoS.callV (cells' := 11) (slots' := 66) (pc' := 140) [] [] F1_0 (ww hw 90 rfl) (ww hw 91 rfl) (nfS (ww hw 93 rfl)) (ww hw 93 rfl) (ww hw 92 rfl) (ww hw 32 rfl) (ww hw 94 rfl) (by decide) (Con.cold (c_getL l Z a0 hw h1 w_1 rl_1 F1_0 F1_2)) pd_24 at_137 rfl ?_
  rintro _ _ _ ⟨⟨rfl, rfl⟩, rfl⟩
  show GoS _ _ _ _ _ _ _ _ _ _ _ _ _ _ 140 _ [(.ref rl_1)]
  refine GoS.astore (pc' := 142) (Ls' := #[.val (.int p0), .val (.int p1), .val (.int p2), .val (.int p3), .val (.int p4), .val (.int 3), .val (.int k0), .val (.int k1), .val (.int k2), .val (.int k3), .val (.ref s), .val (.int (-1 : Int32)), .val (.ref w_1), .val (.ref s), .val (.ref rl_1), .unset, .unset]) at_140 rfl rfl rfl ?_
  refine GoS.iload (pc' := 144) at_142 rfl rfl ?_
  refine GoS.ifNo (pc' := 147) at_144 (XT.i0_ge_f (by decide)) rfl ?_
  refine GoS.iload (pc' := 149) at_147 rfl rfl ?_
  refine GoS.goto (pc' := 154) at_149 (by decide) (by decide) ?_
  refine GoS.istore (pc' := 156) (Ls' := #[.val (.int p0), .val (.int p1), .val (.int p2), .val (.int p3), .val (.int p4), .val (.int 3), .val (.int k0), .val (.int k1), .val (.int k2), .val (.int k3), .val (.ref s), .val (.int (-1 : Int32)), .val (.ref w_1), .val (.ref s), .val (.ref rl_1), .val (.int 3), .unset]) at_154 rfl rfl ?_
  refine GoS.iload (pc' := 158) at_156 rfl rfl ?_
  refine GoS.ifNo (pc' := 161) at_158 (XT.i0_ge_f (by decide)) rfl ?_
  refine GoS.iconst (pc' := 162) (v := 0) at_161 rfl rfl ?_
  refine GoS.goto (pc' := 172) at_162 (by decide) (by decide) ?_
  refine GoS.istore (pc' := 174) (Ls' := #[.val (.int p0), .val (.int p1), .val (.int p2), .val (.int p3), .val (.int p4), .val (.int 3), .val (.int k0), .val (.int k1), .val (.int k2), .val (.int k3), .val (.ref s), .val (.int (-1 : Int32)), .val (.ref w_1), .val (.ref s), .val (.ref rl_1), .val (.int 3), .val (.int 0)]) at_172 rfl rfl ?_
  refine GoS.aload (pc' := 176) at_174 rfl rfl rfl ?_
  refine GoS.callV (cells' := 11) (slots' := 66) (pc' := 179) [] [] (xs.keep K1) (ww hw 95 rfl) (ww hw 51 rfl) (nfS (ww hw 53 rfl)) (ww hw 53 rfl) (ww hw 52 rfl) (ww hw 7 rfl) (ww hw 54 rfl) (by decide) (Con.cold (c_strLen3 l Z a0 hw h1 s b kb k0.toInt8.toInt32 k1.toInt8.toInt32 k2.toInt8.toInt32 cp hcp scp (xs.keep K1) (fs.keep K1 nin0) (gs.keep K1 nin0) (vs.keep K1 nin0))) pd_11 at_176 rfl ?_
  rintro _ _ _ ⟨⟨rfl, rfl⟩, rfl⟩
  show GoS _ _ _ _ _ _ _ _ _ _ _ _ _ _ 179 _ [(.int 3)]
  refine GoS.iload (pc' := 181) at_179 rfl rfl ?_
  refine GoS.icmpNo (pc' := 184) at_181 (XT.ii_ne_f (by decide)) rfl ?_
  refine GoS.aload (pc' := 186) at_184 rfl rfl rfl ?_
  refine GoS.callV (cells' := 11) (slots' := 66) (pc' := 189) [] [] F1_3 (ww hw 95 rfl) (ww hw 51 rfl) (nfS (ww hw 53 rfl)) (ww hw 53 rfl) (ww hw 52 rfl) (ww hw 7 rfl) (ww hw 54 rfl) (by decide) (Con.cold (c_strLen0 l Z a0 hw h1 rl_1 dl_1 kl_1 cp hcp scp F1_3 F1_4 F1_5 F1_6)) pd_11 at_186 rfl ?_
  rintro _ _ _ ⟨⟨rfl, rfl⟩, rfl⟩
  show GoS _ _ _ _ _ _ _ _ _ _ _ _ _ _ 189 _ [(.int 0)]
  refine GoS.iload (pc' := 191) at_189 rfl rfl ?_
  refine GoS.icmpYes (pc' := 196) at_191 (XT.ii_eq_t (by decide)) (by decide) (by decide) ?_
  refine GoS.iconst (pc' := 197) (v := 0) at_196 rfl rfl ?_
  refine GoS.iload (pc' := 199) at_197 rfl rfl ?_
  refine GoS.iload (pc' := 201) at_199 rfl rfl ?_
  refine GoS.iload (pc' := 203) at_201 rfl rfl ?_
  refine GoS.aload (pc' := 205) at_203 rfl rfl rfl ?_
  refine GoS.aload (pc' := 207) at_205 rfl rfl rfl ?_
  refine GoS.callS (cells' := 11) (slots' := 66) (pc' := 210) [(.int 0), (.int 3), (.int (-1 : Int32)), (.int k0), (.ref s), (.ref rl_1)] [] (ww hw 96 rfl) (ww hw 97 rfl) (ww hw 3 rfl) (ww hw 98 rfl) (by decide) (Con.cold (c_atB0m l Z a0 hw h1 (3 : Int32) k0 s rl_1 b kb (3 : Int32) ([(.int k0.toInt8.toInt32), (.int k1.toInt8.toInt32), (.int k2.toInt8.toInt32)]) k0.toInt8.toInt32 cp wf hcp hwf (by decide) (by decide) rfl (own_b255 hk0 hn0) scp sfm (xs.keep K1) (fs.keep K1 nin0) (gs.keep K1 nin0) (vs.keep K1 nin0))) pd_25 at_207 rfl ?_
  rintro _ _ _ ⟨⟨rfl, rfl⟩, rfl⟩
  show GoS _ _ _ _ _ _ _ _ _ _ _ _ _ _ 210 _ [(.int 1)]
  refine GoS.ifNo (pc' := 213) at_210 (XT.i0_eq_f (by decide)) rfl ?_
  refine GoS.iconst (pc' := 214) (v := 1) at_213 rfl rfl ?_
  refine GoS.iload (pc' := 216) at_214 rfl rfl ?_
  refine GoS.iload (pc' := 218) at_216 rfl rfl ?_
  refine GoS.iload (pc' := 220) at_218 rfl rfl ?_
  refine GoS.aload (pc' := 222) at_220 rfl rfl rfl ?_
  refine GoS.aload (pc' := 224) at_222 rfl rfl rfl ?_
  refine GoS.callS (cells' := 11) (slots' := 66) (pc' := 227) [(.int 1), (.int 3), (.int (-1 : Int32)), (.int k1), (.ref s), (.ref rl_1)] [] (ww hw 96 rfl) (ww hw 97 rfl) (ww hw 3 rfl) (ww hw 98 rfl) (by decide) (Con.cold (c_atB1m l Z a0 hw h1 (3 : Int32) k1 s rl_1 b kb (3 : Int32) ([(.int k0.toInt8.toInt32), (.int k1.toInt8.toInt32), (.int k2.toInt8.toInt32)]) k1.toInt8.toInt32 cp wf hcp hwf (by decide) (by decide) rfl (own_b255 hk1 hn1) scp sfm (xs.keep K1) (fs.keep K1 nin0) (gs.keep K1 nin0) (vs.keep K1 nin0))) pd_25 at_224 rfl ?_
  rintro _ _ _ ⟨⟨rfl, rfl⟩, rfl⟩
  show GoS _ _ _ _ _ _ _ _ _ _ _ _ _ _ 227 _ [(.int 1)]
  refine GoS.ifNo (pc' := 230) at_227 (XT.i0_eq_f (by decide)) rfl ?_
  refine GoS.iconst (pc' := 231) (v := 2) at_230 rfl rfl ?_
  refine GoS.iload (pc' := 233) at_231 rfl rfl ?_
  refine GoS.iload (pc' := 235) at_233 rfl rfl ?_
  refine GoS.iload (pc' := 237) at_235 rfl rfl ?_
  refine GoS.aload (pc' := 239) at_237 rfl rfl rfl ?_
  refine GoS.aload (pc' := 241) at_239 rfl rfl rfl ?_
  refine GoS.callS (cells' := 11) (slots' := 66) (pc' := 244) [(.int 2), (.int 3), (.int (-1 : Int32)), (.int k2), (.ref s), (.ref rl_1)] [] (ww hw 96 rfl) (ww hw 97 rfl) (ww hw 3 rfl) (ww hw 98 rfl) (by decide) (Con.cold (c_atB2m l Z a0 hw h1 (3 : Int32) k2 s rl_1 b kb (3 : Int32) ([(.int k0.toInt8.toInt32), (.int k1.toInt8.toInt32), (.int k2.toInt8.toInt32)]) k2.toInt8.toInt32 cp wf hcp hwf (by decide) (by decide) rfl (own_b255 hk2 hn2) scp sfm (xs.keep K1) (fs.keep K1 nin0) (gs.keep K1 nin0) (vs.keep K1 nin0))) pd_25 at_241 rfl ?_
  rintro _ _ _ ⟨⟨rfl, rfl⟩, rfl⟩
  show GoS _ _ _ _ _ _ _ _ _ _ _ _ _ _ 244 _ [(.int 1)]
  refine GoS.ifNo (pc' := 247) at_244 (XT.i0_eq_f (by decide)) rfl ?_
  refine GoS.iconst (pc' := 248) (v := 3) at_247 rfl rfl ?_
  refine GoS.iload (pc' := 250) at_248 rfl rfl ?_
  refine GoS.iload (pc' := 252) at_250 rfl rfl ?_
  refine GoS.iload (pc' := 254) at_252 rfl rfl ?_
  refine GoS.aload (pc' := 256) at_254 rfl rfl rfl ?_
  refine GoS.aload (pc' := 258) at_256 rfl rfl rfl ?_
  refine GoS.callS (cells' := 11) (slots' := 66) (pc' := 261) [(.int 3), (.int 3), (.int (-1 : Int32)), (.int k3), (.ref s), (.ref rl_1)] [] (ww hw 96 rfl) (ww hw 97 rfl) (ww hw 3 rfl) (ww hw 98 rfl) (by decide) (Con.cold (c_atA l Z a0 hw h1 (3 : Int32) (3 : Int32) (-1 : Int32) k3 s rl_1 (by decide))) pd_25 at_258 rfl ?_
  rintro _ _ _ ⟨⟨rfl, rfl⟩, rfl⟩
  show GoS _ _ _ _ _ _ _ _ _ _ _ _ _ _ 261 _ [(.int 1)]
  refine GoS.ifNo (pc' := 264) at_261 (XT.i0_eq_f (by decide)) rfl ?_
  refine GoS.iconst (pc' := 265) (v := 1) at_264 rfl rfl ?_
  refine GoS.goto (pc' := 269) at_265 (by decide) (by decide) ?_
  exact GoS.retN (t := .boolean) rfl (by simp) at_269 ⟨rfl, K3⟩
theorem c_rest3_0 (hw : HW a0 Z) (hs h : Heap) (p0 : Int32) (p1 : Int32) (p2 : Int32) (p3 : Int32) (p4 : Int32) (k0 : Int32) (k1 : Int32) (k2 : Int32) (k3 : Int32) (s : Addr) (b : Addr) (kb : ClassId) (cp : Int32) (wf : Value) (hcp : ¬ (cp = (0 : Int32))) (hwf : wf.isRef = true) (hcw : Jvm.Lit.compactW.before a0 Z = true) (hch7 : Jvm.Lit.constHeld Z "java/lang/String" 7) (hch26 : Jvm.Lit.constHeld Z "com/example/inquire/inquire/io/WikiLink" 26) (hch151 : Jvm.Lit.constHeld Z "java/lang/StringLatin1" 151) (hk0 : ¬ ((255 : Int32) < k0)) (hk1 : ¬ ((255 : Int32) < k1)) (hk2 : ¬ ((255 : Int32) < k2)) (hk3 : ¬ ((255 : Int32) < k3)) (hn0 : nar .char k0 = k0) (hn1 : nar .char k1 = k1) (hn2 : nar .char k2 = k2) (hn3 : nar .char k3 = k3) (hx0 : k0 = (124 : Int32)) (scp : Sta Z Z.heap "java/lang/String" "COMPACT_STRINGS" "Z" (.int cp)) (sfm : Sta Z Z.heap "jdk/internal/util/Preconditions" "SIOOBE_FORMATTER" "Ljava/util/function/BiFunction;" wf) (xs : Exa Z h s "java/lang/String") (fs : Fld Z h s "java/lang/String" "coder" "B" (.int 0)) (gs : Fld Z h s "java/lang/String" "value" "[B" (.ref b)) (vs : Arv Z h b kb .byte (3 : Int32) [(.int k0.toInt8.toInt32), (.int k1.toInt8.toInt32), (.int k2.toInt8.toInt32)] (.int 0)) (Kp : Keep hs h []) :
    GoS l room_1 Z n0 x code maxLocals ret (fun v h' LL' => v = some (.int 1) ∧ Keep hs h' []) hs [] 8 60 h 121 #[.val (.int p0), .val (.int p1), .val (.int p2), .val (.int p3), .val (.int p4), .val (.int 3), .val (.int k0), .val (.int k1), .val (.int k2), .val (.int k3), .val (.ref s), .val (.int 0), .unset, .unset, .unset, .unset, .unset] [] := by
  refine GoS.aload (pc' := 123) at_121 rfl rfl rfl ?_
  refine GoS.callS (cells' := 13) (slots' := 72) (pc' := 126) [(.ref s)] [] (ww hw 30 rfl) (ww hw 31 rfl) (ww hw 32 rfl) (ww hw 33 rfl) (by decide) (c_parse3_0 l Z a0 hw h s b kb k0.toInt8.toInt32 k1.toInt8.toInt32 k2.toInt8.toInt32 cp wf hcp hwf hcw hch26 hch151 (own_beq hx0) scp sfm xs fs gs vs) pd_23 at_123 rfl ?_
  rintro _ h1 LL2 ⟨w_1, rt_1, dt_1, kt_1, rl_1, dl_1, kl_1, rfl, K1, F1_0, F1_1, F1_2, F1_3, F1_4, F1_5, F1_6, F1_7, F1_8, F1_9, F1_10⟩
  have K3 : Keep hs h1 [] := Kp.trans K1 all0
  show GoS _ _ _ _ _ _ _ _ _ _ _ _ _ _ 126 _ [(.ref w_1)]
  refine GoS.astore (pc' := 128) (Ls' := #[.val (.int p0), .val (.int p1), .val (.int p2), .val (.int p3), .val (.int p4), .val (.int 3), .val (.int k0), .val (.int k1), .val (.int k2), .val (.int k3), .val (.ref s), .val (.int 0), .val (.ref w_1), .unset, .unset, .unset, .unset]) at_126 rfl rfl rfl ?_
  refine GoS.aload (pc' := 130) at_128 rfl rfl rfl ?_
  refine GoS.callV (cells' := 13) (slots' := 72) (pc' := 133) [] [] F1_0 (ww hw 85 rfl) (ww hw 86 rfl) (nfS (ww hw 88 rfl)) (ww hw 88 rfl) (ww hw 87 rfl) (ww hw 32 rfl) (ww hw 89 rfl) (by decide) (Con.cold (c_getT l Z a0 hw h1 w_1 rt_1 F1_0 F1_1)) pd_24 at_130 rfl ?_
  rintro _ _ _ ⟨⟨rfl, rfl⟩, rfl⟩
  show GoS _ _ _ _ _ _ _ _ _ _ _ _ _ _ 133 _ [(.ref rt_1)]
  refine GoS.astore (pc' := 135) (Ls' := #[.val (.int p0), .val (.int p1), .val (.int p2), .val (.int p3), .val (.int p4), .val (.int 3), .val (.int k0), .val (.int k1), .val (.int k2), .val (.int k3), .val (.ref s), .val (.int 0), .val (.ref w_1), .val (.ref rt_1), .unset, .unset, .unset]) at_133 rfl rfl rfl ?_
  refine GoS.aload (pc' := 137) at_135 rfl rfl rfl ?_
  refine GoS.callV (cells' := 13) (slots' := 72) (pc' := 140) [] [] F1_0 (ww hw 90 rfl) (ww hw 91 rfl) (nfS (ww hw 93 rfl)) (ww hw 93 rfl) (ww hw 92 rfl) (ww hw 32 rfl) (ww hw 94 rfl) (by decide) (Con.cold (c_getL l Z a0 hw h1 w_1 rl_1 F1_0 F1_2)) pd_24 at_137 rfl ?_
  rintro _ _ _ ⟨⟨rfl, rfl⟩, rfl⟩
  show GoS _ _ _ _ _ _ _ _ _ _ _ _ _ _ 140 _ [(.ref rl_1)]
  refine GoS.astore (pc' := 142) (Ls' := #[.val (.int p0), .val (.int p1), .val (.int p2), .val (.int p3), .val (.int p4), .val (.int 3), .val (.int k0), .val (.int k1), .val (.int k2), .val (.int k3), .val (.ref s), .val (.int 0), .val (.ref w_1), .val (.ref rt_1), .val (.ref rl_1), .unset, .unset]) at_140 rfl rfl rfl ?_
  refine GoS.iload (pc' := 144) at_142 rfl rfl ?_
  refine GoS.ifYes (pc' := 152) at_144 (XT.i0_ge_t (by decide)) (by decide) (by decide) ?_
  refine GoS.iload (pc' := 154) at_152 rfl rfl ?_
  refine GoS.istore (pc' := 156) (Ls' := #[.val (.int p0), .val (.int p1), .val (.int p2), .val (.int p3), .val (.int p4), .val (.int 3), .val (.int k0), .val (.int k1), .val (.int k2), .val (.int k3), .val (.ref s), .val (.int 0), .val (.ref w_1), .val (.ref rt_1), .val (.ref rl_1), .val (.int 0), .unset]) at_154 rfl rfl ?_
  refine GoS.iload (pc' := 158) at_156 rfl rfl ?_
  refine GoS.ifYes (pc' := 165) at_158 (XT.i0_ge_t (by decide)) (by decide) (by decide) ?_
  refine GoS.iload (pc' := 167) at_165 rfl rfl ?_
  refine GoS.iload (pc' := 169) at_167 rfl rfl ?_
  refine GoS.isub (pc' := 170) at_169 rfl ?_
  show GoS _ _ _ _ _ _ _ _ _ _ _ _ _ _ 170 _ [(.int 3)]
  refine GoS.iconst (pc' := 171) (v := 1) at_170 rfl rfl ?_
  refine GoS.isub (pc' := 172) at_171 rfl ?_
  show GoS _ _ _ _ _ _ _ _ _ _ _ _ _ _ 172 _ [(.int 2)]
  refine GoS.istore (pc' := 174) (Ls' := #[.val (.int p0), .val (.int p1), .val (.int p2), .val (.int p3), .val (.int p4), .val (.int 3), .val (.int k0), .val (.int k1), .val (.int k2), .val (.int k3), .val (.ref s), .val (.int 0), .val (.ref w_1), .val (.ref rt_1), .val (.ref rl_1), .val (.int 0), .val (.int 2)]) at_172 rfl rfl ?_
  refine GoS.aload (pc' := 176) at_174 rfl rfl rfl ?_
  refine GoS.callV (cells' := 13) (slots' := 72) (pc' := 179) [] [] F1_3 (ww hw 95 rfl) (ww hw 51 rfl) (nfS (ww hw 53 rfl)) (ww hw 53 rfl) (ww hw 52 rfl) (ww hw 7 rfl) (ww hw 54 rfl) (by decide) (Con.cold (c_strLen0 l Z a0 hw h1 rt_1 dt_1 kt_1 cp hcp scp F1_3 F1_4 F1_5 F1_6)) pd_11 at_176 rfl ?_
  rintro _ _ _ ⟨⟨rfl, rfl⟩, rfl⟩
  show GoS _ _ _ _ _ _ _ _ _ _ _ _ _ _ 179 _ [(.int 0)]
  refine GoS.iload (pc' := 181) at_179 rfl rfl ?_
  refine GoS.icmpNo (pc' := 184) at_181 (XT.ii_ne_f (by decide)) rfl ?_
  refine GoS.aload (pc' := 186) at_184 rfl rfl rfl ?_
  refine GoS.callV (cells' := 13) (slots' := 72) (pc' := 189) [] [] F1_7 (ww hw 95 rfl) (ww hw 51 rfl) (nfS (ww hw 53 rfl)) (ww hw 53 rfl) (ww hw 52 rfl) (ww hw 7 rfl) (ww hw 54 rfl) (by decide) (Con.cold (c_strLen2 l Z a0 hw h1 rl_1 dl_1 kl_1 k1.toInt8.toInt32 k2.toInt8.toInt32 cp hcp scp F1_7 F1_8 F1_9 F1_10)) pd_11 at_186 rfl ?_
  rintro _ _ _ ⟨⟨rfl, rfl⟩, rfl⟩
  show GoS _ _ _ _ _ _ _ _ _ _ _ _ _ _ 189 _ [(.int 2)]
  refine GoS.iload (pc' := 191) at_189 rfl rfl ?_
  refine GoS.icmpYes (pc' := 196) at_191 (XT.ii_eq_t (by decide)) (by decide) (by decide) ?_
  refine GoS.iconst (pc' := 197) (v := 0) at_196 rfl rfl ?_
  refine GoS.iload (pc' := 199) at_197 rfl rfl ?_
  refine GoS.iload (pc' := 201) at_199 rfl rfl ?_
  refine GoS.iload (pc' := 203) at_201 rfl rfl ?_
  refine GoS.aload (pc' := 205) at_203 rfl rfl rfl ?_
  refine GoS.aload (pc' := 207) at_205 rfl rfl rfl ?_
  refine GoS.callS (cells' := 13) (slots' := 72) (pc' := 210) [(.int 0), (.int 3), (.int 0), (.int k0), (.ref rt_1), (.ref rl_1)] [] (ww hw 96 rfl) (ww hw 97 rfl) (ww hw 3 rfl) (ww hw 98 rfl) (by decide) (Con.cold (c_atC0 l Z a0 hw h1 (3 : Int32) k0 rt_1 rl_1 (by decide) hx0)) pd_25 at_207 rfl ?_
  rintro _ _ _ ⟨⟨rfl, rfl⟩, rfl⟩
  show GoS _ _ _ _ _ _ _ _ _ _ _ _ _ _ 210 _ [(.int 1)]
  refine GoS.ifNo (pc' := 213) at_210 (XT.i0_eq_f (by decide)) rfl ?_
  refine GoS.iconst (pc' := 214) (v := 1) at_213 rfl rfl ?_
  refine GoS.iload (pc' := 216) at_214 rfl rfl ?_
  refine GoS.iload (pc' := 218) at_216 rfl rfl ?_
  refine GoS.iload (pc' := 220) at_218 rfl rfl ?_
  refine GoS.aload (pc' := 222) at_220 rfl rfl rfl ?_
  refine GoS.aload (pc' := 224) at_222 rfl rfl rfl ?_
  refine GoS.callS (cells' := 13) (slots' := 72) (pc' := 227) [(.int 1), (.int 3), (.int 0), (.int k1), (.ref rt_1), (.ref rl_1)] [] (ww hw 96 rfl) (ww hw 97 rfl) (ww hw 3 rfl) (ww hw 98 rfl) (by decide) (Con.cold (c_atD1_0 l Z a0 hw h1 (3 : Int32) k1 rt_1 rl_1 dl_1 kl_1 (2 : Int32) ([(.int k1.toInt8.toInt32), (.int k2.toInt8.toInt32)]) k1.toInt8.toInt32 cp wf hcp hwf (by decide) (by decide) rfl (own_b255 hk1 hn1) scp sfm F1_7 F1_8 F1_9 F1_10)) pd_25 at_224 rfl ?_
  rintro _ _ _ ⟨⟨rfl, rfl⟩, rfl⟩
  show GoS _ _ _ _ _ _ _ _ _ _ _ _ _ _ 227 _ [(.int 1)]
  refine GoS.ifNo (pc' := 230) at_227 (XT.i0_eq_f (by decide)) rfl ?_
  refine GoS.iconst (pc' := 231) (v := 2) at_230 rfl rfl ?_
  refine GoS.iload (pc' := 233) at_231 rfl rfl ?_
  refine GoS.iload (pc' := 235) at_233 rfl rfl ?_
  refine GoS.iload (pc' := 237) at_235 rfl rfl ?_
  refine GoS.aload (pc' := 239) at_237 rfl rfl rfl ?_
  refine GoS.aload (pc' := 241) at_239 rfl rfl rfl ?_
  refine GoS.callS (cells' := 13) (slots' := 72) (pc' := 244) [(.int 2), (.int 3), (.int 0), (.int k2), (.ref rt_1), (.ref rl_1)] [] (ww hw 96 rfl) (ww hw 97 rfl) (ww hw 3 rfl) (ww hw 98 rfl) (by decide) (Con.cold (c_atD2_0 l Z a0 hw h1 (3 : Int32) k2 rt_1 rl_1 dl_1 kl_1 (2 : Int32) ([(.int k1.toInt8.toInt32), (.int k2.toInt8.toInt32)]) k2.toInt8.toInt32 cp wf hcp hwf (by decide) (by decide) rfl (own_b255 hk2 hn2) scp sfm F1_7 F1_8 F1_9 F1_10)) pd_25 at_241 rfl ?_
  rintro _ _ _ ⟨⟨rfl, rfl⟩, rfl⟩
  show GoS _ _ _ _ _ _ _ _ _ _ _ _ _ _ 244 _ [(.int 1)]
  refine GoS.ifNo (pc' := 247) at_244 (XT.i0_eq_f (by decide)) rfl ?_
  refine GoS.iconst (pc' := 248) (v := 3) at_247 rfl rfl ?_
  refine GoS.iload (pc' := 250) at_248 rfl rfl ?_
  refine GoS.iload (pc' := 252) at_250 rfl rfl ?_
  refine GoS.iload (pc' := 254) at_252 rfl rfl ?_
  refine GoS.aload (pc' := 256) at_254 rfl rfl rfl ?_
  refine GoS.aload (pc' := 258) at_256 rfl rfl rfl ?_
  refine GoS.callS (cells' := 13) (slots' := 72) (pc' := 261) [(.int 3), (.int 3), (.int 0), (.int k3), (.ref rt_1), (.ref rl_1)] [] (ww hw 96 rfl) (ww hw 97 rfl) (ww hw 3 rfl) (ww hw 98 rfl) (by decide) (Con.cold (c_atA l Z a0 hw h1 (3 : Int32) (3 : Int32) (0 : Int32) k3 rt_1 rl_1 (by decide))) pd_25 at_258 rfl ?_
  rintro _ _ _ ⟨⟨rfl, rfl⟩, rfl⟩
  show GoS _ _ _ _ _ _ _ _ _ _ _ _ _ _ 261 _ [(.int 1)]
  refine GoS.ifNo (pc' := 264) at_261 (XT.i0_eq_f (by decide)) rfl ?_
  refine GoS.iconst (pc' := 265) (v := 1) at_264 rfl rfl ?_
  refine GoS.goto (pc' := 269) at_265 (by decide) (by decide) ?_
  exact GoS.retN (t := .boolean) rfl (by simp) at_269 ⟨rfl, K3⟩
theorem c_rest3_1 (hw : HW a0 Z) (hs h : Heap) (p0 : Int32) (p1 : Int32) (p2 : Int32) (p3 : Int32) (p4 : Int32) (k0 : Int32) (k1 : Int32) (k2 : Int32) (k3 : Int32) (s : Addr) (b : Addr) (kb : ClassId) (cp : Int32) (wf : Value) (hcp : ¬ (cp = (0 : Int32))) (hwf : wf.isRef = true) (hcw : Jvm.Lit.compactW.before a0 Z = true) (hch7 : Jvm.Lit.constHeld Z "java/lang/String" 7) (hch26 : Jvm.Lit.constHeld Z "com/example/inquire/inquire/io/WikiLink" 26) (hch151 : Jvm.Lit.constHeld Z "java/lang/StringLatin1" 151) (hk0 : ¬ ((255 : Int32) < k0)) (hk1 : ¬ ((255 : Int32) < k1)) (hk2 : ¬ ((255 : Int32) < k2)) (hk3 : ¬ ((255 : Int32) < k3)) (hn0 : nar .char k0 = k0) (hn1 : nar .char k1 = k1) (hn2 : nar .char k2 = k2) (hn3 : nar .char k3 = k3) (hx0 : ¬ (k0 = (124 : Int32))) (hx1 : k1 = (124 : Int32)) (scp : Sta Z Z.heap "java/lang/String" "COMPACT_STRINGS" "Z" (.int cp)) (sfm : Sta Z Z.heap "jdk/internal/util/Preconditions" "SIOOBE_FORMATTER" "Ljava/util/function/BiFunction;" wf) (xs : Exa Z h s "java/lang/String") (fs : Fld Z h s "java/lang/String" "coder" "B" (.int 0)) (gs : Fld Z h s "java/lang/String" "value" "[B" (.ref b)) (vs : Arv Z h b kb .byte (3 : Int32) [(.int k0.toInt8.toInt32), (.int k1.toInt8.toInt32), (.int k2.toInt8.toInt32)] (.int 0)) (Kp : Keep hs h []) :
    GoS l room_1 Z n0 x code maxLocals ret (fun v h' LL' => v = some (.int 1) ∧ Keep hs h' []) hs [] 8 60 h 121 #[.val (.int p0), .val (.int p1), .val (.int p2), .val (.int p3), .val (.int p4), .val (.int 3), .val (.int k0), .val (.int k1), .val (.int k2), .val (.int k3), .val (.ref s), .val (.int 1), .unset, .unset, .unset, .unset, .unset] [] := by
  refine GoS.aload (pc' := 123) at_121 rfl rfl rfl ?_
  refine GoS.callS (cells' := 13) (slots' := 72) (pc' := 126) [(.ref s)] [] (ww hw 30 rfl) (ww hw 31 rfl) (ww hw 32 rfl) (ww hw 33 rfl) (by decide) (c_parse3_1 l Z a0 hw h s b kb k0.toInt8.toInt32 k1.toInt8.toInt32 k2.toInt8.toInt32 cp wf hcp hwf hcw hch26 hch151 (own_bne hk0 hn0 hx0) (own_beq hx1) scp sfm xs fs gs vs) pd_23 at_123 rfl ?_
  rintro _ h1 LL2 ⟨w_1, rt_1, dt_1, kt_1, rl_1, dl_1, kl_1, rfl, K1, F1_0, F1_1, F1_2, F1_3, F1_4, F1_5, F1_6, F1_7, F1_8, F1_9, F1_10⟩
  have K3 : Keep hs h1 [] := Kp.trans K1 all0
  show GoS _ _ _ _ _ _ _ _ _ _ _ _ _ _ 126 _ [(.ref w_1)]
  refine GoS.astore (pc' := 128) (Ls' := #[.val (.int p0), .val (.int p1), .val (.int p2), .val (.int p3), .val (.int p4), .val (.int 3), .val (.int k0), .val (.int k1), .val (.int k2), .val (.int k3), .val (.ref s), .val (.int 1), .val (.ref w_1), .unset, .unset, .unset, .unset]) at_126 rfl rfl rfl ?_
  refine GoS.aload (pc' := 130) at_128 rfl rfl rfl ?_
  refine GoS.callV (cells' := 13) (slots' := 72) (pc' := 133) [] [] F1_0 (ww hw 85 rfl) (ww hw 86 rfl) (nfS (ww hw 88 rfl)) (ww hw 88 rfl) (ww hw 87 rfl) (ww hw 32 rfl) (ww hw 89 rfl) (by decide) (Con.cold (c_getT l Z a0 hw h1 w_1 rt_1 F1_0 F1_1)) pd_24 at_130 rfl ?_
  rintro _ _ _ ⟨⟨rfl, rfl⟩, rfl⟩
  show GoS _ _ _ _ _ _ _ _ _ _ _ _ _ _ 133 _ [(.ref rt_1)]
  refine GoS.astore (pc' := 135) (Ls' := #[.val (.int p0), .val (.int p1), .val (.int p2), .val (.int p3), .val (.int p4), .val (.int 3), .val (.int k0), .val (.int k1), .val (.int k2), .val (.int k3), .val (.ref s), .val (.int 1), .val (.ref w_1), .val (.ref rt_1), .unset, .unset, .unset]) at_133 rfl rfl rfl ?_
  refine GoS.aload (pc' := 137) at_135 rfl rfl rfl ?_
  refine GoS.callV (cells' := 13) (slots' := 72) (pc' := 140) [] [] F1_0 (ww hw 90 rfl) (ww hw 91 rfl) (nfS (ww hw 93 rfl)) (ww hw 93 rfl) (ww hw 92 rfl) (ww hw 32 rfl) (ww hw 94 rfl) (by decide) (Con.cold (c_getL l Z a0 hw h1 w_1 rl_1 F1_0 F1_2)) pd_24 at_137 rfl ?_
  rintro _ _ _ ⟨⟨rfl, rfl⟩, rfl⟩
  show GoS _ _ _ _ _ _ _ _ _ _ _ _ _ _ 140 _ [(.ref rl_1)]
  refine GoS.astore (pc' := 142) (Ls' := #[.val (.int p0), .val (.int p1), .val (.int p2), .val (.int p3), .val (.int p4), .val (.int 3), .val (.int k0), .val (.int k1), .val (.int k2), .val (.int k3), .val (.ref s), .val (.int 1), .val (.ref w_1), .val (.ref rt_1), .val (.ref rl_1), .unset, .unset]) at_140 rfl rfl rfl ?_
  refine GoS.iload (pc' := 144) at_142 rfl rfl ?_
  refine GoS.ifYes (pc' := 152) at_144 (XT.i0_ge_t (by decide)) (by decide) (by decide) ?_
  refine GoS.iload (pc' := 154) at_152 rfl rfl ?_
  refine GoS.istore (pc' := 156) (Ls' := #[.val (.int p0), .val (.int p1), .val (.int p2), .val (.int p3), .val (.int p4), .val (.int 3), .val (.int k0), .val (.int k1), .val (.int k2), .val (.int k3), .val (.ref s), .val (.int 1), .val (.ref w_1), .val (.ref rt_1), .val (.ref rl_1), .val (.int 1), .unset]) at_154 rfl rfl ?_
  refine GoS.iload (pc' := 158) at_156 rfl rfl ?_
  refine GoS.ifYes (pc' := 165) at_158 (XT.i0_ge_t (by decide)) (by decide) (by decide) ?_
  refine GoS.iload (pc' := 167) at_165 rfl rfl ?_
  refine GoS.iload (pc' := 169) at_167 rfl rfl ?_
  refine GoS.isub (pc' := 170) at_169 rfl ?_
  show GoS _ _ _ _ _ _ _ _ _ _ _ _ _ _ 170 _ [(.int 2)]
  refine GoS.iconst (pc' := 171) (v := 1) at_170 rfl rfl ?_
  refine GoS.isub (pc' := 172) at_171 rfl ?_
  show GoS _ _ _ _ _ _ _ _ _ _ _ _ _ _ 172 _ [(.int 1)]
  refine GoS.istore (pc' := 174) (Ls' := #[.val (.int p0), .val (.int p1), .val (.int p2), .val (.int p3), .val (.int p4), .val (.int 3), .val (.int k0), .val (.int k1), .val (.int k2), .val (.int k3), .val (.ref s), .val (.int 1), .val (.ref w_1), .val (.ref rt_1), .val (.ref rl_1), .val (.int 1), .val (.int 1)]) at_172 rfl rfl ?_
  refine GoS.aload (pc' := 176) at_174 rfl rfl rfl ?_
  refine GoS.callV (cells' := 13) (slots' := 72) (pc' := 179) [] [] F1_3 (ww hw 95 rfl) (ww hw 51 rfl) (nfS (ww hw 53 rfl)) (ww hw 53 rfl) (ww hw 52 rfl) (ww hw 7 rfl) (ww hw 54 rfl) (by decide) (Con.cold (c_strLen1 l Z a0 hw h1 rt_1 dt_1 kt_1 k0.toInt8.toInt32 cp hcp scp F1_3 F1_4 F1_5 F1_6)) pd_11 at_176 rfl ?_
  rintro _ _ _ ⟨⟨rfl, rfl⟩, rfl⟩
  show GoS _ _ _ _ _ _ _ _ _ _ _ _ _ _ 179 _ [(.int 1)]
  refine GoS.iload (pc' := 181) at_179 rfl rfl ?_
  refine GoS.icmpNo (pc' := 184) at_181 (XT.ii_ne_f (by decide)) rfl ?_
  refine GoS.aload (pc' := 186) at_184 rfl rfl rfl ?_
  refine GoS.callV (cells' := 13) (slots' := 72) (pc' := 189) [] [] F1_7 (ww hw 95 rfl) (ww hw 51 rfl) (nfS (ww hw 53 rfl)) (ww hw 53 rfl) (ww hw 52 rfl) (ww hw 7 rfl) (ww hw 54 rfl) (by decide) (Con.cold (c_strLen1 l Z a0 hw h1 rl_1 dl_1 kl_1 k2.toInt8.toInt32 cp hcp scp F1_7 F1_8 F1_9 F1_10)) pd_11 at_186 rfl ?_
  rintro _ _ _ ⟨⟨rfl, rfl⟩, rfl⟩
  show GoS _ _ _ _ _ _ _ _ _ _ _ _ _ _ 189 _ [(.int 1)]
  refine GoS.iload (pc' := 191) at_189 rfl rfl ?_
  refine GoS.icmpYes (pc' := 196) at_191 (XT.ii_eq_t (by decide)) (by decide) (by decide) ?_
  refine GoS.iconst (pc' := 197) (v := 0) at_196 rfl rfl ?_
  refine GoS.iload (pc' := 199) at_197 rfl rfl ?_
  refine GoS.iload (pc' := 201) at_199 rfl rfl ?_
  refine GoS.iload (pc' := 203) at_201 rfl rfl ?_
  refine GoS.aload (pc' := 205) at_203 rfl rfl rfl ?_
  refine GoS.aload (pc' := 207) at_205 rfl rfl rfl ?_
  refine GoS.callS (cells' := 13) (slots' := 72) (pc' := 210) [(.int 0), (.int 3), (.int 1), (.int k0), (.ref rt_1), (.ref rl_1)] [] (ww hw 96 rfl) (ww hw 97 rfl) (ww hw 3 rfl) (ww hw 98 rfl) (by decide) (Con.cold (c_atB0p l Z a0 hw h1 (3 : Int32) (1 : Int32) k0 rt_1 rl_1 dt_1 kt_1 (1 : Int32) ([(.int k0.toInt8.toInt32)]) k0.toInt8.toInt32 cp wf hcp hwf (by decide) (by decide) (by decide) (by decide) rfl (own_b255 hk0 hn0) scp sfm F1_3 F1_4 F1_5 F1_6)) pd_25 at_207 rfl ?_
  rintro _ _ _ ⟨⟨rfl, rfl⟩, rfl⟩
  show GoS _ _ _ _ _ _ _ _ _ _ _ _ _ _ 210 _ [(.int 1)]
  refine GoS.ifNo (pc' := 213) at_210 (XT.i0_eq_f (by decide)) rfl ?_
  refine GoS.iconst (pc' := 214) (v := 1) at_213 rfl rfl ?_
  refine GoS.iload (pc' := 216) at_214 rfl rfl ?_
  refine GoS.iload (pc' := 218) at_216 rfl rfl ?_
  refine GoS.iload (pc' := 220) at_218 rfl rfl ?_
  refine GoS.aload (pc' := 222) at_220 rfl rfl rfl ?_
  refine GoS.aload (pc' := 224) at_222 rfl rfl rfl ?_
  refine GoS.callS (cells' := 13) (slots' := 72) (pc' := 227) [(.int 1), (.int 3), (.int 1), (.int k1), (.ref rt_1), (.ref rl_1)] [] (ww hw 96 rfl) (ww hw 97 rfl) (ww hw 3 rfl) (ww hw 98 rfl) (by decide) (Con.cold (c_atC1 l Z a0 hw h1 (3 : Int32) k1 rt_1 rl_1 (by decide) hx1)) pd_25 at_224 rfl ?_
  rintro _ _ _ ⟨⟨rfl, rfl⟩, rfl⟩
  show GoS _ _ _ _ _ _ _ _ _ _ _ _ _ _ 227 _ [(.int 1)]
  refine GoS.ifNo (pc' := 230) at_227 (XT.i0_eq_f (by decide)) rfl ?_
  refine GoS.iconst (pc' := 231) (v := 2) at_230 rfl rfl ?_
  refine GoS.iload (pc' := 233) at_231 rfl rfl ?_
  refine GoS.iload (pc' := 235) at_233 rfl rfl ?_
  refine GoS.iload (pc' := 237) at_235 rfl rfl ?_
  refine GoS.aload (pc' := 239) at_237 rfl rfl rfl ?_
  refine GoS.aload (pc' := 241) at_239 rfl rfl rfl ?_
  refine GoS.callS (cells' := 13) (slots' := 72) (pc' := 244) [(.int 2), (.int 3), (.int 1), (.int k2), (.ref rt_1), (.ref rl_1)] [] (ww hw 96 rfl) (ww hw 97 rfl) (ww hw 3 rfl) (ww hw 98 rfl) (by decide) (Con.cold (c_atD2_1 l Z a0 hw h1 (3 : Int32) k2 rt_1 rl_1 dl_1 kl_1 (1 : Int32) ([(.int k2.toInt8.toInt32)]) k2.toInt8.toInt32 cp wf hcp hwf (by decide) (by decide) rfl (own_b255 hk2 hn2) scp sfm F1_7 F1_8 F1_9 F1_10)) pd_25 at_241 rfl ?_
  rintro _ _ _ ⟨⟨rfl, rfl⟩, rfl⟩
  show GoS _ _ _ _ _ _ _ _ _ _ _ _ _ _ 244 _ [(.int 1)]
  refine GoS.ifNo (pc' := 247) at_244 (XT.i0_eq_f (by decide)) rfl ?_
  refine GoS.iconst (pc' := 248) (v := 3) at_247 rfl rfl ?_
  refine GoS.iload (pc' := 250) at_248 rfl rfl ?_
  refine GoS.iload (pc' := 252) at_250 rfl rfl ?_
  refine GoS.iload (pc' := 254) at_252 rfl rfl ?_
  refine GoS.aload (pc' := 256) at_254 rfl rfl rfl ?_
  refine GoS.aload (pc' := 258) at_256 rfl rfl rfl ?_
  refine GoS.callS (cells' := 13) (slots' := 72) (pc' := 261) [(.int 3), (.int 3), (.int 1), (.int k3), (.ref rt_1), (.ref rl_1)] [] (ww hw 96 rfl) (ww hw 97 rfl) (ww hw 3 rfl) (ww hw 98 rfl) (by decide) (Con.cold (c_atA l Z a0 hw h1 (3 : Int32) (3 : Int32) (1 : Int32) k3 rt_1 rl_1 (by decide))) pd_25 at_258 rfl ?_
  rintro _ _ _ ⟨⟨rfl, rfl⟩, rfl⟩
  show GoS _ _ _ _ _ _ _ _ _ _ _ _ _ _ 261 _ [(.int 1)]
  refine GoS.ifNo (pc' := 264) at_261 (XT.i0_eq_f (by decide)) rfl ?_
  refine GoS.iconst (pc' := 265) (v := 1) at_264 rfl rfl ?_
  refine GoS.goto (pc' := 269) at_265 (by decide) (by decide) ?_
  exact GoS.retN (t := .boolean) rfl (by simp) at_269 ⟨rfl, K3⟩
theorem c_rest3_2 (hw : HW a0 Z) (hs h : Heap) (p0 : Int32) (p1 : Int32) (p2 : Int32) (p3 : Int32) (p4 : Int32) (k0 : Int32) (k1 : Int32) (k2 : Int32) (k3 : Int32) (s : Addr) (b : Addr) (kb : ClassId) (cp : Int32) (wf : Value) (hcp : ¬ (cp = (0 : Int32))) (hwf : wf.isRef = true) (hcw : Jvm.Lit.compactW.before a0 Z = true) (hch7 : Jvm.Lit.constHeld Z "java/lang/String" 7) (hch26 : Jvm.Lit.constHeld Z "com/example/inquire/inquire/io/WikiLink" 26) (hch151 : Jvm.Lit.constHeld Z "java/lang/StringLatin1" 151) (hk0 : ¬ ((255 : Int32) < k0)) (hk1 : ¬ ((255 : Int32) < k1)) (hk2 : ¬ ((255 : Int32) < k2)) (hk3 : ¬ ((255 : Int32) < k3)) (hn0 : nar .char k0 = k0) (hn1 : nar .char k1 = k1) (hn2 : nar .char k2 = k2) (hn3 : nar .char k3 = k3) (hx0 : ¬ (k0 = (124 : Int32))) (hx1 : ¬ (k1 = (124 : Int32))) (hx2 : k2 = (124 : Int32)) (scp : Sta Z Z.heap "java/lang/String" "COMPACT_STRINGS" "Z" (.int cp)) (sfm : Sta Z Z.heap "jdk/internal/util/Preconditions" "SIOOBE_FORMATTER" "Ljava/util/function/BiFunction;" wf) (xs : Exa Z h s "java/lang/String") (fs : Fld Z h s "java/lang/String" "coder" "B" (.int 0)) (gs : Fld Z h s "java/lang/String" "value" "[B" (.ref b)) (vs : Arv Z h b kb .byte (3 : Int32) [(.int k0.toInt8.toInt32), (.int k1.toInt8.toInt32), (.int k2.toInt8.toInt32)] (.int 0)) (Kp : Keep hs h []) :
    GoS l room_1 Z n0 x code maxLocals ret (fun v h' LL' => v = some (.int 1) ∧ Keep hs h' []) hs [] 8 60 h 121 #[.val (.int p0), .val (.int p1), .val (.int p2), .val (.int p3), .val (.int p4), .val (.int 3), .val (.int k0), .val (.int k1), .val (.int k2), .val (.int k3), .val (.ref s), .val (.int 2), .unset, .unset, .unset, .unset, .unset] [] := by
  refine GoS.aload (pc' := 123) at_121 rfl rfl rfl ?_
  refine GoS.callS (cells' := 13) (slots' := 72) (pc' := 126) [(.ref s)] [] (ww hw 30 rfl) (ww hw 31 rfl) (ww hw 32 rfl) (ww hw 33 rfl) (by decide) (c_parse3_2 l Z a0 hw h s b kb k0.toInt8.toInt32 k1.toInt8.toInt32 k2.toInt8.toInt32 cp wf hcp hwf hcw hch26 hch151 (own_bne hk0 hn0 hx0) (own_bne hk1 hn1 hx1) (own_beq hx2) scp sfm xs fs gs vs) pd_23 at_123 rfl ?_
  rintro _ h1 LL2 ⟨w_1, rt_1, dt_1, kt_1, rl_1, dl_1, kl_1, rfl, K1, F1_0, F1_1, F1_2, F1_3, F1_4, F1_5, F1_6, F1_7, F1_8, F1_9, F1_10⟩
  have K3 : Keep hs h1 [] := Kp.trans K1 all0
  show GoS _ _ _ _ _ _ _ _ _ _ _ _ _ _ 126 _ [(.ref w_1)]
  refine GoS.astore (pc' := 128) (Ls' := #[.val (.int p0), .val (.int p1), .val (.int p2), .val (.int p3), .val (.int p4), .val (.int 3), .val (.int k0), .val (.int k1), .val (.int k2), .val (.int k3), .val (.ref s), .val (.int 2), .val (.ref w_1), .unset, .unset, .unset, .unset]) at_126 rfl rfl rfl ?_
  refine GoS.aload (pc' := 130) at_128 rfl rfl rfl ?_
  refine GoS.callV (cells' := 13) (slots' := 72) (pc' := 133) [] [] F1_0 (ww hw 85 rfl) (ww hw 86 rfl) (nfS (ww hw 88 rfl)) (ww hw 88 rfl) (ww hw 87 rfl) (ww hw 32 rfl) (ww hw 89 rfl) (by decide) (Con.cold (c_getT l Z a0 hw h1 w_1 rt_1 F1_0 F1_1)) pd_24 at_130 rfl ?_
  rintro _ _ _ ⟨⟨rfl, rfl⟩, rfl⟩
  show GoS _ _ _ _ _ _ _ _ _ _ _ _ _ _ 133 _ [(.ref rt_1)]
  refine GoS.astore (pc' := 135) (Ls' := #[.val (.int p0), .val (.int p1), .val (.int p2), .val (.int p3), .val (.int p4), .val (.int 3), .val (.int k0), .val (.int k1), .val (.int k2), .val (.int k3), .val (.ref s), .val (.int 2), .val (.ref w_1), .val (.ref rt_1), .unset, .unset, .unset]) at_133 rfl rfl rfl ?_
  refine GoS.aload (pc' := 137) at_135 rfl rfl rfl ?_
  refine GoS.callV (cells' := 13) (slots' := 72) (pc' := 140) [] [] F1_0 (ww hw 90 rfl) (ww hw 91 rfl) (nfS (ww hw 93 rfl)) (ww hw 93 rfl) (ww hw 92 rfl) (ww hw 32 rfl) (ww hw 94 rfl) (by decide) (Con.cold (c_getL l Z a0 hw h1 w_1 rl_1 F1_0 F1_2)) pd_24 at_137 rfl ?_
  rintro _ _ _ ⟨⟨rfl, rfl⟩, rfl⟩
  show GoS _ _ _ _ _ _ _ _ _ _ _ _ _ _ 140 _ [(.ref rl_1)]
  refine GoS.astore (pc' := 142) (Ls' := #[.val (.int p0), .val (.int p1), .val (.int p2), .val (.int p3), .val (.int p4), .val (.int 3), .val (.int k0), .val (.int k1), .val (.int k2), .val (.int k3), .val (.ref s), .val (.int 2), .val (.ref w_1), .val (.ref rt_1), .val (.ref rl_1), .unset, .unset]) at_140 rfl rfl rfl ?_
  refine GoS.iload (pc' := 144) at_142 rfl rfl ?_
  refine GoS.ifYes (pc' := 152) at_144 (XT.i0_ge_t (by decide)) (by decide) (by decide) ?_
  refine GoS.iload (pc' := 154) at_152 rfl rfl ?_
  refine GoS.istore (pc' := 156) (Ls' := #[.val (.int p0), .val (.int p1), .val (.int p2), .val (.int p3), .val (.int p4), .val (.int 3), .val (.int k0), .val (.int k1), .val (.int k2), .val (.int k3), .val (.ref s), .val (.int 2), .val (.ref w_1), .val (.ref rt_1), .val (.ref rl_1), .val (.int 2), .unset]) at_154 rfl rfl ?_
  refine GoS.iload (pc' := 158) at_156 rfl rfl ?_
  refine GoS.ifYes (pc' := 165) at_158 (XT.i0_ge_t (by decide)) (by decide) (by decide) ?_
  refine GoS.iload (pc' := 167) at_165 rfl rfl ?_
  refine GoS.iload (pc' := 169) at_167 rfl rfl ?_
  refine GoS.isub (pc' := 170) at_169 rfl ?_
  show GoS _ _ _ _ _ _ _ _ _ _ _ _ _ _ 170 _ [(.int 1)]
  refine GoS.iconst (pc' := 171) (v := 1) at_170 rfl rfl ?_
  refine GoS.isub (pc' := 172) at_171 rfl ?_
  show GoS _ _ _ _ _ _ _ _ _ _ _ _ _ _ 172 _ [(.int 0)]
  refine GoS.istore (pc' := 174) (Ls' := #[.val (.int p0), .val (.int p1), .val (.int p2), .val (.int p3), .val (.int p4), .val (.int 3), .val (.int k0), .val (.int k1), .val (.int k2), .val (.int k3), .val (.ref s), .val (.int 2), .val (.ref w_1), .val (.ref rt_1), .val (.ref rl_1), .val (.int 2), .val (.int 0)]) at_172 rfl rfl ?_
  refine GoS.aload (pc' := 176) at_174 rfl rfl rfl ?_
  refine GoS.callV (cells' := 13) (slots' := 72) (pc' := 179) [] [] F1_3 (ww hw 95 rfl) (ww hw 51 rfl) (nfS (ww hw 53 rfl)) (ww hw 53 rfl) (ww hw 52 rfl) (ww hw 7 rfl) (ww hw 54 rfl) (by decide) (Con.cold (c_strLen2 l Z a0 hw h1 rt_1 dt_1 kt_1 k0.toInt8.toInt32 k1.toInt8.toInt32 cp hcp scp F1_3 F1_4 F1_5 F1_6)) pd_11 at_176 rfl ?_
  rintro _ _ _ ⟨⟨rfl, rfl⟩, rfl⟩
  show GoS _ _ _ _ _ _ _ _ _ _ _ _ _ _ 179 _ [(.int 2)]
  refine GoS.iload (pc' := 181) at_179 rfl rfl ?_
  refine GoS.icmpNo (pc' := 184) at_181 (XT.ii_ne_f (by decide)) rfl ?_
  refine GoS.aload (pc' := 186) at_184 rfl rfl rfl ?_
  refine GoS.callV (cells' := 13) (slots' := 72) (pc' := 189) [] [] F1_7 (ww hw 95 rfl) (ww hw 51 rfl) (nfS (ww hw 53 rfl)) (ww hw 53 rfl) (ww hw 52 rfl) (ww hw 7 rfl) (ww hw 54 rfl) (by decide) (Con.cold (c_strLen0 l Z a0 hw h1 rl_1 dl_1 kl_1 cp hcp scp F1_7 F1_8 F1_9 F1_10)) pd_11 at_186 rfl ?_
  rintro _ _ _ ⟨⟨rfl, rfl⟩, rfl⟩
  show GoS _ _ _ _ _ _ _ _ _ _ _ _ _ _ 189 _ [(.int 0)]
  refine GoS.iload (pc' := 191) at_189 rfl rfl ?_
  refine GoS.icmpYes (pc' := 196) at_191 (XT.ii_eq_t (by decide)) (by decide) (by decide) ?_
  refine GoS.iconst (pc' := 197) (v := 0) at_196 rfl rfl ?_
  refine GoS.iload (pc' := 199) at_197 rfl rfl ?_
  refine GoS.iload (pc' := 201) at_199 rfl rfl ?_
  refine GoS.iload (pc' := 203) at_201 rfl rfl ?_
  refine GoS.aload (pc' := 205) at_203 rfl rfl rfl ?_
  refine GoS.aload (pc' := 207) at_205 rfl rfl rfl ?_
  refine GoS.callS (cells' := 13) (slots' := 72) (pc' := 210) [(.int 0), (.int 3), (.int 2), (.int k0), (.ref rt_1), (.ref rl_1)] [] (ww hw 96 rfl) (ww hw 97 rfl) (ww hw 3 rfl) (ww hw 98 rfl) (by decide) (Con.cold (c_atB0p l Z a0 hw h1 (3 : Int32) (2 : Int32) k0 rt_1 rl_1 dt_1 kt_1 (2 : Int32) ([(.int k0.toInt8.toInt32), (.int k1.toInt8.toInt32)]) k0.toInt8.toInt32 cp wf hcp hwf (by decide) (by decide) (by decide) (by decide) rfl (own_b255 hk0 hn0) scp sfm F1_3 F1_4 F1_5 F1_6)) pd_25 at_207 rfl ?_
  rintro _ _ _ ⟨⟨rfl, rfl⟩, rfl⟩
  show GoS _ _ _ _ _ _ _ _ _ _ _ _ _ _ 210 _ [(.int 1)]
  refine GoS.ifNo (pc' := 213) at_210 (XT.i0_eq_f (by decide)) rfl ?_
  refine GoS.iconst (pc' := 214) (v := 1) at_213 rfl rfl ?_
  refine GoS.iload (pc' := 216) at_214 rfl rfl ?_
  refine GoS.iload (pc' := 218) at_216 rfl rfl ?_
  refine GoS.iload (pc' := 220) at_218 rfl rfl ?_
  refine GoS.aload (pc' := 222) at_220 rfl rfl rfl ?_
  refine GoS.aload (pc' := 224) at_222 rfl rfl rfl ?_
  refine GoS.callS (cells' := 13) (slots' := 72) (pc' := 227) [(.int 1), (.int 3), (.int 2), (.int k1), (.ref rt_1), (.ref rl_1)] [] (ww hw 96 rfl) (ww hw 97 rfl) (ww hw 3 rfl) (ww hw 98 rfl) (by decide) (Con.cold (c_atB1p l Z a0 hw h1 (3 : Int32) (2 : Int32) k1 rt_1 rl_1 dt_1 kt_1 (2 : Int32) ([(.int k0.toInt8.toInt32), (.int k1.toInt8.toInt32)]) k1.toInt8.toInt32 cp wf hcp hwf (by decide) (by decide) (by decide) (by decide) rfl (own_b255 hk1 hn1) scp sfm F1_3 F1_4 F1_5 F1_6)) pd_25 at_224 rfl ?_
  rintro _ _ _ ⟨⟨rfl, rfl⟩, rfl⟩
  show GoS _ _ _ _ _ _ _ _ _ _ _ _ _ _ 227 _ [(.int 1)]
  refine GoS.ifNo (pc' := 230) at_227 (XT.i0_eq_f (by decide)) rfl ?_
  refine GoS.iconst (pc' := 231) (v := 2) at_230 rfl rfl ?_
  refine GoS.iload (pc' := 233) at_231 rfl rfl ?_
  refine GoS.iload (pc' := 235) at_233 rfl rfl ?_
  refine GoS.iload (pc' := 237) at_235 rfl rfl ?_
  refine GoS.aload (pc' := 239) at_237 rfl rfl rfl ?_
  refine GoS.aload (pc' := 241) at_239 rfl rfl rfl ?_
  refine GoS.callS (cells' := 13) (slots' := 72) (pc' := 244) [(.int 2), (.int 3), (.int 2), (.int k2), (.ref rt_1), (.ref rl_1)] [] (ww hw 96 rfl) (ww hw 97 rfl) (ww hw 3 rfl) (ww hw 98 rfl) (by decide) (Con.cold (c_atC2 l Z a0 hw h1 (3 : Int32) k2 rt_1 rl_1 (by decide) hx2)) pd_25 at_241 rfl ?_
  rintro _ _ _ ⟨⟨rfl, rfl⟩, rfl⟩
  show GoS _ _ _ _ _ _ _ _ _ _ _ _ _ _ 244 _ [(.int 1)]
  refine GoS.ifNo (pc' := 247) at_244 (XT.i0_eq_f (by decide)) rfl ?_
  refine GoS.iconst (pc' := 248) (v := 3) at_247 rfl rfl ?_
  refine GoS.iload (pc' := 250) at_248 rfl rfl ?_
  refine GoS.iload (pc' := 252) at_250 rfl rfl ?_
  refine GoS.iload (pc' := 254) at_252 rfl rfl ?_
  refine GoS.aload (pc' := 256) at_254 rfl rfl rfl ?_
  refine GoS.aload (pc' := 258) at_256 rfl rfl rfl ?_
  refine GoS.callS (cells' := 13) (slots' := 72) (pc' := 261) [(.int 3), (.int 3), (.int 2), (.int k3), (.ref rt_1), (.ref rl_1)] [] (ww hw 96 rfl) (ww hw 97 rfl) (ww hw 3 rfl) (ww hw 98 rfl) (by decide) (Con.cold (c_atA l Z a0 hw h1 (3 : Int32) (3 : Int32) (2 : Int32) k3 rt_1 rl_1 (by decide))) pd_25 at_258 rfl ?_
  rintro _ _ _ ⟨⟨rfl, rfl⟩, rfl⟩
  show GoS _ _ _ _ _ _ _ _ _ _ _ _ _ _ 261 _ [(.int 1)]
  refine GoS.ifNo (pc' := 264) at_261 (XT.i0_eq_f (by decide)) rfl ?_
  refine GoS.iconst (pc' := 265) (v := 1) at_264 rfl rfl ?_
  refine GoS.goto (pc' := 269) at_265 (by decide) (by decide) ?_
  exact GoS.retN (t := .boolean) rfl (by simp) at_269 ⟨rfl, K3⟩
theorem c_rest4_m (hw : HW a0 Z) (hs h : Heap) (p0 : Int32) (p1 : Int32) (p2 : Int32) (p3 : Int32) (p4 : Int32) (k0 : Int32) (k1 : Int32) (k2 : Int32) (k3 : Int32) (s : Addr) (b : Addr) (kb : ClassId) (cp : Int32) (wf : Value) (hcp : ¬ (cp = (0 : Int32))) (hwf : wf.isRef = true) (hcw : Jvm.Lit.compactW.before a0 Z = true) (hch7 : Jvm.Lit.constHeld Z "java/lang/String" 7) (hch26 : Jvm.Lit.constHeld Z "com/example/inquire/inquire/io/WikiLink" 26) (hch151 : Jvm.Lit.constHeld Z "java/lang/StringLatin1" 151) (hk0 : ¬ ((255 : Int32) < k0)) (hk1 : ¬ ((255 : Int32) < k1)) (hk2 : ¬ ((255 : Int32) < k2)) (hk3 : ¬ ((255 : Int32) < k3)) (hn0 : nar .char k0 = k0) (hn1 : nar .char k1 = k1) (hn2 : nar .char k2 = k2) (hn3 : nar .char k3 = k3) (hx0 : ¬ (k0 = (124 : Int32))) (hx1 : ¬ (k1 = (124 : Int32))) (hx2 : ¬ (k2 = (124 : Int32))) (hx3 : ¬ (k3 = (124 : Int32))) (scp : Sta Z Z.heap "java/lang/String" "COMPACT_STRINGS" "Z" (.int cp)) (sfm : Sta Z Z.heap "jdk/internal/util/Preconditions" "SIOOBE_FORMATTER" "Ljava/util/function/BiFunction;" wf) (xs : Exa Z h s "java/lang/String") (fs : Fld Z h s "java/lang/String" "coder" "B" (.int 0)) (gs : Fld Z h s "java/lang/String" "value" "[B" (.ref b)) (vs : Arv Z h b kb .byte (4 : Int32) [(.int k0.toInt8.toInt32), (.int k1.toInt8.toInt32), (.int k2.toInt8.toInt32), (.int k3.toInt8.toInt32)] (.int 0)) (Kp : Keep hs h []) :
    GoS l room_1 Z n0 x code maxLocals ret (fun v h' LL' => v = some (.int 1) ∧ Keep hs h' []) hs [] 8 60 h 121 #[.val (.int p0), .val (.int p1), .val (.int p2), .val (.int p3), .val (.int p4), .val (.int 4), .val (.int k0), .val (.int k1), .val (.int k2), .val (.int k3), .val (.ref s), .val (.int (-1 : Int32)), .unset, .unset, .unset, .unset, .unset] [] := by
  refine GoS.aload (pc' := 123) at_121 rfl rfl rfl ?_
  refine GoS.callS (cells' := 11) (slots' := 66) (pc' := 126) [(.ref s)] [] (ww hw 30 rfl) (ww hw 31 rfl) (ww hw 32 rfl) (ww hw 33 rfl) (by decide) (c_parse4_m l Z a0 hw h s b kb k0.toInt8.toInt32 k1.toInt8.toInt32 k2.toInt8.toInt32 k3.toInt8.toInt32 cp wf hcp hwf hcw hch26 hch151 (own_bne hk0 hn0 hx0) (own_bne hk1 hn1 hx1) (own_bne hk2 hn2 hx2) (own_bne hk3 hn3 hx3) scp sfm xs fs gs vs) pd_23 at_123 rfl ?_
  rintro _ h1 LL2 ⟨w_1, rl_1, dl_1, kl_1, rfl, K1, F1_0, F1_1, F1_2, F1_3, F1_4, F1_5, F1_6⟩
  have K3 : Keep hs h1 [] := Kp.trans K1 all0
  show GoS _ _ _ _ _ _ _ _ _ _ _ _ _ _ 126 _ [(.ref w_1)]
  refine GoS.astore (pc' := 128) (Ls' := #[.val (.int p0), .val (.int p1), .val (.int p2), .val (.int p3), .val (.int p4), .val (.int 4), .val (.int k0), .val (.int k1), .val (.int k2), .val (.int k3), .val (.ref s), .val (.int (-1 : Int32)), .val (.ref w_1), .unset, .unset, .unset, .unset]) at_126 rfl rfl rfl ?_
  refine GoS.aload (pc' := 130) at_128 rfl rfl rfl ?_
  refine GoS.callV (cells' := 11) (slots' := 66) (pc' := 133) [] [] F1_0 (ww hw 85 rfl) (ww hw 86 rfl) (nfS (ww hw 88 rfl)) (ww hw 88 rfl) (ww hw 87 rfl) (ww hw 32 rfl) (ww hw 89 rfl) (by decide) (Con.cold (c_getT l Z a0 hw h1 w_1 s F1_0 F1_1)) pd_24 at_130 rfl ?_
  rintro _ _ _ ⟨⟨rfl, rfl⟩, rfl⟩
  show GoS _ _ _ _ _ _ _ _ _ _ _ _ _ _ 133 _ [(.ref s)]
  refine GoS.astore (pc' := 135) (Ls' := #[.val (.int p0), .val (.int p1), .val (.int p2), .val (.int p3), .val (.int p4), .val (.int 4), .val (.int k0), .val (.int k1), .val (.int k2), .val (.int k3), .val (.ref s), .val (.int (-1 : Int32)), .val (.ref w_1), .val (.ref s), .unset, .unset, .unset]) at_133 rfl rfl rfl ?_
  refine GoS.aload (pc' := 137) at_135 rfl rfl rfl ?_
  refine GoS.callV (cells' := 11) (slots' := 66) (pc' := 140) [] [] F1_0 (ww hw 90 rfl) (ww hw 91 rfl) (nfS (ww hw 93 rfl)) (ww hw 93 rfl) (ww hw 92 rfl) (ww hw 32 rfl) (ww hw 94 rfl) (by decide) (Con.cold (c_getL l Z a0 hw h1 w_1 rl_1 F1_0 F1_2)) pd_24 at_137 rfl ?_
  rintro _ _ _ ⟨⟨rfl, rfl⟩, rfl⟩
  show GoS _ _ _ _ _ _ _ _ _ _ _ _ _ _ 140 _ [(.ref rl_1)]
  refine GoS.astore (pc' := 142) (Ls' := #[.val (.int p0), .val (.int p1), .val (.int p2), .val (.int p3), .val (.int p4), .val (.int 4), .val (.int k0), .val (.int k1), .val (.int k2), .val (.int k3), .val (.ref s), .val (.int (-1 : Int32)), .val (.ref w_1), .val (.ref s), .val (.ref rl_1), .unset, .unset]) at_140 rfl rfl rfl ?_
  refine GoS.iload (pc' := 144) at_142 rfl rfl ?_
  refine GoS.ifNo (pc' := 147) at_144 (XT.i0_ge_f (by decide)) rfl ?_
  refine GoS.iload (pc' := 149) at_147 rfl rfl ?_
  refine GoS.goto (pc' := 154) at_149 (by decide) (by decide) ?_
  refine GoS.istore (pc' := 156) (Ls' := #[.val (.int p0), .val (.int p1), .val (.int p2), .val (.int p3), .val (.int p4), .val (.int 4), .val (.int k0), .val (.int k1), .val (.int k2), .val (.int k3), .val (.ref s), .val (.int (-1 : Int32)), .val (.ref w_1), .val (.ref s), .val (.ref rl_1), .val (.int 4), .unset]) at_154 rfl rfl ?_
  refine GoS.iload (pc' := 158) at_156 rfl rfl ?_
  refine GoS.ifNo (pc' := 161) at_158 (XT.i0_ge_f (by decide)) rfl ?_
  refine GoS.iconst (pc' := 162) (v := 0) at_161 rfl rfl ?_
  refine GoS.goto (pc' := 172) at_162 (by decide) (by decide) ?_
  refine GoS.istore (pc' := 174) (Ls' := #[.val (.int p0), .val (.int p1), .val (.int p2), .val (.int p3), .val (.int p4), .val (.int 4), .val (.int k0), .val (.int k1), .val (.int k2), .val (.int k3), .val (.ref s), .val (.int (-1 : Int32)), .val (.ref w_1), .val (.ref s), .val (.ref rl_1), .val (.int 4), .val (.int 0)]) at_172 rfl rfl ?_
  refine GoS.aload (pc' := 176) at_174 rfl rfl rfl ?_
  refine GoS.callV (cells' := 11) (slots' := 66) (pc' := 179) [] [] (xs.keep K1) (ww hw 95 rfl) (ww hw 51 rfl) (nfS (ww hw 53 rfl)) (ww hw 53 rfl) (ww hw 52 rfl) (ww hw 7 rfl) (ww hw 54 rfl) (by decide) (Con.cold (c_strLen4 l Z a0 hw h1 s b kb k0.toInt8.toInt32 k1.toInt8.toInt32 k2.toInt8.toInt32 k3.toInt8.toInt32 cp hcp scp (xs.keep K1) (fs.keep K1 nin0) (gs.keep K1 nin0) (vs.keep K1 nin0))) pd_11 at_176 rfl ?_
  rintro _ _ _ ⟨⟨rfl, rfl⟩, rfl⟩
  show GoS _ _ _ _ _ _ _ _ _ _ _ _ _ _ 179 _ [(.int 4)]
  refine GoS.iload (pc' := 181) at_179 rfl rfl ?_
  refine GoS.icmpNo (pc' := 184) at_181 (XT.ii_ne_f (by decide)) rfl ?_
  refine GoS.aload (pc' := 186) at_184 rfl rfl rfl ?_
  refine GoS.callV (cells' := 11) (slots' := 66) (pc' := 189) [] [] F1_3 (ww hw 95 rfl) (ww hw 51 rfl) (nfS (ww hw 53 rfl)) (ww hw 53 rfl) (ww hw 52 rfl) (ww hw 7 rfl) (ww hw 54 rfl) (by decide) (Con.cold (c_strLen0 l Z a0 hw h1 rl_1 dl_1 kl_1 cp hcp scp F1_3 F1_4 F1_5 F1_6)) pd_11 at_186 rfl ?_
  rintro _ _ _ ⟨⟨rfl, rfl⟩, rfl⟩
  show GoS _ _ _ _ _ _ _ _ _ _ _ _ _ _ 189 _ [(.int 0)]
  refine GoS.iload (pc' := 191) at_189 rfl rfl ?_
  refine GoS.icmpYes (pc' := 196) at_191 (XT.ii_eq_t (by decide)) (by decide) (by decide) ?_
  refine GoS.iconst (pc' := 197) (v := 0) at_196 rfl rfl ?_
  refine GoS.iload (pc' := 199) at_197 rfl rfl ?_
  refine GoS.iload (pc' := 201) at_199 rfl rfl ?_
  refine GoS.iload (pc' := 203) at_201 rfl rfl ?_
  refine GoS.aload (pc' := 205) at_203 rfl rfl rfl ?_
  refine GoS.aload (pc' := 207) at_205 rfl rfl rfl ?_
  refine GoS.callS (cells' := 11) (slots' := 66) (pc' := 210) [(.int 0), (.int 4), (.int (-1 : Int32)), (.int k0), (.ref s), (.ref rl_1)] [] (ww hw 96 rfl) (ww hw 97 rfl) (ww hw 3 rfl) (ww hw 98 rfl) (by decide) (Con.cold (c_atB0m l Z a0 hw h1 (4 : Int32) k0 s rl_1 b kb (4 : Int32) ([(.int k0.toInt8.toInt32), (.int k1.toInt8.toInt32), (.int k2.toInt8.toInt32), (.int k3.toInt8.toInt32)]) k0.toInt8.toInt32 cp wf hcp hwf (by decide) (by decide) rfl (own_b255 hk0 hn0) scp sfm (xs.keep K1) (fs.keep K1 nin0) (gs.keep K1 nin0) (vs.keep K1 nin0))) pd_25 at_207 rfl ?_
  rintro _ _ _ ⟨⟨rfl, rfl⟩, rfl⟩
  show GoS _ _ _ _ _ _ _ _ _ _ _ _ _ _ 210 _ [(.int 1)]
  refine GoS.ifNo (pc' := 213) at_210 (XT.i0_eq_f (by decide)) rfl ?_
  refine GoS.iconst (pc' := 214) (v := 1) at_213 rfl rfl ?_
  refine GoS.iload (pc' := 216) at_214 rfl rfl ?_
  refine GoS.iload (pc' := 218) at_216 rfl rfl ?_
  refine GoS.iload (pc' := 220) at_218 rfl rfl ?_
  refine GoS.aload (pc' := 222) at_220 rfl rfl rfl ?_
  refine GoS.aload (pc' := 224) at_222 rfl rfl rfl ?_
  refine GoS.callS (cells' := 11) (slots' := 66) (pc' := 227) [(.int 1), (.int 4), (.int (-1 : Int32)), (.int k1), (.ref s), (.ref rl_1)] [] (ww hw 96 rfl) (ww hw 97 rfl) (ww hw 3 rfl) (ww hw 98 rfl) (by decide) (Con.cold (c_atB1m l Z a0 hw h1 (4 : Int32) k1 s rl_1 b kb (4 : Int32) ([(.int k0.toInt8.toInt32), (.int k1.toInt8.toInt32), (.int k2.toInt8.toInt32), (.int k3.toInt8.toInt32)]) k1.toInt8.toInt32 cp wf hcp hwf (by decide) (by decide) rfl (own_b255 hk1 hn1) scp sfm (xs.keep K1) (fs.keep K1 nin0) (gs.keep K1 nin0) (vs.keep K1 nin0))) pd_25 at_224 rfl ?_
  rintro _ _ _ ⟨⟨rfl, rfl⟩, rfl⟩
  show GoS _ _ _ _ _ _ _ _ _ _ _ _ _ _ 227 _ [(.int 1)]
  refine GoS.ifNo (pc' := 230) at_227 (XT.i0_eq_f (by decide)) rfl ?_
  refine GoS.iconst (pc' := 231) (v := 2) at_230 rfl rfl ?_
  refine GoS.iload (pc' := 233) at_231 rfl rfl ?_
  refine GoS.iload (pc' := 235) at_233 rfl rfl ?_
  refine GoS.iload (pc' := 237) at_235 rfl rfl ?_
  refine GoS.aload (pc' := 239) at_237 rfl rfl rfl ?_
  refine GoS.aload (pc' := 241) at_239 rfl rfl rfl ?_
  refine GoS.callS (cells' := 11) (slots' := 66) (pc' := 244) [(.int 2), (.int 4), (.int (-1 : Int32)), (.int k2), (.ref s), (.ref rl_1)] [] (ww hw 96 rfl) (ww hw 97 rfl) (ww hw 3 rfl) (ww hw 98 rfl) (by decide) (Con.cold (c_atB2m l Z a0 hw h1 (4 : Int32) k2 s rl_1 b kb (4 : Int32) ([(.int k0.toInt8.toInt32), (.int k1.toInt8.toInt32), (.int k2.toInt8.toInt32), (.int k3.toInt8.toInt32)]) k2.toInt8.toInt32 cp wf hcp hwf (by decide) (by decide) rfl (own_b255 hk2 hn2) scp sfm (xs.keep K1) (fs.keep K1 nin0) (gs.keep K1 nin0) (vs.keep K1 nin0))) pd_25 at_241 rfl ?_
  rintro _ _ _ ⟨⟨rfl, rfl⟩, rfl⟩
  show GoS _ _ _ _ _ _ _ _ _ _ _ _ _ _ 244 _ [(.int 1)]
  refine GoS.ifNo (pc' := 247) at_244 (XT.i0_eq_f (by decide)) rfl ?_
  refine GoS.iconst (pc' := 248) (v := 3) at_247 rfl rfl ?_
  refine GoS.iload (pc' := 250) at_248 rfl rfl ?_
  refine GoS.iload (pc' := 252) at_250 rfl rfl ?_
  refine GoS.iload (pc' := 254) at_252 rfl rfl ?_
  refine GoS.aload (pc' := 256) at_254 rfl rfl rfl ?_
  refine GoS.aload (pc' := 258) at_256 rfl rfl rfl ?_
  refine GoS.callS (cells' := 11) (slots' := 66) (pc' := 261) [(.int 3), (.int 4), (.int (-1 : Int32)), (.int k3), (.ref s), (.ref rl_1)] [] (ww hw 96 rfl) (ww hw 97 rfl) (ww hw 3 rfl) (ww hw 98 rfl) (by decide) (Con.cold (c_atB3m l Z a0 hw h1 (4 : Int32) k3 s rl_1 b kb (4 : Int32) ([(.int k0.toInt8.toInt32), (.int k1.toInt8.toInt32), (.int k2.toInt8.toInt32), (.int k3.toInt8.toInt32)]) k3.toInt8.toInt32 cp wf hcp hwf (by decide) (by decide) rfl (own_b255 hk3 hn3) scp sfm (xs.keep K1) (fs.keep K1 nin0) (gs.keep K1 nin0) (vs.keep K1 nin0))) pd_25 at_258 rfl ?_
  rintro _ _ _ ⟨⟨rfl, rfl⟩, rfl⟩
  show GoS _ _ _ _ _ _ _ _ _ _ _ _ _ _ 261 _ [(.int 1)]
  refine GoS.ifNo (pc' := 264) at_261 (XT.i0_eq_f (by decide)) rfl ?_
  refine GoS.iconst (pc' := 265) (v := 1) at_264 rfl rfl ?_
  refine GoS.goto (pc' := 269) at_265 (by decide) (by decide) ?_
  exact GoS.retN (t := .boolean) rfl (by simp) at_269 ⟨rfl, K3⟩
theorem c_rest4_0 (hw : HW a0 Z) (hs h : Heap) (p0 : Int32) (p1 : Int32) (p2 : Int32) (p3 : Int32) (p4 : Int32) (k0 : Int32) (k1 : Int32) (k2 : Int32) (k3 : Int32) (s : Addr) (b : Addr) (kb : ClassId) (cp : Int32) (wf : Value) (hcp : ¬ (cp = (0 : Int32))) (hwf : wf.isRef = true) (hcw : Jvm.Lit.compactW.before a0 Z = true) (hch7 : Jvm.Lit.constHeld Z "java/lang/String" 7) (hch26 : Jvm.Lit.constHeld Z "com/example/inquire/inquire/io/WikiLink" 26) (hch151 : Jvm.Lit.constHeld Z "java/lang/StringLatin1" 151) (hk0 : ¬ ((255 : Int32) < k0)) (hk1 : ¬ ((255 : Int32) < k1)) (hk2 : ¬ ((255 : Int32) < k2)) (hk3 : ¬ ((255 : Int32) < k3)) (hn0 : nar .char k0 = k0) (hn1 : nar .char k1 = k1) (hn2 : nar .char k2 = k2) (hn3 : nar .char k3 = k3) (hx0 : k0 = (124 : Int32)) (scp : Sta Z Z.heap "java/lang/String" "COMPACT_STRINGS" "Z" (.int cp)) (sfm : Sta Z Z.heap "jdk/internal/util/Preconditions" "SIOOBE_FORMATTER" "Ljava/util/function/BiFunction;" wf) (xs : Exa Z h s "java/lang/String") (fs : Fld Z h s "java/lang/String" "coder" "B" (.int 0)) (gs : Fld Z h s "java/lang/String" "value" "[B" (.ref b)) (vs : Arv Z h b kb .byte (4 : Int32) [(.int k0.toInt8.toInt32), (.int k1.toInt8.toInt32), (.int k2.toInt8.toInt32), (.int k3.toInt8.toInt32)] (.int 0)) (Kp : Keep hs h []) :
    GoS l room_1 Z n0 x code maxLocals ret (fun v h' LL' => v = some (.int 1) ∧ Keep hs h' []) hs [] 8 60 h 121 #[.val (.int p0), .val (.int p1), .val (.int p2), .val (.int p3), .val (.int p4), .val (.int 4), .val (.int k0), .val (.int k1), .val (.int k2), .val (.int k3), .val (.ref s), .val (.int 0), .unset, .unset, .unset, .unset, .unset] [] := by
  refine GoS.aload (pc' := 123) at_121 rfl rfl rfl ?_
  refine GoS.callS (cells' := 13) (slots' := 73) (pc' := 126) [(.ref s)] [] (ww hw 30 rfl) (ww hw 31 rfl) (ww hw 32 rfl) (ww hw 33 rfl) (by decide) (c_parse4_0 l Z a0 hw h s b kb k0.toInt8.toInt32 k1.toInt8.toInt32 k2.toInt8.toInt32 k3.toInt8.toInt32 cp wf hcp hwf hcw hch26 hch151 (own_beq hx0) scp sfm xs fs gs vs) pd_23 at_123 rfl ?_
  rintro _ h1 LL2 ⟨w_1, rt_1, dt_1, kt_1, rl_1, dl_1, kl_1, rfl, K1, F1_0, F1_1, F1_2, F1_3, F1_4, F1_5, F1_6, F1_7, F1_8, F1_9, F1_10⟩
  have K3 : Keep hs h1 [] := Kp.trans K1 all0
  show GoS _ _ _ _ _ _ _ _ _ _ _ _ _ _ 126 _ [(.ref w_1)]
  refine GoS.astore (pc' := 128) (Ls' := #[.val (.int p0), .val (.int p1), .val (.int p2), .val (.int p3), .val (.int p4), .val (.int 4), .val (.int k0), .val (.int k1), .val (.int k2), .val (.int k3), .val (.ref s), .val (.int 0), .val (.ref w_1), .unset, .unset, .unset, .unset]) at_126 rfl rfl rfl ?_
  refine GoS.aload (pc' := 130) at_128 rfl rfl rfl ?_
  refine GoS.callV (cells' := 13) (slots' := 73) (pc' := 133) [] [] F1_0 (ww hw 85 rfl) (ww hw 86 rfl) (nfS (ww hw 88 rfl)) (ww hw 88 rfl) (ww hw 87 rfl) (ww hw 32 rfl) (ww hw 89 rfl) (by decide) (Con.cold (c_getT l Z a0 hw h1 w_1 rt_1 F1_0 F1_1)) pd_24 at_130 rfl ?_
  rintro _ _ _ ⟨⟨rfl, rfl⟩, rfl⟩
  show GoS _ _ _ _ _ _ _ _ _ _ _ _ _ _ 133 _ [(.ref rt_1)]
  refine GoS.astore (pc' := 135) (Ls' := #[.val (.int p0), .val (.int p1), .val (.int p2), .val (.int p3), .val (.int p4), .val (.int 4), .val (.int k0), .val (.int k1), .val (.int k2), .val (.int k3), .val (.ref s), .val (.int 0), .val (.ref w_1), .val (.ref rt_1), .unset, .unset, .unset]) at_133 rfl rfl rfl ?_
  refine GoS.aload (pc' := 137) at_135 rfl rfl rfl ?_
  refine GoS.callV (cells' := 13) (slots' := 73) (pc' := 140) [] [] F1_0 (ww hw 90 rfl) (ww hw 91 rfl) (nfS (ww hw 93 rfl)) (ww hw 93 rfl) (ww hw 92 rfl) (ww hw 32 rfl) (ww hw 94 rfl) (by decide) (Con.cold (c_getL l Z a0 hw h1 w_1 rl_1 F1_0 F1_2)) pd_24 at_137 rfl ?_
  rintro _ _ _ ⟨⟨rfl, rfl⟩, rfl⟩
  show GoS _ _ _ _ _ _ _ _ _ _ _ _ _ _ 140 _ [(.ref rl_1)]
  refine GoS.astore (pc' := 142) (Ls' := #[.val (.int p0), .val (.int p1), .val (.int p2), .val (.int p3), .val (.int p4), .val (.int 4), .val (.int k0), .val (.int k1), .val (.int k2), .val (.int k3), .val (.ref s), .val (.int 0), .val (.ref w_1), .val (.ref rt_1), .val (.ref rl_1), .unset, .unset]) at_140 rfl rfl rfl ?_
  refine GoS.iload (pc' := 144) at_142 rfl rfl ?_
  refine GoS.ifYes (pc' := 152) at_144 (XT.i0_ge_t (by decide)) (by decide) (by decide) ?_
  refine GoS.iload (pc' := 154) at_152 rfl rfl ?_
  refine GoS.istore (pc' := 156) (Ls' := #[.val (.int p0), .val (.int p1), .val (.int p2), .val (.int p3), .val (.int p4), .val (.int 4), .val (.int k0), .val (.int k1), .val (.int k2), .val (.int k3), .val (.ref s), .val (.int 0), .val (.ref w_1), .val (.ref rt_1), .val (.ref rl_1), .val (.int 0), .unset]) at_154 rfl rfl ?_
  refine GoS.iload (pc' := 158) at_156 rfl rfl ?_
  refine GoS.ifYes (pc' := 165) at_158 (XT.i0_ge_t (by decide)) (by decide) (by decide) ?_
  refine GoS.iload (pc' := 167) at_165 rfl rfl ?_
  refine GoS.iload (pc' := 169) at_167 rfl rfl ?_
  refine GoS.isub (pc' := 170) at_169 rfl ?_
  show GoS _ _ _ _ _ _ _ _ _ _ _ _ _ _ 170 _ [(.int 4)]
  refine GoS.iconst (pc' := 171) (v := 1) at_170 rfl rfl ?_
  refine GoS.isub (pc' := 172) at_171 rfl ?_
  show GoS _ _ _ _ _ _ _ _ _ _ _ _ _ _ 172 _ [(.int 3)]
  refine GoS.istore (pc' := 174) (Ls' := #[.val (.int p0), .val (.int p1), .val (.int p2), .val (.int p3), .val (.int p4), .val (.int 4), .val (.int k0), .val (.int k1), .val (.int k2), .val (.int k3), .val (.ref s), .val (.int 0), .val (.ref w_1), .val (.ref rt_1), .val (.ref rl_1), .val (.int 0), .val (.int 3)]) at_172 rfl rfl ?_
  refine GoS.aload (pc' := 176) at_174 rfl rfl rfl ?_
  refine GoS.callV (cells' := 13) (slots' := 73) (pc' := 179) [] [] F1_3 (ww hw 95 rfl) (ww hw 51 rfl) (nfS (ww hw 53 rfl)) (ww hw 53 rfl) (ww hw 52 rfl) (ww hw 7 rfl) (ww hw 54 rfl) (by decide) (Con.cold (c_strLen0 l Z a0 hw h1 rt_1 dt_1 kt_1 cp hcp scp F1_3 F1_4 F1_5 F1_6)) pd_11 at_176 rfl ?_
  rintro _ _ _ ⟨⟨rfl, rfl⟩, rfl⟩
  show GoS _ _ _ _ _ _ _ _ _ _ _ _ _ _ 179 _ [(.int 0)]
  refine GoS.iload (pc' := 181) at_179 rfl rfl ?_
  refine GoS.icmpNo (pc' := 184) at_181 (XT.ii_ne_f (by decide)) rfl ?_
  refine GoS.aload (pc' := 186) at_184 rfl rfl rfl ?_
  refine GoS.callV (cells' := 13) (slots' := 73) (pc' := 189) [] [] F1_7 (ww hw 95 rfl) (ww hw 51 rfl) (nfS (ww hw 53 rfl)) (ww hw 53 rfl) (ww hw 52 rfl) (ww hw 7 rfl) (ww hw 54 rfl) (by decide) (Con.cold (c_strLen3 l Z a0 hw h1 rl_1 dl_1 kl_1 k1.toInt8.toInt32 k2.toInt8.toInt32 k3.toInt8.toInt32 cp hcp scp F1_7 F1_8 F1_9 F1_10)) pd_11 at_186 rfl ?_
  rintro _ _ _ ⟨⟨rfl, rfl⟩, rfl⟩
  show GoS _ _ _ _ _ _ _ _ _ _ _ _ _ _ 189 _ [(.int 3)]
  refine GoS.iload (pc' := 191) at_189 rfl rfl ?_
  refine GoS.icmpYes (pc' := 196) at_191 (XT.ii_eq_t (by decide)) (by decide) (by decide) ?_
  refine GoS.iconst (pc' := 197) (v := 0) at_196 rfl rfl ?_
  refine GoS.iload (pc' := 199) at_197 rfl rfl ?_
  refine GoS.iload (pc' := 201) at_199 rfl rfl ?_
  refine GoS.iload (pc' := 203) at_201 rfl rfl ?_
  refine GoS.aload (pc' := 205) at_203 rfl rfl rfl ?_
  refine GoS.aload (pc' := 207) at_205 rfl rfl rfl ?_
  refine GoS.callS (cells' := 13) (slots' := 73) (pc' := 210) [(.int 0), (.int 4), (.int 0), (.int k0), (.ref rt_1), (.ref rl_1)] [] (ww hw 96 rfl) (ww hw 97 rfl) (ww hw 3 rfl) (ww hw 98 rfl) (by decide) (Con.cold (c_atC0 l Z a0 hw h1 (4 : Int32) k0 rt_1 rl_1 (by decide) hx0)) pd_25 at_207 rfl ?_
  rintro _ _ _ ⟨⟨rfl, rfl⟩, rfl⟩
  show GoS _ _ _ _ _ _ _ _ _ _ _ _ _ _ 210 _ [(.int 1)]
  refine GoS.ifNo (pc' := 213) at_210 (XT.i0_eq_f (by decide)) rfl ?_
  refine GoS.iconst (pc' := 214) (v := 1) at_213 rfl rfl ?_
  refine GoS.iload (pc' := 216) at_214 rfl rfl ?_
  refine GoS.iload (pc' := 218) at_216 rfl rfl ?_
  refine GoS.iload (pc' := 220) at_218 rfl rfl ?_
  refine GoS.aload (pc' := 222) at_220 rfl rfl rfl ?_
  refine GoS.aload (pc' := 224) at_222 rfl rfl rfl ?_
  refine GoS.callS (cells' := 13) (slots' := 73) (pc' := 227) [(.int 1), (.int 4), (.int 0), (.int k1), (.ref rt_1), (.ref rl_1)] [] (ww hw 96 rfl) (ww hw 97 rfl) (ww hw 3 rfl) (ww hw 98 rfl) (by decide) (Con.cold (c_atD1_0 l Z a0 hw h1 (4 : Int32) k1 rt_1 rl_1 dl_1 kl_1 (3 : Int32) ([(.int k1.toInt8.toInt32), (.int k2.toInt8.toInt32), (.int k3.toInt8.toInt32)]) k1.toInt8.toInt32 cp wf hcp hwf (by decide) (by decide) rfl (own_b255 hk1 hn1) scp sfm F1_7 F1_8 F1_9 F1_10)) pd_25 at_224 rfl ?_
  rintro _ _ _ ⟨⟨rfl, rfl⟩, rfl⟩
  show GoS _ _ _ _ _ _ _ _ _ _ _ _ _ _ 227 _ [(.int 1)]
  refine GoS.ifNo (pc' := 230) at_227 (XT.i0_eq_f (by decide)) rfl ?_
  refine GoS.iconst (pc' := 231) (v := 2) at_230 rfl rfl ?_
  refine GoS.iload (pc' := 233) at_231 rfl rfl ?_
  refine GoS.iload (pc' := 235) at_233 rfl rfl ?_
  refine GoS.iload (pc' := 237) at_235 rfl rfl ?_
  refine GoS.aload (pc' := 239) at_237 rfl rfl rfl ?_
  refine GoS.aload (pc' := 241) at_239 rfl rfl rfl ?_
  refine GoS.callS (cells' := 13) (slots' := 73) (pc' := 244) [(.int 2), (.int 4), (.int 0), (.int k2), (.ref rt_1), (.ref rl_1)] [] (ww hw 96 rfl) (ww hw 97 rfl) (ww hw 3 rfl) (ww hw 98 rfl) (by decide) (Con.cold (c_atD2_0 l Z a0 hw h1 (4 : Int32) k2 rt_1 rl_1 dl_1 kl_1 (3 : Int32) ([(.int k1.toInt8.toInt32), (.int k2.toInt8.toInt32), (.int k3.toInt8.toInt32)]) k2.toInt8.toInt32 cp wf hcp hwf (by decide) (by decide) rfl (own_b255 hk2 hn2) scp sfm F1_7 F1_8 F1_9 F1_10)) pd_25 at_241 rfl ?_
  rintro _ _ _ ⟨⟨rfl, rfl⟩, rfl⟩
  show GoS _ _ _ _ _ _ _ _ _ _ _ _ _ _ 244 _ [(.int 1)]
  refine GoS.ifNo (pc' := 247) at_244 (XT.i0_eq_f (by decide)) rfl ?_
  refine GoS.iconst (pc' := 248) (v := 3) at_247 rfl rfl ?_
  refine GoS.iload (pc' := 250) at_248 rfl rfl ?_
  refine GoS.iload (pc' := 252) at_250 rfl rfl ?_
  refine GoS.iload (pc' := 254) at_252 rfl rfl ?_
  refine GoS.aload (pc' := 256) at_254 rfl rfl rfl ?_
  refine GoS.aload (pc' := 258) at_256 rfl rfl rfl ?_
  refine GoS.callS (cells' := 13) (slots' := 73) (pc' := 261) [(.int 3), (.int 4), (.int 0), (.int k3), (.ref rt_1), (.ref rl_1)] [] (ww hw 96 rfl) (ww hw 97 rfl) (ww hw 3 rfl) (ww hw 98 rfl) (by decide) (Con.cold (c_atD3_0 l Z a0 hw h1 (4 : Int32) k3 rt_1 rl_1 dl_1 kl_1 (3 : Int32) ([(.int k1.toInt8.toInt32), (.int k2.toInt8.toInt32), (.int k3.toInt8.toInt32)]) k3.toInt8.toInt32 cp wf hcp hwf (by decide) (by decide) rfl (own_b255 hk3 hn3) scp sfm F1_7 F1_8 F1_9 F1_10)) pd_25 at_258 rfl ?_
  rintro _ _ _ ⟨⟨rfl, rfl⟩, rfl⟩
  show GoS _ _ _ _ _ _ _ _ _ _ _ _ _ _ 261 _ [(.int 1)]
  refine GoS.ifNo (pc' := 264) at_261 (XT.i0_eq_f (by decide)) rfl ?_
  refine GoS.iconst (pc' := 265) (v := 1) at_264 rfl rfl ?_
  refine GoS.goto (pc' := 269) at_265 (by decide) (by decide) ?_
  exact GoS.retN (t := .boolean) rfl (by simp) at_269 ⟨rfl, K3⟩
theorem c_rest4_1 (hw : HW a0 Z) (hs h : Heap) (p0 : Int32) (p1 : Int32) (p2 : Int32) (p3 : Int32) (p4 : Int32) (k0 : Int32) (k1 : Int32) (k2 : Int32) (k3 : Int32) (s : Addr) (b : Addr) (kb : ClassId) (cp : Int32) (wf : Value) (hcp : ¬ (cp = (0 : Int32))) (hwf : wf.isRef = true) (hcw : Jvm.Lit.compactW.before a0 Z = true) (hch7 : Jvm.Lit.constHeld Z "java/lang/String" 7) (hch26 : Jvm.Lit.constHeld Z "com/example/inquire/inquire/io/WikiLink" 26) (hch151 : Jvm.Lit.constHeld Z "java/lang/StringLatin1" 151) (hk0 : ¬ ((255 : Int32) < k0)) (hk1 : ¬ ((255 : Int32) < k1)) (hk2 : ¬ ((255 : Int32) < k2)) (hk3 : ¬ ((255 : Int32) < k3)) (hn0 : nar .char k0 = k0) (hn1 : nar .char k1 = k1) (hn2 : nar .char k2 = k2) (hn3 : nar .char k3 = k3) (hx0 : ¬ (k0 = (124 : Int32))) (hx1 : k1 = (124 : Int32)) (scp : Sta Z Z.heap "java/lang/String" "COMPACT_STRINGS" "Z" (.int cp)) (sfm : Sta Z Z.heap "jdk/internal/util/Preconditions" "SIOOBE_FORMATTER" "Ljava/util/function/BiFunction;" wf) (xs : Exa Z h s "java/lang/String") (fs : Fld Z h s "java/lang/String" "coder" "B" (.int 0)) (gs : Fld Z h s "java/lang/String" "value" "[B" (.ref b)) (vs : Arv Z h b kb .byte (4 : Int32) [(.int k0.toInt8.toInt32), (.int k1.toInt8.toInt32), (.int k2.toInt8.toInt32), (.int k3.toInt8.toInt32)] (.int 0)) (Kp : Keep hs h []) :
    GoS l room_1 Z n0 x code maxLocals ret (fun v h' LL' => v = some (.int 1) ∧ Keep hs h' []) hs [] 8 60 h 121 #[.val (.int p0), .val (.int p1), .val (.int p2), .val (.int p3), .val (.int p4), .val (.int 4), .val (.int k0), .val (.int k1), .val (.int k2), .val (.int k3), .val (.ref s), .val (.int 1), .unset, .unset, .unset, .unset, .unset] [] := by
  refine GoS.aload (pc' := 123) at_121 rfl rfl rfl ?_
  refine GoS.callS (cells' := 13) (slots' := 73) (pc' := 126) [(.ref s)] [] (ww hw 30 rfl) (ww hw 31 rfl) (ww hw 32 rfl) (ww hw 33 rfl) (by decide) (c_parse4_1 l Z a0 hw h s b kb k0.toInt8.toInt32 k1.toInt8.toInt32 k2.toInt8.toInt32 k3.toInt8.toInt32 cp wf hcp hwf hcw hch26 hch151 (own_bne hk0 hn0 hx0) (own_beq hx1) scp sfm xs fs gs vs) pd_23 at_123 rfl ?_
  rintro _ h1 LL2 ⟨w_1, rt_1, dt_1, kt_1, rl_1, dl_1, kl_1, rfl, K1, F1_0, F1_1, F1_2, F1_3, F1_4, F1_5, F1_6, F1_7, F1_8, F1_9, F1_10⟩
  have K3 : Keep hs h1 [] := Kp.trans K1 all0
  show GoS _ _ _ _ _ _ _ _ _ _ _ _ _ _ 126 _ [(.ref w_1)]
  refine GoS.astore (pc' := 128) (Ls' := #[.val (.int p0), .val (.int p1), .val (.int p2), .val (.int p3), .val (.int p4), .val (.int 4), .val (.int k0), .val (.int k1), .val (.int k2), .val (.int k3), .val (.ref s), .val (.int 1), .val (.ref w_1), .unset, .unset, .unset, .unset]) at_126 rfl rfl rfl ?_
  refine GoS.aload (pc' := 130) at_128 rfl rfl rfl ?_
  refine GoS.callV (cells' := 13) (slots' := 73) (pc' := 133) [] [] F1_0 (ww hw 85 rfl) (ww hw 86 rfl) (nfS (ww hw 88 rfl)) (ww hw 88 rfl) (ww hw 87 rfl) (ww hw 32 rfl) (ww hw 89 rfl) (by decide) (Con.cold (c_getT l Z a0 hw h1 w_1 rt_1 F1_0 F1_1)) pd_24 at_130 rfl ?_
  rintro _ _ _ ⟨⟨rfl, rfl⟩, rfl⟩
  show GoS _ _ _ _ _ _ _ _ _ _ _ _ _ _ 133 _ [(.ref rt_1)]
  refine GoS.astore (pc' := 135) (Ls' := #[.val (.int p0), .val (.int p1), .val (.int p2), .val (.int p3), .val (.int p4), .val (.int 4), .val (.int k0), .val (.int k1), .val (.int k2), .val (.int k3), .val (.ref s), .val (.int 1), .val (.ref w_1), .val (.ref rt_1), .unset, .unset, .unset]) at_133 rfl rfl rfl ?_
  refine GoS.aload (pc' := 137) at_135 rfl rfl rfl ?_
  refine GoS.callV (cells' := 13) (slots' := 73) (pc' := 140) [] [] F1_0 (ww hw 90 rfl) (ww hw 91 rfl) (nfS (ww hw 93 rfl)) (ww hw 93 rfl) (ww hw 92 rfl) (ww hw 32 rfl) (ww hw 94 rfl) (by decide) (Con.cold (c_getL l Z a0 hw h1 w_1 rl_1 F1_0 F1_2)) pd_24 at_137 rfl ?_
  rintro _ _ _ ⟨⟨rfl, rfl⟩, rfl⟩
  show GoS _ _ _ _ _ _ _ _ _ _ _ _ _ _ 140 _ [(.ref rl_1)]
  refine GoS.astore (pc' := 142) (Ls' := #[.val (.int p0), .val (.int p1), .val (.int p2), .val (.int p3), .val (.int p4), .val (.int 4), .val (.int k0), .val (.int k1), .val (.int k2), .val (.int k3), .val (.ref s), .val (.int 1), .val (.ref w_1), .val (.ref rt_1), .val (.ref rl_1), .unset, .unset]) at_140 rfl rfl rfl ?_
  refine GoS.iload (pc' := 144) at_142 rfl rfl ?_
  refine GoS.ifYes (pc' := 152) at_144 (XT.i0_ge_t (by decide)) (by decide) (by decide) ?_
  refine GoS.iload (pc' := 154) at_152 rfl rfl ?_
  refine GoS.istore (pc' := 156) (Ls' := #[.val (.int p0), .val (.int p1), .val (.int p2), .val (.int p3), .val (.int p4), .val (.int 4), .val (.int k0), .val (.int k1), .val (.int k2), .val (.int k3), .val (.ref s), .val (.int 1), .val (.ref w_1), .val (.ref rt_1), .val (.ref rl_1), .val (.int 1), .unset]) at_154 rfl rfl ?_
  refine GoS.iload (pc' := 158) at_156 rfl rfl ?_
  refine GoS.ifYes (pc' := 165) at_158 (XT.i0_ge_t (by decide)) (by decide) (by decide) ?_
  refine GoS.iload (pc' := 167) at_165 rfl rfl ?_
  refine GoS.iload (pc' := 169) at_167 rfl rfl ?_
  refine GoS.isub (pc' := 170) at_169 rfl ?_
  show GoS _ _ _ _ _ _ _ _ _ _ _ _ _ _ 170 _ [(.int 3)]
  refine GoS.iconst (pc' := 171) (v := 1) at_170 rfl rfl ?_
  refine GoS.isub (pc' := 172) at_171 rfl ?_
  show GoS _ _ _ _ _ _ _ _ _ _ _ _ _ _ 172 _ [(.int 2)]
  refine GoS.istore (pc' := 174) (Ls' := #[.val (.int p0), .val (.int p1), .val (.int p2), .val (.int p3), .val (.int p4), .val (.int 4), .val (.int k0), .val (.int k1), .val (.int k2), .val (.int k3), .val (.ref s), .val (.int 1), .val (.ref w_1), .val (.ref rt_1), .val (.ref rl_1), .val (.int 1), .val (.int 2)]) at_172 rfl rfl ?_
  refine GoS.aload (pc' := 176) at_174 rfl rfl rfl ?_
  refine GoS.callV (cells' := 13) (slots' := 73) (pc' := 179) [] [] F1_3 (ww hw 95 rfl) (ww hw 51 rfl) (nfS (ww hw 53 rfl)) (ww hw 53 rfl) (ww hw 52 rfl) (ww hw 7 rfl) (ww hw 54 rfl) (by decide) (Con.cold (c_strLen1 l Z a0 hw h1 rt_1 dt_1 kt_1 k0.toInt8.toInt32 cp hcp scp F1_3 F1_4 F1_5 F1_6)) pd_11 at_176 rfl ?_
  rintro _ _ _ ⟨⟨rfl, rfl⟩, rfl⟩
  show GoS _ _ _ _ _ _ _ _ _ _ _ _ _ _ 179 _ [(.int 1)]
  refine GoS.iload (pc' := 181) at_179 rfl rfl ?_
  refine GoS.icmpNo (pc' := 184) at_181 (XT.ii_ne_f (by decide)) rfl ?_
  refine GoS.aload (pc' := 186) at_184 rfl rfl rfl ?_
  refine GoS.callV (cells' := 13) (slots' := 73) (pc' := 189) [] [] F1_7 (ww hw 95 rfl) (ww hw 51 rfl) (nfS (ww hw 53 rfl)) (ww hw 53 rfl) (ww hw 52 rfl) (ww hw 7 rfl) (ww hw 54 rfl) (by decide) (Con.cold (c_strLen2 l Z a0 hw h1 rl_1 dl_1 kl_1 k2.toInt8.toInt32 k3.toInt8.toInt32 cp hcp scp F1_7 F1_8 F1_9 F1_10)) pd_11 at_186 rfl ?_
  rintro _ _ _ ⟨⟨rfl, rfl⟩, rfl⟩
  show GoS _ _ _ _ _ _ _ _ _ _ _ _ _ _ 189 _ [(.int 2)]
  refine GoS.iload (pc' := 191) at_189 rfl rfl ?_
  refine GoS.icmpYes (pc' := 196) at_191 (XT.ii_eq_t (by decide)) (by decide) (by decide) ?_
  refine GoS.iconst (pc' := 197) (v := 0) at_196 rfl rfl ?_
  refine GoS.iload (pc' := 199) at_197 rfl rfl ?_
  refine GoS.iload (pc' := 201) at_199 rfl rfl ?_
  refine GoS.iload (pc' := 203) at_201 rfl rfl ?_
  refine GoS.aload (pc' := 205) at_203 rfl rfl rfl ?_
  refine GoS.aload (pc' := 207) at_205 rfl rfl rfl ?_
  refine GoS.callS (cells' := 13) (slots' := 73) (pc' := 210) [(.int 0), (.int 4), (.int 1), (.int k0), (.ref rt_1), (.ref rl_1)] [] (ww hw 96 rfl) (ww hw 97 rfl) (ww hw 3 rfl) (ww hw 98 rfl) (by decide) (Con.cold (c_atB0p l Z a0 hw h1 (4 : Int32) (1 : Int32) k0 rt_1 rl_1 dt_1 kt_1 (1 : Int32) ([(.int k0.toInt8.toInt32)]) k0.toInt8.toInt32 cp wf hcp hwf (by decide) (by decide) (by decide) (by decide) rfl (own_b255 hk0 hn0) scp sfm F1_3 F1_4 F1_5 F1_6)) pd_25 at_207 rfl ?_
  rintro _ _ _ ⟨⟨rfl, rfl⟩, rfl⟩
  show GoS _ _ _ _ _ _ _ _ _ _ _ _ _ _ 210 _ [(.int 1)]
  refine GoS.ifNo (pc' := 213) at_210 (XT.i0_eq_f (by decide)) rfl ?_
  refine GoS.iconst (pc' := 214) (v := 1) at_213 rfl rfl ?_
  refine GoS.iload (pc' := 216) at_214 rfl rfl ?_
  refine GoS.iload (pc' := 218) at_216 rfl rfl ?_
  refine GoS.iload (pc' := 220) at_218 rfl rfl ?_
  refine GoS.aload (pc' := 222) at_220 rfl rfl rfl ?_
  refine GoS.aload (pc' := 224) at_222 rfl rfl rfl ?_
  refine GoS.callS (cells' := 13) (slots' := 73) (pc' := 227) [(.int 1), (.int 4), (.int 1), (.int k1), (.ref rt_1), (.ref rl_1)] [] (ww hw 96 rfl) (ww hw 97 rfl) (ww hw 3 rfl) (ww hw 98 rfl) (by decide) (Con.cold (c_atC1 l Z a0 hw h1 (4 : Int32) k1 rt_1 rl_1 (by decide) hx1)) pd_25 at_224 rfl ?_
  rintro _ _ _ ⟨⟨rfl, rfl⟩, rfl⟩
  show GoS _ _ _ _ _ _ _ _ _ _ _ _ _ _ 227 _ [(.int 1)]
  refine GoS.ifNo (pc' := 230) at_227 (XT.i0_eq_f (by decide)) rfl ?_
  refine GoS.iconst (pc' := 231) (v := 2) at_230 rfl rfl ?_
  refine GoS.iload (pc' := 233) at_231 rfl rfl ?_
  refine GoS.iload (pc' := 235) at_233 rfl rfl ?_
  refine GoS.iload (pc' := 237) at_235 rfl rfl ?_
  refine GoS.aload (pc' := 239) at_237 rfl rfl rfl ?_
  refine GoS.aload (pc' := 241) at_239 rfl rfl rfl ?_
  refine GoS.callS (cells' := 13) (slots' := 73) (pc' := 244) [(.int 2), (.int 4), (.int 1), (.int k2), (.ref rt_1), (.ref rl_1)] [] (ww hw 96 rfl) (ww hw 97 rfl) (ww hw 3 rfl) (ww hw 98 rfl) (by decide) (Con.cold (c_atD2_1 l Z a0 hw h1 (4 : Int32) k2 rt_1 rl_1 dl_1 kl_1 (2 : Int32) ([(.int k2.toInt8.toInt32), (.int k3.toInt8.toInt32)]) k2.toInt8.toInt32 cp wf hcp hwf (by decide) (by decide) rfl (own_b255 hk2 hn2) scp sfm F1_7 F1_8 F1_9 F1_10)) pd_25 at_241 rfl ?_
  rintro _ _ _ ⟨⟨rfl, rfl⟩, rfl⟩
  show GoS _ _ _ _ _ _ _ _ _ _ _ _ _ _ 244 _ [(.int 1)]
  refine GoS.ifNo (pc' := 247) at_244 (XT.i0_eq_f (by decide)) rfl ?_
  refine GoS.iconst (pc' := 248) (v := 3) at_247 rfl rfl ?_
  refine GoS.iload (pc' := 250) at_248 rfl rfl ?_
  refine GoS.iload (pc' := 252) at_250 rfl rfl ?_
  refine GoS.iload (pc' := 254) at_252 rfl rfl ?_
  refine GoS.aload (pc' := 256) at_254 rfl rfl rfl ?_
  refine GoS.aload (pc' := 258) at_256 rfl rfl rfl ?_
  refine GoS.callS (cells' := 13) (slots' := 73) (pc' := 261) [(.int 3), (.int 4), (.int 1), (.int k3), (.ref rt_1), (.ref rl_1)] [] (ww hw 96 rfl) (ww hw 97 rfl) (ww hw 3 rfl) (ww hw 98 rfl) (by decide) (Con.cold (c_atD3_1 l Z a0 hw h1 (4 : Int32) k3 rt_1 rl_1 dl_1 kl_1 (2 : Int32) ([(.int k2.toInt8.toInt32), (.int k3.toInt8.toInt32)]) k3.toInt8.toInt32 cp wf hcp hwf (by decide) (by decide) rfl (own_b255 hk3 hn3) scp sfm F1_7 F1_8 F1_9 F1_10)) pd_25 at_258 rfl ?_
  rintro _ _ _ ⟨⟨rfl, rfl⟩, rfl⟩
  show GoS _ _ _ _ _ _ _ _ _ _ _ _ _ _ 261 _ [(.int 1)]
  refine GoS.ifNo (pc' := 264) at_261 (XT.i0_eq_f (by decide)) rfl ?_
  refine GoS.iconst (pc' := 265) (v := 1) at_264 rfl rfl ?_
  refine GoS.goto (pc' := 269) at_265 (by decide) (by decide) ?_
  exact GoS.retN (t := .boolean) rfl (by simp) at_269 ⟨rfl, K3⟩
theorem c_rest4_2 (hw : HW a0 Z) (hs h : Heap) (p0 : Int32) (p1 : Int32) (p2 : Int32) (p3 : Int32) (p4 : Int32) (k0 : Int32) (k1 : Int32) (k2 : Int32) (k3 : Int32) (s : Addr) (b : Addr) (kb : ClassId) (cp : Int32) (wf : Value) (hcp : ¬ (cp = (0 : Int32))) (hwf : wf.isRef = true) (hcw : Jvm.Lit.compactW.before a0 Z = true) (hch7 : Jvm.Lit.constHeld Z "java/lang/String" 7) (hch26 : Jvm.Lit.constHeld Z "com/example/inquire/inquire/io/WikiLink" 26) (hch151 : Jvm.Lit.constHeld Z "java/lang/StringLatin1" 151) (hk0 : ¬ ((255 : Int32) < k0)) (hk1 : ¬ ((255 : Int32) < k1)) (hk2 : ¬ ((255 : Int32) < k2)) (hk3 : ¬ ((255 : Int32) < k3)) (hn0 : nar .char k0 = k0) (hn1 : nar .char k1 = k1) (hn2 : nar .char k2 = k2) (hn3 : nar .char k3 = k3) (hx0 : ¬ (k0 = (124 : Int32))) (hx1 : ¬ (k1 = (124 : Int32))) (hx2 : k2 = (124 : Int32)) (scp : Sta Z Z.heap "java/lang/String" "COMPACT_STRINGS" "Z" (.int cp)) (sfm : Sta Z Z.heap "jdk/internal/util/Preconditions" "SIOOBE_FORMATTER" "Ljava/util/function/BiFunction;" wf) (xs : Exa Z h s "java/lang/String") (fs : Fld Z h s "java/lang/String" "coder" "B" (.int 0)) (gs : Fld Z h s "java/lang/String" "value" "[B" (.ref b)) (vs : Arv Z h b kb .byte (4 : Int32) [(.int k0.toInt8.toInt32), (.int k1.toInt8.toInt32), (.int k2.toInt8.toInt32), (.int k3.toInt8.toInt32)] (.int 0)) (Kp : Keep hs h []) :
    GoS l room_1 Z n0 x code maxLocals ret (fun v h' LL' => v = some (.int 1) ∧ Keep hs h' []) hs [] 8 60 h 121 #[.val (.int p0), .val (.int p1), .val (.int p2), .val (.int p3), .val (.int p4), .val (.int 4), .val (.int k0), .val (.int k1), .val (.int k2), .val (.int k3), .val (.ref s), .val (.int 2), .unset, .unset, .unset, .unset, .unset] [] := by
  refine GoS.aload (pc' := 123) at_121 rfl rfl rfl ?_
  refine GoS.callS (cells' := 13) (slots' := 73) (pc' := 126) [(.ref s)] [] (ww hw 30 rfl) (ww hw 31 rfl) (ww hw 32 rfl) (ww hw 33 rfl) (by decide) (c_parse4_2 l Z a0 hw h s b kb k0.toInt8.toInt32 k1.toInt8.toInt32 k2.toInt8.toInt32 k3.toInt8.toInt32 cp wf hcp hwf hcw hch26 hch151 (own_bne hk0 hn0 hx0) (own_bne hk1 hn1 hx1) (own_beq hx2) scp sfm xs fs gs vs) pd_23 at_123 rfl ?_
  rintro _ h1 LL2 ⟨w_1, rt_1, dt_1, kt_1, rl_1, dl_1, kl_1, rfl, K1, F1_0, F1_1, F1_2, F1_3, F1_4, F1_5, F1_6, F1_7, F1_8, F1_9, F1_10⟩
  have K3 : Keep hs h1 [] := Kp.trans K1 all0
  show GoS _ _ _ _ _ _ _ _ _ _ _ _ _ _ 126 _ [(.ref w_1)]
  refine GoS.astore (pc' := 128) (Ls' := #[.val (.int p0), .val (.int p1), .val (.int p2), .val (.int p3), .val (.int p4), .val (.int 4), .val (.int k0), .val (.int k1), .val (.int k2), .val (.int k3), .val (.ref s), .val (.int 2), .val (.ref w_1), .unset, .unset, .unset, .unset]) at_126 rfl rfl rfl ?_
  refine GoS.aload (pc' := 130) at_128 rfl rfl rfl ?_
  refine GoS.callV (cells' := 13) (slots' := 73) (pc' := 133) [] [] F1_0 (ww hw 85 rfl) (ww hw 86 rfl) (nfS (ww hw 88 rfl)) (ww hw 88 rfl) (ww hw 87 rfl) (ww hw 32 rfl) (ww hw 89 rfl) (by decide) (Con.cold (c_getT l Z a0 hw h1 w_1 rt_1 F1_0 F1_1)) pd_24 at_130 rfl ?_
  rintro _ _ _ ⟨⟨rfl, rfl⟩, rfl⟩
  show GoS _ _ _ _ _ _ _ _ _ _ _ _ _ _ 133 _ [(.ref rt_1)]
  refine GoS.astore (pc' := 135) (Ls' := #[.val (.int p0), .val (.int p1), .val (.int p2), .val (.int p3), .val (.int p4), .val (.int 4), .val (.int k0), .val (.int k1), .val (.int k2), .val (.int k3), .val (.ref s), .val (.int 2), .val (.ref w_1), .val (.ref rt_1), .unset, .unset, .unset]) at_133 rfl rfl rfl ?_
  refine GoS.aload (pc' := 137) at_135 rfl rfl rfl ?_
  refine GoS.callV (cells' := 13) (slots' := 73) (pc' := 140) [] [] F1_0 (ww hw 90 rfl) (ww hw 91 rfl) (nfS (ww hw 93 rfl)) (ww hw 93 rfl) (ww hw 92 rfl) (ww hw 32 rfl) (ww hw 94 rfl) (by decide) (Con.cold (c_getL l Z a0 hw h1 w_1 rl_1 F1_0 F1_2)) pd_24 at_137 rfl ?_
  rintro _ _ _ ⟨⟨rfl, rfl⟩, rfl⟩
  show GoS _ _ _ _ _ _ _ _ _ _ _ _ _ _ 140 _ [(.ref rl_1)]
  refine GoS.astore (pc' := 142) (Ls' := #[.val (.int p0), .val (.int p1), .val (.int p2), .val (.int p3), .val (.int p4), .val (.int 4), .val (.int k0), .val (.int k1), .val (.int k2), .val (.int k3), .val (.ref s), .val (.int 2), .val (.ref w_1), .val (.ref rt_1), .val (.ref rl_1), .unset, .unset]) at_140 rfl rfl rfl ?_
  refine GoS.iload (pc' := 144) at_142 rfl rfl ?_
  refine GoS.ifYes (pc' := 152) at_144 (XT.i0_ge_t (by decide)) (by decide) (by decide) ?_
  refine GoS.iload (pc' := 154) at_152 rfl rfl ?_
  refine GoS.istore (pc' := 156) (Ls' := #[.val (.int p0), .val (.int p1), .val (.int p2), .val (.int p3), .val (.int p4), .val (.int 4), .val (.int k0), .val (.int k1), .val (.int k2), .val (.int k3), .val (.ref s), .val (.int 2), .val (.ref w_1), .val (.ref rt_1), .val (.ref rl_1), .val (.int 2), .unset]) at_154 rfl rfl ?_
  refine GoS.iload (pc' := 158) at_156 rfl rfl ?_
  refine GoS.ifYes (pc' := 165) at_158 (XT.i0_ge_t (by decide)) (by decide) (by decide) ?_
  refine GoS.iload (pc' := 167) at_165 rfl rfl ?_
  refine GoS.iload (pc' := 169) at_167 rfl rfl ?_
  refine GoS.isub (pc' := 170) at_169 rfl ?_
  show GoS _ _ _ _ _ _ _ _ _ _ _ _ _ _ 170 _ [(.int 2)]
  refine GoS.iconst (pc' := 171) (v := 1) at_170 rfl rfl ?_
  refine GoS.isub (pc' := 172) at_171 rfl ?_
  show GoS _ _ _ _ _ _ _ _ _ _ _ _ _ _ 172 _ [(.int 1)]
  refine GoS.istore (pc' := 174) (Ls' := #[.val (.int p0), .val (.int p1), .val (.int p2), .val (.int p3), .val (.int p4), .val (.int 4), .val (.int k0), .val (.int k1), .val (.int k2), .val (.int k3), .val (.ref s), .val (.int 2), .val (.ref w_1), .val (.ref rt_1), .val (.ref rl_1), .val (.int 2), .val (.int 1)]) at_172 rfl rfl ?_
  refine GoS.aload (pc' := 176) at_174 rfl rfl rfl ?_
  refine GoS.callV (cells' := 13) (slots' := 73) (pc' := 179) [] [] F1_3 (ww hw 95 rfl) (ww hw 51 rfl) (nfS (ww hw 53 rfl)) (ww hw 53 rfl) (ww hw 52 rfl) (ww hw 7 rfl) (ww hw 54 rfl) (by decide) (Con.cold (c_strLen2 l Z a0 hw h1 rt_1 dt_1 kt_1 k0.toInt8.toInt32 k1.toInt8.toInt32 cp hcp scp F1_3 F1_4 F1_5 F1_6)) pd_11 at_176 rfl ?_
  rintro _ _ _ ⟨⟨rfl, rfl⟩, rfl⟩
  show GoS _ _ _ _ _ _ _ _ _ _ _ _ _ _ 179 _ [(.int 2)]
  refine GoS.iload (pc' := 181) at_179 rfl rfl ?_
  refine GoS.icmpNo (pc' := 184) at_181 (XT.ii_ne_f (by decide)) rfl ?_
  refine GoS.aload (pc' := 186) at_184 rfl rfl rfl ?_
  refine GoS.callV (cells' := 13) (slots' := 73) (pc' := 189) [] [] F1_7 (ww hw 95 rfl) (ww hw 51 rfl) (nfS (ww hw 53 rfl)) (ww hw 53 rfl) (ww hw 52 rfl) (ww hw 7 rfl) (ww hw 54 rfl) (by decide) (Con.cold (c_strLen1 l Z a0 hw h1 rl_1 dl_1 kl_1 k3.toInt8.toInt32 cp hcp scp F1_7 F1_8 F1_9 F1_10)) pd_11 at_186 rfl ?_
  rintro _ _ _ ⟨⟨rfl, rfl⟩, rfl⟩
  show GoS _ _ _ _ _ _ _ _ _ _ _ _ _ _ 189 _ [(.int 1)]
  refine GoS.iload (pc' := 191) at_189 rfl rfl ?_
  refine GoS.icmpYes (pc' := 196) at_191 (XT.ii_eq_t (by decide)) (by decide) (by decide) ?_
  refine GoS.iconst (pc' := 197) (v := 0) at_196 rfl rfl ?_
  refine GoS.iload (pc' := 199) at_197 rfl rfl ?_
  refine GoS.iload (pc' := 201) at_199 rfl rfl ?_
  refine GoS.iload (pc' := 203) at_201 rfl rfl ?_
  refine GoS.aload (pc' := 205) at_203 rfl rfl rfl ?_
  refine GoS.aload (pc' := 207) at_205 rfl rfl rfl ?_
  refine GoS.callS (cells' := 13) (slots' := 73) (pc' := 210) [(.int 0), (.int 4), (.int 2), (.int k0), (.ref rt_1), (.ref rl_1)] [] (ww hw 96 rfl) (ww hw 97 rfl) (ww hw 3 rfl) (ww hw 98 rfl) (by decide) (Con.cold (c_atB0p l Z a0 hw h1 (4 : Int32) (2 : Int32) k0 rt_1 rl_1 dt_1 kt_1 (2 : Int32) ([(.int k0.toInt8.toInt32), (.int k1.toInt8.toInt32)]) k0.toInt8.toInt32 cp wf hcp hwf (by decide) (by decide) (by decide) (by decide) rfl (own_b255 hk0 hn0) scp sfm F1_3 F1_4 F1_5 F1_6)) pd_25 at_207 rfl ?_
  rintro _ _ _ ⟨⟨rfl, rfl⟩, rfl⟩
  show GoS _ _ _ _ _ _ _ _ _ _ _ _ _ _ 210 _ [(.int 1)]
  refine GoS.ifNo (pc' := 213) at_210 (XT.i0_eq_f (by decide)) rfl ?_
  refine GoS.iconst (pc' := 214) (v := 1) at_213 rfl rfl ?_
  refine GoS.iload (pc' := 216) at_214 rfl rfl ?_
  refine GoS.iload (pc' := 218) at_216 rfl rfl ?_
  refine GoS.iload (pc' := 220) at_218 rfl rfl ?_
  refine GoS.aload (pc' := 222) at_220 rfl rfl rfl ?_
  refine GoS.aload (pc' := 224) at_222 rfl rfl rfl ?_
  refine GoS.callS (cells' := 13) (slots' := 73) (pc' := 227) [(.int 1), (.int 4), (.int 2), (.int k1), (.ref rt_1), (.ref rl_1)] [] (ww hw 96 rfl) (ww hw 97 rfl) (ww hw 3 rfl) (ww hw 98 rfl) (by decide) (Con.cold (c_atB1p l Z a0 hw h1 (4 : Int32) (2 : Int32) k1 rt_1 rl_1 dt_1 kt_1 (2 : Int32) ([(.int k0.toInt8.toInt32), (.int k1.toInt8.toInt32)]) k1.toInt8.toInt32 cp wf hcp hwf (by decide) (by decide) (by decide) (by decide) rfl (own_b255 hk1 hn1) scp sfm F1_3 F1_4 F1_5 F1_6)) pd_25 at_224 rfl ?_
  rintro _ _ _ ⟨⟨rfl, rfl⟩, rfl⟩
  show GoS _ _ _ _ _ _ _ _ _ _ _ _ _ _ 227 _ [(.int 1)]
  refine GoS.ifNo (pc' := 230) at_227 (XT.i0_eq_f (by decide)) rfl ?_
  refine GoS.iconst (pc' := 231) (v := 2) at_230 rfl rfl ?_
  refine GoS.iload (pc' := 233) at_231 rfl rfl ?_
  refine GoS.iload (pc' := 235) at_233 rfl rfl ?_
  refine GoS.iload (pc' := 237) at_235 rfl rfl ?_
  refine GoS.aload (pc' := 239) at_237 rfl rfl rfl ?_
  refine GoS.aload (pc' := 241) at_239 rfl rfl rfl ?_
  refine GoS.callS (cells' := 13) (slots' := 73) (pc' := 244) [(.int 2), (.int 4), (.int 2), (.int k2), (.ref rt_1), (.ref rl_1)] [] (ww hw 96 rfl) (ww hw 97 rfl) (ww hw 3 rfl) (ww hw 98 rfl) (by decide) (Con.cold (c_atC2 l Z a0 hw h1 (4 : Int32) k2 rt_1 rl_1 (by decide) hx2)) pd_25 at_241 rfl ?_
  rintro _ _ _ ⟨⟨rfl, rfl⟩, rfl⟩
  show GoS _ _ _ _ _ _ _ _ _ _ _ _ _ _ 244 _ [(.int 1)]
  refine GoS.ifNo (pc' := 247) at_244 (XT.i0_eq_f (by decide)) rfl ?_
  refine GoS.iconst (pc' := 248) (v := 3) at_247 rfl rfl ?_
  refine GoS.iload (pc' := 250) at_248 rfl rfl ?_
  refine GoS.iload (pc' := 252) at_250 rfl rfl ?_
  refine GoS.iload (pc' := 254) at_252 rfl rfl ?_
  refine GoS.aload (pc' := 256) at_254 rfl rfl rfl ?_
  refine GoS.aload (pc' := 258) at_256 rfl rfl rfl ?_
  refine GoS.callS (cells' := 13) (slots' := 73) (pc' := 261) [(.int 3), (.int 4), (.int 2), (.int k3), (.ref rt_1), (.ref rl_1)] [] (ww hw 96 rfl) (ww hw 97 rfl) (ww hw 3 rfl) (ww hw 98 rfl) (by decide) (Con.cold (c_atD3_2 l Z a0 hw h1 (4 : Int32) k3 rt_1 rl_1 dl_1 kl_1 (1 : Int32) ([(.int k3.toInt8.toInt32)]) k3.toInt8.toInt32 cp wf hcp hwf (by decide) (by decide) rfl (own_b255 hk3 hn3) scp sfm F1_7 F1_8 F1_9 F1_10)) pd_25 at_258 rfl ?_
  rintro _ _ _ ⟨⟨rfl, rfl⟩, rfl⟩
  show GoS _ _ _ _ _ _ _ _ _ _ _ _ _ _ 261 _ [(.int 1)]
  refine GoS.ifNo (pc' := 264) at_261 (XT.i0_eq_f (by decide)) rfl ?_
  refine GoS.iconst (pc' := 265) (v := 1) at_264 rfl rfl ?_
  refine GoS.goto (pc' := 269) at_265 (by decide) (by decide) ?_
  exact GoS.retN (t := .boolean) rfl (by simp) at_269 ⟨rfl, K3⟩
theorem c_rest4_3 (hw : HW a0 Z) (hs h : Heap) (p0 : Int32) (p1 : Int32) (p2 : Int32) (p3 : Int32) (p4 : Int32) (k0 : Int32) (k1 : Int32) (k2 : Int32) (k3 : Int32) (s : Addr) (b : Addr) (kb : ClassId) (cp : Int32) (wf : Value) (hcp : ¬ (cp = (0 : Int32))) (hwf : wf.isRef = true) (hcw : Jvm.Lit.compactW.before a0 Z = true) (hch7 : Jvm.Lit.constHeld Z "java/lang/String" 7) (hch26 : Jvm.Lit.constHeld Z "com/example/inquire/inquire/io/WikiLink" 26) (hch151 : Jvm.Lit.constHeld Z "java/lang/StringLatin1" 151) (hk0 : ¬ ((255 : Int32) < k0)) (hk1 : ¬ ((255 : Int32) < k1)) (hk2 : ¬ ((255 : Int32) < k2)) (hk3 : ¬ ((255 : Int32) < k3)) (hn0 : nar .char k0 = k0) (hn1 : nar .char k1 = k1) (hn2 : nar .char k2 = k2) (hn3 : nar .char k3 = k3) (hx0 : ¬ (k0 = (124 : Int32))) (hx1 : ¬ (k1 = (124 : Int32))) (hx2 : ¬ (k2 = (124 : Int32))) (hx3 : k3 = (124 : Int32)) (scp : Sta Z Z.heap "java/lang/String" "COMPACT_STRINGS" "Z" (.int cp)) (sfm : Sta Z Z.heap "jdk/internal/util/Preconditions" "SIOOBE_FORMATTER" "Ljava/util/function/BiFunction;" wf) (xs : Exa Z h s "java/lang/String") (fs : Fld Z h s "java/lang/String" "coder" "B" (.int 0)) (gs : Fld Z h s "java/lang/String" "value" "[B" (.ref b)) (vs : Arv Z h b kb .byte (4 : Int32) [(.int k0.toInt8.toInt32), (.int k1.toInt8.toInt32), (.int k2.toInt8.toInt32), (.int k3.toInt8.toInt32)] (.int 0)) (Kp : Keep hs h []) :
    GoS l room_1 Z n0 x code maxLocals ret (fun v h' LL' => v = some (.int 1) ∧ Keep hs h' []) hs [] 8 60 h 121 #[.val (.int p0), .val (.int p1), .val (.int p2), .val (.int p3), .val (.int p4), .val (.int 4), .val (.int k0), .val (.int k1), .val (.int k2), .val (.int k3), .val (.ref s), .val (.int 3), .unset, .unset, .unset, .unset, .unset] [] := by
  refine GoS.aload (pc' := 123) at_121 rfl rfl rfl ?_
  refine GoS.callS (cells' := 13) (slots' := 73) (pc' := 126) [(.ref s)] [] (ww hw 30 rfl) (ww hw 31 rfl) (ww hw 32 rfl) (ww hw 33 rfl) (by decide) (c_parse4_3 l Z a0 hw h s b kb k0.toInt8.toInt32 k1.toInt8.toInt32 k2.toInt8.toInt32 k3.toInt8.toInt32 cp wf hcp hwf hcw hch26 hch151 (own_bne hk0 hn0 hx0) (own_bne hk1 hn1 hx1) (own_bne hk2 hn2 hx2) (own_beq hx3) scp sfm xs fs gs vs) pd_23 at_123 rfl ?_
  rintro _ h1 LL2 ⟨w_1, rt_1, dt_1, kt_1, rl_1, dl_1, kl_1, rfl, K1, F1_0, F1_1, F1_2, F1_3, F1_4, F1_5, F1_6, F1_7, F1_8, F1_9, F1_10⟩
  have K3 : Keep hs h1 [] := Kp.trans K1 all0
  show GoS _ _ _ _ _ _ _ _ _ _ _ _ _ _ 126 _ [(.ref w_1)]
  refine GoS.astore (pc' := 128) (Ls' := #[.val (.int p0), .val (.int p1), .val (.int p2), .val (.int p3), .val (.int p4), .val (.int 4), .val (.int k0), .val (.int k1), .val (.int k2), .val (.int k3), .val (.ref s), .val (.int 3), .val (.ref w_1), .unset, .unset, .unset, .unset]) at_126 rfl rfl rfl ?_
  refine GoS.aload (pc' := 130) at_128 rfl rfl rfl ?_
  refine GoS.callV (cells' := 13) (slots' := 73) (pc' := 133) [] [] F1_0 (ww hw 85 rfl) (ww hw 86 rfl) (nfS (ww hw 88 rfl)) (ww hw 88 rfl) (ww hw 87 rfl) (ww hw 32 rfl) (ww hw 89 rfl) (by decide) (Con.cold (c_getT l Z a0 hw h1 w_1 rt_1 F1_0 F1_1)) pd_24 at_130 rfl ?_
  rintro _ _ _ ⟨⟨rfl, rfl⟩, rfl⟩
  show GoS _ _ _ _ _ _ _ _ _ _ _ _ _ _ 133 _ [(.ref rt_1)]
  refine GoS.astore (pc' := 135) (Ls' := #[.val (.int p0), .val (.int p1), .val (.int p2), .val (.int p3), .val (.int p4), .val (.int 4), .val (.int k0), .val (.int k1), .val (.int k2), .val (.int k3), .val (.ref s), .val (.int 3), .val (.ref w_1), .val (.ref rt_1), .unset, .unset, .unset]) at_133 rfl rfl rfl ?_
  refine GoS.aload (pc' := 137) at_135 rfl rfl rfl ?_
  refine GoS.callV (cells' := 13) (slots' := 73) (pc' := 140) [] [] F1_0 (ww hw 90 rfl) (ww hw 91 rfl) (nfS (ww hw 93 rfl)) (ww hw 93 rfl) (ww hw 92 rfl) (ww hw 32 rfl) (ww hw 94 rfl) (by decide) (Con.cold (c_getL l Z a0 hw h1 w_1 rl_1 F1_0 F1_2)) pd_24 at_137 rfl ?_
  rintro _ _ _ ⟨⟨rfl, rfl⟩, rfl⟩
  show GoS _ _ _ _ _ _ _ _ _ _ _ _ _ _ 140 _ [(.ref rl_1)]
  refine GoS.astore (pc' := 142) (Ls' := #[.val (.int p0), .val (.int p1), .val (.int p2), .val (.int p3), .val (.int p4), .val (.int 4), .val (.int k0), .val (.int k1), .val (.int k2), .val (.int k3), .val (.ref s), .val (.int 3), .val (.ref w_1), .val (.ref rt_1), .val (.ref rl_1), .unset, .unset]) at_140 rfl rfl rfl ?_
  refine GoS.iload (pc' := 144) at_142 rfl rfl ?_
  refine GoS.ifYes (pc' := 152) at_144 (XT.i0_ge_t (by decide)) (by decide) (by decide) ?_
  refine GoS.iload (pc' := 154) at_152 rfl rfl ?_
  refine GoS.istore (pc' := 156) (Ls' := #[.val (.int p0), .val (.int p1), .val (.int p2), .val (.int p3), .val (.int p4), .val (.int 4), .val (.int k0), .val (.int k1), .val (.int k2), .val (.int k3), .val (.ref s), .val (.int 3), .val (.ref w_1), .val (.ref rt_1), .val (.ref rl_1), .val (.int 3), .unset]) at_154 rfl rfl ?_
  refine GoS.iload (pc' := 158) at_156 rfl rfl ?_
  refine GoS.ifYes (pc' := 165) at_158 (XT.i0_ge_t (by decide)) (by decide) (by decide) ?_
  refine GoS.iload (pc' := 167) at_165 rfl rfl ?_
  refine GoS.iload (pc' := 169) at_167 rfl rfl ?_
  refine GoS.isub (pc' := 170) at_169 rfl ?_
  show GoS _ _ _ _ _ _ _ _ _ _ _ _ _ _ 170 _ [(.int 1)]
  refine GoS.iconst (pc' := 171) (v := 1) at_170 rfl rfl ?_
  refine GoS.isub (pc' := 172) at_171 rfl ?_
  show GoS _ _ _ _ _ _ _ _ _ _ _ _ _ _ 172 _ [(.int 0)]
  refine GoS.istore (pc' := 174) (Ls' := #[.val (.int p0), .val (.int p1), .val (.int p2), .val (.int p3), .val (.int p4), .val (.int 4), .val (.int k0), .val (.int k1), .val (.int k2), .val (.int k3), .val (.ref s), .val (.int 3), .val (.ref w_1), .val (.ref rt_1), .val (.ref rl_1), .val (.int 3), .val (.int 0)]) at_172 rfl rfl ?_
  refine GoS.aload (pc' := 176) at_174 rfl rfl rfl ?_
  refine GoS.callV (cells' := 13) (slots' := 73) (pc' := 179) [] [] F1_3 (ww hw 95 rfl) (ww hw 51 rfl) (nfS (ww hw 53 rfl)) (ww hw 53 rfl) (ww hw 52 rfl) (ww hw 7 rfl) (ww hw 54 rfl) (by decide) (Con.cold (c_strLen3 l Z a0 hw h1 rt_1 dt_1 kt_1 k0.toInt8.toInt32 k1.toInt8.toInt32 k2.toInt8.toInt32 cp hcp scp F1_3 F1_4 F1_5 F1_6)) pd_11 at_176 rfl ?_
  rintro _ _ _ ⟨⟨rfl, rfl⟩, rfl⟩
  show GoS _ _ _ _ _ _ _ _ _ _ _ _ _ _ 179 _ [(.int 3)]
  refine GoS.iload (pc' := 181) at_179 rfl rfl ?_
  refine GoS.icmpNo (pc' := 184) at_181 (XT.ii_ne_f (by decide)) rfl ?_
  refine GoS.aload (pc' := 186) at_184 rfl rfl rfl ?_
  refine GoS.callV (cells' := 13) (slots' := 73) (pc' := 189) [] [] F1_7 (ww hw 95 rfl) (ww hw 51 rfl) (nfS (ww hw 53 rfl)) (ww hw 53 rfl) (ww hw 52 rfl) (ww hw 7 rfl) (ww hw 54 rfl) (by decide) (Con.cold (c_strLen0 l Z a0 hw h1 rl_1 dl_1 kl_1 cp hcp scp F1_7 F1_8 F1_9 F1_10)) pd_11 at_186 rfl ?_
  rintro _ _ _ ⟨⟨rfl, rfl⟩, rfl⟩
  show GoS _ _ _ _ _ _ _ _ _ _ _ _ _ _ 189 _ [(.int 0)]
  refine GoS.iload (pc' := 191) at_189 rfl rfl ?_
  refine GoS.icmpYes (pc' := 196) at_191 (XT.ii_eq_t (by decide)) (by decide) (by decide) ?_
  refine GoS.iconst (pc' := 197) (v := 0) at_196 rfl rfl ?_
  refine GoS.iload (pc' := 199) at_197 rfl rfl ?_
  refine GoS.iload (pc' := 201) at_199 rfl rfl ?_
  refine GoS.iload (pc' := 203) at_201 rfl rfl ?_
  refine GoS.aload (pc' := 205) at_203 rfl rfl rfl ?_
  refine GoS.aload (pc' := 207) at_205 rfl rfl rfl ?_
  refine GoS.callS (cells' := 13) (slots' := 73) (pc' := 210) [(.int 0), (.int 4), (.int 3), (.int k0), (.ref rt_1), (.ref rl_1)] [] (ww hw 96 rfl) (ww hw 97 rfl) (ww hw 3 rfl) (ww hw 98 rfl) (by decide) (Con.cold (c_atB0p l Z a0 hw h1 (4 : Int32) (3 : Int32) k0 rt_1 rl_1 dt_1 kt_1 (3 : Int32) ([(.int k0.toInt8.toInt32), (.int k1.toInt8.toInt32), (.int k2.toInt8.toInt32)]) k0.toInt8.toInt32 cp wf hcp hwf (by decide) (by decide) (by decide) (by decide) rfl (own_b255 hk0 hn0) scp sfm F1_3 F1_4 F1_5 F1_6)) pd_25 at_207 rfl ?_
  rintro _ _ _ ⟨⟨rfl, rfl⟩, rfl⟩
  show GoS _ _ _ _ _ _ _ _ _ _ _ _ _ _ 210 _ [(.int 1)]
  refine GoS.ifNo (pc' := 213) at_210 (XT.i0_eq_f (by decide)) rfl ?_
  refine GoS.iconst (pc' := 214) (v := 1) at_213 rfl rfl ?_
  refine GoS.iload (pc' := 216) at_214 rfl rfl ?_
  refine GoS.iload (pc' := 218) at_216 rfl rfl ?_
  refine GoS.iload (pc' := 220) at_218 rfl rfl ?_
  refine GoS.aload (pc' := 222) at_220 rfl rfl rfl ?_
  refine GoS.aload (pc' := 224) at_222 rfl rfl rfl ?_
  refine GoS.callS (cells' := 13) (slots' := 73) (pc' := 227) [(.int 1), (.int 4), (.int 3), (.int k1), (.ref rt_1), (.ref rl_1)] [] (ww hw 96 rfl) (ww hw 97 rfl) (ww hw 3 rfl) (ww hw 98 rfl) (by decide) (Con.cold (c_atB1p l Z a0 hw h1 (4 : Int32) (3 : Int32) k1 rt_1 rl_1 dt_1 kt_1 (3 : Int32) ([(.int k0.toInt8.toInt32), (.int k1.toInt8.toInt32), (.int k2.toInt8.toInt32)]) k1.toInt8.toInt32 cp wf hcp hwf (by decide) (by decide) (by decide) (by decide) rfl (own_b255 hk1 hn1) scp sfm F1_3 F1_4 F1_5 F1_6)) pd_25 at_224 rfl ?_
  rintro _ _ _ ⟨⟨rfl, rfl⟩, rfl⟩
  show GoS _ _ _ _ _ _ _ _ _ _ _ _ _ _ 227 _ [(.int 1)]
  refine GoS.ifNo (pc' := 230) at_227 (XT.i0_eq_f (by decide)) rfl ?_
  refine GoS.iconst (pc' := 231) (v := 2) at_230 rfl rfl ?_
  refine GoS.iload (pc' := 233) at_231 rfl rfl ?_
  refine GoS.iload (pc' := 235) at_233 rfl rfl ?_
  refine GoS.iload (pc' := 237) at_235 rfl rfl ?_
  refine GoS.aload (pc' := 239) at_237 rfl rfl rfl ?_
  refine GoS.aload (pc' := 241) at_239 rfl rfl rfl ?_
  refine GoS.callS (cells' := 13) (slots' := 73) (pc' := 244) [(.int 2), (.int 4), (.int 3), (.int k2), (.ref rt_1), (.ref rl_1)] [] (ww hw 96 rfl) (ww hw 97 rfl) (ww hw 3 rfl) (ww hw 98 rfl) (by decide) (Con.cold (c_atB2p l Z a0 hw h1 (4 : Int32) (3 : Int32) k2 rt_1 rl_1 dt_1 kt_1 (3 : Int32) ([(.int k0.toInt8.toInt32), (.int k1.toInt8.toInt32), (.int k2.toInt8.toInt32)]) k2.toInt8.toInt32 cp wf hcp hwf (by decide) (by decide) (by decide) (by decide) rfl (own_b255 hk2 hn2) scp sfm F1_3 F1_4 F1_5 F1_6)) pd_25 at_241 rfl ?_
  rintro _ _ _ ⟨⟨rfl, rfl⟩, rfl⟩
  show GoS _ _ _ _ _ _ _ _ _ _ _ _ _ _ 244 _ [(.int 1)]
  refine GoS.ifNo (pc' := 247) at_244 (XT.i0_eq_f (by decide)) rfl ?_
  refine GoS.iconst (pc' := 248) (v := 3) at_247 rfl rfl ?_
  refine GoS.iload (pc' := 250) at_248 rfl rfl ?_
  refine GoS.iload (pc' := 252) at_250 rfl rfl ?_
  refine GoS.iload (pc' := 254) at_252 rfl rfl ?_
  refine GoS.aload (pc' := 256) at_254 rfl rfl rfl ?_
  refine GoS.aload (pc' := 258) at_256 rfl rfl rfl ?_
  refine GoS.callS (cells' := 13) (slots' := 73) (pc' := 261) [(.int 3), (.int 4), (.int 3), (.int k3), (.ref rt_1), (.ref rl_1)] [] (ww hw 96 rfl) (ww hw 97 rfl) (ww hw 3 rfl) (ww hw 98 rfl) (by decide) (Con.cold (c_atC3 l Z a0 hw h1 (4 : Int32) k3 rt_1 rl_1 (by decide) hx3)) pd_25 at_258 rfl ?_
  rintro _ _ _ ⟨⟨rfl, rfl⟩, rfl⟩
  show GoS _ _ _ _ _ _ _ _ _ _ _ _ _ _ 261 _ [(.int 1)]
  refine GoS.ifNo (pc' := 264) at_261 (XT.i0_eq_f (by decide)) rfl ?_
  refine GoS.iconst (pc' := 265) (v := 1) at_264 rfl rfl ?_
  refine GoS.goto (pc' := 269) at_265 (by decide) (by decide) ?_
  exact GoS.retN (t := .boolean) rfl (by simp) at_269 ⟨rfl, K3⟩
theorem c_law (hw : HW a0 Z) (h : Heap) (p0 : Int32) (p1 : Int32) (p2 : Int32) (p3 : Int32) (p4 : Int32) (cp : Int32) (wf : Value) (hcp : ¬ (cp = (0 : Int32))) (hwf : wf.isRef = true) (hcw : Jvm.Lit.compactW.before a0 Z = true) (hch7 : Jvm.Lit.constHeld Z "java/lang/String" 7) (hch26 : Jvm.Lit.constHeld Z "com/example/inquire/inquire/io/WikiLink" 26) (hch151 : Jvm.Lit.constHeld Z "java/lang/StringLatin1" 151) (scp : Sta Z Z.heap "java/lang/String" "COMPACT_STRINGS" "Z" (.int cp)) (sfm : Sta Z Z.heap "jdk/internal/util/Preconditions" "SIOOBE_FORMATTER" "Ljava/util/function/BiFunction;" wf) :
    ConS l x code maxLocals ret room_1 Z n0 #[(.int p0), (.int p1), (.int p2), (.int p3), (.int p4)] h [] (fun v h' LL' => v = some (.int 1) ∧ Keep h h' []) := by
  refine ConS.of_go (plainFor_of_name pn_3) (Ls := #[.val (.int p0), .val (.int p1), .val (.int p2), .val (.int p3), .val (.int p4), .unset, .unset, .unset, .unset, .unset, .unset, .unset, .unset, .unset, .unset, .unset, .unset]) (he := fun m => by first | (simp [entryFrame, mkF, argsToLocals, Value.category, maxLocals]; done) | rfl) ?_
  refine GoS.iload (pc' := 2) at_0 rfl rfl ?_
  refine GoS.ldcI (pc' := 4) (ww hw 0 rfl) at_2 rfl ?_
  refine GoS.iand (pc' := 5) at_4 rfl ?_
  refine GoS.iconst (pc' := 6) (v := 5) at_5 rfl rfl ?_
  refine GoS.irem (pc' := 7) at_6 (by decide) rfl ?_
  refine GoS.istore (pc' := 9) (Ls' := #[.val (.int p0), .val (.int p1), .val (.int p2), .val (.int p3), .val (.int p4), .val (.int ((p4 &&& (2147483647 : Int32)) % (5 : Int32))), .unset, .unset, .unset, .unset, .unset, .unset, .unset, .unset, .unset, .unset, .unset]) at_7 rfl rfl ?_
  refine GoS.iloadN (pc' := 10) at_9 rfl rfl ?_
  refine GoS.callS (cells' := 0) (slots' := 0) (pc' := 13) [(.int p0)] [] (ww hw 1 rfl) (ww hw 2 rfl) (ww hw 3 rfl) (ww hw 4 rfl) (by decide) (Con.cold (c_ch l Z a0 hw h p0)) pd_22 at_10 rfl ?_
  rintro _ _ _ ⟨⟨c_1, rfl, rfl, P1_0, P1_1⟩, rfl⟩
  show GoS _ _ _ _ _ _ _ _ _ _ _ _ _ _ 13 _ [(.int c_1)]
  refine GoS.istore (pc' := 15) (Ls' := #[.val (.int p0), .val (.int p1), .val (.int p2), .val (.int p3), .val (.int p4), .val (.int ((p4 &&& (2147483647 : Int32)) % (5 : Int32))), .val (.int c_1), .unset, .unset, .unset, .unset, .unset, .unset, .unset, .unset, .unset, .unset]) at_13 rfl rfl ?_
  refine GoS.iloadN (pc' := 16) at_15 rfl rfl ?_
  refine GoS.callS (cells' := 0) (slots' := 0) (pc' := 19) [(.int p1)] [] (ww hw 1 rfl) (ww hw 2 rfl) (ww hw 3 rfl) (ww hw 4 rfl) (by decide) (Con.cold (c_ch l Z a0 hw h p1)) pd_22 at_16 rfl ?_
  rintro _ _ _ ⟨⟨c_2, rfl, rfl, P2_0, P2_1⟩, rfl⟩
  show GoS _ _ _ _ _ _ _ _ _ _ _ _ _ _ 19 _ [(.int c_2)]
  refine GoS.istore (pc' := 21) (Ls' := #[.val (.int p0), .val (.int p1), .val (.int p2), .val (.int p3), .val (.int p4), .val (.int ((p4 &&& (2147483647 : Int32)) % (5 : Int32))), .val (.int c_1), .val (.int c_2), .unset, .unset, .unset, .unset, .unset, .unset, .unset, .unset, .unset]) at_19 rfl rfl ?_
  refine GoS.iloadN (pc' := 22) at_21 rfl rfl ?_
  refine GoS.callS (cells' := 0) (slots' := 0) (pc' := 25) [(.int p2)] [] (ww hw 1 rfl) (ww hw 2 rfl) (ww hw 3 rfl) (ww hw 4 rfl) (by decide) (Con.cold (c_ch l Z a0 hw h p2)) pd_22 at_22 rfl ?_
  rintro _ _ _ ⟨⟨c_3, rfl, rfl, P3_0, P3_1⟩, rfl⟩
  show GoS _ _ _ _ _ _ _ _ _ _ _ _ _ _ 25 _ [(.int c_3)]
  refine GoS.istore (pc' := 27) (Ls' := #[.val (.int p0), .val (.int p1), .val (.int p2), .val (.int p3), .val (.int p4), .val (.int ((p4 &&& (2147483647 : Int32)) % (5 : Int32))), .val (.int c_1), .val (.int c_2), .val (.int c_3), .unset, .unset, .unset, .unset, .unset, .unset, .unset, .unset]) at_25 rfl rfl ?_
  refine GoS.iloadN (pc' := 28) at_27 rfl rfl ?_
  refine GoS.callS (cells' := 0) (slots' := 0) (pc' := 31) [(.int p3)] [] (ww hw 1 rfl) (ww hw 2 rfl) (ww hw 3 rfl) (ww hw 4 rfl) (by decide) (Con.cold (c_ch l Z a0 hw h p3)) pd_22 at_28 rfl ?_
  rintro _ _ _ ⟨⟨c_4, rfl, rfl, P4_0, P4_1⟩, rfl⟩
  show GoS _ _ _ _ _ _ _ _ _ _ _ _ _ _ 31 _ [(.int c_4)]
  refine GoS.istore (pc' := 33) (Ls' := #[.val (.int p0), .val (.int p1), .val (.int p2), .val (.int p3), .val (.int p4), .val (.int ((p4 &&& (2147483647 : Int32)) % (5 : Int32))), .val (.int c_1), .val (.int c_2), .val (.int c_3), .val (.int c_4), .unset, .unset, .unset, .unset, .unset, .unset, .unset]) at_31 rfl rfl ?_
  obtain hspl5 | hspl5 | hspl5 | hspl5 | hspl5 := own_mod5 p4
  ·
    rw [hspl5]
    refine GoS.new (pc' := 36) (cells' := 1) (slots' := 4) (ww hw 5 rfl) (ww hw 6 rfl) (ww hw 7 rfl) at_33 rfl rfl (by decide) (by decide) rfl ?_
    intro h6 b6 g6 E6 ge6 A6 D6
    have K7 : Keep h h6 [] := (Keep.refl h []).ext E6
    refine GoS.dup (pc' := 37) at_36 rfl rfl ?_
    refine GoS.iload (pc' := 39) at_37 rfl rfl ?_
    refine GoS.iload (pc' := 41) at_39 rfl rfl ?_
    refine GoS.iload (pc' := 43) at_41 rfl rfl ?_
    refine GoS.iload (pc' := 45) at_43 rfl rfl ?_
    refine GoS.iload (pc' := 47) at_45 rfl rfl ?_
    refine GoS.callS (cells' := 2) (slots' := 4) (pc' := 50) [(.int 0), (.int c_1), (.int c_2), (.int c_3), (.int c_4)] [(.ref b6), (.ref b6)] (ww hw 8 rfl) (ww hw 9 rfl) (ww hw 3 rfl) (ww hw 10 rfl) (by decide) (Con.cold (c_make0 l Z a0 hw h6 c_1 c_2 c_3 c_4)) pd_26 at_47 rfl ?_
    rintro _ h8 _ ⟨⟨d_8, kd_8, rfl, K8, ge_d_8, sz_d_8, F8_0⟩, rfl⟩
    have sz9 : h.size ≤ d_8 := Nat.le_trans K7.1 sz_d_8
    have K10 : Keep h h8 [] := K7.trans K8 all0
    show GoS _ _ _ _ _ _ _ _ _ _ _ _ _ _ 50 _ [(.ref d_8), (.ref b6), (.ref b6)]
    have f11 : Fld Z h8 b6 "java/lang/String" "value" "[B" .null := ((D6 (Or.inr (ww hw 24 rfl)) (ty := (.array .byte)) (by decide) : Fld Z h6 b6 "java/lang/String" "value" "[B" .null).keep K8 nin0)
    have f12 : Fld Z h8 b6 "java/lang/String" "coder" "B" (.int 0) := ((D6 (Or.inr (ww hw 25 rfl)) (ty := .byte) (by decide) : Fld Z h6 b6 "java/lang/String" "coder" "B" (.int 0)).keep K8 nin0)
    refine GoS.callC (cells' := 4) (slots' := 8) (pc' := 53) [(.ref d_8)] [(.ref b6)] (a := b6) rfl rfl (ww hw 12 rfl) (ww hw 13 rfl) (ww hw 7 rfl) (ww hw 14 rfl) (by decide) (c_str0Init l Z a0 hw h8 b6 d_8 kd_8 hcw hch7 ge6 (A6.keep K8) f11 f12 F8_0) pd_27 at_50 rfl ?_
    rintro _ h13 _ ⟨sa_13, sb_13, ks_13, rfl, K13, F13_0, F13_1, F13_2, F13_3, F13_4, rfl⟩
    have K14 : Keep h h13 [] := K10.trans K13 (allS (Or.inr (Nat.le_of_eq g6.symm)) all0)
    show GoS _ _ _ _ _ _ _ _ _ _ _ _ _ _ 53 _ [(.ref b6)]
    refine GoS.astore (pc' := 55) (Ls' := #[.val (.int p0), .val (.int p1), .val (.int p2), .val (.int p3), .val (.int p4), .val (.int 0), .val (.int c_1), .val (.int c_2), .val (.int c_3), .val (.int c_4), .val (.ref b6), .unset, .unset, .unset, .unset, .unset, .unset]) at_53 rfl rfl rfl ?_
    refine GoS.iconst (pc' := 56) (v := (-1 : Int32)) at_55 rfl rfl ?_
    refine GoS.istore (pc' := 58) (Ls' := #[.val (.int p0), .val (.int p1), .val (.int p2), .val (.int p3), .val (.int p4), .val (.int 0), .val (.int c_1), .val (.int c_2), .val (.int c_3), .val (.int c_4), .val (.ref b6), .val (.int (-1 : Int32)), .unset, .unset, .unset, .unset, .unset]) at_56 rfl rfl ?_
    refine GoS.iload (pc' := 60) at_58 rfl rfl ?_
    refine GoS.iconst (pc' := 61) (v := 3) at_60 rfl rfl ?_
    refine GoS.icmpYes (pc' := 74) at_61 (XT.ii_le_t (by decide)) (by decide) (by decide) ?_
    refine GoS.iload (pc' := 76) at_74 rfl rfl ?_
    refine GoS.iconst (pc' := 77) (v := 2) at_76 rfl rfl ?_
    refine GoS.icmpYes (pc' := 90) at_77 (XT.ii_le_t (by decide)) (by decide) (by decide) ?_
    refine GoS.iload (pc' := 92) at_90 rfl rfl ?_
    refine GoS.iconst (pc' := 93) (v := 1) at_92 rfl rfl ?_
    refine GoS.icmpYes (pc' := 106) at_93 (XT.ii_le_t (by decide)) (by decide) (by decide) ?_
    refine GoS.iload (pc' := 108) at_106 rfl rfl ?_
    refine GoS.ifYes (pc' := 121) at_108 (XT.i0_le_t (by decide)) (by decide) (by decide) ?_
    exact GoS.more (c_rest0_m l Z a0 hw h h13 p0 p1 p2 p3 p4 c_1 c_2 c_3 c_4 b6 sb_13 ks_13 sa_13 sb_13 cp wf hcp hwf hcw hch7 hch26 hch151 P1_0 P2_0 P3_0 P4_0 P1_1 P2_1 P3_1 P4_1 scp sfm (((A6.keep K8).keep K13)) F13_1 F13_0 F13_2 F13_4 K14) (nl rfl) (nl rfl)
  ·
    rw [hspl5]
    refine GoS.new (pc' := 36) (cells' := 1) (slots' := 4) (ww hw 5 rfl) (ww hw 6 rfl) (ww hw 7 rfl) at_33 rfl rfl (by decide) (by decide) rfl ?_
    intro h15 b15 g15 E15 ge15 A15 D15
    have K16 : Keep h h15 [] := (Keep.refl h []).ext E15
    refine GoS.dup (pc' := 37) at_36 rfl rfl ?_
    refine GoS.iload (pc' := 39) at_37 rfl rfl ?_
    refine GoS.iload (pc' := 41) at_39 rfl rfl ?_
    refine GoS.iload (pc' := 43) at_41 rfl rfl ?_
    refine GoS.iload (pc' := 45) at_43 rfl rfl ?_
    refine GoS.iload (pc' := 47) at_45 rfl rfl ?_
    refine GoS.callS (cells' := 2) (slots' := 5) (pc' := 50) [(.int 1), (.int c_1), (.int c_2), (.int c_3), (.int c_4)] [(.ref b15), (.ref b15)] (ww hw 8 rfl) (ww hw 9 rfl) (ww hw 3 rfl) (ww hw 10 rfl) (by decide) (Con.cold (c_make1 l Z a0 hw h15 c_1 c_2 c_3 c_4 P1_1)) pd_26 at_47 rfl ?_
    rintro _ h17 _ ⟨⟨d_17, kd_17, rfl, K17, ge_d_17, sz_d_17, F17_0⟩, rfl⟩
    have sz18 : h.size ≤ d_17 := Nat.le_trans K16.1 sz_d_17
    have K19 : Keep h h17 [] := K16.trans K17 all0
    show GoS _ _ _ _ _ _ _ _ _ _ _ _ _ _ 50 _ [(.ref d_17), (.ref b15), (.ref b15)]
    have f20 : Fld Z h17 b15 "java/lang/String" "value" "[B" .null := ((D15 (Or.inr (ww hw 24 rfl)) (ty := (.array .byte)) (by decide) : Fld Z h15 b15 "java/lang/String" "value" "[B" .null).keep K17 nin0)
    have f21 : Fld Z h17 b15 "java/lang/String" "coder" "B" (.int 0) := ((D15 (Or.inr (ww hw 25 rfl)) (ty := .byte) (by decide) : Fld Z h15 b15 "java/lang/String" "coder" "B" (.int 0)).keep K17 nin0)
    refine GoS.callC (cells' := 3) (slots' := 6) (pc' := 53) [(.ref d_17)] [(.ref b15)] (a := b15) rfl rfl (ww hw 12 rfl) (ww hw 13 rfl) (ww hw 7 rfl) (ww hw 14 rfl) (by decide) (Con.cold (c_strInit1 l Z a0 hw h17 b15 d_17 kd_17 c_1 cp P1_0 hcp scp ge15 (A15.keep K17) f20 f21 F17_0)) pd_27 at_50 rfl ?_
    rintro _ h22 _ ⟨⟨b_22, kb_22, rfl, K22, ge_b_22, sz_b_22, F22_0, F22_1, F22_2⟩, rfl⟩
    have sz23 : h.size ≤ b_22 := Nat.le_trans K19.1 sz_b_22
    have K24 : Keep h h22 [] := K19.trans K22 (allS (Or.inr (Nat.le_of_eq g15.symm)) all0)
    show GoS _ _ _ _ _ _ _ _ _ _ _ _ _ _ 53 _ [(.ref b15)]
    refine GoS.astore (pc' := 55) (Ls' := #[.val (.int p0), .val (.int p1), .val (.int p2), .val (.int p3), .val (.int p4), .val (.int 1), .val (.int c_1), .val (.int c_2), .val (.int c_3), .val (.int c_4), .val (.ref b15), .unset, .unset, .unset, .unset, .unset, .unset]) at_53 rfl rfl rfl ?_
    refine GoS.iconst (pc' := 56) (v := (-1 : Int32)) at_55 rfl rfl ?_
    refine GoS.istore (pc' := 58) (Ls' := #[.val (.int p0), .val (.int p1), .val (.int p2), .val (.int p3), .val (.int p4), .val (.int 1), .val (.int c_1), .val (.int c_2), .val (.int c_3), .val (.int c_4), .val (.ref b15), .val (.int (-1 : Int32)), .unset, .unset, .unset, .unset, .unset]) at_56 rfl rfl ?_
    refine GoS.iload (pc' := 60) at_58 rfl rfl ?_
    refine GoS.iconst (pc' := 61) (v := 3) at_60 rfl rfl ?_
    refine GoS.icmpYes (pc' := 74) at_61 (XT.ii_le_t (by decide)) (by decide) (by decide) ?_
    refine GoS.iload (pc' := 76) at_74 rfl rfl ?_
    refine GoS.iconst (pc' := 77) (v := 2) at_76 rfl rfl ?_
    refine GoS.icmpYes (pc' := 90) at_77 (XT.ii_le_t (by decide)) (by decide) (by decide) ?_
    refine GoS.iload (pc' := 92) at_90 rfl rfl ?_
    refine GoS.iconst (pc' := 93) (v := 1) at_92 rfl rfl ?_
    refine GoS.icmpYes (pc' := 106) at_93 (XT.ii_le_t (by decide)) (by decide) (by decide) ?_
    refine GoS.iload (pc' := 108) at_106 rfl rfl ?_
    refine GoS.ifNo (pc' := 111) at_108 (XT.i0_le_f (by decide)) rfl ?_
    refine GoS.iload (pc' := 113) at_111 rfl rfl ?_
    refine GoS.bipush (pc' := 115) (v := 124) at_113 rfl rfl ?_
    by_cases hc25 : c_1 = (124 : Int32)
    ·
      refine GoS.icmpNo (pc' := 118) at_115 (XT.ii_ne_f hc25) rfl ?_
      refine GoS.iconst (pc' := 119) (v := 0) at_118 rfl rfl ?_
      refine GoS.istore (pc' := 121) (Ls' := #[.val (.int p0), .val (.int p1), .val (.int p2), .val (.int p3), .val (.int p4), .val (.int 1), .val (.int c_1), .val (.int c_2), .val (.int c_3), .val (.int c_4), .val (.ref b15), .val (.int 0), .unset, .unset, .unset, .unset, .unset]) at_119 rfl rfl ?_
      exact GoS.more (c_rest1_0 l Z a0 hw h h22 p0 p1 p2 p3 p4 c_1 c_2 c_3 c_4 b15 b_22 kb_22 cp wf hcp hwf hcw hch7 hch26 hch151 P1_0 P2_0 P3_0 P4_0 P1_1 P2_1 P3_1 P4_1 hc25 scp sfm (((A15.keep K17).keep K22)) F22_1 F22_0 F22_2 K24) (nl rfl) (nl rfl)
    ·
      refine GoS.icmpYes (pc' := 121) at_115 (XT.ii_ne_t hc25) (by decide) (by decide) ?_
      exact GoS.more (c_rest1_m l Z a0 hw h h22 p0 p1 p2 p3 p4 c_1 c_2 c_3 c_4 b15 b_22 kb_22 cp wf hcp hwf hcw hch7 hch26 hch151 P1_0 P2_0 P3_0 P4_0 P1_1 P2_1 P3_1 P4_1 hc25 scp sfm (((A15.keep K17).keep K22)) F22_1 F22_0 F22_2 K24) (nl rfl) (nl rfl)
  ·
    rw [hspl5]
    refine GoS.new (pc' := 36) (cells' := 1) (slots' := 4) (ww hw 5 rfl) (ww hw 6 rfl) (ww hw 7 rfl) at_33 rfl rfl (by decide) (by decide) rfl ?_
    intro h26 b26 g26 E26 ge26 A26 D26
    have K27 : Keep h h26 [] := (Keep.refl h []).ext E26
    refine GoS.dup (pc' := 37) at_36 rfl rfl ?_
    refine GoS.iload (pc' := 39) at_37 rfl rfl ?_
    refine GoS.iload (pc' := 41) at_39 rfl rfl ?_
    refine GoS.iload (pc' := 43) at_41 rfl rfl ?_
    refine GoS.iload (pc' := 45) at_43 rfl rfl ?_
    refine GoS.iload (pc' := 47) at_45 rfl rfl ?_
    refine GoS.callS (cells' := 2) (slots' := 6) (pc' := 50) [(.int 2), (.int c_1), (.int c_2), (.int c_3), (.int c_4)] [(.ref b26), (.ref b26)] (ww hw 8 rfl) (ww hw 9 rfl) (ww hw 3 rfl) (ww hw 10 rfl) (by decide) (Con.cold (c_make2 l Z a0 hw h26 c_1 c_2 c_3 c_4 P1_1 P2_1)) pd_26 at_47 rfl ?_
    rintro _ h28 _ ⟨⟨d_28, kd_28, rfl, K28, ge_d_28, sz_d_28, F28_0⟩, rfl⟩
    have sz29 : h.size ≤ d_28 := Nat.le_trans K27.1 sz_d_28
    have K30 : Keep h h28 [] := K27.trans K28 all0
    show GoS _ _ _ _ _ _ _ _ _ _ _ _ _ _ 50 _ [(.ref d_28), (.ref b26), (.ref b26)]
    have f31 : Fld Z h28 b26 "java/lang/String" "value" "[B" .null := ((D26 (Or.inr (ww hw 24 rfl)) (ty := (.array .byte)) (by decide) : Fld Z h26 b26 "java/lang/String" "value" "[B" .null).keep K28 nin0)
    have f32 : Fld Z h28 b26 "java/lang/String" "coder" "B" (.int 0) := ((D26 (Or.inr (ww hw 25 rfl)) (ty := .byte) (by decide) : Fld Z h26 b26 "java/lang/String" "coder" "B" (.int 0)).keep K28 nin0)
    refine GoS.callC (cells' := 3) (slots' := 8) (pc' := 53) [(.ref d_28)] [(.ref b26)] (a := b26) rfl rfl (ww hw 12 rfl) (ww hw 13 rfl) (ww hw 7 rfl) (ww hw 14 rfl) (by decide) (Con.cold (c_strInit2 l Z a0 hw h28 b26 d_28 kd_28 c_1 c_2 cp P1_0 P2_0 hcp scp ge26 (A26.keep K28) f31 f32 F28_0)) pd_27 at_50 rfl ?_
    rintro _ h33 _ ⟨⟨b_33, kb_33, rfl, K33, ge_b_33, sz_b_33, F33_0, F33_1, F33_2⟩, rfl⟩
    have sz34 : h.size ≤ b_33 := Nat.le_trans K30.1 sz_b_33
    have K35 : Keep h h33 [] := K30.trans K33 (allS (Or.inr (Nat.le_of_eq g26.symm)) all0)
    show GoS _ _ _ _ _ _ _ _ _ _ _ _ _ _ 53 _ [(.ref b26)]
    refine GoS.astore (pc' := 55) (Ls' := #[.val (.int p0), .val (.int p1), .val (.int p2), .val (.int p3), .val (.int p4), .val (.int 2), .val (.int c_1), .val (.int c_2), .val (.int c_3), .val (.int c_4), .val (.ref b26), .unset, .unset, .unset, .unset, .unset, .unset]) at_53 rfl rfl rfl ?_
    refine GoS.iconst (pc' := 56) (v := (-1 : Int32)) at_55 rfl rfl ?_
    refine GoS.istore (pc' := 58) (Ls' := #[.val (.int p0), .val (.int p1), .val (.int p2), .val (.int p3), .val (.int p4), .val (.int 2), .val (.int c_1), .val (.int c_2), .val (.int c_3), .val (.int c_4), .val (.ref b26), .val (.int (-1 : Int32)), .unset, .unset, .unset, .unset, .unset]) at_56 rfl rfl ?_
    refine GoS.iload (pc' := 60) at_58 rfl rfl ?_
    refine GoS.iconst (pc' := 61) (v := 3) at_60 rfl rfl ?_
    refine GoS.icmpYes (pc' := 74) at_61 (XT.ii_le_t (by decide)) (by decide) (by decide) ?_
    refine GoS.iload (pc' := 76) at_74 rfl rfl ?_
    refine GoS.iconst (pc' := 77) (v := 2) at_76 rfl rfl ?_
    refine GoS.icmpYes (pc' := 90) at_77 (XT.ii_le_t (by decide)) (by decide) (by decide) ?_
    refine GoS.iload (pc' := 92) at_90 rfl rfl ?_
    refine GoS.iconst (pc' := 93) (v := 1) at_92 rfl rfl ?_
    refine GoS.icmpNo (pc' := 96) at_93 (XT.ii_le_f (by decide)) rfl ?_
    refine GoS.iload (pc' := 98) at_96 rfl rfl ?_
    refine GoS.bipush (pc' := 100) (v := 124) at_98 rfl rfl ?_
    by_cases hc36 : c_2 = (124 : Int32)
    ·
      refine GoS.icmpNo (pc' := 103) at_100 (XT.ii_ne_f hc36) rfl ?_
      refine GoS.iconst (pc' := 104) (v := 1) at_103 rfl rfl ?_
      refine GoS.istore (pc' := 106) (Ls' := #[.val (.int p0), .val (.int p1), .val (.int p2), .val (.int p3), .val (.int p4), .val (.int 2), .val (.int c_1), .val (.int c_2), .val (.int c_3), .val (.int c_4), .val (.ref b26), .val (.int 1), .unset, .unset, .unset, .unset, .unset]) at_104 rfl rfl ?_
      refine GoS.iload (pc' := 108) at_106 rfl rfl ?_
      refine GoS.ifNo (pc' := 111) at_108 (XT.i0_le_f (by decide)) rfl ?_
      refine GoS.iload (pc' := 113) at_111 rfl rfl ?_
      refine GoS.bipush (pc' := 115) (v := 124) at_113 rfl rfl ?_
      by_cases hc37 : c_1 = (124 : Int32)
      ·
        refine GoS.icmpNo (pc' := 118) at_115 (XT.ii_ne_f hc37) rfl ?_
        refine GoS.iconst (pc' := 119) (v := 0) at_118 rfl rfl ?_
        refine GoS.istore (pc' := 121) (Ls' := #[.val (.int p0), .val (.int p1), .val (.int p2), .val (.int p3), .val (.int p4), .val (.int 2), .val (.int c_1), .val (.int c_2), .val (.int c_3), .val (.int c_4), .val (.ref b26), .val (.int 0), .unset, .unset, .unset, .unset, .unset]) at_119 rfl rfl ?_
        exact GoS.more (c_rest2_0 l Z a0 hw h h33 p0 p1 p2 p3 p4 c_1 c_2 c_3 c_4 b26 b_33 kb_33 cp wf hcp hwf hcw hch7 hch26 hch151 P1_0 P2_0 P3_0 P4_0 P1_1 P2_1 P3_1 P4_1 hc37 scp sfm (((A26.keep K28).keep K33)) F33_1 F33_0 F33_2 K35) (nl rfl) (nl rfl)
      ·
        refine GoS.icmpYes (pc' := 121) at_115 (XT.ii_ne_t hc37) (by decide) (by decide) ?_
        exact GoS.more (c_rest2_1 l Z a0 hw h h33 p0 p1 p2 p3 p4 c_1 c_2 c_3 c_4 b26 b_33 kb_33 cp wf hcp hwf hcw hch7 hch26 hch151 P1_0 P2_0 P3_0 P4_0 P1_1 P2_1 P3_1 P4_1 hc37 hc36 scp sfm (((A26.keep K28).keep K33)) F33_1 F33_0 F33_2 K35) (nl rfl) (nl rfl)
    ·
      refine GoS.icmpYes (pc' := 106) at_100 (XT.ii_ne_t hc36) (by decide) (by decide) ?_
      refine GoS.iload (pc' := 108) at_106 rfl rfl ?_
      refine GoS.ifNo (pc' := 111) at_108 (XT.i0_le_f (by decide)) rfl ?_
      refine GoS.iload (pc' := 113) at_111 rfl rfl ?_
      refine GoS.bipush (pc' := 115) (v := 124) at_113 rfl rfl ?_
      by_cases hc38 : c_1 = (124 : Int32)
      ·
        refine GoS.icmpNo (pc' := 118) at_115 (XT.ii_ne_f hc38) rfl ?_
        refine GoS.iconst (pc' := 119) (v := 0) at_118 rfl rfl ?_
        refine GoS.istore (pc' := 121) (Ls' := #[.val (.int p0), .val (.int p1), .val (.int p2), .val (.int p3), .val (.int p4), .val (.int 2), .val (.int c_1), .val (.int c_2), .val (.int c_3), .val (.int c_4), .val (.ref b26), .val (.int 0), .unset, .unset, .unset, .unset, .unset]) at_119 rfl rfl ?_
        exact GoS.more (c_rest2_0 l Z a0 hw h h33 p0 p1 p2 p3 p4 c_1 c_2 c_3 c_4 b26 b_33 kb_33 cp wf hcp hwf hcw hch7 hch26 hch151 P1_0 P2_0 P3_0 P4_0 P1_1 P2_1 P3_1 P4_1 hc38 scp sfm (((A26.keep K28).keep K33)) F33_1 F33_0 F33_2 K35) (nl rfl) (nl rfl)
      ·
        refine GoS.icmpYes (pc' := 121) at_115 (XT.ii_ne_t hc38) (by decide) (by decide) ?_
        exact GoS.more (c_rest2_m l Z a0 hw h h33 p0 p1 p2 p3 p4 c_1 c_2 c_3 c_4 b26 b_33 kb_33 cp wf hcp hwf hcw hch7 hch26 hch151 P1_0 P2_0 P3_0 P4_0 P1_1 P2_1 P3_1 P4_1 hc38 hc36 scp sfm (((A26.keep K28).keep K33)) F33_1 F33_0 F33_2 K35) (nl rfl) (nl rfl)
  ·
    rw [hspl5]
    refine GoS.new (pc' := 36) (cells' := 1) (slots' := 4) (ww hw 5 rfl) (ww hw 6 rfl) (ww hw 7 rfl) at_33 rfl rfl (by decide) (by decide) rfl ?_
    intro h39 b39 g39 E39 ge39 A39 D39
    have K40 : Keep h h39 [] := (Keep.refl h []).ext E39
    refine GoS.dup (pc' := 37) at_36 rfl rfl ?_
    refine GoS.iload (pc' := 39) at_37 rfl rfl ?_
    refine GoS.iload (pc' := 41) at_39 rfl rfl ?_
    refine GoS.iload (pc' := 43) at_41 rfl rfl ?_
    refine GoS.iload (pc' := 45) at_43 rfl rfl ?_
    refine GoS.iload (pc' := 47) at_45 rfl rfl ?_
    refine GoS.callS (cells' := 2) (slots' := 7) (pc' := 50) [(.int 3), (.int c_1), (.int c_2), (.int c_3), (.int c_4)] [(.ref b39), (.ref b39)] (ww hw 8 rfl) (ww hw 9 rfl) (ww hw 3 rfl) (ww hw 10 rfl) (by decide) (Con.cold (c_make3 l Z a0 hw h39 c_1 c_2 c_3 c_4 P1_1 P2_1 P3_1)) pd_26 at_47 rfl ?_
    rintro _ h41 _ ⟨⟨d_41, kd_41, rfl, K41, ge_d_41, sz_d_41, F41_0⟩, rfl⟩
    have sz42 : h.size ≤ d_41 := Nat.le_trans K40.1 sz_d_41
    have K43 : Keep h h41 [] := K40.trans K41 all0
    show GoS _ _ _ _ _ _ _ _ _ _ _ _ _ _ 50 _ [(.ref d_41), (.ref b39), (.ref b39)]
    have f44 : Fld Z h41 b39 "java/lang/String" "value" "[B" .null := ((D39 (Or.inr (ww hw 24 rfl)) (ty := (.array .byte)) (by decide) : Fld Z h39 b39 "java/lang/String" "value" "[B" .null).keep K41 nin0)
    have f45 : Fld Z h41 b39 "java/lang/String" "coder" "B" (.int 0) := ((D39 (Or.inr (ww hw 25 rfl)) (ty := .byte) (by decide) : Fld Z h39 b39 "java/lang/String" "coder" "B" (.int 0)).keep K41 nin0)
    refine GoS.callC (cells' := 3) (slots' := 10) (pc' := 53) [(.ref d_41)] [(.ref b39)] (a := b39) rfl rfl (ww hw 12 rfl) (ww hw 13 rfl) (ww hw 7 rfl) (ww hw 14 rfl) (by decide) (Con.cold (c_strInit3 l Z a0 hw h41 b39 d_41 kd_41 c_1 c_2 c_3 cp P1_0 P2_0 P3_0 hcp scp ge39 (A39.keep K41) f44 f45 F41_0)) pd_27 at_50 rfl ?_
    rintro _ h46 _ ⟨⟨b_46, kb_46, rfl, K46, ge_b_46, sz_b_46, F46_0, F46_1, F46_2⟩, rfl⟩
    have sz47 : h.size ≤ b_46 := Nat.le_trans K43.1 sz_b_46
    have K48 : Keep h h46 [] := K43.trans K46 (allS (Or.inr (Nat.le_of_eq g39.symm)) all0)
    show GoS _ _ _ _ _ _ _ _ _ _ _ _ _ _ 53 _ [(.ref b39)]
    refine GoS.astore (pc' := 55) (Ls' := #[.val (.int p0), .val (.int p1), .val (.int p2), .val (.int p3), .val (.int p4), .val (.int 3), .val (.int c_1), .val (.int c_2), .val (.int c_3), .val (.int c_4), .val (.ref b39), .unset, .unset, .unset, .unset, .unset, .unset]) at_53 rfl rfl rfl ?_
    refine GoS.iconst (pc' := 56) (v := (-1 : Int32)) at_55 rfl rfl ?_
    refine GoS.istore (pc' := 58) (Ls' := #[.val (.int p0), .val (.int p1), .val (.int p2), .val (.int p3), .val (.int p4), .val (.int 3), .val (.int c_1), .val (.int c_2), .val (.int c_3), .val (.int c_4), .val (.ref b39), .val (.int (-1 : Int32)), .unset, .unset, .unset, .unset, .unset]) at_56 rfl rfl ?_
    refine GoS.iload (pc' := 60) at_58 rfl rfl ?_
    refine GoS.iconst (pc' := 61) (v := 3) at_60 rfl rfl ?_
    refine GoS.icmpYes (pc' := 74) at_61 (XT.ii_le_t (by decide)) (by decide) (by decide) ?_
    refine GoS.iload (pc' := 76) at_74 rfl rfl ?_
    refine GoS.iconst (pc' := 77) (v := 2) at_76 rfl rfl ?_
    refine GoS.icmpNo (pc' := 80) at_77 (XT.ii_le_f (by decide)) rfl ?_
    refine GoS.iload (pc' := 82) at_80 rfl rfl ?_
    refine GoS.bipush (pc' := 84) (v := 124) at_82 rfl rfl ?_
    by_cases hc49 : c_3 = (124 : Int32)
    ·
      refine GoS.icmpNo (pc' := 87) at_84 (XT.ii_ne_f hc49) rfl ?_
      refine GoS.iconst (pc' := 88) (v := 2) at_87 rfl rfl ?_
      refine GoS.istore (pc' := 90) (Ls' := #[.val (.int p0), .val (.int p1), .val (.int p2), .val (.int p3), .val (.int p4), .val (.int 3), .val (.int c_1), .val (.int c_2), .val (.int c_3), .val (.int c_4), .val (.ref b39), .val (.int 2), .unset, .unset, .unset, .unset, .unset]) at_88 rfl rfl ?_
      refine GoS.iload (pc' := 92) at_90 rfl rfl ?_
      refine GoS.iconst (pc' := 93) (v := 1) at_92 rfl rfl ?_
      refine GoS.icmpNo (pc' := 96) at_93 (XT.ii_le_f (by decide)) rfl ?_
      refine GoS.iload (pc' := 98) at_96 rfl rfl ?_
      refine GoS.bipush (pc' := 100) (v := 124) at_98 rfl rfl ?_
      by_cases hc50 : c_2 = (124 : Int32)
      ·
        refine GoS.icmpNo (pc' := 103) at_100 (XT.ii_ne_f hc50) rfl ?_
        refine GoS.iconst (pc' := 104) (v := 1) at_103 rfl rfl ?_
        refine GoS.istore (pc' := 106) (Ls' := #[.val (.int p0), .val (.int p1), .val (.int p2), .val (.int p3), .val (.int p4), .val (.int 3), .val (.int c_1), .val (.int c_2), .val (.int c_3), .val (.int c_4), .val (.ref b39), .val (.int 1), .unset, .unset, .unset, .unset, .unset]) at_104 rfl rfl ?_
        refine GoS.iload (pc' := 108) at_106 rfl rfl ?_
        refine GoS.ifNo (pc' := 111) at_108 (XT.i0_le_f (by decide)) rfl ?_
        refine GoS.iload (pc' := 113) at_111 rfl rfl ?_
        refine GoS.bipush (pc' := 115) (v := 124) at_113 rfl rfl ?_
        by_cases hc51 : c_1 = (124 : Int32)
        ·
          refine GoS.icmpNo (pc' := 118) at_115 (XT.ii_ne_f hc51) rfl ?_
          refine GoS.iconst (pc' := 119) (v := 0) at_118 rfl rfl ?_
          refine GoS.istore (pc' := 121) (Ls' := #[.val (.int p0), .val (.int p1), .val (.int p2), .val (.int p3), .val (.int p4), .val (.int 3), .val (.int c_1), .val (.int c_2), .val (.int c_3), .val (.int c_4), .val (.ref b39), .val (.int 0), .unset, .unset, .unset, .unset, .unset]) at_119 rfl rfl ?_
          exact GoS.more (c_rest3_0 l Z a0 hw h h46 p0 p1 p2 p3 p4 c_1 c_2 c_3 c_4 b39 b_46 kb_46 cp wf hcp hwf hcw hch7 hch26 hch151 P1_0 P2_0 P3_0 P4_0 P1_1 P2_1 P3_1 P4_1 hc51 scp sfm (((A39.keep K41).keep K46)) F46_1 F46_0 F46_2 K48) (nl rfl) (nl rfl)
        ·
          refine GoS.icmpYes (pc' := 121) at_115 (XT.ii_ne_t hc51) (by decide) (by decide) ?_
          exact GoS.more (c_rest3_1 l Z a0 hw h h46 p0 p1 p2 p3 p4 c_1 c_2 c_3 c_4 b39 b_46 kb_46 cp wf hcp hwf hcw hch7 hch26 hch151 P1_0 P2_0 P3_0 P4_0 P1_1 P2_1 P3_1 P4_1 hc51 hc50 scp sfm (((A39.keep K41).keep K46)) F46_1 F46_0 F46_2 K48) (nl rfl) (nl rfl)
      ·
        refine GoS.icmpYes (pc' := 106) at_100 (XT.ii_ne_t hc50) (by decide) (by decide) ?_
        refine GoS.iload (pc' := 108) at_106 rfl rfl ?_
        refine GoS.ifNo (pc' := 111) at_108 (XT.i0_le_f (by decide)) rfl ?_
        refine GoS.iload (pc' := 113) at_111 rfl rfl ?_
        refine GoS.bipush (pc' := 115) (v := 124) at_113 rfl rfl ?_
        by_cases hc52 : c_1 = (124 : Int32)
        ·
          refine GoS.icmpNo (pc' := 118) at_115 (XT.ii_ne_f hc52) rfl ?_
          refine GoS.iconst (pc' := 119) (v := 0) at_118 rfl rfl ?_
          refine GoS.istore (pc' := 121) (Ls' := #[.val (.int p0), .val (.int p1), .val (.int p2), .val (.int p3), .val (.int p4), .val (.int 3), .val (.int c_1), .val (.int c_2), .val (.int c_3), .val (.int c_4), .val (.ref b39), .val (.int 0), .unset, .unset, .unset, .unset, .unset]) at_119 rfl rfl ?_
          exact GoS.more (c_rest3_0 l Z a0 hw h h46 p0 p1 p2 p3 p4 c_1 c_2 c_3 c_4 b39 b_46 kb_46 cp wf hcp hwf hcw hch7 hch26 hch151 P1_0 P2_0 P3_0 P4_0 P1_1 P2_1 P3_1 P4_1 hc52 scp sfm (((A39.keep K41).keep K46)) F46_1 F46_0 F46_2 K48) (nl rfl) (nl rfl)
        ·
          refine GoS.icmpYes (pc' := 121) at_115 (XT.ii_ne_t hc52) (by decide) (by decide) ?_
          exact GoS.more (c_rest3_2 l Z a0 hw h h46 p0 p1 p2 p3 p4 c_1 c_2 c_3 c_4 b39 b_46 kb_46 cp wf hcp hwf hcw hch7 hch26 hch151 P1_0 P2_0 P3_0 P4_0 P1_1 P2_1 P3_1 P4_1 hc52 hc50 hc49 scp sfm (((A39.keep K41).keep K46)) F46_1 F46_0 F46_2 K48) (nl rfl) (nl rfl)
    ·
      refine GoS.icmpYes (pc' := 90) at_84 (XT.ii_ne_t hc49) (by decide) (by decide) ?_
      refine GoS.iload (pc' := 92) at_90 rfl rfl ?_
      refine GoS.iconst (pc' := 93) (v := 1) at_92 rfl rfl ?_
      refine GoS.icmpNo (pc' := 96) at_93 (XT.ii_le_f (by decide)) rfl ?_
      refine GoS.iload (pc' := 98) at_96 rfl rfl ?_
      refine GoS.bipush (pc' := 100) (v := 124) at_98 rfl rfl ?_
      by_cases hc53 : c_2 = (124 : Int32)
      ·
        refine GoS.icmpNo (pc' := 103) at_100 (XT.ii_ne_f hc53) rfl ?_
        refine GoS.iconst (pc' := 104) (v := 1) at_103 rfl rfl ?_
        refine GoS.istore (pc' := 106) (Ls' := #[.val (.int p0), .val (.int p1), .val (.int p2), .val (.int p3), .val (.int p4), .val (.int 3), .val (.int c_1), .val (.int c_2), .val (.int c_3), .val (.int c_4), .val (.ref b39), .val (.int 1), .unset, .unset, .unset, .unset, .unset]) at_104 rfl rfl ?_
        refine GoS.iload (pc' := 108) at_106 rfl rfl ?_
        refine GoS.ifNo (pc' := 111) at_108 (XT.i0_le_f (by decide)) rfl ?_
        refine GoS.iload (pc' := 113) at_111 rfl rfl ?_
        refine GoS.bipush (pc' := 115) (v := 124) at_113 rfl rfl ?_
        by_cases hc54 : c_1 = (124 : Int32)
        ·
          refine GoS.icmpNo (pc' := 118) at_115 (XT.ii_ne_f hc54) rfl ?_
          refine GoS.iconst (pc' := 119) (v := 0) at_118 rfl rfl ?_
          refine GoS.istore (pc' := 121) (Ls' := #[.val (.int p0), .val (.int p1), .val (.int p2), .val (.int p3), .val (.int p4), .val (.int 3), .val (.int c_1), .val (.int c_2), .val (.int c_3), .val (.int c_4), .val (.ref b39), .val (.int 0), .unset, .unset, .unset, .unset, .unset]) at_119 rfl rfl ?_
          exact GoS.more (c_rest3_0 l Z a0 hw h h46 p0 p1 p2 p3 p4 c_1 c_2 c_3 c_4 b39 b_46 kb_46 cp wf hcp hwf hcw hch7 hch26 hch151 P1_0 P2_0 P3_0 P4_0 P1_1 P2_1 P3_1 P4_1 hc54 scp sfm (((A39.keep K41).keep K46)) F46_1 F46_0 F46_2 K48) (nl rfl) (nl rfl)
        ·
          refine GoS.icmpYes (pc' := 121) at_115 (XT.ii_ne_t hc54) (by decide) (by decide) ?_
          exact GoS.more (c_rest3_1 l Z a0 hw h h46 p0 p1 p2 p3 p4 c_1 c_2 c_3 c_4 b39 b_46 kb_46 cp wf hcp hwf hcw hch7 hch26 hch151 P1_0 P2_0 P3_0 P4_0 P1_1 P2_1 P3_1 P4_1 hc54 hc53 scp sfm (((A39.keep K41).keep K46)) F46_1 F46_0 F46_2 K48) (nl rfl) (nl rfl)
      ·
        refine GoS.icmpYes (pc' := 106) at_100 (XT.ii_ne_t hc53) (by decide) (by decide) ?_
        refine GoS.iload (pc' := 108) at_106 rfl rfl ?_
        refine GoS.ifNo (pc' := 111) at_108 (XT.i0_le_f (by decide)) rfl ?_
        refine GoS.iload (pc' := 113) at_111 rfl rfl ?_
        refine GoS.bipush (pc' := 115) (v := 124) at_113 rfl rfl ?_
        by_cases hc55 : c_1 = (124 : Int32)
        ·
          refine GoS.icmpNo (pc' := 118) at_115 (XT.ii_ne_f hc55) rfl ?_
          refine GoS.iconst (pc' := 119) (v := 0) at_118 rfl rfl ?_
          refine GoS.istore (pc' := 121) (Ls' := #[.val (.int p0), .val (.int p1), .val (.int p2), .val (.int p3), .val (.int p4), .val (.int 3), .val (.int c_1), .val (.int c_2), .val (.int c_3), .val (.int c_4), .val (.ref b39), .val (.int 0), .unset, .unset, .unset, .unset, .unset]) at_119 rfl rfl ?_
          exact GoS.more (c_rest3_0 l Z a0 hw h h46 p0 p1 p2 p3 p4 c_1 c_2 c_3 c_4 b39 b_46 kb_46 cp wf hcp hwf hcw hch7 hch26 hch151 P1_0 P2_0 P3_0 P4_0 P1_1 P2_1 P3_1 P4_1 hc55 scp sfm (((A39.keep K41).keep K46)) F46_1 F46_0 F46_2 K48) (nl rfl) (nl rfl)
        ·
          refine GoS.icmpYes (pc' := 121) at_115 (XT.ii_ne_t hc55) (by decide) (by decide) ?_
          exact GoS.more (c_rest3_m l Z a0 hw h h46 p0 p1 p2 p3 p4 c_1 c_2 c_3 c_4 b39 b_46 kb_46 cp wf hcp hwf hcw hch7 hch26 hch151 P1_0 P2_0 P3_0 P4_0 P1_1 P2_1 P3_1 P4_1 hc55 hc53 hc49 scp sfm (((A39.keep K41).keep K46)) F46_1 F46_0 F46_2 K48) (nl rfl) (nl rfl)
  ·
    rw [hspl5]
    refine GoS.new (pc' := 36) (cells' := 1) (slots' := 4) (ww hw 5 rfl) (ww hw 6 rfl) (ww hw 7 rfl) at_33 rfl rfl (by decide) (by decide) rfl ?_
    intro h56 b56 g56 E56 ge56 A56 D56
    have K57 : Keep h h56 [] := (Keep.refl h []).ext E56
    refine GoS.dup (pc' := 37) at_36 rfl rfl ?_
    refine GoS.iload (pc' := 39) at_37 rfl rfl ?_
    refine GoS.iload (pc' := 41) at_39 rfl rfl ?_
    refine GoS.iload (pc' := 43) at_41 rfl rfl ?_
    refine GoS.iload (pc' := 45) at_43 rfl rfl ?_
    refine GoS.iload (pc' := 47) at_45 rfl rfl ?_
    refine GoS.callS (cells' := 2) (slots' := 8) (pc' := 50) [(.int 4), (.int c_1), (.int c_2), (.int c_3), (.int c_4)] [(.ref b56), (.ref b56)] (ww hw 8 rfl) (ww hw 9 rfl) (ww hw 3 rfl) (ww hw 10 rfl) (by decide) (Con.cold (c_make4 l Z a0 hw h56 c_1 c_2 c_3 c_4 P1_1 P2_1 P3_1 P4_1)) pd_26 at_47 rfl ?_
    rintro _ h58 _ ⟨⟨d_58, kd_58, rfl, K58, ge_d_58, sz_d_58, F58_0⟩, rfl⟩
    have sz59 : h.size ≤ d_58 := Nat.le_trans K57.1 sz_d_58
    have K60 : Keep h h58 [] := K57.trans K58 all0
    show GoS _ _ _ _ _ _ _ _ _ _ _ _ _ _ 50 _ [(.ref d_58), (.ref b56), (.ref b56)]
    have f61 : Fld Z h58 b56 "java/lang/String" "value" "[B" .null := ((D56 (Or.inr (ww hw 24 rfl)) (ty := (.array .byte)) (by decide) : Fld Z h56 b56 "java/lang/String" "value" "[B" .null).keep K58 nin0)
    have f62 : Fld Z h58 b56 "java/lang/String" "coder" "B" (.int 0) := ((D56 (Or.inr (ww hw 25 rfl)) (ty := .byte) (by decide) : Fld Z h56 b56 "java/lang/String" "coder" "B" (.int 0)).keep K58 nin0)
    refine GoS.callC (cells' := 3) (slots' := 12) (pc' := 53) [(.ref d_58)] [(.ref b56)] (a := b56) rfl rfl (ww hw 12 rfl) (ww hw 13 rfl) (ww hw 7 rfl) (ww hw 14 rfl) (by decide) (Con.cold (c_strInit4 l Z a0 hw h58 b56 d_58 kd_58 c_1 c_2 c_3 c_4 cp P1_0 P2_0 P3_0 P4_0 hcp scp ge56 (A56.keep K58) f61 f62 F58_0)) pd_27 at_50 rfl ?_
    rintro _ h63 _ ⟨⟨b_63, kb_63, rfl, K63, ge_b_63, sz_b_63, F63_0, F63_1, F63_2⟩, rfl⟩
    have sz64 : h.size ≤ b_63 := Nat.le_trans K60.1 sz_b_63
    have K65 : Keep h h63 [] := K60.trans K63 (allS (Or.inr (Nat.le_of_eq g56.symm)) all0)
    show GoS _ _ _ _ _ _ _ _ _ _ _ _ _ _ 53 _ [(.ref b56)]
    refine GoS.astore (pc' := 55) (Ls' := #[.val (.int p0), .val (.int p1), .val (.int p2), .val (.int p3), .val (.int p4), .val (.int 4), .val (.int c_1), .val (.int c_2), .val (.int c_3), .val (.int c_4), .val (.ref b56), .unset, .unset, .unset, .unset, .unset, .unset]) at_53 rfl rfl rfl ?_
    refine GoS.iconst (pc' := 56) (v := (-1 : Int32)) at_55 rfl rfl ?_
    refine GoS.istore (pc' := 58) (Ls' := #[.val (.int p0), .val (.int p1), .val (.int p2), .val (.int p3), .val (.int p4), .val (.int 4), .val (.int c_1), .val (.int c_2), .val (.int c_3), .val (.int c_4), .val (.ref b56), .val (.int (-1 : Int32)), .unset, .unset, .unset, .unset, .unset]) at_56 rfl rfl ?_
    refine GoS.iload (pc' := 60) at_58 rfl rfl ?_
    refine GoS.iconst (pc' := 61) (v := 3) at_60 rfl rfl ?_
    refine GoS.icmpNo (pc' := 64) at_61 (XT.ii_le_f (by decide)) rfl ?_
    refine GoS.iload (pc' := 66) at_64 rfl rfl ?_
    refine GoS.bipush (pc' := 68) (v := 124) at_66 rfl rfl ?_
    by_cases hc66 : c_4 = (124 : Int32)
    ·
      refine GoS.icmpNo (pc' := 71) at_68 (XT.ii_ne_f hc66) rfl ?_
      refine GoS.iconst (pc' := 72) (v := 3) at_71 rfl rfl ?_
      refine GoS.istore (pc' := 74) (Ls' := #[.val (.int p0), .val (.int p1), .val (.int p2), .val (.int p3), .val (.int p4), .val (.int 4), .val (.int c_1), .val (.int c_2), .val (.int c_3), .val (.int c_4), .val (.ref b56), .val (.int 3), .unset, .unset, .unset, .unset, .unset]) at_72 rfl rfl ?_
      refine GoS.iload (pc' := 76) at_74 rfl rfl ?_
      refine GoS.iconst (pc' := 77) (v := 2) at_76 rfl rfl ?_
      refine GoS.icmpNo (pc' := 80) at_77 (XT.ii_le_f (by decide)) rfl ?_
      refine GoS.iload (pc' := 82) at_80 rfl rfl ?_
      refine GoS.bipush (pc' := 84) (v := 124) at_82 rfl rfl ?_
      by_cases hc67 : c_3 = (124 : Int32)
      ·
        refine GoS.icmpNo (pc' := 87) at_84 (XT.ii_ne_f hc67) rfl ?_
        refine GoS.iconst (pc' := 88) (v := 2) at_87 rfl rfl ?_
        refine GoS.istore (pc' := 90) (Ls' := #[.val (.int p0), .val (.int p1), .val (.int p2), .val (.int p3), .val (.int p4), .val (.int 4), .val (.int c_1), .val (.int c_2), .val (.int c_3), .val (.int c_4), .val (.ref b56), .val (.int 2), .unset, .unset, .unset, .unset, .unset]) at_88 rfl rfl ?_
        refine GoS.iload (pc' := 92) at_90 rfl rfl ?_
        refine GoS.iconst (pc' := 93) (v := 1) at_92 rfl rfl ?_
        refine GoS.icmpNo (pc' := 96) at_93 (XT.ii_le_f (by decide)) rfl ?_
        refine GoS.iload (pc' := 98) at_96 rfl rfl ?_
        refine GoS.bipush (pc' := 100) (v := 124) at_98 rfl rfl ?_
        by_cases hc68 : c_2 = (124 : Int32)
        ·
          refine GoS.icmpNo (pc' := 103) at_100 (XT.ii_ne_f hc68) rfl ?_
          refine GoS.iconst (pc' := 104) (v := 1) at_103 rfl rfl ?_
          refine GoS.istore (pc' := 106) (Ls' := #[.val (.int p0), .val (.int p1), .val (.int p2), .val (.int p3), .val (.int p4), .val (.int 4), .val (.int c_1), .val (.int c_2), .val (.int c_3), .val (.int c_4), .val (.ref b56), .val (.int 1), .unset, .unset, .unset, .unset, .unset]) at_104 rfl rfl ?_
          refine GoS.iload (pc' := 108) at_106 rfl rfl ?_
          refine GoS.ifNo (pc' := 111) at_108 (XT.i0_le_f (by decide)) rfl ?_
          refine GoS.iload (pc' := 113) at_111 rfl rfl ?_
          refine GoS.bipush (pc' := 115) (v := 124) at_113 rfl rfl ?_
          by_cases hc69 : c_1 = (124 : Int32)
          ·
            refine GoS.icmpNo (pc' := 118) at_115 (XT.ii_ne_f hc69) rfl ?_
            refine GoS.iconst (pc' := 119) (v := 0) at_118 rfl rfl ?_
            refine GoS.istore (pc' := 121) (Ls' := #[.val (.int p0), .val (.int p1), .val (.int p2), .val (.int p3), .val (.int p4), .val (.int 4), .val (.int c_1), .val (.int c_2), .val (.int c_3), .val (.int c_4), .val (.ref b56), .val (.int 0), .unset, .unset, .unset, .unset, .unset]) at_119 rfl rfl ?_
            exact GoS.more (c_rest4_0 l Z a0 hw h h63 p0 p1 p2 p3 p4 c_1 c_2 c_3 c_4 b56 b_63 kb_63 cp wf hcp hwf hcw hch7 hch26 hch151 P1_0 P2_0 P3_0 P4_0 P1_1 P2_1 P3_1 P4_1 hc69 scp sfm (((A56.keep K58).keep K63)) F63_1 F63_0 F63_2 K65) (nl rfl) (nl rfl)
          ·
            refine GoS.icmpYes (pc' := 121) at_115 (XT.ii_ne_t hc69) (by decide) (by decide) ?_
            exact GoS.more (c_rest4_1 l Z a0 hw h h63 p0 p1 p2 p3 p4 c_1 c_2 c_3 c_4 b56 b_63 kb_63 cp wf hcp hwf hcw hch7 hch26 hch151 P1_0 P2_0 P3_0 P4_0 P1_1 P2_1 P3_1 P4_1 hc69 hc68 scp sfm (((A56.keep K58).keep K63)) F63_1 F63_0 F63_2 K65) (nl rfl) (nl rfl)
        ·
          refine GoS.icmpYes (pc' := 106) at_100 (XT.ii_ne_t hc68) (by decide) (by decide) ?_
          refine GoS.iload (pc' := 108) at_106 rfl rfl ?_
          refine GoS.ifNo (pc' := 111) at_108 (XT.i0_le_f (by decide)) rfl ?_
          refine GoS.iload (pc' := 113) at_111 rfl rfl ?_
          refine GoS.bipush (pc' := 115) (v := 124) at_113 rfl rfl ?_
          by_cases hc70 : c_1 = (124 : Int32)
          ·
            refine GoS.icmpNo (pc' := 118) at_115 (XT.ii_ne_f hc70) rfl ?_
            refine GoS.iconst (pc' := 119) (v := 0) at_118 rfl rfl ?_
            refine GoS.istore (pc' := 121) (Ls' := #[.val (.int p0), .val (.int p1), .val (.int p2), .val (.int p3), .val (.int p4), .val (.int 4), .val (.int c_1), .val (.int c_2), .val (.int c_3), .val (.int c_4), .val (.ref b56), .val (.int 0), .unset, .unset, .unset, .unset, .unset]) at_119 rfl rfl ?_
            exact GoS.more (c_rest4_0 l Z a0 hw h h63 p0 p1 p2 p3 p4 c_1 c_2 c_3 c_4 b56 b_63 kb_63 cp wf hcp hwf hcw hch7 hch26 hch151 P1_0 P2_0 P3_0 P4_0 P1_1 P2_1 P3_1 P4_1 hc70 scp sfm (((A56.keep K58).keep K63)) F63_1 F63_0 F63_2 K65) (nl rfl) (nl rfl)
          ·
            refine GoS.icmpYes (pc' := 121) at_115 (XT.ii_ne_t hc70) (by decide) (by decide) ?_
            exact GoS.more (c_rest4_2 l Z a0 hw h h63 p0 p1 p2 p3 p4 c_1 c_2 c_3 c_4 b56 b_63 kb_63 cp wf hcp hwf hcw hch7 hch26 hch151 P1_0 P2_0 P3_0 P4_0 P1_1 P2_1 P3_1 P4_1 hc70 hc68 hc67 scp sfm (((A56.keep K58).keep K63)) F63_1 F63_0 F63_2 K65) (nl rfl) (nl rfl)
      ·
        refine GoS.icmpYes (pc' := 90) at_84 (XT.ii_ne_t hc67) (by decide) (by decide) ?_
        refine GoS.iload (pc' := 92) at_90 rfl rfl ?_
        refine GoS.iconst (pc' := 93) (v := 1) at_92 rfl rfl ?_
        refine GoS.icmpNo (pc' := 96) at_93 (XT.ii_le_f (by decide)) rfl ?_
        refine GoS.iload (pc' := 98) at_96 rfl rfl ?_
        refine GoS.bipush (pc' := 100) (v := 124) at_98 rfl rfl ?_
        by_cases hc71 : c_2 = (124 : Int32)
        ·
          refine GoS.icmpNo (pc' := 103) at_100 (XT.ii_ne_f hc71) rfl ?_
          refine GoS.iconst (pc' := 104) (v := 1) at_103 rfl rfl ?_
          refine GoS.istore (pc' := 106) (Ls' := #[.val (.int p0), .val (.int p1), .val (.int p2), .val (.int p3), .val (.int p4), .val (.int 4), .val (.int c_1), .val (.int c_2), .val (.int c_3), .val (.int c_4), .val (.ref b56), .val (.int 1), .unset, .unset, .unset, .unset, .unset]) at_104 rfl rfl ?_
          refine GoS.iload (pc' := 108) at_106 rfl rfl ?_
          refine GoS.ifNo (pc' := 111) at_108 (XT.i0_le_f (by decide)) rfl ?_
          refine GoS.iload (pc' := 113) at_111 rfl rfl ?_
          refine GoS.bipush (pc' := 115) (v := 124) at_113 rfl rfl ?_
          by_cases hc72 : c_1 = (124 : Int32)
          ·
            refine GoS.icmpNo (pc' := 118) at_115 (XT.ii_ne_f hc72) rfl ?_
            refine GoS.iconst (pc' := 119) (v := 0) at_118 rfl rfl ?_
            refine GoS.istore (pc' := 121) (Ls' := #[.val (.int p0), .val (.int p1), .val (.int p2), .val (.int p3), .val (.int p4), .val (.int 4), .val (.int c_1), .val (.int c_2), .val (.int c_3), .val (.int c_4), .val (.ref b56), .val (.int 0), .unset, .unset, .unset, .unset, .unset]) at_119 rfl rfl ?_
            exact GoS.more (c_rest4_0 l Z a0 hw h h63 p0 p1 p2 p3 p4 c_1 c_2 c_3 c_4 b56 b_63 kb_63 cp wf hcp hwf hcw hch7 hch26 hch151 P1_0 P2_0 P3_0 P4_0 P1_1 P2_1 P3_1 P4_1 hc72 scp sfm (((A56.keep K58).keep K63)) F63_1 F63_0 F63_2 K65) (nl rfl) (nl rfl)
          ·
            refine GoS.icmpYes (pc' := 121) at_115 (XT.ii_ne_t hc72) (by decide) (by decide) ?_
            exact GoS.more (c_rest4_1 l Z a0 hw h h63 p0 p1 p2 p3 p4 c_1 c_2 c_3 c_4 b56 b_63 kb_63 cp wf hcp hwf hcw hch7 hch26 hch151 P1_0 P2_0 P3_0 P4_0 P1_1 P2_1 P3_1 P4_1 hc72 hc71 scp sfm (((A56.keep K58).keep K63)) F63_1 F63_0 F63_2 K65) (nl rfl) (nl rfl)
        ·
          refine GoS.icmpYes (pc' := 106) at_100 (XT.ii_ne_t hc71) (by decide) (by decide) ?_
          refine GoS.iload (pc' := 108) at_106 rfl rfl ?_
          refine GoS.ifNo (pc' := 111) at_108 (XT.i0_le_f (by decide)) rfl ?_
          refine GoS.iload (pc' := 113) at_111 rfl rfl ?_
          refine GoS.bipush (pc' := 115) (v := 124) at_113 rfl rfl ?_
          by_cases hc73 : c_1 = (124 : Int32)
          ·
            refine GoS.icmpNo (pc' := 118) at_115 (XT.ii_ne_f hc73) rfl ?_
            refine GoS.iconst (pc' := 119) (v := 0) at_118 rfl rfl ?_
            refine GoS.istore (pc' := 121) (Ls' := #[.val (.int p0), .val (.int p1), .val (.int p2), .val (.int p3), .val (.int p4), .val (.int 4), .val (.int c_1), .val (.int c_2), .val (.int c_3), .val (.int c_4), .val (.ref b56), .val (.int 0), .unset, .unset, .unset, .unset, .unset]) at_119 rfl rfl ?_
            exact GoS.more (c_rest4_0 l Z a0 hw h h63 p0 p1 p2 p3 p4 c_1 c_2 c_3 c_4 b56 b_63 kb_63 cp wf hcp hwf hcw hch7 hch26 hch151 P1_0 P2_0 P3_0 P4_0 P1_1 P2_1 P3_1 P4_1 hc73 scp sfm (((A56.keep K58).keep K63)) F63_1 F63_0 F63_2 K65) (nl rfl) (nl rfl)
          ·
            refine GoS.icmpYes (pc' := 121) at_115 (XT.ii_ne_t hc73) (by decide) (by decide) ?_
            exact GoS.more (c_rest4_3 l Z a0 hw h h63 p0 p1 p2 p3 p4 c_1 c_2 c_3 c_4 b56 b_63 kb_63 cp wf hcp hwf hcw hch7 hch26 hch151 P1_0 P2_0 P3_0 P4_0 P1_1 P2_1 P3_1 P4_1 hc73 hc71 hc67 hc66 scp sfm (((A56.keep K58).keep K63)) F63_1 F63_0 F63_2 K65) (nl rfl) (nl rfl)
    ·
      refine GoS.icmpYes (pc' := 74) at_68 (XT.ii_ne_t hc66) (by decide) (by decide) ?_
      refine GoS.iload (pc' := 76) at_74 rfl rfl ?_
      refine GoS.iconst (pc' := 77) (v := 2) at_76 rfl rfl ?_
      refine GoS.icmpNo (pc' := 80) at_77 (XT.ii_le_f (by decide)) rfl ?_
      refine GoS.iload (pc' := 82) at_80 rfl rfl ?_
      refine GoS.bipush (pc' := 84) (v := 124) at_82 rfl rfl ?_
      by_cases hc74 : c_3 = (124 : Int32)
      ·
        refine GoS.icmpNo (pc' := 87) at_84 (XT.ii_ne_f hc74) rfl ?_
        refine GoS.iconst (pc' := 88) (v := 2) at_87 rfl rfl ?_
        refine GoS.istore (pc' := 90) (Ls' := #[.val (.int p0), .val (.int p1), .val (.int p2), .val (.int p3), .val (.int p4), .val (.int 4), .val (.int c_1), .val (.int c_2), .val (.int c_3), .val (.int c_4), .val (.ref b56), .val (.int 2), .unset, .unset, .unset, .unset, .unset]) at_88 rfl rfl ?_
        refine GoS.iload (pc' := 92) at_90 rfl rfl ?_
        refine GoS.iconst (pc' := 93) (v := 1) at_92 rfl rfl ?_
        refine GoS.icmpNo (pc' := 96) at_93 (XT.ii_le_f (by decide)) rfl ?_
        refine GoS.iload (pc' := 98) at_96 rfl rfl ?_
        refine GoS.bipush (pc' := 100) (v := 124) at_98 rfl rfl ?_
        by_cases hc75 : c_2 = (124 : Int32)
        ·
          refine GoS.icmpNo (pc' := 103) at_100 (XT.ii_ne_f hc75) rfl ?_
          refine GoS.iconst (pc' := 104) (v := 1) at_103 rfl rfl ?_
          refine GoS.istore (pc' := 106) (Ls' := #[.val (.int p0), .val (.int p1), .val (.int p2), .val (.int p3), .val (.int p4), .val (.int 4), .val (.int c_1), .val (.int c_2), .val (.int c_3), .val (.int c_4), .val (.ref b56), .val (.int 1), .unset, .unset, .unset, .unset, .unset]) at_104 rfl rfl ?_
          refine GoS.iload (pc' := 108) at_106 rfl rfl ?_
          refine GoS.ifNo (pc' := 111) at_108 (XT.i0_le_f (by decide)) rfl ?_
          refine GoS.iload (pc' := 113) at_111 rfl rfl ?_
          refine GoS.bipush (pc' := 115) (v := 124) at_113 rfl rfl ?_
          by_cases hc76 : c_1 = (124 : Int32)
          ·
            refine GoS.icmpNo (pc' := 118) at_115 (XT.ii_ne_f hc76) rfl ?_
            refine GoS.iconst (pc' := 119) (v := 0) at_118 rfl rfl ?_
            refine GoS.istore (pc' := 121) (Ls' := #[.val (.int p0), .val (.int p1), .val (.int p2), .val (.int p3), .val (.int p4), .val (.int 4), .val (.int c_1), .val (.int c_2), .val (.int c_3), .val (.int c_4), .val (.ref b56), .val (.int 0), .unset, .unset, .unset, .unset, .unset]) at_119 rfl rfl ?_
            exact GoS.more (c_rest4_0 l Z a0 hw h h63 p0 p1 p2 p3 p4 c_1 c_2 c_3 c_4 b56 b_63 kb_63 cp wf hcp hwf hcw hch7 hch26 hch151 P1_0 P2_0 P3_0 P4_0 P1_1 P2_1 P3_1 P4_1 hc76 scp sfm (((A56.keep K58).keep K63)) F63_1 F63_0 F63_2 K65) (nl rfl) (nl rfl)
          ·
            refine GoS.icmpYes (pc' := 121) at_115 (XT.ii_ne_t hc76) (by decide) (by decide) ?_
            exact GoS.more (c_rest4_1 l Z a0 hw h h63 p0 p1 p2 p3 p4 c_1 c_2 c_3 c_4 b56 b_63 kb_63 cp wf hcp hwf hcw hch7 hch26 hch151 P1_0 P2_0 P3_0 P4_0 P1_1 P2_1 P3_1 P4_1 hc76 hc75 scp sfm (((A56.keep K58).keep K63)) F63_1 F63_0 F63_2 K65) (nl rfl) (nl rfl)
        ·
          refine GoS.icmpYes (pc' := 106) at_100 (XT.ii_ne_t hc75) (by decide) (by decide) ?_
          refine GoS.iload (pc' := 108) at_106 rfl rfl ?_
          refine GoS.ifNo (pc' := 111) at_108 (XT.i0_le_f (by decide)) rfl ?_
          refine GoS.iload (pc' := 113) at_111 rfl rfl ?_
          refine GoS.bipush (pc' := 115) (v := 124) at_113 rfl rfl ?_
          by_cases hc77 : c_1 = (124 : Int32)
          ·
            refine GoS.icmpNo (pc' := 118) at_115 (XT.ii_ne_f hc77) rfl ?_
            refine GoS.iconst (pc' := 119) (v := 0) at_118 rfl rfl ?_
            refine GoS.istore (pc' := 121) (Ls' := #[.val (.int p0), .val (.int p1), .val (.int p2), .val (.int p3), .val (.int p4), .val (.int 4), .val (.int c_1), .val (.int c_2), .val (.int c_3), .val (.int c_4), .val (.ref b56), .val (.int 0), .unset, .unset, .unset, .unset, .unset]) at_119 rfl rfl ?_
            exact GoS.more (c_rest4_0 l Z a0 hw h h63 p0 p1 p2 p3 p4 c_1 c_2 c_3 c_4 b56 b_63 kb_63 cp wf hcp hwf hcw hch7 hch26 hch151 P1_0 P2_0 P3_0 P4_0 P1_1 P2_1 P3_1 P4_1 hc77 scp sfm (((A56.keep K58).keep K63)) F63_1 F63_0 F63_2 K65) (nl rfl) (nl rfl)
          ·
            refine GoS.icmpYes (pc' := 121) at_115 (XT.ii_ne_t hc77) (by decide) (by decide) ?_
            exact GoS.more (c_rest4_2 l Z a0 hw h h63 p0 p1 p2 p3 p4 c_1 c_2 c_3 c_4 b56 b_63 kb_63 cp wf hcp hwf hcw hch7 hch26 hch151 P1_0 P2_0 P3_0 P4_0 P1_1 P2_1 P3_1 P4_1 hc77 hc75 hc74 scp sfm (((A56.keep K58).keep K63)) F63_1 F63_0 F63_2 K65) (nl rfl) (nl rfl)
      ·
        refine GoS.icmpYes (pc' := 90) at_84 (XT.ii_ne_t hc74) (by decide) (by decide) ?_
        refine GoS.iload (pc' := 92) at_90 rfl rfl ?_
        refine GoS.iconst (pc' := 93) (v := 1) at_92 rfl rfl ?_
        refine GoS.icmpNo (pc' := 96) at_93 (XT.ii_le_f (by decide)) rfl ?_
        refine GoS.iload (pc' := 98) at_96 rfl rfl ?_
        refine GoS.bipush (pc' := 100) (v := 124) at_98 rfl rfl ?_
        by_cases hc78 : c_2 = (124 : Int32)
        ·
          refine GoS.icmpNo (pc' := 103) at_100 (XT.ii_ne_f hc78) rfl ?_
          refine GoS.iconst (pc' := 104) (v := 1) at_103 rfl rfl ?_
          refine GoS.istore (pc' := 106) (Ls' := #[.val (.int p0), .val (.int p1), .val (.int p2), .val (.int p3), .val (.int p4), .val (.int 4), .val (.int c_1), .val (.int c_2), .val (.int c_3), .val (.int c_4), .val (.ref b56), .val (.int 1), .unset, .unset, .unset, .unset, .unset]) at_104 rfl rfl ?_
          refine GoS.iload (pc' := 108) at_106 rfl rfl ?_
          refine GoS.ifNo (pc' := 111) at_108 (XT.i0_le_f (by decide)) rfl ?_
          refine GoS.iload (pc' := 113) at_111 rfl rfl ?_
          refine GoS.bipush (pc' := 115) (v := 124) at_113 rfl rfl ?_
          by_cases hc79 : c_1 = (124 : Int32)
          ·
            refine GoS.icmpNo (pc' := 118) at_115 (XT.ii_ne_f hc79) rfl ?_
            refine GoS.iconst (pc' := 119) (v := 0) at_118 rfl rfl ?_
            refine GoS.istore (pc' := 121) (Ls' := #[.val (.int p0), .val (.int p1), .val (.int p2), .val (.int p3), .val (.int p4), .val (.int 4), .val (.int c_1), .val (.int c_2), .val (.int c_3), .val (.int c_4), .val (.ref b56), .val (.int 0), .unset, .unset, .unset, .unset, .unset]) at_119 rfl rfl ?_
            exact GoS.more (c_rest4_0 l Z a0 hw h h63 p0 p1 p2 p3 p4 c_1 c_2 c_3 c_4 b56 b_63 kb_63 cp wf hcp hwf hcw hch7 hch26 hch151 P1_0 P2_0 P3_0 P4_0 P1_1 P2_1 P3_1 P4_1 hc79 scp sfm (((A56.keep K58).keep K63)) F63_1 F63_0 F63_2 K65) (nl rfl) (nl rfl)
          ·
            refine GoS.icmpYes (pc' := 121) at_115 (XT.ii_ne_t hc79) (by decide) (by decide) ?_
            exact GoS.more (c_rest4_1 l Z a0 hw h h63 p0 p1 p2 p3 p4 c_1 c_2 c_3 c_4 b56 b_63 kb_63 cp wf hcp hwf hcw hch7 hch26 hch151 P1_0 P2_0 P3_0 P4_0 P1_1 P2_1 P3_1 P4_1 hc79 hc78 scp sfm (((A56.keep K58).keep K63)) F63_1 F63_0 F63_2 K65) (nl rfl) (nl rfl)
        ·
          refine GoS.icmpYes (pc' := 106) at_100 (XT.ii_ne_t hc78) (by decide) (by decide) ?_
          refine GoS.iload (pc' := 108) at_106 rfl rfl ?_
          refine GoS.ifNo (pc' := 111) at_108 (XT.i0_le_f (by decide)) rfl ?_
          refine GoS.iload (pc' := 113) at_111 rfl rfl ?_
          refine GoS.bipush (pc' := 115) (v := 124) at_113 rfl rfl ?_
          by_cases hc80 : c_1 = (124 : Int32)
          ·
            refine GoS.icmpNo (pc' := 118) at_115 (XT.ii_ne_f hc80) rfl ?_
            refine GoS.iconst (pc' := 119) (v := 0) at_118 rfl rfl ?_
            refine GoS.istore (pc' := 121) (Ls' := #[.val (.int p0), .val (.int p1), .val (.int p2), .val (.int p3), .val (.int p4), .val (.int 4), .val (.int c_1), .val (.int c_2), .val (.int c_3), .val (.int c_4), .val (.ref b56), .val (.int 0), .unset, .unset, .unset, .unset, .unset]) at_119 rfl rfl ?_
            exact GoS.more (c_rest4_0 l Z a0 hw h h63 p0 p1 p2 p3 p4 c_1 c_2 c_3 c_4 b56 b_63 kb_63 cp wf hcp hwf hcw hch7 hch26 hch151 P1_0 P2_0 P3_0 P4_0 P1_1 P2_1 P3_1 P4_1 hc80 scp sfm (((A56.keep K58).keep K63)) F63_1 F63_0 F63_2 K65) (nl rfl) (nl rfl)
          ·
            refine GoS.icmpYes (pc' := 121) at_115 (XT.ii_ne_t hc80) (by decide) (by decide) ?_
            exact GoS.more (c_rest4_m l Z a0 hw h h63 p0 p1 p2 p3 p4 c_1 c_2 c_3 c_4 b56 b_63 kb_63 cp wf hcp hwf hcw hch7 hch26 hch151 P1_0 P2_0 P3_0 P4_0 P1_1 P2_1 P3_1 P4_1 hc80 hc78 hc74 hc66 scp sfm (((A56.keep K58).keep K63)) F63_1 F63_0 F63_2 K65) (nl rfl) (nl rfl)
end Contracts
theorem comes_1 {Post : Tables → Env → Array Value → State → Outcome → State → Prop} (hpost : ∀ tb e args s v u, (limb_1_1.after args s (.returned v) u = true ∧ limb_1_2.after args s (.returned v) u = true ∧ True) → Jvm.D.FramedW s (.returned v) u (Jvm.fieldLocs frame_1_writes args s ++ Jvm.arrayLocs frame_1_arrays args s ++ Jvm.staticLocs frame_1_statics s) 32 3200 → Post tb e args s (.returned v) u) :
    ArmFor flags0 classFile x code maxLocals ret World_1 tables_1 room_1 Calls_1 rest_1 Pre_1 Post := by
  intro l hfl _ _ p e ha hc hk s m args below hf hA hF happ hP
  obtain ⟨hcalls, hrest, hpre⟩ := hP
  obtain ⟨-, -, -, hnamed, -, -, -, hat⟩ := (Spec.applies_iff hf).mp happ
  obtain ⟨hg, hn⟩ := and_e (Cond.before_iff.mp (show (Jvm.Cond.and given_1 narrow_1).before args s = true from hpre))
  obtain ⟨g1, g2⟩ := and_e hg
  obtain ⟨g3, g4⟩ := and_e g2
  obtain ⟨g5, g6⟩ := and_e g4
  obtain ⟨g7, g8⟩ := and_e g6
  obtain ⟨g9, g10⟩ := and_e g8
  obtain ⟨w0, w1, w2, w3, w4, rfl⟩ : ∃ w0 w1 w2 w3 w4 : Value, args = #[w0, w1, w2, w3, w4] := by
    have hs : args.size = 5 := by simpa [Cond.value, given_1] using g1
    obtain ⟨L⟩ := args
    match L, hs with
    | [w0, w1, w2, w3, w4], _ => exact ⟨w0, w1, w2, w3, w4, rfl⟩
  have hw := fun d (hd : d ∈ tables_1) => atoms_spec (ws := Jvm.Cond.code x code maxLocals ret :: tables_1) hat d (List.mem_cons_of_mem _ hd)
  have hfit : Fit s := fun {y c} hc i hi => by
    obtain ⟨ha, rfl⟩ := Array.getElem?_eq_some_iff.mp hc
    have q := List.all_eq_true.mp ((Array.all_eq_true_iff_forall_mem.mp hF) _ (Array.getElem_mem ha)) i (List.mem_range.mpr hi)
    simpa [Array.getElem?_eq_getElem hi] using q
  obtain ⟨hsets, hown0⟩ := atoms_of _ (rest_1_c_eq ▸ (show rest_1_c.before _ s = true from hrest))
  have hr0 := Cond.before_iff.mp hown0
  obtain ⟨i0, ei0⟩ := is_v g3
  obtain rfl : w0 = (.int i0) := Option.some.inj ei0
  obtain ⟨i1, ei1⟩ := is_v g5
  obtain rfl : w1 = (.int i1) := Option.some.inj ei1
  obtain ⟨i2, ei2⟩ := is_v g7
  obtain rfl : w2 = (.int i2) := Option.some.inj ei2
  obtain ⟨i3, ei3⟩ := is_v g9
  obtain rfl : w3 = (.int i3) := Option.some.inj ei3
  obtain ⟨i4, ei4⟩ := is_v g10
  obtain rfl : w4 = (.int i4) := Option.some.inj ei4
  obtain ⟨cp, ev_cp⟩ := is_v (Cond.before_iff.mp (hsets _ (List.mem_of_getElem? (i := 1) rfl)))
  have sta_cp := Sta.start ev_cp (Or.inl (hsets _ (List.mem_of_getElem? (i := 0) rfl)))
  have hcp : ¬ (cp = (0 : Int32)) := fun q => by
    have w := not_v (Cond.before_iff.mp (hsets _ (List.mem_of_getElem? (i := 2) rfl)))
    rw [eq_i ev_cp (Term.int_eval 0) (by rw [q])] at w
    cases w
  obtain ⟨wf, ev_wf, hwf⟩ := isR_v (Cond.before_iff.mp (hsets _ (List.mem_of_getElem? (i := 8) rfl)))
  have sta_wf := Sta.start ev_wf (Or.inl (hsets _ (List.mem_of_getElem? (i := 7) rfl)))
  have hcw : Jvm.Lit.compactW.before _ s = true := (hsets _ (List.mem_of_getElem? (i := 2) rfl))
  have hch26 : Jvm.Lit.constHeld s "com/example/inquire/inquire/io/WikiLink" 26 := fun c k cf j u a g1 g2 g3 g4 g5 g6 g7 g8 => hcalls.1 ("com/example/inquire/inquire/io/WikiLink", 26) (List.mem_of_getElem? (i := 0) rfl) c k cf j u a g1 g2 g3 g4 g5 g6 g7 g8
  have hch7 : Jvm.Lit.constHeld s "java/lang/String" 7 := fun c k cf j u a g1 g2 g3 g4 g5 g6 g7 g8 => hcalls.1 ("java/lang/String", 7) (List.mem_of_getElem? (i := 1) rfl) c k cf j u a g1 g2 g3 g4 g5 g6 g7 g8
  have hch151 : Jvm.Lit.constHeld s "java/lang/StringLatin1" 151 := fun c k cf j u a g1 g2 g3 g4 g5 g6 g7 g8 => hcalls.1 ("java/lang/StringLatin1", 151) (List.mem_of_getElem? (i := 2) rfl) c k cf j u a g1 g2 g3 g4 g5 g6 g7 g8
  obtain ⟨n, o, h1, h2, h3, _, L, _, rfl, ⟨hQ, -, N⟩, hq⟩ := c_law l s _ hw s.heap i0 i1 i2 i3 i4 cp wf hcp hwf hcw hch7 hch26 hch151 sta_cp sta_wf (Old.start s) tables_1 p e ha hc hk s m _ below hf ((Spec.applies_iff_loose hf).mp happ).1 ⟨rfl, State.Warmed39.refl s, rfl, IB4.start⟩ trivial
  obtain rfl := hQ.1
  refine ⟨n, _, h1, h2, h3, hpost _ _ _ _ _ _ ⟨Cond.after_iff.mpr rfl, Cond.after_iff.mpr (eq_i res_at (Term.int_eval (1)) rfl), trivial⟩ ⟨hq.1, hq.2.1, hq.2.2.1, (hq.2.2.2.sift fun y hy => Or.inr (N y hy)).mono (by decide) (by decide)⟩⟩
theorem main_1_1 : Claimed_1_1 := comes_1 fun _ _ _ _ _ _ h hF => ⟨h.1, hF⟩
theorem main_1_2 : Claimed_1_2 := comes_1 fun _ _ _ _ _ _ h hF => ⟨h.2.1, hF⟩

end Jvm.Pilot.@@N@@
namespace Jvm.Pilot.@@N@@
open Jvm Jvm.ClassFile Sem Op Lib Jvm.Free Jvm.Stand Jvm.Pilot.@@N@@.Jvm.D
/-! MADE BY PROGRAM (witnessworld.py) out of the Statement's table words and the real class files: 23 classes; the members and pool entries that the words name. The judged class is class 1, her method 4. -/
namespace start1
open Jvm.ClassFile
def u (s : String) : CpInfo := .utf8 (stringToUtf16 s)
/-- a pool by its gaps: so many unusable entries, then the entry; so many at the end -/
def gap : Nat → List CpInfo → List CpInfo
  | 0, r => r
  | n + 1, r => .unusable :: gap n r
def poolList (es : List (Nat × CpInfo)) (last : Nat) : List CpInfo := es.foldr (fun e r => gap e.1 (e.2 :: r)) (gap last [])
def pool (es : List (Nat × CpInfo)) (last : Nat) : Array CpInfo := ⟨poolList es last⟩
def fileOf (pool : Array CpInfo) (this : Nat) (attrs : Array Attribute := #[]) (ms : Array MethodInfo := #[]) (fl : Nat := 33) (sup : Nat := 0) (ifs : Array Nat := #[]) (fds : Array FieldInfo := #[]) : ClassFile where
  minorVersion := 0
  majorVersion := 65
  constantPool := pool
  accessFlags := fl
  thisClass := this
  superClass := sup
  interfaces := ifs
  fields := fds
  methods := ms
  attributes := attrs
def plain (name : String) (sup : Option ClassId) : Class where
  name := name
  kind := .ordinary
  loader := none
  accessFlags := 33
  super := sup
  interfaces := #[]
  cf := none
  fields := #[]
  methods := #[]
  instanceTypes := #[]
  staticTypes := #[]
  resolved := #[]
  callSites := []
  init := .initialized
  statics := none
  mirror := none

def pool0 : Array CpInfo := pool [(5, u "<init>"), (0, u "()V"), (1, .class_ 10), (1, u "java/lang/Object")] 113

def k0c0 : Code := { maxStack := 0, maxLocals := 1, code := object_method_1_code, exceptionTable := #[], attributes := #[] }
def k0m0 : Method := { name := "<init>", desc := "()V", sig := { parameters := [], returnType := none }, accessFlags := 1, code := some k0c0 }
/-- java/lang/Object -/
def k0 : Class := { plain "java/lang/Object" none with
  accessFlags := 33
  interfaces := #[]
  cf := some (fileOf pool0 8 #[] #[{ accessFlags := 1, nameIndex := 5, descriptorIndex := 6, attributes := #[] }] 33 0 #[] #[])
  fields := #[]
  methods := #[k0m0]
  instanceTypes := #[]
  staticTypes := #[]
  resolved := Array.replicate 124 none
  statics := none }

def pool1 : Array CpInfo := pool [(2, .class_ 4), (1, u "java/lang/Object"), (0, u "<init>"), (0, u "()V"), (0, .methodref 8 9), (0, .class_ 10), (0, .nameAndType 11 12), (0, u "java/lang/String"), (0, u "charAt"), (0, u "(I)C"), (0, .integer 2147483647), (0, .methodref 15 16), (0, .class_ 17), (0, .nameAndType 18 12), (0, u "com/example/inquire/inquire/io/WikiLinkParsePinLaw"), (0, u "ch"), (0, .methodref 15 20), (0, .nameAndType 21 22), (0, u "make"), (0, u "(ICCCC)[C"), (0, .methodref 8 24), (0, .nameAndType 5 25), (0, u "([C)V"), (0, .methodref 27 28), (0, .class_ 29), (0, .nameAndType 30 31), (0, u "com/example/inquire/inquire/io/WikiLink"), (0, u "parse"), (0, u "(Ljava/lang/String;)Lcom/example/inquire/inquire/io/WikiLink;"), (0, .methodref 27 33), (0, .nameAndType 34 35), (0, u "getTarget"), (0, u "()Ljava/lang/String;"), (0, .methodref 27 37), (0, .nameAndType 38 35), (0, u "getLabel"), (0, .methodref 8 40), (0, .nameAndType 41 42), (0, u "length"), (0, u "()I"), (0, .methodref 15 44), (0, .nameAndType 45 46), (0, u "at"), (0, u "(IIICLjava/lang/String;Ljava/lang/String;)Z"), (3, u "law"), (0, u "(IIIII)Z")] 2

def k1m0 : Method := { name := "<init>", desc := "()V", sig := { parameters := [], returnType := none }, accessFlags := 1, code := none }
def k1c1 : Code := { maxStack := 2, maxLocals := 1, code := method_2_code, exceptionTable := #[], attributes := #[] }
def k1m1 : Method := { name := "ch", desc := "(I)C", sig := { parameters := [.int], returnType := some .char }, accessFlags := 10, code := some k1c1 }
def k1c2 : Code := { maxStack := 4, maxLocals := 5, code := method_3_code, exceptionTable := #[], attributes := #[] }
def k1m2 : Method := { name := "make", desc := "(ICCCC)[C", sig := { parameters := [.int, .char, .char, .char, .char], returnType := some (.array .char) }, accessFlags := 10, code := some k1c2 }
def k1c3 : Code := { maxStack := 3, maxLocals := 6, code := method_4_code, exceptionTable := #[], attributes := #[] }
def k1m3 : Method := { name := "at", desc := "(IIICLjava/lang/String;Ljava/lang/String;)Z", sig := { parameters := [.int, .int, .int, .char, (.object "java/lang/String"), (.object "java/lang/String")], returnType := some .boolean }, accessFlags := 10, code := some k1c3 }
def k1c4 : Code := { maxStack := 7, maxLocals := 17, code := code, exceptionTable := #[], attributes := #[] }
def k1m4 : Method := { name := "law", desc := "(IIIII)Z", sig := { parameters := [.int, .int, .int, .int, .int], returnType := some .boolean }, accessFlags := 9, code := some k1c4 }
/-- com/example/inquire/inquire/io/WikiLinkParsePinLaw -/
def k1 : Class := { plain "com/example/inquire/inquire/io/WikiLinkParsePinLaw" (some 0) with
  accessFlags := 49
  interfaces := #[]
  cf := some (fileOf pool1 15 #[] #[{ accessFlags := 1, nameIndex := 5, descriptorIndex := 6, attributes := #[] }, { accessFlags := 10, nameIndex := 18, descriptorIndex := 12, attributes := #[] }, { accessFlags := 10, nameIndex := 21, descriptorIndex := 22, attributes := #[] }, { accessFlags := 10, nameIndex := 45, descriptorIndex := 46, attributes := #[] }, { accessFlags := 9, nameIndex := 50, descriptorIndex := 51, attributes := #[] }] 49 2 #[] #[])
  fields := #[]
  methods := #[k1m0, k1m1, k1m2, k1m3, k1m4]
  instanceTypes := #[]
  staticTypes := #[]
  resolved := Array.replicate 54 none
  statics := none }

def pool2 : Array CpInfo := pool [(1, .class_ 2), (0, u "java/io/Serializable"), (0, .class_ 4), (0, u "java/lang/Object")] 2

/-- java/io/Serializable -/
def k2 : Class := { plain "java/io/Serializable" (some 0) with
  accessFlags := 1537
  interfaces := #[]
  cf := some (fileOf pool2 1 #[] #[] 1537 3 #[] #[])
  fields := #[]
  methods := #[]
  instanceTypes := #[]
  staticTypes := #[]
  resolved := Array.replicate 7 none
  statics := none }

def pool3 : Array CpInfo := pool [(1, .class_ 2), (0, u "java/lang/Comparable"), (0, .class_ 4), (0, u "java/lang/Object")] 7

/-- java/lang/Comparable -/
def k3 : Class := { plain "java/lang/Comparable" (some 0) with
  accessFlags := 1537
  interfaces := #[]
  cf := some (fileOf pool3 1 #[] #[] 1537 3 #[] #[])
  fields := #[]
  methods := #[]
  instanceTypes := #[]
  staticTypes := #[]
  resolved := Array.replicate 12 none
  statics := none }

def pool4 : Array CpInfo := pool [(2, .class_ 4), (1, u "java/lang/CharSequence"), (42, .class_ 48), (0, u "java/lang/CharSequence$1CodePointIterator"), (10, .class_ 60), (0, u "java/lang/CharSequence$1CharIterator"), (5, .class_ 67), (0, u "java/lang/Object")] 63

/-- java/lang/CharSequence -/
def k4 : Class := { plain "java/lang/CharSequence" (some 0) with
  accessFlags := 1537
  interfaces := #[]
  cf := some (fileOf pool4 2 #[.nestMembers #[47, 59]] #[] 1537 66 #[] #[])
  fields := #[]
  methods := #[]
  instanceTypes := #[]
  staticTypes := #[]
  resolved := Array.replicate 131 none
  statics := none }

def pool5 : Array CpInfo := pool [(1, .class_ 2), (0, u "java/lang/constant/Constable"), (0, .class_ 4), (0, u "java/lang/Object")] 6

/-- java/lang/constant/Constable -/
def k5 : Class := { plain "java/lang/constant/Constable" (some 0) with
  accessFlags := 1537
  interfaces := #[]
  cf := some (fileOf pool5 1 #[] #[] 1537 3 #[] #[])
  fields := #[]
  methods := #[]
  instanceTypes := #[]
  staticTypes := #[]
  resolved := Array.replicate 11 none
  statics := none }

def pool6 : Array CpInfo := pool [(1, .class_ 2), (0, u "java/lang/constant/ConstantDesc"), (0, .class_ 4), (0, u "java/lang/Object")] 32

/-- java/lang/constant/ConstantDesc -/
def k6 : Class := { plain "java/lang/constant/ConstantDesc" (some 0) with
  accessFlags := 1537
  interfaces := #[]
  cf := some (fileOf pool6 1 #[] #[] 1537 3 #[] #[])
  fields := #[]
  methods := #[]
  instanceTypes := #[]
  staticTypes := #[]
  resolved := Array.replicate 37 none
  statics := none }

def pool7 : Array CpInfo := pool [(1, .methodref 2 3), (0, .class_ 4), (0, .nameAndType 5 6), (0, u "java/lang/Object"), (0, u "<init>"), (0, u "()V"), (0, .string 8), (0, u ""), (0, .fieldref 10 11), (0, .class_ 12), (0, .nameAndType 13 14), (0, u "java/lang/String"), (0, u "value"), (0, u "[B"), (0, .fieldref 10 16), (0, .nameAndType 17 18), (0, u "coder"), (0, u "B"), (2, u "hash"), (0, u "I"), (2, u "hashIsZero"), (0, u "Z"), (0, .methodref 10 28), (0, .nameAndType 5 29), (0, u "([CIILjava/lang/Void;)V"), (8, .fieldref 10 39), (0, .nameAndType 40 26), (0, u "COMPACT_STRINGS"), (1, .class_ 44), (1, u "java/lang/StringUTF16"), (0, u "compress"), (1, .methodref 42 48), (0, .nameAndType 49 50), (0, u "coderFromArrayLen"), (0, u "([BI)B"), (56, .class_ 109), (1, u "java/lang/StringLatin1"), (32, u "()Z"), (34, .methodref 42 178), (0, .nameAndType 45 179), (0, u "([CII)[B"), (31, u "([BB)V"), (122, u "()I"), (0, .methodref 10 336), (0, .nameAndType 17 337), (0, u "()B"), (25, u "([BI)C"), (27, u "(II)V"), (35, u "(I)C"), (64, .methodref 10 493), (0, .nameAndType 494 142), (0, u "isLatin1"), (0, .methodref 107 496), (0, .nameAndType 497 363), (0, u "charAt"), (3, u "checkIndex"), (3, .methodref 10 506), (0, .nameAndType 507 334), (0, u "length"), (5, u "checkFromToIndex"), (7, .methodref 10 522), (0, .nameAndType 523 524), (0, u "checkBoundsBeginEnd"), (0, u "(III)V"), (50, .class_ 576), (0, u "java/lang/CharSequence"), (22, u "CASE_INSENSITIVE_ORDER"), (0, u "Ljava/util/Comparator;"), (32, .methodref 10 634), (0, .nameAndType 635 636), (0, u "indexOf"), (0, u "(II)I"), (0, .methodref 107 638), (0, .nameAndType 635 639), (0, u "([BIII)I"), (41, .methodref 10 682), (0, .nameAndType 683 684), (0, u "substring"), (0, u "(II)Ljava/lang/String;"), (0, .methodref 107 686), (0, .nameAndType 687 688), (0, u "newString"), (0, u "([BII)Ljava/lang/String;"), (76, u "(I)I"), (126, u "(I)Ljava/lang/String;"), (117, u "([C)V"), (42, .fieldref 1054 1055), (0, .class_ 1056), (0, .nameAndType 1057 1058), (0, u "jdk/internal/util/Preconditions"), (0, u "SIOOBE_FORMATTER"), (0, u "Ljava/util/function/BiFunction;"), (0, .methodref 1054 1060), (0, .nameAndType 501 1061), (0, u "(IILjava/util/function/BiFunction;)I"), (0, .methodref 1054 1063), (0, .nameAndType 513 1064), (0, u "(IIILjava/util/function/BiFunction;)I"), (36, u "serialPersistentFields"), (0, u "[Ljava/io/ObjectStreamField;"), (0, .class_ 1104), (0, u "java/lang/String$CaseInsensitiveComparator"), (1, .class_ 1107), (0, u "java/io/Serializable"), (0, .class_ 1109), (0, u "java/lang/Comparable"), (0, .class_ 1111), (0, u "java/lang/constant/Constable"), (0, .class_ 1113), (0, u "java/lang/constant/ConstantDesc"), (2, u "serialVersionUID"), (0, u "J"), (3, u "REPL"), (0, u "C"), (2, u "LATIN1"), (1, u "UTF16")] 323

def k7m0 : Method := { name := "<init>", desc := "()V", sig := { parameters := [], returnType := none }, accessFlags := 1, code := none }
def k7c1 : Code := { maxStack := 5, maxLocals := 2, code := jdk_42_method_3_code, exceptionTable := #[], attributes := #[] }
def k7m1 : Method := { name := "<init>", desc := "([C)V", sig := { parameters := [(.array .char)], returnType := none }, accessFlags := 1, code := some k7c1 }
def k7c2 : Code := { maxStack := 2, maxLocals := 1, code := jdk_42_method_54_code, exceptionTable := #[], attributes := #[] }
def k7m2 : Method := { name := "length", desc := "()I", sig := { parameters := [], returnType := some .int }, accessFlags := 1, code := some k7c2 }
def k7c3 : Code := { maxStack := 2, maxLocals := 2, code := jdk_42_method_56_code, exceptionTable := #[], attributes := #[] }
def k7m3 : Method := { name := "charAt", desc := "(I)C", sig := { parameters := [.int], returnType := some .char }, accessFlags := 1, code := some k7c3 }
def k7c4 : Code := { maxStack := 3, maxLocals := 2, code := jdk_42_method_79_code, exceptionTable := #[], attributes := #[] }
def k7m4 : Method := { name := "indexOf", desc := "(I)I", sig := { parameters := [.int], returnType := some .int }, accessFlags := 1, code := some k7c4 }
def k7c5 : Code := { maxStack := 4, maxLocals := 3, code := jdk_42_method_80_code, exceptionTable := #[], attributes := #[] }
def k7m5 : Method := { name := "indexOf", desc := "(II)I", sig := { parameters := [.int, .int], returnType := some .int }, accessFlags := 1, code := some k7c5 }
def k7c6 : Code := { maxStack := 3, maxLocals := 2, code := jdk_42_method_91_code, exceptionTable := #[], attributes := #[] }
def k7m6 : Method := { name := "substring", desc := "(I)Ljava/lang/String;", sig := { parameters := [.int], returnType := some (.object "java/lang/String") }, accessFlags := 1, code := some k7c6 }
def k7c7 : Code := { maxStack := 3, maxLocals := 5, code := jdk_42_method_92_code, exceptionTable := #[], attributes := #[] }
def k7m7 : Method := { name := "substring", desc := "(II)Ljava/lang/String;", sig := { parameters := [.int, .int], returnType := some (.object "java/lang/String") }, accessFlags := 1, code := some k7c7 }
def k7c8 : Code := { maxStack := 4, maxLocals := 6, code := jdk_42_method_149_code, exceptionTable := #[], attributes := #[] }
def k7m8 : Method := { name := "<init>", desc := "([CIILjava/lang/Void;)V", sig := { parameters := [(.array .char), .int, .int, (.object "java/lang/Void")], returnType := none }, accessFlags := 2, code := some k7c8 }
def k7c9 : Code := { maxStack := 2, maxLocals := 3, code := jdk_42_method_151_code, exceptionTable := #[], attributes := #[] }
def k7m9 : Method := { name := "<init>", desc := "([BB)V", sig := { parameters := [(.array .byte), .byte], returnType := none }, accessFlags := 0, code := some k7c9 }
def k7c10 : Code := { maxStack := 1, maxLocals := 1, code := jdk_42_method_152_code, exceptionTable := #[], attributes := #[] }
def k7m10 : Method := { name := "coder", desc := "()B", sig := { parameters := [], returnType := some .byte }, accessFlags := 0, code := some k7c10 }
def k7c11 : Code := { maxStack := 1, maxLocals := 1, code := jdk_42_method_154_code, exceptionTable := #[], attributes := #[] }
def k7m11 : Method := { name := "isLatin1", desc := "()Z", sig := { parameters := [], returnType := some .boolean }, accessFlags := 0, code := some k7c11 }
def k7c12 : Code := { maxStack := 3, maxLocals := 2, code := jdk_42_method_155_code, exceptionTable := #[], attributes := #[] }
def k7m12 : Method := { name := "checkIndex", desc := "(II)V", sig := { parameters := [.int, .int], returnType := none }, accessFlags := 8, code := some k7c12 }
def k7c13 : Code := { maxStack := 4, maxLocals := 3, code := jdk_42_method_158_code, exceptionTable := #[], attributes := #[] }
def k7m13 : Method := { name := "checkBoundsBeginEnd", desc := "(III)V", sig := { parameters := [.int, .int, .int], returnType := none }, accessFlags := 8, code := some k7c13 }
/-- java/lang/String -/
def k7 : Class := { plain "java/lang/String" (some 0) with
  accessFlags := 49
  interfaces := #[2, 3, 4, 5, 6]
  cf := some (fileOf pool7 10 #[.nestMembers #[1103]] #[{ accessFlags := 1, nameIndex := 5, descriptorIndex := 6, attributes := #[] }, { accessFlags := 1, nameIndex := 5, descriptorIndex := 1010, attributes := #[] }, { accessFlags := 1, nameIndex := 507, descriptorIndex := 334, attributes := #[] }, { accessFlags := 1, nameIndex := 497, descriptorIndex := 427, attributes := #[] }, { accessFlags := 1, nameIndex := 635, descriptorIndex := 765, attributes := #[] }, { accessFlags := 1, nameIndex := 635, descriptorIndex := 636, attributes := #[] }, { accessFlags := 1, nameIndex := 683, descriptorIndex := 892, attributes := #[] }, { accessFlags := 1, nameIndex := 683, descriptorIndex := 684, attributes := #[] }, { accessFlags := 2, nameIndex := 5, descriptorIndex := 29, attributes := #[] }, { accessFlags := 0, nameIndex := 5, descriptorIndex := 211, attributes := #[] }, { accessFlags := 0, nameIndex := 17, descriptorIndex := 337, attributes := #[] }, { accessFlags := 0, nameIndex := 494, descriptorIndex := 142, attributes := #[] }, { accessFlags := 8, nameIndex := 501, descriptorIndex := 391, attributes := #[] }, { accessFlags := 8, nameIndex := 523, descriptorIndex := 524, attributes := #[] }] 49 2 #[1106, 1108, 575, 1110, 1112] #[{ accessFlags := 18, nameIndex := 13, descriptorIndex := 14, attributes := #[] }, { accessFlags := 18, nameIndex := 17, descriptorIndex := 18, attributes := #[] }, { accessFlags := 2, nameIndex := 21, descriptorIndex := 22, attributes := #[] }, { accessFlags := 2, nameIndex := 25, descriptorIndex := 26, attributes := #[] }, { accessFlags := 26, nameIndex := 1116, descriptorIndex := 1117, attributes := #[] }, { accessFlags := 24, nameIndex := 40, descriptorIndex := 26, attributes := #[] }, { accessFlags := 26, nameIndex := 1101, descriptorIndex := 1102, attributes := #[] }, { accessFlags := 26, nameIndex := 1121, descriptorIndex := 1122, attributes := #[] }, { accessFlags := 25, nameIndex := 599, descriptorIndex := 600, attributes := #[] }, { accessFlags := 24, nameIndex := 1125, descriptorIndex := 18, attributes := #[] }, { accessFlags := 24, nameIndex := 1127, descriptorIndex := 18, attributes := #[] }])
  fields := #[{ name := "value", type := (.array .byte), accessFlags := 18, slot := 0, constantValue := 0 }, { name := "coder", type := .byte, accessFlags := 18, slot := 1, constantValue := 0 }, { name := "hash", type := .int, accessFlags := 2, slot := 2, constantValue := 0 }, { name := "hashIsZero", type := .boolean, accessFlags := 2, slot := 3, constantValue := 0 }, { name := "serialVersionUID", type := .long, accessFlags := 26, slot := 0, constantValue := 0 }, { name := "COMPACT_STRINGS", type := .boolean, accessFlags := 24, slot := 1, constantValue := 0 }, { name := "serialPersistentFields", type := (.array (.object "java/io/ObjectStreamField")), accessFlags := 26, slot := 2, constantValue := 0 }, { name := "REPL", type := .char, accessFlags := 26, slot := 3, constantValue := 0 }, { name := "CASE_INSENSITIVE_ORDER", type := (.object "java/util/Comparator"), accessFlags := 25, slot := 4, constantValue := 0 }, { name := "LATIN1", type := .byte, accessFlags := 24, slot := 5, constantValue := 0 }, { name := "UTF16", type := .byte, accessFlags := 24, slot := 6, constantValue := 0 }]
  methods := #[k7m0, k7m1, k7m2, k7m3, k7m4, k7m5, k7m6, k7m7, k7m8, k7m9, k7m10, k7m11, k7m12, k7m13]
  instanceTypes := #[(.array .byte), .byte, .int, .boolean]
  staticTypes := #[.long, .boolean, (.array (.object "java/io/ObjectStreamField")), .char, (.object "java/util/Comparator"), .byte, .byte]
  resolved := Array.replicate 1451 none
  statics := some 0 }

def pool8 : Array CpInfo := pool [(1, .methodref 2 3), (0, .class_ 4), (0, .nameAndType 5 6), (0, u "java/lang/Object"), (0, u "<init>"), (0, u "()V"), (0, .fieldref 8 9), (0, .class_ 10), (0, .nameAndType 11 12), (0, u "com/example/inquire/inquire/io/WikiLink"), (0, u "target"), (0, u "Ljava/lang/String;"), (0, .fieldref 8 14), (0, .nameAndType 15 12), (0, u "label"), (0, .methodref 17 18), (0, .class_ 19), (0, .nameAndType 20 21), (0, u "java/lang/String"), (0, u "indexOf"), (0, u "(I)I"), (0, .methodref 17 23), (0, .nameAndType 24 25), (0, u "substring"), (0, u "(II)Ljava/lang/String;"), (0, .string 27), (0, u ""), (0, .methodref 17 29), (0, .nameAndType 24 30), (0, u "(I)Ljava/lang/String;"), (0, .methodref 8 32), (0, .nameAndType 5 33), (0, u "(Ljava/lang/String;Ljava/lang/String;)V"), (2, u "NON_TEXT_NAMESPACES"), (0, u "Ljava/util/Set;"), (3, u "()Ljava/lang/String;"), (70, u "CATEGORY"), (3, u "parse"), (0, u "(Ljava/lang/String;)Lcom/example/inquire/inquire/io/WikiLink;"), (1, u "getTarget"), (0, u "getLabel")] 22

def k8c0 : Code := { maxStack := 2, maxLocals := 3, code := prog_40_method_1_code, exceptionTable := #[], attributes := #[] }
def k8m0 : Method := { name := "<init>", desc := "(Ljava/lang/String;Ljava/lang/String;)V", sig := { parameters := [(.object "java/lang/String"), (.object "java/lang/String")], returnType := none }, accessFlags := 2, code := some k8c0 }
def k8c1 : Code := { maxStack := 4, maxLocals := 4, code := prog_40_method_2_code, exceptionTable := #[], attributes := #[] }
def k8m1 : Method := { name := "parse", desc := "(Ljava/lang/String;)Lcom/example/inquire/inquire/io/WikiLink;", sig := { parameters := [(.object "java/lang/String")], returnType := some (.object "com/example/inquire/inquire/io/WikiLink") }, accessFlags := 9, code := some k8c1 }
def k8c2 : Code := { maxStack := 1, maxLocals := 1, code := prog_40_method_3_code, exceptionTable := #[], attributes := #[] }
def k8m2 : Method := { name := "getTarget", desc := "()Ljava/lang/String;", sig := { parameters := [], returnType := some (.object "java/lang/String") }, accessFlags := 1, code := some k8c2 }
def k8c3 : Code := { maxStack := 1, maxLocals := 1, code := prog_40_method_4_code, exceptionTable := #[], attributes := #[] }
def k8m3 : Method := { name := "getLabel", desc := "()Ljava/lang/String;", sig := { parameters := [], returnType := some (.object "java/lang/String") }, accessFlags := 1, code := some k8c3 }
/-- com/example/inquire/inquire/io/WikiLink -/
def k8 : Class := { plain "com/example/inquire/inquire/io/WikiLink" (some 0) with
  accessFlags := 49
  interfaces := #[]
  cf := some (fileOf pool8 8 #[] #[{ accessFlags := 2, nameIndex := 5, descriptorIndex := 33, attributes := #[] }, { accessFlags := 9, nameIndex := 116, descriptorIndex := 117, attributes := #[] }, { accessFlags := 1, nameIndex := 119, descriptorIndex := 41, attributes := #[] }, { accessFlags := 1, nameIndex := 120, descriptorIndex := 41, attributes := #[] }] 49 2 #[] #[{ accessFlags := 26, nameIndex := 36, descriptorIndex := 37, attributes := #[] }, { accessFlags := 26, nameIndex := 112, descriptorIndex := 12, attributes := #[] }, { accessFlags := 18, nameIndex := 11, descriptorIndex := 12, attributes := #[] }, { accessFlags := 18, nameIndex := 15, descriptorIndex := 12, attributes := #[] }])
  fields := #[{ name := "NON_TEXT_NAMESPACES", type := (.object "java/util/Set"), accessFlags := 26, slot := 0, constantValue := 0 }, { name := "CATEGORY", type := (.object "java/lang/String"), accessFlags := 26, slot := 1, constantValue := 0 }, { name := "target", type := (.object "java/lang/String"), accessFlags := 18, slot := 0, constantValue := 0 }, { name := "label", type := (.object "java/lang/String"), accessFlags := 18, slot := 1, constantValue := 0 }]
  methods := #[k8m0, k8m1, k8m2, k8m3]
  instanceTypes := #[(.object "java/lang/String"), (.object "java/lang/String")]
  staticTypes := #[(.object "java/util/Set"), (.object "java/lang/String")]
  resolved := Array.replicate 143 none
  statics := none }

def pool9 : Array CpInfo := pool [(1, .class_ 2), (0, u "java/lang/String"), (1, .class_ 6), (1, u "java/lang/Object"), (0, u "<init>"), (0, u "()V"), (0, .methodref 1 10), (0, .nameAndType 11 12), (0, u "checkIndex"), (0, u "(II)V"), (1, .class_ 16), (1, u "java/lang/StringLatin1"), (21, .methodref 39 40), (0, .class_ 41), (0, .nameAndType 42 43), (0, u "java/lang/Math"), (0, u "min"), (0, u "(II)I"), (9, u "([BI)C"), (34, .methodref 14 89), (0, .nameAndType 90 91), (0, u "canEncode"), (0, u "(I)Z"), (0, .methodref 39 93), (0, .nameAndType 94 43), (0, u "max"), (0, .methodref 14 96), (0, .nameAndType 97 98), (0, u "indexOfChar"), (0, u "([BIII)I"), (2, u "indexOf"), (10, .methodref 1 113), (0, .nameAndType 7 114), (0, u "([BB)V"), (6, u "$assertionsDisabled"), (0, u "Z"), (8, .class_ 133), (1, u "java/util/Arrays"), (17, .string 152), (0, u ""), (43, u "newString"), (0, u "([BII)Ljava/lang/String;"), (23, .class_ 223), (1, u "java/lang/StringLatin1$LinesSpliterator"), (8, .methodref 131 233), (0, .nameAndType 234 235), (0, u "copyOfRange"), (0, u "([BII)[B"), (16, u "charAt"), (137, .class_ 391), (0, u "java/lang/StringLatin1$CharsSpliterator")] 3

def k9m0 : Method := { name := "<init>", desc := "()V", sig := { parameters := [], returnType := none }, accessFlags := 0, code := none }
def k9c1 : Code := { maxStack := 2, maxLocals := 2, code := jdk_43_method_2_code, exceptionTable := #[], attributes := #[] }
def k9m1 : Method := { name := "charAt", desc := "([BI)C", sig := { parameters := [(.array .byte), .int], returnType := some .char }, accessFlags := 9, code := some k9c1 }
def k9c2 : Code := { maxStack := 2, maxLocals := 1, code := jdk_43_method_4_code, exceptionTable := #[], attributes := #[] }
def k9m2 : Method := { name := "canEncode", desc := "(I)Z", sig := { parameters := [.int], returnType := some .boolean }, accessFlags := 9, code := some k9c2 }
def k9c3 : Code := { maxStack := 4, maxLocals := 4, code := jdk_43_method_22_code, exceptionTable := #[], attributes := #[] }
def k9m3 : Method := { name := "indexOf", desc := "([BIII)I", sig := { parameters := [(.array .byte), .int, .int, .int], returnType := some .int }, accessFlags := 9, code := some k9c3 }
def k9c4 : Code := { maxStack := 2, maxLocals := 6, code := jdk_43_method_23_code, exceptionTable := #[], attributes := #[] }
def k9m4 : Method := { name := "indexOfChar", desc := "([BIII)I", sig := { parameters := [(.array .byte), .int, .int, .int], returnType := some .int }, accessFlags := 10, code := some k9c4 }
def k9c5 : Code := { maxStack := 6, maxLocals := 3, code := jdk_43_method_47_code, exceptionTable := #[], attributes := #[] }
def k9m5 : Method := { name := "newString", desc := "([BII)Ljava/lang/String;", sig := { parameters := [(.array .byte), .int, .int], returnType := some (.object "java/lang/String") }, accessFlags := 9, code := some k9c5 }
/-- java/lang/StringLatin1 -/
def k9 : Class := { plain "java/lang/StringLatin1" (some 0) with
  accessFlags := 48
  interfaces := #[]
  cf := some (fileOf pool9 14 #[.nestMembers #[390, 221]] #[{ accessFlags := 0, nameIndex := 7, descriptorIndex := 8, attributes := #[] }, { accessFlags := 9, nameIndex := 252, descriptorIndex := 53, attributes := #[] }, { accessFlags := 9, nameIndex := 90, descriptorIndex := 91, attributes := #[] }, { accessFlags := 9, nameIndex := 101, descriptorIndex := 98, attributes := #[] }, { accessFlags := 10, nameIndex := 97, descriptorIndex := 98, attributes := #[] }, { accessFlags := 9, nameIndex := 196, descriptorIndex := 197, attributes := #[] }] 48 4 #[] #[{ accessFlags := 4120, nameIndex := 121, descriptorIndex := 122, attributes := #[] }])
  fields := #[{ name := "$assertionsDisabled", type := .boolean, accessFlags := 4120, slot := 0, constantValue := 0 }]
  methods := #[k9m0, k9m1, k9m2, k9m3, k9m4, k9m5]
  instanceTypes := #[]
  staticTypes := #[.boolean]
  resolved := Array.replicate 395 none
  statics := none }

def pool10 : Array CpInfo := pool [(1, .class_ 2), (0, u "java/lang/Math"), (1, .class_ 6), (1, u "java/lang/Object"), (0, u "<init>"), (0, u "()V"), (89, .class_ 100), (1, u "java/lang/Math$RandomNumberGeneratorHolder"), (71, u "negativeZeroFloatBits"), (0, u "J"), (2, u "negativeZeroDoubleBits"), (21, u "max"), (2, u "min"), (43, u "$assertionsDisabled"), (0, u "Z"), (88, u "(II)I"), (2, u "twoToTheDoubleScaleDown"), (0, u "D"), (4, u "twoToTheDoubleScaleUp"), (9, u "E"), (3, u "PI"), (2, u "TAU"), (2, u "DEGREES_TO_RADIANS"), (0, u "RADIANS_TO_DEGREES")] 94

def k10m0 : Method := { name := "<init>", desc := "()V", sig := { parameters := [], returnType := none }, accessFlags := 2, code := none }
def k10c1 : Code := { maxStack := 2, maxLocals := 2, code := jdk_29_method_65_code, exceptionTable := #[], attributes := #[] }
def k10m1 : Method := { name := "max", desc := "(II)I", sig := { parameters := [.int, .int], returnType := some .int }, accessFlags := 9, code := some k10c1 }
def k10c2 : Code := { maxStack := 2, maxLocals := 2, code := jdk_29_method_69_code, exceptionTable := #[], attributes := #[] }
def k10m2 : Method := { name := "min", desc := "(II)I", sig := { parameters := [.int, .int], returnType := some .int }, accessFlags := 9, code := some k10c2 }
/-- java/lang/Math -/
def k10 : Class := { plain "java/lang/Math" (some 0) with
  accessFlags := 49
  interfaces := #[]
  cf := some (fileOf pool10 1 #[.nestMembers #[98]] #[{ accessFlags := 2, nameIndex := 7, descriptorIndex := 8, attributes := #[] }, { accessFlags := 9, nameIndex := 198, descriptorIndex := 335, attributes := #[] }, { accessFlags := 9, nameIndex := 201, descriptorIndex := 335, attributes := #[] }] 49 4 #[] #[{ accessFlags := 25, nameIndex := 354, descriptorIndex := 339, attributes := #[] }, { accessFlags := 25, nameIndex := 358, descriptorIndex := 339, attributes := #[] }, { accessFlags := 25, nameIndex := 361, descriptorIndex := 339, attributes := #[] }, { accessFlags := 26, nameIndex := 364, descriptorIndex := 339, attributes := #[] }, { accessFlags := 26, nameIndex := 365, descriptorIndex := 339, attributes := #[] }, { accessFlags := 26, nameIndex := 172, descriptorIndex := 173, attributes := #[] }, { accessFlags := 26, nameIndex := 176, descriptorIndex := 173, attributes := #[] }, { accessFlags := 8, nameIndex := 344, descriptorIndex := 339, attributes := #[] }, { accessFlags := 8, nameIndex := 338, descriptorIndex := 339, attributes := #[] }, { accessFlags := 4120, nameIndex := 245, descriptorIndex := 246, attributes := #[] }])
  fields := #[{ name := "E", type := .double, accessFlags := 25, slot := 0, constantValue := 0 }, { name := "PI", type := .double, accessFlags := 25, slot := 1, constantValue := 0 }, { name := "TAU", type := .double, accessFlags := 25, slot := 2, constantValue := 0 }, { name := "DEGREES_TO_RADIANS", type := .double, accessFlags := 26, slot := 3, constantValue := 0 }, { name := "RADIANS_TO_DEGREES", type := .double, accessFlags := 26, slot := 4, constantValue := 0 }, { name := "negativeZeroFloatBits", type := .long, accessFlags := 26, slot := 5, constantValue := 0 }, { name := "negativeZeroDoubleBits", type := .long, accessFlags := 26, slot := 6, constantValue := 0 }, { name := "twoToTheDoubleScaleUp", type := .double, accessFlags := 8, slot := 7, constantValue := 0 }, { name := "twoToTheDoubleScaleDown", type := .double, accessFlags := 8, slot := 8, constantValue := 0 }, { name := "$assertionsDisabled", type := .boolean, accessFlags := 4120, slot := 9, constantValue := 0 }]
  methods := #[k10m0, k10m1, k10m2]
  instanceTypes := #[]
  staticTypes := #[.double, .double, .double, .double, .double, .long, .long, .double, .double, .boolean]
  resolved := Array.replicate 460 none
  statics := none }

def pool11 : Array CpInfo := pool [(6, .class_ 8), (1, u "java/lang/Object"), (0, u "<init>"), (0, u "()V"), (1, .class_ 14), (1, u "java/lang/StringUTF16"), (31, u "$assertionsDisabled"), (0, u "Z"), (13, u "HI_BYTE_SHIFT"), (0, u "I"), (2, u "LO_BYTE_SHIFT"), (49, .methodref 12 116), (0, .nameAndType 117 118), (0, u "compress"), (0, u "([CI[BII)I"), (3, u "([CII)[B"), (138, u "coderFromArrayLen"), (0, u "([BI)B"), (106, .class_ 371), (1, u "java/lang/StringUTF16$LinesSpliterator"), (58, u "MAX_LENGTH"), (196, .class_ 628), (0, u "java/lang/StringUTF16$CodePointsSpliterator"), (0, .class_ 630), (0, u "java/lang/StringUTF16$CharsSpliterator")] 4

def k11m0 : Method := { name := "<init>", desc := "()V", sig := { parameters := [], returnType := none }, accessFlags := 0, code := none }
def k11c1 : Code := { maxStack := 2, maxLocals := 2, code := jdk_52_method_15_code, exceptionTable := #[], attributes := #[] }
def k11m1 : Method := { name := "coderFromArrayLen", desc := "([BI)B", sig := { parameters := [(.array .byte), .int], returnType := some .byte }, accessFlags := 8, code := some k11c1 }
def k11c2 : Code := { maxStack := 5, maxLocals := 6, code := jdk_52_method_16_code, exceptionTable := #[], attributes := #[] }
def k11m2 : Method := { name := "compress", desc := "([CII)[B", sig := { parameters := [(.array .char), .int, .int], returnType := some (.array .byte) }, accessFlags := 9, code := some k11c2 }
def k11c3 : Code := { maxStack := 3, maxLocals := 7, code := jdk_52_method_21_code, exceptionTable := #[], attributes := #[] }
def k11m3 : Method := { name := "compress", desc := "([CI[BII)I", sig := { parameters := [(.array .char), .int, (.array .byte), .int, .int], returnType := some .int }, accessFlags := 9, code := some k11c3 }
/-- java/lang/StringUTF16 -/
def k11 : Class := { plain "java/lang/StringUTF16" (some 0) with
  accessFlags := 48
  interfaces := #[]
  cf := some (fileOf pool11 12 #[.nestMembers #[627, 629, 369]] #[{ accessFlags := 0, nameIndex := 9, descriptorIndex := 10, attributes := #[] }, { accessFlags := 8, nameIndex := 261, descriptorIndex := 262, attributes := #[] }, { accessFlags := 9, nameIndex := 117, descriptorIndex := 122, attributes := #[] }, { accessFlags := 9, nameIndex := 117, descriptorIndex := 118, attributes := #[] }] 48 6 #[] #[{ accessFlags := 26, nameIndex := 61, descriptorIndex := 62, attributes := #[] }, { accessFlags := 26, nameIndex := 65, descriptorIndex := 62, attributes := #[] }, { accessFlags := 24, nameIndex := 430, descriptorIndex := 62, attributes := #[] }, { accessFlags := 4120, nameIndex := 46, descriptorIndex := 47, attributes := #[] }])
  fields := #[{ name := "HI_BYTE_SHIFT", type := .int, accessFlags := 26, slot := 0, constantValue := 0 }, { name := "LO_BYTE_SHIFT", type := .int, accessFlags := 26, slot := 1, constantValue := 0 }, { name := "MAX_LENGTH", type := .int, accessFlags := 24, slot := 2, constantValue := 0 }, { name := "$assertionsDisabled", type := .boolean, accessFlags := 4120, slot := 3, constantValue := 0 }]
  methods := #[k11m0, k11m1, k11m2, k11m3]
  instanceTypes := #[]
  staticTypes := #[.int, .int, .int, .boolean]
  resolved := Array.replicate 635 none
  statics := none }

def pool12 : Array CpInfo := pool [(2, .class_ 4), (1, u "java/lang/Object"), (0, u "<init>"), (0, u "()V"), (17, .class_ 26), (1, u "jdk/internal/util/Preconditions"), (6, u "checkIndex"), (13, u "checkFromToIndex"), (7, .class_ 56), (0, u "jdk/internal/util/Preconditions$4"), (57, .class_ 115), (0, u "jdk/internal/util/Preconditions$1"), (7, u "SIOOBE_FORMATTER"), (0, u "Ljava/util/function/BiFunction;"), (0, .class_ 126), (0, u "jdk/internal/util/Preconditions$2"), (3, u "AIOOBE_FORMATTER"), (0, .class_ 132), (0, u "jdk/internal/util/Preconditions$3"), (3, u "IOOBE_FORMATTER"), (41, u "(IILjava/util/function/BiFunction;)I"), (4, u "(IIILjava/util/function/BiFunction;)I")] 10

def k12m0 : Method := { name := "<init>", desc := "()V", sig := { parameters := [], returnType := none }, accessFlags := 1, code := none }
def k12c1 : Code := { maxStack := 3, maxLocals := 3, code := jdk_41_method_11_code, exceptionTable := #[], attributes := #[] }
def k12m1 : Method := { name := "checkIndex", desc := "(IILjava/util/function/BiFunction;)I", sig := { parameters := [.int, .int, (.object "java/util/function/BiFunction")], returnType := some .int }, accessFlags := 9, code := some k12c1 }
def k12c2 : Code := { maxStack := 4, maxLocals := 4, code := jdk_41_method_12_code, exceptionTable := #[], attributes := #[] }
def k12m2 : Method := { name := "checkFromToIndex", desc := "(IIILjava/util/function/BiFunction;)I", sig := { parameters := [.int, .int, .int, (.object "java/util/function/BiFunction")], returnType := some .int }, accessFlags := 9, code := some k12c2 }
/-- jdk/internal/util/Preconditions -/
def k12 : Class := { plain "jdk/internal/util/Preconditions" (some 0) with
  accessFlags := 33
  interfaces := #[]
  cf := some (fileOf pool12 24 #[.nestMembers #[55, 131, 125, 114]] #[{ accessFlags := 1, nameIndex := 5, descriptorIndex := 6, attributes := #[] }, { accessFlags := 9, nameIndex := 33, descriptorIndex := 178, attributes := #[] }, { accessFlags := 9, nameIndex := 47, descriptorIndex := 183, attributes := #[] }] 33 2 #[] #[{ accessFlags := 25, nameIndex := 123, descriptorIndex := 124, attributes := #[] }, { accessFlags := 25, nameIndex := 130, descriptorIndex := 124, attributes := #[] }, { accessFlags := 25, nameIndex := 136, descriptorIndex := 124, attributes := #[] }])
  fields := #[{ name := "SIOOBE_FORMATTER", type := (.object "java/util/function/BiFunction"), accessFlags := 25, slot := 0, constantValue := 0 }, { name := "AIOOBE_FORMATTER", type := (.object "java/util/function/BiFunction"), accessFlags := 25, slot := 1, constantValue := 0 }, { name := "IOOBE_FORMATTER", type := (.object "java/util/function/BiFunction"), accessFlags := 25, slot := 2, constantValue := 0 }]
  methods := #[k12m0, k12m1, k12m2]
  instanceTypes := #[]
  staticTypes := #[(.object "java/util/function/BiFunction"), (.object "java/util/function/BiFunction"), (.object "java/util/function/BiFunction")]
  resolved := Array.replicate 194 none
  statics := some 1 }

def pool13 : Array CpInfo := pool [(2, .class_ 4), (1, u "java/lang/Object"), (0, u "<init>"), (0, u "()V"), (7, .class_ 16), (1, u "java/util/Arrays"), (57, .class_ 76), (1, u "java/util/Arrays$NaturalOrder"), (36, .class_ 115), (1, u "java/util/Arrays$LegacyMergeSort"), (1, u "Z"), (21, u "copyOfRange"), (10, .methodref 151 152), (0, .class_ 153), (0, .nameAndType 154 155), (0, u "java/lang/System"), (0, u "arraycopy"), (0, u "(Ljava/lang/Object;ILjava/lang/Object;II)V"), (148, .methodref 305 306), (0, .class_ 307), (0, .nameAndType 308 309), (0, u "java/lang/Math"), (0, u "min"), (0, u "(II)I"), (29, .methodref 14 340), (0, .nameAndType 341 342), (0, u "copyOfRangeByte"), (0, u "([BII)[B"), (0, .methodref 14 344), (0, .nameAndType 345 346), (0, u "checkLength"), (0, u "(II)V"), (28, .class_ 376), (0, u "java/util/Arrays$ArrayList"), (68, u "$assertionsDisabled"), (269, u "MIN_ARRAY_SORT_GRAN"), (0, u "I"), (2, u "INSERTIONSORT_THRESHOLD"), (255, .class_ 976), (0, u "java/util/Arrays$ArrayItr")] 52

def k13m0 : Method := { name := "<init>", desc := "()V", sig := { parameters := [], returnType := none }, accessFlags := 2, code := none }
def k13c1 : Code := { maxStack := 4, maxLocals := 2, code := jdk_65_method_131_code, exceptionTable := #[], attributes := #[] }
def k13m1 : Method := { name := "checkLength", desc := "(II)V", sig := { parameters := [.int, .int], returnType := none }, accessFlags := 10, code := some k13c1 }
def k13c2 : Code := { maxStack := 3, maxLocals := 3, code := jdk_65_method_132_code, exceptionTable := #[], attributes := #[] }
def k13m2 : Method := { name := "copyOfRange", desc := "([BII)[B", sig := { parameters := [(.array .byte), .int, .int], returnType := some (.array .byte) }, accessFlags := 9, code := some k13c2 }
def k13c3 : Code := { maxStack := 6, maxLocals := 5, code := jdk_65_method_133_code, exceptionTable := #[], attributes := #[] }
def k13m3 : Method := { name := "copyOfRangeByte", desc := "([BII)[B", sig := { parameters := [(.array .byte), .int, .int], returnType := some (.array .byte) }, accessFlags := 10, code := some k13c3 }
/-- java/util/Arrays -/
def k13 : Class := { plain "java/util/Arrays" (some 0) with
  accessFlags := 49
  interfaces := #[]
  cf := some (fileOf pool13 14 #[.nestMembers #[975, 375, 113, 74]] #[{ accessFlags := 2, nameIndex := 5, descriptorIndex := 6, attributes := #[] }, { accessFlags := 10, nameIndex := 345, descriptorIndex := 346, attributes := #[] }, { accessFlags := 9, nameIndex := 139, descriptorIndex := 342, attributes := #[] }, { accessFlags := 10, nameIndex := 341, descriptorIndex := 342, attributes := #[] }] 49 2 #[] #[{ accessFlags := 26, nameIndex := 715, descriptorIndex := 716, attributes := #[] }, { accessFlags := 26, nameIndex := 719, descriptorIndex := 716, attributes := #[] }, { accessFlags := 4120, nameIndex := 445, descriptorIndex := 117, attributes := #[] }])
  fields := #[{ name := "MIN_ARRAY_SORT_GRAN", type := .int, accessFlags := 26, slot := 0, constantValue := 0 }, { name := "INSERTIONSORT_THRESHOLD", type := .int, accessFlags := 26, slot := 1, constantValue := 0 }, { name := "$assertionsDisabled", type := .boolean, accessFlags := 4120, slot := 2, constantValue := 0 }]
  methods := #[k13m0, k13m1, k13m2, k13m3]
  instanceTypes := #[]
  staticTypes := #[.int, .int, .boolean]
  resolved := Array.replicate 1029 none
  statics := none }

def pool14 : Array CpInfo := pool [(2, .class_ 4), (1, u "java/lang/Object"), (0, u "<init>"), (0, u "()V"), (1, .class_ 10), (1, u "java/lang/System"), (0, u "allowSecurityManager"), (0, u "I"), (16, u "cons"), (0, u "Ljava/io/Console;"), (77, .class_ 110), (1, u "java/lang/System$CallersHolder"), (43, u "initialErrStream"), (0, u "Ljava/io/PrintStream;"), (19, u "security"), (0, u "Ljava/lang/SecurityManager;"), (31, .class_ 209), (0, u "java/lang/System$1"), (7, u "props"), (0, u "Ljava/util/Properties;"), (2, u "lineSeparator"), (0, u "Ljava/lang/String;"), (96, .class_ 321), (1, u "java/lang/System$LoggerFinder"), (5, .class_ 328), (0, u "java/lang/System$Logger"), (67, u "err"), (2, u "out"), (91, u "notSupportedJnuEncoding"), (15, u "in"), (17, u "initialIn"), (0, u "Ljava/io/InputStream;"), (35, u "bootLayer"), (0, u "Ljava/lang/ModuleLayer;"), (99, .class_ 664), (0, u "java/lang/System$2"), (9, u "NEVER"), (2, u "MAYBE"), (49, u "arraycopy"), (0, u "(Ljava/lang/Object;ILjava/lang/Object;II)V"), (72, .class_ 802), (0, u "java/lang/System$Logger$Level")] 31

def k14m0 : Method := { name := "<init>", desc := "()V", sig := { parameters := [], returnType := none }, accessFlags := 2, code := none }
def k14m1 : Method := { name := "arraycopy", desc := "(Ljava/lang/Object;ILjava/lang/Object;II)V", sig := { parameters := [(.object "java/lang/Object"), .int, (.object "java/lang/Object"), .int, .int], returnType := none }, accessFlags := 265, code := none }
/-- java/lang/System -/
def k14 : Class := { plain "java/lang/System" (some 0) with
  accessFlags := 49
  interfaces := #[]
  cf := some (fileOf pool14 8 #[.nestMembers #[319, 327, 801, 108, 663, 208]] #[{ accessFlags := 2, nameIndex := 5, descriptorIndex := 6, attributes := #[] }, { accessFlags := 265, nameIndex := 727, descriptorIndex := 728, attributes := #[] }] 49 2 #[] #[{ accessFlags := 25, nameIndex := 507, descriptorIndex := 526, attributes := #[] }, { accessFlags := 25, nameIndex := 399, descriptorIndex := 155, attributes := #[] }, { accessFlags := 25, nameIndex := 396, descriptorIndex := 155, attributes := #[] }, { accessFlags := 10, nameIndex := 525, descriptorIndex := 526, attributes := #[] }, { accessFlags := 26, nameIndex := 674, descriptorIndex := 12, attributes := #[] }, { accessFlags := 26, nameIndex := 677, descriptorIndex := 12, attributes := #[] }, { accessFlags := 10, nameIndex := 11, descriptorIndex := 12, attributes := #[] }, { accessFlags := 74, nameIndex := 175, descriptorIndex := 176, attributes := #[] }, { accessFlags := 10, nameIndex := 491, descriptorIndex := 222, attributes := #[] }, { accessFlags := 74, nameIndex := 29, descriptorIndex := 30, attributes := #[] }, { accessFlags := 74, nameIndex := 154, descriptorIndex := 155, attributes := #[] }, { accessFlags := 10, nameIndex := 217, descriptorIndex := 218, attributes := #[] }, { accessFlags := 10, nameIndex := 221, descriptorIndex := 222, attributes := #[] }, { accessFlags := 8, nameIndex := 562, descriptorIndex := 563, attributes := #[] }])
  fields := #[{ name := "in", type := (.object "java/io/InputStream"), accessFlags := 25, slot := 0, constantValue := 0 }, { name := "out", type := (.object "java/io/PrintStream"), accessFlags := 25, slot := 1, constantValue := 0 }, { name := "err", type := (.object "java/io/PrintStream"), accessFlags := 25, slot := 2, constantValue := 0 }, { name := "initialIn", type := (.object "java/io/InputStream"), accessFlags := 10, slot := 3, constantValue := 0 }, { name := "NEVER", type := .int, accessFlags := 26, slot := 4, constantValue := 0 }, { name := "MAYBE", type := .int, accessFlags := 26, slot := 5, constantValue := 0 }, { name := "allowSecurityManager", type := .int, accessFlags := 10, slot := 6, constantValue := 0 }, { name := "security", type := (.object "java/lang/SecurityManager"), accessFlags := 74, slot := 7, constantValue := 0 }, { name := "notSupportedJnuEncoding", type := (.object "java/lang/String"), accessFlags := 10, slot := 8, constantValue := 0 }, { name := "cons", type := (.object "java/io/Console"), accessFlags := 74, slot := 9, constantValue := 0 }, { name := "initialErrStream", type := (.object "java/io/PrintStream"), accessFlags := 74, slot := 10, constantValue := 0 }, { name := "props", type := (.object "java/util/Properties"), accessFlags := 10, slot := 11, constantValue := 0 }, { name := "lineSeparator", type := (.object "java/lang/String"), accessFlags := 10, slot := 12, constantValue := 0 }, { name := "bootLayer", type := (.object "java/lang/ModuleLayer"), accessFlags := 8, slot := 13, constantValue := 0 }]
  methods := #[k14m0, k14m1]
  instanceTypes := #[]
  staticTypes := #[(.object "java/io/InputStream"), (.object "java/io/PrintStream"), (.object "java/io/PrintStream"), (.object "java/io/InputStream"), .int, .int, .int, (.object "java/lang/SecurityManager"), (.object "java/lang/String"), (.object "java/io/Console"), (.object "java/io/PrintStream"), (.object "java/util/Properties"), (.object "java/lang/String"), (.object "java/lang/ModuleLayer")]
  resolved := Array.replicate 834 none
  statics := none }

def pool15 : Array CpInfo := pool [(9, u "<init>"), (6, .class_ 18), (1, u "java/lang/Object"), (0, u "()V"), (1, .class_ 23), (1, u "jdk/internal/util/ArraysSupport"), (0, u "LOG2_ARRAY_LONG_INDEX_SCALE"), (0, u "I"), (2, u "U"), (0, u "Ljdk/internal/misc/Unsafe;"), (8, u "BIG_ENDIAN"), (0, u "Z"), (8, u "LOG2_BYTE_BIT_SIZE"), (4, u "LOG2_ARRAY_INT_INDEX_SCALE"), (54, u "JLA"), (0, u "Ljdk/internal/access/JavaLangAccess;"), (11, u "LOG2_ARRAY_BOOLEAN_INDEX_SCALE"), (9, u "LOG2_ARRAY_BYTE_INDEX_SCALE"), (5, u "LOG2_ARRAY_CHAR_INDEX_SCALE"), (5, u "LOG2_ARRAY_SHORT_INDEX_SCALE"), (18, u "LOG2_ARRAY_FLOAT_INDEX_SCALE"), (24, u "LOG2_ARRAY_DOUBLE_INDEX_SCALE"), (89, u "T_BOOLEAN"), (2, u "T_CHAR"), (1, u "T_FLOAT"), (1, u "T_DOUBLE"), (1, u "T_BYTE"), (1, u "T_SHORT"), (1, u "T_INT"), (1, u "T_LONG"), (1, u "SOFT_MAX_ARRAY_LENGTH")] 83

def k15m0 : Method := { name := "<init>", desc := "()V", sig := { parameters := [], returnType := none }, accessFlags := 2, code := none }
/-- jdk/internal/util/ArraysSupport -/
def k15 : Class := { plain "jdk/internal/util/ArraysSupport" (some 0) with
  accessFlags := 33
  interfaces := #[]
  cf := some (fileOf pool15 21 #[] #[{ accessFlags := 2, nameIndex := 9, descriptorIndex := 19, attributes := #[] }] 33 16 #[] #[{ accessFlags := 24, nameIndex := 28, descriptorIndex := 29, attributes := #[] }, { accessFlags := 26, nameIndex := 38, descriptorIndex := 39, attributes := #[] }, { accessFlags := 25, nameIndex := 121, descriptorIndex := 25, attributes := #[] }, { accessFlags := 25, nameIndex := 131, descriptorIndex := 25, attributes := #[] }, { accessFlags := 25, nameIndex := 137, descriptorIndex := 25, attributes := #[] }, { accessFlags := 25, nameIndex := 143, descriptorIndex := 25, attributes := #[] }, { accessFlags := 25, nameIndex := 53, descriptorIndex := 25, attributes := #[] }, { accessFlags := 25, nameIndex := 24, descriptorIndex := 25, attributes := #[] }, { accessFlags := 25, nameIndex := 162, descriptorIndex := 25, attributes := #[] }, { accessFlags := 25, nameIndex := 187, descriptorIndex := 25, attributes := #[] }, { accessFlags := 26, nameIndex := 48, descriptorIndex := 25, attributes := #[] }, { accessFlags := 25, nameIndex := 277, descriptorIndex := 25, attributes := #[] }, { accessFlags := 25, nameIndex := 280, descriptorIndex := 25, attributes := #[] }, { accessFlags := 25, nameIndex := 282, descriptorIndex := 25, attributes := #[] }, { accessFlags := 25, nameIndex := 284, descriptorIndex := 25, attributes := #[] }, { accessFlags := 25, nameIndex := 286, descriptorIndex := 25, attributes := #[] }, { accessFlags := 25, nameIndex := 288, descriptorIndex := 25, attributes := #[] }, { accessFlags := 25, nameIndex := 290, descriptorIndex := 25, attributes := #[] }, { accessFlags := 25, nameIndex := 292, descriptorIndex := 25, attributes := #[] }, { accessFlags := 26, nameIndex := 108, descriptorIndex := 109, attributes := #[] }, { accessFlags := 25, nameIndex := 294, descriptorIndex := 25, attributes := #[] }])
  fields := #[{ name := "U", type := (.object "jdk/internal/misc/Unsafe"), accessFlags := 24, slot := 0, constantValue := 0 }, { name := "BIG_ENDIAN", type := .boolean, accessFlags := 26, slot := 1, constantValue := 0 }, { name := "LOG2_ARRAY_BOOLEAN_INDEX_SCALE", type := .int, accessFlags := 25, slot := 2, constantValue := 0 }, { name := "LOG2_ARRAY_BYTE_INDEX_SCALE", type := .int, accessFlags := 25, slot := 3, constantValue := 0 }, { name := "LOG2_ARRAY_CHAR_INDEX_SCALE", type := .int, accessFlags := 25, slot := 4, constantValue := 0 }, { name := "LOG2_ARRAY_SHORT_INDEX_SCALE", type := .int, accessFlags := 25, slot := 5, constantValue := 0 }, { name := "LOG2_ARRAY_INT_INDEX_SCALE", type := .int, accessFlags := 25, slot := 6, constantValue := 0 }, { name := "LOG2_ARRAY_LONG_INDEX_SCALE", type := .int, accessFlags := 25, slot := 7, constantValue := 0 }, { name := "LOG2_ARRAY_FLOAT_INDEX_SCALE", type := .int, accessFlags := 25, slot := 8, constantValue := 0 }, { name := "LOG2_ARRAY_DOUBLE_INDEX_SCALE", type := .int, accessFlags := 25, slot := 9, constantValue := 0 }, { name := "LOG2_BYTE_BIT_SIZE", type := .int, accessFlags := 26, slot := 10, constantValue := 0 }, { name := "T_BOOLEAN", type := .int, accessFlags := 25, slot := 11, constantValue := 0 }, { name := "T_CHAR", type := .int, accessFlags := 25, slot := 12, constantValue := 0 }, { name := "T_FLOAT", type := .int, accessFlags := 25, slot := 13, constantValue := 0 }, { name := "T_DOUBLE", type := .int, accessFlags := 25, slot := 14, constantValue := 0 }, { name := "T_BYTE", type := .int, accessFlags := 25, slot := 15, constantValue := 0 }, { name := "T_SHORT", type := .int, accessFlags := 25, slot := 16, constantValue := 0 }, { name := "T_INT", type := .int, accessFlags := 25, slot := 17, constantValue := 0 }, { name := "T_LONG", type := .int, accessFlags := 25, slot := 18, constantValue := 0 }, { name := "JLA", type := (.object "jdk/internal/access/JavaLangAccess"), accessFlags := 26, slot := 19, constantValue := 0 }, { name := "SOFT_MAX_ARRAY_LENGTH", type := .int, accessFlags := 25, slot := 20, constantValue := 0 }]
  methods := #[k15m0]
  instanceTypes := #[]
  staticTypes := #[(.object "jdk/internal/misc/Unsafe"), .boolean, .int, .int, .int, .int, .int, .int, .int, .int, .int, .int, .int, .int, .int, .int, .int, .int, .int, (.object "jdk/internal/access/JavaLangAccess"), .int]
  resolved := Array.replicate 378 none
  statics := none }

def pool16 : Array CpInfo := pool [(1, u "java/lang/Cloneable"), (0, .class_ 1), (0, u "java/lang/Object"), (0, .class_ 3)] 3

/-- java/lang/Cloneable -/
def k16 : Class := { plain "java/lang/Cloneable" (some 0) with
  accessFlags := 1537
  interfaces := #[]
  cf := some (fileOf pool16 2 #[] #[] 1537 4 #[] #[])
  fields := #[]
  methods := #[]
  instanceTypes := #[]
  staticTypes := #[]
  resolved := Array.replicate 8 none
  statics := none }

/-- the primitive byte -/
def k17 : Class := { plain "byte" none with kind := .primitive 'B', accessFlags := 0x411 }
/-- [B -/
def k18 : Class := { plain "[B" (some 0) with kind := .array 17 .byte, interfaces := #[16, 2], accessFlags := 1041 }

/-- the primitive char -/
def k19 : Class := { plain "char" none with kind := .primitive 'C', accessFlags := 0x411 }
/-- [C -/
def k20 : Class := { plain "[C" (some 0) with kind := .array 19 .char, interfaces := #[16, 2], accessFlags := 1041 }

/-- the primitive int -/
def k21 : Class := { plain "int" none with kind := .primitive 'I', accessFlags := 0x411 }
/-- [I -/
def k22 : Class := { plain "[I" (some 0) with kind := .array 21 .int, interfaces := #[16, 2], accessFlags := 1041 }

def heap : Heap := #[{ cls := 7, slots := #[.long 0, .int 1, .null, .int 0, .null, .int 0, .int 0], vm := .statics 7 },
  { cls := 12, slots := #[.null, .null, .null], vm := .statics 12 }]
def classes : Array Class := #[k0, k1, k2, k3, k4, k5, k6, k7, k8, k9, k10, k11, k12, k13, k14, k15, k16, k17, k18, k19, k20, k21, k22]
def interned : List (Array UInt16 × Addr) := []
def slotsUsed : Nat := 10
def theMethod : MethodId := ⟨1, 4⟩
def args0 : Array Value := #[.int 5, .int 4, .int 19, .int 8, .int 3]
def aboutOver (below : List Frame) : State where
  vm := { classes := classes, interned := interned.toArray }
  heap := heap
  slotsUsed := slotsUsed
  threads := #[{ frames := .invoking theMethod args0 :: below }]
def below0 : List Frame := [.native { method := ⟨0, 0⟩, args := #[] }]
def about1 : State := aboutOver below0
def p0 : Program := .bare "" "" ""
def e0 : Env := launch0.env 0 0 0
theorem w_frames : about1.frames = Frame.invoking theMethod args0 :: below0 := rfl
set_option maxRecDepth 65536 in
theorem w_args : argsFit about1.vm theMethod args0 = true := by decide +kernel
set_option maxRecDepth 65536 in
theorem w_heap : heapFits about1 = true := by decide +kernel
set_option maxRecDepth 65536 in
theorem w_runnable : about1.curStatus? = some .runnable := by decide +kernel
set_option maxRecDepth 65536 in
theorem w_alone : about1.alone = true := by decide +kernel
set_option maxRecDepth 65536 in
theorem w_named : about1.methodNamed? x = some theMethod := by decide +kernel
set_option maxRecDepth 65536 in
theorem w_hears : about1.hears theMethod below0 = true := by decide +kernel
set_option maxRecDepth 65536 in
theorem w_ripe : about1.ripe theMethod args0 below0 = true := by decide +kernel
theorem w_running : about1.status = .running := rfl
set_option maxRecDepth 65536 in
theorem w_room : about1.hasRoom e0.platform room_1 = true :=
  launch0.hasRoom_least _ room_1 (by decide +kernel) (by decide +kernel) (by decide +kernel) (by decide +kernel) (by decide +kernel) (by decide +kernel)
theorem allAtoms_all (ts : List Jvm.Cond) (a : Array Jvm.Value) (st : Jvm.State) : (allAtoms ts).before a st = ts.all (fun c => c.before a st) := by
  induction ts with
  | nil => rfl
  | cons c t ih =>
    show (Jvm.Cond.and c (allAtoms t)).before a st = _
    rw [Jvm.Cond.before_and, ih, List.all_cons]
def words1 : List Jvm.Cond := Jvm.Cond.code x code maxLocals ret :: tables_1
/-- a 'code' word, met by the world's own term for the bytes: nothing is compared byte by byte -/
theorem code_word {y : MethodName} {bytes : ByteArray} {mx : Nat} {rt : Option FieldType} {a : Array Value} {s : State} {m : MethodId} {meth : Method} {c : Code} (h1 : s.methodNamed? y = some m) (h2 : s.vm.method? m = some meth) (h3 : meth.code = some c) (h4 : c.code = bytes)
    (h5 : (c.maxLocals == mx && c.exceptionTable.isEmpty && decide (c.maxStack ≤ mostOperands) && decide (meth.sig.returnType = rt) && !meth.locks && decide (parseMethodDescriptor y.desc = some meth.sig)) = true) : (Jvm.Cond.code y bytes mx rt).before a s = true := by
  simp only [Bool.and_eq_true, beq_iff_eq, Bool.not_eq_true', decide_eq_true_eq] at h5
  obtain ⟨⟨⟨⟨⟨g1, g2⟩, g3⟩, g4⟩, g5⟩, g6⟩ := h5
  simp [Cond.before, Cond.holds, Cond.value, h1, h2, h3, h4, g1, g2, g3, g4, g5, g6]
def isCode : Jvm.Cond → Bool
  | .code _ _ _ _ => true
  | _ => false
theorem all_split {L : List Jvm.Cond} {P : Jvm.Cond → Bool} (h1 : L.all (fun c => isCode c || P c) = true) (h2 : ∀ c ∈ L.filter isCode, P c = true) : L.all P = true := by
  refine List.all_eq_true.mpr fun c hc => ?_
  have h := List.all_eq_true.mp h1 c hc
  rcases Bool.eq_false_or_eq_true (isCode c) with hi | hi
  · exact h2 c (List.mem_filter.mpr ⟨hc, hi⟩)
  · simpa [hi] using h
set_option maxRecDepth 65536 in
theorem w_c0 : (Jvm.Cond.code x code maxLocals ret).before args0 about1 = true := code_word (m := ⟨1, 4⟩) (meth := k1m4) (c := k1c4) (by decide +kernel) rfl rfl rfl (by decide +kernel)
set_option maxRecDepth 65536 in
theorem w_c1 : (Jvm.Cond.code ({ cls := "com/example/inquire/inquire/io/WikiLinkParsePinLaw", name := "ch", desc := "(I)C" } : Jvm.MethodName) method_2_code (1 : Nat) (Option.some Jvm.ClassFile.FieldType.char)).before args0 about1 = true := code_word (m := ⟨1, 1⟩) (meth := k1m1) (c := k1c1) (by decide +kernel) rfl rfl rfl (by decide +kernel)
set_option maxRecDepth 65536 in
theorem w_c2 : (Jvm.Cond.code ({ cls := "com/example/inquire/inquire/io/WikiLinkParsePinLaw", name := "make", desc := "(ICCCC)[C" } : Jvm.MethodName) method_3_code (5 : Nat) (Option.some (Jvm.ClassFile.FieldType.array Jvm.ClassFile.FieldType.char))).before args0 about1 = true := code_word (m := ⟨1, 2⟩) (meth := k1m2) (c := k1c2) (by decide +kernel) rfl rfl rfl (by decide +kernel)
set_option maxRecDepth 65536 in
theorem w_c3 : (Jvm.Cond.code ({ cls := "java/lang/String", name := "<init>", desc := "([C)V" } : Jvm.MethodName) jdk_42_method_3_code (2 : Nat) (Option.none : Option Jvm.ClassFile.FieldType)).before args0 about1 = true := code_word (m := ⟨7, 1⟩) (meth := k7m1) (c := k7c1) (by decide +kernel) rfl rfl rfl (by decide +kernel)
set_option maxRecDepth 65536 in
theorem w_c4 : (Jvm.Cond.code ({ cls := "java/lang/String", name := "<init>", desc := "([CIILjava/lang/Void;)V" } : Jvm.MethodName) jdk_42_method_149_code (6 : Nat) (Option.none : Option Jvm.ClassFile.FieldType)).before args0 about1 = true := code_word (m := ⟨7, 8⟩) (meth := k7m8) (c := k7c8) (by decide +kernel) rfl rfl rfl (by decide +kernel)
set_option maxRecDepth 65536 in
theorem w_c5 : (Jvm.Cond.code ({ cls := "java/lang/Object", name := "<init>", desc := "()V" } : Jvm.MethodName) object_method_1_code (1 : Nat) (Option.none : Option Jvm.ClassFile.FieldType)).before args0 about1 = true := code_word (m := ⟨0, 0⟩) (meth := k0m0) (c := k0c0) (by decide +kernel) rfl rfl rfl (by decide +kernel)
set_option maxRecDepth 65536 in
theorem w_c6 : (Jvm.Cond.code ({ cls := "com/example/inquire/inquire/io/WikiLink", name := "parse", desc := "(Ljava/lang/String;)Lcom/example/inquire/inquire/io/WikiLink;" } : Jvm.MethodName) prog_40_method_2_code (4 : Nat) (Option.some (Jvm.ClassFile.FieldType.object "com/example/inquire/inquire/io/WikiLink"))).before args0 about1 = true := code_word (m := ⟨8, 1⟩) (meth := k8m1) (c := k8c1) (by decide +kernel) rfl rfl rfl (by decide +kernel)
set_option maxRecDepth 65536 in
theorem w_c7 : (Jvm.Cond.code ({ cls := "java/lang/String", name := "indexOf", desc := "(I)I" } : Jvm.MethodName) jdk_42_method_79_code (2 : Nat) (Option.some Jvm.ClassFile.FieldType.int)).before args0 about1 = true := code_word (m := ⟨7, 4⟩) (meth := k7m4) (c := k7c4) (by decide +kernel) rfl rfl rfl (by decide +kernel)
set_option maxRecDepth 65536 in
theorem w_c8 : (Jvm.Cond.code ({ cls := "java/lang/String", name := "indexOf", desc := "(II)I" } : Jvm.MethodName) jdk_42_method_80_code (3 : Nat) (Option.some Jvm.ClassFile.FieldType.int)).before args0 about1 = true := code_word (m := ⟨7, 5⟩) (meth := k7m5) (c := k7c5) (by decide +kernel) rfl rfl rfl (by decide +kernel)
set_option maxRecDepth 65536 in
theorem w_c9 : (Jvm.Cond.code ({ cls := "java/lang/String", name := "isLatin1", desc := "()Z" } : Jvm.MethodName) jdk_42_method_154_code (1 : Nat) (Option.some Jvm.ClassFile.FieldType.boolean)).before args0 about1 = true := code_word (m := ⟨7, 11⟩) (meth := k7m11) (c := k7c11) (by decide +kernel) rfl rfl rfl (by decide +kernel)
set_option maxRecDepth 65536 in
theorem w_c10 : (Jvm.Cond.code ({ cls := "java/lang/String", name := "length", desc := "()I" } : Jvm.MethodName) jdk_42_method_54_code (1 : Nat) (Option.some Jvm.ClassFile.FieldType.int)).before args0 about1 = true := code_word (m := ⟨7, 2⟩) (meth := k7m2) (c := k7c2) (by decide +kernel) rfl rfl rfl (by decide +kernel)
set_option maxRecDepth 65536 in
theorem w_c11 : (Jvm.Cond.code ({ cls := "java/lang/String", name := "coder", desc := "()B" } : Jvm.MethodName) jdk_42_method_152_code (1 : Nat) (Option.some Jvm.ClassFile.FieldType.byte)).before args0 about1 = true := code_word (m := ⟨7, 10⟩) (meth := k7m10) (c := k7c10) (by decide +kernel) rfl rfl rfl (by decide +kernel)
set_option maxRecDepth 65536 in
theorem w_c12 : (Jvm.Cond.code ({ cls := "java/lang/StringLatin1", name := "indexOf", desc := "([BIII)I" } : Jvm.MethodName) jdk_43_method_22_code (4 : Nat) (Option.some Jvm.ClassFile.FieldType.int)).before args0 about1 = true := code_word (m := ⟨9, 3⟩) (meth := k9m3) (c := k9c3) (by decide +kernel) rfl rfl rfl (by decide +kernel)
set_option maxRecDepth 65536 in
theorem w_c13 : (Jvm.Cond.code ({ cls := "java/lang/StringLatin1", name := "canEncode", desc := "(I)Z" } : Jvm.MethodName) jdk_43_method_4_code (1 : Nat) (Option.some Jvm.ClassFile.FieldType.boolean)).before args0 about1 = true := code_word (m := ⟨9, 2⟩) (meth := k9m2) (c := k9c2) (by decide +kernel) rfl rfl rfl (by decide +kernel)
set_option maxRecDepth 65536 in
theorem w_c14 : (Jvm.Cond.code ({ cls := "java/lang/Math", name := "max", desc := "(II)I" } : Jvm.MethodName) jdk_29_method_65_code (2 : Nat) (Option.some Jvm.ClassFile.FieldType.int)).before args0 about1 = true := code_word (m := ⟨10, 1⟩) (meth := k10m1) (c := k10c1) (by decide +kernel) rfl rfl rfl (by decide +kernel)
set_option maxRecDepth 65536 in
theorem w_c15 : (Jvm.Cond.code ({ cls := "java/lang/Math", name := "min", desc := "(II)I" } : Jvm.MethodName) jdk_29_method_69_code (2 : Nat) (Option.some Jvm.ClassFile.FieldType.int)).before args0 about1 = true := code_word (m := ⟨10, 2⟩) (meth := k10m2) (c := k10c2) (by decide +kernel) rfl rfl rfl (by decide +kernel)
set_option maxRecDepth 65536 in
theorem w_c16 : (Jvm.Cond.code ({ cls := "com/example/inquire/inquire/io/WikiLink", name := "<init>", desc := "(Ljava/lang/String;Ljava/lang/String;)V" } : Jvm.MethodName) prog_40_method_1_code (3 : Nat) (Option.none : Option Jvm.ClassFile.FieldType)).before args0 about1 = true := code_word (m := ⟨8, 0⟩) (meth := k8m0) (c := k8c0) (by decide +kernel) rfl rfl rfl (by decide +kernel)
set_option maxRecDepth 65536 in
theorem w_c17 : (Jvm.Cond.code ({ cls := "com/example/inquire/inquire/io/WikiLink", name := "getTarget", desc := "()Ljava/lang/String;" } : Jvm.MethodName) prog_40_method_3_code (1 : Nat) (Option.some (Jvm.ClassFile.FieldType.object "java/lang/String"))).before args0 about1 = true := code_word (m := ⟨8, 2⟩) (meth := k8m2) (c := k8c2) (by decide +kernel) rfl rfl rfl (by decide +kernel)
set_option maxRecDepth 65536 in
theorem w_c18 : (Jvm.Cond.code ({ cls := "com/example/inquire/inquire/io/WikiLink", name := "getLabel", desc := "()Ljava/lang/String;" } : Jvm.MethodName) prog_40_method_4_code (1 : Nat) (Option.some (Jvm.ClassFile.FieldType.object "java/lang/String"))).before args0 about1 = true := code_word (m := ⟨8, 3⟩) (meth := k8m3) (c := k8c3) (by decide +kernel) rfl rfl rfl (by decide +kernel)
set_option maxRecDepth 65536 in
theorem w_c19 : (Jvm.Cond.code ({ cls := "com/example/inquire/inquire/io/WikiLinkParsePinLaw", name := "at", desc := "(IIICLjava/lang/String;Ljava/lang/String;)Z" } : Jvm.MethodName) method_4_code (6 : Nat) (Option.some Jvm.ClassFile.FieldType.boolean)).before args0 about1 = true := code_word (m := ⟨1, 3⟩) (meth := k1m3) (c := k1c3) (by decide +kernel) rfl rfl rfl (by decide +kernel)
set_option maxRecDepth 65536 in
theorem w_c20 : (Jvm.Cond.code ({ cls := "java/lang/StringUTF16", name := "compress", desc := "([CII)[B" } : Jvm.MethodName) jdk_52_method_16_code (6 : Nat) (Option.some (Jvm.ClassFile.FieldType.array Jvm.ClassFile.FieldType.byte))).before args0 about1 = true := code_word (m := ⟨11, 2⟩) (meth := k11m2) (c := k11c2) (by decide +kernel) rfl rfl rfl (by decide +kernel)
set_option maxRecDepth 65536 in
theorem w_c21 : (Jvm.Cond.code ({ cls := "java/lang/StringUTF16", name := "compress", desc := "([CI[BII)I" } : Jvm.MethodName) jdk_52_method_21_code (7 : Nat) (Option.some Jvm.ClassFile.FieldType.int)).before args0 about1 = true := code_word (m := ⟨11, 3⟩) (meth := k11m3) (c := k11c3) (by decide +kernel) rfl rfl rfl (by decide +kernel)
set_option maxRecDepth 65536 in
theorem w_c22 : (Jvm.Cond.code ({ cls := "java/lang/StringUTF16", name := "coderFromArrayLen", desc := "([BI)B" } : Jvm.MethodName) jdk_52_method_15_code (2 : Nat) (Option.some Jvm.ClassFile.FieldType.byte)).before args0 about1 = true := code_word (m := ⟨11, 1⟩) (meth := k11m1) (c := k11c1) (by decide +kernel) rfl rfl rfl (by decide +kernel)
set_option maxRecDepth 65536 in
theorem w_c23 : (Jvm.Cond.code ({ cls := "java/lang/StringLatin1", name := "indexOfChar", desc := "([BIII)I" } : Jvm.MethodName) jdk_43_method_23_code (6 : Nat) (Option.some Jvm.ClassFile.FieldType.int)).before args0 about1 = true := code_word (m := ⟨9, 4⟩) (meth := k9m4) (c := k9c4) (by decide +kernel) rfl rfl rfl (by decide +kernel)
set_option maxRecDepth 65536 in
theorem w_c24 : (Jvm.Cond.code ({ cls := "java/lang/String", name := "substring", desc := "(II)Ljava/lang/String;" } : Jvm.MethodName) jdk_42_method_92_code (5 : Nat) (Option.some (Jvm.ClassFile.FieldType.object "java/lang/String"))).before args0 about1 = true := code_word (m := ⟨7, 7⟩) (meth := k7m7) (c := k7c7) (by decide +kernel) rfl rfl rfl (by decide +kernel)
set_option maxRecDepth 65536 in
theorem w_c25 : (Jvm.Cond.code ({ cls := "java/lang/String", name := "checkBoundsBeginEnd", desc := "(III)V" } : Jvm.MethodName) jdk_42_method_158_code (3 : Nat) (Option.none : Option Jvm.ClassFile.FieldType)).before args0 about1 = true := code_word (m := ⟨7, 13⟩) (meth := k7m13) (c := k7c13) (by decide +kernel) rfl rfl rfl (by decide +kernel)
set_option maxRecDepth 65536 in
theorem w_c26 : (Jvm.Cond.code ({ cls := "jdk/internal/util/Preconditions", name := "checkFromToIndex", desc := "(IIILjava/util/function/BiFunction;)I" } : Jvm.MethodName) jdk_41_method_12_code (4 : Nat) (Option.some Jvm.ClassFile.FieldType.int)).before args0 about1 = true := code_word (m := ⟨12, 2⟩) (meth := k12m2) (c := k12c2) (by decide +kernel) rfl rfl rfl (by decide +kernel)
set_option maxRecDepth 65536 in
theorem w_c27 : (Jvm.Cond.code ({ cls := "java/lang/StringLatin1", name := "newString", desc := "([BII)Ljava/lang/String;" } : Jvm.MethodName) jdk_43_method_47_code (3 : Nat) (Option.some (Jvm.ClassFile.FieldType.object "java/lang/String"))).before args0 about1 = true := code_word (m := ⟨9, 5⟩) (meth := k9m5) (c := k9c5) (by decide +kernel) rfl rfl rfl (by decide +kernel)
set_option maxRecDepth 65536 in
theorem w_c28 : (Jvm.Cond.code ({ cls := "java/util/Arrays", name := "copyOfRange", desc := "([BII)[B" } : Jvm.MethodName) jdk_65_method_132_code (3 : Nat) (Option.some (Jvm.ClassFile.FieldType.array Jvm.ClassFile.FieldType.byte))).before args0 about1 = true := code_word (m := ⟨13, 2⟩) (meth := k13m2) (c := k13c2) (by decide +kernel) rfl rfl rfl (by decide +kernel)
set_option maxRecDepth 65536 in
theorem w_c29 : (Jvm.Cond.code ({ cls := "java/util/Arrays", name := "copyOfRangeByte", desc := "([BII)[B" } : Jvm.MethodName) jdk_65_method_133_code (5 : Nat) (Option.some (Jvm.ClassFile.FieldType.array Jvm.ClassFile.FieldType.byte))).before args0 about1 = true := code_word (m := ⟨13, 3⟩) (meth := k13m3) (c := k13c3) (by decide +kernel) rfl rfl rfl (by decide +kernel)
set_option maxRecDepth 65536 in
theorem w_c30 : (Jvm.Cond.code ({ cls := "java/util/Arrays", name := "checkLength", desc := "(II)V" } : Jvm.MethodName) jdk_65_method_131_code (2 : Nat) (Option.none : Option Jvm.ClassFile.FieldType)).before args0 about1 = true := code_word (m := ⟨13, 1⟩) (meth := k13m1) (c := k13c1) (by decide +kernel) rfl rfl rfl (by decide +kernel)
set_option maxRecDepth 65536 in
theorem w_c31 : (Jvm.Cond.code ({ cls := "java/lang/String", name := "<init>", desc := "([BB)V" } : Jvm.MethodName) jdk_42_method_151_code (3 : Nat) (Option.none : Option Jvm.ClassFile.FieldType)).before args0 about1 = true := code_word (m := ⟨7, 9⟩) (meth := k7m9) (c := k7c9) (by decide +kernel) rfl rfl rfl (by decide +kernel)
set_option maxRecDepth 65536 in
theorem w_c32 : (Jvm.Cond.code ({ cls := "java/lang/String", name := "substring", desc := "(I)Ljava/lang/String;" } : Jvm.MethodName) jdk_42_method_91_code (2 : Nat) (Option.some (Jvm.ClassFile.FieldType.object "java/lang/String"))).before args0 about1 = true := code_word (m := ⟨7, 6⟩) (meth := k7m6) (c := k7c6) (by decide +kernel) rfl rfl rfl (by decide +kernel)
set_option maxRecDepth 65536 in
theorem w_c33 : (Jvm.Cond.code ({ cls := "java/lang/String", name := "charAt", desc := "(I)C" } : Jvm.MethodName) jdk_42_method_56_code (2 : Nat) (Option.some Jvm.ClassFile.FieldType.char)).before args0 about1 = true := code_word (m := ⟨7, 3⟩) (meth := k7m3) (c := k7c3) (by decide +kernel) rfl rfl rfl (by decide +kernel)
set_option maxRecDepth 65536 in
theorem w_c34 : (Jvm.Cond.code ({ cls := "java/lang/StringLatin1", name := "charAt", desc := "([BI)C" } : Jvm.MethodName) jdk_43_method_2_code (2 : Nat) (Option.some Jvm.ClassFile.FieldType.char)).before args0 about1 = true := code_word (m := ⟨9, 1⟩) (meth := k9m1) (c := k9c1) (by decide +kernel) rfl rfl rfl (by decide +kernel)
set_option maxRecDepth 65536 in
theorem w_c35 : (Jvm.Cond.code ({ cls := "java/lang/String", name := "checkIndex", desc := "(II)V" } : Jvm.MethodName) jdk_42_method_155_code (2 : Nat) (Option.none : Option Jvm.ClassFile.FieldType)).before args0 about1 = true := code_word (m := ⟨7, 12⟩) (meth := k7m12) (c := k7c12) (by decide +kernel) rfl rfl rfl (by decide +kernel)
set_option maxRecDepth 65536 in
theorem w_c36 : (Jvm.Cond.code ({ cls := "jdk/internal/util/Preconditions", name := "checkIndex", desc := "(IILjava/util/function/BiFunction;)I" } : Jvm.MethodName) jdk_41_method_11_code (3 : Nat) (Option.some Jvm.ClassFile.FieldType.int)).before args0 about1 = true := code_word (m := ⟨12, 1⟩) (meth := k12m1) (c := k12c1) (by decide +kernel) rfl rfl rfl (by decide +kernel)
def codes1 : List Jvm.Cond := [Jvm.Cond.code x code maxLocals ret, Jvm.Cond.code ({ cls := "com/example/inquire/inquire/io/WikiLinkParsePinLaw", name := "ch", desc := "(I)C" } : Jvm.MethodName) method_2_code (1 : Nat) (Option.some Jvm.ClassFile.FieldType.char), Jvm.Cond.code ({ cls := "com/example/inquire/inquire/io/WikiLinkParsePinLaw", name := "make", desc := "(ICCCC)[C" } : Jvm.MethodName) method_3_code (5 : Nat) (Option.some (Jvm.ClassFile.FieldType.array Jvm.ClassFile.FieldType.char)), Jvm.Cond.code ({ cls := "java/lang/String", name := "<init>", desc := "([C)V" } : Jvm.MethodName) jdk_42_method_3_code (2 : Nat) (Option.none : Option Jvm.ClassFile.FieldType), Jvm.Cond.code ({ cls := "java/lang/String", name := "<init>", desc := "([CIILjava/lang/Void;)V" } : Jvm.MethodName) jdk_42_method_149_code (6 : Nat) (Option.none : Option Jvm.ClassFile.FieldType), Jvm.Cond.code ({ cls := "java/lang/Object", name := "<init>", desc := "()V" } : Jvm.MethodName) object_method_1_code (1 : Nat) (Option.none : Option Jvm.ClassFile.FieldType), Jvm.Cond.code ({ cls := "com/example/inquire/inquire/io/WikiLink", name := "parse", desc := "(Ljava/lang/String;)Lcom/example/inquire/inquire/io/WikiLink;" } : Jvm.MethodName) prog_40_method_2_code (4 : Nat) (Option.some (Jvm.ClassFile.FieldType.object "com/example/inquire/inquire/io/WikiLink")), Jvm.Cond.code ({ cls := "java/lang/String", name := "indexOf", desc := "(I)I" } : Jvm.MethodName) jdk_42_method_79_code (2 : Nat) (Option.some Jvm.ClassFile.FieldType.int), Jvm.Cond.code ({ cls := "java/lang/String", name := "indexOf", desc := "(II)I" } : Jvm.MethodName) jdk_42_method_80_code (3 : Nat) (Option.some Jvm.ClassFile.FieldType.int), Jvm.Cond.code ({ cls := "java/lang/String", name := "isLatin1", desc := "()Z" } : Jvm.MethodName) jdk_42_method_154_code (1 : Nat) (Option.some Jvm.ClassFile.FieldType.boolean), Jvm.Cond.code ({ cls := "java/lang/String", name := "length", desc := "()I" } : Jvm.MethodName) jdk_42_method_54_code (1 : Nat) (Option.some Jvm.ClassFile.FieldType.int), Jvm.Cond.code ({ cls := "java/lang/String", name := "coder", desc := "()B" } : Jvm.MethodName) jdk_42_method_152_code (1 : Nat) (Option.some Jvm.ClassFile.FieldType.byte), Jvm.Cond.code ({ cls := "java/lang/StringLatin1", name := "indexOf", desc := "([BIII)I" } : Jvm.MethodName) jdk_43_method_22_code (4 : Nat) (Option.some Jvm.ClassFile.FieldType.int), Jvm.Cond.code ({ cls := "java/lang/StringLatin1", name := "canEncode", desc := "(I)Z" } : Jvm.MethodName) jdk_43_method_4_code (1 : Nat) (Option.some Jvm.ClassFile.FieldType.boolean), Jvm.Cond.code ({ cls := "java/lang/Math", name := "max", desc := "(II)I" } : Jvm.MethodName) jdk_29_method_65_code (2 : Nat) (Option.some Jvm.ClassFile.FieldType.int), Jvm.Cond.code ({ cls := "java/lang/Math", name := "min", desc := "(II)I" } : Jvm.MethodName) jdk_29_method_69_code (2 : Nat) (Option.some Jvm.ClassFile.FieldType.int), Jvm.Cond.code ({ cls := "com/example/inquire/inquire/io/WikiLink", name := "<init>", desc := "(Ljava/lang/String;Ljava/lang/String;)V" } : Jvm.MethodName) prog_40_method_1_code (3 : Nat) (Option.none : Option Jvm.ClassFile.FieldType), Jvm.Cond.code ({ cls := "com/example/inquire/inquire/io/WikiLink", name := "getTarget", desc := "()Ljava/lang/String;" } : Jvm.MethodName) prog_40_method_3_code (1 : Nat) (Option.some (Jvm.ClassFile.FieldType.object "java/lang/String")), Jvm.Cond.code ({ cls := "com/example/inquire/inquire/io/WikiLink", name := "getLabel", desc := "()Ljava/lang/String;" } : Jvm.MethodName) prog_40_method_4_code (1 : Nat) (Option.some (Jvm.ClassFile.FieldType.object "java/lang/String")), Jvm.Cond.code ({ cls := "com/example/inquire/inquire/io/WikiLinkParsePinLaw", name := "at", desc := "(IIICLjava/lang/String;Ljava/lang/String;)Z" } : Jvm.MethodName) method_4_code (6 : Nat) (Option.some Jvm.ClassFile.FieldType.boolean), Jvm.Cond.code ({ cls := "java/lang/StringUTF16", name := "compress", desc := "([CII)[B" } : Jvm.MethodName) jdk_52_method_16_code (6 : Nat) (Option.some (Jvm.ClassFile.FieldType.array Jvm.ClassFile.FieldType.byte)), Jvm.Cond.code ({ cls := "java/lang/StringUTF16", name := "compress", desc := "([CI[BII)I" } : Jvm.MethodName) jdk_52_method_21_code (7 : Nat) (Option.some Jvm.ClassFile.FieldType.int), Jvm.Cond.code ({ cls := "java/lang/StringUTF16", name := "coderFromArrayLen", desc := "([BI)B" } : Jvm.MethodName) jdk_52_method_15_code (2 : Nat) (Option.some Jvm.ClassFile.FieldType.byte), Jvm.Cond.code ({ cls := "java/lang/StringLatin1", name := "indexOfChar", desc := "([BIII)I" } : Jvm.MethodName) jdk_43_method_23_code (6 : Nat) (Option.some Jvm.ClassFile.FieldType.int), Jvm.Cond.code ({ cls := "java/lang/String", name := "substring", desc := "(II)Ljava/lang/String;" } : Jvm.MethodName) jdk_42_method_92_code (5 : Nat) (Option.some (Jvm.ClassFile.FieldType.object "java/lang/String")), Jvm.Cond.code ({ cls := "java/lang/String", name := "checkBoundsBeginEnd", desc := "(III)V" } : Jvm.MethodName) jdk_42_method_158_code (3 : Nat) (Option.none : Option Jvm.ClassFile.FieldType), Jvm.Cond.code ({ cls := "jdk/internal/util/Preconditions", name := "checkFromToIndex", desc := "(IIILjava/util/function/BiFunction;)I" } : Jvm.MethodName) jdk_41_method_12_code (4 : Nat) (Option.some Jvm.ClassFile.FieldType.int), Jvm.Cond.code ({ cls := "java/lang/StringLatin1", name := "newString", desc := "([BII)Ljava/lang/String;" } : Jvm.MethodName) jdk_43_method_47_code (3 : Nat) (Option.some (Jvm.ClassFile.FieldType.object "java/lang/String")), Jvm.Cond.code ({ cls := "java/util/Arrays", name := "copyOfRange", desc := "([BII)[B" } : Jvm.MethodName) jdk_65_method_132_code (3 : Nat) (Option.some (Jvm.ClassFile.FieldType.array Jvm.ClassFile.FieldType.byte)), Jvm.Cond.code ({ cls := "java/util/Arrays", name := "copyOfRangeByte", desc := "([BII)[B" } : Jvm.MethodName) jdk_65_method_133_code (5 : Nat) (Option.some (Jvm.ClassFile.FieldType.array Jvm.ClassFile.FieldType.byte)), Jvm.Cond.code ({ cls := "java/util/Arrays", name := "checkLength", desc := "(II)V" } : Jvm.MethodName) jdk_65_method_131_code (2 : Nat) (Option.none : Option Jvm.ClassFile.FieldType), Jvm.Cond.code ({ cls := "java/lang/String", name := "<init>", desc := "([BB)V" } : Jvm.MethodName) jdk_42_method_151_code (3 : Nat) (Option.none : Option Jvm.ClassFile.FieldType), Jvm.Cond.code ({ cls := "java/lang/String", name := "substring", desc := "(I)Ljava/lang/String;" } : Jvm.MethodName) jdk_42_method_91_code (2 : Nat) (Option.some (Jvm.ClassFile.FieldType.object "java/lang/String")), Jvm.Cond.code ({ cls := "java/lang/String", name := "charAt", desc := "(I)C" } : Jvm.MethodName) jdk_42_method_56_code (2 : Nat) (Option.some Jvm.ClassFile.FieldType.char), Jvm.Cond.code ({ cls := "java/lang/StringLatin1", name := "charAt", desc := "([BI)C" } : Jvm.MethodName) jdk_43_method_2_code (2 : Nat) (Option.some Jvm.ClassFile.FieldType.char), Jvm.Cond.code ({ cls := "java/lang/String", name := "checkIndex", desc := "(II)V" } : Jvm.MethodName) jdk_42_method_155_code (2 : Nat) (Option.none : Option Jvm.ClassFile.FieldType), Jvm.Cond.code ({ cls := "jdk/internal/util/Preconditions", name := "checkIndex", desc := "(IILjava/util/function/BiFunction;)I" } : Jvm.MethodName) jdk_41_method_11_code (3 : Nat) (Option.some Jvm.ClassFile.FieldType.int)]
set_option maxRecDepth 65536 in
theorem codes_eq : words1.filter isCode = codes1 := rfl
theorem w_codes : ∀ c ∈ words1.filter isCode, c.before args0 about1 = true := by
  rw [codes_eq]
  intro c hc
  simp only [codes1, List.mem_cons, List.not_mem_nil, or_false] at hc
  rcases hc with rfl | rfl | rfl | rfl | rfl | rfl | rfl | rfl | rfl | rfl | rfl | rfl | rfl | rfl | rfl | rfl | rfl | rfl | rfl | rfl | rfl | rfl | rfl | rfl | rfl | rfl | rfl | rfl | rfl | rfl | rfl | rfl | rfl | rfl | rfl | rfl | rfl
  · exact w_c0
  · exact w_c1
  · exact w_c2
  · exact w_c3
  · exact w_c4
  · exact w_c5
  · exact w_c6
  · exact w_c7
  · exact w_c8
  · exact w_c9
  · exact w_c10
  · exact w_c11
  · exact w_c12
  · exact w_c13
  · exact w_c14
  · exact w_c15
  · exact w_c16
  · exact w_c17
  · exact w_c18
  · exact w_c19
  · exact w_c20
  · exact w_c21
  · exact w_c22
  · exact w_c23
  · exact w_c24
  · exact w_c25
  · exact w_c26
  · exact w_c27
  · exact w_c28
  · exact w_c29
  · exact w_c30
  · exact w_c31
  · exact w_c32
  · exact w_c33
  · exact w_c34
  · exact w_c35
  · exact w_c36
set_option maxRecDepth 65536 in
theorem w_t1 : (words1.take 24).all (fun c => isCode c || c.before args0 about1) = true := by decide +kernel
set_option maxRecDepth 65536 in
theorem w_t2 : ((words1.drop 24).take 24).all (fun c => isCode c || c.before args0 about1) = true := by decide +kernel
set_option maxRecDepth 65536 in
theorem w_t3 : (((words1.drop 24).drop 24).take 24).all (fun c => isCode c || c.before args0 about1) = true := by decide +kernel
set_option maxRecDepth 65536 in
theorem w_t4 : ((((words1.drop 24).drop 24).drop 24).take 24).all (fun c => isCode c || c.before args0 about1) = true := by decide +kernel
set_option maxRecDepth 65536 in
theorem w_t5 : (((((words1.drop 24).drop 24).drop 24).drop 24).take 24).all (fun c => isCode c || c.before args0 about1) = true := by decide +kernel
set_option maxRecDepth 65536 in
theorem w_t6 : ((((((words1.drop 24).drop 24).drop 24).drop 24).drop 24).take 24).all (fun c => isCode c || c.before args0 about1) = true := by decide +kernel
set_option maxRecDepth 65536 in
theorem w_t7 : (((((((words1.drop 24).drop 24).drop 24).drop 24).drop 24).drop 24).take 24).all (fun c => isCode c || c.before args0 about1) = true := by decide +kernel
set_option maxRecDepth 65536 in
theorem w_t8 : (((((((words1.drop 24).drop 24).drop 24).drop 24).drop 24).drop 24).drop 24).all (fun c => isCode c || c.before args0 about1) = true := by decide +kernel
theorem w_tables : (allAtoms (Jvm.Cond.code x code maxLocals ret :: tables_1)).before args0 about1 = true := by
  rw [allAtoms_all]
  show words1.all (fun c => c.before args0 about1) = true
  refine all_split ?_ w_codes
  rw [← List.take_append_drop 24 words1, List.all_append, w_t1, ← List.take_append_drop 24 (words1.drop 24), List.all_append, w_t2, ← List.take_append_drop 24 ((words1.drop 24).drop 24), List.all_append, w_t3, ← List.take_append_drop 24 (((words1.drop 24).drop 24).drop 24), List.all_append, w_t4, ← List.take_append_drop 24 ((((words1.drop 24).drop 24).drop 24).drop 24), List.all_append, w_t5, ← List.take_append_drop 24 (((((words1.drop 24).drop 24).drop 24).drop 24).drop 24), List.all_append, w_t6, ← List.take_append_drop 24 ((((((words1.drop 24).drop 24).drop 24).drop 24).drop 24).drop 24), List.all_append, w_t7, w_t8]
  rfl
set_option maxRecDepth 65536 in
theorem w_rest : rest_1_c.before args0 about1 = true := by decide +kernel
set_option maxRecDepth 65536 in
theorem w_case : (Jvm.Cond.and given_1 narrow_1).before args0 about1 = true := by decide +kernel
set_option maxRecDepth 65536 in
theorem w_consts : constsHeld consts_1 about1 := Jvm.Lit.constsHeldB_iff.mp (by decide +kernel)
theorem w_applies : (headSpec (Jvm.Cond.code x code maxLocals ret :: tables_1) room_1).applies x e0.platform about1 = true :=
  (Spec.applies_iff w_frames).mpr ⟨w_running, w_runnable, w_alone, w_named, w_hears, w_ripe, w_room, w_tables⟩
set_option maxRecDepth 65536 in
theorem atStart : AtStart classFile x code maxLocals ret World_1 tables_1 room_1 Calls_1 rest_1 Pre_1 launch0 p0 e0 about1 theMethod args0 below0 :=
  ⟨lists_1, trivial, launch0.admits_env _ _ _, launch0.least_env, fairChoices_fair.cas, fairChoices_fair.clock, w_frames, w_args, w_heap, w_applies, ⟨w_consts, trivial⟩, w_rest, w_case⟩
end start1
theorem witness_1 : WitnessClaimed_1 := ⟨start1.p0, start1.e0, start1.about1, start1.theMethod, start1.args0, start1.below0, start1.atStart⟩
end Jvm.Pilot.@@N@@
