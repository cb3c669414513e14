import JvmDerived
import JvmDerived.Pilot.@@N@@Statement
import JvmDerived.Pilot.@@N@@Code
set_option linter.unusedVariables false
set_option linter.unusedSimpArgs false
namespace Jvm.OwnGo
open Jvm Jvm.ClassFile Sem Op Lib Jvm.Free Jvm.Stand Jvm.LawKit Jvm.RoadKit
/-- the setting of one body's run -/
def Cx (p : Program) (l : Launch) (e : Env) (R : Room) (s : State) (m : MethodId) (meth : Method) (c : Code) (Z : State) (n0 : Nat) (y : MethodName) (code : ByteArray) (ml : Nat) (ret : Option FieldType) : Prop :=
  p.tables.exec = Jvm.exec ∧ Z.Warmed39 s.vm ∧ s.vm.findClass y.cls = some m.cls ∧ c.code = code ∧ c.maxLocals = ml ∧ meth.sig.returnType = ret ∧ meth.locks = false ∧ meth.name = y.name ∧ Old Z n0 s.heap
/-- from pc, with these locals, this stack and this heap, the body of y returns, Q holds of what it returns and leaves, and it has written in cells at or above n0 alone -/
def Go (l : Launch) (R : Room) (Z : State) (n0 : Nat) (y : MethodName) (code : ByteArray) (ml : Nat) (ret : Option FieldType) (Q : Option Value → Heap → Prop) (cells slots : Nat) (h : Heap) (pc : Nat) (Ls : Array Slot) (st : List Value) : Prop :=
  ∀ (p : Program) (e : Env) (s : State) (m : MethodId) (args : Array Value) (below : List Frame) (meth : Method) (c : Code) (T : State) (locs : List Loc),
    Cx p l e R s m meth c Z n0 y code ml ret → Stand p l e R s m args below meth c T locs cells slots → Fr n0 locs → T.heap = h →
    ∃ s₂ o, Steps p.tables e below (T.setTop (mkF m pc Ls st)) s₂ ∧ s₂.status = .running ∧ Ended s₂ below o ∧ ∃ v L, o = .returned v ∧ (Q v s₂.heap ∧ Fr n0 L) ∧ FrameEnd s o s₂ L R.cells R.slots
/-- what a body called with these arguments at the heap h does -/
def Con (l : Launch) (y : MethodName) (code : ByteArray) (ml : Nat) (ret : Option FieldType) (R : Room) (Z : State) (n0 : Nat) (as : Array Value) (h : Heap) (Q : Option Value → Heap → Prop) : Prop :=
  Old Z n0 h → ∀ ws, MetFree l y (head1 (Jvm.Cond.code y code ml ret :: ws) R) (fun a U => a = as ∧ Z.Warmed39 U.vm ∧ U.heap = h) (fun _ _ _ _ _ => True)
    (fun _ U o U' => ∃ v L, o = .returned v ∧ (Q v U'.heap ∧ Fr n0 L) ∧ FrameEnd U o U' L R.cells R.slots)
def Mi (Z : State) (C : String) (mr : Addr) : Prop := ∃ (c : ClassId) (k : Class), Z.vm.findClass C = some c ∧ Z.vm.classes[c]? = some k ∧ k.mirror = some mr
theorem Mi.at {Z s : State} {C : String} {mr : Addr} (M : Mi Z C mr) (hZ : Z.Warmed39 s.vm) : ∃ (c : ClassId) (k : Class), s.vm.findClass C = some c ∧ s.vm.classes[c]? = some k ∧ k.mirror = some mr := by
  obtain ⟨c, k, m1, m2, m3⟩ := M
  obtain ⟨k', q, ek⟩ := hZ.alike.2.2 _ _ m2
  exact ⟨c, k', by rw [hZ.alike.findClass]; exact m1, q, by rw [ek]; exact m3⟩
theorem own_sto {Z : State} {h : Heap} {a b : Addr} {kA : ClassId} {ty : FieldType} {z : Int32} {vs : List Value} {dv : Value} {C : String} (F : Arv Z h a kA ty z vs dv) (O : Ovr Z kA C) (I : Ins Z h b C true) : Sto Z h a (.ref b) := by
  obtain ⟨c, A, q, -⟩ := F; exact Sto.ofV A q O I
theorem own_fuq {Z : State} {h : Heap} {a : Addr} {O n d : String} {v v' : Value} (F : Fld Z h a O n d v) (G : Fld Z h a O n d v') : v = v' := by
  obtain ⟨c1, x1, k1, i1, f1, g1, g2, -, -, -, -, g7⟩ := F
  obtain ⟨c2, x2, k2, i2, f2, h1, h2, -, -, -, -, h7⟩ := G
  cases g1.symm.trans h1
  cases g2.symm.trans h2
  exact Option.some.inj (g7.symm.trans h7)
theorem own_fne {Z : State} {h : Heap} {a b : Addr} {O n d : String} {v v' : Value} (F : Fld Z h a O n d v) (G : Fld Z h b O n d v') (ne : v ≠ v') : a ≠ b := fun q => ne (own_fuq F (q ▸ G))
theorem own_same {Z : State} {h : Heap} {a c b1 b2 : Addr} {O n d : String} {k1 k2 : ClassId} {t1 t2 : FieldType} {z1 z2 : Int32} {v1 v2 : List Value} {d1 d2 : Value} (hab : a = c) (F1 : Fld Z h a O n d (.ref b1)) (F2 : Fld Z h c O n d (.ref b2)) (A1 : Arv Z h b1 k1 t1 z1 v1 d1) (A2 : Arv Z h b2 k2 t2 z2 v2 d2) :
    z1.toNatClampNeg = z2.toNatClampNeg ∧ ∀ j, j < z1.toNatClampNeg → v1.getD j d1 = v2.getD j d2 := by
  subst hab
  cases own_fuq F1 F2
  obtain ⟨c1, ⟨q1, -⟩, -, S1, -, H1, -⟩ := A1
  obtain ⟨c2, ⟨q2, -⟩, -, S2, -, H2, -⟩ := A2
  cases q1.symm.trans q2
  exact ⟨S1.symm.trans S2, fun j hj => Option.some.inj ((H1 j (S1 ▸ hj)).symm.trans (H2 j (S1 ▸ hj)))⟩
theorem own_nar (t : FieldType) {v : Value} (h : v.isRef = true) : narrow t v = v := by cases v <;> first | rfl | (cases t <;> rfl) | (simp [Value.isRef] at h)
theorem own_fits {t : FieldType} {v : Value} (ht : t.isReference = true) (h : v.isRef = true) : fits t v = true := by cases t <;> first | (cases ht; done) | (cases v <;> first | rfl | (simp [Value.isRef] at h))
theorem own_old {p : Program} {l : Launch} {e : Env} {R : Room} {s : State} {m : MethodId} {args : Array Value} {below : List Frame} {meth : Method} {c : Code} {T : State} {locs : List Loc} {cells slots n0 : Nat} {Z : State} {h : Heap} (O : Old Z n0 s.heap) (X : Stand p l e R s m args below meth c T locs cells slots) (N : Fr n0 locs) (eT : T.heap = h) : Old Z n0 h := by
  subst eT
  obtain ⟨-, g1, -, -, -, g2⟩ := X.same
  refine ⟨O.1, Nat.le_trans O.2.1 g1, fun a c ha => ?_⟩
  obtain ⟨c', q1, q2, q3, q4⟩ := g2 a c (O.2.2 a c ha)
  have hlt : a < n0 := O.1 ▸ (Array.getElem?_eq_some_iff.mp ha).1
  have e1 : c'.slots = c.slots := Array.ext_getElem? fun i => q4 i fun hm => absurd (N _ hm) (Nat.not_le.mpr hlt)
  have e2 : c' = c := by rw [q2, e1]
  rw [← e2]; exact q1
section Rules
variable {l : Launch} {R : Room} {Z : State} {n0 : Nat} {y : MethodName} {code : ByteArray} {ml : Nat} {ret : Option FieldType} {Q : Option Value → Heap → Prop} {cells slots : Nat} {h : Heap} {pc pc' : Nat} {Ls Ls' : Array Slot} {st st' rest : List Value} {a0 : Array Value}
theorem Con.of_go {as : Array Value} (hp : plainFor y = true) (he : ∀ m, entryFrame m as ml = mkF m 0 Ls []) (k : Go l R Z n0 y code ml ret Q 0 0 h 0 Ls []) : Con l y code ml ret R Z n0 as h Q := by
  intro hn ws
  refine MetFree.of_bodySF hp hisR ?_
  intro p e s m args below meth c s₁ Bd hml0 hP hK
  obtain ⟨rfl, hZ, hh⟩ := hP
  have e0 : s₁.heap = h := by rw [← hh, Bd.state]; rfl
  have X0 : Stand p l e R s m args below meth c s₁ [] 0 0 := Stand.of_body Bd
  obtain ⟨s₂, o, h1, h2, h3, h4⟩ := k p e s m args below meth c s₁ [] ⟨Bd.exec, hZ, findClass_of_methodNamed Bd.named, Bd.bytes, hml0, Bd.returns, Bd.notSynchronized, (name_of_methodNamed Bd.named Bd.method).1, by rw [hh]; exact hn⟩ X0 (Fr.nil n0) e0
  exact ⟨s₂, o, castTop (he m) h1, h2, h3, h4⟩
theorem Con.mono {as : Array Value} {Q' : Option Value → Heap → Prop} (k : Con l y code ml ret R Z n0 as h Q) (hq : ∀ v h', Q v h' → Q' v h') : Con l y code ml ret R Z n0 as h Q' := by
  intro hn ws
  refine (k hn ws).mono (fun _ _ q => q) (fun _ _ _ _ _ q => q) ?_
  rintro a U o U' hP ⟨v, L, e, ⟨q, N⟩, r⟩
  exact ⟨v, L, e, ⟨hq _ _ q, N⟩, r⟩
theorem Go.mono {Q' : Option Value → Heap → Prop} (k : Go l R Z n0 y code ml ret Q' cells slots h pc Ls st) (hq : ∀ v h', Q' v h' → Q v h') : Go l R Z n0 y code ml ret Q cells slots h pc Ls st := by
  intro p e s m args below meth c T locs C X N eT
  obtain ⟨s₂, o, h1, h2, h3, v, L, h4, ⟨h5, h6⟩, h7⟩ := k p e s m args below meth c T locs C X N eT
  exact ⟨s₂, o, h1, h2, h3, v, L, h4, ⟨hq _ _ h5, h6⟩, h7⟩
theorem Go.more {cells' slots' : Nat} (k : Go l R Z n0 y code ml ret Q cells' slots' h pc Ls st) (hc : cells ≤ cells') (hs : slots ≤ slots') : Go l R Z n0 y code ml ret Q cells slots h pc Ls st := by
  intro p e s m args below meth c T locs C X N eT
  exact k p e s m args below meth c T locs C (X.more hc hs) N eT
theorem Go.old (k : Old Z n0 h → Go l R Z n0 y code ml ret Q cells slots h pc Ls st) : Go l R Z n0 y code ml ret Q cells slots h pc Ls st := by
  intro p e s m args below meth c T locs C X N eT
  exact k (own_old C.2.2.2.2.2.2.2.2 X N eT) p e s m args below meth c T locs C X N eT
theorem Go.step (hst : ∀ {p : Program} {e : Env} {s : State} {m : MethodId} {args : Array Value} {below : List Frame} {meth : Method} {c : Code} {T : State} {locs : List Loc} {target : State},
      Cx p l e R s m meth c Z n0 y code ml ret → Stand p l e R s m args below meth c T locs cells slots → T.heap = h → Steps p.tables e below (T.setTop (mkF m pc' Ls' st')) target → Steps p.tables e below (T.setTop (mkF m pc Ls st)) target)
    (k : Go l R Z n0 y code ml ret Q cells slots h pc' Ls' st') : Go l R Z n0 y code ml ret Q cells slots h pc Ls st := by
  intro p e s m args below meth c T locs C X N eT
  obtain ⟨s₂, o, h1, h2⟩ := k p e s m args below meth c T locs C X N eT
  exact ⟨s₂, o, hst C X eT h1, h2⟩
theorem Go.law {cells' slots' : Nat} {P : Heap → Prop} (hst : ∀ {p : Program} {e : Env} {s : State} {m : MethodId} {args : Array Value} {below : List Frame} {meth : Method} {c : Code} {T : State} {locs : List Loc},
      Cx p l e R s m meth c Z n0 y code ml ret → Stand p l e R s m args below meth c T locs cells slots → Fr n0 locs → T.heap = h → n0 ≤ h.size →
      ∃ T' locs' h', Stand p l e R s m args below meth c T' locs' cells' slots' ∧ Fr n0 locs' ∧ T'.heap = h' ∧ P h' ∧ ∀ target, Steps p.tables e below (T'.setTop (mkF m pc' Ls' st')) target → Steps p.tables e below (T.setTop (mkF m pc Ls st)) target)
    (k : ∀ h', P h' → Go l R Z n0 y code ml ret Q cells' slots' h' pc' Ls' st') : Go l R Z n0 y code ml ret Q cells slots h pc Ls st := by
  intro p e s m args below meth c T locs C X N eT
  have hold : Old Z n0 h := own_old C.2.2.2.2.2.2.2.2 X N eT
  obtain ⟨T', locs', h', X', N', e', hP, st⟩ := hst C X N eT (hold.1 ▸ hold.2.1)
  obtain ⟨s₂, o, h1, h2⟩ := k h' hP p e s m args below meth c T' locs' C X' N' e'
  exact ⟨s₂, o, st _ h1, h2⟩
theorem Go.iloadN {k : Fin 4} {v : Int32} (hd : decode code pc = .ok (.iload_n k, 1)) (hl : Ls[k.val]? = some (.val (.int v))) (hp : pc + 1 = pc') (k : Go l R Z n0 y code ml ret Q cells slots h pc' Ls (.int v :: st)) : Go l R Z n0 y code ml ret Q cells slots h pc Ls st := Go.step (fun C X _ q => by subst hp; exact XS.iloadN X.here C.1 rfl (hb C.2.2.2.1 hd) hl q) k
theorem Go.iload {k : Nat} {v : Int32} (hd : decode code pc = .ok (.iload k, 2)) (hl : Ls[k]? = some (.val (.int v))) (hp : pc + 2 = pc') (k : Go l R Z n0 y code ml ret Q cells slots h pc' Ls (.int v :: st)) : Go l R Z n0 y code ml ret Q cells slots h pc Ls st := Go.step (fun C X _ q => by subst hp; exact XS.iload X.here C.1 rfl (hb C.2.2.2.1 hd) hl q) k
theorem Go.aloadN {k : Fin 4} {v : Value} (hd : decode code pc = .ok (.aload_n k, 1)) (hl : Ls[k.val]? = some (.val v)) (hv : v.isRef = true) (hp : pc + 1 = pc') (k : Go l R Z n0 y code ml ret Q cells slots h pc' Ls (v :: st)) : Go l R Z n0 y code ml ret Q cells slots h pc Ls st := Go.step (fun C X _ q => by subst hp; exact XS.aloadN X.here C.1 rfl (hb C.2.2.2.1 hd) hl hv q) k
theorem Go.aload {k : Nat} {v : Value} (hd : decode code pc = .ok (.aload k, 2)) (hl : Ls[k]? = some (.val v)) (hv : v.isRef = true) (hp : pc + 2 = pc') (k : Go l R Z n0 y code ml ret Q cells slots h pc' Ls (v :: st)) : Go l R Z n0 y code ml ret Q cells slots h pc Ls st := Go.step (fun C X _ q => by subst hp; exact XS.aload X.here C.1 rfl (hb C.2.2.2.1 hd) hl hv q) k
theorem Go.istoreN {k : Fin 4} {v : Int32} (hd : decode code pc = .ok (.istore_n k, 1)) (hl : storeLocals Ls k.val (.int v) = some Ls') (hp : pc + 1 = pc') (k : Go l R Z n0 y code ml ret Q cells slots h pc' Ls' st) : Go l R Z n0 y code ml ret Q cells slots h pc Ls (.int v :: st) := Go.step (fun C X _ q => by subst hp; exact XS.istoreN X.here C.1 rfl (hb C.2.2.2.1 hd) rfl hl q) k
theorem Go.istore {k : Nat} {v : Int32} (hd : decode code pc = .ok (.istore k, 2)) (hl : storeLocals Ls k (.int v) = some Ls') (hp : pc + 2 = pc') (k : Go l R Z n0 y code ml ret Q cells slots h pc' Ls' st) : Go l R Z n0 y code ml ret Q cells slots h pc Ls (.int v :: st) := Go.step (fun C X _ q => by subst hp; exact XS.istore X.here C.1 rfl (hb C.2.2.2.1 hd) rfl hl q) k
theorem Go.astoreN {k : Fin 4} {v : Value} (hd : decode code pc = .ok (.astore_n k, 1)) (hv : v.isRef = true) (hl : storeLocals Ls k.val v = some Ls') (hp : pc + 1 = pc') (k : Go l R Z n0 y code ml ret Q cells slots h pc' Ls' st) : Go l R Z n0 y code ml ret Q cells slots h pc Ls (v :: st) := Go.step (fun C X _ q => by subst hp; exact XS.astoreN X.here C.1 rfl (hb C.2.2.2.1 hd) rfl hv hl q) k
theorem Go.astore {k : Nat} {v : Value} (hd : decode code pc = .ok (.astore k, 2)) (hv : v.isRef = true) (hl : storeLocals Ls k v = some Ls') (hp : pc + 2 = pc') (k : Go l R Z n0 y code ml ret Q cells slots h pc' Ls' st) : Go l R Z n0 y code ml ret Q cells slots h pc Ls (v :: st) := Go.step (fun C X _ q => by subst hp; exact XS.astore X.here C.1 rfl (hb C.2.2.2.1 hd) rfl hv hl q) k
theorem Go.iconst {i : Int} {v : Int32} (hd : decode code pc = .ok (.iconst i, 1)) (hv : Int32.ofInt i = v) (hp : pc + 1 = pc') (k : Go l R Z n0 y code ml ret Q cells slots h pc' Ls (.int v :: st)) : Go l R Z n0 y code ml ret Q cells slots h pc Ls st := Go.step (fun C X _ q => by subst hp; exact (by subst hv; exact XS.iconst X.here C.1 rfl (hb C.2.2.2.1 hd) q)) k
theorem Go.bipush {i : Int} {v : Int32} (hd : decode code pc = .ok (.bipush i, 2)) (hv : (Int8.ofInt i).toInt32 = v) (hp : pc + 2 = pc') (k : Go l R Z n0 y code ml ret Q cells slots h pc' Ls (.int v :: st)) : Go l R Z n0 y code ml ret Q cells slots h pc Ls st := Go.step (fun C X _ q => by subst hp; exact (by subst hv; exact XS.bipush X.here C.1 rfl (hb C.2.2.2.1 hd) q)) k
theorem Go.sipush {i : Int} {v : Int32} (hd : decode code pc = .ok (.sipush i, 3)) (hv : (Int16.ofInt i).toInt32 = v) (hp : pc + 3 = pc') (k : Go l R Z n0 y code ml ret Q cells slots h pc' Ls (.int v :: st)) : Go l R Z n0 y code ml ret Q cells slots h pc Ls st := Go.step (fun C X _ q => by subst hp; exact (by subst hv; exact XS.sipush X.here C.1 rfl (hb C.2.2.2.1 hd) q)) k
theorem Go.aconstNull (hd : decode code pc = .ok (.aconst_null, 1)) (hp : pc + 1 = pc') (k : Go l R Z n0 y code ml ret Q cells slots h pc' Ls (.null :: st)) : Go l R Z n0 y code ml ret Q cells slots h pc Ls st := Go.step (fun C X _ q => by subst hp; exact XS.aconstNull X.here C.1 rfl (hb C.2.2.2.1 hd) q) k
theorem Go.isub {a b : Int32} (hd : decode code pc = .ok (.isub, 1)) (hp : pc + 1 = pc') (k : Go l R Z n0 y code ml ret Q cells slots h pc' Ls (.int (a - b) :: st)) : Go l R Z n0 y code ml ret Q cells slots h pc Ls (.int b :: .int a :: st) := Go.step (fun C X _ q => by subst hp; exact XS.isub X.here C.1 rfl (hb C.2.2.2.1 hd) rfl q) k
theorem Go.iand {a b : Int32} (hd : decode code pc = .ok (.iand, 1)) (hp : pc + 1 = pc') (k : Go l R Z n0 y code ml ret Q cells slots h pc' Ls (.int (a &&& b) :: st)) : Go l R Z n0 y code ml ret Q cells slots h pc Ls (.int b :: .int a :: st) := Go.step (fun C X _ q => by subst hp; exact XS.iand X.here C.1 rfl (hb C.2.2.2.1 hd) rfl q) k
theorem Go.ishr {a b : Int32} (hd : decode code pc = .ok (.ishr, 1)) (hp : pc + 1 = pc') (k : Go l R Z n0 y code ml ret Q cells slots h pc' Ls (.int (a >>> (b &&& 31)) :: st)) : Go l R Z n0 y code ml ret Q cells slots h pc Ls (.int b :: .int a :: st) := Go.step (fun C X _ q => by subst hp; exact XT.ishr X.here C.1 rfl (hb C.2.2.2.1 hd) rfl q) k
theorem Go.iushr {a b : Int32} (hd : decode code pc = .ok (.iushr, 1)) (hp : pc + 1 = pc') (k : Go l R Z n0 y code ml ret Q cells slots h pc' Ls (.int (XT.ushr a b) :: st)) : Go l R Z n0 y code ml ret Q cells slots h pc Ls (.int b :: .int a :: st) := Go.step (fun C X _ q => by subst hp; exact XT.iushr X.here C.1 rfl (hb C.2.2.2.1 hd) rfl q) k
theorem Go.i2b {a : Int32} (hd : decode code pc = .ok (.i2b, 1)) (hp : pc + 1 = pc') (k : Go l R Z n0 y code ml ret Q cells slots h pc' Ls (.int a.toInt8.toInt32 :: st)) : Go l R Z n0 y code ml ret Q cells slots h pc Ls (.int a :: st) := Go.step (fun C X _ q => by subst hp; exact XT.i2b X.here C.1 rfl (hb C.2.2.2.1 hd) rfl q) k
theorem Go.i2c {a : Int32} (hd : decode code pc = .ok (.i2c, 1)) (hp : pc + 1 = pc') (k : Go l R Z n0 y code ml ret Q cells slots h pc' Ls (.int a.toUInt32.toUInt16.toUInt32.toInt32 :: st)) : Go l R Z n0 y code ml ret Q cells slots h pc Ls (.int a :: st) := Go.step (fun C X _ q => by subst hp; exact XT.i2c X.here C.1 rfl (hb C.2.2.2.1 hd) rfl q) k
theorem Go.iinc {k : Nat} {i : Int} {v w : Int32} (hd : decode code pc = .ok (.iinc k i, 3)) (hv : Int32.ofInt i = w) (hl : Ls[k]? = some (.val (.int v))) (hl' : storeLocals Ls k (.int (v + w)) = some Ls') (hp : pc + 3 = pc') (k : Go l R Z n0 y code ml ret Q cells slots h pc' Ls' st) : Go l R Z n0 y code ml ret Q cells slots h pc Ls st := Go.step (fun C X _ q => by subst hp; exact XT.iincV X.here C.1 rfl w (hb C.2.2.2.1 hd) hv hl hl' q) k
theorem Go.dup {v : Value} (hd : decode code pc = .ok (.dup, 1)) (hc : v.category = 1) (hp : pc + 1 = pc') (k : Go l R Z n0 y code ml ret Q cells slots h pc' Ls (v :: v :: st)) : Go l R Z n0 y code ml ret Q cells slots h pc Ls (v :: st) := Go.step (fun C X _ q => by subst hp; exact XS.dup X.here C.1 rfl (hb C.2.2.2.1 hd) rfl hc q) k
theorem Go.pop {v : Value} (hd : decode code pc = .ok (.pop, 1)) (hc : v.category = 1) (hp : pc + 1 = pc') (k : Go l R Z n0 y code ml ret Q cells slots h pc' Ls st) : Go l R Z n0 y code ml ret Q cells slots h pc Ls (v :: st) := Go.step (fun C X _ q => by subst hp; exact XT.pop X.here C.1 rfl (hb C.2.2.2.1 hd) rfl hc q) k
theorem Go.goto {o : Int} (hd : decode code pc = .ok (.goto o, 3)) (ho : 0 ≤ (pc : Int) + o := by decide) (hp : ((pc : Int) + o).toNat = pc' := by decide) (k : Go l R Z n0 y code ml ret Q cells slots h pc' Ls st) : Go l R Z n0 y code ml ret Q cells slots h pc Ls st := Go.step (fun C X _ q => XS.goto X.here C.1 rfl rfl (hb C.2.2.2.1 hd) ho hp q) k
theorem Go.ifYes {o : Int} {cd : ClassFile.Cond} {a : Int32} (hd : decode code pc = .ok (.ifCond cd o, 3)) (hc : ifCond.holds cd a = true) (ho : 0 ≤ (pc : Int) + o := by decide) (hp : ((pc : Int) + o).toNat = pc' := by decide) (k : Go l R Z n0 y code ml ret Q cells slots h pc' Ls st) : Go l R Z n0 y code ml ret Q cells slots h pc Ls (.int a :: st) := Go.step (fun C X _ q => XS.ifYes X.here C.1 rfl rfl (hb C.2.2.2.1 hd) rfl hc ho hp q) k
theorem Go.icmpYes {o : Int} {cd : ClassFile.Cond} {a b : Int32} (hd : decode code pc = .ok (.if_icmp cd o, 3)) (hc : if_icmp.holds cd a b = true) (ho : 0 ≤ (pc : Int) + o := by decide) (hp : ((pc : Int) + o).toNat = pc' := by decide) (k : Go l R Z n0 y code ml ret Q cells slots h pc' Ls st) : Go l R Z n0 y code ml ret Q cells slots h pc Ls (.int b :: .int a :: st) := Go.step (fun C X _ q => XS.icmpYes X.here C.1 rfl rfl (hb C.2.2.2.1 hd) rfl hc ho hp q) k
theorem Go.acmpYes {o : Int} {cd : ClassFile.ACond} {a b : Value} (hd : decode code pc = .ok (.if_acmp cd o, 3)) (ha : a.isRef = true) (hb' : b.isRef = true) (hc : XT.acmp cd a b = true) (ho : 0 ≤ (pc : Int) + o := by decide) (hp : ((pc : Int) + o).toNat = pc' := by decide) (k : Go l R Z n0 y code ml ret Q cells slots h pc' Ls st) : Go l R Z n0 y code ml ret Q cells slots h pc Ls (b :: a :: st) := Go.step (fun C X _ q => XT.acmpYes X.here C.1 rfl rfl (hb C.2.2.2.1 hd) rfl ha hb' hc ho hp q) k
theorem Go.nullYes {o : Int} {a : Value} (hd : decode code pc = .ok (.ifnull o, 3)) (hv : a = .null) (ho : 0 ≤ (pc : Int) + o := by decide) (hp : ((pc : Int) + o).toNat = pc' := by decide) (k : Go l R Z n0 y code ml ret Q cells slots h pc' Ls st) : Go l R Z n0 y code ml ret Q cells slots h pc Ls (a :: st) := Go.step (fun C X _ q => XT.nullYes X.here C.1 rfl rfl (hb C.2.2.2.1 hd) rfl hv ho hp q) k
theorem Go.nonnullYes {o : Int} {a : Value} (hd : decode code pc = .ok (.ifnonnull o, 3)) (ha : a.isRef = true) (hv : ¬ a = .null) (ho : 0 ≤ (pc : Int) + o := by decide) (hp : ((pc : Int) + o).toNat = pc' := by decide) (k : Go l R Z n0 y code ml ret Q cells slots h pc' Ls st) : Go l R Z n0 y code ml ret Q cells slots h pc Ls (a :: st) := Go.step (fun C X _ q => XT.nonnullYes X.here C.1 rfl rfl (hb C.2.2.2.1 hd) rfl ha hv ho hp q) k
theorem Go.ifNo {o : Int} {cd : ClassFile.Cond} {a : Int32} (hd : decode code pc = .ok (.ifCond cd o, 3)) (hc : ifCond.holds cd a = false) (hp : pc + 3 = pc') (k : Go l R Z n0 y code ml ret Q cells slots h pc' Ls st) : Go l R Z n0 y code ml ret Q cells slots h pc Ls (.int a :: st) := Go.step (fun C X _ q => by subst hp; exact XS.ifNo X.here C.1 rfl (hb C.2.2.2.1 hd) rfl hc q) k
theorem Go.icmpNo {o : Int} {cd : ClassFile.Cond} {a b : Int32} (hd : decode code pc = .ok (.if_icmp cd o, 3)) (hc : if_icmp.holds cd a b = false) (hp : pc + 3 = pc') (k : Go l R Z n0 y code ml ret Q cells slots h pc' Ls st) : Go l R Z n0 y code ml ret Q cells slots h pc Ls (.int b :: .int a :: st) := Go.step (fun C X _ q => by subst hp; exact XS.icmpNo X.here C.1 rfl (hb C.2.2.2.1 hd) rfl hc q) k
theorem Go.acmpNo {o : Int} {cd : ClassFile.ACond} {a b : Value} (hd : decode code pc = .ok (.if_acmp cd o, 3)) (ha : a.isRef = true) (hb' : b.isRef = true) (hc : XT.acmp cd a b = false) (hp : pc + 3 = pc') (k : Go l R Z n0 y code ml ret Q cells slots h pc' Ls st) : Go l R Z n0 y code ml ret Q cells slots h pc Ls (b :: a :: st) := Go.step (fun C X _ q => by subst hp; exact XT.acmpNo X.here C.1 rfl (hb C.2.2.2.1 hd) rfl ha hb' hc q) k
theorem Go.nullNo {o : Int} {a : Value} (hd : decode code pc = .ok (.ifnull o, 3)) (ha : a.isRef = true) (hv : ¬ a = .null) (hp : pc + 3 = pc') (k : Go l R Z n0 y code ml ret Q cells slots h pc' Ls st) : Go l R Z n0 y code ml ret Q cells slots h pc Ls (a :: st) := Go.step (fun C X _ q => by subst hp; exact XT.nullNo X.here C.1 rfl (hb C.2.2.2.1 hd) rfl ha hv q) k
theorem Go.getstatic {host : String} {R0 O n d : String} {i : Nat} (w : (Jvm.Cond.fieldLink y.cls i R0 n d).before a0 Z = true ∨ (Jvm.Cond.fieldLinkNest y.cls i R0 n d host).before a0 Z = true) (via : Via Z R0 O n d) {v : Value} (F : Sta Z h O n d v) (hd : decode code pc = .ok (.getstatic i, 3)) (hp : pc + 3 = pc') (k : Go l R Z n0 y code ml ret Q cells slots h pc' Ls (v :: st)) : Go l R Z n0 y code ml ret Q cells slots h pc Ls st := by
  refine Go.law (P := fun h' => h' = h) (fun C X N eT _ => ?_) (fun h' e => e ▸ k)
  subst hp
  obtain ⟨T', X', e', st⟩ := getS2 X C.1 C.2.1 C.2.2.1 w via eT F (g := mkF _ pc Ls st) rfl (hb C.2.2.2.1 hd)
  exact ⟨T', _, h, X', N, e', rfl, st⟩
theorem Go.getfield {host : String} {R0 O n d : String} {i : Nat} (w : (Jvm.Cond.fieldLink y.cls i R0 n d).before a0 Z = true ∨ (Jvm.Cond.fieldLinkNest y.cls i R0 n d host).before a0 Z = true) (via : Via Z R0 O n d) {v : Value} {a : Addr} (F : Fld Z h a O n d v) (hd : decode code pc = .ok (.getfield i, 3)) (hp : pc + 3 = pc') (k : Go l R Z n0 y code ml ret Q cells slots h pc' Ls (v :: st)) : Go l R Z n0 y code ml ret Q cells slots h pc Ls (.ref a :: st) := by
  refine Go.law (P := fun h' => h' = h) (fun C X N eT _ => ?_) (fun h' e => e ▸ k)
  subst hp
  obtain ⟨T', X', e', st⟩ := getF X C.1 C.2.1 C.2.2.1 w via eT F (g := mkF _ pc Ls (.ref a :: st)) rfl rfl (hb C.2.2.2.1 hd)
  exact ⟨T', _, h, X', N, e', rfl, st⟩
theorem Go.castY {K : String} {i : Nat} {a : Addr} (w : (Jvm.Cond.classLink y.cls i K).before a0 Z = true) (F : Ins Z h a K true) (hd : decode code pc = .ok (.checkcast i, 3)) (hp : pc + 3 = pc') (k : Go l R Z n0 y code ml ret Q cells slots h pc' Ls (.ref a :: st)) : Go l R Z n0 y code ml ret Q cells slots h pc Ls (.ref a :: st) := by
  refine Go.law (P := fun h' => h' = h) (fun C X N eT _ => ?_) (fun h' e => e ▸ k)
  subst hp
  obtain ⟨T', X', e', st⟩ := castY X C.1 C.2.1 C.2.2.1 w eT F (g := mkF _ pc Ls (.ref a :: st)) rfl rfl (hb C.2.2.2.1 hd)
  exact ⟨T', _, h, X', N, e', rfl, st⟩
theorem Go.instY {K : String} {i : Nat} {a : Addr} (w : (Jvm.Cond.classLink y.cls i K).before a0 Z = true) (F : Ins Z h a K true) (hd : decode code pc = .ok (.instanceof i, 3)) (hp : pc + 3 = pc') (k : Go l R Z n0 y code ml ret Q cells slots h pc' Ls (.int 1 :: st)) : Go l R Z n0 y code ml ret Q cells slots h pc Ls (.ref a :: st) := by
  refine Go.law (P := fun h' => h' = h) (fun C X N eT _ => ?_) (fun h' e => e ▸ k)
  subst hp
  obtain ⟨T', X', e', st⟩ := instY X C.1 C.2.1 C.2.2.1 w eT F (g := mkF _ pc Ls (.ref a :: st)) rfl rfl (hb C.2.2.2.1 hd)
  exact ⟨T', _, h, X', N, e', rfl, st⟩
theorem Go.initO {i : Nat} {a : Addr} (w1 : (Jvm.Cond.methodLink y.cls i Lib.objectInit).before a0 Z = true) (w2 : (Jvm.Cond.instanceMethod Lib.objectInit).before a0 Z = true) (w3 : (Jvm.Cond.code Lib.objectInit ⟨#[0xb1]⟩ 1 none).before a0 Z = true) (hd : decode code pc = .ok (.invokespecial i, 3)) (hz : Ls.size = ml) (hf : 1 ≤ R.frames := by decide) (hl : (st.map fun v => v.category).sum + 12 ≤ R.locals := by decide) (hp : pc + 3 = pc') (k : Go l R Z n0 y code ml ret Q cells slots h pc' Ls st) : Go l R Z n0 y code ml ret Q cells slots h pc Ls (.ref a :: st) := by
  refine Go.law (P := fun h' => h' = h) (fun C X N eT _ => ?_) (fun h' e => e ▸ k)
  subst hp
  obtain ⟨T', X', e', st⟩ := initO X C.1 C.2.1 C.2.2.1 w1 w2 w3 eT (g := mkF _ pc Ls (.ref a :: st)) rfl (by rw [C.2.2.2.2.1]; exact hz) rfl (hb C.2.2.2.1 hd) hf (W := (st.map fun v => v.category).sum) (by simp) hl
  exact ⟨T', _, h, X', N, e', rfl, st⟩
theorem Go.putfield {host : String} {R0 O n d : String} {i : Nat} (w : (Jvm.Cond.fieldLink y.cls i R0 n d).before a0 Z = true ∨ (Jvm.Cond.fieldLinkNest y.cls i R0 n d host).before a0 Z = true) {ty : FieldType} {C' : String} {kk : Nat} (via : Via Z R0 O n d) {v old : Value} {a : Addr} (F : Fld Z h a O n d old) (E : Exa Z h a C') (L : (Jvm.Cond.lays C' O n d).before a0 Z = true ∨ ((Jvm.Cond.laysFinal C' O n d).before a0 Z = true ∧ y.cls = O ∧ y.name = "<init>")) (wi : (Jvm.Cond.instantiable C' kk).before a0 Z = true) (hty : parseFieldDescriptor d = some ty) (hn : narrow ty v = v) (hf : fits ty v = true) (ha : n0 ≤ a) (hd : decode code pc = .ok (.putfield i, 3)) (hp : pc + 3 = pc') (k : ∀ h', Wr h h' a (Jvm.RoadKit.slotOf Z O n d) v → Go l R Z n0 y code ml ret Q cells slots h' pc' Ls st) : Go l R Z n0 y code ml ret Q cells slots h pc Ls (v :: .ref a :: st) := by
  refine Go.law (P := fun h' => Wr h h' a (Jvm.RoadKit.slotOf Z O n d) v) (fun C X N eT hn => ?_) (k)
  subst hp
  obtain ⟨T', h', X', e', W, st⟩ := putF X C.1 C.2.1 C.2.2.1 w via eT F E (L.imp id fun q => ⟨q.1, q.2.1, C.2.2.2.2.2.2.2.1.trans q.2.2⟩) wi hty ‹narrow ty v = v› hf (g := mkF _ pc Ls (v :: .ref a :: st)) rfl rfl (hb C.2.2.2.1 hd)
  exact ⟨T', _, h', X', Fr.snoc X' N ha, e', W, st⟩
theorem Go.putfieldN {R0 O n d : String} {i : Nat} (w : (Jvm.Cond.fieldLink y.cls i R0 n d).before a0 Z = true) {ty : FieldType} {C' : String} {kk : Nat} (via : Via Z R0 O n d) {v v' : Int32} {old : Value} {a : Addr} (F : Fld Z h a O n d old) (E : Exa Z h a C') (L : (Jvm.Cond.lays C' O n d).before a0 Z = true ∨ ((Jvm.Cond.laysFinal C' O n d).before a0 Z = true ∧ y.cls = O ∧ y.name = "<init>")) (wi : (Jvm.Cond.instantiable C' kk).before a0 Z = true) (hty : parseFieldDescriptor d = some ty) (hn : narrow ty (.int v) = .int v') (hf : fits ty (.int v') = true) (ha : n0 ≤ a) (hd : decode code pc = .ok (.putfield i, 3)) (hp : pc + 3 = pc') (k : ∀ h', Wr h h' a (Jvm.RoadKit.slotOf Z O n d) (.int v') → Go l R Z n0 y code ml ret Q cells slots h' pc' Ls st) : Go l R Z n0 y code ml ret Q cells slots h pc Ls (.int v :: .ref a :: st) := by
  refine Go.law (P := fun h' => Wr h h' a (Jvm.RoadKit.slotOf Z O n d) (.int v')) (fun C X N eT hn => ?_) (k)
  subst hp
  obtain ⟨T', h', X', e', W, st⟩ := putFN X C.1 C.2.1 C.2.2.1 w via eT F E (L.imp id fun q => ⟨q.1, q.2.1, C.2.2.2.2.2.2.2.1.trans q.2.2⟩) wi hty ‹narrow ty (.int v) = .int v'› hf (g := mkF _ pc Ls (.int v :: .ref a :: st)) rfl rfl (hb C.2.2.2.1 hd)
  exact ⟨T', _, h', X', Fr.snoc X' N ha, e', W, st⟩
theorem Go.new {C' : String} {i n cells' slots' : Nat} (w : (Jvm.Cond.classLink y.cls i C').before a0 Z = true) (wi : (Jvm.Cond.instantiable C' n).before a0 Z = true) (wz : (Jvm.Cond.initialized C').before a0 Z = true) (hd : decode code pc = .ok (.new i, 3)) (hc' : cells + 1 = cells') (hs' : slots + n = slots') (hc : cells' ≤ R.cells := by decide) (hl : slots' ≤ R.slots := by decide) (hp : pc + 3 = pc') (k : ∀ (h' : Heap) (b : Addr), b = h.size → Ext h h' → n0 ≤ b → Exa Z h' b C' → (∀ {O nm d : String} {ty : FieldType}, Laid Z a0 C' O nm d → parseFieldDescriptor d = some ty → Fld Z h' b O nm d (defaultValue ty)) → Go l R Z n0 y code ml ret Q cells' slots' h' pc' Ls (.ref b :: st)) : Go l R Z n0 y code ml ret Q cells slots h pc Ls st := by
  refine Go.law (P := fun h' => (Ext h h' ∧ n0 ≤ h.size ∧ Exa Z h' h.size C' ∧ ∀ {O nm d : String} {ty : FieldType}, Laid Z a0 C' O nm d → parseFieldDescriptor d = some ty → Fld Z h' h.size O nm d (defaultValue ty))) (fun C X N eT hn => ?_) (fun h' q => k h' h.size rfl q.1 q.2.1 q.2.2.1 q.2.2.2)
  subst hp
  subst hc' hs'
  obtain ⟨T', h', X', e', E, A, D, -, st⟩ := newO X C.1 C.2.1 C.2.2.1 w wi wz eT (g := mkF _ pc Ls st) rfl (hb C.2.2.2.1 hd) hc hl
  exact ⟨T', _, h', X', N, e', ⟨E, hn, A, D⟩, st⟩
theorem Go.newarray {aty : ArrayType} {ad : String} {n : Int32} {cap cells' slots' : Nat} (w : (Jvm.Cond.arrayClass (newarray.typeOf aty)).before a0 Z = true) (hd : decode code pc = .ok (.newarray aty, 2)) (had : "[" ++ (newarray.typeOf aty).toString = ad) (hn' : ¬ n < 0) (hcap : n.toNatClampNeg ≤ cap) (hc' : cells + 1 = cells') (hs' : slots + cap = slots') (hb8 : cap * 8 ≤ 536870912 := by decide) (hc : cells' ≤ R.cells := by decide) (hl : slots' ≤ R.slots := by decide) (hp : pc + 2 = pc') (k : ∀ (h' : Heap) (b : Addr), b = h.size → Ext h h' → n0 ≤ b → ∀ cA, Arv Z h' b cA (newarray.typeOf aty) n [] (defaultValue (newarray.typeOf aty)) → Exa Z h' b ad → Go l R Z n0 y code ml ret Q cells' slots' h' pc' Ls (.ref b :: st)) : Go l R Z n0 y code ml ret Q cells slots h pc Ls (.int n :: st) := by
  refine Go.law (P := fun h' => (Ext h h' ∧ n0 ≤ h.size ∧ ∃ cA, Arv Z h' h.size cA (newarray.typeOf aty) n [] (defaultValue (newarray.typeOf aty)) ∧ Exa Z h' h.size ad)) (fun C X N eT hn => ?_) (fun h' q => q.2.2.elim fun cA u => k h' h.size rfl q.1 q.2.1 cA u.1 u.2)
  subst hp
  subst hc' hs'
  obtain ⟨T', h', cA, X', e', E, A, A2, st⟩ := newPE X C.1 C.2.1 w eT (g := mkF _ pc Ls (.int n :: st)) rfl (hb C.2.2.2.1 hd) rfl hn' hcap hb8 hc hl had
  exact ⟨T', _, h', X', N, e', ⟨E, hn, cA, Arv.new A hn', A2⟩, st⟩
theorem Go.clone {i cap cells' slots' : Nat} {a : Addr} {ad : String} {kA : ClassId} {ty : FieldType} {z : Int32} {vs : List Value} {dv : Value} (w1 : (Jvm.Cond.methodLink y.cls i ⟨ad, "clone", "()Ljava/lang/Object;"⟩).before a0 Z = true) (w2 : (Jvm.Cond.sameMethod ad "java/lang/Object" "clone" "()Ljava/lang/Object;").before a0 Z = true) (w3 : (Jvm.Cond.native ⟨"java/lang/Object", "clone", "()Ljava/lang/Object;"⟩).before a0 Z = true) (w4 : (Jvm.Cond.instanceMethod ⟨"java/lang/Object", "clone", "()Ljava/lang/Object;"⟩).before a0 Z = true) (w5 : (Jvm.Cond.selects ad ⟨ad, "clone", "()Ljava/lang/Object;"⟩ ⟨"java/lang/Object", "clone", "()Ljava/lang/Object;"⟩).before a0 Z = true) (w6 : (Jvm.Cond.castable ad "java/lang/Cloneable").before a0 Z = true) (F : Arv Z h a kA ty z vs dv) (E : Exa Z h a ad) (hd : decode code pc = .ok (.invokevirtual i, 3)) (hz : Ls.size = ml) (hf : 1 ≤ R.frames) (hlo : (st.map fun v => v.category).sum + 14 ≤ R.locals) (hcap : z.toNatClampNeg ≤ cap) (hc' : cells + 1 = cells') (hs' : slots + cap = slots') (hc : cells' ≤ R.cells) (hsl : slots' ≤ R.slots) (hp : pc + 3 = pc') (k : ∀ (h' : Heap) (b : Addr), b = h.size → Ext h h' → n0 ≤ b → Arv Z h' b kA ty z vs dv → Exa Z h' b ad → Go l R Z n0 y code ml ret Q cells' slots' h' pc' Ls (.ref b :: st)) : Go l R Z n0 y code ml ret Q cells slots h pc Ls (.ref a :: st) := by
  refine Go.law (P := fun h' => (Ext h h' ∧ n0 ≤ h.size ∧ Arv Z h' h.size kA ty z vs dv ∧ Exa Z h' h.size ad)) (fun C X N eT hn => ?_) (fun h' q => k h' h.size rfl q.1 q.2.1 q.2.2.1 q.2.2.2)
  subst hp
  subst hc' hs'
  obtain ⟨cl, A, q1, S, q3, H, G⟩ := F
  have FC : FitC Z cl := fitC_of A fun i hi v hv => by rw [H i hi] at hv; cases hv; exact G i hi
  obtain ⟨T', h', X', e', ex, A', E', st⟩ := cloneA X C.1 C.2.1 C.2.2.1 w1 w2 w3 w4 w5 w6 eT A E FC (g := mkF _ pc Ls (.ref a :: st)) rfl (by rw [C.2.2.2.2.1]; exact hz) rfl (hb C.2.2.2.1 hd) hf (W := (st.map fun v => v.category).sum) (by simp) hlo (by rw [S]; exact hcap) hc hsl
  exact ⟨T', _, h', X', N, e', ⟨ex, hn, ⟨cloneOf cl, A', q1, S, q3, H, G⟩, E'⟩, st⟩
theorem Go.castore {a : Addr} {kA : ClassId} {z j : Int32} {vs : List Value} {dv : Value} {v : Int32} {i : Nat} (F : Arv Z h a kA .char z vs dv) (ha : n0 ≤ a) (hd : decode code pc = .ok (.castore, 1)) (hj : ¬ j < 0) (hjz : j < z) (hi : j.toNatClampNeg = i) (hil : i < vs.length) (hp : pc + 1 = pc') (k : ∀ h', Wr h h' a i (.int (nar .char v)) → Arv Z h' a kA .char z (vs.set i (.int (nar .char v))) dv → Go l R Z n0 y code ml ret Q cells slots h' pc' Ls st) : Go l R Z n0 y code ml ret Q cells slots h pc Ls (.int v :: .int j :: .ref a :: st) := by
  refine Go.law (P := fun h' => (Wr h h' a i (.int (nar .char v)) ∧ Arv Z h' a kA .char z (vs.set i (.int (nar .char v))) dv)) (fun C X N eT hn => ?_) (fun h' q => k h' q.1 q.2)
  subst hp
  obtain ⟨cl, A, q1, S, q3, H, G⟩ := F
  obtain ⟨T', h', X', e', W, st⟩ := stC X C.1 C.2.1 eT A (j := j) (inb_of S ⟨hj, hjz⟩) (g := mkF _ pc Ls (.int v :: .int j :: .ref a :: st)) rfl rfl (hb C.2.2.2.1 hd)
  have V := Arv.set A q1 S q3 H G (fits_nar_char v) W i hi hil
  subst hi
  exact ⟨T', _, h', X', Fr.snoc X' N ha, e', ⟨W, V⟩, st⟩
theorem Go.bastore {a : Addr} {kA : ClassId} {z j : Int32} {vs : List Value} {dv : Value} {v : Int32} {i : Nat} (F : Arv Z h a kA .byte z vs dv) (ha : n0 ≤ a) (hd : decode code pc = .ok (.bastore, 1)) (hj : ¬ j < 0) (hjz : j < z) (hi : j.toNatClampNeg = i) (hil : i < vs.length) (hp : pc + 1 = pc') (k : ∀ h', Wr h h' a i (.int v.toInt8.toInt32) → Arv Z h' a kA .byte z (vs.set i (.int v.toInt8.toInt32)) dv → Go l R Z n0 y code ml ret Q cells slots h' pc' Ls st) : Go l R Z n0 y code ml ret Q cells slots h pc Ls (.int v :: .int j :: .ref a :: st) := by
  refine Go.law (P := fun h' => (Wr h h' a i (.int v.toInt8.toInt32) ∧ Arv Z h' a kA .byte z (vs.set i (.int v.toInt8.toInt32)) dv)) (fun C X N eT hn => ?_) (fun h' q => k h' q.1 q.2)
  subst hp
  obtain ⟨cl, A, q1, S, q3, H, G⟩ := F
  obtain ⟨T', h', X', e', W, st⟩ := stB X C.1 C.2.1 eT A (j := j) (inb_of S ⟨hj, hjz⟩) (g := mkF _ pc Ls (.int v :: .int j :: .ref a :: st)) rfl rfl (hb C.2.2.2.1 hd)
  have V := Arv.set A q1 S q3 H G (fits_nar_byte v) W i hi hil
  subst hi
  exact ⟨T', _, h', X', Fr.snoc X' N ha, e', ⟨W, V⟩, st⟩
theorem Go.caload {a : Addr} {kA : ClassId} {z j : Int32} {vs : List Value} {dv : Value} {v : Int32} (F : Arv Z h a kA .char z vs dv) (hd : decode code pc = .ok (.caload, 1)) (hj : ¬ j < 0) (hjz : j < z) (hv : vs.getD j.toNatClampNeg dv = .int v) (hp : pc + 1 = pc') (k : Go l R Z n0 y code ml ret Q cells slots h pc' Ls (.int v :: st)) : Go l R Z n0 y code ml ret Q cells slots h pc Ls (.int j :: .ref a :: st) := by
  refine Go.step (fun C X eT q => ?_) k
  subst hp
  obtain ⟨cl, A, q1, S, q3, H, G⟩ := F
  have hin := inb_of S ⟨hj, hjz⟩
  exact X.caload C.1 (j := j) (v := .int v) (by rw [eT]; exact A.1) (State.isArrayOf_alike C.2.1.alike A.2.1) A.2.2 hin (Has.at H hin hv) (g := mkF _ pc Ls (.int j :: .ref a :: st)) rfl rfl (hb C.2.2.2.1 hd) _ q
theorem Go.baload {a : Addr} {kA : ClassId} {z j : Int32} {vs : List Value} {dv : Value} {v : Int32} (F : Arv Z h a kA .byte z vs dv) (hd : decode code pc = .ok (.baload, 1)) (hj : ¬ j < 0) (hjz : j < z) (hv : vs.getD j.toNatClampNeg dv = .int v) (hp : pc + 1 = pc') (k : Go l R Z n0 y code ml ret Q cells slots h pc' Ls (.int v :: st)) : Go l R Z n0 y code ml ret Q cells slots h pc Ls (.int j :: .ref a :: st) := by
  refine Go.step (fun C X eT q => ?_) k
  subst hp
  obtain ⟨cl, A, q1, S, q3, H, G⟩ := F
  have hin := inb_of S ⟨hj, hjz⟩
  exact X.baloadBytes C.1 (j := j) (v := .int v) (by rw [eT]; exact A.1) (State.isArrayOf_alike C.2.1.alike A.2.1) A.2.2 hin (Has.at H hin hv) (g := mkF _ pc Ls (.int j :: .ref a :: st)) rfl rfl (hb C.2.2.2.1 hd) _ q
theorem Go.aaload {a : Addr} {kA : ClassId} {z j : Int32} {vs : List Value} {dv : Value} {v : Value} {ty : FieldType} (F : Arv Z h a kA ty z vs dv) (hty : ty.isReference = true) (hd : decode code pc = .ok (.aaload, 1)) (hj : ¬ j < 0) (hjz : j < z) (hv : vs.getD j.toNatClampNeg dv = v) (hp : pc + 1 = pc') (k : Go l R Z n0 y code ml ret Q cells slots h pc' Ls (v :: st)) : Go l R Z n0 y code ml ret Q cells slots h pc Ls (.int j :: .ref a :: st) := by
  refine Go.step (fun C X eT q => ?_) k
  subst hp
  obtain ⟨cl, A, q1, S, q3, H, G⟩ := F
  have hin := inb_of S ⟨hj, hjz⟩
  exact X.aaload C.1 (j := j) (v := v) (by rw [eT]; exact A.1) (State.isArrayOf_alike C.2.1.alike A.2.1) hty A.2.2 hin (Has.at H hin hv) (g := mkF _ pc Ls (.int j :: .ref a :: st)) rfl rfl (hb C.2.2.2.1 hd) _ q
theorem Go.arraylength {a : Addr} {kA : ClassId} {ty : FieldType} {z : Int32} {vs : List Value} {dv : Value} (F : Arv Z h a kA ty z vs dv) (hd : decode code pc = .ok (.arraylength, 1)) (hp : pc + 1 = pc') (k : Go l R Z n0 y code ml ret Q cells slots h pc' Ls (.int z :: st)) : Go l R Z n0 y code ml ret Q cells slots h pc Ls (.ref a :: st) := by
  refine Go.step (fun C X eT q => ?_) k
  subst hp
  obtain ⟨cl, A, q1, S, q3, H, G⟩ := F
  refine X.arraylength C.1 (by rw [eT]; exact A.1) (State.isArrayOf_alike C.2.1.alike A.2.1) (g := mkF _ pc Ls (.ref a :: st)) rfl rfl (hb C.2.2.2.1 hd) _ ?_
  rw [len_of S q3]
  exact q
theorem Go.retV (hr : ret = none) (hd : decode code pc = .ok (.return_, 1)) (hq : Q none h) (hc : cells ≤ R.cells := by decide) (hs : slots ≤ R.slots := by decide) : Go l R Z n0 y code ml ret Q cells slots h pc Ls [] := by
  intro p e s m args below meth c T locs C X N eT
  obtain ⟨fs, hr', hrun, hended, hW, hsame⟩ := X.leave (v := none) (fun _ => rfl) C.2.2.2.2.2.2.1
  refine ⟨_, _, X.returnOut C.1 (C.2.2.2.2.2.1.trans hr) (hb C.2.2.2.1 hd) hr', hrun, hended, _, locs, rfl, ⟨?_, N⟩, ⟨_, rfl⟩, hW, hsame.mono hc hs⟩
  show Q _ T.heap
  rw [eT]; exact hq
theorem Go.retN {t : FieldType} {v : Int32} (hr : ret = some t) (ht : t = .boolean ∨ t = .byte ∨ t = .char ∨ t = .short) (hd : decode code pc = .ok (.ireturn, 1)) (hq : Q (some (.int (nar t v))) h) (hc : cells ≤ R.cells := by decide) (hs : slots ≤ R.slots := by decide) : Go l R Z n0 y code ml ret Q cells slots h pc Ls (.int v :: st) := by
  intro p e s m args below meth c T locs C X N eT
  obtain ⟨fs, hr', hrun, hended, hW, hsame⟩ := X.leave (v := some (.int (nar t v))) (fun q => by rw [C.2.2.2.2.2.1, hr] at q; cases q) C.2.2.2.2.2.2.1
  refine ⟨_, _, Jvm.RoadKit.retN X C.1 (C.2.2.2.2.2.1.trans hr) ht (hb C.2.2.2.1 hd) hr', hrun, hended, _, locs, rfl, ⟨?_, N⟩, ⟨_, rfl⟩, hW, hsame.mono hc hs⟩
  show Q _ T.heap
  rw [eT]; exact hq
theorem Go.retI {v : Int32} (hr : ret = some .int) (hd : decode code pc = .ok (.ireturn, 1)) (hq : Q (some (.int v)) h) (hc : cells ≤ R.cells := by decide) (hs : slots ≤ R.slots := by decide) : Go l R Z n0 y code ml ret Q cells slots h pc Ls (.int v :: st) := by
  intro p e s m args below meth c T locs C X N eT
  obtain ⟨fs, hr', hrun, hended, hW, hsame⟩ := X.leave (v := some (.int v)) (fun q => by rw [C.2.2.2.2.2.1, hr] at q; cases q) C.2.2.2.2.2.2.1
  refine ⟨_, _, retOut X C.1 (C.2.2.2.2.2.1.trans hr) rfl (Or.inl ⟨rfl, Or.inl rfl, _, rfl⟩) (hb C.2.2.2.1 hd) hr', hrun, hended, _, locs, rfl, ⟨?_, N⟩, ⟨_, rfl⟩, hW, hsame.mono hc hs⟩
  show Q _ T.heap
  rw [eT]; exact hq
theorem Go.retR {t : FieldType} {v : Value} (hr : ret = some t) (ht : t.isReference = true) (hv : v.isRef = true) (hn : narrow t v = v) (hd : decode code pc = .ok (.areturn, 1)) (hq : Q (some v) h) (hc : cells ≤ R.cells := by decide) (hs : slots ≤ R.slots := by decide) : Go l R Z n0 y code ml ret Q cells slots h pc Ls (v :: st) := by
  intro p e s m args below meth c T locs C X N eT
  obtain ⟨fs, hr', hrun, hended, hW, hsame⟩ := X.leave (v := some v) (fun q => by rw [C.2.2.2.2.2.1, hr] at q; cases q) C.2.2.2.2.2.2.1
  refine ⟨_, _, retOut X C.1 (C.2.2.2.2.2.1.trans hr) hn (Or.inr (Or.inr (Or.inr (Or.inr ⟨rfl, ht, hv⟩)))) (hb C.2.2.2.1 hd) hr', hrun, hended, _, locs, rfl, ⟨?_, N⟩, ⟨_, rfl⟩, hW, hsame.mono hc hs⟩
  show Q _ T.heap
  rw [eT]; exact hq
theorem Go.callS {z : MethodName} {zc : ByteArray} {zm : Nat} {zr : Option FieldType} {rm : Room} {Q' : Option Value → Heap → Prop} {cells' slots' i : Nat} (argsL rest : List Value) {ps : List FieldType} {r : Option FieldType} (w1 : (Jvm.Cond.methodLink y.cls i z).before a0 Z = true) (w2 : (Jvm.Cond.static z).before a0 Z = true) (wi : (Jvm.Cond.initialized z.cls).before a0 Z = true) (wc : (Jvm.Cond.code z zc zm zr).before a0 Z = true) (hy : z.cls ≠ "java/lang/invoke/MethodHandle" ∧ z.cls ≠ "java/lang/invoke/VarHandle") (hK : Con l z zc zm zr rm Z n0 argsL.toArray h Q') (hpd : parseMethodDescriptor z.desc = some ⟨ps, r⟩) (hlen : argsL.length = ps.length) (hst : st = argsL.reverse ++ rest) (hz : Ls.size = ml) (hc' : cells + rm.cells = cells') (hs' : slots + rm.slots = slots') (hfr : rm.frames + 1 ≤ R.frames := by decide) (hlo : (rest.map fun v => v.category).sum + (zm + 11) + rm.locals ≤ R.locals := by decide) (hc : cells' ≤ R.cells := by decide) (hs : slots' ≤ R.slots := by decide) (hd : decode code pc = .ok (.invokestatic i, 3)) (hp : pc + 3 = pc')
    (k : ∀ v h', Q' v h' → Go l R Z n0 y code ml ret Q cells' slots' h' pc' Ls (v.toList ++ rest)) : Go l R Z n0 y code ml ret Q cells slots h pc Ls st := by
  intro p e s m args below meth c T locs C X N eT
  subst hc' hs' hp hst
  have hold : Old Z n0 h := own_old C.2.2.2.2.2.2.2.2 X N eT
  obtain ⟨v, _, ⟨T', L', k', n'⟩, -, X', ⟨Lc, hQ, l', y', z'⟩, st⟩ := Jvm.LawKit.callS X C.1 (y := z) C.2.2.1 (mvT C.2.1 w1) (mvT C.2.1 w2) (mvT C.2.1 wi) (mvT C.2.1 wc) hy (backOf (W := (rest.map fun v => v.category).sum) (Q := fun v h L => Q' v h ∧ Fr n0 L) (hK hold []) C.2.1 wc wi hfr hlo) (g := mkF m pc Ls (argsL.reverse ++ rest)) rfl (by rw [C.2.2.2.2.1]; exact hz) (argsL := argsL) (rest := rest) (lenOf hpd hlen) rfl (by simp) (hb C.2.2.2.1 hd) (fun _ _ => ⟨rfl, eT, hc, hs⟩)
  dsimp only [Pt.U, Pt.locs, Pt.cells, Pt.slots] at X' l' y' z' st hQ
  subst l' y' z'
  obtain ⟨s₂, o, h1, h2⟩ := k v _ hQ.1 p e s m args below meth c T' _ C X' (Fr.app N hQ.2) rfl
  exact ⟨s₂, o, st _ h1, h2⟩
theorem Go.callC {z : MethodName} {zc : ByteArray} {zm : Nat} {zr : Option FieldType} {rm : Room} {Q' : Option Value → Heap → Prop} {cells' slots' i : Nat} (argsL rest : List Value) {ps : List FieldType} {r : Option FieldType} {a : Addr} (hzi : z.name = "<init>") (hzr : zr = none) (w1 : (Jvm.Cond.methodLink y.cls i z).before a0 Z = true) (w2 : (Jvm.Cond.instanceMethod z).before a0 Z = true) (wi : (Jvm.Cond.initialized z.cls).before a0 Z = true) (wc : (Jvm.Cond.code z zc zm zr).before a0 Z = true) (hy : z.cls ≠ "java/lang/invoke/MethodHandle" ∧ z.cls ≠ "java/lang/invoke/VarHandle") (hK : Con l z zc zm zr rm Z n0 (.ref a :: argsL).toArray h Q') (hpd : parseMethodDescriptor z.desc = some ⟨ps, r⟩) (hlen : argsL.length = ps.length) (hst : st = argsL.reverse ++ .ref a :: rest) (hz : Ls.size = ml) (hc' : cells + rm.cells = cells') (hs' : slots + rm.slots = slots') (hfr : rm.frames + 1 ≤ R.frames := by decide) (hlo : (rest.map fun v => v.category).sum + (zm + 11) + rm.locals ≤ R.locals := by decide) (hc : cells' ≤ R.cells := by decide) (hs : slots' ≤ R.slots := by decide) (hd : decode code pc = .ok (.invokespecial i, 3)) (hp : pc + 3 = pc')
    (k : ∀ v h', Q' v h' → Go l R Z n0 y code ml ret Q cells' slots' h' pc' Ls (v.toList ++ rest)) : Go l R Z n0 y code ml ret Q cells slots h pc Ls st := by
  intro p e s m args below meth c T locs C X N eT
  subst hc' hs' hp hst
  have hold : Old Z n0 h := own_old C.2.2.2.2.2.2.2.2 X N eT
  subst hzr
  obtain ⟨v, _, ⟨T', L', k', n'⟩, -, X', ⟨Lc, hQ, l', y', z'⟩, st⟩ := X.specialBack C.1 (y := z) hzi C.2.2.1 (mvT C.2.1 w1) (mvT C.2.1 w2) (mvT C.2.1 wc) hy (backOf (W := (rest.map fun v => v.category).sum) (Q := fun v h L => Q' v h ∧ Fr n0 L) (hK hold []) C.2.1 wc wi hfr hlo) (g := mkF m pc Ls (argsL.reverse ++ .ref a :: rest)) rfl (by rw [C.2.2.2.2.1]; exact hz) (Steps.refl _) (a := a) (argsL := argsL) (rest := rest) (lenOf hpd hlen) rfl (by simp) (hb C.2.2.2.1 hd) (fun _ _ => ⟨rfl, eT, hc, hs⟩)
  dsimp only [Pt.U, Pt.locs, Pt.cells, Pt.slots] at X' l' y' z' st hQ
  subst l' y' z'
  obtain ⟨s₂, o, h1, h2⟩ := k v _ hQ.1 p e s m args below meth c T' _ C X' (Fr.app N hQ.2) rfl
  exact ⟨s₂, o, st.trans h1, h2⟩
theorem Go.callV {z : MethodName} {zc : ByteArray} {zm : Nat} {zr : Option FieldType} {rm : Room} {Q' : Option Value → Heap → Prop} {cells' slots' i : Nat} (argsL rest : List Value) {ps : List FieldType} {r : Option FieldType} {a : Addr} {x' : MethodName} {C' : String} (E : Exa Z h a C') (w1 : (Jvm.Cond.methodLink y.cls i x').before a0 Z = true) (w2 : (Jvm.Cond.declares x').before a0 Z = true) (nf : ∀ s' : State, Z.Warmed39 s'.vm → NotFace s' x') (w3 : (Jvm.Cond.selects C' x' z).before a0 Z = true) (w4 : (Jvm.Cond.instanceMethod z).before a0 Z = true) (wi : (Jvm.Cond.initialized z.cls).before a0 Z = true) (wc : (Jvm.Cond.code z zc zm zr).before a0 Z = true) (hy : x'.cls ≠ "java/lang/invoke/MethodHandle" ∧ x'.cls ≠ "java/lang/invoke/VarHandle") (hK : Con l z zc zm zr rm Z n0 (.ref a :: argsL).toArray h Q') (hpd : parseMethodDescriptor x'.desc = some ⟨ps, r⟩) (hlen : argsL.length = ps.length) (hst : st = argsL.reverse ++ .ref a :: rest) (hz : Ls.size = ml) (hc' : cells + rm.cells = cells') (hs' : slots + rm.slots = slots') (hfr : rm.frames + 1 ≤ R.frames := by decide) (hlo : (rest.map fun v => v.category).sum + (zm + 11) + rm.locals ≤ R.locals := by decide) (hc : cells' ≤ R.cells := by decide) (hs : slots' ≤ R.slots := by decide) (hd : decode code pc = .ok (.invokevirtual i, 3)) (hp : pc + 3 = pc')
    (k : ∀ v h', Q' v h' → Go l R Z n0 y code ml ret Q cells' slots' h' pc' Ls (v.toList ++ rest)) : Go l R Z n0 y code ml ret Q cells slots h pc Ls st := by
  intro p e s m args below meth c T locs C X N eT
  subst hc' hs' hp hst
  have hold : Old Z n0 h := own_old C.2.2.2.2.2.2.2.2 X N eT
  obtain ⟨cq, kq, qa, qb, qc⟩ := isOf C.2.1 eT E
  obtain ⟨v, _, ⟨T', L', k', n'⟩, -, X', ⟨Lc, hQ, l', y', z'⟩, st⟩ := X.virtualBack C.1 (y := x') (z := z) C.2.2.1 (mvT C.2.1 w1) (mvT C.2.1 w2) (nf s C.2.1) (mvT C.2.1 w3) (mvT C.2.1 w4) hy (backOf (W := (rest.map fun v => v.category).sum) (Q := fun v h L => Q' v h ∧ Fr n0 L) (hK hold []) C.2.1 wc wi hfr hlo) qa qc (g := mkF m pc Ls (argsL.reverse ++ .ref a :: rest)) rfl (by rw [C.2.2.2.2.1]; exact hz) (Steps.refl _) (argsL := argsL) (rest := rest) (lenOf hpd hlen) rfl (by simp) (hb C.2.2.2.1 hd) (fun _ _ => ⟨rfl, eT, hc, hs⟩)
  dsimp only [Pt.U, Pt.locs, Pt.cells, Pt.slots] at X' l' y' z' st hQ
  subst l' y' z'
  obtain ⟨s₂, o, h1, h2⟩ := k v _ hQ.1 p e s m args below meth c T' _ C X' (Fr.app N hQ.2) rfl
  exact ⟨s₂, o, st.trans h1, h2⟩
end Rules
end Jvm.OwnGo
namespace Jvm.OwnGo
open Jvm Jvm.ClassFile Sem Op Lib Jvm.Free Jvm.Stand Jvm.LawKit Jvm.RoadKit
/-- the intern table: the start's, and pairs whose texts are among LL's, each found at LL's address -/
def IB3 (Z : State) (vm : Vm) (LL : List (String × Addr × String × Nat)) : Prop := ∃ more : Array (Array UInt16 × Addr), vm.interned = Z.vm.interned ++ more ∧ ∀ q ∈ more, ∃ x ∈ LL, utf16ToString? q.1 = some x.1 ∧ vm.interned.find? (fun p => p.1 == q.1) = some (q.1, x.2.1)
/-- .. and each of LL's entries is booked -/
def IB4 (Z : State) (vm : Vm) (LL : List (String × Addr × String × Nat)) : Prop := IB3 Z vm LL ∧ ∀ x ∈ LL, Lit (Z.setVm vm) x.2.2.1 x.2.2.2 x.2.1
theorem IB4.start {Z : State} : IB4 Z Z.vm [] := ⟨⟨#[], by simp, fun q hq => by simp at hq⟩, fun x hx => by simp at hx⟩
theorem IB3.eq {Z : State} {vm vm1 : Vm} {LL : List (String × Addr × String × Nat)} (I : IB3 Z vm LL) (h : vm1.interned = vm.interned) : IB3 Z vm1 LL := by
  obtain ⟨more, e, hm⟩ := I
  exact ⟨more, h.trans e, by rw [h]; exact hm⟩
theorem own_stays {Z s : State} {vm vm1 : Vm} {LL : List (String × Addr × String × Nat)} (I : ∀ x ∈ LL, Lit (Z.setVm vm) x.2.2.1 x.2.2.2 x.2.1) (hW : (s.setVm vm).Warmed39 vm1) : ∀ x ∈ LL, Lit (Z.setVm vm1) x.2.2.1 x.2.2.2 x.2.1 := fun x hx => Lit.stays (s := s) (I x hx) hW
theorem IB4.warm {Z s : State} {vm vm1 : Vm} {LL : List (String × Addr × String × Nat)} (I : IB4 Z vm LL) (hW : (s.setVm vm).WarmedH vm1) : IB4 Z vm1 LL := ⟨I.1.eq hW.interned_eq, own_stays I.2 hW.wide⟩
theorem IB3.more {Z : State} {vm : Vm} {LL : List (String × Addr × String × Nat)} {x : String × Addr × String × Nat} (I : IB3 Z vm LL) : IB3 Z vm (x :: LL) := by
  obtain ⟨more, e, hm⟩ := I
  refine ⟨more, e, fun q hq => ?_⟩
  obtain ⟨z, hz, h1, h2⟩ := hm q hq
  exact ⟨z, List.mem_cons_of_mem _ hz, h1, h2⟩
theorem IB3.step {Z : State} {vm0 vm1 : Vm} {LL : List (String × Addr × String × Nat)} {text : String} {us : Array UInt16} {a : Addr} {r : String × Nat} (I : IB3 Z vm0 LL) (hint : vm1.interned = vm0.interned ∨ ∃ (u : Array UInt16) (a' : Addr), utf16ToString? u = some text ∧ vm1.interned = vm0.interned.push (u, a'))
    (hf : vm1.interned.find? (fun p => p.1 == us) = some (us, a)) (hu : ∀ u : Array UInt16, utf16ToString? u = some text → u = us) : IB3 Z vm1 ((text, a, r) :: LL) := by
  rcases hint with q | ⟨u, a', hu', q⟩
  · exact (I.eq q).more
  · obtain ⟨more, e, hm⟩ := I
    refine ⟨more.push (u, a'), by rw [q, e, Array.append_push], fun x hx => ?_⟩
    rcases Array.mem_push.mp hx with hx | rfl
    · obtain ⟨z, hz, h1, h2⟩ := hm x hx
      refine ⟨z, List.mem_cons_of_mem _ hz, h1, ?_⟩
      rw [q, Array.find?_push, h2]; rfl
    · cases hu u hu'
      exact ⟨(text, a, r), List.mem_cons_self .., hu', hf⟩
theorem own_back {Z : State} {vm0 : Vm} {LL : List (String × Addr × String × Nat)} {text : String} {us : Array UInt16} {a : Addr} (I : IB3 Z vm0 LL) (ht : utf16ToString? us = some text) (hf : vm0.interned.find? (fun p => p.1 == us) = some (us, a)) :
    Z.vm.interned.find? (fun p => p.1 == us) = some (us, a) ∨ ∃ x ∈ LL, x.1 = text ∧ x.2.1 = a := by
  obtain ⟨more, e, hm⟩ := I
  have hf' := hf
  rw [e, Array.find?_append] at hf'
  cases hs : Z.vm.interned.find? (fun p => p.1 == us) with
  | some pr => left; rw [hs] at hf'; simpa using hf'
  | none =>
    right
    rw [hs, Option.none_or] at hf'
    obtain ⟨x, hx, h1, h2⟩ := hm _ (Array.mem_of_find?_eq_some hf')
    rw [hf] at h2
    exact ⟨x, hx, (Option.some.inj (ht.symm.trans h1)).symm, (Prod.mk.inj (Option.some.inj h2)).2.symm⟩
/-- the assumed word goes along: what this walk has loaded since is known -/
theorem own_held {Z s : State} {vm0 : Vm} {a0 : Array Value} {LL : List (String × Addr × String × Nat)} {own text : String} {index : Nat} (hW : Z.Warmed39 vm0) (w : (Cond.stringLink own index text).before a0 Z = true) (I : IB3 Z vm0 LL)
    (hL : ∀ x ∈ LL, x.1 = text → ∀ u : Array UInt16, utf16ToString? u = some text → SlOf (s.setVm vm0) x.2.1 u) (hkeep : ∀ (b : Addr) (cl : Cell), Z.heap[b]? = some cl → s.heap[b]? = some cl) (hH : ConstHeldL Z own index) : ConstHeldL (s.setVm vm0) own index := by
  intro c k' cf i us a hc' hk' hcf' hp hu hor
  have hc : Z.vm.findClass own = some c := by rw [← hW.alike.findClass]; exact hc'
  obtain ⟨k, cf0, i0, us0, hk, hcf, hp0, hu0, hnm, htext, -⟩ := Cond.stringLink_spec hc w
  obtain ⟨k2, hk2, hke, -, ee, -⟩ := hW.2.2.2 c k hk
  cases (show vm0.classes[c]? = some k' from hk').symm.trans hk2
  have hcfk : k'.cf = k.cf := by rw [hke]
  cases (hcfk ▸ hcf').symm.trans hcf
  cases hp.symm.trans hp0
  cases hu.symm.trans hu0
  have mv1 : SlOf Z a us → SlOf (s.setVm vm0) a us := fun q => q.moved (W := s.setVm vm0) hW.alike hkeep
  have byFind : k.resolved[index]? = some none → vm0.interned.find? (fun p => p.1 == us) = some (us, a) → SlOf (s.setVm vm0) a us := fun h0 hf => by
    rcases own_back I htext hf with q | ⟨x, hx, e1, e2⟩
    · exact mv1 (hH c k cf i us a hc hk hcf hp hu (Or.inr ⟨h0, q⟩))
    · rw [← e2]; exact hL x hx e1 us htext
  rcases ee index with e0 | ⟨hop, r, e1, hr | ⟨a3, t, si, us3, rfl, -, q3, q4, q5⟩⟩
  · rcases hor with h0 | ⟨h0, hf⟩
    · exact mv1 (hH c k cf i us a hc hk hcf hp hu (Or.inl (e0 ▸ h0)))
    · exact byFind (e0 ▸ h0) hf
  · exfalso
    cases r <;> simp [State.rightAt, hk, hcf, hnm] at hr
  · rw [hcf] at q3 q4
    obtain rfl : si = i := by simpa using q3.symm.trans hp
    obtain rfl : us3 = us := by simpa [ConstantPool.utf8?, hu] using q4.symm
    rcases hor with h0 | ⟨h0, -⟩
    · obtain rfl : a3 = a := by simpa using e1.symm.trans h0
      exact byFind hop q5
    · exact absurd (h0.symm.trans e1) (by simp)
/-- a String's facts, said as the library's bundle -/
theorem own_sl {Z : State} {h : Heap} {a b : Addr} {kb : ClassId} {z : Int32} {vs : List Value} {us : Array UInt16} {text : String} {a0 : Array Value} (x : Exa Z h a "java/lang/String") (fc : Fld Z h a "java/lang/String" "coder" "B" (.int 0)) (fv : Fld Z h a "java/lang/String" "value" "[B" (.ref b)) (v : Arv Z h b kb .byte z vs (.int 0)) (xb : Exa Z h b "[B")
    (wi : (Cond.instantiable "java/lang/String" 4).before a0 Z = true) (ht : (∀ c ∈ text.toList, c.toNat < 256) ∧ text.toList.map (fun c => Value.int (Jvm.Lit.byteI c.toNat.toUInt16)) = vs) (hl : z.toNatClampNeg = vs.length) (hu : utf16ToString? us = some text) : SlOf ({ Z with heap := h } : State) a us := by
  obtain ⟨cE, kE, x1, x2, x3, x4, x5⟩ := x
  obtain ⟨c1, cf1, kf1, i1, f1, g1, g2, g3, g4, g5, g6, g7⟩ := fc
  obtain ⟨c2, cf2, kf2, i2, f2, v1, v2, v3, v4, v5, v6, v7⟩ := fv
  cases x1.symm.trans g1
  cases x1.symm.trans v1
  obtain ⟨cb, ⟨b1, b2, b3⟩, b4, b5, b6, b7, b8⟩ := v
  obtain ⟨cb', kb', y1, y2, y3, y4, y5⟩ := xb
  cases b1.symm.trans y1
  obtain ⟨cI, kI, hfI, hkI, hkindI, -⟩ := Cond.instantiable_spec wi
  cases x2.symm.trans hfI
  cases x3.symm.trans hkI
  have eu : vs = us.toList.map fun u => Value.int (Jvm.Lit.byteI u) := by rw [← ht.2, Jvm.ClassFile.units_of_text hu ht.1, List.map_map]; rfl
  have hlat := Jvm.ClassFile.lat_of_text hu ht.1
  have hsz : cb.slots.size = us.size := by rw [b5, hl, eu]; simp
  have hslots : cb.slots = stringBytes us := by
    rw [SBG.stringBytes_lat hlat]
    apply Array.ext
    · rw [hsz, Array.size_map]
    · intro j h1 h2
      have hj : j < us.size := by omega
      have e := b7 j h1
      rw [Array.getElem?_eq_getElem h1] at e
      rw [Option.some.inj e, Array.getElem_map, eu]
      simp [byteValue, Jvm.Lit.byteI, hj]
  have hne : a ≠ b := fun q => by
    subst q
    cases x1.symm.trans b1
    obtain ⟨-, k, hk, cm, hkind⟩ := b2
    cases x3.symm.trans hk
    rw [hkindI] at hkind; cases hkind
  refine ⟨(a, _, f2, f1, b, cb, us.size), cE.cls, rfl, ⟨⟨x1, g4, g5, ⟨cf2, kf2, i2, v2, v6⟩, ⟨cf1, kf1, i1, g2, g6⟩, v3, g3, v7, g7, b1, b2, b3, hsz, ?_, hne, ?_⟩, x2, rfl⟩, ⟨kE, x3, hkindI, x5 hkindI⟩, y2, hslots⟩
  · have := z.toInt_lt
    have e1 := hsz.symm.trans b5
    have e2 : z.toNatClampNeg = z.toInt.toNat := rfl
    show us.size < 2147483648
    omega
  · intro j hj
    rw [SBG.getD_of (b7 j hj)]
    exact b8 j hj
def GoS (l : Launch) (R : Room) (Z : State) (n0 : Nat) (y : MethodName) (code : ByteArray) (ml : Nat) (ret : Option FieldType) (Q : Option Value → Heap → List (String × Addr × String × Nat) → Prop) (h0 : Heap) (LL : List (String × Addr × String × Nat)) (cells slots : Nat) (h : Heap) (pc : Nat) (Ls : Array Slot) (st : List Value) : Prop :=
  ∀ (p : Program) (e : Env) (s : State) (vm0 : Vm) (k0 : Nat) (m : MethodId) (args : Array Value) (below : List Frame) (meth : Method) (c : Code) (T : State) (locs : List Loc),
    Cx p l e R (s.setVm vm0) m meth c Z n0 y code ml ret → s.heap = h0 → Stand p l e R (s.setVm vm0) m args below meth c T locs cells slots → s.Since vm0 k0 → k0 ≤ h.size → Fr n0 locs → T.heap = h → IB4 Z vm0 LL →
    ∃ s₂ o, Steps p.tables e below (T.setTop (mkF m pc Ls st)) s₂ ∧ s₂.status = .running ∧ Ended s₂ below o ∧ ∃ v L LL', o = .returned v ∧ (Q v s₂.heap LL' ∧ IB4 Z s₂.vm LL' ∧ Fr n0 L) ∧ ReturnedEndW s o s₂ L R.cells R.slots
def ConS (l : Launch) (y : MethodName) (code : ByteArray) (ml : Nat) (ret : Option FieldType) (R : Room) (Z : State) (n0 : Nat) (as : Array Value) (h : Heap) (LL : List (String × Addr × String × Nat)) (Q : Option Value → Heap → List (String × Addr × String × Nat) → Prop) : Prop :=
  Old Z n0 h → ∀ ws, MetFree l y (head1 (Jvm.Cond.code y code ml ret :: ws) R) (fun a U => a = as ∧ Z.Warmed39 U.vm ∧ U.heap = h ∧ IB4 Z U.vm LL) (fun _ _ _ _ _ => True)
    (fun _ U o U' => ∃ v L LL', o = .returned v ∧ (Q v U'.heap LL' ∧ IB4 Z U'.vm LL' ∧ Fr n0 L) ∧ ReturnedEndW U o U' L R.cells R.slots)
section RulesS
variable {l : Launch} {R : Room} {Z : State} {n0 : Nat} {y : MethodName} {code : ByteArray} {ml : Nat} {ret : Option FieldType} {Q : Option Value → Heap → List (String × Addr × String × Nat) → Prop} {h0 : Heap} {LL : List (String × Addr × String × Nat)} {cells slots : Nat} {h : Heap} {pc pc' : Nat} {Ls Ls' : Array Slot} {st st' rest : List Value} {a0 : Array Value}
theorem Cx.re {p : Program} {e : Env} {s : State} {vm0 vm1 : Vm} {m : MethodId} {meth : Method} {c : Code} (C : Cx p l e R (s.setVm vm0) m meth c Z n0 y code ml ret) (hW : (s.setVm vm0).Warmed39 vm1) : Cx p l e R (s.setVm vm1) m meth c Z n0 y code ml ret :=
  ⟨C.1, State.Warmed39.trans (t := s.setVm vm0) C.2.1 hW, by show vm1.findClass y.cls = _; rw [hW.alike.findClass]; exact C.2.2.1, C.2.2.2⟩
theorem ConS.of_go {as : Array Value} (hp : plainFor y = true) (he : ∀ m, entryFrame m as ml = mkF m 0 Ls []) (k : GoS l R Z n0 y code ml ret Q h LL 0 0 h 0 Ls []) : ConS l y code ml ret R Z n0 as h LL Q := by
  intro hn ws
  refine MetFree.of_bodySF hp hisR ?_
  intro p e s m args below meth c s₁ Bd hml0 hP hK
  obtain ⟨rfl, hZ, hh, hI⟩ := hP
  have e0 : s₁.heap = h := by rw [← hh, Bd.state]; rfl
  have X0 : Stand p l e R s m args below meth c s₁ [] 0 0 := Stand.of_body Bd
  obtain ⟨s₂, o, h1, h2, h3, h4⟩ := k p e s s.vm h.size m args below meth c s₁ [] ⟨Bd.exec, hZ, findClass_of_methodNamed Bd.named, Bd.bytes, hml0, Bd.returns, Bd.notSynchronized, (name_of_methodNamed Bd.named Bd.method).1, by show Old Z n0 s.heap; rw [hh]; exact hn⟩ hh X0 ((State.WarmedH.refl s).since _) (Nat.le_refl _) (Fr.nil n0) e0 hI
  exact ⟨s₂, o, castTop (he m) h1, h2, h3, h4⟩
theorem Con.cold {Q' : Option Value → Heap → Prop} {as : Array Value} (k : Con l y code ml ret R Z n0 as h Q') : ConS l y code ml ret R Z n0 as h LL (fun v h' LL' => Q' v h' ∧ LL' = LL) := by
  intro hn ws
  refine (k hn ws).mono (fun _ _ q => ⟨q.1, q.2.1, q.2.2.1⟩) (fun _ _ _ _ _ q => q) ?_
  rintro a U o U' hP ⟨v, L, e, ⟨q, N⟩, r⟩
  exact ⟨v, L, LL, e, ⟨⟨q, rfl⟩, hP.2.2.2.warm (s := U) r.2.1, N⟩, ReturnedEndW.of_narrow r.1 r.2.1 r.2.2⟩
theorem ConS.mono {as : Array Value} {Q' : Option Value → Heap → List (String × Addr × String × Nat) → Prop} (k : ConS l y code ml ret R Z n0 as h LL Q) (hq : ∀ v h' L', Q v h' L' → Q' v h' L') : ConS l y code ml ret R Z n0 as h LL Q' := by
  intro hn ws
  refine (k hn ws).mono (fun _ _ q => q) (fun _ _ _ _ _ q => q) ?_
  rintro a U o U' hP ⟨v, L, L2, e, ⟨q, N⟩, r⟩
  exact ⟨v, L, L2, e, ⟨hq _ _ _ q, N⟩, r⟩
theorem GoS.old (k : Old Z n0 h → GoS l R Z n0 y code ml ret Q h0 LL cells slots h pc Ls st) : GoS l R Z n0 y code ml ret Q h0 LL cells slots h pc Ls st := by
  intro p e s vm0 k0 m args below meth c T locs C e0 X hS hk N eT I
  exact k (own_old (s := s.setVm vm0) C.2.2.2.2.2.2.2.2 X N eT) p e s vm0 k0 m args below meth c T locs C e0 X hS hk N eT I
theorem GoS.step (hst : ∀ {p : Program} {e : Env} {s : State} {m : MethodId} {args : Array Value} {below : List Frame} {meth : Method} {c : Code} {T : State} {locs : List Loc} {target : State},
      Cx p l e R s m meth c Z n0 y code ml ret → Stand p l e R s m args below meth c T locs cells slots → T.heap = h → Steps p.tables e below (T.setTop (mkF m pc' Ls' st')) target → Steps p.tables e below (T.setTop (mkF m pc Ls st)) target)
    (k : GoS l R Z n0 y code ml ret Q h0 LL cells slots h pc' Ls' st') : GoS l R Z n0 y code ml ret Q h0 LL cells slots h pc Ls st := by
  intro p e s vm0 k0 m args below meth c T locs C e0 X hS hk N eT I
  obtain ⟨s₂, o, h1, h2⟩ := k p e s vm0 k0 m args below meth c T locs C e0 X hS hk N eT I
  exact ⟨s₂, o, hst C X eT h1, h2⟩
theorem GoS.law {cells' slots' : Nat} {P : Heap → Prop} (hst : ∀ {p : Program} {e : Env} {s : State} {m : MethodId} {args : Array Value} {below : List Frame} {meth : Method} {c : Code} {T : State} {locs : List Loc},
      Cx p l e R s m meth c Z n0 y code ml ret → Stand p l e R s m args below meth c T locs cells slots → Fr n0 locs → T.heap = h → n0 ≤ h.size →
      ∃ T' locs' h', Stand p l e R s m args below meth c T' locs' cells' slots' ∧ Fr n0 locs' ∧ T'.heap = h' ∧ P h' ∧ ∀ target, Steps p.tables e below (T'.setTop (mkF m pc' Ls' st')) target → Steps p.tables e below (T.setTop (mkF m pc Ls st)) target)
    (k : ∀ h', P h' → GoS l R Z n0 y code ml ret Q h0 LL cells' slots' h' pc' Ls' st') (hgr : ∀ h', P h' → h.size ≤ h'.size) : GoS l R Z n0 y code ml ret Q h0 LL cells slots h pc Ls st := by
  intro p e s vm0 k0 m args below meth c T locs C e0 X hS hk N eT I
  have hold : Old Z n0 h := own_old (s := s.setVm vm0) C.2.2.2.2.2.2.2.2 X N eT
  obtain ⟨T', locs', h', X', N', e', hP, st⟩ := hst C X N eT (hold.1 ▸ hold.2.1)
  obtain ⟨s₂, o, h1, h2⟩ := k h' hP p e s vm0 k0 m args below meth c T' locs' C e0 X' hS (Nat.le_trans hk (hgr h' hP)) N' e' I
  exact ⟨s₂, o, st _ h1, h2⟩
theorem own_backS {p : Program} {e : Env} {below : List Frame} {s : State} {args : Array Value} {rm : Room} {len W : Nat} {as' : Array Value}
    (hM : ∀ ws, MetFree l y (head1 (Cond.code y code ml ret :: ws) rm) (fun a U => a = as' ∧ Z.Warmed39 U.vm ∧ U.heap = h ∧ IB4 Z U.vm LL) (fun _ _ _ _ _ => True) (fun _ U o U' => ∃ v L LL', o = .returned v ∧ (Q v U'.heap LL' ∧ IB4 Z U'.vm LL' ∧ Fr n0 L) ∧ ReturnedEndW U o U' L rm.cells rm.slots))
    (hZ : Z.Warmed39 s.vm) (wc : (Cond.code y code ml ret).before a0 Z = true) (wz : (Cond.initialized y.cls).before a0 Z = true) (hf : rm.frames + 1 ≤ R.frames) (hl : W + (ml + 11) + rm.locals ≤ R.locals) :
    BackS l R p e below s args y len W (fun A a => a = as' ∧ A.U.heap = h ∧ IB4 Z A.U.vm LL ∧ A.cells + rm.cells ≤ R.cells ∧ A.slots + rm.slots ≤ R.slots)
      (fun A _ v B => ∃ L LL', Q v B.U.heap LL' ∧ IB4 Z B.U.vm LL' ∧ Fr n0 L ∧ B.locs = A.locs ++ L ∧ B.cells = A.cells + rm.cells ∧ B.slots = A.slots + rm.slots) :=
  BackS.of_freeW (bytes := code) (maxL := ml) (ret := ret) (E := fun _ _ o t L k n => k = rm.cells ∧ n = rm.slots ∧ ∃ v LL', o = .returned v ∧ Q v t.heap LL' ∧ IB4 Z t.vm LL' ∧ Fr n0 L) (hM []) hf hl
    (fun m meth c A a Y hp => have hU : Z.Warmed39 A.U.vm := wtrans hZ Y.warmed
      ⟨by show (Cond.and _ .tt).before a A.U = true; rw [Cond.before_and, mv hU wc]; rfl, mv hU wc, mv hU wz, hp.2.2.2.1, hp.2.2.2.2⟩)
    (fun m meth c A a g mk Y hp => ⟨hp.1, wtrans hZ Y.warmed, hp.2.1, hp.2.2.1⟩) (fun _ _ _ _ _ _ _ _ _ => trivial)
    (fun _ _ _ _ ⟨v, L, LL', h1, h2, h3⟩ => ⟨L, _, _, h3, rfl, rfl, v, LL', h1, h2⟩)
    (fun m meth c A a g mk v t L k n Y hp _ _ ⟨e1, e2, v', LL', e3, e4, e5, e6⟩ => by cases e3; subst e1 e2; exact ⟨L, LL', e4, e5, e6, rfl, rfl, rfl⟩)
theorem GoS.ldcS {i n cells' slots' : Nat} {text : String} {vs : List Value} {z : Int32} (w : (Jvm.Cond.stringLink y.cls i text).before a0 Z = true) (wS : ∀ a ∈ Bundle.stringAtoms, a.before a0 Z = true) (hh : Jvm.Lit.constHeld Z y.cls i) (hcw : Jvm.Lit.compactW.before a0 Z = true)
    (K0 : Keep h0 h []) (hL : ∀ x ∈ LL, x.1 = text → ∀ u : Array UInt16, utf16ToString? u = some text → SlOf ({ Z with heap := h0 } : State) x.2.1 u) (ht : (∀ c ∈ text.toList, c.toNat < 256) ∧ text.toList.map (fun c => Value.int (Jvm.Lit.byteI c.toNat.toUInt16)) = vs) (hz : ¬ z < 0) (hl : z.toNatClampNeg = vs.length)
    (hd : decode code pc = .ok (.ldc i, 2)) (hn : 4 * text.toList.length ≤ n) (hbig : n ≤ 536870912) (hc' : cells + 2 = cells') (hs' : slots + (n + 4) = slots') (hc : cells' ≤ R.cells) (hs : slots' ≤ R.slots) (hp : pc + 2 = pc')
    (k : ∀ (h' : Heap) (a b : Addr) (kb : ClassId), Ext h h' → Exa Z h' a "java/lang/String" → Fld Z h' a "java/lang/String" "coder" "B" (.int 0) → Fld Z h' a "java/lang/String" "value" "[B" (.ref b) → Arv Z h' b kb .byte z vs (.int 0) → Exa Z h' b "[B" → ((a < h0.size ∧ b < h0.size) ∨ (h.size ≤ a ∧ h.size ≤ b)) →
      GoS l R Z n0 y code ml ret Q h0 ((text, a, y.cls, i) :: LL) cells' slots' h' pc' Ls (.ref a :: st)) : GoS l R Z n0 y code ml ret Q h0 LL cells slots h pc Ls st := by
  intro p e s vm0 k0 m args below meth c T locs C e0 X hS hk N eT I
  subst hc' hs' hp e0 eT
  have hold : ∀ (b : Addr) (cl : Cell), (s.setVm vm0).heap[b]? = some cl → T.heap[b]? = some cl := fun b cl q => K0.2.1 b cl q (by simp)
  have hOld : Old Z n0 s.heap := C.2.2.2.2.2.2.2.2
  have wi : (Cond.instantiable "java/lang/String" 4).before a0 Z = true := wS _ (by simp [Bundle.stringAtoms, Bundle.sN])
  have wa : (Cond.arrayClass .byte).before a0 Z = true := wS _ (by simp [Bundle.stringAtoms])
  have hH : ConstHeldL (s.setVm vm0) y.cls i := own_held C.2.1 w I.1 (fun x hx q u hu => (hL x hx q u hu).moved (W := s.setVm vm0) C.2.1.alike (fun _ _ z => z)) hOld.2.2 (heldStart hh w ht.1 hcw wa wi)
  have hown : vm0.findClass y.cls = some m.cls := C.2.2.1
  have hcZ : Z.vm.findClass y.cls = some m.cls := by rw [← C.2.1.alike.findClass]; exact hown
  obtain ⟨k1, cf, si, us, hk1, hcf, hcp, hu, hnm, hdec, hres⟩ := Cond.stringLink_spec (s := s.setVm vm0) (args := a0) hown (mvS (s := s.setVm vm0) C.2.1 w)
  have hus : ∀ u : Array UInt16, utf16ToString? u = some text → u = us := fun u q => Array.ext' ((Jvm.ClassFile.units_of_text q ht.1).trans (Jvm.ClassFile.units_of_text hdec ht.1).symm)
  have fin : ∀ (a : Addr) (T' : State), Stand p l e R (s.setVm T'.vm) m args below meth c T' locs (cells + 2) (slots + (n + 4)) → (s.setVm vm0).Since T'.vm T'.heap.size → Ext T.heap T'.heap → SlIn s.heap.size T.heap.size T' a us → IB4 Z T'.vm ((text, a, y.cls, i) :: LL) →
      (∀ target, Steps p.tables e below (T'.setTop (mkF m (pc + 2) Ls (.ref a :: st))) target → Steps p.tables e below (T.setTop (mkF m pc Ls st)) target) →
      ∃ s₂ o, Steps p.tables e below (T.setTop (mkF m pc Ls st)) s₂ ∧ s₂.status = .running ∧ Ended s₂ below o ∧ ∃ v L LL', o = .returned v ∧ (Q v s₂.heap LL' ∧ IB4 Z s₂.vm LL' ∧ Fr n0 L) ∧ ReturnedEndW s o s₂ L R.cells R.slots := by
    intro a T' X' hS' E hin I' stp
    have C' := C.re hS'.1
    have hal : Z.vm.Alike T'.vm := C'.2.1.alike
    have hlat := Jvm.ClassFile.lat_of_text hdec ht.1
    obtain ⟨q, cS, hqa, ⟨⟨s1, s2, s3, ⟨cv, kv, iv, s4, s4'⟩, ⟨cc, kc, ic, s5, s5'⟩, s6, s7, s8, s9, s10, s11, s12, s13, s14, s15, s16⟩, hfS, hcS⟩, ⟨kS, k1, k2, k3⟩, hB, hbyt, hplace⟩ := hin
    subst hqa
    obtain ⟨kv', z4⟩ := ff_back hal s4
    obtain ⟨kc', z5⟩ := ff_back hal s5
    have hfZ : Z.vm.findClass "java/lang/String" = some q.sC.cls := by rw [← hal.findClass, hcS]; exact hfS
    obtain ⟨kz, hkz, -⟩ := Vm.findClass_spec hfZ
    obtain ⟨kz', hkz', ekz⟩ := hal.2.2 _ _ hkz
    have ekS : kz' = kS := Option.some.inj (hkz'.symm.trans (hcS ▸ k1))
    have hBZ : Z.vm.findClass "[B" = some q.SA.cls := by rw [← hal.findClass]; exact hB
    obtain ⟨kb, hkb, -⟩ := Vm.findClass_spec hBZ
    obtain ⟨kb', hkb', ekb⟩ := hal.2.2 _ _ hkb
    obtain ⟨hst, k9, hk9, comp, hkind9⟩ := s11
    have ek9 : k9 = kb' := Option.some.inj (hk9.symm.trans hkb')
    have hkindZ := hkind9
    rw [ek9, ekb] at hkindZ
    have eu : vs = us.toList.map fun u => Value.int (Jvm.Lit.byteI u) := by rw [← ht.2, Jvm.ClassFile.units_of_text hdec ht.1, List.map_map]; rfl
    have hsl : q.SA.slots = us.map fun u => Value.int (Jvm.Lit.byteI u) := by rw [hbyt, SBG.stringBytes_lat hlat]; rfl
    have hsz : q.SA.slots.size = us.size := by rw [hsl, Array.size_map]
    have H : Has q.SA vs (.int 0) := fun j hj => by
      have hj' : j < us.size := by omega
      rw [hsl, eu]; simp [hj']
    have F1 : Exa Z T'.heap q.sa "java/lang/String" := ⟨q.sC, kz, s1, hfZ, hkz, s3, fun ho => by rw [k3, ← ekS, ekz]⟩
    have F2 : Fld Z T'.heap q.sa "java/lang/String" "coder" "B" (.int 0) := ⟨q.sC, cc, kc', ic, q.fSC, s1, z5, s7, s2, s3, by rw [← hal.assignable]; exact s5', s9⟩
    have F3 : Fld Z T'.heap q.sa "java/lang/String" "value" "[B" (.ref q.sd) := ⟨q.sC, cv, kv', iv, q.fSV, s1, z4, s6, s2, s3, by rw [← hal.assignable]; exact s4', s8⟩
    have F4 : Arv Z T'.heap q.sd q.SA.cls .byte z vs (.int 0) := ⟨q.SA, ⟨s10, ⟨hst, kb, hkb, comp, hkindZ⟩, s12⟩, rfl, by rw [hsz, hl, eu]; simp, hz, H, fun j hj => by
      have e1 := s16 j hj
      rw [SBG.getD_of (H j hj)] at e1
      exact e1⟩
    have F5 : Exa Z T'.heap q.sd "[B" := ⟨q.SA, kb, s10, hBZ, hkb, by cases hv : q.SA.vm <;> first | rfl | (exact absurd hv (hst _)), fun ho => by rw [hkindZ] at ho; cases ho⟩
    obtain ⟨s₂, o, h1, h2⟩ := k T'.heap q.sa q.sd q.SA.cls E F1 F2 F3 F4 F5 hplace p e s T'.vm T'.heap.size m args below meth c T' locs C' rfl X' (hS.trans hS' (Nat.le_trans hk E.1)) (Nat.le_refl _) N rfl I'
    exact ⟨s₂, o, stp _ h1, h2⟩
  rcases hres with hopen | ⟨a, hlit⟩
  · obtain ⟨a, T', X', hS', ⟨kk, hkk, hrr⟩, hb, -, hint, ⟨us', htext, hin⟩, stp⟩ := X.ldcColdF hold C.1 (own := y.cls) (text := text) (index := i) hown (mvS (s := s.setVm vm0) C.2.1 w) (fun d hd => by
      have q := wS d hd
      simp only [Bundle.stringAtoms, List.mem_cons, List.not_mem_nil, or_false] at hd
      rcases hd with rfl | rfl | rfl | rfl | rfl | rfl | rfl
      · exact mv (s := s.setVm vm0) C.2.1 q
      · exact mv (s := s.setVm vm0) C.2.1 q
      · exact mvA (s := s.setVm vm0) C.2.1 q
      · exact mv (s := s.setVm vm0) C.2.1 q
      · exact mv (s := s.setVm vm0) C.2.1 q
      · exact mv (s := s.setVm vm0) C.2.1 q
      · exact mv (s := s.setVm vm0) C.2.1 q) hH (fun u q => Jvm.ClassFile.lat_of_text q ht.1) (g := mkF m pc Ls st) rfl (hb C.2.2.2.1 hd) hn hbig hc hs
    cases hus us' htext
    have hTi : T.vm.interned = vm0.interned := X.warmed.interned_eq
    have hfind : T'.vm.interned.find? (fun p => p.1 == us) = some (us, a) := by
      obtain ⟨k2, hk2, -, -, ee, -⟩ := hS'.1.2.2.2 m.cls k1 hk1
      cases hk2.symm.trans hkk
      rcases ee i with e0 | ⟨-, r, e1, hr | ⟨a3, t, si3, us3, rfl, -, q3, q4, q5⟩⟩
      · rw [hrr, hopen] at e0; cases e0
      · exfalso
        have hk9 : vm0.classes[m.cls]? = some k1 := hk1
        cases r <;> simp [State.rightAt, hk9, hcf, hnm] at hr
      · rw [hcf] at q3 q4
        obtain rfl : si3 = si := by simpa using q3.symm.trans hcp
        obtain rfl : us3 = us := by simpa [ConstantPool.utf8?, hu] using q4.symm
        obtain rfl : a3 = a := by simpa using e1.symm.trans hrr
        exact q5
    exact fin a T' X' hS' (ext_of hb) hin ⟨I.1.step (by rw [← hTi]; exact hint) hfind hus, fun x hx => by
      rcases List.mem_cons.mp hx with rfl | hx
      · have hf : T'.vm.findClass y.cls = some m.cls := by rw [hS'.1.alike.findClass]; exact hown
        simp [Lit, State.resolvedAt?, hf, hkk, hrr]
      · exact own_stays I.2 hS'.1 x hx⟩ stp
  · have hsl := hH m.cls k1 cf si us a hown hk1 hcf hcp hu (Or.inl hlit)
    have L : Lit (s.setVm vm0) y.cls i a := by
      have hk9 : vm0.classes[m.cls]? = some k1 := hk1
      simp [Lit, State.resolvedAt?, hown, hk9, hlit]
    refine fin a T ((X.mono (Nat.le_add_right _ _) (Nat.le_add_right _ _)).retabled X.warmed.wide) (X.warmed.since _) ⟨Nat.le_refl _, fun _ _ z => z⟩ (hsl.movedIn T.heap.size X.warmed.alike hold) ⟨(I.1.eq X.warmed.interned_eq).more, fun x hx => by
      rcases List.mem_cons.mp hx with rfl | hx
      · exact Lit.stays (s := s) L X.warmed.wide
      · exact own_stays I.2 X.warmed.wide x hx⟩ (fun target q => ?_)
    exact ldcAgain X C.1 C.2.1 hown w L (g := mkF m pc Ls st) rfl (hb C.2.2.2.1 hd) target q
theorem GoS.ldcAgain {i : Nat} {text : String} {a : Addr} (w : (Jvm.Cond.stringLink y.cls i text).before a0 Z = true) (hx : (text, a, y.cls, i) ∈ LL) (hd : decode code pc = .ok (.ldc i, 2)) (hp : pc + 2 = pc') (k : GoS l R Z n0 y code ml ret Q h0 LL cells slots h pc' Ls (.ref a :: st)) : GoS l R Z n0 y code ml ret Q h0 LL cells slots h pc Ls st := by
  intro p e s vm0 k0 m args below meth c T locs C e0 X hS hk N eT I
  subst hp
  obtain ⟨s₂, o, h1, h2⟩ := k p e s vm0 k0 m args below meth c T locs C e0 X hS hk N eT I
  exact ⟨s₂, o, ldcAgain X C.1 C.2.1 C.2.2.1 w (I.2 _ hx) (g := mkF m pc Ls st) rfl (hb C.2.2.2.1 hd) _ h1, h2⟩
theorem GoS.more {cells' slots' : Nat} (k : GoS l R Z n0 y code ml ret Q h0 LL cells' slots' h pc Ls st) (hc : cells ≤ cells') (hs : slots ≤ slots') : GoS l R Z n0 y code ml ret Q h0 LL cells slots h pc Ls st := by
  intro p e s vm0 k0 m args below meth c T locs C e0 X hS hk N eT I
  exact k p e s vm0 k0 m args below meth c T locs C e0 (X.more hc hs) hS hk N eT I
theorem GoS.mono {Q' : Option Value → Heap → List (String × Addr × String × Nat) → Prop} (k : GoS l R Z n0 y code ml ret Q' h0 LL cells slots h pc Ls st) (hq : ∀ v h' L', Q' v h' L' → Q v h' L') : GoS l R Z n0 y code ml ret Q h0 LL cells slots h pc Ls st := by
  intro p e s vm0 k0 m args below meth c T locs C e0 X hS hk N eT I
  obtain ⟨s₂, o, h1, h2, h3, v, L, L2, h4, ⟨h5, h6⟩, h7⟩ := k p e s vm0 k0 m args below meth c T locs C e0 X hS hk N eT I
  exact ⟨s₂, o, h1, h2, h3, v, L, L2, h4, ⟨hq _ _ _ h5, h6⟩, h7⟩
/-- a String constant that this walk has loaded, and what she says -/
def Hel (Z : State) (h : Heap) (a b : Addr) (text : String) : Prop := ∃ (kb : ClassId) (z : Int32) (vs : List Value), Exa Z h a "java/lang/String" ∧ Fld Z h a "java/lang/String" "coder" "B" (.int 0) ∧ Fld Z h a "java/lang/String" "value" "[B" (.ref b) ∧ Arv Z h b kb .byte z vs (.int 0) ∧ Exa Z h b "[B" ∧ ((∀ c ∈ text.toList, c.toNat < 256) ∧ text.toList.map (fun c => Value.int (Jvm.Lit.byteI c.toNat.toUInt16)) = vs) ∧ z.toNatClampNeg = vs.length
theorem Hel.ext {a b : Addr} {text : String} {h' : Heap} (F : Hel Z h a b text) (E : Ext h h') : Hel Z h' a b text := by
  obtain ⟨kb, z, vs, x, c, v, r, y, q⟩ := F
  exact ⟨kb, z, vs, x.ext E, c.ext E, v.ext E, r.ext E, y.ext E, q⟩
theorem Hel.keep {a b : Addr} {text : String} {h' : Heap} {ws : List Addr} (F : Hel Z h a b text) (K : Keep h h' ws) (na : a ∉ ws) (nb : b ∉ ws) : Hel Z h' a b text := by
  obtain ⟨kb, z, vs, x, c, v, r, y, q⟩ := F
  exact ⟨kb, z, vs, x.keep K, c.keep K na, v.keep K na, r.keep K nb, y.keep K, q⟩
theorem Hel.other {a b x' : Addr} {text : String} {h' : Heap} {sl : Nat} {u : Value} (F : Hel Z h a b text) (W : Wr h h' x' sl u) (na : a ≠ x') (nb : b ≠ x') : Hel Z h' a b text := by
  obtain ⟨kb, z, vs, x, c, v, r, y, q⟩ := F
  exact ⟨kb, z, vs, x.wr W, c.other W (Or.inl na), v.other W (Or.inl na), r.other W nb, y.wr W, q⟩
theorem Hel.lt0 {a b : Addr} {text : String} (F : Hel Z h a b text) : a < h.size := by obtain ⟨kb, z, vs, x, -⟩ := F; exact x.lt
theorem Hel.lt1 {a b : Addr} {text : String} (F : Hel Z h a b text) : b < h.size := by obtain ⟨kb, z, vs, -, -, -, r, -⟩ := F; exact r.lt
abbrev HL (Z : State) (h0 : Heap) (text : String) (LL : List (String × Addr × String × Nat)) : Prop := ∀ x ∈ LL, x.1 = text → ∀ u : Array UInt16, utf16ToString? u = some text → SlOf ({ Z with heap := h0 } : State) x.2.1 u
theorem HL.nil {text : String} : HL Z h0 text [] := fun x hx => by simp at hx
theorem HL.no {text t : String} {r : Addr × String × Nat} (ne : t ≠ text) (H : HL Z h0 text LL) : HL Z h0 text ((t, r) :: LL) := fun x hx e => by
  rcases List.mem_cons.mp hx with rfl | hx
  · exact absurd e ne
  · exact H x hx e
theorem HL.yes {text t : String} {a b : Addr} {r : String × Nat} (wi : (Cond.instantiable "java/lang/String" 4).before a0 Z = true) (F : Hel Z h0 a b t) (H : HL Z h0 text LL) : HL Z h0 text ((t, a, r) :: LL) := fun x hx e u hu => by
  rcases List.mem_cons.mp hx with rfl | hx
  · obtain ⟨kb, z, vs, x, c, v, r, y, q1, q2⟩ := F
    exact own_sl x c v r y wi q1 q2 (by rw [show t = text from e]; exact hu)
  · exact H x hx e u hu
theorem GoS.iloadN {k : Fin 4} {v : Int32} (hd : decode code pc = .ok (.iload_n k, 1)) (hl : Ls[k.val]? = some (.val (.int v))) (hp : pc + 1 = pc') (k : GoS l R Z n0 y code ml ret Q h0 LL cells slots h pc' Ls (.int v :: st)) : GoS l R Z n0 y code ml ret Q h0 LL cells slots h pc Ls st := GoS.step (fun C X _ q => by subst hp; exact XS.iloadN X.here C.1 rfl (hb C.2.2.2.1 hd) hl q) k
theorem GoS.iload {k : Nat} {v : Int32} (hd : decode code pc = .ok (.iload k, 2)) (hl : Ls[k]? = some (.val (.int v))) (hp : pc + 2 = pc') (k : GoS l R Z n0 y code ml ret Q h0 LL cells slots h pc' Ls (.int v :: st)) : GoS l R Z n0 y code ml ret Q h0 LL cells slots h pc Ls st := GoS.step (fun C X _ q => by subst hp; exact XS.iload X.here C.1 rfl (hb C.2.2.2.1 hd) hl q) k
theorem GoS.aloadN {k : Fin 4} {v : Value} (hd : decode code pc = .ok (.aload_n k, 1)) (hl : Ls[k.val]? = some (.val v)) (hv : v.isRef = true) (hp : pc + 1 = pc') (k : GoS l R Z n0 y code ml ret Q h0 LL cells slots h pc' Ls (v :: st)) : GoS l R Z n0 y code ml ret Q h0 LL cells slots h pc Ls st := GoS.step (fun C X _ q => by subst hp; exact XS.aloadN X.here C.1 rfl (hb C.2.2.2.1 hd) hl hv q) k
theorem GoS.aload {k : Nat} {v : Value} (hd : decode code pc = .ok (.aload k, 2)) (hl : Ls[k]? = some (.val v)) (hv : v.isRef = true) (hp : pc + 2 = pc') (k : GoS l R Z n0 y code ml ret Q h0 LL cells slots h pc' Ls (v :: st)) : GoS l R Z n0 y code ml ret Q h0 LL cells slots h pc Ls st := GoS.step (fun C X _ q => by subst hp; exact XS.aload X.here C.1 rfl (hb C.2.2.2.1 hd) hl hv q) k
theorem GoS.istore {k : Nat} {v : Int32} (hd : decode code pc = .ok (.istore k, 2)) (hl : storeLocals Ls k (.int v) = some Ls') (hp : pc + 2 = pc') (k : GoS l R Z n0 y code ml ret Q h0 LL cells slots h pc' Ls' st) : GoS l R Z n0 y code ml ret Q h0 LL cells slots h pc Ls (.int v :: st) := GoS.step (fun C X _ q => by subst hp; exact XS.istore X.here C.1 rfl (hb C.2.2.2.1 hd) rfl hl q) k
theorem GoS.astore {k : Nat} {v : Value} (hd : decode code pc = .ok (.astore k, 2)) (hv : v.isRef = true) (hl : storeLocals Ls k v = some Ls') (hp : pc + 2 = pc') (k : GoS l R Z n0 y code ml ret Q h0 LL cells slots h pc' Ls' st) : GoS l R Z n0 y code ml ret Q h0 LL cells slots h pc Ls (v :: st) := GoS.step (fun C X _ q => by subst hp; exact XS.astore X.here C.1 rfl (hb C.2.2.2.1 hd) rfl hv hl q) k
theorem GoS.iconst {i : Int} {v : Int32} (hd : decode code pc = .ok (.iconst i, 1)) (hv : Int32.ofInt i = v) (hp : pc + 1 = pc') (k : GoS l R Z n0 y code ml ret Q h0 LL cells slots h pc' Ls (.int v :: st)) : GoS l R Z n0 y code ml ret Q h0 LL cells slots h pc Ls st := GoS.step (fun C X _ q => by subst hp; exact (by subst hv; exact XS.iconst X.here C.1 rfl (hb C.2.2.2.1 hd) q)) k
theorem GoS.bipush {i : Int} {v : Int32} (hd : decode code pc = .ok (.bipush i, 2)) (hv : (Int8.ofInt i).toInt32 = v) (hp : pc + 2 = pc') (k : GoS l R Z n0 y code ml ret Q h0 LL cells slots h pc' Ls (.int v :: st)) : GoS l R Z n0 y code ml ret Q h0 LL cells slots h pc Ls st := GoS.step (fun C X _ q => by subst hp; exact (by subst hv; exact XS.bipush X.here C.1 rfl (hb C.2.2.2.1 hd) q)) k
theorem GoS.sipush {i : Int} {v : Int32} (hd : decode code pc = .ok (.sipush i, 3)) (hv : (Int16.ofInt i).toInt32 = v) (hp : pc + 3 = pc') (k : GoS l R Z n0 y code ml ret Q h0 LL cells slots h pc' Ls (.int v :: st)) : GoS l R Z n0 y code ml ret Q h0 LL cells slots h pc Ls st := GoS.step (fun C X _ q => by subst hp; exact (by subst hv; exact XS.sipush X.here C.1 rfl (hb C.2.2.2.1 hd) q)) k
theorem GoS.aconstNull (hd : decode code pc = .ok (.aconst_null, 1)) (hp : pc + 1 = pc') (k : GoS l R Z n0 y code ml ret Q h0 LL cells slots h pc' Ls (.null :: st)) : GoS l R Z n0 y code ml ret Q h0 LL cells slots h pc Ls st := GoS.step (fun C X _ q => by subst hp; exact XS.aconstNull X.here C.1 rfl (hb C.2.2.2.1 hd) q) k
theorem GoS.ldcI {i : Nat} {v : Int32} (w : (Jvm.Cond.constant y.cls i v).before a0 Z = true) (hd : decode code pc = .ok (.ldc i, 2)) (hp : pc + 2 = pc') (k : GoS l R Z n0 y code ml ret Q h0 LL cells slots h pc' Ls (.int v :: st)) : GoS l R Z n0 y code ml ret Q h0 LL cells slots h pc Ls st := GoS.step (fun C X _ q => by subst hp; exact Jvm.Stand.ldcI X C.1 C.2.2.1 (mvT C.2.1 w) rfl (hb C.2.2.2.1 hd) q) k
theorem GoS.iand {a b : Int32} (hd : decode code pc = .ok (.iand, 1)) (hp : pc + 1 = pc') (k : GoS l R Z n0 y code ml ret Q h0 LL cells slots h pc' Ls (.int (a &&& b) :: st)) : GoS l R Z n0 y code ml ret Q h0 LL cells slots h pc Ls (.int b :: .int a :: st) := GoS.step (fun C X _ q => by subst hp; exact XS.iand X.here C.1 rfl (hb C.2.2.2.1 hd) rfl q) k
theorem GoS.irem {a b : Int32} (hd : decode code pc = .ok (.irem, 1)) (hz : b ≠ 0) (hp : pc + 1 = pc') (k : GoS l R Z n0 y code ml ret Q h0 LL cells slots h pc' Ls (.int (a % b) :: st)) : GoS l R Z n0 y code ml ret Q h0 LL cells slots h pc Ls (.int b :: .int a :: st) := GoS.step (fun C X _ q => by subst hp; exact iremM X C.1 rfl (hb C.2.2.2.1 hd) rfl hz q) k
theorem GoS.i2c {a : Int32} (hd : decode code pc = .ok (.i2c, 1)) (hp : pc + 1 = pc') (k : GoS l R Z n0 y code ml ret Q h0 LL cells slots h pc' Ls (.int a.toUInt32.toUInt16.toUInt32.toInt32 :: st)) : GoS l R Z n0 y code ml ret Q h0 LL cells slots h pc Ls (.int a :: st) := GoS.step (fun C X _ q => by subst hp; exact XT.i2c X.here C.1 rfl (hb C.2.2.2.1 hd) rfl q) k
theorem GoS.dup {v : Value} (hd : decode code pc = .ok (.dup, 1)) (hc : v.category = 1) (hp : pc + 1 = pc') (k : GoS l R Z n0 y code ml ret Q h0 LL cells slots h pc' Ls (v :: v :: st)) : GoS l R Z n0 y code ml ret Q h0 LL cells slots h pc Ls (v :: st) := GoS.step (fun C X _ q => by subst hp; exact XS.dup X.here C.1 rfl (hb C.2.2.2.1 hd) rfl hc q) k
theorem GoS.goto {o : Int} (hd : decode code pc = .ok (.goto o, 3)) (ho : 0 ≤ (pc : Int) + o := by decide) (hp : ((pc : Int) + o).toNat = pc' := by decide) (k : GoS l R Z n0 y code ml ret Q h0 LL cells slots h pc' Ls st) : GoS l R Z n0 y code ml ret Q h0 LL cells slots h pc Ls st := GoS.step (fun C X _ q => XS.goto X.here C.1 rfl rfl (hb C.2.2.2.1 hd) ho hp q) k
theorem GoS.ifYes {o : Int} {cd : ClassFile.Cond} {a : Int32} (hd : decode code pc = .ok (.ifCond cd o, 3)) (hc : ifCond.holds cd a = true) (ho : 0 ≤ (pc : Int) + o := by decide) (hp : ((pc : Int) + o).toNat = pc' := by decide) (k : GoS l R Z n0 y code ml ret Q h0 LL cells slots h pc' Ls st) : GoS l R Z n0 y code ml ret Q h0 LL cells slots h pc Ls (.int a :: st) := GoS.step (fun C X _ q => XS.ifYes X.here C.1 rfl rfl (hb C.2.2.2.1 hd) rfl hc ho hp q) k
theorem GoS.icmpYes {o : Int} {cd : ClassFile.Cond} {a b : Int32} (hd : decode code pc = .ok (.if_icmp cd o, 3)) (hc : if_icmp.holds cd a b = true) (ho : 0 ≤ (pc : Int) + o := by decide) (hp : ((pc : Int) + o).toNat = pc' := by decide) (k : GoS l R Z n0 y code ml ret Q h0 LL cells slots h pc' Ls st) : GoS l R Z n0 y code ml ret Q h0 LL cells slots h pc Ls (.int b :: .int a :: st) := GoS.step (fun C X _ q => XS.icmpYes X.here C.1 rfl rfl (hb C.2.2.2.1 hd) rfl hc ho hp q) k
theorem GoS.ifNo {o : Int} {cd : ClassFile.Cond} {a : Int32} (hd : decode code pc = .ok (.ifCond cd o, 3)) (hc : ifCond.holds cd a = false) (hp : pc + 3 = pc') (k : GoS l R Z n0 y code ml ret Q h0 LL cells slots h pc' Ls st) : GoS l R Z n0 y code ml ret Q h0 LL cells slots h pc Ls (.int a :: st) := GoS.step (fun C X _ q => by subst hp; exact XS.ifNo X.here C.1 rfl (hb C.2.2.2.1 hd) rfl hc q) k
theorem GoS.icmpNo {o : Int} {cd : ClassFile.Cond} {a b : Int32} (hd : decode code pc = .ok (.if_icmp cd o, 3)) (hc : if_icmp.holds cd a b = false) (hp : pc + 3 = pc') (k : GoS l R Z n0 y code ml ret Q h0 LL cells slots h pc' Ls st) : GoS l R Z n0 y code ml ret Q h0 LL cells slots h pc Ls (.int b :: .int a :: st) := GoS.step (fun C X _ q => by subst hp; exact XS.icmpNo X.here C.1 rfl (hb C.2.2.2.1 hd) rfl hc q) k
theorem GoS.acmpNo {o : Int} {cd : ClassFile.ACond} {a b : Value} (hd : decode code pc = .ok (.if_acmp cd o, 3)) (ha : a.isRef = true) (hb' : b.isRef = true) (hc : XT.acmp cd a b = false) (hp : pc + 3 = pc') (k : GoS l R Z n0 y code ml ret Q h0 LL cells slots h pc' Ls st) : GoS l R Z n0 y code ml ret Q h0 LL cells slots h pc Ls (b :: a :: st) := GoS.step (fun C X _ q => by subst hp; exact XT.acmpNo X.here C.1 rfl (hb C.2.2.2.1 hd) rfl ha hb' hc q) k
theorem GoS.nullNo {o : Int} {a : Value} (hd : decode code pc = .ok (.ifnull o, 3)) (ha : a.isRef = true) (hv : ¬ a = .null) (hp : pc + 3 = pc') (k : GoS l R Z n0 y code ml ret Q h0 LL cells slots h pc' Ls st) : GoS l R Z n0 y code ml ret Q h0 LL cells slots h pc Ls (a :: st) := GoS.step (fun C X _ q => by subst hp; exact XT.nullNo X.here C.1 rfl (hb C.2.2.2.1 hd) rfl ha hv q) k
theorem GoS.getstatic {host : String} {R0 O n d : String} {i : Nat} (w : (Jvm.Cond.fieldLink y.cls i R0 n d).before a0 Z = true ∨ (Jvm.Cond.fieldLinkNest y.cls i R0 n d host).before a0 Z = true) (via : Via Z R0 O n d) {v : Value} (F : Sta Z h O n d v) (hd : decode code pc = .ok (.getstatic i, 3)) (hp : pc + 3 = pc') (k : GoS l R Z n0 y code ml ret Q h0 LL cells slots h pc' Ls (v :: st)) : GoS l R Z n0 y code ml ret Q h0 LL cells slots h pc Ls st := by
  refine GoS.law (hgr := by intro h' q; first | exact Nat.le_of_eq (congrArg Array.size q.symm) | exact Nat.le_of_eq q.size.symm | exact q.1.1 | exact Nat.le_of_eq q.1.size.symm) (P := fun h' => h' = h) (fun C X N eT _ => ?_) (fun h' e => e ▸ k)
  subst hp
  obtain ⟨T', X', e', st⟩ := getS2 X C.1 C.2.1 C.2.2.1 w via eT F (g := mkF _ pc Ls st) rfl (hb C.2.2.2.1 hd)
  exact ⟨T', _, h, X', N, e', rfl, st⟩
theorem GoS.getfield {host : String} {R0 O n d : String} {i : Nat} (w : (Jvm.Cond.fieldLink y.cls i R0 n d).before a0 Z = true ∨ (Jvm.Cond.fieldLinkNest y.cls i R0 n d host).before a0 Z = true) (via : Via Z R0 O n d) {v : Value} {a : Addr} (F : Fld Z h a O n d v) (hd : decode code pc = .ok (.getfield i, 3)) (hp : pc + 3 = pc') (k : GoS l R Z n0 y code ml ret Q h0 LL cells slots h pc' Ls (v :: st)) : GoS l R Z n0 y code ml ret Q h0 LL cells slots h pc Ls (.ref a :: st) := by
  refine GoS.law (hgr := by intro h' q; first | exact Nat.le_of_eq (congrArg Array.size q.symm) | exact Nat.le_of_eq q.size.symm | exact q.1.1 | exact Nat.le_of_eq q.1.size.symm) (P := fun h' => h' = h) (fun C X N eT _ => ?_) (fun h' e => e ▸ k)
  subst hp
  obtain ⟨T', X', e', st⟩ := getF X C.1 C.2.1 C.2.2.1 w via eT F (g := mkF _ pc Ls (.ref a :: st)) rfl rfl (hb C.2.2.2.1 hd)
  exact ⟨T', _, h, X', N, e', rfl, st⟩
theorem GoS.initO {i : Nat} {a : Addr} (w1 : (Jvm.Cond.methodLink y.cls i Lib.objectInit).before a0 Z = true) (w2 : (Jvm.Cond.instanceMethod Lib.objectInit).before a0 Z = true) (w3 : (Jvm.Cond.code Lib.objectInit ⟨#[0xb1]⟩ 1 none).before a0 Z = true) (hd : decode code pc = .ok (.invokespecial i, 3)) (hz : Ls.size = ml) (hf : 1 ≤ R.frames := by decide) (hl : (st.map fun v => v.category).sum + 12 ≤ R.locals := by decide) (hp : pc + 3 = pc') (k : GoS l R Z n0 y code ml ret Q h0 LL cells slots h pc' Ls st) : GoS l R Z n0 y code ml ret Q h0 LL cells slots h pc Ls (.ref a :: st) := by
  refine GoS.law (hgr := by intro h' q; first | exact Nat.le_of_eq (congrArg Array.size q.symm) | exact Nat.le_of_eq q.size.symm | exact q.1.1 | exact Nat.le_of_eq q.1.size.symm) (P := fun h' => h' = h) (fun C X N eT _ => ?_) (fun h' e => e ▸ k)
  subst hp
  obtain ⟨T', X', e', st⟩ := initO X C.1 C.2.1 C.2.2.1 w1 w2 w3 eT (g := mkF _ pc Ls (.ref a :: st)) rfl (by rw [C.2.2.2.2.1]; exact hz) rfl (hb C.2.2.2.1 hd) hf (W := (st.map fun v => v.category).sum) (by simp) hl
  exact ⟨T', _, h, X', N, e', rfl, st⟩
theorem GoS.putfield {host : String} {R0 O n d : String} {i : Nat} (w : (Jvm.Cond.fieldLink y.cls i R0 n d).before a0 Z = true ∨ (Jvm.Cond.fieldLinkNest y.cls i R0 n d host).before a0 Z = true) {ty : FieldType} {C' : String} {kk : Nat} (via : Via Z R0 O n d) {v old : Value} {a : Addr} (F : Fld Z h a O n d old) (E : Exa Z h a C') (L : (Jvm.Cond.lays C' O n d).before a0 Z = true ∨ ((Jvm.Cond.laysFinal C' O n d).before a0 Z = true ∧ y.cls = O ∧ y.name = "<init>")) (wi : (Jvm.Cond.instantiable C' kk).before a0 Z = true) (hty : parseFieldDescriptor d = some ty) (hn : narrow ty v = v) (hf : fits ty v = true) (ha : n0 ≤ a) (hd : decode code pc = .ok (.putfield i, 3)) (hp : pc + 3 = pc') (k : ∀ h', Wr h h' a (Jvm.RoadKit.slotOf Z O n d) v → GoS l R Z n0 y code ml ret Q h0 LL cells slots h' pc' Ls st) : GoS l R Z n0 y code ml ret Q h0 LL cells slots h pc Ls (v :: .ref a :: st) := by
  refine GoS.law (hgr := by intro h' q; first | exact Nat.le_of_eq (congrArg Array.size q.symm) | exact Nat.le_of_eq q.size.symm | exact q.1.1 | exact Nat.le_of_eq q.1.size.symm) (P := fun h' => Wr h h' a (Jvm.RoadKit.slotOf Z O n d) v) (fun C X N eT hn => ?_) (k)
  subst hp
  obtain ⟨T', h', X', e', W, st⟩ := putF X C.1 C.2.1 C.2.2.1 w via eT F E (L.imp id fun q => ⟨q.1, q.2.1, C.2.2.2.2.2.2.2.1.trans q.2.2⟩) wi hty ‹narrow ty v = v› hf (g := mkF _ pc Ls (v :: .ref a :: st)) rfl rfl (hb C.2.2.2.1 hd)
  exact ⟨T', _, h', X', Fr.snoc X' N ha, e', W, st⟩
theorem GoS.putfieldN {R0 O n d : String} {i : Nat} (w : (Jvm.Cond.fieldLink y.cls i R0 n d).before a0 Z = true) {ty : FieldType} {C' : String} {kk : Nat} (via : Via Z R0 O n d) {v v' : Int32} {old : Value} {a : Addr} (F : Fld Z h a O n d old) (E : Exa Z h a C') (L : (Jvm.Cond.lays C' O n d).before a0 Z = true ∨ ((Jvm.Cond.laysFinal C' O n d).before a0 Z = true ∧ y.cls = O ∧ y.name = "<init>")) (wi : (Jvm.Cond.instantiable C' kk).before a0 Z = true) (hty : parseFieldDescriptor d = some ty) (hn : narrow ty (.int v) = .int v') (hf : fits ty (.int v') = true) (ha : n0 ≤ a) (hd : decode code pc = .ok (.putfield i, 3)) (hp : pc + 3 = pc') (k : ∀ h', Wr h h' a (Jvm.RoadKit.slotOf Z O n d) (.int v') → GoS l R Z n0 y code ml ret Q h0 LL cells slots h' pc' Ls st) : GoS l R Z n0 y code ml ret Q h0 LL cells slots h pc Ls (.int v :: .ref a :: st) := by
  refine GoS.law (hgr := by intro h' q; first | exact Nat.le_of_eq (congrArg Array.size q.symm) | exact Nat.le_of_eq q.size.symm | exact q.1.1 | exact Nat.le_of_eq q.1.size.symm) (P := fun h' => Wr h h' a (Jvm.RoadKit.slotOf Z O n d) (.int v')) (fun C X N eT hn => ?_) (k)
  subst hp
  obtain ⟨T', h', X', e', W, st⟩ := putFN X C.1 C.2.1 C.2.2.1 w via eT F E (L.imp id fun q => ⟨q.1, q.2.1, C.2.2.2.2.2.2.2.1.trans q.2.2⟩) wi hty ‹narrow ty (.int v) = .int v'› hf (g := mkF _ pc Ls (.int v :: .ref a :: st)) rfl rfl (hb C.2.2.2.1 hd)
  exact ⟨T', _, h', X', Fr.snoc X' N ha, e', W, st⟩
theorem GoS.new {C' : String} {i n cells' slots' : Nat} (w : (Jvm.Cond.classLink y.cls i C').before a0 Z = true) (wi : (Jvm.Cond.instantiable C' n).before a0 Z = true) (wz : (Jvm.Cond.initialized C').before a0 Z = true) (hd : decode code pc = .ok (.new i, 3)) (hc' : cells + 1 = cells') (hs' : slots + n = slots') (hc : cells' ≤ R.cells := by decide) (hl : slots' ≤ R.slots := by decide) (hp : pc + 3 = pc') (k : ∀ (h' : Heap) (b : Addr), b = h.size → Ext h h' → n0 ≤ b → Exa Z h' b C' → (∀ {O nm d : String} {ty : FieldType}, Laid Z a0 C' O nm d → parseFieldDescriptor d = some ty → Fld Z h' b O nm d (defaultValue ty)) → GoS l R Z n0 y code ml ret Q h0 LL cells' slots' h' pc' Ls (.ref b :: st)) : GoS l R Z n0 y code ml ret Q h0 LL cells slots h pc Ls st := by
  refine GoS.law (hgr := by intro h' q; first | exact Nat.le_of_eq (congrArg Array.size q.symm) | exact Nat.le_of_eq q.size.symm | exact q.1.1 | exact Nat.le_of_eq q.1.size.symm) (P := fun h' => (Ext h h' ∧ n0 ≤ h.size ∧ Exa Z h' h.size C' ∧ ∀ {O nm d : String} {ty : FieldType}, Laid Z a0 C' O nm d → parseFieldDescriptor d = some ty → Fld Z h' h.size O nm d (defaultValue ty))) (fun C X N eT hn => ?_) (fun h' q => k h' h.size rfl q.1 q.2.1 q.2.2.1 q.2.2.2)
  subst hp
  subst hc' hs'
  obtain ⟨T', h', X', e', E, A, D, -, st⟩ := newO X C.1 C.2.1 C.2.2.1 w wi wz eT (g := mkF _ pc Ls st) rfl (hb C.2.2.2.1 hd) hc hl
  exact ⟨T', _, h', X', N, e', ⟨E, hn, A, D⟩, st⟩
theorem GoS.newarray {aty : ArrayType} {ad : String} {n : Int32} {cap cells' slots' : Nat} (w : (Jvm.Cond.arrayClass (newarray.typeOf aty)).before a0 Z = true) (hd : decode code pc = .ok (.newarray aty, 2)) (had : "[" ++ (newarray.typeOf aty).toString = ad) (hn' : ¬ n < 0) (hcap : n.toNatClampNeg ≤ cap) (hc' : cells + 1 = cells') (hs' : slots + cap = slots') (hb8 : cap * 8 ≤ 536870912 := by decide) (hc : cells' ≤ R.cells := by decide) (hl : slots' ≤ R.slots := by decide) (hp : pc + 2 = pc') (k : ∀ (h' : Heap) (b : Addr), b = h.size → Ext h h' → n0 ≤ b → ∀ cA, Arv Z h' b cA (newarray.typeOf aty) n [] (defaultValue (newarray.typeOf aty)) → Exa Z h' b ad → GoS l R Z n0 y code ml ret Q h0 LL cells' slots' h' pc' Ls (.ref b :: st)) : GoS l R Z n0 y code ml ret Q h0 LL cells slots h pc Ls (.int n :: st) := by
  refine GoS.law (hgr := by intro h' q; first | exact Nat.le_of_eq (congrArg Array.size q.symm) | exact Nat.le_of_eq q.size.symm | exact q.1.1 | exact Nat.le_of_eq q.1.size.symm) (P := fun h' => (Ext h h' ∧ n0 ≤ h.size ∧ ∃ cA, Arv Z h' h.size cA (newarray.typeOf aty) n [] (defaultValue (newarray.typeOf aty)) ∧ Exa Z h' h.size ad)) (fun C X N eT hn => ?_) (fun h' q => q.2.2.elim fun cA u => k h' h.size rfl q.1 q.2.1 cA u.1 u.2)
  subst hp
  subst hc' hs'
  obtain ⟨T', h', cA, X', e', E, A, A2, st⟩ := newPE X C.1 C.2.1 w eT (g := mkF _ pc Ls (.int n :: st)) rfl (hb C.2.2.2.1 hd) rfl hn' hcap hb8 hc hl had
  exact ⟨T', _, h', X', N, e', ⟨E, hn, cA, Arv.new A hn', A2⟩, st⟩
theorem GoS.castore {a : Addr} {kA : ClassId} {z j : Int32} {vs : List Value} {dv : Value} {v : Int32} {i : Nat} (F : Arv Z h a kA .char z vs dv) (ha : n0 ≤ a) (hd : decode code pc = .ok (.castore, 1)) (hj : ¬ j < 0) (hjz : j < z) (hi : j.toNatClampNeg = i) (hil : i < vs.length) (hp : pc + 1 = pc') (k : ∀ h', Wr h h' a i (.int (nar .char v)) → Arv Z h' a kA .char z (vs.set i (.int (nar .char v))) dv → GoS l R Z n0 y code ml ret Q h0 LL cells slots h' pc' Ls st) : GoS l R Z n0 y code ml ret Q h0 LL cells slots h pc Ls (.int v :: .int j :: .ref a :: st) := by
  refine GoS.law (hgr := by intro h' q; first | exact Nat.le_of_eq (congrArg Array.size q.symm) | exact Nat.le_of_eq q.size.symm | exact q.1.1 | exact Nat.le_of_eq q.1.size.symm) (P := fun h' => (Wr h h' a i (.int (nar .char v)) ∧ Arv Z h' a kA .char z (vs.set i (.int (nar .char v))) dv)) (fun C X N eT hn => ?_) (fun h' q => k h' q.1 q.2)
  subst hp
  obtain ⟨cl, A, q1, S, q3, H, G⟩ := F
  obtain ⟨T', h', X', e', W, st⟩ := stC X C.1 C.2.1 eT A (j := j) (inb_of S ⟨hj, hjz⟩) (g := mkF _ pc Ls (.int v :: .int j :: .ref a :: st)) rfl rfl (hb C.2.2.2.1 hd)
  have V := Arv.set A q1 S q3 H G (fits_nar_char v) W i hi hil
  subst hi
  exact ⟨T', _, h', X', Fr.snoc X' N ha, e', ⟨W, V⟩, st⟩
theorem GoS.arraylength {a : Addr} {kA : ClassId} {ty : FieldType} {z : Int32} {vs : List Value} {dv : Value} (F : Arv Z h a kA ty z vs dv) (hd : decode code pc = .ok (.arraylength, 1)) (hp : pc + 1 = pc') (k : GoS l R Z n0 y code ml ret Q h0 LL cells slots h pc' Ls (.int z :: st)) : GoS l R Z n0 y code ml ret Q h0 LL cells slots h pc Ls (.ref a :: st) := by
  refine GoS.step (fun C X eT q => ?_) k
  subst hp
  obtain ⟨cl, A, q1, S, q3, H, G⟩ := F
  refine X.arraylength C.1 (by rw [eT]; exact A.1) (State.isArrayOf_alike C.2.1.alike A.2.1) (g := mkF _ pc Ls (.ref a :: st)) rfl rfl (hb C.2.2.2.1 hd) _ ?_
  rw [len_of S q3]
  exact q

theorem GoS.retV (hr : ret = none) (hd : decode code pc = .ok (.return_, 1)) (hq : Q none h LL) (hc : cells ≤ R.cells := by decide) (hs : slots ≤ R.slots := by decide) : GoS l R Z n0 y code ml ret Q h0 LL cells slots h pc Ls [] := by
  intro p e s vm0 k0 m args below meth c T locs C e0 X hS hk N eT I
  obtain ⟨fs, hr', hrun, hended, w1, w2, w3, w4⟩ := X.leaveW hS (eT ▸ hk) (v := none) (fun _ => rfl) C.2.2.2.2.2.2.1
  refine ⟨_, _, X.returnOut C.1 (C.2.2.2.2.2.1.trans hr) (hb C.2.2.2.1 hd) hr', hrun, hended, _, locs, LL, rfl, ⟨?_, I.warm X.warmed, N⟩, w1, w2, w3, w4.mono hc hs⟩
  show Q _ T.heap _
  rw [eT]; exact hq
theorem GoS.retN {t : FieldType} {v : Int32} (hr : ret = some t) (ht : t = .boolean ∨ t = .byte ∨ t = .char ∨ t = .short) (hd : decode code pc = .ok (.ireturn, 1)) (hq : Q (some (.int (nar t v))) h LL) (hc : cells ≤ R.cells := by decide) (hs : slots ≤ R.slots := by decide) : GoS l R Z n0 y code ml ret Q h0 LL cells slots h pc Ls (.int v :: st) := by
  intro p e s vm0 k0 m args below meth c T locs C e0 X hS hk N eT I
  obtain ⟨fs, hr', hrun, hended, w1, w2, w3, w4⟩ := X.leaveW hS (eT ▸ hk) (v := some (.int (nar t v))) (fun q => by rw [C.2.2.2.2.2.1, hr] at q; cases q) C.2.2.2.2.2.2.1
  refine ⟨_, _, Jvm.RoadKit.retN X C.1 (C.2.2.2.2.2.1.trans hr) ht (hb C.2.2.2.1 hd) hr', hrun, hended, _, locs, LL, rfl, ⟨?_, I.warm X.warmed, N⟩, w1, w2, w3, w4.mono hc hs⟩
  show Q _ T.heap _
  rw [eT]; exact hq
theorem GoS.retR {t : FieldType} {v : Value} (hr : ret = some t) (ht : t.isReference = true) (hv : v.isRef = true) (hn : narrow t v = v) (hd : decode code pc = .ok (.areturn, 1)) (hq : Q (some v) h LL) (hc : cells ≤ R.cells := by decide) (hs : slots ≤ R.slots := by decide) : GoS l R Z n0 y code ml ret Q h0 LL cells slots h pc Ls (v :: st) := by
  intro p e s vm0 k0 m args below meth c T locs C e0 X hS hk N eT I
  obtain ⟨fs, hr', hrun, hended, w1, w2, w3, w4⟩ := X.leaveW hS (eT ▸ hk) (v := some v) (fun q => by rw [C.2.2.2.2.2.1, hr] at q; cases q) C.2.2.2.2.2.2.1
  refine ⟨_, _, retOut X C.1 (C.2.2.2.2.2.1.trans hr) hn (Or.inr (Or.inr (Or.inr (Or.inr ⟨rfl, ht, hv⟩)))) (hb C.2.2.2.1 hd) hr', hrun, hended, _, locs, LL, rfl, ⟨?_, I.warm X.warmed, N⟩, w1, w2, w3, w4.mono hc hs⟩
  show Q _ T.heap _
  rw [eT]; exact hq
theorem GoS.callS {z : MethodName} {zc : ByteArray} {zm : Nat} {zr : Option FieldType} {rm : Room} {Q' : Option Value → Heap → List (String × Addr × String × Nat) → Prop} {cells' slots' i : Nat} (argsL rest : List Value) {ps : List FieldType} {r : Option FieldType} (w1 : (Jvm.Cond.methodLink y.cls i z).before a0 Z = true) (w2 : (Jvm.Cond.static z).before a0 Z = true) (wi : (Jvm.Cond.initialized z.cls).before a0 Z = true) (wc : (Jvm.Cond.code z zc zm zr).before a0 Z = true) (hy : z.cls ≠ "java/lang/invoke/MethodHandle" ∧ z.cls ≠ "java/lang/invoke/VarHandle") (hK : ConS l z zc zm zr rm Z n0 argsL.toArray h LL Q') (hpd : parseMethodDescriptor z.desc = some ⟨ps, r⟩) (hlen : argsL.length = ps.length) (hst : st = argsL.reverse ++ rest) (hz : Ls.size = ml) (hc' : cells + rm.cells = cells') (hs' : slots + rm.slots = slots') (hfr : rm.frames + 1 ≤ R.frames := by decide) (hlo : (rest.map fun v => v.category).sum + (zm + 11) + rm.locals ≤ R.locals := by decide) (hc : cells' ≤ R.cells := by decide) (hs : slots' ≤ R.slots := by decide) (hd : decode code pc = .ok (.invokestatic i, 3)) (hp : pc + 3 = pc')
    (k : ∀ v h' LL', Q' v h' LL' → GoS l R Z n0 y code ml ret Q h0 LL' cells' slots' h' pc' Ls (v.toList ++ rest)) : GoS l R Z n0 y code ml ret Q h0 LL cells slots h pc Ls st := by
  intro p e s vm0 k0 m args below meth c T locs C e0 X hS hk N eT I
  subst hc' hs' hp hst
  have hold : Old Z n0 h := own_old (s := s.setVm vm0) C.2.2.2.2.2.2.2.2 X N eT
  obtain ⟨v, _, ⟨T', L', k', n'⟩, -, X', hS', hgr, ⟨Lc, LL', hQ, hI, hN, l', y', z'⟩, st⟩ := callSS X C.1 (y := z) C.2.2.1 (mvT C.2.1 w1) (mvT C.2.1 w2) (mvT C.2.1 wi) (mvT C.2.1 wc) hy (own_backS (s := s.setVm vm0) (W := (rest.map fun v => v.category).sum) (hK hold) C.2.1 wc wi hfr hlo) (g := mkF m pc Ls (argsL.reverse ++ rest)) rfl (by rw [C.2.2.2.2.1]; exact hz) (argsL := argsL) (rest := rest) (lenOf hpd hlen) rfl (by simp) (hb C.2.2.2.1 hd) (fun _ hw1 => ⟨rfl, eT, I.warm hw1, hc, hs⟩)
  dsimp only [Pt.U, Pt.locs, Pt.cells, Pt.slots] at X' l' y' z' st hQ hS' hgr hI
  subst l' y' z'
  obtain ⟨s₂, o, h1, h2⟩ := k v _ LL' hQ p e s T'.vm T'.heap.size m args below meth c T' _ (C.re hS'.1) e0 X' (hS.trans hS' (Nat.le_trans hk (eT ▸ hgr))) (Nat.le_refl _) (Fr.app N hN) rfl hI
  exact ⟨s₂, o, st.trans h1, h2⟩
theorem GoS.callC {z : MethodName} {zc : ByteArray} {zm : Nat} {zr : Option FieldType} {rm : Room} {Q' : Option Value → Heap → List (String × Addr × String × Nat) → Prop} {cells' slots' i : Nat} (argsL rest : List Value) {ps : List FieldType} {r : Option FieldType} {a : Addr} (hzi : z.name = "<init>") (hzr : zr = none) (w1 : (Jvm.Cond.methodLink y.cls i z).before a0 Z = true) (w2 : (Jvm.Cond.instanceMethod z).before a0 Z = true) (wi : (Jvm.Cond.initialized z.cls).before a0 Z = true) (wc : (Jvm.Cond.code z zc zm zr).before a0 Z = true) (hy : z.cls ≠ "java/lang/invoke/MethodHandle" ∧ z.cls ≠ "java/lang/invoke/VarHandle") (hK : ConS l z zc zm zr rm Z n0 (.ref a :: argsL).toArray h LL Q') (hpd : parseMethodDescriptor z.desc = some ⟨ps, r⟩) (hlen : argsL.length = ps.length) (hst : st = argsL.reverse ++ .ref a :: rest) (hz : Ls.size = ml) (hc' : cells + rm.cells = cells') (hs' : slots + rm.slots = slots') (hfr : rm.frames + 1 ≤ R.frames := by decide) (hlo : (rest.map fun v => v.category).sum + (zm + 11) + rm.locals ≤ R.locals := by decide) (hc : cells' ≤ R.cells := by decide) (hs : slots' ≤ R.slots := by decide) (hd : decode code pc = .ok (.invokespecial i, 3)) (hp : pc + 3 = pc')
    (k : ∀ v h' LL', Q' v h' LL' → GoS l R Z n0 y code ml ret Q h0 LL' cells' slots' h' pc' Ls (v.toList ++ rest)) : GoS l R Z n0 y code ml ret Q h0 LL cells slots h pc Ls st := by
  intro p e s vm0 k0 m args below meth c T locs C e0 X hS hk N eT I
  subst hc' hs' hp hst
  have hold : Old Z n0 h := own_old (s := s.setVm vm0) C.2.2.2.2.2.2.2.2 X N eT
  subst hzr
  obtain ⟨v, _, ⟨T', L', k', n'⟩, -, X', hS', hgr, ⟨Lc, LL', hQ, hI, hN, l', y', z'⟩, st⟩ := X.specialBackS C.1 (y := z) hzi C.2.2.1 (mvT C.2.1 w1) (mvT C.2.1 w2) (mvT C.2.1 wc) hy (own_backS (s := s.setVm vm0) (W := (rest.map fun v => v.category).sum) (hK hold) C.2.1 wc wi hfr hlo) (g := mkF m pc Ls (argsL.reverse ++ .ref a :: rest)) rfl (by rw [C.2.2.2.2.1]; exact hz) (Steps.refl _) (a := a) (argsL := argsL) (rest := rest) (lenOf hpd hlen) rfl (by simp) (hb C.2.2.2.1 hd) (fun _ hw1 => ⟨rfl, eT, I.warm hw1, hc, hs⟩)
  dsimp only [Pt.U, Pt.locs, Pt.cells, Pt.slots] at X' l' y' z' st hQ hS' hgr hI
  subst l' y' z'
  obtain ⟨s₂, o, h1, h2⟩ := k v _ LL' hQ p e s T'.vm T'.heap.size m args below meth c T' _ (C.re hS'.1) e0 X' (hS.trans hS' (Nat.le_trans hk (eT ▸ hgr))) (Nat.le_refl _) (Fr.app N hN) rfl hI
  exact ⟨s₂, o, st.trans h1, h2⟩
theorem GoS.callV {z : MethodName} {zc : ByteArray} {zm : Nat} {zr : Option FieldType} {rm : Room} {Q' : Option Value → Heap → List (String × Addr × String × Nat) → Prop} {cells' slots' i : Nat} (argsL rest : List Value) {ps : List FieldType} {r : Option FieldType} {a : Addr} {x' : MethodName} {C' : String} (E : Exa Z h a C') (w1 : (Jvm.Cond.methodLink y.cls i x').before a0 Z = true) (w2 : (Jvm.Cond.declares x').before a0 Z = true) (nf : ∀ s' : State, Z.Warmed39 s'.vm → NotFace s' x') (w3 : (Jvm.Cond.selects C' x' z).before a0 Z = true) (w4 : (Jvm.Cond.instanceMethod z).before a0 Z = true) (wi : (Jvm.Cond.initialized z.cls).before a0 Z = true) (wc : (Jvm.Cond.code z zc zm zr).before a0 Z = true) (hy : x'.cls ≠ "java/lang/invoke/MethodHandle" ∧ x'.cls ≠ "java/lang/invoke/VarHandle") (hK : ConS l z zc zm zr rm Z n0 (.ref a :: argsL).toArray h LL Q') (hpd : parseMethodDescriptor x'.desc = some ⟨ps, r⟩) (hlen : argsL.length = ps.length) (hst : st = argsL.reverse ++ .ref a :: rest) (hz : Ls.size = ml) (hc' : cells + rm.cells = cells') (hs' : slots + rm.slots = slots') (hfr : rm.frames + 1 ≤ R.frames := by decide) (hlo : (rest.map fun v => v.category).sum + (zm + 11) + rm.locals ≤ R.locals := by decide) (hc : cells' ≤ R.cells := by decide) (hs : slots' ≤ R.slots := by decide) (hd : decode code pc = .ok (.invokevirtual i, 3)) (hp : pc + 3 = pc')
    (k : ∀ v h' LL', Q' v h' LL' → GoS l R Z n0 y code ml ret Q h0 LL' cells' slots' h' pc' Ls (v.toList ++ rest)) : GoS l R Z n0 y code ml ret Q h0 LL cells slots h pc Ls st := by
  intro p e s vm0 k0 m args below meth c T locs C e0 X hS hk N eT I
  subst hc' hs' hp hst
  have hold : Old Z n0 h := own_old (s := s.setVm vm0) C.2.2.2.2.2.2.2.2 X N eT
  obtain ⟨cq, kq, qa, qb, qc⟩ := isOf C.2.1 eT E
  obtain ⟨v, _, ⟨T', L', k', n'⟩, -, X', hS', hgr, ⟨Lc, LL', hQ, hI, hN, l', y', z'⟩, st⟩ := X.virtualBackS C.1 (y := x') (z := z) C.2.2.1 (mvT C.2.1 w1) (mvT C.2.1 w2) (nf (s.setVm vm0) C.2.1) (mvT C.2.1 w3) (mvT C.2.1 w4) hy (own_backS (s := s.setVm vm0) (W := (rest.map fun v => v.category).sum) (hK hold) C.2.1 wc wi hfr hlo) qa qc (g := mkF m pc Ls (argsL.reverse ++ .ref a :: rest)) rfl (by rw [C.2.2.2.2.1]; exact hz) (Steps.refl _) (argsL := argsL) (rest := rest) (lenOf hpd hlen) rfl (by simp) (hb C.2.2.2.1 hd) (fun _ hw1 => ⟨rfl, eT, I.warm hw1, hc, hs⟩)
  dsimp only [Pt.U, Pt.locs, Pt.cells, Pt.slots] at X' l' y' z' st hQ hS' hgr hI
  subst l' y' z'
  obtain ⟨s₂, o, h1, h2⟩ := k v _ LL' hQ p e s T'.vm T'.heap.size m args below meth c T' _ (C.re hS'.1) e0 X' (hS.trans hS' (Nat.le_trans hk (eT ▸ hgr))) (Nat.le_refl _) (Fr.app N hN) rfl hI
  exact ⟨s₂, o, st.trans h1, h2⟩
end RulesS
end Jvm.OwnGo
namespace Jvm.OwnNum
theorem mask (x m : Int32) (hm : 0 ≤ m.toInt) : 0 ≤ (x &&& m).toInt ∧ (x &&& m).toInt ≤ m.toInt := by
  have e : ∀ z : Int32, z.toInt = z.toBitVec.toInt := fun _ => rfl
  have hb : (x &&& m).toBitVec = x.toBitVec &&& m.toBitVec := rfl
  rw [e] at hm
  rw [e (x &&& m), e m, hb]
  have h1 : 2 * m.toBitVec.toNat < 2 ^ 32 := by
    rw [BitVec.toInt_eq_toNat_cond] at hm
    split at hm
    · assumption
    · have := m.toBitVec.isLt; omega
  have h2 : (x.toBitVec &&& m.toBitVec).toNat ≤ m.toBitVec.toNat := by
    rw [BitVec.toNat_and]; exact Nat.and_le_right
  rw [BitVec.toInt_eq_toNat_of_lt (x := m.toBitVec) h1, BitVec.toInt_eq_toNat_of_lt (x := x.toBitVec &&& m.toBitVec) (by omega)]
  omega
theorem modr (y k : Int32) (hy : 0 ≤ y.toInt) (hk : 0 < k.toInt) : 0 ≤ (y % k).toInt ∧ (y % k).toInt < k.toInt := by
  rw [Int32.toInt_mod]
  exact ⟨Int.tmod_nonneg _ hy, Int.tmod_lt_of_pos _ hk⟩
theorem maskmod (x k : Int32) (hk : 0 < k.toInt) : 0 ≤ ((x &&& 2147483647) % k).toInt ∧ ((x &&& 2147483647) % k).toInt < k.toInt := modr _ k (mask x 2147483647 (by decide)).1 hk
theorem eqI {a k : Int32} (h : a.toInt = k.toInt) : a = k := Int32.toInt_inj.mp h
end Jvm.OwnNum
namespace Jvm.OwnNum
theorem lremE (x y : Int64) : x - (x / y) * y = x % y := by
  apply Int64.toInt_inj.mp
  rw [Int64.toInt_mod, Int64.toInt_sub, Int64.toInt_mul, Int64.toInt_div]
  have h := Int.mul_tdiv_add_tmod x.toInt y.toInt
  have e : (x.toInt - ((x.toInt.tdiv y.toInt).bmod (2^64) * y.toInt).bmod (2^64)).bmod (2^64) = (x.toInt - (x.toInt.tdiv y.toInt * y.toInt)).bmod (2^64) := by
    simp
  rw [e]
  have q : x.toInt - x.toInt.tdiv y.toInt * y.toInt = x.toInt.tmod y.toInt := by
    rw [Int.mul_comm]; omega
  rw [q]
  have h1 := Int64.le_toInt (x % y)
  have h2 := Int64.toInt_lt (x % y)
  rw [Int64.toInt_mod] at h1 h2
  exact Int.bmod_eq_of_le_mul_two (by omega) (by omega)
theorem mask64 (x m : Int64) (hm : 0 ≤ m.toInt) : 0 ≤ (x &&& m).toInt ∧ (x &&& m).toInt ≤ m.toInt := by
  have e : ∀ z : Int64, z.toInt = z.toBitVec.toInt := fun _ => rfl
  have hb : (x &&& m).toBitVec = x.toBitVec &&& m.toBitVec := rfl
  rw [e] at hm
  rw [e (x &&& m), e m, hb]
  have h1 : 2 * m.toBitVec.toNat < 2 ^ 64 := by
    rw [BitVec.toInt_eq_toNat_cond] at hm
    split at hm
    · assumption
    · have := m.toBitVec.isLt; omega
  have h2 : (x.toBitVec &&& m.toBitVec).toNat ≤ m.toBitVec.toNat := by
    rw [BitVec.toNat_and]; exact Nat.and_le_right
  rw [BitVec.toInt_eq_toNat_of_lt (x := m.toBitVec) h1, BitVec.toInt_eq_toNat_of_lt (x := x.toBitVec &&& m.toBitVec) (by omega)]
  omega
theorem maskmod64 (x m k : Int64) (hm : 0 ≤ m.toInt) (hk : 0 < k.toInt) : 0 ≤ ((x &&& m) - ((x &&& m) / k) * k).toInt ∧ ((x &&& m) - ((x &&& m) / k) * k).toInt < k.toInt := by
  rw [lremE, Int64.toInt_mod]
  exact ⟨Int.tmod_nonneg _ (mask64 x m hm).1, Int.tmod_lt_of_pos _ hk⟩
theorem narrowI (x : Int64) (h1 : 0 ≤ x.toInt) (h2 : x.toInt < 2147483648) : x.toInt32.toInt = x.toInt := by
  rw [Int64.toInt_toInt32]
  exact Int.bmod_eq_of_le_mul_two (by omega) (by omega)
theorem lmod5 (x : Int64) : 0 ≤ (((x &&& (9223372036854775807 : Int64)) - ((x &&& (9223372036854775807 : Int64)) / (5 : Int64)) * (5 : Int64)).toInt32).toInt ∧ (((x &&& (9223372036854775807 : Int64)) - ((x &&& (9223372036854775807 : Int64)) / (5 : Int64)) * (5 : Int64)).toInt32).toInt < 5 := by
  have h := maskmod64 x 9223372036854775807 5 (by decide) (by decide)
  have e5 : (5 : Int64).toInt = 5 := by decide
  rw [e5] at h
  rw [narrowI _ h.1 (by omega)]
  exact h
end Jvm.OwnNum
namespace Jvm.OwnNum
theorem b8 (x : Int32) : x.toInt8.toInt32.toInt8.toInt32 = x.toInt8.toInt32 := by simp
theorem c16 (x : Int32) : x.toUInt32.toUInt16.toUInt32.toInt32.toUInt32.toUInt16.toUInt32.toInt32 = x.toUInt32.toUInt16.toUInt32.toInt32 := by simp only [UInt32.toUInt32_toInt32, UInt16.toUInt16_toUInt32]
theorem le255 (x : Int32) : ¬ (255 : Int32) < x &&& 255 := by
  have h := mask x 255 (by decide)
  have e : (255 : Int32).toInt = 255 := by decide
  rw [Int32.lt_iff_toInt_lt]; omega
end Jvm.OwnNum
namespace Jvm.OwnGo
open Jvm Jvm.ClassFile Sem Op Lib Jvm.Free Jvm.Stand Jvm.LawKit Jvm.RoadKit
section Sheet
variable {args : Array Value} {s : State} {t : Term} {a : Addr}
theorem own_eqI {k : Int32} (h : (Jvm.Cond.eq t (.int k)).value args s none s [] = some true) : t.eval args s none [] s = some (.int k) := by
  simp only [Cond.value, Term.eval] at h
  cases ht : t.eval args s none [] s with
  | none => simp [ht] at h
  | some x => cases x <;> simp [ht] at h ⊢; exact h
theorem own_eqJ {k : Int64} (h : (Jvm.Cond.eq t (.long k)).value args s none s [] = some true) : t.eval args s none [] s = some (.long k) := by
  simp only [Cond.value, Term.eval] at h
  cases ht : t.eval args s none [] s with
  | none => simp [ht] at h
  | some x => cases x <;> simp [ht] at h ⊢; exact h
theorem own_eqR {u : Term} {b : Addr} (hu : u.eval args s none [] s = some (.ref b)) (h : (Jvm.Cond.eq t u).value args s none s [] = some true) : t.eval args s none [] s = some (.ref b) := by
  simp only [Cond.value, hu] at h
  cases ht : t.eval args s none [] s with
  | none => simp [ht] at h
  | some x => cases x <;> simp [ht] at h ⊢; exact h
theorem own_fld {C n d : String} {v : Value} (ht : t.eval args s none [] s = some (.ref a)) (h : (Term.field t C n d).eval args s none [] s = some v) : Jvm.RoadKit.Fld s s.heap a C n d v :=
  Fld.start (by rw [← fld_at (C := C) (n := n) (dd := d) ht]; exact h)
theorem own_arr {ty : FieldType} {n : Int32} (ev : t.eval args s none [] s = some (.ref a)) (hx : (Jvm.Cond.arrayOf t ty).value args s none s [] = some true) (hl : (Term.length t).eval args s none [] s = some (.int n)) :
    ∃ c, Arr s s.heap a c ty ∧ c.slots.size < 2 ^ 31 ∧ c.slots.size.toInt32 = n := by
  obtain ⟨c, A⟩ := Arr.start ev hx
  have e := A.fin (Vm.Alike.refl _)
  refine ⟨c, A, ?_⟩
  simp only [Term.eval, ev, Option.bind_eq_bind, Option.bind_some, e] at hl
  split at hl
  · rename_i q; exact ⟨q, by simpa using hl⟩
  · cases hl
theorem own_elem {ty : FieldType} {j : Int32} {c : Cell} {v : Value} (ev : t.eval args s none [] s = some (.ref a)) (A : Arr s s.heap a c ty) (hj : ¬ j < 0) (h : (Term.elem t (.int j)).eval args s none [] s = some v) : c.slots[j.toNatClampNeg]? = some v := by
  rw [elem_f ev (Term.int_eval j) (A.fin (Vm.Alike.refl _)) hj] at h; exact h
end Sheet
end Jvm.OwnGo
namespace Jvm.OwnGo
open Jvm Jvm.ClassFile Sem Op Lib Jvm.Free Jvm.Stand Jvm.LawKit Jvm.RoadKit
theorem own_arvAny {s : State} {a : Addr} {c : Cell} {ty : FieldType} {n : Int32} {dv : Value} (hf : Fit s) (A : Arr s s.heap a c ty) (q : c.slots.size < 2 ^ 31) (e : c.slots.size.toInt32 = n) (hn : ¬ n < 0) : Jvm.RoadKit.Arv s s.heap a c.cls ty n c.slots.toList dv := by
  have S : c.slots.size = n.toNatClampNeg := by rw [← e]; simp only [Int32.toNatClampNeg, len_toInt q]; rfl
  have H : Has c c.slots.toList dv := fun k hk => by simp [List.getD_eq_getElem?_getD, hk]
  refine ⟨c, A, rfl, S, hn, H, fun j hj => ?_⟩
  have hi := idx_in hj q
  obtain ⟨v, h1, h2⟩ := elem_fit hf A hi
  have ej : (j.toInt32).toNatClampNeg = j := by
    simp only [Int32.toNatClampNeg, len_toInt (Nat.lt_trans hj q)]; rfl
  rw [ej, H j hj] at h1
  cases h1
  exact h2
end Jvm.OwnGo
namespace Jvm.OwnGo
open Jvm Jvm.ClassFile Sem Op Lib Jvm.Free Jvm.Stand Jvm.LawKit Jvm.RoadKit
theorem own_eqV {args : Array Value} {s : State} {t u : Term} {idx : List Nat} {k : Int32} (hu : u.eval args s none idx s = some (.int k)) (h : (Jvm.Cond.eq t u).value args s none s idx = some true) : t.eval args s none idx s = some (.int k) := by
  simp only [Cond.value, hu] at h
  cases ht : t.eval args s none idx s with
  | none => simp [ht] at h
  | some x => cases x <;> simp [ht] at h ⊢; exact h
theorem own_static_idx {args : Array Value} {s : State} {C n d : String} {v : Value} (h : (Term.static C n d).eval args s none [] s = some v) (idx : List Nat) : (Term.static C n d).eval args s none idx s = some v := by
  simp only [Term.eval] at h ⊢; exact h
theorem own_i128 (i : Int32) (h1 : ¬ i < -128) (h2 : ¬ 127 < i) : ¬ i + 128 < 0 ∧ i + 128 < 256 ∧ (i + 128).toNatClampNeg < 256 := by
  rw [Int32.lt_iff_toInt_lt] at h1 h2
  have e1 : (-128 : Int32).toInt = -128 := by decide
  have e2 : (127 : Int32).toInt = 127 := by decide
  have e3 : (128 : Int32).toInt = 128 := by decide
  rw [e1] at h1; rw [e2] at h2
  have e : (i + 128).toInt = i.toInt + 128 := by
    rw [Int32.toInt_add, e3]; exact Int.bmod_eq_of_le_mul_two (by omega) (by omega)
  refine ⟨?_, ?_, ?_⟩
  · rw [Int32.lt_iff_toInt_lt, e]; have : (0 : Int32).toInt = 0 := by decide
    omega
  · rw [Int32.lt_iff_toInt_lt, e]; have : (256 : Int32).toInt = 256 := by decide
    omega
  · simp only [Int32.toNatClampNeg, e]; omega
theorem own_cache {args : Array Value} {s : State} {a : Addr} {c : Cell} {ct : Term} (ev : ∀ idx, ct.eval args s none idx s = some (.ref a)) (A : Arr s s.heap a c (.object "java/lang/Integer")) (hsz : c.slots.size < 2 ^ 31) (hn : c.slots.size.toInt32 = 256)
    (hall : (Jvm.Cond.all ct (.and (.exactly (.elem ct (.index 0)) "java/lang/Integer") (.eq (.field (.elem ct (.index 0)) "java/lang/Integer" "value" "I") (.sub (.index 0) (.int 128))))).value args s none s [] = some true) :
    ∀ i : Int32, ¬ i < -128 → ¬ 127 < i → ∃ w, c.slots.toList.getD (i + 128).toNatClampNeg .null = .ref w ∧ Jvm.RoadKit.Exa s s.heap w "java/lang/Integer" ∧ Jvm.RoadKit.Fld s s.heap w "java/lang/Integer" "value" "I" (.int i) := by
  intro i h1 h2
  obtain ⟨b1, b2, b3⟩ := own_i128 i h1 h2
  have hat := A.fin (Vm.Alike.refl _)
  have S : c.slots.size = 256 := by
    have : c.slots.size = (256 : Int32).toNatClampNeg := by rw [← hn]; simp only [Int32.toNatClampNeg, len_toInt hsz]; rfl
    rw [this]; decide
  have q := Cond.all_elim (ev []) hat hall (i + 128).toNatClampNeg (by rw [S]; exact b3)
  obtain ⟨q1, q2⟩ := and_e q
  have ei : (Term.index 0).eval args s none [(i + 128).toNatClampNeg] s = some (.int (i + 128)) := idx_at b1
  obtain ⟨w, ew⟩ := exa_v q1
  have ew' := ew
  rw [elem_f (ev _) ei hat b1] at ew'
  have es : (Term.sub (.index 0) (.int 128)).eval args s none [(i + 128).toNatClampNeg] s = some (.int i) := by
    have e0 : i + 128 - 128 = i := by
      rw [Int32.sub_eq_add_neg, Int32.add_assoc]; simp
    have e1 := (back32 b1).1
    simp [Term.eval, e1, e0]
  have ef := own_eqV es q2
  refine ⟨w, ?_, exa_at ew q1, Fld.start ?_⟩
  · rw [List.getD_eq_getElem?_getD, Array.getElem?_toList, ew']; rfl
  · rw [← fld_at (C := "java/lang/Integer") (n := "value") (dd := "I") ew]; exact ef
end Jvm.OwnGo
namespace Jvm.OwnGo
open Jvm Jvm.ClassFile Sem Op Lib Jvm.Free Jvm.Stand Jvm.LawKit Jvm.RoadKit
theorem own_nroot {Z : State} {a0 : Array Value} {O K : String} {n : Nat} (w : (Jvm.Cond.noSuperclass O).before a0 Z = true) (wk : (Jvm.Cond.instantiable K n).before a0 Z = true) (hn : O ≠ K) : NS Z O K := by
  obtain ⟨c, k, h1, h2, h3, -, -⟩ := Cond.noSuperclass_spec w
  obtain ⟨t, kt, g1, -⟩ := Cond.instantiable_spec wk
  have ne := ids_ne h1 g1 hn
  refine ⟨c, t, h1, g1, fun fuel => ?_⟩
  cases fuel with
  | zero => rfl
  | succ f => simp [Vm.isSubclassAux, ne, h2, h3]
theorem own_nno {Z : State} {a0 : Array Value} {C S K : String} {n : Nat} (w : (Jvm.Cond.superclass C S).before a0 Z = true) (wk : (Jvm.Cond.instantiable K n).before a0 Z = true) (nn : NS Z C K) (hn : C ≠ K) : ∃ c t, Z.vm.findClass C = some c ∧ Z.vm.findClass K = some t ∧ Z.vm.assignable c t = false := by
  obtain ⟨c, t, h0, g0, n3⟩ := nn
  obtain ⟨p, k, kp, h1, h2, h3, h4, h5, -, h7⟩ := Cond.superclass_spec h0 w
  obtain ⟨t', kt, g1, g2, g3, g4, -⟩ := Cond.instantiable_spec wk
  cases g0.symm.trans g1
  have gi : kt.isInterface = false := by
    cases q : kt.isInterface with
    | false => rfl
    | true => simp [q] at g4
  have ne := ids_ne h0 g0 hn
  refine ⟨c, t, h0, g0, ?_⟩
  show Z.vm.assignableAux (255 + 1) c t = false
  simp [Vm.assignableAux, ne, h2, g2, h5, g3, gi, Vm.isSubclass, n3]
end Jvm.OwnGo
namespace Jvm.Pilot.@@N@@
open Jvm Jvm.ClassFile Sem Op Lib Jvm.Free Jvm.Stand Jvm.LawKit Jvm.RoadKit Bundle Jvm.OwnGo Jvm.Pilot.@@N@@.Jvm.D
set_option maxRecDepth 65536
set_option maxHeartbeats 4000000
theorem ww {Z : State} {a0 : Array Value} (hw : ∀ d ∈ tables_1, d.before a0 Z = true) (i : Nat) {d : Jvm.Cond} (h : tables_1[i]? = some d) : d.before a0 Z = true := hw d (List.mem_of_getElem? h)
theorem nl {n m : Nat} (h : Nat.ble n m = true) : n ≤ m := Nat.le_of_ble_eq_true h
theorem own_ite1 {P : Prop} [Decidable P] (h : ¬ (if P then (1 : Int32) else 0) = (0 : Int32)) : some (Value.int (nar .boolean 1)) = some (Value.int (if P then (1 : Int32) else 0)) := by
  by_cases q : P
  · rw [if_pos q]; rfl
  · rw [if_neg q] at h; exact absurd rfl h
theorem own_ite0 {P : Prop} [Decidable P] (h : (if P then (1 : Int32) else 0) = (0 : Int32)) : some (Value.int (nar .boolean 0)) = some (Value.int (if P then (1 : Int32) else 0)) := by
  rw [h]; rfl

theorem wsA {Z : State} {a0 : Array Value} (hw : ∀ d ∈ tables_1, d.before a0 Z = true) : ∀ a ∈ Bundle.stringAtoms, a.before a0 Z = true := fun d hd => by
  simp only [Bundle.stringAtoms, List.mem_cons, List.not_mem_nil, or_false] at hd
  rcases hd with rfl | rfl | rfl | rfl | rfl | rfl | rfl
  · exact (ww hw 5 rfl)
  · exact (ww hw 6 rfl)
  · exact (ww hw 7 rfl)
  · exact (ww hw 8 rfl)
  · exact (ww hw 9 rfl)
  · exact (ww hw 10 rfl)
  · exact (ww hw 11 rfl)
theorem own_and7 (x : Int32) : x &&& (7 : Int32) = (0 : Int32) ∨ x &&& (7 : Int32) = (1 : Int32) ∨ x &&& (7 : Int32) = (2 : Int32) ∨ x &&& (7 : Int32) = (3 : Int32) ∨ x &&& (7 : Int32) = (4 : Int32) ∨ x &&& (7 : Int32) = (5 : Int32) ∨ x &&& (7 : Int32) = (6 : Int32) ∨ x &&& (7 : Int32) = (7 : Int32) := by
  obtain ⟨h1, h2⟩ := OwnNum.mask x 7 (by decide)
  have e : (8 : Int32).toInt = 8 := by decide
  have e' : (7 : Int32).toInt = 7 := by decide
  generalize x &&& (7 : Int32) = z at h1 h2 ⊢
  have q : z.toInt = 0 ∨ z.toInt = 1 ∨ z.toInt = 2 ∨ z.toInt = 3 ∨ z.toInt = 4 ∨ z.toInt = 5 ∨ z.toInt = 6 ∨ z.toInt = 7 := by omega
  rcases q with q | q | q | q | q | q | q | q
  · exact Or.inl (OwnNum.eqI (q.trans (by decide)))
  · exact Or.inr (Or.inl (OwnNum.eqI (q.trans (by decide))))
  · exact Or.inr (Or.inr (Or.inl (OwnNum.eqI (q.trans (by decide)))))
  · exact Or.inr (Or.inr (Or.inr (Or.inl (OwnNum.eqI (q.trans (by decide))))))
  · exact Or.inr (Or.inr (Or.inr (Or.inr (Or.inl (OwnNum.eqI (q.trans (by decide)))))))
  · exact Or.inr (Or.inr (Or.inr (Or.inr (Or.inr (Or.inl (OwnNum.eqI (q.trans (by decide))))))))
  · exact Or.inr (Or.inr (Or.inr (Or.inr (Or.inr (Or.inr (Or.inl (OwnNum.eqI (q.trans (by decide)))))))))
  · exact Or.inr (Or.inr (Or.inr (Or.inr (Or.inr (Or.inr (Or.inr ((OwnNum.eqI (q.trans (by decide))))))))))
theorem own_mod6 (x : Int32) : (x &&& (2147483647 : Int32)) % (6 : Int32) = (0 : Int32) ∨ (x &&& (2147483647 : Int32)) % (6 : Int32) = (1 : Int32) ∨ (x &&& (2147483647 : Int32)) % (6 : Int32) = (2 : Int32) ∨ (x &&& (2147483647 : Int32)) % (6 : Int32) = (3 : Int32) ∨ (x &&& (2147483647 : Int32)) % (6 : Int32) = (4 : Int32) ∨ (x &&& (2147483647 : Int32)) % (6 : Int32) = (5 : Int32) := by
  obtain ⟨h1, h2⟩ := OwnNum.maskmod x 6 (by decide)
  have e : (6 : Int32).toInt = 6 := by decide
  have e' : (5 : Int32).toInt = 5 := by decide
  generalize (x &&& (2147483647 : Int32)) % (6 : Int32) = z at h1 h2 ⊢
  have q : z.toInt = 0 ∨ z.toInt = 1 ∨ z.toInt = 2 ∨ z.toInt = 3 ∨ z.toInt = 4 ∨ z.toInt = 5 := by omega
  rcases q with q | q | q | q | q | q
  · exact Or.inl (OwnNum.eqI (q.trans (by decide)))
  · exact Or.inr (Or.inl (OwnNum.eqI (q.trans (by decide))))
  · exact Or.inr (Or.inr (Or.inl (OwnNum.eqI (q.trans (by decide)))))
  · exact Or.inr (Or.inr (Or.inr (Or.inl (OwnNum.eqI (q.trans (by decide))))))
  · exact Or.inr (Or.inr (Or.inr (Or.inr (Or.inl (OwnNum.eqI (q.trans (by decide)))))))
  · exact Or.inr (Or.inr (Or.inr (Or.inr (Or.inr ((OwnNum.eqI (q.trans (by decide))))))))
theorem own_mod7 (x : Int32) : (x &&& (2147483647 : Int32)) % (7 : Int32) = (0 : Int32) ∨ (x &&& (2147483647 : Int32)) % (7 : Int32) = (1 : Int32) ∨ (x &&& (2147483647 : Int32)) % (7 : Int32) = (2 : Int32) ∨ (x &&& (2147483647 : Int32)) % (7 : Int32) = (3 : Int32) ∨ (x &&& (2147483647 : Int32)) % (7 : Int32) = (4 : Int32) ∨ (x &&& (2147483647 : Int32)) % (7 : Int32) = (5 : Int32) ∨ (x &&& (2147483647 : Int32)) % (7 : Int32) = (6 : Int32) := by
  obtain ⟨h1, h2⟩ := OwnNum.maskmod x 7 (by decide)
  have e : (7 : Int32).toInt = 7 := by decide
  have e' : (6 : Int32).toInt = 6 := by decide
  generalize (x &&& (2147483647 : Int32)) % (7 : Int32) = z at h1 h2 ⊢
  have q : z.toInt = 0 ∨ z.toInt = 1 ∨ z.toInt = 2 ∨ z.toInt = 3 ∨ z.toInt = 4 ∨ z.toInt = 5 ∨ z.toInt = 6 := by omega
  rcases q with q | q | q | q | q | q | q
  · exact Or.inl (OwnNum.eqI (q.trans (by decide)))
  · exact Or.inr (Or.inl (OwnNum.eqI (q.trans (by decide))))
  · exact Or.inr (Or.inr (Or.inl (OwnNum.eqI (q.trans (by decide)))))
  · exact Or.inr (Or.inr (Or.inr (Or.inl (OwnNum.eqI (q.trans (by decide))))))
  · exact Or.inr (Or.inr (Or.inr (Or.inr (Or.inl (OwnNum.eqI (q.trans (by decide)))))))
  · exact Or.inr (Or.inr (Or.inr (Or.inr (Or.inr (Or.inl (OwnNum.eqI (q.trans (by decide))))))))
  · exact Or.inr (Or.inr (Or.inr (Or.inr (Or.inr (Or.inr ((OwnNum.eqI (q.trans (by decide)))))))))
theorem d4_0 : decode jdk_42_method_152_code 0 = .ok (.getstatic 38, 3) := by decide +kernel
theorem d4_3 : decode jdk_42_method_152_code 3 = .ok (.ifCond .eq 10, 3) := by decide +kernel
theorem d4_6 : decode jdk_42_method_152_code 6 = .ok (.aload_n 0, 1) := by decide +kernel
theorem d4_7 : decode jdk_42_method_152_code 7 = .ok (.getfield 15, 3) := by decide +kernel
theorem d4_10 : decode jdk_42_method_152_code 10 = .ok (.goto 4, 3) := by decide +kernel
theorem d4_14 : decode jdk_42_method_152_code 14 = .ok (.ireturn, 1) := by decide +kernel
theorem pn_0 : plainName "java/lang/String" = true := by first | (simp [plainName, overriddenIn]; done) | decide +kernel
theorem c_coder (l : Launch) (Z : State) (a0 : Array Value) (hw : ∀ d ∈ tables_1, d.before a0 Z = true) {n0 : Nat} (h : Heap) (a : Addr) (cp : Int32) (hcp : ¬ (cp = (0 : Int32))) (scp : Sta Z Z.heap "java/lang/String" "COMPACT_STRINGS" "Z" (.int cp)) (f : Fld Z h a "java/lang/String" "coder" "B" (.int (0 : Int32))) :
    Con l (⟨"java/lang/String", "coder", "()B"⟩ : MethodName) jdk_42_method_152_code 1 (some .byte) ({ frames := 0, cells := 0, slots := 0, locals := 0 } : Room) Z n0 #[(.ref a)] h (fun v h' => v = some (.int (0 : Int32)) ∧ h = h') := by
  refine Con.of_go (plainFor_of_name pn_0) (Ls := #[.val (.ref a)]) (fun m => by first | (simp [entryFrame, mkF, argsToLocals, Value.category]; done) | rfl) ?_
  refine Go.old (fun old1 => ?_)
  refine Go.getstatic (pc' := 3) (host := "") (Or.inl (ww hw 27 rfl)) Via.refl (scp.ext old1.2) d4_0 rfl ?_
  refine Go.ifNo (pc' := 6) d4_3 (XT.i0_eq_f hcp) rfl ?_
  refine Go.aloadN (pc' := 7) d4_6 rfl rfl rfl ?_
  refine Go.getfield (pc' := 10) (host := "") (Or.inl (ww hw 28 rfl)) Via.refl f d4_7 rfl ?_
  refine Go.goto (pc' := 14) d4_10 (by decide) (by decide) ?_
  exact Go.retN (t := .byte) rfl (by simp) d4_14 ⟨rfl, rfl⟩ (by decide) (by decide)
theorem d6_0 : decode jdk_42_method_154_code 0 = .ok (.getstatic 38, 3) := by decide +kernel
theorem d6_3 : decode jdk_42_method_154_code 3 = .ok (.ifCond .eq 14, 3) := by decide +kernel
theorem d6_6 : decode jdk_42_method_154_code 6 = .ok (.aload_n 0, 1) := by decide +kernel
theorem d6_7 : decode jdk_42_method_154_code 7 = .ok (.getfield 15, 3) := by decide +kernel
theorem d6_10 : decode jdk_42_method_154_code 10 = .ok (.ifCond .ne 7, 3) := by decide +kernel
theorem d6_13 : decode jdk_42_method_154_code 13 = .ok (.iconst 1, 1) := by decide +kernel
theorem d6_14 : decode jdk_42_method_154_code 14 = .ok (.goto 4, 3) := by decide +kernel
theorem d6_18 : decode jdk_42_method_154_code 18 = .ok (.ireturn, 1) := by decide +kernel
theorem c_isLatin1 (l : Launch) (Z : State) (a0 : Array Value) (hw : ∀ d ∈ tables_1, d.before a0 Z = true) {n0 : Nat} (h : Heap) (a : Addr) (cp : Int32) (hcp : ¬ (cp = (0 : Int32))) (scp : Sta Z Z.heap "java/lang/String" "COMPACT_STRINGS" "Z" (.int cp)) (f : Fld Z h a "java/lang/String" "coder" "B" (.int (0 : Int32))) :
    Con l (⟨"java/lang/String", "isLatin1", "()Z"⟩ : MethodName) jdk_42_method_154_code 1 (some .boolean) ({ frames := 0, cells := 0, slots := 0, locals := 0 } : Room) Z n0 #[(.ref a)] h (fun v h' => v = some (.int (1 : Int32)) ∧ h = h') := by
  refine Con.of_go (plainFor_of_name pn_0) (Ls := #[.val (.ref a)]) (fun m => by first | (simp [entryFrame, mkF, argsToLocals, Value.category]; done) | rfl) ?_
  refine Go.old (fun old1 => ?_)
  refine Go.getstatic (pc' := 3) (host := "") (Or.inl (ww hw 27 rfl)) Via.refl (scp.ext old1.2) d6_0 rfl ?_
  refine Go.ifNo (pc' := 6) d6_3 (XT.i0_eq_f hcp) rfl ?_
  refine Go.aloadN (pc' := 7) d6_6 rfl rfl rfl ?_
  refine Go.getfield (pc' := 10) (host := "") (Or.inl (ww hw 28 rfl)) Via.refl f d6_7 rfl ?_
  refine Go.ifNo (pc' := 13) d6_10 (XT.i0_ne_f (by decide)) rfl ?_
  refine Go.iconst (pc' := 14) (v := (1 : Int32)) d6_13 rfl rfl ?_
  refine Go.goto (pc' := 18) d6_14 (by decide) (by decide) ?_
  exact Go.retN (t := .boolean) rfl (by simp) d6_18 ⟨rfl, rfl⟩ (by decide) (by decide)
theorem d9_0 : decode jdk_41_method_11_code 0 = .ok (.iload_n 0, 1) := by decide +kernel
theorem d9_1 : decode jdk_41_method_11_code 1 = .ok (.ifCond .lt 8, 3) := by decide +kernel
theorem d9_4 : decode jdk_41_method_11_code 4 = .ok (.iload_n 0, 1) := by decide +kernel
theorem d9_5 : decode jdk_41_method_11_code 5 = .ok (.iload_n 1, 1) := by decide +kernel
theorem d9_6 : decode jdk_41_method_11_code 6 = .ok (.if_icmp .lt 10, 3) := by decide +kernel
theorem d9_16 : decode jdk_41_method_11_code 16 = .ok (.iload_n 0, 1) := by decide +kernel
theorem d9_17 : decode jdk_41_method_11_code 17 = .ok (.ireturn, 1) := by decide +kernel
theorem pn_1 : plainName "jdk/internal/util/Preconditions" = true := by first | (simp [plainName, overriddenIn]; done) | decide +kernel
theorem c_preCheck (l : Launch) (Z : State) (a0 : Array Value) (hw : ∀ d ∈ tables_1, d.before a0 Z = true) {n0 : Nat} (h : Heap) (i : Int32) (n : Int32) (wf : Value) (h1 : ¬ (i < (0 : Int32))) (h2 : i < n) (hwf : wf.isRef = true) :
    Con l (⟨"jdk/internal/util/Preconditions", "checkIndex", "(IILjava/util/function/BiFunction;)I"⟩ : MethodName) jdk_41_method_11_code 3 (some .int) ({ frames := 0, cells := 0, slots := 0, locals := 0 } : Room) Z n0 #[(.int i), (.int n), wf] h (fun v h' => v = some (.int i) ∧ h = h') := by
  refine Con.of_go (plainFor_of_name pn_1) (Ls := #[.val (.int i), .val (.int n), .val wf]) (fun m => by rcases XT.refc hwf with rfl | ⟨_, rfl⟩ <;> rfl) ?_
  refine Go.iloadN (pc' := 1) d9_0 rfl rfl ?_
  refine Go.ifNo (pc' := 4) d9_1 (XT.i0_lt_f h1) rfl ?_
  refine Go.iloadN (pc' := 5) d9_4 rfl rfl ?_
  refine Go.iloadN (pc' := 6) d9_5 rfl rfl ?_
  refine Go.icmpYes (pc' := 16) d9_6 (XT.ii_lt_t h2) (by decide) (by decide) ?_
  refine Go.iloadN (pc' := 17) d9_16 rfl rfl ?_
  exact Go.retI rfl d9_17 ⟨rfl, rfl⟩ (by decide) (by decide)
theorem d8_0 : decode jdk_42_method_155_code 0 = .ok (.iload_n 0, 1) := by decide +kernel
theorem d8_1 : decode jdk_42_method_155_code 1 = .ok (.iload_n 1, 1) := by decide +kernel
theorem d8_2 : decode jdk_42_method_155_code 2 = .ok (.getstatic 1053, 3) := by decide +kernel
theorem d8_5 : decode jdk_42_method_155_code 5 = .ok (.invokestatic 1059, 3) := by decide +kernel
theorem d8_8 : decode jdk_42_method_155_code 8 = .ok (.pop, 1) := by decide +kernel
theorem d8_9 : decode jdk_42_method_155_code 9 = .ok (.return_, 1) := by decide +kernel
theorem pd_0 : parseMethodDescriptor "(IILjava/util/function/BiFunction;)I" = some ⟨[.int, .int, (.object "java/util/function/BiFunction")], some .int⟩ := by decide +kernel
theorem c_strCheck (l : Launch) (Z : State) (a0 : Array Value) (hw : ∀ d ∈ tables_1, d.before a0 Z = true) {n0 : Nat} (h : Heap) (i : Int32) (n : Int32) (wf : Value) (h1 : ¬ (i < (0 : Int32))) (h2 : i < n) (hwf : wf.isRef = true) (sfm : Sta Z Z.heap "jdk/internal/util/Preconditions" "SIOOBE_FORMATTER" "Ljava/util/function/BiFunction;" wf) :
    Con l (⟨"java/lang/String", "checkIndex", "(II)V"⟩ : MethodName) jdk_42_method_155_code 2 none ({ frames := 1, cells := 0, slots := 0, locals := 14 } : Room) Z n0 #[(.int i), (.int n)] h (fun v h' => v = none ∧ h = h') := by
  refine Con.of_go (plainFor_of_name pn_0) (Ls := #[.val (.int i), .val (.int n)]) (fun m => by first | (simp [entryFrame, mkF, argsToLocals, Value.category]; done) | rfl) ?_
  refine Go.iloadN (pc' := 1) d8_0 rfl rfl ?_
  refine Go.iloadN (pc' := 2) d8_1 rfl rfl ?_
  refine Go.old (fun old1 => ?_)
  refine Go.getstatic (pc' := 5) (host := "") (Or.inl (ww hw 46 rfl)) Via.refl (sfm.ext old1.2) d8_2 rfl ?_
  refine Go.callS (cells' := 0) (slots' := 0) (pc' := 8) [(.int i), (.int n), wf] [] (ww hw 48 rfl) (ww hw 49 rfl) (ww hw 47 rfl) (ww hw 50 rfl) (by decide) (c_preCheck l Z a0 hw h i n wf h1 h2 hwf) pd_0 rfl rfl rfl rfl rfl (nl rfl) (nl rfl) (nl rfl) (nl rfl) d8_5 rfl ?_
  rintro _ _ ⟨rfl, rfl⟩
  show Go _ _ _ _ _ _ _ _ _ _ _ _ 8 #[.val (.int i), .val (.int n)] [(.int i)]
  refine Go.pop (pc' := 9) d8_8 rfl rfl ?_
  exact Go.retV rfl d8_9 ⟨rfl, rfl⟩ (by decide) (by decide)
theorem d3_0 : decode jdk_42_method_54_code 0 = .ok (.aload_n 0, 1) := by decide +kernel
theorem d3_1 : decode jdk_42_method_54_code 1 = .ok (.getfield 9, 3) := by decide +kernel
theorem d3_4 : decode jdk_42_method_54_code 4 = .ok (.arraylength, 1) := by decide +kernel
theorem d3_5 : decode jdk_42_method_54_code 5 = .ok (.aload_n 0, 1) := by decide +kernel
theorem d3_6 : decode jdk_42_method_54_code 6 = .ok (.invokevirtual 335, 3) := by decide +kernel
theorem d3_9 : decode jdk_42_method_54_code 9 = .ok (.ishr, 1) := by decide +kernel
theorem d3_10 : decode jdk_42_method_54_code 10 = .ok (.ireturn, 1) := by decide +kernel
theorem pd_1 : parseMethodDescriptor "()B" = some ⟨[], some .byte⟩ := by decide +kernel
theorem c_strLen4 (l : Launch) (Z : State) (a0 : Array Value) (hw : ∀ d ∈ tables_1, d.before a0 Z = true) {n0 : Nat} (h : Heap) (a : Addr) (b : Addr) (kb : ClassId) (x0 : Int32) (x1 : Int32) (x2 : Int32) (x3 : Int32) (cp : Int32) (hcp : ¬ (cp = (0 : Int32))) (scp : Sta Z Z.heap "java/lang/String" "COMPACT_STRINGS" "Z" (.int cp)) (e : Exa Z h a "java/lang/String") (f : Fld Z h a "java/lang/String" "coder" "B" (.int (0 : Int32))) (g : Fld Z h a "java/lang/String" "value" "[B" (.ref b)) (v : Arv Z h b kb .byte (4 : Int32) [(.int x0), (.int x1), (.int x2), (.int x3)] (.int 0)) :
    Con l (⟨"java/lang/String", "length", "()I"⟩ : MethodName) jdk_42_method_54_code 1 (some .int) ({ frames := 1, cells := 0, slots := 0, locals := 13 } : Room) Z n0 #[(.ref a)] h (fun v h' => v = some (.int (4 : Int32)) ∧ h = h') := by
  refine Con.of_go (plainFor_of_name pn_0) (Ls := #[.val (.ref a)]) (fun m => by first | (simp [entryFrame, mkF, argsToLocals, Value.category]; done) | rfl) ?_
  refine Go.aloadN (pc' := 1) d3_0 rfl rfl rfl ?_
  refine Go.getfield (pc' := 4) (host := "") (Or.inl (ww hw 21 rfl)) Via.refl g d3_1 rfl ?_
  refine Go.arraylength (pc' := 5) v d3_4 rfl ?_
  refine Go.aloadN (pc' := 6) d3_5 rfl rfl rfl ?_
  refine Go.callV (cells' := 0) (slots' := 0) (pc' := 9) [] [(.int (4 : Int32))] e (ww hw 22 rfl) (ww hw 23 rfl) (fun s' hs' => notFace_of_selects (args := #[]) (mvT hs' (ww hw 25 rfl))) (ww hw 25 rfl) (ww hw 24 rfl) (ww hw 5 rfl) (ww hw 26 rfl) (by decide) (c_coder l Z a0 hw h a cp hcp scp f) pd_1 rfl rfl rfl rfl rfl (nl rfl) (nl rfl) (nl rfl) (nl rfl) d3_6 rfl ?_
  rintro _ _ ⟨rfl, rfl⟩
  show Go _ _ _ _ _ _ _ _ _ _ _ _ 9 #[.val (.ref a)] [(.int (0 : Int32)), (.int (4 : Int32))]
  refine Go.ishr (pc' := 10) d3_9 rfl ?_
  show Go _ _ _ _ _ _ _ _ _ _ _ _ 10 #[.val (.ref a)] [(.int (4 : Int32))]
  exact Go.retI rfl d3_10 ⟨rfl, rfl⟩ (by decide) (by decide)
theorem c_strLen5 (l : Launch) (Z : State) (a0 : Array Value) (hw : ∀ d ∈ tables_1, d.before a0 Z = true) {n0 : Nat} (h : Heap) (a : Addr) (b : Addr) (kb : ClassId) (x0 : Int32) (x1 : Int32) (x2 : Int32) (x3 : Int32) (x4 : Int32) (cp : Int32) (hcp : ¬ (cp = (0 : Int32))) (scp : Sta Z Z.heap "java/lang/String" "COMPACT_STRINGS" "Z" (.int cp)) (e : Exa Z h a "java/lang/String") (f : Fld Z h a "java/lang/String" "coder" "B" (.int (0 : Int32))) (g : Fld Z h a "java/lang/String" "value" "[B" (.ref b)) (v : Arv Z h b kb .byte (5 : Int32) [(.int x0), (.int x1), (.int x2), (.int x3), (.int x4)] (.int 0)) :
    Con l (⟨"java/lang/String", "length", "()I"⟩ : MethodName) jdk_42_method_54_code 1 (some .int) ({ frames := 1, cells := 0, slots := 0, locals := 13 } : Room) Z n0 #[(.ref a)] h (fun v h' => v = some (.int (5 : Int32)) ∧ h = h') := by
  refine Con.of_go (plainFor_of_name pn_0) (Ls := #[.val (.ref a)]) (fun m => by first | (simp [entryFrame, mkF, argsToLocals, Value.category]; done) | rfl) ?_
  refine Go.aloadN (pc' := 1) d3_0 rfl rfl rfl ?_
  refine Go.getfield (pc' := 4) (host := "") (Or.inl (ww hw 21 rfl)) Via.refl g d3_1 rfl ?_
  refine Go.arraylength (pc' := 5) v d3_4 rfl ?_
  refine Go.aloadN (pc' := 6) d3_5 rfl rfl rfl ?_
  refine Go.callV (cells' := 0) (slots' := 0) (pc' := 9) [] [(.int (5 : Int32))] e (ww hw 22 rfl) (ww hw 23 rfl) (fun s' hs' => notFace_of_selects (args := #[]) (mvT hs' (ww hw 25 rfl))) (ww hw 25 rfl) (ww hw 24 rfl) (ww hw 5 rfl) (ww hw 26 rfl) (by decide) (c_coder l Z a0 hw h a cp hcp scp f) pd_1 rfl rfl rfl rfl rfl (nl rfl) (nl rfl) (nl rfl) (nl rfl) d3_6 rfl ?_
  rintro _ _ ⟨rfl, rfl⟩
  show Go _ _ _ _ _ _ _ _ _ _ _ _ 9 #[.val (.ref a)] [(.int (0 : Int32)), (.int (5 : Int32))]
  refine Go.ishr (pc' := 10) d3_9 rfl ?_
  show Go _ _ _ _ _ _ _ _ _ _ _ _ 10 #[.val (.ref a)] [(.int (5 : Int32))]
  exact Go.retI rfl d3_10 ⟨rfl, rfl⟩ (by decide) (by decide)
theorem d1_0 : decode method_4_code 0 = .ok (.iload_n 0, 1) := by decide +kernel
theorem d1_1 : decode method_4_code 1 = .ok (.ifCond .ne 6, 3) := by decide +kernel
theorem d1_4 : decode method_4_code 4 = .ok (.ldc 43, 2) := by decide +kernel
theorem d1_6 : decode method_4_code 6 = .ok (.areturn, 1) := by decide +kernel
theorem tx_0 : (∀ c ∈ ("local" : String).toList, c.toNat < 256) ∧ ("local" : String).toList.map (fun c => Value.int (Jvm.Lit.byteI c.toNat.toUInt16)) = [(.int (108 : Int32)), (.int (111 : Int32)), (.int (99 : Int32)), (.int (97 : Int32)), (.int (108 : Int32))] := ⟨by decide, by decide⟩
theorem pn_2 : plainName "com/example/huron/huron/io/config/AuthenticatorKindNamedPinLaw" = true := by first | (simp [plainName, overriddenIn]; done) | decide +kernel
theorem c_word0 (l : Launch) (Z : State) (a0 : Array Value) (hw : ∀ d ∈ tables_1, d.before a0 Z = true) {n0 : Nat} (h : Heap) (hcw : Jvm.Lit.compactW.before a0 Z = true) (hch43 : Jvm.Lit.constHeld Z "com/example/huron/huron/io/config/AuthenticatorKindNamedPinLaw" 43) :
    ConS l (⟨"com/example/huron/huron/io/config/AuthenticatorKindNamedPinLaw", "word", "(I)Ljava/lang/String;"⟩ : MethodName) method_4_code 1 (some (.object "java/lang/String")) ({ frames := 0, cells := 2, slots := 24, locals := 0 } : Room) Z n0 #[(.int (0 : Int32))] h [] (fun v h' LL' => ∃ sa : Addr, ∃ sb : Addr, ∃ ks : ClassId, v = some (.ref sa) ∧ Keep h h' [] ∧ Exa Z h' sa "java/lang/String" ∧ Fld Z h' sa "java/lang/String" "coder" "B" (.int (0 : Int32)) ∧ Fld Z h' sa "java/lang/String" "value" "[B" (.ref sb) ∧ Arv Z h' sb ks .byte (5 : Int32) [(.int (108 : Int32)), (.int (111 : Int32)), (.int (99 : Int32)), (.int (97 : Int32)), (.int (108 : Int32))] (.int 0) ∧ Exa Z h' sb "[B" ∧ Hel Z h' sa sb ("local") ∧ LL' = [("local", sa, "com/example/huron/huron/io/config/AuthenticatorKindNamedPinLaw", 43)]) := by
  refine ConS.of_go (plainFor_of_name pn_2) (Ls := #[.val (.int (0 : Int32))]) (fun m => by first | (simp [entryFrame, mkF, argsToLocals, Value.category]; done) | rfl) ?_
  refine GoS.iloadN (pc' := 1) d1_0 rfl rfl ?_
  refine GoS.ifNo (pc' := 4) d1_1 (XT.i0_ne_f (by decide)) rfl ?_
  refine GoS.ldcS (pc' := 6) (cells' := 2) (slots' := 24) (n := 20) (z := (5 : Int32)) (vs := [(.int (108 : Int32)), (.int (111 : Int32)), (.int (99 : Int32)), (.int (97 : Int32)), (.int (108 : Int32))]) (ww hw 4 rfl) (wsA hw) hch43 hcw (Keep.refl h []) HL.nil tx_0 (by decide) rfl d1_4 (nl rfl) (nl rfl) rfl rfl (nl rfl) (nl rfl) rfl ?_
  intro h1 sa1 sb1 kb1 E1 F1_0 F1_1 F1_2 F1_3 F1_4 F1_5
  have K2 : Keep h h1 [] := (Keep.refl h []).ext E1
  have H3 : Hel Z h1 sa1 sb1 "local" := ⟨kb1, _, _, F1_0, F1_1, F1_2, F1_3, F1_4, tx_0, rfl⟩
  show GoS _ _ _ _ _ _ _ _ _ _ _ _ _ _ 6 #[.val (.int (0 : Int32))] [(.ref sa1)]
  exact GoS.retR rfl rfl rfl rfl d1_6 ⟨sa1, sb1, kb1, rfl, K2, F1_0, F1_1, F1_2, F1_3, F1_4, H3, rfl⟩ (by decide) (by decide)
theorem d1_7 : decode method_4_code 7 = .ok (.iload_n 0, 1) := by decide +kernel
theorem d1_8 : decode method_4_code 8 = .ok (.iconst 1, 1) := by decide +kernel
theorem d1_9 : decode method_4_code 9 = .ok (.if_icmp .ne 6, 3) := by decide +kernel
theorem d1_12 : decode method_4_code 12 = .ok (.ldc 53, 2) := by decide +kernel
theorem d1_14 : decode method_4_code 14 = .ok (.areturn, 1) := by decide +kernel
theorem tx_1 : (∀ c ∈ ("ldap" : String).toList, c.toNat < 256) ∧ ("ldap" : String).toList.map (fun c => Value.int (Jvm.Lit.byteI c.toNat.toUInt16)) = [(.int (108 : Int32)), (.int (100 : Int32)), (.int (97 : Int32)), (.int (112 : Int32))] := ⟨by decide, by decide⟩
theorem c_word1 (l : Launch) (Z : State) (a0 : Array Value) (hw : ∀ d ∈ tables_1, d.before a0 Z = true) {n0 : Nat} (h : Heap) (hcw : Jvm.Lit.compactW.before a0 Z = true) (hch53 : Jvm.Lit.constHeld Z "com/example/huron/huron/io/config/AuthenticatorKindNamedPinLaw" 53) :
    ConS l (⟨"com/example/huron/huron/io/config/AuthenticatorKindNamedPinLaw", "word", "(I)Ljava/lang/String;"⟩ : MethodName) method_4_code 1 (some (.object "java/lang/String")) ({ frames := 0, cells := 2, slots := 20, locals := 0 } : Room) Z n0 #[(.int (1 : Int32))] h [] (fun v h' LL' => ∃ sa : Addr, ∃ sb : Addr, ∃ ks : ClassId, v = some (.ref sa) ∧ Keep h h' [] ∧ Exa Z h' sa "java/lang/String" ∧ Fld Z h' sa "java/lang/String" "coder" "B" (.int (0 : Int32)) ∧ Fld Z h' sa "java/lang/String" "value" "[B" (.ref sb) ∧ Arv Z h' sb ks .byte (4 : Int32) [(.int (108 : Int32)), (.int (100 : Int32)), (.int (97 : Int32)), (.int (112 : Int32))] (.int 0) ∧ Exa Z h' sb "[B" ∧ Hel Z h' sa sb ("ldap") ∧ LL' = [("ldap", sa, "com/example/huron/huron/io/config/AuthenticatorKindNamedPinLaw", 53)]) := by
  refine ConS.of_go (plainFor_of_name pn_2) (Ls := #[.val (.int (1 : Int32))]) (fun m => by first | (simp [entryFrame, mkF, argsToLocals, Value.category]; done) | rfl) ?_
  refine GoS.iloadN (pc' := 1) d1_0 rfl rfl ?_
  refine GoS.ifYes (pc' := 7) d1_1 (XT.i0_ne_t (by decide)) (by decide) (by decide) ?_
  refine GoS.iloadN (pc' := 8) d1_7 rfl rfl ?_
  refine GoS.iconst (pc' := 9) (v := (1 : Int32)) d1_8 rfl rfl ?_
  refine GoS.icmpNo (pc' := 12) d1_9 (XT.ii_ne_f (by decide)) rfl ?_
  refine GoS.ldcS (pc' := 14) (cells' := 2) (slots' := 20) (n := 16) (z := (4 : Int32)) (vs := [(.int (108 : Int32)), (.int (100 : Int32)), (.int (97 : Int32)), (.int (112 : Int32))]) (ww hw 88 rfl) (wsA hw) hch53 hcw (Keep.refl h []) HL.nil tx_1 (by decide) rfl d1_12 (nl rfl) (nl rfl) rfl rfl (nl rfl) (nl rfl) rfl ?_
  intro h1 sa1 sb1 kb1 E1 F1_0 F1_1 F1_2 F1_3 F1_4 F1_5
  have K2 : Keep h h1 [] := (Keep.refl h []).ext E1
  have H3 : Hel Z h1 sa1 sb1 "ldap" := ⟨kb1, _, _, F1_0, F1_1, F1_2, F1_3, F1_4, tx_1, rfl⟩
  show GoS _ _ _ _ _ _ _ _ _ _ _ _ _ _ 14 #[.val (.int (1 : Int32))] [(.ref sa1)]
  exact GoS.retR rfl rfl rfl rfl d1_14 ⟨sa1, sb1, kb1, rfl, K2, F1_0, F1_1, F1_2, F1_3, F1_4, H3, rfl⟩ (by decide) (by decide)
theorem d1_15 : decode method_4_code 15 = .ok (.iload_n 0, 1) := by decide +kernel
theorem d1_16 : decode method_4_code 16 = .ok (.iconst 2, 1) := by decide +kernel
theorem d1_17 : decode method_4_code 17 = .ok (.if_icmp .ne 6, 3) := by decide +kernel
theorem d1_20 : decode method_4_code 20 = .ok (.ldc 58, 2) := by decide +kernel
theorem d1_22 : decode method_4_code 22 = .ok (.areturn, 1) := by decide +kernel
theorem tx_2 : (∀ c ∈ ("oidc" : String).toList, c.toNat < 256) ∧ ("oidc" : String).toList.map (fun c => Value.int (Jvm.Lit.byteI c.toNat.toUInt16)) = [(.int (111 : Int32)), (.int (105 : Int32)), (.int (100 : Int32)), (.int (99 : Int32))] := ⟨by decide, by decide⟩
theorem c_word2 (l : Launch) (Z : State) (a0 : Array Value) (hw : ∀ d ∈ tables_1, d.before a0 Z = true) {n0 : Nat} (h : Heap) (hcw : Jvm.Lit.compactW.before a0 Z = true) (hch58 : Jvm.Lit.constHeld Z "com/example/huron/huron/io/config/AuthenticatorKindNamedPinLaw" 58) :
    ConS l (⟨"com/example/huron/huron/io/config/AuthenticatorKindNamedPinLaw", "word", "(I)Ljava/lang/String;"⟩ : MethodName) method_4_code 1 (some (.object "java/lang/String")) ({ frames := 0, cells := 2, slots := 20, locals := 0 } : Room) Z n0 #[(.int (2 : Int32))] h [] (fun v h' LL' => ∃ sa : Addr, ∃ sb : Addr, ∃ ks : ClassId, v = some (.ref sa) ∧ Keep h h' [] ∧ Exa Z h' sa "java/lang/String" ∧ Fld Z h' sa "java/lang/String" "coder" "B" (.int (0 : Int32)) ∧ Fld Z h' sa "java/lang/String" "value" "[B" (.ref sb) ∧ Arv Z h' sb ks .byte (4 : Int32) [(.int (111 : Int32)), (.int (105 : Int32)), (.int (100 : Int32)), (.int (99 : Int32))] (.int 0) ∧ Exa Z h' sb "[B" ∧ Hel Z h' sa sb ("oidc") ∧ LL' = [("oidc", sa, "com/example/huron/huron/io/config/AuthenticatorKindNamedPinLaw", 58)]) := by
  refine ConS.of_go (plainFor_of_name pn_2) (Ls := #[.val (.int (2 : Int32))]) (fun m => by first | (simp [entryFrame, mkF, argsToLocals, Value.category]; done) | rfl) ?_
  refine GoS.iloadN (pc' := 1) d1_0 rfl rfl ?_
  refine GoS.ifYes (pc' := 7) d1_1 (XT.i0_ne_t (by decide)) (by decide) (by decide) ?_
  refine GoS.iloadN (pc' := 8) d1_7 rfl rfl ?_
  refine GoS.iconst (pc' := 9) (v := (1 : Int32)) d1_8 rfl rfl ?_
  refine GoS.icmpYes (pc' := 15) d1_9 (XT.ii_ne_t (by decide)) (by decide) (by decide) ?_
  refine GoS.iloadN (pc' := 16) d1_15 rfl rfl ?_
  refine GoS.iconst (pc' := 17) (v := (2 : Int32)) d1_16 rfl rfl ?_
  refine GoS.icmpNo (pc' := 20) d1_17 (XT.ii_ne_f (by decide)) rfl ?_
  refine GoS.ldcS (pc' := 22) (cells' := 2) (slots' := 20) (n := 16) (z := (4 : Int32)) (vs := [(.int (111 : Int32)), (.int (105 : Int32)), (.int (100 : Int32)), (.int (99 : Int32))]) (ww hw 89 rfl) (wsA hw) hch58 hcw (Keep.refl h []) HL.nil tx_2 (by decide) rfl d1_20 (nl rfl) (nl rfl) rfl rfl (nl rfl) (nl rfl) rfl ?_
  intro h1 sa1 sb1 kb1 E1 F1_0 F1_1 F1_2 F1_3 F1_4 F1_5
  have K2 : Keep h h1 [] := (Keep.refl h []).ext E1
  have H3 : Hel Z h1 sa1 sb1 "oidc" := ⟨kb1, _, _, F1_0, F1_1, F1_2, F1_3, F1_4, tx_2, rfl⟩
  show GoS _ _ _ _ _ _ _ _ _ _ _ _ _ _ 22 #[.val (.int (2 : Int32))] [(.ref sa1)]
  exact GoS.retR rfl rfl rfl rfl d1_22 ⟨sa1, sb1, kb1, rfl, K2, F1_0, F1_1, F1_2, F1_3, F1_4, H3, rfl⟩ (by decide) (by decide)
theorem d1_23 : decode method_4_code 23 = .ok (.iload_n 0, 1) := by decide +kernel
theorem d1_24 : decode method_4_code 24 = .ok (.iconst 3, 1) := by decide +kernel
theorem d1_25 : decode method_4_code 25 = .ok (.if_icmp .ne 6, 3) := by decide +kernel
theorem d1_28 : decode method_4_code 28 = .ok (.ldc 63, 2) := by decide +kernel
theorem d1_30 : decode method_4_code 30 = .ok (.areturn, 1) := by decide +kernel
theorem tx_3 : (∀ c ∈ ("saml" : String).toList, c.toNat < 256) ∧ ("saml" : String).toList.map (fun c => Value.int (Jvm.Lit.byteI c.toNat.toUInt16)) = [(.int (115 : Int32)), (.int (97 : Int32)), (.int (109 : Int32)), (.int (108 : Int32))] := ⟨by decide, by decide⟩
theorem c_word3 (l : Launch) (Z : State) (a0 : Array Value) (hw : ∀ d ∈ tables_1, d.before a0 Z = true) {n0 : Nat} (h : Heap) (hcw : Jvm.Lit.compactW.before a0 Z = true) (hch63 : Jvm.Lit.constHeld Z "com/example/huron/huron/io/config/AuthenticatorKindNamedPinLaw" 63) :
    ConS l (⟨"com/example/huron/huron/io/config/AuthenticatorKindNamedPinLaw", "word", "(I)Ljava/lang/String;"⟩ : MethodName) method_4_code 1 (some (.object "java/lang/String")) ({ frames := 0, cells := 2, slots := 20, locals := 0 } : Room) Z n0 #[(.int (3 : Int32))] h [] (fun v h' LL' => ∃ sa : Addr, ∃ sb : Addr, ∃ ks : ClassId, v = some (.ref sa) ∧ Keep h h' [] ∧ Exa Z h' sa "java/lang/String" ∧ Fld Z h' sa "java/lang/String" "coder" "B" (.int (0 : Int32)) ∧ Fld Z h' sa "java/lang/String" "value" "[B" (.ref sb) ∧ Arv Z h' sb ks .byte (4 : Int32) [(.int (115 : Int32)), (.int (97 : Int32)), (.int (109 : Int32)), (.int (108 : Int32))] (.int 0) ∧ Exa Z h' sb "[B" ∧ Hel Z h' sa sb ("saml") ∧ LL' = [("saml", sa, "com/example/huron/huron/io/config/AuthenticatorKindNamedPinLaw", 63)]) := by
  refine ConS.of_go (plainFor_of_name pn_2) (Ls := #[.val (.int (3 : Int32))]) (fun m => by first | (simp [entryFrame, mkF, argsToLocals, Value.category]; done) | rfl) ?_
  refine GoS.iloadN (pc' := 1) d1_0 rfl rfl ?_
  refine GoS.ifYes (pc' := 7) d1_1 (XT.i0_ne_t (by decide)) (by decide) (by decide) ?_
  refine GoS.iloadN (pc' := 8) d1_7 rfl rfl ?_
  refine GoS.iconst (pc' := 9) (v := (1 : Int32)) d1_8 rfl rfl ?_
  refine GoS.icmpYes (pc' := 15) d1_9 (XT.ii_ne_t (by decide)) (by decide) (by decide) ?_
  refine GoS.iloadN (pc' := 16) d1_15 rfl rfl ?_
  refine GoS.iconst (pc' := 17) (v := (2 : Int32)) d1_16 rfl rfl ?_
  refine GoS.icmpYes (pc' := 23) d1_17 (XT.ii_ne_t (by decide)) (by decide) (by decide) ?_
  refine GoS.iloadN (pc' := 24) d1_23 rfl rfl ?_
  refine GoS.iconst (pc' := 25) (v := (3 : Int32)) d1_24 rfl rfl ?_
  refine GoS.icmpNo (pc' := 28) d1_25 (XT.ii_ne_f (by decide)) rfl ?_
  refine GoS.ldcS (pc' := 30) (cells' := 2) (slots' := 20) (n := 16) (z := (4 : Int32)) (vs := [(.int (115 : Int32)), (.int (97 : Int32)), (.int (109 : Int32)), (.int (108 : Int32))]) (ww hw 90 rfl) (wsA hw) hch63 hcw (Keep.refl h []) HL.nil tx_3 (by decide) rfl d1_28 (nl rfl) (nl rfl) rfl rfl (nl rfl) (nl rfl) rfl ?_
  intro h1 sa1 sb1 kb1 E1 F1_0 F1_1 F1_2 F1_3 F1_4 F1_5
  have K2 : Keep h h1 [] := (Keep.refl h []).ext E1
  have H3 : Hel Z h1 sa1 sb1 "saml" := ⟨kb1, _, _, F1_0, F1_1, F1_2, F1_3, F1_4, tx_3, rfl⟩
  show GoS _ _ _ _ _ _ _ _ _ _ _ _ _ _ 30 #[.val (.int (3 : Int32))] [(.ref sa1)]
  exact GoS.retR rfl rfl rfl rfl d1_30 ⟨sa1, sb1, kb1, rfl, K2, F1_0, F1_1, F1_2, F1_3, F1_4, H3, rfl⟩ (by decide) (by decide)
theorem d1_31 : decode method_4_code 31 = .ok (.iload_n 0, 1) := by decide +kernel
theorem d1_32 : decode method_4_code 32 = .ok (.iconst 4, 1) := by decide +kernel
theorem d1_33 : decode method_4_code 33 = .ok (.if_icmp .ne 6, 3) := by decide +kernel
theorem d1_36 : decode method_4_code 36 = .ok (.ldc 68, 2) := by decide +kernel
theorem d1_38 : decode method_4_code 38 = .ok (.areturn, 1) := by decide +kernel
theorem tx_4 : (∀ c ∈ ("LOCAL" : String).toList, c.toNat < 256) ∧ ("LOCAL" : String).toList.map (fun c => Value.int (Jvm.Lit.byteI c.toNat.toUInt16)) = [(.int (76 : Int32)), (.int (79 : Int32)), (.int (67 : Int32)), (.int (65 : Int32)), (.int (76 : Int32))] := ⟨by decide, by decide⟩
theorem c_word4 (l : Launch) (Z : State) (a0 : Array Value) (hw : ∀ d ∈ tables_1, d.before a0 Z = true) {n0 : Nat} (h : Heap) (hcw : Jvm.Lit.compactW.before a0 Z = true) (hch68 : Jvm.Lit.constHeld Z "com/example/huron/huron/io/config/AuthenticatorKindNamedPinLaw" 68) :
    ConS l (⟨"com/example/huron/huron/io/config/AuthenticatorKindNamedPinLaw", "word", "(I)Ljava/lang/String;"⟩ : MethodName) method_4_code 1 (some (.object "java/lang/String")) ({ frames := 0, cells := 2, slots := 24, locals := 0 } : Room) Z n0 #[(.int (4 : Int32))] h [] (fun v h' LL' => ∃ sa : Addr, ∃ sb : Addr, ∃ ks : ClassId, v = some (.ref sa) ∧ Keep h h' [] ∧ Exa Z h' sa "java/lang/String" ∧ Fld Z h' sa "java/lang/String" "coder" "B" (.int (0 : Int32)) ∧ Fld Z h' sa "java/lang/String" "value" "[B" (.ref sb) ∧ Arv Z h' sb ks .byte (5 : Int32) [(.int (76 : Int32)), (.int (79 : Int32)), (.int (67 : Int32)), (.int (65 : Int32)), (.int (76 : Int32))] (.int 0) ∧ Exa Z h' sb "[B" ∧ Hel Z h' sa sb ("LOCAL") ∧ LL' = [("LOCAL", sa, "com/example/huron/huron/io/config/AuthenticatorKindNamedPinLaw", 68)]) := by
  refine ConS.of_go (plainFor_of_name pn_2) (Ls := #[.val (.int (4 : Int32))]) (fun m => by first | (simp [entryFrame, mkF, argsToLocals, Value.category]; done) | rfl) ?_
  refine GoS.iloadN (pc' := 1) d1_0 rfl rfl ?_
  refine GoS.ifYes (pc' := 7) d1_1 (XT.i0_ne_t (by decide)) (by decide) (by decide) ?_
  refine GoS.iloadN (pc' := 8) d1_7 rfl rfl ?_
  refine GoS.iconst (pc' := 9) (v := (1 : Int32)) d1_8 rfl rfl ?_
  refine GoS.icmpYes (pc' := 15) d1_9 (XT.ii_ne_t (by decide)) (by decide) (by decide) ?_
  refine GoS.iloadN (pc' := 16) d1_15 rfl rfl ?_
  refine GoS.iconst (pc' := 17) (v := (2 : Int32)) d1_16 rfl rfl ?_
  refine GoS.icmpYes (pc' := 23) d1_17 (XT.ii_ne_t (by decide)) (by decide) (by decide) ?_
  refine GoS.iloadN (pc' := 24) d1_23 rfl rfl ?_
  refine GoS.iconst (pc' := 25) (v := (3 : Int32)) d1_24 rfl rfl ?_
  refine GoS.icmpYes (pc' := 31) d1_25 (XT.ii_ne_t (by decide)) (by decide) (by decide) ?_
  refine GoS.iloadN (pc' := 32) d1_31 rfl rfl ?_
  refine GoS.iconst (pc' := 33) (v := (4 : Int32)) d1_32 rfl rfl ?_
  refine GoS.icmpNo (pc' := 36) d1_33 (XT.ii_ne_f (by decide)) rfl ?_
  refine GoS.ldcS (pc' := 38) (cells' := 2) (slots' := 24) (n := 20) (z := (5 : Int32)) (vs := [(.int (76 : Int32)), (.int (79 : Int32)), (.int (67 : Int32)), (.int (65 : Int32)), (.int (76 : Int32))]) (ww hw 129 rfl) (wsA hw) hch68 hcw (Keep.refl h []) HL.nil tx_4 (by decide) rfl d1_36 (nl rfl) (nl rfl) rfl rfl (nl rfl) (nl rfl) rfl ?_
  intro h1 sa1 sb1 kb1 E1 F1_0 F1_1 F1_2 F1_3 F1_4 F1_5
  have K2 : Keep h h1 [] := (Keep.refl h []).ext E1
  have H3 : Hel Z h1 sa1 sb1 "LOCAL" := ⟨kb1, _, _, F1_0, F1_1, F1_2, F1_3, F1_4, tx_4, rfl⟩
  show GoS _ _ _ _ _ _ _ _ _ _ _ _ _ _ 38 #[.val (.int (4 : Int32))] [(.ref sa1)]
  exact GoS.retR rfl rfl rfl rfl d1_38 ⟨sa1, sb1, kb1, rfl, K2, F1_0, F1_1, F1_2, F1_3, F1_4, H3, rfl⟩ (by decide) (by decide)
theorem d1_39 : decode method_4_code 39 = .ok (.iload_n 0, 1) := by decide +kernel
theorem d1_40 : decode method_4_code 40 = .ok (.iconst 5, 1) := by decide +kernel
theorem d1_41 : decode method_4_code 41 = .ok (.if_icmp .ne 6, 3) := by decide +kernel
theorem d1_44 : decode method_4_code 44 = .ok (.ldc 69, 2) := by decide +kernel
theorem d1_46 : decode method_4_code 46 = .ok (.areturn, 1) := by decide +kernel
theorem tx_5 : (∀ c ∈ ("LDAP" : String).toList, c.toNat < 256) ∧ ("LDAP" : String).toList.map (fun c => Value.int (Jvm.Lit.byteI c.toNat.toUInt16)) = [(.int (76 : Int32)), (.int (68 : Int32)), (.int (65 : Int32)), (.int (80 : Int32))] := ⟨by decide, by decide⟩
theorem c_word5 (l : Launch) (Z : State) (a0 : Array Value) (hw : ∀ d ∈ tables_1, d.before a0 Z = true) {n0 : Nat} (h : Heap) (hcw : Jvm.Lit.compactW.before a0 Z = true) (hch69 : Jvm.Lit.constHeld Z "com/example/huron/huron/io/config/AuthenticatorKindNamedPinLaw" 69) :
    ConS l (⟨"com/example/huron/huron/io/config/AuthenticatorKindNamedPinLaw", "word", "(I)Ljava/lang/String;"⟩ : MethodName) method_4_code 1 (some (.object "java/lang/String")) ({ frames := 0, cells := 2, slots := 20, locals := 0 } : Room) Z n0 #[(.int (5 : Int32))] h [] (fun v h' LL' => ∃ sa : Addr, ∃ sb : Addr, ∃ ks : ClassId, v = some (.ref sa) ∧ Keep h h' [] ∧ Exa Z h' sa "java/lang/String" ∧ Fld Z h' sa "java/lang/String" "coder" "B" (.int (0 : Int32)) ∧ Fld Z h' sa "java/lang/String" "value" "[B" (.ref sb) ∧ Arv Z h' sb ks .byte (4 : Int32) [(.int (76 : Int32)), (.int (68 : Int32)), (.int (65 : Int32)), (.int (80 : Int32))] (.int 0) ∧ Exa Z h' sb "[B" ∧ Hel Z h' sa sb ("LDAP") ∧ LL' = [("LDAP", sa, "com/example/huron/huron/io/config/AuthenticatorKindNamedPinLaw", 69)]) := by
  refine ConS.of_go (plainFor_of_name pn_2) (Ls := #[.val (.int (5 : Int32))]) (fun m => by first | (simp [entryFrame, mkF, argsToLocals, Value.category]; done) | rfl) ?_
  refine GoS.iloadN (pc' := 1) d1_0 rfl rfl ?_
  refine GoS.ifYes (pc' := 7) d1_1 (XT.i0_ne_t (by decide)) (by decide) (by decide) ?_
  refine GoS.iloadN (pc' := 8) d1_7 rfl rfl ?_
  refine GoS.iconst (pc' := 9) (v := (1 : Int32)) d1_8 rfl rfl ?_
  refine GoS.icmpYes (pc' := 15) d1_9 (XT.ii_ne_t (by decide)) (by decide) (by decide) ?_
  refine GoS.iloadN (pc' := 16) d1_15 rfl rfl ?_
  refine GoS.iconst (pc' := 17) (v := (2 : Int32)) d1_16 rfl rfl ?_
  refine GoS.icmpYes (pc' := 23) d1_17 (XT.ii_ne_t (by decide)) (by decide) (by decide) ?_
  refine GoS.iloadN (pc' := 24) d1_23 rfl rfl ?_
  refine GoS.iconst (pc' := 25) (v := (3 : Int32)) d1_24 rfl rfl ?_
  refine GoS.icmpYes (pc' := 31) d1_25 (XT.ii_ne_t (by decide)) (by decide) (by decide) ?_
  refine GoS.iloadN (pc' := 32) d1_31 rfl rfl ?_
  refine GoS.iconst (pc' := 33) (v := (4 : Int32)) d1_32 rfl rfl ?_
  refine GoS.icmpYes (pc' := 39) d1_33 (XT.ii_ne_t (by decide)) (by decide) (by decide) ?_
  refine GoS.iloadN (pc' := 40) d1_39 rfl rfl ?_
  refine GoS.iconst (pc' := 41) (v := (5 : Int32)) d1_40 rfl rfl ?_
  refine GoS.icmpNo (pc' := 44) d1_41 (XT.ii_ne_f (by decide)) rfl ?_
  refine GoS.ldcS (pc' := 46) (cells' := 2) (slots' := 20) (n := 16) (z := (4 : Int32)) (vs := [(.int (76 : Int32)), (.int (68 : Int32)), (.int (65 : Int32)), (.int (80 : Int32))]) (ww hw 130 rfl) (wsA hw) hch69 hcw (Keep.refl h []) HL.nil tx_5 (by decide) rfl d1_44 (nl rfl) (nl rfl) rfl rfl (nl rfl) (nl rfl) rfl ?_
  intro h1 sa1 sb1 kb1 E1 F1_0 F1_1 F1_2 F1_3 F1_4 F1_5
  have K2 : Keep h h1 [] := (Keep.refl h []).ext E1
  have H3 : Hel Z h1 sa1 sb1 "LDAP" := ⟨kb1, _, _, F1_0, F1_1, F1_2, F1_3, F1_4, tx_5, rfl⟩
  show GoS _ _ _ _ _ _ _ _ _ _ _ _ _ _ 46 #[.val (.int (5 : Int32))] [(.ref sa1)]
  exact GoS.retR rfl rfl rfl rfl d1_46 ⟨sa1, sb1, kb1, rfl, K2, F1_0, F1_1, F1_2, F1_3, F1_4, H3, rfl⟩ (by decide) (by decide)
theorem d1_47 : decode method_4_code 47 = .ok (.iload_n 0, 1) := by decide +kernel
theorem d1_48 : decode method_4_code 48 = .ok (.bipush 6, 2) := by decide +kernel
theorem d1_50 : decode method_4_code 50 = .ok (.if_icmp .ne 6, 3) := by decide +kernel
theorem d1_53 : decode method_4_code 53 = .ok (.ldc 70, 2) := by decide +kernel
theorem d1_55 : decode method_4_code 55 = .ok (.areturn, 1) := by decide +kernel
theorem tx_6 : (∀ c ∈ ("OIDC" : String).toList, c.toNat < 256) ∧ ("OIDC" : String).toList.map (fun c => Value.int (Jvm.Lit.byteI c.toNat.toUInt16)) = [(.int (79 : Int32)), (.int (73 : Int32)), (.int (68 : Int32)), (.int (67 : Int32))] := ⟨by decide, by decide⟩
theorem c_word6 (l : Launch) (Z : State) (a0 : Array Value) (hw : ∀ d ∈ tables_1, d.before a0 Z = true) {n0 : Nat} (h : Heap) (hcw : Jvm.Lit.compactW.before a0 Z = true) (hch70 : Jvm.Lit.constHeld Z "com/example/huron/huron/io/config/AuthenticatorKindNamedPinLaw" 70) :
    ConS l (⟨"com/example/huron/huron/io/config/AuthenticatorKindNamedPinLaw", "word", "(I)Ljava/lang/String;"⟩ : MethodName) method_4_code 1 (some (.object "java/lang/String")) ({ frames := 0, cells := 2, slots := 20, locals := 0 } : Room) Z n0 #[(.int (6 : Int32))] h [] (fun v h' LL' => ∃ sa : Addr, ∃ sb : Addr, ∃ ks : ClassId, v = some (.ref sa) ∧ Keep h h' [] ∧ Exa Z h' sa "java/lang/String" ∧ Fld Z h' sa "java/lang/String" "coder" "B" (.int (0 : Int32)) ∧ Fld Z h' sa "java/lang/String" "value" "[B" (.ref sb) ∧ Arv Z h' sb ks .byte (4 : Int32) [(.int (79 : Int32)), (.int (73 : Int32)), (.int (68 : Int32)), (.int (67 : Int32))] (.int 0) ∧ Exa Z h' sb "[B" ∧ Hel Z h' sa sb ("OIDC") ∧ LL' = [("OIDC", sa, "com/example/huron/huron/io/config/AuthenticatorKindNamedPinLaw", 70)]) := by
  refine ConS.of_go (plainFor_of_name pn_2) (Ls := #[.val (.int (6 : Int32))]) (fun m => by first | (simp [entryFrame, mkF, argsToLocals, Value.category]; done) | rfl) ?_
  refine GoS.iloadN (pc' := 1) d1_0 rfl rfl ?_
  refine GoS.ifYes (pc' := 7) d1_1 (XT.i0_ne_t (by decide)) (by decide) (by decide) ?_
  refine GoS.iloadN (pc' := 8) d1_7 rfl rfl ?_
  refine GoS.iconst (pc' := 9) (v := (1 : Int32)) d1_8 rfl rfl ?_
  refine GoS.icmpYes (pc' := 15) d1_9 (XT.ii_ne_t (by decide)) (by decide) (by decide) ?_
  refine GoS.iloadN (pc' := 16) d1_15 rfl rfl ?_
  refine GoS.iconst (pc' := 17) (v := (2 : Int32)) d1_16 rfl rfl ?_
  refine GoS.icmpYes (pc' := 23) d1_17 (XT.ii_ne_t (by decide)) (by decide) (by decide) ?_
  refine GoS.iloadN (pc' := 24) d1_23 rfl rfl ?_
  refine GoS.iconst (pc' := 25) (v := (3 : Int32)) d1_24 rfl rfl ?_
  refine GoS.icmpYes (pc' := 31) d1_25 (XT.ii_ne_t (by decide)) (by decide) (by decide) ?_
  refine GoS.iloadN (pc' := 32) d1_31 rfl rfl ?_
  refine GoS.iconst (pc' := 33) (v := (4 : Int32)) d1_32 rfl rfl ?_
  refine GoS.icmpYes (pc' := 39) d1_33 (XT.ii_ne_t (by decide)) (by decide) (by decide) ?_
  refine GoS.iloadN (pc' := 40) d1_39 rfl rfl ?_
  refine GoS.iconst (pc' := 41) (v := (5 : Int32)) d1_40 rfl rfl ?_
  refine GoS.icmpYes (pc' := 47) d1_41 (XT.ii_ne_t (by decide)) (by decide) (by decide) ?_
  refine GoS.iloadN (pc' := 48) d1_47 rfl rfl ?_
  refine GoS.bipush (pc' := 50) (v := (6 : Int32)) d1_48 rfl rfl ?_
  refine GoS.icmpNo (pc' := 53) d1_50 (XT.ii_ne_f (by decide)) rfl ?_
  refine GoS.ldcS (pc' := 55) (cells' := 2) (slots' := 20) (n := 16) (z := (4 : Int32)) (vs := [(.int (79 : Int32)), (.int (73 : Int32)), (.int (68 : Int32)), (.int (67 : Int32))]) (ww hw 133 rfl) (wsA hw) hch70 hcw (Keep.refl h []) HL.nil tx_6 (by decide) rfl d1_53 (nl rfl) (nl rfl) rfl rfl (nl rfl) (nl rfl) rfl ?_
  intro h1 sa1 sb1 kb1 E1 F1_0 F1_1 F1_2 F1_3 F1_4 F1_5
  have K2 : Keep h h1 [] := (Keep.refl h []).ext E1
  have H3 : Hel Z h1 sa1 sb1 "OIDC" := ⟨kb1, _, _, F1_0, F1_1, F1_2, F1_3, F1_4, tx_6, rfl⟩
  show GoS _ _ _ _ _ _ _ _ _ _ _ _ _ _ 55 #[.val (.int (6 : Int32))] [(.ref sa1)]
  exact GoS.retR rfl rfl rfl rfl d1_55 ⟨sa1, sb1, kb1, rfl, K2, F1_0, F1_1, F1_2, F1_3, F1_4, H3, rfl⟩ (by decide) (by decide)
theorem d1_56 : decode method_4_code 56 = .ok (.ldc 71, 2) := by decide +kernel
theorem d1_58 : decode method_4_code 58 = .ok (.areturn, 1) := by decide +kernel
theorem tx_7 : (∀ c ∈ ("Saml" : String).toList, c.toNat < 256) ∧ ("Saml" : String).toList.map (fun c => Value.int (Jvm.Lit.byteI c.toNat.toUInt16)) = [(.int (83 : Int32)), (.int (97 : Int32)), (.int (109 : Int32)), (.int (108 : Int32))] := ⟨by decide, by decide⟩
theorem c_word7 (l : Launch) (Z : State) (a0 : Array Value) (hw : ∀ d ∈ tables_1, d.before a0 Z = true) {n0 : Nat} (h : Heap) (hcw : Jvm.Lit.compactW.before a0 Z = true) (hch71 : Jvm.Lit.constHeld Z "com/example/huron/huron/io/config/AuthenticatorKindNamedPinLaw" 71) :
    ConS l (⟨"com/example/huron/huron/io/config/AuthenticatorKindNamedPinLaw", "word", "(I)Ljava/lang/String;"⟩ : MethodName) method_4_code 1 (some (.object "java/lang/String")) ({ frames := 0, cells := 2, slots := 20, locals := 0 } : Room) Z n0 #[(.int (7 : Int32))] h [] (fun v h' LL' => ∃ sa : Addr, ∃ sb : Addr, ∃ ks : ClassId, v = some (.ref sa) ∧ Keep h h' [] ∧ Exa Z h' sa "java/lang/String" ∧ Fld Z h' sa "java/lang/String" "coder" "B" (.int (0 : Int32)) ∧ Fld Z h' sa "java/lang/String" "value" "[B" (.ref sb) ∧ Arv Z h' sb ks .byte (4 : Int32) [(.int (83 : Int32)), (.int (97 : Int32)), (.int (109 : Int32)), (.int (108 : Int32))] (.int 0) ∧ Exa Z h' sb "[B" ∧ Hel Z h' sa sb ("Saml") ∧ LL' = [("Saml", sa, "com/example/huron/huron/io/config/AuthenticatorKindNamedPinLaw", 71)]) := by
  refine ConS.of_go (plainFor_of_name pn_2) (Ls := #[.val (.int (7 : Int32))]) (fun m => by first | (simp [entryFrame, mkF, argsToLocals, Value.category]; done) | rfl) ?_
  refine GoS.iloadN (pc' := 1) d1_0 rfl rfl ?_
  refine GoS.ifYes (pc' := 7) d1_1 (XT.i0_ne_t (by decide)) (by decide) (by decide) ?_
  refine GoS.iloadN (pc' := 8) d1_7 rfl rfl ?_
  refine GoS.iconst (pc' := 9) (v := (1 : Int32)) d1_8 rfl rfl ?_
  refine GoS.icmpYes (pc' := 15) d1_9 (XT.ii_ne_t (by decide)) (by decide) (by decide) ?_
  refine GoS.iloadN (pc' := 16) d1_15 rfl rfl ?_
  refine GoS.iconst (pc' := 17) (v := (2 : Int32)) d1_16 rfl rfl ?_
  refine GoS.icmpYes (pc' := 23) d1_17 (XT.ii_ne_t (by decide)) (by decide) (by decide) ?_
  refine GoS.iloadN (pc' := 24) d1_23 rfl rfl ?_
  refine GoS.iconst (pc' := 25) (v := (3 : Int32)) d1_24 rfl rfl ?_
  refine GoS.icmpYes (pc' := 31) d1_25 (XT.ii_ne_t (by decide)) (by decide) (by decide) ?_
  refine GoS.iloadN (pc' := 32) d1_31 rfl rfl ?_
  refine GoS.iconst (pc' := 33) (v := (4 : Int32)) d1_32 rfl rfl ?_
  refine GoS.icmpYes (pc' := 39) d1_33 (XT.ii_ne_t (by decide)) (by decide) (by decide) ?_
  refine GoS.iloadN (pc' := 40) d1_39 rfl rfl ?_
  refine GoS.iconst (pc' := 41) (v := (5 : Int32)) d1_40 rfl rfl ?_
  refine GoS.icmpYes (pc' := 47) d1_41 (XT.ii_ne_t (by decide)) (by decide) (by decide) ?_
  refine GoS.iloadN (pc' := 48) d1_47 rfl rfl ?_
  refine GoS.bipush (pc' := 50) (v := (6 : Int32)) d1_48 rfl rfl ?_
  refine GoS.icmpYes (pc' := 56) d1_50 (XT.ii_ne_t (by decide)) (by decide) (by decide) ?_
  refine GoS.ldcS (pc' := 58) (cells' := 2) (slots' := 20) (n := 16) (z := (4 : Int32)) (vs := [(.int (83 : Int32)), (.int (97 : Int32)), (.int (109 : Int32)), (.int (108 : Int32))]) (ww hw 131 rfl) (wsA hw) hch71 hcw (Keep.refl h []) HL.nil tx_7 (by decide) rfl d1_56 (nl rfl) (nl rfl) rfl rfl (nl rfl) (nl rfl) rfl ?_
  intro h1 sa1 sb1 kb1 E1 F1_0 F1_1 F1_2 F1_3 F1_4 F1_5
  have K2 : Keep h h1 [] := (Keep.refl h []).ext E1
  have H3 : Hel Z h1 sa1 sb1 "Saml" := ⟨kb1, _, _, F1_0, F1_1, F1_2, F1_3, F1_4, tx_7, rfl⟩
  show GoS _ _ _ _ _ _ _ _ _ _ _ _ _ _ 58 #[.val (.int (7 : Int32))] [(.ref sa1)]
  exact GoS.retR rfl rfl rfl rfl d1_58 ⟨sa1, sb1, kb1, rfl, K2, F1_0, F1_1, F1_2, F1_3, F1_4, H3, rfl⟩ (by decide) (by decide)
theorem d7_0 : decode jdk_43_method_2_code 0 = .ok (.iload_n 1, 1) := by decide +kernel
theorem d7_1 : decode jdk_43_method_2_code 1 = .ok (.aload_n 0, 1) := by decide +kernel
theorem d7_2 : decode jdk_43_method_2_code 2 = .ok (.arraylength, 1) := by decide +kernel
theorem d7_3 : decode jdk_43_method_2_code 3 = .ok (.invokestatic 9, 3) := by decide +kernel
theorem d7_6 : decode jdk_43_method_2_code 6 = .ok (.aload_n 0, 1) := by decide +kernel
theorem d7_7 : decode jdk_43_method_2_code 7 = .ok (.iload_n 1, 1) := by decide +kernel
theorem d7_8 : decode jdk_43_method_2_code 8 = .ok (.baload, 1) := by decide +kernel
theorem d7_9 : decode jdk_43_method_2_code 9 = .ok (.sipush 255, 3) := by decide +kernel
theorem d7_12 : decode jdk_43_method_2_code 12 = .ok (.iand, 1) := by decide +kernel
theorem d7_13 : decode jdk_43_method_2_code 13 = .ok (.i2c, 1) := by decide +kernel
theorem d7_14 : decode jdk_43_method_2_code 14 = .ok (.ireturn, 1) := by decide +kernel
theorem pd_2 : parseMethodDescriptor "(II)V" = some ⟨[.int, .int], none⟩ := by decide +kernel
theorem pn_3 : plainName "java/lang/StringLatin1" = true := by first | (simp [plainName, overriddenIn]; done) | decide +kernel
theorem c_latAt4_0 (l : Launch) (Z : State) (a0 : Array Value) (hw : ∀ d ∈ tables_1, d.before a0 Z = true) {n0 : Nat} (h : Heap) (b : Addr) (kb : ClassId) (x0 : Int32) (x1 : Int32) (x2 : Int32) (x3 : Int32) (wf : Value) (hwf : wf.isRef = true) (sfm : Sta Z Z.heap "jdk/internal/util/Preconditions" "SIOOBE_FORMATTER" "Ljava/util/function/BiFunction;" wf) (v : Arv Z h b kb .byte (4 : Int32) [(.int x0), (.int x1), (.int x2), (.int x3)] (.int 0)) :
    Con l (⟨"java/lang/StringLatin1", "charAt", "([BI)C"⟩ : MethodName) jdk_43_method_2_code 2 (some .char) ({ frames := 2, cells := 0, slots := 0, locals := 27 } : Room) Z n0 #[(.ref b), (.int (0 : Int32))] h (fun v h' => v = some (.int (x0 &&& (255 : Int32))) ∧ h = h') := by
  refine Con.of_go (plainFor_of_name pn_3) (Ls := #[.val (.ref b), .val (.int (0 : Int32))]) (fun m => by first | (simp [entryFrame, mkF, argsToLocals, Value.category]; done) | rfl) ?_
  refine Go.iloadN (pc' := 1) d7_0 rfl rfl ?_
  refine Go.aloadN (pc' := 2) d7_1 rfl rfl rfl ?_
  refine Go.arraylength (pc' := 3) v d7_2 rfl ?_
  refine Go.callS (cells' := 0) (slots' := 0) (pc' := 6) [(.int (0 : Int32)), (.int (4 : Int32))] [] (ww hw 43 rfl) (ww hw 44 rfl) (ww hw 5 rfl) (ww hw 45 rfl) (by decide) (c_strCheck l Z a0 hw h (0 : Int32) (4 : Int32) wf (by decide) (by decide) hwf sfm) pd_2 rfl rfl rfl rfl rfl (nl rfl) (nl rfl) (nl rfl) (nl rfl) d7_3 rfl ?_
  rintro _ _ ⟨rfl, rfl⟩
  show Go _ _ _ _ _ _ _ _ _ _ _ _ 6 #[.val (.ref b), .val (.int (0 : Int32))] []
  refine Go.aloadN (pc' := 7) d7_6 rfl rfl rfl ?_
  refine Go.iloadN (pc' := 8) d7_7 rfl rfl ?_
  refine Go.baload (pc' := 9) (v := x0) v d7_8 (by decide) (by decide) rfl rfl ?_
  refine Go.sipush (pc' := 12) (v := (255 : Int32)) d7_9 rfl rfl ?_
  refine Go.iand (pc' := 13) d7_12 rfl ?_
  refine Go.i2c (pc' := 14) d7_13 rfl ?_
  rw [i2c_mask]
  exact Go.retN (t := .char) rfl (by simp) d7_14 ⟨(congrArg (fun z => some (Value.int z)) (show nar .char (x0 &&& (255 : Int32)) = (x0 &&& (255 : Int32)) from i2c_mask _)), rfl⟩ (by decide) (by decide)
theorem d5_0 : decode jdk_42_method_56_code 0 = .ok (.aload_n 0, 1) := by decide +kernel
theorem d5_1 : decode jdk_42_method_56_code 1 = .ok (.invokevirtual 492, 3) := by decide +kernel
theorem d5_4 : decode jdk_42_method_56_code 4 = .ok (.ifCond .eq 12, 3) := by decide +kernel
theorem d5_7 : decode jdk_42_method_56_code 7 = .ok (.aload_n 0, 1) := by decide +kernel
theorem d5_8 : decode jdk_42_method_56_code 8 = .ok (.getfield 9, 3) := by decide +kernel
theorem d5_11 : decode jdk_42_method_56_code 11 = .ok (.iload_n 1, 1) := by decide +kernel
theorem d5_12 : decode jdk_42_method_56_code 12 = .ok (.invokestatic 495, 3) := by decide +kernel
theorem d5_15 : decode jdk_42_method_56_code 15 = .ok (.ireturn, 1) := by decide +kernel
theorem pd_3 : parseMethodDescriptor "()Z" = some ⟨[], some .boolean⟩ := by decide +kernel
theorem pd_4 : parseMethodDescriptor "([BI)C" = some ⟨[(.array .byte), .int], some .char⟩ := by decide +kernel
theorem c_charAt4_0 (l : Launch) (Z : State) (a0 : Array Value) (hw : ∀ d ∈ tables_1, d.before a0 Z = true) {n0 : Nat} (h : Heap) (a : Addr) (b : Addr) (kb : ClassId) (x0 : Int32) (x1 : Int32) (x2 : Int32) (x3 : Int32) (cp : Int32) (wf : Value) (hcp : ¬ (cp = (0 : Int32))) (hwf : wf.isRef = true) (scp : Sta Z Z.heap "java/lang/String" "COMPACT_STRINGS" "Z" (.int cp)) (sfm : Sta Z Z.heap "jdk/internal/util/Preconditions" "SIOOBE_FORMATTER" "Ljava/util/function/BiFunction;" wf) (e : Exa Z h a "java/lang/String") (f : Fld Z h a "java/lang/String" "coder" "B" (.int (0 : Int32))) (g : Fld Z h a "java/lang/String" "value" "[B" (.ref b)) (v : Arv Z h b kb .byte (4 : Int32) [(.int x0), (.int x1), (.int x2), (.int x3)] (.int 0)) :
    Con l (⟨"java/lang/String", "charAt", "(I)C"⟩ : MethodName) jdk_42_method_56_code 2 (some .char) ({ frames := 3, cells := 0, slots := 0, locals := 40 } : Room) Z n0 #[(.ref a), (.int (0 : Int32))] h (fun v h' => v = some (.int (x0 &&& (255 : Int32))) ∧ h = h') := by
  refine Con.of_go (plainFor_of_name pn_0) (Ls := #[.val (.ref a), .val (.int (0 : Int32))]) (fun m => by first | (simp [entryFrame, mkF, argsToLocals, Value.category]; done) | rfl) ?_
  refine Go.aloadN (pc' := 1) d5_0 rfl rfl rfl ?_
  refine Go.callV (cells' := 0) (slots' := 0) (pc' := 4) [] [] e (ww hw 34 rfl) (ww hw 35 rfl) (fun s' hs' => notFace_of_selects (args := #[]) (mvT hs' (ww hw 37 rfl))) (ww hw 37 rfl) (ww hw 36 rfl) (ww hw 5 rfl) (ww hw 38 rfl) (by decide) (c_isLatin1 l Z a0 hw h a cp hcp scp f) pd_3 rfl rfl rfl rfl rfl (nl rfl) (nl rfl) (nl rfl) (nl rfl) d5_1 rfl ?_
  rintro _ _ ⟨rfl, rfl⟩
  show Go _ _ _ _ _ _ _ _ _ _ _ _ 4 #[.val (.ref a), .val (.int (0 : Int32))] [(.int (1 : Int32))]
  refine Go.ifNo (pc' := 7) d5_4 (XT.i0_eq_f (by decide)) rfl ?_
  refine Go.aloadN (pc' := 8) d5_7 rfl rfl rfl ?_
  refine Go.getfield (pc' := 11) (host := "") (Or.inl (ww hw 21 rfl)) Via.refl g d5_8 rfl ?_
  refine Go.iloadN (pc' := 12) d5_11 rfl rfl ?_
  refine Go.callS (cells' := 0) (slots' := 0) (pc' := 15) [(.ref b), (.int (0 : Int32))] [] (ww hw 39 rfl) (ww hw 40 rfl) (ww hw 41 rfl) (ww hw 42 rfl) (by decide) (c_latAt4_0 l Z a0 hw h b kb x0 x1 x2 x3 wf hwf sfm v) pd_4 rfl rfl rfl rfl rfl (nl rfl) (nl rfl) (nl rfl) (nl rfl) d5_12 rfl ?_
  rintro _ _ ⟨rfl, rfl⟩
  show Go _ _ _ _ _ _ _ _ _ _ _ _ 15 #[.val (.ref a), .val (.int (0 : Int32))] [(.int (x0 &&& (255 : Int32)))]
  exact Go.retN (t := .char) rfl (by simp) d5_15 ⟨(congrArg (fun z => some (Value.int z)) (show nar .char (x0 &&& (255 : Int32)) = (x0 &&& (255 : Int32)) from i2c_mask _)), rfl⟩ (by decide) (by decide)
theorem d2_0 : decode method_5_code 0 = .ok (.iload_n 1, 1) := by decide +kernel
theorem d2_1 : decode method_5_code 1 = .ok (.aload_n 0, 1) := by decide +kernel
theorem d2_2 : decode method_5_code 2 = .ok (.invokevirtual 73, 3) := by decide +kernel
theorem d2_5 : decode method_5_code 5 = .ok (.if_icmp .ge 11, 3) := by decide +kernel
theorem d2_8 : decode method_5_code 8 = .ok (.aload_n 0, 1) := by decide +kernel
theorem d2_9 : decode method_5_code 9 = .ok (.iload_n 1, 1) := by decide +kernel
theorem d2_10 : decode method_5_code 10 = .ok (.invokevirtual 77, 3) := by decide +kernel
theorem d2_13 : decode method_5_code 13 = .ok (.goto 5, 3) := by decide +kernel
theorem d2_18 : decode method_5_code 18 = .ok (.ireturn, 1) := by decide +kernel
theorem pd_5 : parseMethodDescriptor "()I" = some ⟨[], some .int⟩ := by decide +kernel
theorem pd_6 : parseMethodDescriptor "(I)C" = some ⟨[.int], some .char⟩ := by decide +kernel
theorem c_at4_0 (l : Launch) (Z : State) (a0 : Array Value) (hw : ∀ d ∈ tables_1, d.before a0 Z = true) {n0 : Nat} (h : Heap) (a : Addr) (b : Addr) (kb : ClassId) (x0 : Int32) (x1 : Int32) (x2 : Int32) (x3 : Int32) (cp : Int32) (wf : Value) (hcp : ¬ (cp = (0 : Int32))) (hwf : wf.isRef = true) (scp : Sta Z Z.heap "java/lang/String" "COMPACT_STRINGS" "Z" (.int cp)) (sfm : Sta Z Z.heap "jdk/internal/util/Preconditions" "SIOOBE_FORMATTER" "Ljava/util/function/BiFunction;" wf) (e : Exa Z h a "java/lang/String") (f : Fld Z h a "java/lang/String" "coder" "B" (.int (0 : Int32))) (g : Fld Z h a "java/lang/String" "value" "[B" (.ref b)) (v : Arv Z h b kb .byte (4 : Int32) [(.int x0), (.int x1), (.int x2), (.int x3)] (.int 0)) :
    Con l (⟨"com/example/huron/huron/io/config/AuthenticatorKindNamedPinLaw", "at", "(Ljava/lang/String;I)C"⟩ : MethodName) method_5_code 2 (some .char) ({ frames := 4, cells := 0, slots := 0, locals := 53 } : Room) Z n0 #[(.ref a), (.int (0 : Int32))] h (fun v h' => v = some (.int (x0 &&& (255 : Int32))) ∧ h = h') := by
  refine Con.of_go (plainFor_of_name pn_2) (Ls := #[.val (.ref a), .val (.int (0 : Int32))]) (fun m => by first | (simp [entryFrame, mkF, argsToLocals, Value.category]; done) | rfl) ?_
  refine Go.iloadN (pc' := 1) d2_0 rfl rfl ?_
  refine Go.aloadN (pc' := 2) d2_1 rfl rfl rfl ?_
  refine Go.callV (cells' := 0) (slots' := 0) (pc' := 5) [] [(.int (0 : Int32))] e (ww hw 16 rfl) (ww hw 17 rfl) (fun s' hs' => notFace_of_selects (args := #[]) (mvT hs' (ww hw 19 rfl))) (ww hw 19 rfl) (ww hw 18 rfl) (ww hw 5 rfl) (ww hw 20 rfl) (by decide) (c_strLen4 l Z a0 hw h a b kb x0 x1 x2 x3 cp hcp scp e f g v) pd_5 rfl rfl rfl rfl rfl (nl rfl) (nl rfl) (nl rfl) (nl rfl) d2_2 rfl ?_
  rintro _ _ ⟨rfl, rfl⟩
  show Go _ _ _ _ _ _ _ _ _ _ _ _ 5 #[.val (.ref a), .val (.int (0 : Int32))] [(.int (4 : Int32)), (.int (0 : Int32))]
  refine Go.icmpNo (pc' := 8) d2_5 (XT.ii_ge_f (by decide)) rfl ?_
  refine Go.aloadN (pc' := 9) d2_8 rfl rfl rfl ?_
  refine Go.iloadN (pc' := 10) d2_9 rfl rfl ?_
  refine Go.callV (cells' := 0) (slots' := 0) (pc' := 13) [(.int (0 : Int32))] [] e (ww hw 29 rfl) (ww hw 30 rfl) (fun s' hs' => notFace_of_selects (args := #[]) (mvT hs' (ww hw 32 rfl))) (ww hw 32 rfl) (ww hw 31 rfl) (ww hw 5 rfl) (ww hw 33 rfl) (by decide) (c_charAt4_0 l Z a0 hw h a b kb x0 x1 x2 x3 cp wf hcp hwf scp sfm e f g v) pd_6 rfl rfl rfl rfl rfl (nl rfl) (nl rfl) (nl rfl) (nl rfl) d2_10 rfl ?_
  rintro _ _ ⟨rfl, rfl⟩
  show Go _ _ _ _ _ _ _ _ _ _ _ _ 13 #[.val (.ref a), .val (.int (0 : Int32))] [(.int (x0 &&& (255 : Int32)))]
  refine Go.goto (pc' := 18) d2_13 (by decide) (by decide) ?_
  exact Go.retN (t := .char) rfl (by simp) d2_18 ⟨(congrArg (fun z => some (Value.int z)) (show nar .char (x0 &&& (255 : Int32)) = (x0 &&& (255 : Int32)) from i2c_mask _)), rfl⟩ (by decide) (by decide)
theorem c_latAt4_1 (l : Launch) (Z : State) (a0 : Array Value) (hw : ∀ d ∈ tables_1, d.before a0 Z = true) {n0 : Nat} (h : Heap) (b : Addr) (kb : ClassId) (x0 : Int32) (x1 : Int32) (x2 : Int32) (x3 : Int32) (wf : Value) (hwf : wf.isRef = true) (sfm : Sta Z Z.heap "jdk/internal/util/Preconditions" "SIOOBE_FORMATTER" "Ljava/util/function/BiFunction;" wf) (v : Arv Z h b kb .byte (4 : Int32) [(.int x0), (.int x1), (.int x2), (.int x3)] (.int 0)) :
    Con l (⟨"java/lang/StringLatin1", "charAt", "([BI)C"⟩ : MethodName) jdk_43_method_2_code 2 (some .char) ({ frames := 2, cells := 0, slots := 0, locals := 27 } : Room) Z n0 #[(.ref b), (.int (1 : Int32))] h (fun v h' => v = some (.int (x1 &&& (255 : Int32))) ∧ h = h') := by
  refine Con.of_go (plainFor_of_name pn_3) (Ls := #[.val (.ref b), .val (.int (1 : Int32))]) (fun m => by first | (simp [entryFrame, mkF, argsToLocals, Value.category]; done) | rfl) ?_
  refine Go.iloadN (pc' := 1) d7_0 rfl rfl ?_
  refine Go.aloadN (pc' := 2) d7_1 rfl rfl rfl ?_
  refine Go.arraylength (pc' := 3) v d7_2 rfl ?_
  refine Go.callS (cells' := 0) (slots' := 0) (pc' := 6) [(.int (1 : Int32)), (.int (4 : Int32))] [] (ww hw 43 rfl) (ww hw 44 rfl) (ww hw 5 rfl) (ww hw 45 rfl) (by decide) (c_strCheck l Z a0 hw h (1 : Int32) (4 : Int32) wf (by decide) (by decide) hwf sfm) pd_2 rfl rfl rfl rfl rfl (nl rfl) (nl rfl) (nl rfl) (nl rfl) d7_3 rfl ?_
  rintro _ _ ⟨rfl, rfl⟩
  show Go _ _ _ _ _ _ _ _ _ _ _ _ 6 #[.val (.ref b), .val (.int (1 : Int32))] []
  refine Go.aloadN (pc' := 7) d7_6 rfl rfl rfl ?_
  refine Go.iloadN (pc' := 8) d7_7 rfl rfl ?_
  refine Go.baload (pc' := 9) (v := x1) v d7_8 (by decide) (by decide) rfl rfl ?_
  refine Go.sipush (pc' := 12) (v := (255 : Int32)) d7_9 rfl rfl ?_
  refine Go.iand (pc' := 13) d7_12 rfl ?_
  refine Go.i2c (pc' := 14) d7_13 rfl ?_
  rw [i2c_mask]
  exact Go.retN (t := .char) rfl (by simp) d7_14 ⟨(congrArg (fun z => some (Value.int z)) (show nar .char (x1 &&& (255 : Int32)) = (x1 &&& (255 : Int32)) from i2c_mask _)), rfl⟩ (by decide) (by decide)
theorem c_charAt4_1 (l : Launch) (Z : State) (a0 : Array Value) (hw : ∀ d ∈ tables_1, d.before a0 Z = true) {n0 : Nat} (h : Heap) (a : Addr) (b : Addr) (kb : ClassId) (x0 : Int32) (x1 : Int32) (x2 : Int32) (x3 : Int32) (cp : Int32) (wf : Value) (hcp : ¬ (cp = (0 : Int32))) (hwf : wf.isRef = true) (scp : Sta Z Z.heap "java/lang/String" "COMPACT_STRINGS" "Z" (.int cp)) (sfm : Sta Z Z.heap "jdk/internal/util/Preconditions" "SIOOBE_FORMATTER" "Ljava/util/function/BiFunction;" wf) (e : Exa Z h a "java/lang/String") (f : Fld Z h a "java/lang/String" "coder" "B" (.int (0 : Int32))) (g : Fld Z h a "java/lang/String" "value" "[B" (.ref b)) (v : Arv Z h b kb .byte (4 : Int32) [(.int x0), (.int x1), (.int x2), (.int x3)] (.int 0)) :
    Con l (⟨"java/lang/String", "charAt", "(I)C"⟩ : MethodName) jdk_42_method_56_code 2 (some .char) ({ frames := 3, cells := 0, slots := 0, locals := 40 } : Room) Z n0 #[(.ref a), (.int (1 : Int32))] h (fun v h' => v = some (.int (x1 &&& (255 : Int32))) ∧ h = h') := by
  refine Con.of_go (plainFor_of_name pn_0) (Ls := #[.val (.ref a), .val (.int (1 : Int32))]) (fun m => by first | (simp [entryFrame, mkF, argsToLocals, Value.category]; done) | rfl) ?_
  refine Go.aloadN (pc' := 1) d5_0 rfl rfl rfl ?_
  refine Go.callV (cells' := 0) (slots' := 0) (pc' := 4) [] [] e (ww hw 34 rfl) (ww hw 35 rfl) (fun s' hs' => notFace_of_selects (args := #[]) (mvT hs' (ww hw 37 rfl))) (ww hw 37 rfl) (ww hw 36 rfl) (ww hw 5 rfl) (ww hw 38 rfl) (by decide) (c_isLatin1 l Z a0 hw h a cp hcp scp f) pd_3 rfl rfl rfl rfl rfl (nl rfl) (nl rfl) (nl rfl) (nl rfl) d5_1 rfl ?_
  rintro _ _ ⟨rfl, rfl⟩
  show Go _ _ _ _ _ _ _ _ _ _ _ _ 4 #[.val (.ref a), .val (.int (1 : Int32))] [(.int (1 : Int32))]
  refine Go.ifNo (pc' := 7) d5_4 (XT.i0_eq_f (by decide)) rfl ?_
  refine Go.aloadN (pc' := 8) d5_7 rfl rfl rfl ?_
  refine Go.getfield (pc' := 11) (host := "") (Or.inl (ww hw 21 rfl)) Via.refl g d5_8 rfl ?_
  refine Go.iloadN (pc' := 12) d5_11 rfl rfl ?_
  refine Go.callS (cells' := 0) (slots' := 0) (pc' := 15) [(.ref b), (.int (1 : Int32))] [] (ww hw 39 rfl) (ww hw 40 rfl) (ww hw 41 rfl) (ww hw 42 rfl) (by decide) (c_latAt4_1 l Z a0 hw h b kb x0 x1 x2 x3 wf hwf sfm v) pd_4 rfl rfl rfl rfl rfl (nl rfl) (nl rfl) (nl rfl) (nl rfl) d5_12 rfl ?_
  rintro _ _ ⟨rfl, rfl⟩
  show Go _ _ _ _ _ _ _ _ _ _ _ _ 15 #[.val (.ref a), .val (.int (1 : Int32))] [(.int (x1 &&& (255 : Int32)))]
  exact Go.retN (t := .char) rfl (by simp) d5_15 ⟨(congrArg (fun z => some (Value.int z)) (show nar .char (x1 &&& (255 : Int32)) = (x1 &&& (255 : Int32)) from i2c_mask _)), rfl⟩ (by decide) (by decide)
theorem c_at4_1 (l : Launch) (Z : State) (a0 : Array Value) (hw : ∀ d ∈ tables_1, d.before a0 Z = true) {n0 : Nat} (h : Heap) (a : Addr) (b : Addr) (kb : ClassId) (x0 : Int32) (x1 : Int32) (x2 : Int32) (x3 : Int32) (cp : Int32) (wf : Value) (hcp : ¬ (cp = (0 : Int32))) (hwf : wf.isRef = true) (scp : Sta Z Z.heap "java/lang/String" "COMPACT_STRINGS" "Z" (.int cp)) (sfm : Sta Z Z.heap "jdk/internal/util/Preconditions" "SIOOBE_FORMATTER" "Ljava/util/function/BiFunction;" wf) (e : Exa Z h a "java/lang/String") (f : Fld Z h a "java/lang/String" "coder" "B" (.int (0 : Int32))) (g : Fld Z h a "java/lang/String" "value" "[B" (.ref b)) (v : Arv Z h b kb .byte (4 : Int32) [(.int x0), (.int x1), (.int x2), (.int x3)] (.int 0)) :
    Con l (⟨"com/example/huron/huron/io/config/AuthenticatorKindNamedPinLaw", "at", "(Ljava/lang/String;I)C"⟩ : MethodName) method_5_code 2 (some .char) ({ frames := 4, cells := 0, slots := 0, locals := 53 } : Room) Z n0 #[(.ref a), (.int (1 : Int32))] h (fun v h' => v = some (.int (x1 &&& (255 : Int32))) ∧ h = h') := by
  refine Con.of_go (plainFor_of_name pn_2) (Ls := #[.val (.ref a), .val (.int (1 : Int32))]) (fun m => by first | (simp [entryFrame, mkF, argsToLocals, Value.category]; done) | rfl) ?_
  refine Go.iloadN (pc' := 1) d2_0 rfl rfl ?_
  refine Go.aloadN (pc' := 2) d2_1 rfl rfl rfl ?_
  refine Go.callV (cells' := 0) (slots' := 0) (pc' := 5) [] [(.int (1 : Int32))] e (ww hw 16 rfl) (ww hw 17 rfl) (fun s' hs' => notFace_of_selects (args := #[]) (mvT hs' (ww hw 19 rfl))) (ww hw 19 rfl) (ww hw 18 rfl) (ww hw 5 rfl) (ww hw 20 rfl) (by decide) (c_strLen4 l Z a0 hw h a b kb x0 x1 x2 x3 cp hcp scp e f g v) pd_5 rfl rfl rfl rfl rfl (nl rfl) (nl rfl) (nl rfl) (nl rfl) d2_2 rfl ?_
  rintro _ _ ⟨rfl, rfl⟩
  show Go _ _ _ _ _ _ _ _ _ _ _ _ 5 #[.val (.ref a), .val (.int (1 : Int32))] [(.int (4 : Int32)), (.int (1 : Int32))]
  refine Go.icmpNo (pc' := 8) d2_5 (XT.ii_ge_f (by decide)) rfl ?_
  refine Go.aloadN (pc' := 9) d2_8 rfl rfl rfl ?_
  refine Go.iloadN (pc' := 10) d2_9 rfl rfl ?_
  refine Go.callV (cells' := 0) (slots' := 0) (pc' := 13) [(.int (1 : Int32))] [] e (ww hw 29 rfl) (ww hw 30 rfl) (fun s' hs' => notFace_of_selects (args := #[]) (mvT hs' (ww hw 32 rfl))) (ww hw 32 rfl) (ww hw 31 rfl) (ww hw 5 rfl) (ww hw 33 rfl) (by decide) (c_charAt4_1 l Z a0 hw h a b kb x0 x1 x2 x3 cp wf hcp hwf scp sfm e f g v) pd_6 rfl rfl rfl rfl rfl (nl rfl) (nl rfl) (nl rfl) (nl rfl) d2_10 rfl ?_
  rintro _ _ ⟨rfl, rfl⟩
  show Go _ _ _ _ _ _ _ _ _ _ _ _ 13 #[.val (.ref a), .val (.int (1 : Int32))] [(.int (x1 &&& (255 : Int32)))]
  refine Go.goto (pc' := 18) d2_13 (by decide) (by decide) ?_
  exact Go.retN (t := .char) rfl (by simp) d2_18 ⟨(congrArg (fun z => some (Value.int z)) (show nar .char (x1 &&& (255 : Int32)) = (x1 &&& (255 : Int32)) from i2c_mask _)), rfl⟩ (by decide) (by decide)
theorem c_latAt4_2 (l : Launch) (Z : State) (a0 : Array Value) (hw : ∀ d ∈ tables_1, d.before a0 Z = true) {n0 : Nat} (h : Heap) (b : Addr) (kb : ClassId) (x0 : Int32) (x1 : Int32) (x2 : Int32) (x3 : Int32) (wf : Value) (hwf : wf.isRef = true) (sfm : Sta Z Z.heap "jdk/internal/util/Preconditions" "SIOOBE_FORMATTER" "Ljava/util/function/BiFunction;" wf) (v : Arv Z h b kb .byte (4 : Int32) [(.int x0), (.int x1), (.int x2), (.int x3)] (.int 0)) :
    Con l (⟨"java/lang/StringLatin1", "charAt", "([BI)C"⟩ : MethodName) jdk_43_method_2_code 2 (some .char) ({ frames := 2, cells := 0, slots := 0, locals := 27 } : Room) Z n0 #[(.ref b), (.int (2 : Int32))] h (fun v h' => v = some (.int (x2 &&& (255 : Int32))) ∧ h = h') := by
  refine Con.of_go (plainFor_of_name pn_3) (Ls := #[.val (.ref b), .val (.int (2 : Int32))]) (fun m => by first | (simp [entryFrame, mkF, argsToLocals, Value.category]; done) | rfl) ?_
  refine Go.iloadN (pc' := 1) d7_0 rfl rfl ?_
  refine Go.aloadN (pc' := 2) d7_1 rfl rfl rfl ?_
  refine Go.arraylength (pc' := 3) v d7_2 rfl ?_
  refine Go.callS (cells' := 0) (slots' := 0) (pc' := 6) [(.int (2 : Int32)), (.int (4 : Int32))] [] (ww hw 43 rfl) (ww hw 44 rfl) (ww hw 5 rfl) (ww hw 45 rfl) (by decide) (c_strCheck l Z a0 hw h (2 : Int32) (4 : Int32) wf (by decide) (by decide) hwf sfm) pd_2 rfl rfl rfl rfl rfl (nl rfl) (nl rfl) (nl rfl) (nl rfl) d7_3 rfl ?_
  rintro _ _ ⟨rfl, rfl⟩
  show Go _ _ _ _ _ _ _ _ _ _ _ _ 6 #[.val (.ref b), .val (.int (2 : Int32))] []
  refine Go.aloadN (pc' := 7) d7_6 rfl rfl rfl ?_
  refine Go.iloadN (pc' := 8) d7_7 rfl rfl ?_
  refine Go.baload (pc' := 9) (v := x2) v d7_8 (by decide) (by decide) rfl rfl ?_
  refine Go.sipush (pc' := 12) (v := (255 : Int32)) d7_9 rfl rfl ?_
  refine Go.iand (pc' := 13) d7_12 rfl ?_
  refine Go.i2c (pc' := 14) d7_13 rfl ?_
  rw [i2c_mask]
  exact Go.retN (t := .char) rfl (by simp) d7_14 ⟨(congrArg (fun z => some (Value.int z)) (show nar .char (x2 &&& (255 : Int32)) = (x2 &&& (255 : Int32)) from i2c_mask _)), rfl⟩ (by decide) (by decide)
theorem c_charAt4_2 (l : Launch) (Z : State) (a0 : Array Value) (hw : ∀ d ∈ tables_1, d.before a0 Z = true) {n0 : Nat} (h : Heap) (a : Addr) (b : Addr) (kb : ClassId) (x0 : Int32) (x1 : Int32) (x2 : Int32) (x3 : Int32) (cp : Int32) (wf : Value) (hcp : ¬ (cp = (0 : Int32))) (hwf : wf.isRef = true) (scp : Sta Z Z.heap "java/lang/String" "COMPACT_STRINGS" "Z" (.int cp)) (sfm : Sta Z Z.heap "jdk/internal/util/Preconditions" "SIOOBE_FORMATTER" "Ljava/util/function/BiFunction;" wf) (e : Exa Z h a "java/lang/String") (f : Fld Z h a "java/lang/String" "coder" "B" (.int (0 : Int32))) (g : Fld Z h a "java/lang/String" "value" "[B" (.ref b)) (v : Arv Z h b kb .byte (4 : Int32) [(.int x0), (.int x1), (.int x2), (.int x3)] (.int 0)) :
    Con l (⟨"java/lang/String", "charAt", "(I)C"⟩ : MethodName) jdk_42_method_56_code 2 (some .char) ({ frames := 3, cells := 0, slots := 0, locals := 40 } : Room) Z n0 #[(.ref a), (.int (2 : Int32))] h (fun v h' => v = some (.int (x2 &&& (255 : Int32))) ∧ h = h') := by
  refine Con.of_go (plainFor_of_name pn_0) (Ls := #[.val (.ref a), .val (.int (2 : Int32))]) (fun m => by first | (simp [entryFrame, mkF, argsToLocals, Value.category]; done) | rfl) ?_
  refine Go.aloadN (pc' := 1) d5_0 rfl rfl rfl ?_
  refine Go.callV (cells' := 0) (slots' := 0) (pc' := 4) [] [] e (ww hw 34 rfl) (ww hw 35 rfl) (fun s' hs' => notFace_of_selects (args := #[]) (mvT hs' (ww hw 37 rfl))) (ww hw 37 rfl) (ww hw 36 rfl) (ww hw 5 rfl) (ww hw 38 rfl) (by decide) (c_isLatin1 l Z a0 hw h a cp hcp scp f) pd_3 rfl rfl rfl rfl rfl (nl rfl) (nl rfl) (nl rfl) (nl rfl) d5_1 rfl ?_
  rintro _ _ ⟨rfl, rfl⟩
  show Go _ _ _ _ _ _ _ _ _ _ _ _ 4 #[.val (.ref a), .val (.int (2 : Int32))] [(.int (1 : Int32))]
  refine Go.ifNo (pc' := 7) d5_4 (XT.i0_eq_f (by decide)) rfl ?_
  refine Go.aloadN (pc' := 8) d5_7 rfl rfl rfl ?_
  refine Go.getfield (pc' := 11) (host := "") (Or.inl (ww hw 21 rfl)) Via.refl g d5_8 rfl ?_
  refine Go.iloadN (pc' := 12) d5_11 rfl rfl ?_
  refine Go.callS (cells' := 0) (slots' := 0) (pc' := 15) [(.ref b), (.int (2 : Int32))] [] (ww hw 39 rfl) (ww hw 40 rfl) (ww hw 41 rfl) (ww hw 42 rfl) (by decide) (c_latAt4_2 l Z a0 hw h b kb x0 x1 x2 x3 wf hwf sfm v) pd_4 rfl rfl rfl rfl rfl (nl rfl) (nl rfl) (nl rfl) (nl rfl) d5_12 rfl ?_
  rintro _ _ ⟨rfl, rfl⟩
  show Go _ _ _ _ _ _ _ _ _ _ _ _ 15 #[.val (.ref a), .val (.int (2 : Int32))] [(.int (x2 &&& (255 : Int32)))]
  exact Go.retN (t := .char) rfl (by simp) d5_15 ⟨(congrArg (fun z => some (Value.int z)) (show nar .char (x2 &&& (255 : Int32)) = (x2 &&& (255 : Int32)) from i2c_mask _)), rfl⟩ (by decide) (by decide)
theorem c_at4_2 (l : Launch) (Z : State) (a0 : Array Value) (hw : ∀ d ∈ tables_1, d.before a0 Z = true) {n0 : Nat} (h : Heap) (a : Addr) (b : Addr) (kb : ClassId) (x0 : Int32) (x1 : Int32) (x2 : Int32) (x3 : Int32) (cp : Int32) (wf : Value) (hcp : ¬ (cp = (0 : Int32))) (hwf : wf.isRef = true) (scp : Sta Z Z.heap "java/lang/String" "COMPACT_STRINGS" "Z" (.int cp)) (sfm : Sta Z Z.heap "jdk/internal/util/Preconditions" "SIOOBE_FORMATTER" "Ljava/util/function/BiFunction;" wf) (e : Exa Z h a "java/lang/String") (f : Fld Z h a "java/lang/String" "coder" "B" (.int (0 : Int32))) (g : Fld Z h a "java/lang/String" "value" "[B" (.ref b)) (v : Arv Z h b kb .byte (4 : Int32) [(.int x0), (.int x1), (.int x2), (.int x3)] (.int 0)) :
    Con l (⟨"com/example/huron/huron/io/config/AuthenticatorKindNamedPinLaw", "at", "(Ljava/lang/String;I)C"⟩ : MethodName) method_5_code 2 (some .char) ({ frames := 4, cells := 0, slots := 0, locals := 53 } : Room) Z n0 #[(.ref a), (.int (2 : Int32))] h (fun v h' => v = some (.int (x2 &&& (255 : Int32))) ∧ h = h') := by
  refine Con.of_go (plainFor_of_name pn_2) (Ls := #[.val (.ref a), .val (.int (2 : Int32))]) (fun m => by first | (simp [entryFrame, mkF, argsToLocals, Value.category]; done) | rfl) ?_
  refine Go.iloadN (pc' := 1) d2_0 rfl rfl ?_
  refine Go.aloadN (pc' := 2) d2_1 rfl rfl rfl ?_
  refine Go.callV (cells' := 0) (slots' := 0) (pc' := 5) [] [(.int (2 : Int32))] e (ww hw 16 rfl) (ww hw 17 rfl) (fun s' hs' => notFace_of_selects (args := #[]) (mvT hs' (ww hw 19 rfl))) (ww hw 19 rfl) (ww hw 18 rfl) (ww hw 5 rfl) (ww hw 20 rfl) (by decide) (c_strLen4 l Z a0 hw h a b kb x0 x1 x2 x3 cp hcp scp e f g v) pd_5 rfl rfl rfl rfl rfl (nl rfl) (nl rfl) (nl rfl) (nl rfl) d2_2 rfl ?_
  rintro _ _ ⟨rfl, rfl⟩
  show Go _ _ _ _ _ _ _ _ _ _ _ _ 5 #[.val (.ref a), .val (.int (2 : Int32))] [(.int (4 : Int32)), (.int (2 : Int32))]
  refine Go.icmpNo (pc' := 8) d2_5 (XT.ii_ge_f (by decide)) rfl ?_
  refine Go.aloadN (pc' := 9) d2_8 rfl rfl rfl ?_
  refine Go.iloadN (pc' := 10) d2_9 rfl rfl ?_
  refine Go.callV (cells' := 0) (slots' := 0) (pc' := 13) [(.int (2 : Int32))] [] e (ww hw 29 rfl) (ww hw 30 rfl) (fun s' hs' => notFace_of_selects (args := #[]) (mvT hs' (ww hw 32 rfl))) (ww hw 32 rfl) (ww hw 31 rfl) (ww hw 5 rfl) (ww hw 33 rfl) (by decide) (c_charAt4_2 l Z a0 hw h a b kb x0 x1 x2 x3 cp wf hcp hwf scp sfm e f g v) pd_6 rfl rfl rfl rfl rfl (nl rfl) (nl rfl) (nl rfl) (nl rfl) d2_10 rfl ?_
  rintro _ _ ⟨rfl, rfl⟩
  show Go _ _ _ _ _ _ _ _ _ _ _ _ 13 #[.val (.ref a), .val (.int (2 : Int32))] [(.int (x2 &&& (255 : Int32)))]
  refine Go.goto (pc' := 18) d2_13 (by decide) (by decide) ?_
  exact Go.retN (t := .char) rfl (by simp) d2_18 ⟨(congrArg (fun z => some (Value.int z)) (show nar .char (x2 &&& (255 : Int32)) = (x2 &&& (255 : Int32)) from i2c_mask _)), rfl⟩ (by decide) (by decide)
theorem c_latAt4_3 (l : Launch) (Z : State) (a0 : Array Value) (hw : ∀ d ∈ tables_1, d.before a0 Z = true) {n0 : Nat} (h : Heap) (b : Addr) (kb : ClassId) (x0 : Int32) (x1 : Int32) (x2 : Int32) (x3 : Int32) (wf : Value) (hwf : wf.isRef = true) (sfm : Sta Z Z.heap "jdk/internal/util/Preconditions" "SIOOBE_FORMATTER" "Ljava/util/function/BiFunction;" wf) (v : Arv Z h b kb .byte (4 : Int32) [(.int x0), (.int x1), (.int x2), (.int x3)] (.int 0)) :
    Con l (⟨"java/lang/StringLatin1", "charAt", "([BI)C"⟩ : MethodName) jdk_43_method_2_code 2 (some .char) ({ frames := 2, cells := 0, slots := 0, locals := 27 } : Room) Z n0 #[(.ref b), (.int (3 : Int32))] h (fun v h' => v = some (.int (x3 &&& (255 : Int32))) ∧ h = h') := by
  refine Con.of_go (plainFor_of_name pn_3) (Ls := #[.val (.ref b), .val (.int (3 : Int32))]) (fun m => by first | (simp [entryFrame, mkF, argsToLocals, Value.category]; done) | rfl) ?_
  refine Go.iloadN (pc' := 1) d7_0 rfl rfl ?_
  refine Go.aloadN (pc' := 2) d7_1 rfl rfl rfl ?_
  refine Go.arraylength (pc' := 3) v d7_2 rfl ?_
  refine Go.callS (cells' := 0) (slots' := 0) (pc' := 6) [(.int (3 : Int32)), (.int (4 : Int32))] [] (ww hw 43 rfl) (ww hw 44 rfl) (ww hw 5 rfl) (ww hw 45 rfl) (by decide) (c_strCheck l Z a0 hw h (3 : Int32) (4 : Int32) wf (by decide) (by decide) hwf sfm) pd_2 rfl rfl rfl rfl rfl (nl rfl) (nl rfl) (nl rfl) (nl rfl) d7_3 rfl ?_
  rintro _ _ ⟨rfl, rfl⟩
  show Go _ _ _ _ _ _ _ _ _ _ _ _ 6 #[.val (.ref b), .val (.int (3 : Int32))] []
  refine Go.aloadN (pc' := 7) d7_6 rfl rfl rfl ?_
  refine Go.iloadN (pc' := 8) d7_7 rfl rfl ?_
  refine Go.baload (pc' := 9) (v := x3) v d7_8 (by decide) (by decide) rfl rfl ?_
  refine Go.sipush (pc' := 12) (v := (255 : Int32)) d7_9 rfl rfl ?_
  refine Go.iand (pc' := 13) d7_12 rfl ?_
  refine Go.i2c (pc' := 14) d7_13 rfl ?_
  rw [i2c_mask]
  exact Go.retN (t := .char) rfl (by simp) d7_14 ⟨(congrArg (fun z => some (Value.int z)) (show nar .char (x3 &&& (255 : Int32)) = (x3 &&& (255 : Int32)) from i2c_mask _)), rfl⟩ (by decide) (by decide)
theorem c_charAt4_3 (l : Launch) (Z : State) (a0 : Array Value) (hw : ∀ d ∈ tables_1, d.before a0 Z = true) {n0 : Nat} (h : Heap) (a : Addr) (b : Addr) (kb : ClassId) (x0 : Int32) (x1 : Int32) (x2 : Int32) (x3 : Int32) (cp : Int32) (wf : Value) (hcp : ¬ (cp = (0 : Int32))) (hwf : wf.isRef = true) (scp : Sta Z Z.heap "java/lang/String" "COMPACT_STRINGS" "Z" (.int cp)) (sfm : Sta Z Z.heap "jdk/internal/util/Preconditions" "SIOOBE_FORMATTER" "Ljava/util/function/BiFunction;" wf) (e : Exa Z h a "java/lang/String") (f : Fld Z h a "java/lang/String" "coder" "B" (.int (0 : Int32))) (g : Fld Z h a "java/lang/String" "value" "[B" (.ref b)) (v : Arv Z h b kb .byte (4 : Int32) [(.int x0), (.int x1), (.int x2), (.int x3)] (.int 0)) :
    Con l (⟨"java/lang/String", "charAt", "(I)C"⟩ : MethodName) jdk_42_method_56_code 2 (some .char) ({ frames := 3, cells := 0, slots := 0, locals := 40 } : Room) Z n0 #[(.ref a), (.int (3 : Int32))] h (fun v h' => v = some (.int (x3 &&& (255 : Int32))) ∧ h = h') := by
  refine Con.of_go (plainFor_of_name pn_0) (Ls := #[.val (.ref a), .val (.int (3 : Int32))]) (fun m => by first | (simp [entryFrame, mkF, argsToLocals, Value.category]; done) | rfl) ?_
  refine Go.aloadN (pc' := 1) d5_0 rfl rfl rfl ?_
  refine Go.callV (cells' := 0) (slots' := 0) (pc' := 4) [] [] e (ww hw 34 rfl) (ww hw 35 rfl) (fun s' hs' => notFace_of_selects (args := #[]) (mvT hs' (ww hw 37 rfl))) (ww hw 37 rfl) (ww hw 36 rfl) (ww hw 5 rfl) (ww hw 38 rfl) (by decide) (c_isLatin1 l Z a0 hw h a cp hcp scp f) pd_3 rfl rfl rfl rfl rfl (nl rfl) (nl rfl) (nl rfl) (nl rfl) d5_1 rfl ?_
  rintro _ _ ⟨rfl, rfl⟩
  show Go _ _ _ _ _ _ _ _ _ _ _ _ 4 #[.val (.ref a), .val (.int (3 : Int32))] [(.int (1 : Int32))]
  refine Go.ifNo (pc' := 7) d5_4 (XT.i0_eq_f (by decide)) rfl ?_
  refine Go.aloadN (pc' := 8) d5_7 rfl rfl rfl ?_
  refine Go.getfield (pc' := 11) (host := "") (Or.inl (ww hw 21 rfl)) Via.refl g d5_8 rfl ?_
  refine Go.iloadN (pc' := 12) d5_11 rfl rfl ?_
  refine Go.callS (cells' := 0) (slots' := 0) (pc' := 15) [(.ref b), (.int (3 : Int32))] [] (ww hw 39 rfl) (ww hw 40 rfl) (ww hw 41 rfl) (ww hw 42 rfl) (by decide) (c_latAt4_3 l Z a0 hw h b kb x0 x1 x2 x3 wf hwf sfm v) pd_4 rfl rfl rfl rfl rfl (nl rfl) (nl rfl) (nl rfl) (nl rfl) d5_12 rfl ?_
  rintro _ _ ⟨rfl, rfl⟩
  show Go _ _ _ _ _ _ _ _ _ _ _ _ 15 #[.val (.ref a), .val (.int (3 : Int32))] [(.int (x3 &&& (255 : Int32)))]
  exact Go.retN (t := .char) rfl (by simp) d5_15 ⟨(congrArg (fun z => some (Value.int z)) (show nar .char (x3 &&& (255 : Int32)) = (x3 &&& (255 : Int32)) from i2c_mask _)), rfl⟩ (by decide) (by decide)
theorem c_at4_3 (l : Launch) (Z : State) (a0 : Array Value) (hw : ∀ d ∈ tables_1, d.before a0 Z = true) {n0 : Nat} (h : Heap) (a : Addr) (b : Addr) (kb : ClassId) (x0 : Int32) (x1 : Int32) (x2 : Int32) (x3 : Int32) (cp : Int32) (wf : Value) (hcp : ¬ (cp = (0 : Int32))) (hwf : wf.isRef = true) (scp : Sta Z Z.heap "java/lang/String" "COMPACT_STRINGS" "Z" (.int cp)) (sfm : Sta Z Z.heap "jdk/internal/util/Preconditions" "SIOOBE_FORMATTER" "Ljava/util/function/BiFunction;" wf) (e : Exa Z h a "java/lang/String") (f : Fld Z h a "java/lang/String" "coder" "B" (.int (0 : Int32))) (g : Fld Z h a "java/lang/String" "value" "[B" (.ref b)) (v : Arv Z h b kb .byte (4 : Int32) [(.int x0), (.int x1), (.int x2), (.int x3)] (.int 0)) :
    Con l (⟨"com/example/huron/huron/io/config/AuthenticatorKindNamedPinLaw", "at", "(Ljava/lang/String;I)C"⟩ : MethodName) method_5_code 2 (some .char) ({ frames := 4, cells := 0, slots := 0, locals := 53 } : Room) Z n0 #[(.ref a), (.int (3 : Int32))] h (fun v h' => v = some (.int (x3 &&& (255 : Int32))) ∧ h = h') := by
  refine Con.of_go (plainFor_of_name pn_2) (Ls := #[.val (.ref a), .val (.int (3 : Int32))]) (fun m => by first | (simp [entryFrame, mkF, argsToLocals, Value.category]; done) | rfl) ?_
  refine Go.iloadN (pc' := 1) d2_0 rfl rfl ?_
  refine Go.aloadN (pc' := 2) d2_1 rfl rfl rfl ?_
  refine Go.callV (cells' := 0) (slots' := 0) (pc' := 5) [] [(.int (3 : Int32))] e (ww hw 16 rfl) (ww hw 17 rfl) (fun s' hs' => notFace_of_selects (args := #[]) (mvT hs' (ww hw 19 rfl))) (ww hw 19 rfl) (ww hw 18 rfl) (ww hw 5 rfl) (ww hw 20 rfl) (by decide) (c_strLen4 l Z a0 hw h a b kb x0 x1 x2 x3 cp hcp scp e f g v) pd_5 rfl rfl rfl rfl rfl (nl rfl) (nl rfl) (nl rfl) (nl rfl) d2_2 rfl ?_
  rintro _ _ ⟨rfl, rfl⟩
  show Go _ _ _ _ _ _ _ _ _ _ _ _ 5 #[.val (.ref a), .val (.int (3 : Int32))] [(.int (4 : Int32)), (.int (3 : Int32))]
  refine Go.icmpNo (pc' := 8) d2_5 (XT.ii_ge_f (by decide)) rfl ?_
  refine Go.aloadN (pc' := 9) d2_8 rfl rfl rfl ?_
  refine Go.iloadN (pc' := 10) d2_9 rfl rfl ?_
  refine Go.callV (cells' := 0) (slots' := 0) (pc' := 13) [(.int (3 : Int32))] [] e (ww hw 29 rfl) (ww hw 30 rfl) (fun s' hs' => notFace_of_selects (args := #[]) (mvT hs' (ww hw 32 rfl))) (ww hw 32 rfl) (ww hw 31 rfl) (ww hw 5 rfl) (ww hw 33 rfl) (by decide) (c_charAt4_3 l Z a0 hw h a b kb x0 x1 x2 x3 cp wf hcp hwf scp sfm e f g v) pd_6 rfl rfl rfl rfl rfl (nl rfl) (nl rfl) (nl rfl) (nl rfl) d2_10 rfl ?_
  rintro _ _ ⟨rfl, rfl⟩
  show Go _ _ _ _ _ _ _ _ _ _ _ _ 13 #[.val (.ref a), .val (.int (3 : Int32))] [(.int (x3 &&& (255 : Int32)))]
  refine Go.goto (pc' := 18) d2_13 (by decide) (by decide) ?_
  exact Go.retN (t := .char) rfl (by simp) d2_18 ⟨(congrArg (fun z => some (Value.int z)) (show nar .char (x3 &&& (255 : Int32)) = (x3 &&& (255 : Int32)) from i2c_mask _)), rfl⟩ (by decide) (by decide)
theorem d2_16 : decode method_5_code 16 = .ok (.bipush 120, 2) := by decide +kernel
theorem c_at4_4 (l : Launch) (Z : State) (a0 : Array Value) (hw : ∀ d ∈ tables_1, d.before a0 Z = true) {n0 : Nat} (h : Heap) (a : Addr) (b : Addr) (kb : ClassId) (x0 : Int32) (x1 : Int32) (x2 : Int32) (x3 : Int32) (cp : Int32) (wf : Value) (hcp : ¬ (cp = (0 : Int32))) (hwf : wf.isRef = true) (scp : Sta Z Z.heap "java/lang/String" "COMPACT_STRINGS" "Z" (.int cp)) (sfm : Sta Z Z.heap "jdk/internal/util/Preconditions" "SIOOBE_FORMATTER" "Ljava/util/function/BiFunction;" wf) (e : Exa Z h a "java/lang/String") (f : Fld Z h a "java/lang/String" "coder" "B" (.int (0 : Int32))) (g : Fld Z h a "java/lang/String" "value" "[B" (.ref b)) (v : Arv Z h b kb .byte (4 : Int32) [(.int x0), (.int x1), (.int x2), (.int x3)] (.int 0)) :
    Con l (⟨"com/example/huron/huron/io/config/AuthenticatorKindNamedPinLaw", "at", "(Ljava/lang/String;I)C"⟩ : MethodName) method_5_code 2 (some .char) ({ frames := 2, cells := 0, slots := 0, locals := 26 } : Room) Z n0 #[(.ref a), (.int (4 : Int32))] h (fun v h' => v = some (.int (120 : Int32)) ∧ h = h') := by
  refine Con.of_go (plainFor_of_name pn_2) (Ls := #[.val (.ref a), .val (.int (4 : Int32))]) (fun m => by first | (simp [entryFrame, mkF, argsToLocals, Value.category]; done) | rfl) ?_
  refine Go.iloadN (pc' := 1) d2_0 rfl rfl ?_
  refine Go.aloadN (pc' := 2) d2_1 rfl rfl rfl ?_
  refine Go.callV (cells' := 0) (slots' := 0) (pc' := 5) [] [(.int (4 : Int32))] e (ww hw 16 rfl) (ww hw 17 rfl) (fun s' hs' => notFace_of_selects (args := #[]) (mvT hs' (ww hw 19 rfl))) (ww hw 19 rfl) (ww hw 18 rfl) (ww hw 5 rfl) (ww hw 20 rfl) (by decide) (c_strLen4 l Z a0 hw h a b kb x0 x1 x2 x3 cp hcp scp e f g v) pd_5 rfl rfl rfl rfl rfl (nl rfl) (nl rfl) (nl rfl) (nl rfl) d2_2 rfl ?_
  rintro _ _ ⟨rfl, rfl⟩
  show Go _ _ _ _ _ _ _ _ _ _ _ _ 5 #[.val (.ref a), .val (.int (4 : Int32))] [(.int (4 : Int32)), (.int (4 : Int32))]
  refine Go.icmpYes (pc' := 16) d2_5 (XT.ii_ge_t (by decide)) (by decide) (by decide) ?_
  refine Go.bipush (pc' := 18) (v := (120 : Int32)) d2_16 rfl rfl ?_
  exact Go.retN (t := .char) rfl (by simp) d2_18 ⟨rfl, rfl⟩ (by decide) (by decide)
theorem c_at4_5 (l : Launch) (Z : State) (a0 : Array Value) (hw : ∀ d ∈ tables_1, d.before a0 Z = true) {n0 : Nat} (h : Heap) (a : Addr) (b : Addr) (kb : ClassId) (x0 : Int32) (x1 : Int32) (x2 : Int32) (x3 : Int32) (cp : Int32) (wf : Value) (hcp : ¬ (cp = (0 : Int32))) (hwf : wf.isRef = true) (scp : Sta Z Z.heap "java/lang/String" "COMPACT_STRINGS" "Z" (.int cp)) (sfm : Sta Z Z.heap "jdk/internal/util/Preconditions" "SIOOBE_FORMATTER" "Ljava/util/function/BiFunction;" wf) (e : Exa Z h a "java/lang/String") (f : Fld Z h a "java/lang/String" "coder" "B" (.int (0 : Int32))) (g : Fld Z h a "java/lang/String" "value" "[B" (.ref b)) (v : Arv Z h b kb .byte (4 : Int32) [(.int x0), (.int x1), (.int x2), (.int x3)] (.int 0)) :
    Con l (⟨"com/example/huron/huron/io/config/AuthenticatorKindNamedPinLaw", "at", "(Ljava/lang/String;I)C"⟩ : MethodName) method_5_code 2 (some .char) ({ frames := 2, cells := 0, slots := 0, locals := 26 } : Room) Z n0 #[(.ref a), (.int (5 : Int32))] h (fun v h' => v = some (.int (120 : Int32)) ∧ h = h') := by
  refine Con.of_go (plainFor_of_name pn_2) (Ls := #[.val (.ref a), .val (.int (5 : Int32))]) (fun m => by first | (simp [entryFrame, mkF, argsToLocals, Value.category]; done) | rfl) ?_
  refine Go.iloadN (pc' := 1) d2_0 rfl rfl ?_
  refine Go.aloadN (pc' := 2) d2_1 rfl rfl rfl ?_
  refine Go.callV (cells' := 0) (slots' := 0) (pc' := 5) [] [(.int (5 : Int32))] e (ww hw 16 rfl) (ww hw 17 rfl) (fun s' hs' => notFace_of_selects (args := #[]) (mvT hs' (ww hw 19 rfl))) (ww hw 19 rfl) (ww hw 18 rfl) (ww hw 5 rfl) (ww hw 20 rfl) (by decide) (c_strLen4 l Z a0 hw h a b kb x0 x1 x2 x3 cp hcp scp e f g v) pd_5 rfl rfl rfl rfl rfl (nl rfl) (nl rfl) (nl rfl) (nl rfl) d2_2 rfl ?_
  rintro _ _ ⟨rfl, rfl⟩
  show Go _ _ _ _ _ _ _ _ _ _ _ _ 5 #[.val (.ref a), .val (.int (5 : Int32))] [(.int (4 : Int32)), (.int (5 : Int32))]
  refine Go.icmpYes (pc' := 16) d2_5 (XT.ii_ge_t (by decide)) (by decide) (by decide) ?_
  refine Go.bipush (pc' := 18) (v := (120 : Int32)) d2_16 rfl rfl ?_
  exact Go.retN (t := .char) rfl (by simp) d2_18 ⟨rfl, rfl⟩ (by decide) (by decide)
theorem c_latAt5_0 (l : Launch) (Z : State) (a0 : Array Value) (hw : ∀ d ∈ tables_1, d.before a0 Z = true) {n0 : Nat} (h : Heap) (b : Addr) (kb : ClassId) (x0 : Int32) (x1 : Int32) (x2 : Int32) (x3 : Int32) (x4 : Int32) (wf : Value) (hwf : wf.isRef = true) (sfm : Sta Z Z.heap "jdk/internal/util/Preconditions" "SIOOBE_FORMATTER" "Ljava/util/function/BiFunction;" wf) (v : Arv Z h b kb .byte (5 : Int32) [(.int x0), (.int x1), (.int x2), (.int x3), (.int x4)] (.int 0)) :
    Con l (⟨"java/lang/StringLatin1", "charAt", "([BI)C"⟩ : MethodName) jdk_43_method_2_code 2 (some .char) ({ frames := 2, cells := 0, slots := 0, locals := 27 } : Room) Z n0 #[(.ref b), (.int (0 : Int32))] h (fun v h' => v = some (.int (x0 &&& (255 : Int32))) ∧ h = h') := by
  refine Con.of_go (plainFor_of_name pn_3) (Ls := #[.val (.ref b), .val (.int (0 : Int32))]) (fun m => by first | (simp [entryFrame, mkF, argsToLocals, Value.category]; done) | rfl) ?_
  refine Go.iloadN (pc' := 1) d7_0 rfl rfl ?_
  refine Go.aloadN (pc' := 2) d7_1 rfl rfl rfl ?_
  refine Go.arraylength (pc' := 3) v d7_2 rfl ?_
  refine Go.callS (cells' := 0) (slots' := 0) (pc' := 6) [(.int (0 : Int32)), (.int (5 : Int32))] [] (ww hw 43 rfl) (ww hw 44 rfl) (ww hw 5 rfl) (ww hw 45 rfl) (by decide) (c_strCheck l Z a0 hw h (0 : Int32) (5 : Int32) wf (by decide) (by decide) hwf sfm) pd_2 rfl rfl rfl rfl rfl (nl rfl) (nl rfl) (nl rfl) (nl rfl) d7_3 rfl ?_
  rintro _ _ ⟨rfl, rfl⟩
  show Go _ _ _ _ _ _ _ _ _ _ _ _ 6 #[.val (.ref b), .val (.int (0 : Int32))] []
  refine Go.aloadN (pc' := 7) d7_6 rfl rfl rfl ?_
  refine Go.iloadN (pc' := 8) d7_7 rfl rfl ?_
  refine Go.baload (pc' := 9) (v := x0) v d7_8 (by decide) (by decide) rfl rfl ?_
  refine Go.sipush (pc' := 12) (v := (255 : Int32)) d7_9 rfl rfl ?_
  refine Go.iand (pc' := 13) d7_12 rfl ?_
  refine Go.i2c (pc' := 14) d7_13 rfl ?_
  rw [i2c_mask]
  exact Go.retN (t := .char) rfl (by simp) d7_14 ⟨(congrArg (fun z => some (Value.int z)) (show nar .char (x0 &&& (255 : Int32)) = (x0 &&& (255 : Int32)) from i2c_mask _)), rfl⟩ (by decide) (by decide)
theorem c_charAt5_0 (l : Launch) (Z : State) (a0 : Array Value) (hw : ∀ d ∈ tables_1, d.before a0 Z = true) {n0 : Nat} (h : Heap) (a : Addr) (b : Addr) (kb : ClassId) (x0 : Int32) (x1 : Int32) (x2 : Int32) (x3 : Int32) (x4 : Int32) (cp : Int32) (wf : Value) (hcp : ¬ (cp = (0 : Int32))) (hwf : wf.isRef = true) (scp : Sta Z Z.heap "java/lang/String" "COMPACT_STRINGS" "Z" (.int cp)) (sfm : Sta Z Z.heap "jdk/internal/util/Preconditions" "SIOOBE_FORMATTER" "Ljava/util/function/BiFunction;" wf) (e : Exa Z h a "java/lang/String") (f : Fld Z h a "java/lang/String" "coder" "B" (.int (0 : Int32))) (g : Fld Z h a "java/lang/String" "value" "[B" (.ref b)) (v : Arv Z h b kb .byte (5 : Int32) [(.int x0), (.int x1), (.int x2), (.int x3), (.int x4)] (.int 0)) :
    Con l (⟨"java/lang/String", "charAt", "(I)C"⟩ : MethodName) jdk_42_method_56_code 2 (some .char) ({ frames := 3, cells := 0, slots := 0, locals := 40 } : Room) Z n0 #[(.ref a), (.int (0 : Int32))] h (fun v h' => v = some (.int (x0 &&& (255 : Int32))) ∧ h = h') := by
  refine Con.of_go (plainFor_of_name pn_0) (Ls := #[.val (.ref a), .val (.int (0 : Int32))]) (fun m => by first | (simp [entryFrame, mkF, argsToLocals, Value.category]; done) | rfl) ?_
  refine Go.aloadN (pc' := 1) d5_0 rfl rfl rfl ?_
  refine Go.callV (cells' := 0) (slots' := 0) (pc' := 4) [] [] e (ww hw 34 rfl) (ww hw 35 rfl) (fun s' hs' => notFace_of_selects (args := #[]) (mvT hs' (ww hw 37 rfl))) (ww hw 37 rfl) (ww hw 36 rfl) (ww hw 5 rfl) (ww hw 38 rfl) (by decide) (c_isLatin1 l Z a0 hw h a cp hcp scp f) pd_3 rfl rfl rfl rfl rfl (nl rfl) (nl rfl) (nl rfl) (nl rfl) d5_1 rfl ?_
  rintro _ _ ⟨rfl, rfl⟩
  show Go _ _ _ _ _ _ _ _ _ _ _ _ 4 #[.val (.ref a), .val (.int (0 : Int32))] [(.int (1 : Int32))]
  refine Go.ifNo (pc' := 7) d5_4 (XT.i0_eq_f (by decide)) rfl ?_
  refine Go.aloadN (pc' := 8) d5_7 rfl rfl rfl ?_
  refine Go.getfield (pc' := 11) (host := "") (Or.inl (ww hw 21 rfl)) Via.refl g d5_8 rfl ?_
  refine Go.iloadN (pc' := 12) d5_11 rfl rfl ?_
  refine Go.callS (cells' := 0) (slots' := 0) (pc' := 15) [(.ref b), (.int (0 : Int32))] [] (ww hw 39 rfl) (ww hw 40 rfl) (ww hw 41 rfl) (ww hw 42 rfl) (by decide) (c_latAt5_0 l Z a0 hw h b kb x0 x1 x2 x3 x4 wf hwf sfm v) pd_4 rfl rfl rfl rfl rfl (nl rfl) (nl rfl) (nl rfl) (nl rfl) d5_12 rfl ?_
  rintro _ _ ⟨rfl, rfl⟩
  show Go _ _ _ _ _ _ _ _ _ _ _ _ 15 #[.val (.ref a), .val (.int (0 : Int32))] [(.int (x0 &&& (255 : Int32)))]
  exact Go.retN (t := .char) rfl (by simp) d5_15 ⟨(congrArg (fun z => some (Value.int z)) (show nar .char (x0 &&& (255 : Int32)) = (x0 &&& (255 : Int32)) from i2c_mask _)), rfl⟩ (by decide) (by decide)
theorem c_at5_0 (l : Launch) (Z : State) (a0 : Array Value) (hw : ∀ d ∈ tables_1, d.before a0 Z = true) {n0 : Nat} (h : Heap) (a : Addr) (b : Addr) (kb : ClassId) (x0 : Int32) (x1 : Int32) (x2 : Int32) (x3 : Int32) (x4 : Int32) (cp : Int32) (wf : Value) (hcp : ¬ (cp = (0 : Int32))) (hwf : wf.isRef = true) (scp : Sta Z Z.heap "java/lang/String" "COMPACT_STRINGS" "Z" (.int cp)) (sfm : Sta Z Z.heap "jdk/internal/util/Preconditions" "SIOOBE_FORMATTER" "Ljava/util/function/BiFunction;" wf) (e : Exa Z h a "java/lang/String") (f : Fld Z h a "java/lang/String" "coder" "B" (.int (0 : Int32))) (g : Fld Z h a "java/lang/String" "value" "[B" (.ref b)) (v : Arv Z h b kb .byte (5 : Int32) [(.int x0), (.int x1), (.int x2), (.int x3), (.int x4)] (.int 0)) :
    Con l (⟨"com/example/huron/huron/io/config/AuthenticatorKindNamedPinLaw", "at", "(Ljava/lang/String;I)C"⟩ : MethodName) method_5_code 2 (some .char) ({ frames := 4, cells := 0, slots := 0, locals := 53 } : Room) Z n0 #[(.ref a), (.int (0 : Int32))] h (fun v h' => v = some (.int (x0 &&& (255 : Int32))) ∧ h = h') := by
  refine Con.of_go (plainFor_of_name pn_2) (Ls := #[.val (.ref a), .val (.int (0 : Int32))]) (fun m => by first | (simp [entryFrame, mkF, argsToLocals, Value.category]; done) | rfl) ?_
  refine Go.iloadN (pc' := 1) d2_0 rfl rfl ?_
  refine Go.aloadN (pc' := 2) d2_1 rfl rfl rfl ?_
  refine Go.callV (cells' := 0) (slots' := 0) (pc' := 5) [] [(.int (0 : Int32))] e (ww hw 16 rfl) (ww hw 17 rfl) (fun s' hs' => notFace_of_selects (args := #[]) (mvT hs' (ww hw 19 rfl))) (ww hw 19 rfl) (ww hw 18 rfl) (ww hw 5 rfl) (ww hw 20 rfl) (by decide) (c_strLen5 l Z a0 hw h a b kb x0 x1 x2 x3 x4 cp hcp scp e f g v) pd_5 rfl rfl rfl rfl rfl (nl rfl) (nl rfl) (nl rfl) (nl rfl) d2_2 rfl ?_
  rintro _ _ ⟨rfl, rfl⟩
  show Go _ _ _ _ _ _ _ _ _ _ _ _ 5 #[.val (.ref a), .val (.int (0 : Int32))] [(.int (5 : Int32)), (.int (0 : Int32))]
  refine Go.icmpNo (pc' := 8) d2_5 (XT.ii_ge_f (by decide)) rfl ?_
  refine Go.aloadN (pc' := 9) d2_8 rfl rfl rfl ?_
  refine Go.iloadN (pc' := 10) d2_9 rfl rfl ?_
  refine Go.callV (cells' := 0) (slots' := 0) (pc' := 13) [(.int (0 : Int32))] [] e (ww hw 29 rfl) (ww hw 30 rfl) (fun s' hs' => notFace_of_selects (args := #[]) (mvT hs' (ww hw 32 rfl))) (ww hw 32 rfl) (ww hw 31 rfl) (ww hw 5 rfl) (ww hw 33 rfl) (by decide) (c_charAt5_0 l Z a0 hw h a b kb x0 x1 x2 x3 x4 cp wf hcp hwf scp sfm e f g v) pd_6 rfl rfl rfl rfl rfl (nl rfl) (nl rfl) (nl rfl) (nl rfl) d2_10 rfl ?_
  rintro _ _ ⟨rfl, rfl⟩
  show Go _ _ _ _ _ _ _ _ _ _ _ _ 13 #[.val (.ref a), .val (.int (0 : Int32))] [(.int (x0 &&& (255 : Int32)))]
  refine Go.goto (pc' := 18) d2_13 (by decide) (by decide) ?_
  exact Go.retN (t := .char) rfl (by simp) d2_18 ⟨(congrArg (fun z => some (Value.int z)) (show nar .char (x0 &&& (255 : Int32)) = (x0 &&& (255 : Int32)) from i2c_mask _)), rfl⟩ (by decide) (by decide)
theorem c_latAt5_1 (l : Launch) (Z : State) (a0 : Array Value) (hw : ∀ d ∈ tables_1, d.before a0 Z = true) {n0 : Nat} (h : Heap) (b : Addr) (kb : ClassId) (x0 : Int32) (x1 : Int32) (x2 : Int32) (x3 : Int32) (x4 : Int32) (wf : Value) (hwf : wf.isRef = true) (sfm : Sta Z Z.heap "jdk/internal/util/Preconditions" "SIOOBE_FORMATTER" "Ljava/util/function/BiFunction;" wf) (v : Arv Z h b kb .byte (5 : Int32) [(.int x0), (.int x1), (.int x2), (.int x3), (.int x4)] (.int 0)) :
    Con l (⟨"java/lang/StringLatin1", "charAt", "([BI)C"⟩ : MethodName) jdk_43_method_2_code 2 (some .char) ({ frames := 2, cells := 0, slots := 0, locals := 27 } : Room) Z n0 #[(.ref b), (.int (1 : Int32))] h (fun v h' => v = some (.int (x1 &&& (255 : Int32))) ∧ h = h') := by
  refine Con.of_go (plainFor_of_name pn_3) (Ls := #[.val (.ref b), .val (.int (1 : Int32))]) (fun m => by first | (simp [entryFrame, mkF, argsToLocals, Value.category]; done) | rfl) ?_
  refine Go.iloadN (pc' := 1) d7_0 rfl rfl ?_
  refine Go.aloadN (pc' := 2) d7_1 rfl rfl rfl ?_
  refine Go.arraylength (pc' := 3) v d7_2 rfl ?_
  refine Go.callS (cells' := 0) (slots' := 0) (pc' := 6) [(.int (1 : Int32)), (.int (5 : Int32))] [] (ww hw 43 rfl) (ww hw 44 rfl) (ww hw 5 rfl) (ww hw 45 rfl) (by decide) (c_strCheck l Z a0 hw h (1 : Int32) (5 : Int32) wf (by decide) (by decide) hwf sfm) pd_2 rfl rfl rfl rfl rfl (nl rfl) (nl rfl) (nl rfl) (nl rfl) d7_3 rfl ?_
  rintro _ _ ⟨rfl, rfl⟩
  show Go _ _ _ _ _ _ _ _ _ _ _ _ 6 #[.val (.ref b), .val (.int (1 : Int32))] []
  refine Go.aloadN (pc' := 7) d7_6 rfl rfl rfl ?_
  refine Go.iloadN (pc' := 8) d7_7 rfl rfl ?_
  refine Go.baload (pc' := 9) (v := x1) v d7_8 (by decide) (by decide) rfl rfl ?_
  refine Go.sipush (pc' := 12) (v := (255 : Int32)) d7_9 rfl rfl ?_
  refine Go.iand (pc' := 13) d7_12 rfl ?_
  refine Go.i2c (pc' := 14) d7_13 rfl ?_
  rw [i2c_mask]
  exact Go.retN (t := .char) rfl (by simp) d7_14 ⟨(congrArg (fun z => some (Value.int z)) (show nar .char (x1 &&& (255 : Int32)) = (x1 &&& (255 : Int32)) from i2c_mask _)), rfl⟩ (by decide) (by decide)
theorem c_charAt5_1 (l : Launch) (Z : State) (a0 : Array Value) (hw : ∀ d ∈ tables_1, d.before a0 Z = true) {n0 : Nat} (h : Heap) (a : Addr) (b : Addr) (kb : ClassId) (x0 : Int32) (x1 : Int32) (x2 : Int32) (x3 : Int32) (x4 : Int32) (cp : Int32) (wf : Value) (hcp : ¬ (cp = (0 : Int32))) (hwf : wf.isRef = true) (scp : Sta Z Z.heap "java/lang/String" "COMPACT_STRINGS" "Z" (.int cp)) (sfm : Sta Z Z.heap "jdk/internal/util/Preconditions" "SIOOBE_FORMATTER" "Ljava/util/function/BiFunction;" wf) (e : Exa Z h a "java/lang/String") (f : Fld Z h a "java/lang/String" "coder" "B" (.int (0 : Int32))) (g : Fld Z h a "java/lang/String" "value" "[B" (.ref b)) (v : Arv Z h b kb .byte (5 : Int32) [(.int x0), (.int x1), (.int x2), (.int x3), (.int x4)] (.int 0)) :
    Con l (⟨"java/lang/String", "charAt", "(I)C"⟩ : MethodName) jdk_42_method_56_code 2 (some .char) ({ frames := 3, cells := 0, slots := 0, locals := 40 } : Room) Z n0 #[(.ref a), (.int (1 : Int32))] h (fun v h' => v = some (.int (x1 &&& (255 : Int32))) ∧ h = h') := by
  refine Con.of_go (plainFor_of_name pn_0) (Ls := #[.val (.ref a), .val (.int (1 : Int32))]) (fun m => by first | (simp [entryFrame, mkF, argsToLocals, Value.category]; done) | rfl) ?_
  refine Go.aloadN (pc' := 1) d5_0 rfl rfl rfl ?_
  refine Go.callV (cells' := 0) (slots' := 0) (pc' := 4) [] [] e (ww hw 34 rfl) (ww hw 35 rfl) (fun s' hs' => notFace_of_selects (args := #[]) (mvT hs' (ww hw 37 rfl))) (ww hw 37 rfl) (ww hw 36 rfl) (ww hw 5 rfl) (ww hw 38 rfl) (by decide) (c_isLatin1 l Z a0 hw h a cp hcp scp f) pd_3 rfl rfl rfl rfl rfl (nl rfl) (nl rfl) (nl rfl) (nl rfl) d5_1 rfl ?_
  rintro _ _ ⟨rfl, rfl⟩
  show Go _ _ _ _ _ _ _ _ _ _ _ _ 4 #[.val (.ref a), .val (.int (1 : Int32))] [(.int (1 : Int32))]
  refine Go.ifNo (pc' := 7) d5_4 (XT.i0_eq_f (by decide)) rfl ?_
  refine Go.aloadN (pc' := 8) d5_7 rfl rfl rfl ?_
  refine Go.getfield (pc' := 11) (host := "") (Or.inl (ww hw 21 rfl)) Via.refl g d5_8 rfl ?_
  refine Go.iloadN (pc' := 12) d5_11 rfl rfl ?_
  refine Go.callS (cells' := 0) (slots' := 0) (pc' := 15) [(.ref b), (.int (1 : Int32))] [] (ww hw 39 rfl) (ww hw 40 rfl) (ww hw 41 rfl) (ww hw 42 rfl) (by decide) (c_latAt5_1 l Z a0 hw h b kb x0 x1 x2 x3 x4 wf hwf sfm v) pd_4 rfl rfl rfl rfl rfl (nl rfl) (nl rfl) (nl rfl) (nl rfl) d5_12 rfl ?_
  rintro _ _ ⟨rfl, rfl⟩
  show Go _ _ _ _ _ _ _ _ _ _ _ _ 15 #[.val (.ref a), .val (.int (1 : Int32))] [(.int (x1 &&& (255 : Int32)))]
  exact Go.retN (t := .char) rfl (by simp) d5_15 ⟨(congrArg (fun z => some (Value.int z)) (show nar .char (x1 &&& (255 : Int32)) = (x1 &&& (255 : Int32)) from i2c_mask _)), rfl⟩ (by decide) (by decide)
theorem c_at5_1 (l : Launch) (Z : State) (a0 : Array Value) (hw : ∀ d ∈ tables_1, d.before a0 Z = true) {n0 : Nat} (h : Heap) (a : Addr) (b : Addr) (kb : ClassId) (x0 : Int32) (x1 : Int32) (x2 : Int32) (x3 : Int32) (x4 : Int32) (cp : Int32) (wf : Value) (hcp : ¬ (cp = (0 : Int32))) (hwf : wf.isRef = true) (scp : Sta Z Z.heap "java/lang/String" "COMPACT_STRINGS" "Z" (.int cp)) (sfm : Sta Z Z.heap "jdk/internal/util/Preconditions" "SIOOBE_FORMATTER" "Ljava/util/function/BiFunction;" wf) (e : Exa Z h a "java/lang/String") (f : Fld Z h a "java/lang/String" "coder" "B" (.int (0 : Int32))) (g : Fld Z h a "java/lang/String" "value" "[B" (.ref b)) (v : Arv Z h b kb .byte (5 : Int32) [(.int x0), (.int x1), (.int x2), (.int x3), (.int x4)] (.int 0)) :
    Con l (⟨"com/example/huron/huron/io/config/AuthenticatorKindNamedPinLaw", "at", "(Ljava/lang/String;I)C"⟩ : MethodName) method_5_code 2 (some .char) ({ frames := 4, cells := 0, slots := 0, locals := 53 } : Room) Z n0 #[(.ref a), (.int (1 : Int32))] h (fun v h' => v = some (.int (x1 &&& (255 : Int32))) ∧ h = h') := by
  refine Con.of_go (plainFor_of_name pn_2) (Ls := #[.val (.ref a), .val (.int (1 : Int32))]) (fun m => by first | (simp [entryFrame, mkF, argsToLocals, Value.category]; done) | rfl) ?_
  refine Go.iloadN (pc' := 1) d2_0 rfl rfl ?_
  refine Go.aloadN (pc' := 2) d2_1 rfl rfl rfl ?_
  refine Go.callV (cells' := 0) (slots' := 0) (pc' := 5) [] [(.int (1 : Int32))] e (ww hw 16 rfl) (ww hw 17 rfl) (fun s' hs' => notFace_of_selects (args := #[]) (mvT hs' (ww hw 19 rfl))) (ww hw 19 rfl) (ww hw 18 rfl) (ww hw 5 rfl) (ww hw 20 rfl) (by decide) (c_strLen5 l Z a0 hw h a b kb x0 x1 x2 x3 x4 cp hcp scp e f g v) pd_5 rfl rfl rfl rfl rfl (nl rfl) (nl rfl) (nl rfl) (nl rfl) d2_2 rfl ?_
  rintro _ _ ⟨rfl, rfl⟩
  show Go _ _ _ _ _ _ _ _ _ _ _ _ 5 #[.val (.ref a), .val (.int (1 : Int32))] [(.int (5 : Int32)), (.int (1 : Int32))]
  refine Go.icmpNo (pc' := 8) d2_5 (XT.ii_ge_f (by decide)) rfl ?_
  refine Go.aloadN (pc' := 9) d2_8 rfl rfl rfl ?_
  refine Go.iloadN (pc' := 10) d2_9 rfl rfl ?_
  refine Go.callV (cells' := 0) (slots' := 0) (pc' := 13) [(.int (1 : Int32))] [] e (ww hw 29 rfl) (ww hw 30 rfl) (fun s' hs' => notFace_of_selects (args := #[]) (mvT hs' (ww hw 32 rfl))) (ww hw 32 rfl) (ww hw 31 rfl) (ww hw 5 rfl) (ww hw 33 rfl) (by decide) (c_charAt5_1 l Z a0 hw h a b kb x0 x1 x2 x3 x4 cp wf hcp hwf scp sfm e f g v) pd_6 rfl rfl rfl rfl rfl (nl rfl) (nl rfl) (nl rfl) (nl rfl) d2_10 rfl ?_
  rintro _ _ ⟨rfl, rfl⟩
  show Go _ _ _ _ _ _ _ _ _ _ _ _ 13 #[.val (.ref a), .val (.int (1 : Int32))] [(.int (x1 &&& (255 : Int32)))]
  refine Go.goto (pc' := 18) d2_13 (by decide) (by decide) ?_
  exact Go.retN (t := .char) rfl (by simp) d2_18 ⟨(congrArg (fun z => some (Value.int z)) (show nar .char (x1 &&& (255 : Int32)) = (x1 &&& (255 : Int32)) from i2c_mask _)), rfl⟩ (by decide) (by decide)
theorem c_latAt5_2 (l : Launch) (Z : State) (a0 : Array Value) (hw : ∀ d ∈ tables_1, d.before a0 Z = true) {n0 : Nat} (h : Heap) (b : Addr) (kb : ClassId) (x0 : Int32) (x1 : Int32) (x2 : Int32) (x3 : Int32) (x4 : Int32) (wf : Value) (hwf : wf.isRef = true) (sfm : Sta Z Z.heap "jdk/internal/util/Preconditions" "SIOOBE_FORMATTER" "Ljava/util/function/BiFunction;" wf) (v : Arv Z h b kb .byte (5 : Int32) [(.int x0), (.int x1), (.int x2), (.int x3), (.int x4)] (.int 0)) :
    Con l (⟨"java/lang/StringLatin1", "charAt", "([BI)C"⟩ : MethodName) jdk_43_method_2_code 2 (some .char) ({ frames := 2, cells := 0, slots := 0, locals := 27 } : Room) Z n0 #[(.ref b), (.int (2 : Int32))] h (fun v h' => v = some (.int (x2 &&& (255 : Int32))) ∧ h = h') := by
  refine Con.of_go (plainFor_of_name pn_3) (Ls := #[.val (.ref b), .val (.int (2 : Int32))]) (fun m => by first | (simp [entryFrame, mkF, argsToLocals, Value.category]; done) | rfl) ?_
  refine Go.iloadN (pc' := 1) d7_0 rfl rfl ?_
  refine Go.aloadN (pc' := 2) d7_1 rfl rfl rfl ?_
  refine Go.arraylength (pc' := 3) v d7_2 rfl ?_
  refine Go.callS (cells' := 0) (slots' := 0) (pc' := 6) [(.int (2 : Int32)), (.int (5 : Int32))] [] (ww hw 43 rfl) (ww hw 44 rfl) (ww hw 5 rfl) (ww hw 45 rfl) (by decide) (c_strCheck l Z a0 hw h (2 : Int32) (5 : Int32) wf (by decide) (by decide) hwf sfm) pd_2 rfl rfl rfl rfl rfl (nl rfl) (nl rfl) (nl rfl) (nl rfl) d7_3 rfl ?_
  rintro _ _ ⟨rfl, rfl⟩
  show Go _ _ _ _ _ _ _ _ _ _ _ _ 6 #[.val (.ref b), .val (.int (2 : Int32))] []
  refine Go.aloadN (pc' := 7) d7_6 rfl rfl rfl ?_
  refine Go.iloadN (pc' := 8) d7_7 rfl rfl ?_
  refine Go.baload (pc' := 9) (v := x2) v d7_8 (by decide) (by decide) rfl rfl ?_
  refine Go.sipush (pc' := 12) (v := (255 : Int32)) d7_9 rfl rfl ?_
  refine Go.iand (pc' := 13) d7_12 rfl ?_
  refine Go.i2c (pc' := 14) d7_13 rfl ?_
  rw [i2c_mask]
  exact Go.retN (t := .char) rfl (by simp) d7_14 ⟨(congrArg (fun z => some (Value.int z)) (show nar .char (x2 &&& (255 : Int32)) = (x2 &&& (255 : Int32)) from i2c_mask _)), rfl⟩ (by decide) (by decide)
theorem c_charAt5_2 (l : Launch) (Z : State) (a0 : Array Value) (hw : ∀ d ∈ tables_1, d.before a0 Z = true) {n0 : Nat} (h : Heap) (a : Addr) (b : Addr) (kb : ClassId) (x0 : Int32) (x1 : Int32) (x2 : Int32) (x3 : Int32) (x4 : Int32) (cp : Int32) (wf : Value) (hcp : ¬ (cp = (0 : Int32))) (hwf : wf.isRef = true) (scp : Sta Z Z.heap "java/lang/String" "COMPACT_STRINGS" "Z" (.int cp)) (sfm : Sta Z Z.heap "jdk/internal/util/Preconditions" "SIOOBE_FORMATTER" "Ljava/util/function/BiFunction;" wf) (e : Exa Z h a "java/lang/String") (f : Fld Z h a "java/lang/String" "coder" "B" (.int (0 : Int32))) (g : Fld Z h a "java/lang/String" "value" "[B" (.ref b)) (v : Arv Z h b kb .byte (5 : Int32) [(.int x0), (.int x1), (.int x2), (.int x3), (.int x4)] (.int 0)) :
    Con l (⟨"java/lang/String", "charAt", "(I)C"⟩ : MethodName) jdk_42_method_56_code 2 (some .char) ({ frames := 3, cells := 0, slots := 0, locals := 40 } : Room) Z n0 #[(.ref a), (.int (2 : Int32))] h (fun v h' => v = some (.int (x2 &&& (255 : Int32))) ∧ h = h') := by
  refine Con.of_go (plainFor_of_name pn_0) (Ls := #[.val (.ref a), .val (.int (2 : Int32))]) (fun m => by first | (simp [entryFrame, mkF, argsToLocals, Value.category]; done) | rfl) ?_
  refine Go.aloadN (pc' := 1) d5_0 rfl rfl rfl ?_
  refine Go.callV (cells' := 0) (slots' := 0) (pc' := 4) [] [] e (ww hw 34 rfl) (ww hw 35 rfl) (fun s' hs' => notFace_of_selects (args := #[]) (mvT hs' (ww hw 37 rfl))) (ww hw 37 rfl) (ww hw 36 rfl) (ww hw 5 rfl) (ww hw 38 rfl) (by decide) (c_isLatin1 l Z a0 hw h a cp hcp scp f) pd_3 rfl rfl rfl rfl rfl (nl rfl) (nl rfl) (nl rfl) (nl rfl) d5_1 rfl ?_
  rintro _ _ ⟨rfl, rfl⟩
  show Go _ _ _ _ _ _ _ _ _ _ _ _ 4 #[.val (.ref a), .val (.int (2 : Int32))] [(.int (1 : Int32))]
  refine Go.ifNo (pc' := 7) d5_4 (XT.i0_eq_f (by decide)) rfl ?_
  refine Go.aloadN (pc' := 8) d5_7 rfl rfl rfl ?_
  refine Go.getfield (pc' := 11) (host := "") (Or.inl (ww hw 21 rfl)) Via.refl g d5_8 rfl ?_
  refine Go.iloadN (pc' := 12) d5_11 rfl rfl ?_
  refine Go.callS (cells' := 0) (slots' := 0) (pc' := 15) [(.ref b), (.int (2 : Int32))] [] (ww hw 39 rfl) (ww hw 40 rfl) (ww hw 41 rfl) (ww hw 42 rfl) (by decide) (c_latAt5_2 l Z a0 hw h b kb x0 x1 x2 x3 x4 wf hwf sfm v) pd_4 rfl rfl rfl rfl rfl (nl rfl) (nl rfl) (nl rfl) (nl rfl) d5_12 rfl ?_
  rintro _ _ ⟨rfl, rfl⟩
  show Go _ _ _ _ _ _ _ _ _ _ _ _ 15 #[.val (.ref a), .val (.int (2 : Int32))] [(.int (x2 &&& (255 : Int32)))]
  exact Go.retN (t := .char) rfl (by simp) d5_15 ⟨(congrArg (fun z => some (Value.int z)) (show nar .char (x2 &&& (255 : Int32)) = (x2 &&& (255 : Int32)) from i2c_mask _)), rfl⟩ (by decide) (by decide)
theorem c_at5_2 (l : Launch) (Z : State) (a0 : Array Value) (hw : ∀ d ∈ tables_1, d.before a0 Z = true) {n0 : Nat} (h : Heap) (a : Addr) (b : Addr) (kb : ClassId) (x0 : Int32) (x1 : Int32) (x2 : Int32) (x3 : Int32) (x4 : Int32) (cp : Int32) (wf : Value) (hcp : ¬ (cp = (0 : Int32))) (hwf : wf.isRef = true) (scp : Sta Z Z.heap "java/lang/String" "COMPACT_STRINGS" "Z" (.int cp)) (sfm : Sta Z Z.heap "jdk/internal/util/Preconditions" "SIOOBE_FORMATTER" "Ljava/util/function/BiFunction;" wf) (e : Exa Z h a "java/lang/String") (f : Fld Z h a "java/lang/String" "coder" "B" (.int (0 : Int32))) (g : Fld Z h a "java/lang/String" "value" "[B" (.ref b)) (v : Arv Z h b kb .byte (5 : Int32) [(.int x0), (.int x1), (.int x2), (.int x3), (.int x4)] (.int 0)) :
    Con l (⟨"com/example/huron/huron/io/config/AuthenticatorKindNamedPinLaw", "at", "(Ljava/lang/String;I)C"⟩ : MethodName) method_5_code 2 (some .char) ({ frames := 4, cells := 0, slots := 0, locals := 53 } : Room) Z n0 #[(.ref a), (.int (2 : Int32))] h (fun v h' => v = some (.int (x2 &&& (255 : Int32))) ∧ h = h') := by
  refine Con.of_go (plainFor_of_name pn_2) (Ls := #[.val (.ref a), .val (.int (2 : Int32))]) (fun m => by first | (simp [entryFrame, mkF, argsToLocals, Value.category]; done) | rfl) ?_
  refine Go.iloadN (pc' := 1) d2_0 rfl rfl ?_
  refine Go.aloadN (pc' := 2) d2_1 rfl rfl rfl ?_
  refine Go.callV (cells' := 0) (slots' := 0) (pc' := 5) [] [(.int (2 : Int32))] e (ww hw 16 rfl) (ww hw 17 rfl) (fun s' hs' => notFace_of_selects (args := #[]) (mvT hs' (ww hw 19 rfl))) (ww hw 19 rfl) (ww hw 18 rfl) (ww hw 5 rfl) (ww hw 20 rfl) (by decide) (c_strLen5 l Z a0 hw h a b kb x0 x1 x2 x3 x4 cp hcp scp e f g v) pd_5 rfl rfl rfl rfl rfl (nl rfl) (nl rfl) (nl rfl) (nl rfl) d2_2 rfl ?_
  rintro _ _ ⟨rfl, rfl⟩
  show Go _ _ _ _ _ _ _ _ _ _ _ _ 5 #[.val (.ref a), .val (.int (2 : Int32))] [(.int (5 : Int32)), (.int (2 : Int32))]
  refine Go.icmpNo (pc' := 8) d2_5 (XT.ii_ge_f (by decide)) rfl ?_
  refine Go.aloadN (pc' := 9) d2_8 rfl rfl rfl ?_
  refine Go.iloadN (pc' := 10) d2_9 rfl rfl ?_
  refine Go.callV (cells' := 0) (slots' := 0) (pc' := 13) [(.int (2 : Int32))] [] e (ww hw 29 rfl) (ww hw 30 rfl) (fun s' hs' => notFace_of_selects (args := #[]) (mvT hs' (ww hw 32 rfl))) (ww hw 32 rfl) (ww hw 31 rfl) (ww hw 5 rfl) (ww hw 33 rfl) (by decide) (c_charAt5_2 l Z a0 hw h a b kb x0 x1 x2 x3 x4 cp wf hcp hwf scp sfm e f g v) pd_6 rfl rfl rfl rfl rfl (nl rfl) (nl rfl) (nl rfl) (nl rfl) d2_10 rfl ?_
  rintro _ _ ⟨rfl, rfl⟩
  show Go _ _ _ _ _ _ _ _ _ _ _ _ 13 #[.val (.ref a), .val (.int (2 : Int32))] [(.int (x2 &&& (255 : Int32)))]
  refine Go.goto (pc' := 18) d2_13 (by decide) (by decide) ?_
  exact Go.retN (t := .char) rfl (by simp) d2_18 ⟨(congrArg (fun z => some (Value.int z)) (show nar .char (x2 &&& (255 : Int32)) = (x2 &&& (255 : Int32)) from i2c_mask _)), rfl⟩ (by decide) (by decide)
theorem c_latAt5_3 (l : Launch) (Z : State) (a0 : Array Value) (hw : ∀ d ∈ tables_1, d.before a0 Z = true) {n0 : Nat} (h : Heap) (b : Addr) (kb : ClassId) (x0 : Int32) (x1 : Int32) (x2 : Int32) (x3 : Int32) (x4 : Int32) (wf : Value) (hwf : wf.isRef = true) (sfm : Sta Z Z.heap "jdk/internal/util/Preconditions" "SIOOBE_FORMATTER" "Ljava/util/function/BiFunction;" wf) (v : Arv Z h b kb .byte (5 : Int32) [(.int x0), (.int x1), (.int x2), (.int x3), (.int x4)] (.int 0)) :
    Con l (⟨"java/lang/StringLatin1", "charAt", "([BI)C"⟩ : MethodName) jdk_43_method_2_code 2 (some .char) ({ frames := 2, cells := 0, slots := 0, locals := 27 } : Room) Z n0 #[(.ref b), (.int (3 : Int32))] h (fun v h' => v = some (.int (x3 &&& (255 : Int32))) ∧ h = h') := by
  refine Con.of_go (plainFor_of_name pn_3) (Ls := #[.val (.ref b), .val (.int (3 : Int32))]) (fun m => by first | (simp [entryFrame, mkF, argsToLocals, Value.category]; done) | rfl) ?_
  refine Go.iloadN (pc' := 1) d7_0 rfl rfl ?_
  refine Go.aloadN (pc' := 2) d7_1 rfl rfl rfl ?_
  refine Go.arraylength (pc' := 3) v d7_2 rfl ?_
  refine Go.callS (cells' := 0) (slots' := 0) (pc' := 6) [(.int (3 : Int32)), (.int (5 : Int32))] [] (ww hw 43 rfl) (ww hw 44 rfl) (ww hw 5 rfl) (ww hw 45 rfl) (by decide) (c_strCheck l Z a0 hw h (3 : Int32) (5 : Int32) wf (by decide) (by decide) hwf sfm) pd_2 rfl rfl rfl rfl rfl (nl rfl) (nl rfl) (nl rfl) (nl rfl) d7_3 rfl ?_
  rintro _ _ ⟨rfl, rfl⟩
  show Go _ _ _ _ _ _ _ _ _ _ _ _ 6 #[.val (.ref b), .val (.int (3 : Int32))] []
  refine Go.aloadN (pc' := 7) d7_6 rfl rfl rfl ?_
  refine Go.iloadN (pc' := 8) d7_7 rfl rfl ?_
  refine Go.baload (pc' := 9) (v := x3) v d7_8 (by decide) (by decide) rfl rfl ?_
  refine Go.sipush (pc' := 12) (v := (255 : Int32)) d7_9 rfl rfl ?_
  refine Go.iand (pc' := 13) d7_12 rfl ?_
  refine Go.i2c (pc' := 14) d7_13 rfl ?_
  rw [i2c_mask]
  exact Go.retN (t := .char) rfl (by simp) d7_14 ⟨(congrArg (fun z => some (Value.int z)) (show nar .char (x3 &&& (255 : Int32)) = (x3 &&& (255 : Int32)) from i2c_mask _)), rfl⟩ (by decide) (by decide)
theorem c_charAt5_3 (l : Launch) (Z : State) (a0 : Array Value) (hw : ∀ d ∈ tables_1, d.before a0 Z = true) {n0 : Nat} (h : Heap) (a : Addr) (b : Addr) (kb : ClassId) (x0 : Int32) (x1 : Int32) (x2 : Int32) (x3 : Int32) (x4 : Int32) (cp : Int32) (wf : Value) (hcp : ¬ (cp = (0 : Int32))) (hwf : wf.isRef = true) (scp : Sta Z Z.heap "java/lang/String" "COMPACT_STRINGS" "Z" (.int cp)) (sfm : Sta Z Z.heap "jdk/internal/util/Preconditions" "SIOOBE_FORMATTER" "Ljava/util/function/BiFunction;" wf) (e : Exa Z h a "java/lang/String") (f : Fld Z h a "java/lang/String" "coder" "B" (.int (0 : Int32))) (g : Fld Z h a "java/lang/String" "value" "[B" (.ref b)) (v : Arv Z h b kb .byte (5 : Int32) [(.int x0), (.int x1), (.int x2), (.int x3), (.int x4)] (.int 0)) :
    Con l (⟨"java/lang/String", "charAt", "(I)C"⟩ : MethodName) jdk_42_method_56_code 2 (some .char) ({ frames := 3, cells := 0, slots := 0, locals := 40 } : Room) Z n0 #[(.ref a), (.int (3 : Int32))] h (fun v h' => v = some (.int (x3 &&& (255 : Int32))) ∧ h = h') := by
  refine Con.of_go (plainFor_of_name pn_0) (Ls := #[.val (.ref a), .val (.int (3 : Int32))]) (fun m => by first | (simp [entryFrame, mkF, argsToLocals, Value.category]; done) | rfl) ?_
  refine Go.aloadN (pc' := 1) d5_0 rfl rfl rfl ?_
  refine Go.callV (cells' := 0) (slots' := 0) (pc' := 4) [] [] e (ww hw 34 rfl) (ww hw 35 rfl) (fun s' hs' => notFace_of_selects (args := #[]) (mvT hs' (ww hw 37 rfl))) (ww hw 37 rfl) (ww hw 36 rfl) (ww hw 5 rfl) (ww hw 38 rfl) (by decide) (c_isLatin1 l Z a0 hw h a cp hcp scp f) pd_3 rfl rfl rfl rfl rfl (nl rfl) (nl rfl) (nl rfl) (nl rfl) d5_1 rfl ?_
  rintro _ _ ⟨rfl, rfl⟩
  show Go _ _ _ _ _ _ _ _ _ _ _ _ 4 #[.val (.ref a), .val (.int (3 : Int32))] [(.int (1 : Int32))]
  refine Go.ifNo (pc' := 7) d5_4 (XT.i0_eq_f (by decide)) rfl ?_
  refine Go.aloadN (pc' := 8) d5_7 rfl rfl rfl ?_
  refine Go.getfield (pc' := 11) (host := "") (Or.inl (ww hw 21 rfl)) Via.refl g d5_8 rfl ?_
  refine Go.iloadN (pc' := 12) d5_11 rfl rfl ?_
  refine Go.callS (cells' := 0) (slots' := 0) (pc' := 15) [(.ref b), (.int (3 : Int32))] [] (ww hw 39 rfl) (ww hw 40 rfl) (ww hw 41 rfl) (ww hw 42 rfl) (by decide) (c_latAt5_3 l Z a0 hw h b kb x0 x1 x2 x3 x4 wf hwf sfm v) pd_4 rfl rfl rfl rfl rfl (nl rfl) (nl rfl) (nl rfl) (nl rfl) d5_12 rfl ?_
  rintro _ _ ⟨rfl, rfl⟩
  show Go _ _ _ _ _ _ _ _ _ _ _ _ 15 #[.val (.ref a), .val (.int (3 : Int32))] [(.int (x3 &&& (255 : Int32)))]
  exact Go.retN (t := .char) rfl (by simp) d5_15 ⟨(congrArg (fun z => some (Value.int z)) (show nar .char (x3 &&& (255 : Int32)) = (x3 &&& (255 : Int32)) from i2c_mask _)), rfl⟩ (by decide) (by decide)
theorem c_at5_3 (l : Launch) (Z : State) (a0 : Array Value) (hw : ∀ d ∈ tables_1, d.before a0 Z = true) {n0 : Nat} (h : Heap) (a : Addr) (b : Addr) (kb : ClassId) (x0 : Int32) (x1 : Int32) (x2 : Int32) (x3 : Int32) (x4 : Int32) (cp : Int32) (wf : Value) (hcp : ¬ (cp = (0 : Int32))) (hwf : wf.isRef = true) (scp : Sta Z Z.heap "java/lang/String" "COMPACT_STRINGS" "Z" (.int cp)) (sfm : Sta Z Z.heap "jdk/internal/util/Preconditions" "SIOOBE_FORMATTER" "Ljava/util/function/BiFunction;" wf) (e : Exa Z h a "java/lang/String") (f : Fld Z h a "java/lang/String" "coder" "B" (.int (0 : Int32))) (g : Fld Z h a "java/lang/String" "value" "[B" (.ref b)) (v : Arv Z h b kb .byte (5 : Int32) [(.int x0), (.int x1), (.int x2), (.int x3), (.int x4)] (.int 0)) :
    Con l (⟨"com/example/huron/huron/io/config/AuthenticatorKindNamedPinLaw", "at", "(Ljava/lang/String;I)C"⟩ : MethodName) method_5_code 2 (some .char) ({ frames := 4, cells := 0, slots := 0, locals := 53 } : Room) Z n0 #[(.ref a), (.int (3 : Int32))] h (fun v h' => v = some (.int (x3 &&& (255 : Int32))) ∧ h = h') := by
  refine Con.of_go (plainFor_of_name pn_2) (Ls := #[.val (.ref a), .val (.int (3 : Int32))]) (fun m => by first | (simp [entryFrame, mkF, argsToLocals, Value.category]; done) | rfl) ?_
  refine Go.iloadN (pc' := 1) d2_0 rfl rfl ?_
  refine Go.aloadN (pc' := 2) d2_1 rfl rfl rfl ?_
  refine Go.callV (cells' := 0) (slots' := 0) (pc' := 5) [] [(.int (3 : Int32))] e (ww hw 16 rfl) (ww hw 17 rfl) (fun s' hs' => notFace_of_selects (args := #[]) (mvT hs' (ww hw 19 rfl))) (ww hw 19 rfl) (ww hw 18 rfl) (ww hw 5 rfl) (ww hw 20 rfl) (by decide) (c_strLen5 l Z a0 hw h a b kb x0 x1 x2 x3 x4 cp hcp scp e f g v) pd_5 rfl rfl rfl rfl rfl (nl rfl) (nl rfl) (nl rfl) (nl rfl) d2_2 rfl ?_
  rintro _ _ ⟨rfl, rfl⟩
  show Go _ _ _ _ _ _ _ _ _ _ _ _ 5 #[.val (.ref a), .val (.int (3 : Int32))] [(.int (5 : Int32)), (.int (3 : Int32))]
  refine Go.icmpNo (pc' := 8) d2_5 (XT.ii_ge_f (by decide)) rfl ?_
  refine Go.aloadN (pc' := 9) d2_8 rfl rfl rfl ?_
  refine Go.iloadN (pc' := 10) d2_9 rfl rfl ?_
  refine Go.callV (cells' := 0) (slots' := 0) (pc' := 13) [(.int (3 : Int32))] [] e (ww hw 29 rfl) (ww hw 30 rfl) (fun s' hs' => notFace_of_selects (args := #[]) (mvT hs' (ww hw 32 rfl))) (ww hw 32 rfl) (ww hw 31 rfl) (ww hw 5 rfl) (ww hw 33 rfl) (by decide) (c_charAt5_3 l Z a0 hw h a b kb x0 x1 x2 x3 x4 cp wf hcp hwf scp sfm e f g v) pd_6 rfl rfl rfl rfl rfl (nl rfl) (nl rfl) (nl rfl) (nl rfl) d2_10 rfl ?_
  rintro _ _ ⟨rfl, rfl⟩
  show Go _ _ _ _ _ _ _ _ _ _ _ _ 13 #[.val (.ref a), .val (.int (3 : Int32))] [(.int (x3 &&& (255 : Int32)))]
  refine Go.goto (pc' := 18) d2_13 (by decide) (by decide) ?_
  exact Go.retN (t := .char) rfl (by simp) d2_18 ⟨(congrArg (fun z => some (Value.int z)) (show nar .char (x3 &&& (255 : Int32)) = (x3 &&& (255 : Int32)) from i2c_mask _)), rfl⟩ (by decide) (by decide)
theorem c_latAt5_4 (l : Launch) (Z : State) (a0 : Array Value) (hw : ∀ d ∈ tables_1, d.before a0 Z = true) {n0 : Nat} (h : Heap) (b : Addr) (kb : ClassId) (x0 : Int32) (x1 : Int32) (x2 : Int32) (x3 : Int32) (x4 : Int32) (wf : Value) (hwf : wf.isRef = true) (sfm : Sta Z Z.heap "jdk/internal/util/Preconditions" "SIOOBE_FORMATTER" "Ljava/util/function/BiFunction;" wf) (v : Arv Z h b kb .byte (5 : Int32) [(.int x0), (.int x1), (.int x2), (.int x3), (.int x4)] (.int 0)) :
    Con l (⟨"java/lang/StringLatin1", "charAt", "([BI)C"⟩ : MethodName) jdk_43_method_2_code 2 (some .char) ({ frames := 2, cells := 0, slots := 0, locals := 27 } : Room) Z n0 #[(.ref b), (.int (4 : Int32))] h (fun v h' => v = some (.int (x4 &&& (255 : Int32))) ∧ h = h') := by
  refine Con.of_go (plainFor_of_name pn_3) (Ls := #[.val (.ref b), .val (.int (4 : Int32))]) (fun m => by first | (simp [entryFrame, mkF, argsToLocals, Value.category]; done) | rfl) ?_
  refine Go.iloadN (pc' := 1) d7_0 rfl rfl ?_
  refine Go.aloadN (pc' := 2) d7_1 rfl rfl rfl ?_
  refine Go.arraylength (pc' := 3) v d7_2 rfl ?_
  refine Go.callS (cells' := 0) (slots' := 0) (pc' := 6) [(.int (4 : Int32)), (.int (5 : Int32))] [] (ww hw 43 rfl) (ww hw 44 rfl) (ww hw 5 rfl) (ww hw 45 rfl) (by decide) (c_strCheck l Z a0 hw h (4 : Int32) (5 : Int32) wf (by decide) (by decide) hwf sfm) pd_2 rfl rfl rfl rfl rfl (nl rfl) (nl rfl) (nl rfl) (nl rfl) d7_3 rfl ?_
  rintro _ _ ⟨rfl, rfl⟩
  show Go _ _ _ _ _ _ _ _ _ _ _ _ 6 #[.val (.ref b), .val (.int (4 : Int32))] []
  refine Go.aloadN (pc' := 7) d7_6 rfl rfl rfl ?_
  refine Go.iloadN (pc' := 8) d7_7 rfl rfl ?_
  refine Go.baload (pc' := 9) (v := x4) v d7_8 (by decide) (by decide) rfl rfl ?_
  refine Go.sipush (pc' := 12) (v := (255 : Int32)) d7_9 rfl rfl ?_
  refine Go.iand (pc' := 13) d7_12 rfl ?_
  refine Go.i2c (pc' := 14) d7_13 rfl ?_
  rw [i2c_mask]
  exact Go.retN (t := .char) rfl (by simp) d7_14 ⟨(congrArg (fun z => some (Value.int z)) (show nar .char (x4 &&& (255 : Int32)) = (x4 &&& (255 : Int32)) from i2c_mask _)), rfl⟩ (by decide) (by decide)
theorem c_charAt5_4 (l : Launch) (Z : State) (a0 : Array Value) (hw : ∀ d ∈ tables_1, d.before a0 Z = true) {n0 : Nat} (h : Heap) (a : Addr) (b : Addr) (kb : ClassId) (x0 : Int32) (x1 : Int32) (x2 : Int32) (x3 : Int32) (x4 : Int32) (cp : Int32) (wf : Value) (hcp : ¬ (cp = (0 : Int32))) (hwf : wf.isRef = true) (scp : Sta Z Z.heap "java/lang/String" "COMPACT_STRINGS" "Z" (.int cp)) (sfm : Sta Z Z.heap "jdk/internal/util/Preconditions" "SIOOBE_FORMATTER" "Ljava/util/function/BiFunction;" wf) (e : Exa Z h a "java/lang/String") (f : Fld Z h a "java/lang/String" "coder" "B" (.int (0 : Int32))) (g : Fld Z h a "java/lang/String" "value" "[B" (.ref b)) (v : Arv Z h b kb .byte (5 : Int32) [(.int x0), (.int x1), (.int x2), (.int x3), (.int x4)] (.int 0)) :
    Con l (⟨"java/lang/String", "charAt", "(I)C"⟩ : MethodName) jdk_42_method_56_code 2 (some .char) ({ frames := 3, cells := 0, slots := 0, locals := 40 } : Room) Z n0 #[(.ref a), (.int (4 : Int32))] h (fun v h' => v = some (.int (x4 &&& (255 : Int32))) ∧ h = h') := by
  refine Con.of_go (plainFor_of_name pn_0) (Ls := #[.val (.ref a), .val (.int (4 : Int32))]) (fun m => by first | (simp [entryFrame, mkF, argsToLocals, Value.category]; done) | rfl) ?_
  refine Go.aloadN (pc' := 1) d5_0 rfl rfl rfl ?_
  refine Go.callV (cells' := 0) (slots' := 0) (pc' := 4) [] [] e (ww hw 34 rfl) (ww hw 35 rfl) (fun s' hs' => notFace_of_selects (args := #[]) (mvT hs' (ww hw 37 rfl))) (ww hw 37 rfl) (ww hw 36 rfl) (ww hw 5 rfl) (ww hw 38 rfl) (by decide) (c_isLatin1 l Z a0 hw h a cp hcp scp f) pd_3 rfl rfl rfl rfl rfl (nl rfl) (nl rfl) (nl rfl) (nl rfl) d5_1 rfl ?_
  rintro _ _ ⟨rfl, rfl⟩
  show Go _ _ _ _ _ _ _ _ _ _ _ _ 4 #[.val (.ref a), .val (.int (4 : Int32))] [(.int (1 : Int32))]
  refine Go.ifNo (pc' := 7) d5_4 (XT.i0_eq_f (by decide)) rfl ?_
  refine Go.aloadN (pc' := 8) d5_7 rfl rfl rfl ?_
  refine Go.getfield (pc' := 11) (host := "") (Or.inl (ww hw 21 rfl)) Via.refl g d5_8 rfl ?_
  refine Go.iloadN (pc' := 12) d5_11 rfl rfl ?_
  refine Go.callS (cells' := 0) (slots' := 0) (pc' := 15) [(.ref b), (.int (4 : Int32))] [] (ww hw 39 rfl) (ww hw 40 rfl) (ww hw 41 rfl) (ww hw 42 rfl) (by decide) (c_latAt5_4 l Z a0 hw h b kb x0 x1 x2 x3 x4 wf hwf sfm v) pd_4 rfl rfl rfl rfl rfl (nl rfl) (nl rfl) (nl rfl) (nl rfl) d5_12 rfl ?_
  rintro _ _ ⟨rfl, rfl⟩
  show Go _ _ _ _ _ _ _ _ _ _ _ _ 15 #[.val (.ref a), .val (.int (4 : Int32))] [(.int (x4 &&& (255 : Int32)))]
  exact Go.retN (t := .char) rfl (by simp) d5_15 ⟨(congrArg (fun z => some (Value.int z)) (show nar .char (x4 &&& (255 : Int32)) = (x4 &&& (255 : Int32)) from i2c_mask _)), rfl⟩ (by decide) (by decide)
theorem c_at5_4 (l : Launch) (Z : State) (a0 : Array Value) (hw : ∀ d ∈ tables_1, d.before a0 Z = true) {n0 : Nat} (h : Heap) (a : Addr) (b : Addr) (kb : ClassId) (x0 : Int32) (x1 : Int32) (x2 : Int32) (x3 : Int32) (x4 : Int32) (cp : Int32) (wf : Value) (hcp : ¬ (cp = (0 : Int32))) (hwf : wf.isRef = true) (scp : Sta Z Z.heap "java/lang/String" "COMPACT_STRINGS" "Z" (.int cp)) (sfm : Sta Z Z.heap "jdk/internal/util/Preconditions" "SIOOBE_FORMATTER" "Ljava/util/function/BiFunction;" wf) (e : Exa Z h a "java/lang/String") (f : Fld Z h a "java/lang/String" "coder" "B" (.int (0 : Int32))) (g : Fld Z h a "java/lang/String" "value" "[B" (.ref b)) (v : Arv Z h b kb .byte (5 : Int32) [(.int x0), (.int x1), (.int x2), (.int x3), (.int x4)] (.int 0)) :
    Con l (⟨"com/example/huron/huron/io/config/AuthenticatorKindNamedPinLaw", "at", "(Ljava/lang/String;I)C"⟩ : MethodName) method_5_code 2 (some .char) ({ frames := 4, cells := 0, slots := 0, locals := 53 } : Room) Z n0 #[(.ref a), (.int (4 : Int32))] h (fun v h' => v = some (.int (x4 &&& (255 : Int32))) ∧ h = h') := by
  refine Con.of_go (plainFor_of_name pn_2) (Ls := #[.val (.ref a), .val (.int (4 : Int32))]) (fun m => by first | (simp [entryFrame, mkF, argsToLocals, Value.category]; done) | rfl) ?_
  refine Go.iloadN (pc' := 1) d2_0 rfl rfl ?_
  refine Go.aloadN (pc' := 2) d2_1 rfl rfl rfl ?_
  refine Go.callV (cells' := 0) (slots' := 0) (pc' := 5) [] [(.int (4 : Int32))] e (ww hw 16 rfl) (ww hw 17 rfl) (fun s' hs' => notFace_of_selects (args := #[]) (mvT hs' (ww hw 19 rfl))) (ww hw 19 rfl) (ww hw 18 rfl) (ww hw 5 rfl) (ww hw 20 rfl) (by decide) (c_strLen5 l Z a0 hw h a b kb x0 x1 x2 x3 x4 cp hcp scp e f g v) pd_5 rfl rfl rfl rfl rfl (nl rfl) (nl rfl) (nl rfl) (nl rfl) d2_2 rfl ?_
  rintro _ _ ⟨rfl, rfl⟩
  show Go _ _ _ _ _ _ _ _ _ _ _ _ 5 #[.val (.ref a), .val (.int (4 : Int32))] [(.int (5 : Int32)), (.int (4 : Int32))]
  refine Go.icmpNo (pc' := 8) d2_5 (XT.ii_ge_f (by decide)) rfl ?_
  refine Go.aloadN (pc' := 9) d2_8 rfl rfl rfl ?_
  refine Go.iloadN (pc' := 10) d2_9 rfl rfl ?_
  refine Go.callV (cells' := 0) (slots' := 0) (pc' := 13) [(.int (4 : Int32))] [] e (ww hw 29 rfl) (ww hw 30 rfl) (fun s' hs' => notFace_of_selects (args := #[]) (mvT hs' (ww hw 32 rfl))) (ww hw 32 rfl) (ww hw 31 rfl) (ww hw 5 rfl) (ww hw 33 rfl) (by decide) (c_charAt5_4 l Z a0 hw h a b kb x0 x1 x2 x3 x4 cp wf hcp hwf scp sfm e f g v) pd_6 rfl rfl rfl rfl rfl (nl rfl) (nl rfl) (nl rfl) (nl rfl) d2_10 rfl ?_
  rintro _ _ ⟨rfl, rfl⟩
  show Go _ _ _ _ _ _ _ _ _ _ _ _ 13 #[.val (.ref a), .val (.int (4 : Int32))] [(.int (x4 &&& (255 : Int32)))]
  refine Go.goto (pc' := 18) d2_13 (by decide) (by decide) ?_
  exact Go.retN (t := .char) rfl (by simp) d2_18 ⟨(congrArg (fun z => some (Value.int z)) (show nar .char (x4 &&& (255 : Int32)) = (x4 &&& (255 : Int32)) from i2c_mask _)), rfl⟩ (by decide) (by decide)
theorem c_at5_5 (l : Launch) (Z : State) (a0 : Array Value) (hw : ∀ d ∈ tables_1, d.before a0 Z = true) {n0 : Nat} (h : Heap) (a : Addr) (b : Addr) (kb : ClassId) (x0 : Int32) (x1 : Int32) (x2 : Int32) (x3 : Int32) (x4 : Int32) (cp : Int32) (wf : Value) (hcp : ¬ (cp = (0 : Int32))) (hwf : wf.isRef = true) (scp : Sta Z Z.heap "java/lang/String" "COMPACT_STRINGS" "Z" (.int cp)) (sfm : Sta Z Z.heap "jdk/internal/util/Preconditions" "SIOOBE_FORMATTER" "Ljava/util/function/BiFunction;" wf) (e : Exa Z h a "java/lang/String") (f : Fld Z h a "java/lang/String" "coder" "B" (.int (0 : Int32))) (g : Fld Z h a "java/lang/String" "value" "[B" (.ref b)) (v : Arv Z h b kb .byte (5 : Int32) [(.int x0), (.int x1), (.int x2), (.int x3), (.int x4)] (.int 0)) :
    Con l (⟨"com/example/huron/huron/io/config/AuthenticatorKindNamedPinLaw", "at", "(Ljava/lang/String;I)C"⟩ : MethodName) method_5_code 2 (some .char) ({ frames := 2, cells := 0, slots := 0, locals := 26 } : Room) Z n0 #[(.ref a), (.int (5 : Int32))] h (fun v h' => v = some (.int (120 : Int32)) ∧ h = h') := by
  refine Con.of_go (plainFor_of_name pn_2) (Ls := #[.val (.ref a), .val (.int (5 : Int32))]) (fun m => by first | (simp [entryFrame, mkF, argsToLocals, Value.category]; done) | rfl) ?_
  refine Go.iloadN (pc' := 1) d2_0 rfl rfl ?_
  refine Go.aloadN (pc' := 2) d2_1 rfl rfl rfl ?_
  refine Go.callV (cells' := 0) (slots' := 0) (pc' := 5) [] [(.int (5 : Int32))] e (ww hw 16 rfl) (ww hw 17 rfl) (fun s' hs' => notFace_of_selects (args := #[]) (mvT hs' (ww hw 19 rfl))) (ww hw 19 rfl) (ww hw 18 rfl) (ww hw 5 rfl) (ww hw 20 rfl) (by decide) (c_strLen5 l Z a0 hw h a b kb x0 x1 x2 x3 x4 cp hcp scp e f g v) pd_5 rfl rfl rfl rfl rfl (nl rfl) (nl rfl) (nl rfl) (nl rfl) d2_2 rfl ?_
  rintro _ _ ⟨rfl, rfl⟩
  show Go _ _ _ _ _ _ _ _ _ _ _ _ 5 #[.val (.ref a), .val (.int (5 : Int32))] [(.int (5 : Int32)), (.int (5 : Int32))]
  refine Go.icmpYes (pc' := 16) d2_5 (XT.ii_ge_t (by decide)) (by decide) (by decide) ?_
  refine Go.bipush (pc' := 18) (v := (120 : Int32)) d2_16 rfl rfl ?_
  exact Go.retN (t := .char) rfl (by simp) d2_18 ⟨rfl, rfl⟩ (by decide) (by decide)
theorem d10_0 : decode method_6_code 0 = .ok (.iload_n 1, 1) := by decide +kernel
theorem d10_1 : decode method_6_code 1 = .ok (.ifCond .ne 7, 3) := by decide +kernel
theorem d10_4 : decode method_6_code 4 = .ok (.iconst 0, 1) := by decide +kernel
theorem d10_5 : decode method_6_code 5 = .ok (.newarray .char, 2) := by decide +kernel
theorem d10_7 : decode method_6_code 7 = .ok (.areturn, 1) := by decide +kernel
theorem c_take0 (l : Launch) (Z : State) (a0 : Array Value) (hw : ∀ d ∈ tables_1, d.before a0 Z = true) {n0 : Nat} (h : Heap) (c : Addr) (kc : ClassId) (k0 : Int32) (k1 : Int32) (k2 : Int32) (k3 : Int32) (k4 : Int32) (k5 : Int32) (v : Arv Z h c kc .char (6 : Int32) [(.int k0), (.int k1), (.int k2), (.int k3), (.int k4), (.int k5)] (.int 0)) :
    Con l (⟨"com/example/huron/huron/io/config/AuthenticatorKindNamedPinLaw", "take", "([CI)[C"⟩ : MethodName) method_6_code 2 (some (.array .char)) ({ frames := 0, cells := 1, slots := 0, locals := 0 } : Room) Z n0 #[(.ref c), (.int (0 : Int32))] h (fun v h' => ∃ d : Addr, ∃ kd : ClassId, v = some (.ref d) ∧ Keep h h' [] ∧ n0 ≤ d ∧ h.size ≤ d ∧ Arv Z h' d kd .char (0 : Int32) [] (.int 0)) := by
  refine Con.of_go (plainFor_of_name pn_2) (Ls := #[.val (.ref c), .val (.int (0 : Int32))]) (fun m => by first | (simp [entryFrame, mkF, argsToLocals, Value.category]; done) | rfl) ?_
  refine Go.iloadN (pc' := 1) d10_0 rfl rfl ?_
  refine Go.ifNo (pc' := 4) d10_1 (XT.i0_ne_f (by decide)) rfl ?_
  refine Go.iconst (pc' := 5) (v := (0 : Int32)) d10_4 rfl rfl ?_
  refine Go.newarray (pc' := 7) (cells' := 1) (slots' := 0) (cap := 0) (ww hw 12 rfl) d10_5 (ad := "[C") (by decide) (by decide) (by decide) rfl rfl (by decide) (by decide) (by decide) rfl ?_
  intro h1 b1 g1 E1 ge1 kA1 A1 X1
  have sz2 : h.size ≤ b1 := Nat.le_trans (Keep.refl h []).1 (Nat.le_of_eq g1.symm)
  have K3 : Keep h h1 [] := (Keep.refl h []).ext E1
  have V1 : Arv Z h1 b1 kA1 .char (0 : Int32) [] (.int 0) := Arv.pad A1 (pad_rep [] (.int 0) 0)
  exact Go.retR rfl rfl rfl rfl d10_7 ⟨b1, kA1, rfl, K3, ge1, sz2, V1⟩ (by decide) (by decide)
theorem d10_8 : decode method_6_code 8 = .ok (.iload_n 1, 1) := by decide +kernel
theorem d10_9 : decode method_6_code 9 = .ok (.iconst 1, 1) := by decide +kernel
theorem d10_10 : decode method_6_code 10 = .ok (.if_icmp .ne 13, 3) := by decide +kernel
theorem d10_13 : decode method_6_code 13 = .ok (.iconst 1, 1) := by decide +kernel
theorem d10_14 : decode method_6_code 14 = .ok (.newarray .char, 2) := by decide +kernel
theorem d10_16 : decode method_6_code 16 = .ok (.dup, 1) := by decide +kernel
theorem d10_17 : decode method_6_code 17 = .ok (.iconst 0, 1) := by decide +kernel
theorem d10_18 : decode method_6_code 18 = .ok (.aload_n 0, 1) := by decide +kernel
theorem d10_19 : decode method_6_code 19 = .ok (.iconst 0, 1) := by decide +kernel
theorem d10_20 : decode method_6_code 20 = .ok (.caload, 1) := by decide +kernel
theorem d10_21 : decode method_6_code 21 = .ok (.castore, 1) := by decide +kernel
theorem d10_22 : decode method_6_code 22 = .ok (.areturn, 1) := by decide +kernel
theorem c_take1 (l : Launch) (Z : State) (a0 : Array Value) (hw : ∀ d ∈ tables_1, d.before a0 Z = true) {n0 : Nat} (h : Heap) (c : Addr) (kc : ClassId) (k0 : Int32) (k1 : Int32) (k2 : Int32) (k3 : Int32) (k4 : Int32) (k5 : Int32) (hn0 : nar .char k0 = k0) (v : Arv Z h c kc .char (6 : Int32) [(.int k0), (.int k1), (.int k2), (.int k3), (.int k4), (.int k5)] (.int 0)) :
    Con l (⟨"com/example/huron/huron/io/config/AuthenticatorKindNamedPinLaw", "take", "([CI)[C"⟩ : MethodName) method_6_code 2 (some (.array .char)) ({ frames := 0, cells := 1, slots := 1, locals := 0 } : Room) Z n0 #[(.ref c), (.int (1 : Int32))] h (fun v h' => ∃ d : Addr, ∃ kd : ClassId, v = some (.ref d) ∧ Keep h h' [] ∧ n0 ≤ d ∧ h.size ≤ d ∧ Arv Z h' d kd .char (1 : Int32) [(.int k0)] (.int 0)) := by
  refine Con.of_go (plainFor_of_name pn_2) (Ls := #[.val (.ref c), .val (.int (1 : Int32))]) (fun m => by first | (simp [entryFrame, mkF, argsToLocals, Value.category]; done) | rfl) ?_
  refine Go.iloadN (pc' := 1) d10_0 rfl rfl ?_
  refine Go.ifYes (pc' := 8) d10_1 (XT.i0_ne_t (by decide)) (by decide) (by decide) ?_
  refine Go.iloadN (pc' := 9) d10_8 rfl rfl ?_
  refine Go.iconst (pc' := 10) (v := (1 : Int32)) d10_9 rfl rfl ?_
  refine Go.icmpNo (pc' := 13) d10_10 (XT.ii_ne_f (by decide)) rfl ?_
  refine Go.iconst (pc' := 14) (v := (1 : Int32)) d10_13 rfl rfl ?_
  refine Go.newarray (pc' := 16) (cells' := 1) (slots' := 1) (cap := 1) (ww hw 12 rfl) d10_14 (ad := "[C") (by decide) (by decide) (by decide) rfl rfl (by decide) (by decide) (by decide) rfl ?_
  intro h1 b1 g1 E1 ge1 kA1 A1 X1
  have sz2 : h.size ≤ b1 := Nat.le_trans (Keep.refl h []).1 (Nat.le_of_eq g1.symm)
  have K3 : Keep h h1 [] := (Keep.refl h []).ext E1
  have V1 : Arv Z h1 b1 kA1 .char (1 : Int32) [(.int 0)] (.int 0) := Arv.pad A1 (pad_rep [] (.int 0) 1)
  refine Go.dup (pc' := 17) d10_16 rfl rfl ?_
  refine Go.iconst (pc' := 18) (v := (0 : Int32)) d10_17 rfl rfl ?_
  refine Go.aloadN (pc' := 19) d10_18 rfl rfl rfl ?_
  refine Go.iconst (pc' := 20) (v := (0 : Int32)) d10_19 rfl rfl ?_
  refine Go.caload (pc' := 21) (v := k0) (v.ext E1) d10_20 (by decide) (by decide) rfl rfl ?_
  refine Go.castore (pc' := 22) V1 ge1 d10_21 (by decide) (by decide) (i := 0) rfl (nl rfl) rfl ?_
  intro h4 W5 V6
  have K7 : Keep h h4 [] := K3.wr W5 (Or.inr sz2)
  rw [hn0] at V6
  replace V6 : Arv Z h4 b1 kA1 .char (1 : Int32) [(.int k0)] (.int 0) := V6
  exact Go.retR rfl rfl rfl rfl d10_22 ⟨b1, kA1, rfl, K7, ge1, sz2, V6⟩ (by decide) (by decide)
theorem d10_23 : decode method_6_code 23 = .ok (.iload_n 1, 1) := by decide +kernel
theorem d10_24 : decode method_6_code 24 = .ok (.iconst 2, 1) := by decide +kernel
theorem d10_25 : decode method_6_code 25 = .ok (.if_icmp .ne 19, 3) := by decide +kernel
theorem d10_28 : decode method_6_code 28 = .ok (.iconst 2, 1) := by decide +kernel
theorem d10_29 : decode method_6_code 29 = .ok (.newarray .char, 2) := by decide +kernel
theorem d10_31 : decode method_6_code 31 = .ok (.dup, 1) := by decide +kernel
theorem d10_32 : decode method_6_code 32 = .ok (.iconst 0, 1) := by decide +kernel
theorem d10_33 : decode method_6_code 33 = .ok (.aload_n 0, 1) := by decide +kernel
theorem d10_34 : decode method_6_code 34 = .ok (.iconst 0, 1) := by decide +kernel
theorem d10_35 : decode method_6_code 35 = .ok (.caload, 1) := by decide +kernel
theorem d10_36 : decode method_6_code 36 = .ok (.castore, 1) := by decide +kernel
theorem d10_37 : decode method_6_code 37 = .ok (.dup, 1) := by decide +kernel
theorem d10_38 : decode method_6_code 38 = .ok (.iconst 1, 1) := by decide +kernel
theorem d10_39 : decode method_6_code 39 = .ok (.aload_n 0, 1) := by decide +kernel
theorem d10_40 : decode method_6_code 40 = .ok (.iconst 1, 1) := by decide +kernel
theorem d10_41 : decode method_6_code 41 = .ok (.caload, 1) := by decide +kernel
theorem d10_42 : decode method_6_code 42 = .ok (.castore, 1) := by decide +kernel
theorem d10_43 : decode method_6_code 43 = .ok (.areturn, 1) := by decide +kernel
theorem c_take2 (l : Launch) (Z : State) (a0 : Array Value) (hw : ∀ d ∈ tables_1, d.before a0 Z = true) {n0 : Nat} (h : Heap) (c : Addr) (kc : ClassId) (k0 : Int32) (k1 : Int32) (k2 : Int32) (k3 : Int32) (k4 : Int32) (k5 : Int32) (hn0 : nar .char k0 = k0) (hn1 : nar .char k1 = k1) (v : Arv Z h c kc .char (6 : Int32) [(.int k0), (.int k1), (.int k2), (.int k3), (.int k4), (.int k5)] (.int 0)) :
    Con l (⟨"com/example/huron/huron/io/config/AuthenticatorKindNamedPinLaw", "take", "([CI)[C"⟩ : MethodName) method_6_code 2 (some (.array .char)) ({ frames := 0, cells := 1, slots := 2, locals := 0 } : Room) Z n0 #[(.ref c), (.int (2 : Int32))] h (fun v h' => ∃ d : Addr, ∃ kd : ClassId, v = some (.ref d) ∧ Keep h h' [] ∧ n0 ≤ d ∧ h.size ≤ d ∧ Arv Z h' d kd .char (2 : Int32) [(.int k0), (.int k1)] (.int 0)) := by
  refine Con.of_go (plainFor_of_name pn_2) (Ls := #[.val (.ref c), .val (.int (2 : Int32))]) (fun m => by first | (simp [entryFrame, mkF, argsToLocals, Value.category]; done) | rfl) ?_
  refine Go.iloadN (pc' := 1) d10_0 rfl rfl ?_
  refine Go.ifYes (pc' := 8) d10_1 (XT.i0_ne_t (by decide)) (by decide) (by decide) ?_
  refine Go.iloadN (pc' := 9) d10_8 rfl rfl ?_
  refine Go.iconst (pc' := 10) (v := (1 : Int32)) d10_9 rfl rfl ?_
  refine Go.icmpYes (pc' := 23) d10_10 (XT.ii_ne_t (by decide)) (by decide) (by decide) ?_
  refine Go.iloadN (pc' := 24) d10_23 rfl rfl ?_
  refine Go.iconst (pc' := 25) (v := (2 : Int32)) d10_24 rfl rfl ?_
  refine Go.icmpNo (pc' := 28) d10_25 (XT.ii_ne_f (by decide)) rfl ?_
  refine Go.iconst (pc' := 29) (v := (2 : Int32)) d10_28 rfl rfl ?_
  refine Go.newarray (pc' := 31) (cells' := 1) (slots' := 2) (cap := 2) (ww hw 12 rfl) d10_29 (ad := "[C") (by decide) (by decide) (by decide) rfl rfl (by decide) (by decide) (by decide) rfl ?_
  intro h1 b1 g1 E1 ge1 kA1 A1 X1
  have sz2 : h.size ≤ b1 := Nat.le_trans (Keep.refl h []).1 (Nat.le_of_eq g1.symm)
  have K3 : Keep h h1 [] := (Keep.refl h []).ext E1
  have V1 : Arv Z h1 b1 kA1 .char (2 : Int32) [(.int 0), (.int 0)] (.int 0) := Arv.pad A1 (pad_rep [] (.int 0) 2)
  refine Go.dup (pc' := 32) d10_31 rfl rfl ?_
  refine Go.iconst (pc' := 33) (v := (0 : Int32)) d10_32 rfl rfl ?_
  refine Go.aloadN (pc' := 34) d10_33 rfl rfl rfl ?_
  refine Go.iconst (pc' := 35) (v := (0 : Int32)) d10_34 rfl rfl ?_
  refine Go.caload (pc' := 36) (v := k0) (v.ext E1) d10_35 (by decide) (by decide) rfl rfl ?_
  refine Go.castore (pc' := 37) V1 ge1 d10_36 (by decide) (by decide) (i := 0) rfl (nl rfl) rfl ?_
  intro h4 W5 V6
  have K7 : Keep h h4 [] := K3.wr W5 (Or.inr sz2)
  rw [hn0] at V6
  replace V6 : Arv Z h4 b1 kA1 .char (2 : Int32) [(.int k0), (.int 0)] (.int 0) := V6
  refine Go.dup (pc' := 38) d10_37 rfl rfl ?_
  refine Go.iconst (pc' := 39) (v := (1 : Int32)) d10_38 rfl rfl ?_
  refine Go.aloadN (pc' := 40) d10_39 rfl rfl rfl ?_
  refine Go.iconst (pc' := 41) (v := (1 : Int32)) d10_40 rfl rfl ?_
  have ne8 : c ≠ b1 := (Nat.ne_of_lt (Nat.lt_of_lt_of_le v.lt (Nat.le_of_eq g1.symm)))
  refine Go.caload (pc' := 42) (v := k1) ((v.ext E1).other W5 ne8) d10_41 (by decide) (by decide) rfl rfl ?_
  refine Go.castore (pc' := 43) V6 ge1 d10_42 (by decide) (by decide) (i := 1) rfl (nl rfl) rfl ?_
  intro h9 W10 V11
  have K12 : Keep h h9 [] := K7.wr W10 (Or.inr sz2)
  rw [hn1] at V11
  replace V11 : Arv Z h9 b1 kA1 .char (2 : Int32) [(.int k0), (.int k1)] (.int 0) := V11
  exact Go.retR rfl rfl rfl rfl d10_43 ⟨b1, kA1, rfl, K12, ge1, sz2, V11⟩ (by decide) (by decide)
theorem d10_44 : decode method_6_code 44 = .ok (.iload_n 1, 1) := by decide +kernel
theorem d10_45 : decode method_6_code 45 = .ok (.iconst 3, 1) := by decide +kernel
theorem d10_46 : decode method_6_code 46 = .ok (.if_icmp .ne 25, 3) := by decide +kernel
theorem d10_49 : decode method_6_code 49 = .ok (.iconst 3, 1) := by decide +kernel
theorem d10_50 : decode method_6_code 50 = .ok (.newarray .char, 2) := by decide +kernel
theorem d10_52 : decode method_6_code 52 = .ok (.dup, 1) := by decide +kernel
theorem d10_53 : decode method_6_code 53 = .ok (.iconst 0, 1) := by decide +kernel
theorem d10_54 : decode method_6_code 54 = .ok (.aload_n 0, 1) := by decide +kernel
theorem d10_55 : decode method_6_code 55 = .ok (.iconst 0, 1) := by decide +kernel
theorem d10_56 : decode method_6_code 56 = .ok (.caload, 1) := by decide +kernel
theorem d10_57 : decode method_6_code 57 = .ok (.castore, 1) := by decide +kernel
theorem d10_58 : decode method_6_code 58 = .ok (.dup, 1) := by decide +kernel
theorem d10_59 : decode method_6_code 59 = .ok (.iconst 1, 1) := by decide +kernel
theorem d10_60 : decode method_6_code 60 = .ok (.aload_n 0, 1) := by decide +kernel
theorem d10_61 : decode method_6_code 61 = .ok (.iconst 1, 1) := by decide +kernel
theorem d10_62 : decode method_6_code 62 = .ok (.caload, 1) := by decide +kernel
theorem d10_63 : decode method_6_code 63 = .ok (.castore, 1) := by decide +kernel
theorem d10_64 : decode method_6_code 64 = .ok (.dup, 1) := by decide +kernel
theorem d10_65 : decode method_6_code 65 = .ok (.iconst 2, 1) := by decide +kernel
theorem d10_66 : decode method_6_code 66 = .ok (.aload_n 0, 1) := by decide +kernel
theorem d10_67 : decode method_6_code 67 = .ok (.iconst 2, 1) := by decide +kernel
theorem d10_68 : decode method_6_code 68 = .ok (.caload, 1) := by decide +kernel
theorem d10_69 : decode method_6_code 69 = .ok (.castore, 1) := by decide +kernel
theorem d10_70 : decode method_6_code 70 = .ok (.areturn, 1) := by decide +kernel
theorem c_take3 (l : Launch) (Z : State) (a0 : Array Value) (hw : ∀ d ∈ tables_1, d.before a0 Z = true) {n0 : Nat} (h : Heap) (c : Addr) (kc : ClassId) (k0 : Int32) (k1 : Int32) (k2 : Int32) (k3 : Int32) (k4 : Int32) (k5 : Int32) (hn0 : nar .char k0 = k0) (hn1 : nar .char k1 = k1) (hn2 : nar .char k2 = k2) (v : Arv Z h c kc .char (6 : Int32) [(.int k0), (.int k1), (.int k2), (.int k3), (.int k4), (.int k5)] (.int 0)) :
    Con l (⟨"com/example/huron/huron/io/config/AuthenticatorKindNamedPinLaw", "take", "([CI)[C"⟩ : MethodName) method_6_code 2 (some (.array .char)) ({ frames := 0, cells := 1, slots := 3, locals := 0 } : Room) Z n0 #[(.ref c), (.int (3 : Int32))] h (fun v h' => ∃ d : Addr, ∃ kd : ClassId, v = some (.ref d) ∧ Keep h h' [] ∧ n0 ≤ d ∧ h.size ≤ d ∧ Arv Z h' d kd .char (3 : Int32) [(.int k0), (.int k1), (.int k2)] (.int 0)) := by
  refine Con.of_go (plainFor_of_name pn_2) (Ls := #[.val (.ref c), .val (.int (3 : Int32))]) (fun m => by first | (simp [entryFrame, mkF, argsToLocals, Value.category]; done) | rfl) ?_
  refine Go.iloadN (pc' := 1) d10_0 rfl rfl ?_
  refine Go.ifYes (pc' := 8) d10_1 (XT.i0_ne_t (by decide)) (by decide) (by decide) ?_
  refine Go.iloadN (pc' := 9) d10_8 rfl rfl ?_
  refine Go.iconst (pc' := 10) (v := (1 : Int32)) d10_9 rfl rfl ?_
  refine Go.icmpYes (pc' := 23) d10_10 (XT.ii_ne_t (by decide)) (by decide) (by decide) ?_
  refine Go.iloadN (pc' := 24) d10_23 rfl rfl ?_
  refine Go.iconst (pc' := 25) (v := (2 : Int32)) d10_24 rfl rfl ?_
  refine Go.icmpYes (pc' := 44) d10_25 (XT.ii_ne_t (by decide)) (by decide) (by decide) ?_
  refine Go.iloadN (pc' := 45) d10_44 rfl rfl ?_
  refine Go.iconst (pc' := 46) (v := (3 : Int32)) d10_45 rfl rfl ?_
  refine Go.icmpNo (pc' := 49) d10_46 (XT.ii_ne_f (by decide)) rfl ?_
  refine Go.iconst (pc' := 50) (v := (3 : Int32)) d10_49 rfl rfl ?_
  refine Go.newarray (pc' := 52) (cells' := 1) (slots' := 3) (cap := 3) (ww hw 12 rfl) d10_50 (ad := "[C") (by decide) (by decide) (by decide) rfl rfl (by decide) (by decide) (by decide) rfl ?_
  intro h1 b1 g1 E1 ge1 kA1 A1 X1
  have sz2 : h.size ≤ b1 := Nat.le_trans (Keep.refl h []).1 (Nat.le_of_eq g1.symm)
  have K3 : Keep h h1 [] := (Keep.refl h []).ext E1
  have V1 : Arv Z h1 b1 kA1 .char (3 : Int32) [(.int 0), (.int 0), (.int 0)] (.int 0) := Arv.pad A1 (pad_rep [] (.int 0) 3)
  refine Go.dup (pc' := 53) d10_52 rfl rfl ?_
  refine Go.iconst (pc' := 54) (v := (0 : Int32)) d10_53 rfl rfl ?_
  refine Go.aloadN (pc' := 55) d10_54 rfl rfl rfl ?_
  refine Go.iconst (pc' := 56) (v := (0 : Int32)) d10_55 rfl rfl ?_
  refine Go.caload (pc' := 57) (v := k0) (v.ext E1) d10_56 (by decide) (by decide) rfl rfl ?_
  refine Go.castore (pc' := 58) V1 ge1 d10_57 (by decide) (by decide) (i := 0) rfl (nl rfl) rfl ?_
  intro h4 W5 V6
  have K7 : Keep h h4 [] := K3.wr W5 (Or.inr sz2)
  rw [hn0] at V6
  replace V6 : Arv Z h4 b1 kA1 .char (3 : Int32) [(.int k0), (.int 0), (.int 0)] (.int 0) := V6
  refine Go.dup (pc' := 59) d10_58 rfl rfl ?_
  refine Go.iconst (pc' := 60) (v := (1 : Int32)) d10_59 rfl rfl ?_
  refine Go.aloadN (pc' := 61) d10_60 rfl rfl rfl ?_
  refine Go.iconst (pc' := 62) (v := (1 : Int32)) d10_61 rfl rfl ?_
  have ne8 : c ≠ b1 := (Nat.ne_of_lt (Nat.lt_of_lt_of_le v.lt (Nat.le_of_eq g1.symm)))
  refine Go.caload (pc' := 63) (v := k1) ((v.ext E1).other W5 ne8) d10_62 (by decide) (by decide) rfl rfl ?_
  refine Go.castore (pc' := 64) V6 ge1 d10_63 (by decide) (by decide) (i := 1) rfl (nl rfl) rfl ?_
  intro h9 W10 V11
  have K12 : Keep h h9 [] := K7.wr W10 (Or.inr sz2)
  rw [hn1] at V11
  replace V11 : Arv Z h9 b1 kA1 .char (3 : Int32) [(.int k0), (.int k1), (.int 0)] (.int 0) := V11
  refine Go.dup (pc' := 65) d10_64 rfl rfl ?_
  refine Go.iconst (pc' := 66) (v := (2 : Int32)) d10_65 rfl rfl ?_
  refine Go.aloadN (pc' := 67) d10_66 rfl rfl rfl ?_
  refine Go.iconst (pc' := 68) (v := (2 : Int32)) d10_67 rfl rfl ?_
  have f13 : Arv Z h9 c kc .char (6 : Int32) [(.int k0), (.int k1), (.int k2), (.int k3), (.int k4), (.int k5)] (.int 0) := (((v.ext E1).other W5 ne8).other W10 ne8)
  refine Go.caload (pc' := 69) (v := k2) f13 d10_68 (by decide) (by decide) rfl rfl ?_
  refine Go.castore (pc' := 70) V11 ge1 d10_69 (by decide) (by decide) (i := 2) rfl (nl rfl) rfl ?_
  intro h14 W15 V16
  have K17 : Keep h h14 [] := K12.wr W15 (Or.inr sz2)
  rw [hn2] at V16
  replace V16 : Arv Z h14 b1 kA1 .char (3 : Int32) [(.int k0), (.int k1), (.int k2)] (.int 0) := V16
  exact Go.retR rfl rfl rfl rfl d10_70 ⟨b1, kA1, rfl, K17, ge1, sz2, V16⟩ (by decide) (by decide)
theorem d10_71 : decode method_6_code 71 = .ok (.iload_n 1, 1) := by decide +kernel
theorem d10_72 : decode method_6_code 72 = .ok (.iconst 4, 1) := by decide +kernel
theorem d10_73 : decode method_6_code 73 = .ok (.if_icmp .ne 31, 3) := by decide +kernel
theorem d10_76 : decode method_6_code 76 = .ok (.iconst 4, 1) := by decide +kernel
theorem d10_77 : decode method_6_code 77 = .ok (.newarray .char, 2) := by decide +kernel
theorem d10_79 : decode method_6_code 79 = .ok (.dup, 1) := by decide +kernel
theorem d10_80 : decode method_6_code 80 = .ok (.iconst 0, 1) := by decide +kernel
theorem d10_81 : decode method_6_code 81 = .ok (.aload_n 0, 1) := by decide +kernel
theorem d10_82 : decode method_6_code 82 = .ok (.iconst 0, 1) := by decide +kernel
theorem d10_83 : decode method_6_code 83 = .ok (.caload, 1) := by decide +kernel
theorem d10_84 : decode method_6_code 84 = .ok (.castore, 1) := by decide +kernel
theorem d10_85 : decode method_6_code 85 = .ok (.dup, 1) := by decide +kernel
theorem d10_86 : decode method_6_code 86 = .ok (.iconst 1, 1) := by decide +kernel
theorem d10_87 : decode method_6_code 87 = .ok (.aload_n 0, 1) := by decide +kernel
theorem d10_88 : decode method_6_code 88 = .ok (.iconst 1, 1) := by decide +kernel
theorem d10_89 : decode method_6_code 89 = .ok (.caload, 1) := by decide +kernel
theorem d10_90 : decode method_6_code 90 = .ok (.castore, 1) := by decide +kernel
theorem d10_91 : decode method_6_code 91 = .ok (.dup, 1) := by decide +kernel
theorem d10_92 : decode method_6_code 92 = .ok (.iconst 2, 1) := by decide +kernel
theorem d10_93 : decode method_6_code 93 = .ok (.aload_n 0, 1) := by decide +kernel
theorem d10_94 : decode method_6_code 94 = .ok (.iconst 2, 1) := by decide +kernel
theorem d10_95 : decode method_6_code 95 = .ok (.caload, 1) := by decide +kernel
theorem d10_96 : decode method_6_code 96 = .ok (.castore, 1) := by decide +kernel
theorem d10_97 : decode method_6_code 97 = .ok (.dup, 1) := by decide +kernel
theorem d10_98 : decode method_6_code 98 = .ok (.iconst 3, 1) := by decide +kernel
theorem d10_99 : decode method_6_code 99 = .ok (.aload_n 0, 1) := by decide +kernel
theorem d10_100 : decode method_6_code 100 = .ok (.iconst 3, 1) := by decide +kernel
theorem d10_101 : decode method_6_code 101 = .ok (.caload, 1) := by decide +kernel
theorem d10_102 : decode method_6_code 102 = .ok (.castore, 1) := by decide +kernel
theorem d10_103 : decode method_6_code 103 = .ok (.areturn, 1) := by decide +kernel
theorem c_take4 (l : Launch) (Z : State) (a0 : Array Value) (hw : ∀ d ∈ tables_1, d.before a0 Z = true) {n0 : Nat} (h : Heap) (c : Addr) (kc : ClassId) (k0 : Int32) (k1 : Int32) (k2 : Int32) (k3 : Int32) (k4 : Int32) (k5 : Int32) (hn0 : nar .char k0 = k0) (hn1 : nar .char k1 = k1) (hn2 : nar .char k2 = k2) (hn3 : nar .char k3 = k3) (v : Arv Z h c kc .char (6 : Int32) [(.int k0), (.int k1), (.int k2), (.int k3), (.int k4), (.int k5)] (.int 0)) :
    Con l (⟨"com/example/huron/huron/io/config/AuthenticatorKindNamedPinLaw", "take", "([CI)[C"⟩ : MethodName) method_6_code 2 (some (.array .char)) ({ frames := 0, cells := 1, slots := 4, locals := 0 } : Room) Z n0 #[(.ref c), (.int (4 : Int32))] h (fun v h' => ∃ d : Addr, ∃ kd : ClassId, v = some (.ref d) ∧ Keep h h' [] ∧ n0 ≤ d ∧ h.size ≤ d ∧ Arv Z h' d kd .char (4 : Int32) [(.int k0), (.int k1), (.int k2), (.int k3)] (.int 0)) := by
  refine Con.of_go (plainFor_of_name pn_2) (Ls := #[.val (.ref c), .val (.int (4 : Int32))]) (fun m => by first | (simp [entryFrame, mkF, argsToLocals, Value.category]; done) | rfl) ?_
  refine Go.iloadN (pc' := 1) d10_0 rfl rfl ?_
  refine Go.ifYes (pc' := 8) d10_1 (XT.i0_ne_t (by decide)) (by decide) (by decide) ?_
  refine Go.iloadN (pc' := 9) d10_8 rfl rfl ?_
  refine Go.iconst (pc' := 10) (v := (1 : Int32)) d10_9 rfl rfl ?_
  refine Go.icmpYes (pc' := 23) d10_10 (XT.ii_ne_t (by decide)) (by decide) (by decide) ?_
  refine Go.iloadN (pc' := 24) d10_23 rfl rfl ?_
  refine Go.iconst (pc' := 25) (v := (2 : Int32)) d10_24 rfl rfl ?_
  refine Go.icmpYes (pc' := 44) d10_25 (XT.ii_ne_t (by decide)) (by decide) (by decide) ?_
  refine Go.iloadN (pc' := 45) d10_44 rfl rfl ?_
  refine Go.iconst (pc' := 46) (v := (3 : Int32)) d10_45 rfl rfl ?_
  refine Go.icmpYes (pc' := 71) d10_46 (XT.ii_ne_t (by decide)) (by decide) (by decide) ?_
  refine Go.iloadN (pc' := 72) d10_71 rfl rfl ?_
  refine Go.iconst (pc' := 73) (v := (4 : Int32)) d10_72 rfl rfl ?_
  refine Go.icmpNo (pc' := 76) d10_73 (XT.ii_ne_f (by decide)) rfl ?_
  refine Go.iconst (pc' := 77) (v := (4 : Int32)) d10_76 rfl rfl ?_
  refine Go.newarray (pc' := 79) (cells' := 1) (slots' := 4) (cap := 4) (ww hw 12 rfl) d10_77 (ad := "[C") (by decide) (by decide) (by decide) rfl rfl (by decide) (by decide) (by decide) rfl ?_
  intro h1 b1 g1 E1 ge1 kA1 A1 X1
  have sz2 : h.size ≤ b1 := Nat.le_trans (Keep.refl h []).1 (Nat.le_of_eq g1.symm)
  have K3 : Keep h h1 [] := (Keep.refl h []).ext E1
  have V1 : Arv Z h1 b1 kA1 .char (4 : Int32) [(.int 0), (.int 0), (.int 0), (.int 0)] (.int 0) := Arv.pad A1 (pad_rep [] (.int 0) 4)
  refine Go.dup (pc' := 80) d10_79 rfl rfl ?_
  refine Go.iconst (pc' := 81) (v := (0 : Int32)) d10_80 rfl rfl ?_
  refine Go.aloadN (pc' := 82) d10_81 rfl rfl rfl ?_
  refine Go.iconst (pc' := 83) (v := (0 : Int32)) d10_82 rfl rfl ?_
  refine Go.caload (pc' := 84) (v := k0) (v.ext E1) d10_83 (by decide) (by decide) rfl rfl ?_
  refine Go.castore (pc' := 85) V1 ge1 d10_84 (by decide) (by decide) (i := 0) rfl (nl rfl) rfl ?_
  intro h4 W5 V6
  have K7 : Keep h h4 [] := K3.wr W5 (Or.inr sz2)
  rw [hn0] at V6
  replace V6 : Arv Z h4 b1 kA1 .char (4 : Int32) [(.int k0), (.int 0), (.int 0), (.int 0)] (.int 0) := V6
  refine Go.dup (pc' := 86) d10_85 rfl rfl ?_
  refine Go.iconst (pc' := 87) (v := (1 : Int32)) d10_86 rfl rfl ?_
  refine Go.aloadN (pc' := 88) d10_87 rfl rfl rfl ?_
  refine Go.iconst (pc' := 89) (v := (1 : Int32)) d10_88 rfl rfl ?_
  have ne8 : c ≠ b1 := (Nat.ne_of_lt (Nat.lt_of_lt_of_le v.lt (Nat.le_of_eq g1.symm)))
  refine Go.caload (pc' := 90) (v := k1) ((v.ext E1).other W5 ne8) d10_89 (by decide) (by decide) rfl rfl ?_
  refine Go.castore (pc' := 91) V6 ge1 d10_90 (by decide) (by decide) (i := 1) rfl (nl rfl) rfl ?_
  intro h9 W10 V11
  have K12 : Keep h h9 [] := K7.wr W10 (Or.inr sz2)
  rw [hn1] at V11
  replace V11 : Arv Z h9 b1 kA1 .char (4 : Int32) [(.int k0), (.int k1), (.int 0), (.int 0)] (.int 0) := V11
  refine Go.dup (pc' := 92) d10_91 rfl rfl ?_
  refine Go.iconst (pc' := 93) (v := (2 : Int32)) d10_92 rfl rfl ?_
  refine Go.aloadN (pc' := 94) d10_93 rfl rfl rfl ?_
  refine Go.iconst (pc' := 95) (v := (2 : Int32)) d10_94 rfl rfl ?_
  have f13 : Arv Z h9 c kc .char (6 : Int32) [(.int k0), (.int k1), (.int k2), (.int k3), (.int k4), (.int k5)] (.int 0) := (((v.ext E1).other W5 ne8).other W10 ne8)
  refine Go.caload (pc' := 96) (v := k2) f13 d10_95 (by decide) (by decide) rfl rfl ?_
  refine Go.castore (pc' := 97) V11 ge1 d10_96 (by decide) (by decide) (i := 2) rfl (nl rfl) rfl ?_
  intro h14 W15 V16
  have K17 : Keep h h14 [] := K12.wr W15 (Or.inr sz2)
  rw [hn2] at V16
  replace V16 : Arv Z h14 b1 kA1 .char (4 : Int32) [(.int k0), (.int k1), (.int k2), (.int 0)] (.int 0) := V16
  refine Go.dup (pc' := 98) d10_97 rfl rfl ?_
  refine Go.iconst (pc' := 99) (v := (3 : Int32)) d10_98 rfl rfl ?_
  refine Go.aloadN (pc' := 100) d10_99 rfl rfl rfl ?_
  refine Go.iconst (pc' := 101) (v := (3 : Int32)) d10_100 rfl rfl ?_
  refine Go.caload (pc' := 102) (v := k3) (f13.other W15 ne8) d10_101 (by decide) (by decide) rfl rfl ?_
  refine Go.castore (pc' := 103) V16 ge1 d10_102 (by decide) (by decide) (i := 3) rfl (nl rfl) rfl ?_
  intro h18 W19 V20
  have K21 : Keep h h18 [] := K17.wr W19 (Or.inr sz2)
  rw [hn3] at V20
  replace V20 : Arv Z h18 b1 kA1 .char (4 : Int32) [(.int k0), (.int k1), (.int k2), (.int k3)] (.int 0) := V20
  exact Go.retR rfl rfl rfl rfl d10_103 ⟨b1, kA1, rfl, K21, ge1, sz2, V20⟩ (by decide) (by decide)
theorem d10_104 : decode method_6_code 104 = .ok (.iload_n 1, 1) := by decide +kernel
theorem d10_105 : decode method_6_code 105 = .ok (.iconst 5, 1) := by decide +kernel
theorem d10_106 : decode method_6_code 106 = .ok (.if_icmp .ne 37, 3) := by decide +kernel
theorem d10_109 : decode method_6_code 109 = .ok (.iconst 5, 1) := by decide +kernel
theorem d10_110 : decode method_6_code 110 = .ok (.newarray .char, 2) := by decide +kernel
theorem d10_112 : decode method_6_code 112 = .ok (.dup, 1) := by decide +kernel
theorem d10_113 : decode method_6_code 113 = .ok (.iconst 0, 1) := by decide +kernel
theorem d10_114 : decode method_6_code 114 = .ok (.aload_n 0, 1) := by decide +kernel
theorem d10_115 : decode method_6_code 115 = .ok (.iconst 0, 1) := by decide +kernel
theorem d10_116 : decode method_6_code 116 = .ok (.caload, 1) := by decide +kernel
theorem d10_117 : decode method_6_code 117 = .ok (.castore, 1) := by decide +kernel
theorem d10_118 : decode method_6_code 118 = .ok (.dup, 1) := by decide +kernel
theorem d10_119 : decode method_6_code 119 = .ok (.iconst 1, 1) := by decide +kernel
theorem d10_120 : decode method_6_code 120 = .ok (.aload_n 0, 1) := by decide +kernel
theorem d10_121 : decode method_6_code 121 = .ok (.iconst 1, 1) := by decide +kernel
theorem d10_122 : decode method_6_code 122 = .ok (.caload, 1) := by decide +kernel
theorem d10_123 : decode method_6_code 123 = .ok (.castore, 1) := by decide +kernel
theorem d10_124 : decode method_6_code 124 = .ok (.dup, 1) := by decide +kernel
theorem d10_125 : decode method_6_code 125 = .ok (.iconst 2, 1) := by decide +kernel
theorem d10_126 : decode method_6_code 126 = .ok (.aload_n 0, 1) := by decide +kernel
theorem d10_127 : decode method_6_code 127 = .ok (.iconst 2, 1) := by decide +kernel
theorem d10_128 : decode method_6_code 128 = .ok (.caload, 1) := by decide +kernel
theorem d10_129 : decode method_6_code 129 = .ok (.castore, 1) := by decide +kernel
theorem d10_130 : decode method_6_code 130 = .ok (.dup, 1) := by decide +kernel
theorem d10_131 : decode method_6_code 131 = .ok (.iconst 3, 1) := by decide +kernel
theorem d10_132 : decode method_6_code 132 = .ok (.aload_n 0, 1) := by decide +kernel
theorem d10_133 : decode method_6_code 133 = .ok (.iconst 3, 1) := by decide +kernel
theorem d10_134 : decode method_6_code 134 = .ok (.caload, 1) := by decide +kernel
theorem d10_135 : decode method_6_code 135 = .ok (.castore, 1) := by decide +kernel
theorem d10_136 : decode method_6_code 136 = .ok (.dup, 1) := by decide +kernel
theorem d10_137 : decode method_6_code 137 = .ok (.iconst 4, 1) := by decide +kernel
theorem d10_138 : decode method_6_code 138 = .ok (.aload_n 0, 1) := by decide +kernel
theorem d10_139 : decode method_6_code 139 = .ok (.iconst 4, 1) := by decide +kernel
theorem d10_140 : decode method_6_code 140 = .ok (.caload, 1) := by decide +kernel
theorem d10_141 : decode method_6_code 141 = .ok (.castore, 1) := by decide +kernel
theorem d10_142 : decode method_6_code 142 = .ok (.areturn, 1) := by decide +kernel
theorem c_take5 (l : Launch) (Z : State) (a0 : Array Value) (hw : ∀ d ∈ tables_1, d.before a0 Z = true) {n0 : Nat} (h : Heap) (c : Addr) (kc : ClassId) (k0 : Int32) (k1 : Int32) (k2 : Int32) (k3 : Int32) (k4 : Int32) (k5 : Int32) (hn0 : nar .char k0 = k0) (hn1 : nar .char k1 = k1) (hn2 : nar .char k2 = k2) (hn3 : nar .char k3 = k3) (hn4 : nar .char k4 = k4) (v : Arv Z h c kc .char (6 : Int32) [(.int k0), (.int k1), (.int k2), (.int k3), (.int k4), (.int k5)] (.int 0)) :
    Con l (⟨"com/example/huron/huron/io/config/AuthenticatorKindNamedPinLaw", "take", "([CI)[C"⟩ : MethodName) method_6_code 2 (some (.array .char)) ({ frames := 0, cells := 1, slots := 5, locals := 0 } : Room) Z n0 #[(.ref c), (.int (5 : Int32))] h (fun v h' => ∃ d : Addr, ∃ kd : ClassId, v = some (.ref d) ∧ Keep h h' [] ∧ n0 ≤ d ∧ h.size ≤ d ∧ Arv Z h' d kd .char (5 : Int32) [(.int k0), (.int k1), (.int k2), (.int k3), (.int k4)] (.int 0)) := by
  refine Con.of_go (plainFor_of_name pn_2) (Ls := #[.val (.ref c), .val (.int (5 : Int32))]) (fun m => by first | (simp [entryFrame, mkF, argsToLocals, Value.category]; done) | rfl) ?_
  refine Go.iloadN (pc' := 1) d10_0 rfl rfl ?_
  refine Go.ifYes (pc' := 8) d10_1 (XT.i0_ne_t (by decide)) (by decide) (by decide) ?_
  refine Go.iloadN (pc' := 9) d10_8 rfl rfl ?_
  refine Go.iconst (pc' := 10) (v := (1 : Int32)) d10_9 rfl rfl ?_
  refine Go.icmpYes (pc' := 23) d10_10 (XT.ii_ne_t (by decide)) (by decide) (by decide) ?_
  refine Go.iloadN (pc' := 24) d10_23 rfl rfl ?_
  refine Go.iconst (pc' := 25) (v := (2 : Int32)) d10_24 rfl rfl ?_
  refine Go.icmpYes (pc' := 44) d10_25 (XT.ii_ne_t (by decide)) (by decide) (by decide) ?_
  refine Go.iloadN (pc' := 45) d10_44 rfl rfl ?_
  refine Go.iconst (pc' := 46) (v := (3 : Int32)) d10_45 rfl rfl ?_
  refine Go.icmpYes (pc' := 71) d10_46 (XT.ii_ne_t (by decide)) (by decide) (by decide) ?_
  refine Go.iloadN (pc' := 72) d10_71 rfl rfl ?_
  refine Go.iconst (pc' := 73) (v := (4 : Int32)) d10_72 rfl rfl ?_
  refine Go.icmpYes (pc' := 104) d10_73 (XT.ii_ne_t (by decide)) (by decide) (by decide) ?_
  refine Go.iloadN (pc' := 105) d10_104 rfl rfl ?_
  refine Go.iconst (pc' := 106) (v := (5 : Int32)) d10_105 rfl rfl ?_
  refine Go.icmpNo (pc' := 109) d10_106 (XT.ii_ne_f (by decide)) rfl ?_
  refine Go.iconst (pc' := 110) (v := (5 : Int32)) d10_109 rfl rfl ?_
  refine Go.newarray (pc' := 112) (cells' := 1) (slots' := 5) (cap := 5) (ww hw 12 rfl) d10_110 (ad := "[C") (by decide) (by decide) (by decide) rfl rfl (by decide) (by decide) (by decide) rfl ?_
  intro h1 b1 g1 E1 ge1 kA1 A1 X1
  have sz2 : h.size ≤ b1 := Nat.le_trans (Keep.refl h []).1 (Nat.le_of_eq g1.symm)
  have K3 : Keep h h1 [] := (Keep.refl h []).ext E1
  have V1 : Arv Z h1 b1 kA1 .char (5 : Int32) [(.int 0), (.int 0), (.int 0), (.int 0), (.int 0)] (.int 0) := Arv.pad A1 (pad_rep [] (.int 0) 5)
  refine Go.dup (pc' := 113) d10_112 rfl rfl ?_
  refine Go.iconst (pc' := 114) (v := (0 : Int32)) d10_113 rfl rfl ?_
  refine Go.aloadN (pc' := 115) d10_114 rfl rfl rfl ?_
  refine Go.iconst (pc' := 116) (v := (0 : Int32)) d10_115 rfl rfl ?_
  refine Go.caload (pc' := 117) (v := k0) (v.ext E1) d10_116 (by decide) (by decide) rfl rfl ?_
  refine Go.castore (pc' := 118) V1 ge1 d10_117 (by decide) (by decide) (i := 0) rfl (nl rfl) rfl ?_
  intro h4 W5 V6
  have K7 : Keep h h4 [] := K3.wr W5 (Or.inr sz2)
  rw [hn0] at V6
  replace V6 : Arv Z h4 b1 kA1 .char (5 : Int32) [(.int k0), (.int 0), (.int 0), (.int 0), (.int 0)] (.int 0) := V6
  refine Go.dup (pc' := 119) d10_118 rfl rfl ?_
  refine Go.iconst (pc' := 120) (v := (1 : Int32)) d10_119 rfl rfl ?_
  refine Go.aloadN (pc' := 121) d10_120 rfl rfl rfl ?_
  refine Go.iconst (pc' := 122) (v := (1 : Int32)) d10_121 rfl rfl ?_
  have ne8 : c ≠ b1 := (Nat.ne_of_lt (Nat.lt_of_lt_of_le v.lt (Nat.le_of_eq g1.symm)))
  refine Go.caload (pc' := 123) (v := k1) ((v.ext E1).other W5 ne8) d10_122 (by decide) (by decide) rfl rfl ?_
  refine Go.castore (pc' := 124) V6 ge1 d10_123 (by decide) (by decide) (i := 1) rfl (nl rfl) rfl ?_
  intro h9 W10 V11
  have K12 : Keep h h9 [] := K7.wr W10 (Or.inr sz2)
  rw [hn1] at V11
  replace V11 : Arv Z h9 b1 kA1 .char (5 : Int32) [(.int k0), (.int k1), (.int 0), (.int 0), (.int 0)] (.int 0) := V11
  refine Go.dup (pc' := 125) d10_124 rfl rfl ?_
  refine Go.iconst (pc' := 126) (v := (2 : Int32)) d10_125 rfl rfl ?_
  refine Go.aloadN (pc' := 127) d10_126 rfl rfl rfl ?_
  refine Go.iconst (pc' := 128) (v := (2 : Int32)) d10_127 rfl rfl ?_
  have f13 : Arv Z h9 c kc .char (6 : Int32) [(.int k0), (.int k1), (.int k2), (.int k3), (.int k4), (.int k5)] (.int 0) := (((v.ext E1).other W5 ne8).other W10 ne8)
  refine Go.caload (pc' := 129) (v := k2) f13 d10_128 (by decide) (by decide) rfl rfl ?_
  refine Go.castore (pc' := 130) V11 ge1 d10_129 (by decide) (by decide) (i := 2) rfl (nl rfl) rfl ?_
  intro h14 W15 V16
  have K17 : Keep h h14 [] := K12.wr W15 (Or.inr sz2)
  rw [hn2] at V16
  replace V16 : Arv Z h14 b1 kA1 .char (5 : Int32) [(.int k0), (.int k1), (.int k2), (.int 0), (.int 0)] (.int 0) := V16
  refine Go.dup (pc' := 131) d10_130 rfl rfl ?_
  refine Go.iconst (pc' := 132) (v := (3 : Int32)) d10_131 rfl rfl ?_
  refine Go.aloadN (pc' := 133) d10_132 rfl rfl rfl ?_
  refine Go.iconst (pc' := 134) (v := (3 : Int32)) d10_133 rfl rfl ?_
  refine Go.caload (pc' := 135) (v := k3) (f13.other W15 ne8) d10_134 (by decide) (by decide) rfl rfl ?_
  refine Go.castore (pc' := 136) V16 ge1 d10_135 (by decide) (by decide) (i := 3) rfl (nl rfl) rfl ?_
  intro h18 W19 V20
  have K21 : Keep h h18 [] := K17.wr W19 (Or.inr sz2)
  rw [hn3] at V20
  replace V20 : Arv Z h18 b1 kA1 .char (5 : Int32) [(.int k0), (.int k1), (.int k2), (.int k3), (.int 0)] (.int 0) := V20
  refine Go.dup (pc' := 137) d10_136 rfl rfl ?_
  refine Go.iconst (pc' := 138) (v := (4 : Int32)) d10_137 rfl rfl ?_
  refine Go.aloadN (pc' := 139) d10_138 rfl rfl rfl ?_
  refine Go.iconst (pc' := 140) (v := (4 : Int32)) d10_139 rfl rfl ?_
  refine Go.caload (pc' := 141) (v := k4) ((f13.other W15 ne8).other W19 ne8) d10_140 (by decide) (by decide) rfl rfl ?_
  refine Go.castore (pc' := 142) V20 ge1 d10_141 (by decide) (by decide) (i := 4) rfl (nl rfl) rfl ?_
  intro h22 W23 V24
  have K25 : Keep h h22 [] := K21.wr W23 (Or.inr sz2)
  rw [hn4] at V24
  replace V24 : Arv Z h22 b1 kA1 .char (5 : Int32) [(.int k0), (.int k1), (.int k2), (.int k3), (.int k4)] (.int 0) := V24
  exact Go.retR rfl rfl rfl rfl d10_142 ⟨b1, kA1, rfl, K25, ge1, sz2, V24⟩ (by decide) (by decide)
theorem d10_143 : decode method_6_code 143 = .ok (.bipush 6, 2) := by decide +kernel
theorem d10_145 : decode method_6_code 145 = .ok (.newarray .char, 2) := by decide +kernel
theorem d10_147 : decode method_6_code 147 = .ok (.dup, 1) := by decide +kernel
theorem d10_148 : decode method_6_code 148 = .ok (.iconst 0, 1) := by decide +kernel
theorem d10_149 : decode method_6_code 149 = .ok (.aload_n 0, 1) := by decide +kernel
theorem d10_150 : decode method_6_code 150 = .ok (.iconst 0, 1) := by decide +kernel
theorem d10_151 : decode method_6_code 151 = .ok (.caload, 1) := by decide +kernel
theorem d10_152 : decode method_6_code 152 = .ok (.castore, 1) := by decide +kernel
theorem d10_153 : decode method_6_code 153 = .ok (.dup, 1) := by decide +kernel
theorem d10_154 : decode method_6_code 154 = .ok (.iconst 1, 1) := by decide +kernel
theorem d10_155 : decode method_6_code 155 = .ok (.aload_n 0, 1) := by decide +kernel
theorem d10_156 : decode method_6_code 156 = .ok (.iconst 1, 1) := by decide +kernel
theorem d10_157 : decode method_6_code 157 = .ok (.caload, 1) := by decide +kernel
theorem d10_158 : decode method_6_code 158 = .ok (.castore, 1) := by decide +kernel
theorem d10_159 : decode method_6_code 159 = .ok (.dup, 1) := by decide +kernel
theorem d10_160 : decode method_6_code 160 = .ok (.iconst 2, 1) := by decide +kernel
theorem d10_161 : decode method_6_code 161 = .ok (.aload_n 0, 1) := by decide +kernel
theorem d10_162 : decode method_6_code 162 = .ok (.iconst 2, 1) := by decide +kernel
theorem d10_163 : decode method_6_code 163 = .ok (.caload, 1) := by decide +kernel
theorem d10_164 : decode method_6_code 164 = .ok (.castore, 1) := by decide +kernel
theorem d10_165 : decode method_6_code 165 = .ok (.dup, 1) := by decide +kernel
theorem d10_166 : decode method_6_code 166 = .ok (.iconst 3, 1) := by decide +kernel
theorem d10_167 : decode method_6_code 167 = .ok (.aload_n 0, 1) := by decide +kernel
theorem d10_168 : decode method_6_code 168 = .ok (.iconst 3, 1) := by decide +kernel
theorem d10_169 : decode method_6_code 169 = .ok (.caload, 1) := by decide +kernel
theorem d10_170 : decode method_6_code 170 = .ok (.castore, 1) := by decide +kernel
theorem d10_171 : decode method_6_code 171 = .ok (.dup, 1) := by decide +kernel
theorem d10_172 : decode method_6_code 172 = .ok (.iconst 4, 1) := by decide +kernel
theorem d10_173 : decode method_6_code 173 = .ok (.aload_n 0, 1) := by decide +kernel
theorem d10_174 : decode method_6_code 174 = .ok (.iconst 4, 1) := by decide +kernel
theorem d10_175 : decode method_6_code 175 = .ok (.caload, 1) := by decide +kernel
theorem d10_176 : decode method_6_code 176 = .ok (.castore, 1) := by decide +kernel
theorem d10_177 : decode method_6_code 177 = .ok (.dup, 1) := by decide +kernel
theorem d10_178 : decode method_6_code 178 = .ok (.iconst 5, 1) := by decide +kernel
theorem d10_179 : decode method_6_code 179 = .ok (.aload_n 0, 1) := by decide +kernel
theorem d10_180 : decode method_6_code 180 = .ok (.iconst 5, 1) := by decide +kernel
theorem d10_181 : decode method_6_code 181 = .ok (.caload, 1) := by decide +kernel
theorem d10_182 : decode method_6_code 182 = .ok (.castore, 1) := by decide +kernel
theorem d10_183 : decode method_6_code 183 = .ok (.areturn, 1) := by decide +kernel
theorem c_take6 (l : Launch) (Z : State) (a0 : Array Value) (hw : ∀ d ∈ tables_1, d.before a0 Z = true) {n0 : Nat} (h : Heap) (c : Addr) (kc : ClassId) (k0 : Int32) (k1 : Int32) (k2 : Int32) (k3 : Int32) (k4 : Int32) (k5 : Int32) (hn0 : nar .char k0 = k0) (hn1 : nar .char k1 = k1) (hn2 : nar .char k2 = k2) (hn3 : nar .char k3 = k3) (hn4 : nar .char k4 = k4) (hn5 : nar .char k5 = k5) (v : Arv Z h c kc .char (6 : Int32) [(.int k0), (.int k1), (.int k2), (.int k3), (.int k4), (.int k5)] (.int 0)) :
    Con l (⟨"com/example/huron/huron/io/config/AuthenticatorKindNamedPinLaw", "take", "([CI)[C"⟩ : MethodName) method_6_code 2 (some (.array .char)) ({ frames := 0, cells := 1, slots := 6, locals := 0 } : Room) Z n0 #[(.ref c), (.int (6 : Int32))] h (fun v h' => ∃ d : Addr, ∃ kd : ClassId, v = some (.ref d) ∧ Keep h h' [] ∧ n0 ≤ d ∧ h.size ≤ d ∧ Arv Z h' d kd .char (6 : Int32) [(.int k0), (.int k1), (.int k2), (.int k3), (.int k4), (.int k5)] (.int 0)) := by
  refine Con.of_go (plainFor_of_name pn_2) (Ls := #[.val (.ref c), .val (.int (6 : Int32))]) (fun m => by first | (simp [entryFrame, mkF, argsToLocals, Value.category]; done) | rfl) ?_
  refine Go.iloadN (pc' := 1) d10_0 rfl rfl ?_
  refine Go.ifYes (pc' := 8) d10_1 (XT.i0_ne_t (by decide)) (by decide) (by decide) ?_
  refine Go.iloadN (pc' := 9) d10_8 rfl rfl ?_
  refine Go.iconst (pc' := 10) (v := (1 : Int32)) d10_9 rfl rfl ?_
  refine Go.icmpYes (pc' := 23) d10_10 (XT.ii_ne_t (by decide)) (by decide) (by decide) ?_
  refine Go.iloadN (pc' := 24) d10_23 rfl rfl ?_
  refine Go.iconst (pc' := 25) (v := (2 : Int32)) d10_24 rfl rfl ?_
  refine Go.icmpYes (pc' := 44) d10_25 (XT.ii_ne_t (by decide)) (by decide) (by decide) ?_
  refine Go.iloadN (pc' := 45) d10_44 rfl rfl ?_
  refine Go.iconst (pc' := 46) (v := (3 : Int32)) d10_45 rfl rfl ?_
  refine Go.icmpYes (pc' := 71) d10_46 (XT.ii_ne_t (by decide)) (by decide) (by decide) ?_
  refine Go.iloadN (pc' := 72) d10_71 rfl rfl ?_
  refine Go.iconst (pc' := 73) (v := (4 : Int32)) d10_72 rfl rfl ?_
  refine Go.icmpYes (pc' := 104) d10_73 (XT.ii_ne_t (by decide)) (by decide) (by decide) ?_
  refine Go.iloadN (pc' := 105) d10_104 rfl rfl ?_
  refine Go.iconst (pc' := 106) (v := (5 : Int32)) d10_105 rfl rfl ?_
  refine Go.icmpYes (pc' := 143) d10_106 (XT.ii_ne_t (by decide)) (by decide) (by decide) ?_
  refine Go.bipush (pc' := 145) (v := (6 : Int32)) d10_143 rfl rfl ?_
  refine Go.newarray (pc' := 147) (cells' := 1) (slots' := 6) (cap := 6) (ww hw 12 rfl) d10_145 (ad := "[C") (by decide) (by decide) (by decide) rfl rfl (by decide) (by decide) (by decide) rfl ?_
  intro h1 b1 g1 E1 ge1 kA1 A1 X1
  have sz2 : h.size ≤ b1 := Nat.le_trans (Keep.refl h []).1 (Nat.le_of_eq g1.symm)
  have K3 : Keep h h1 [] := (Keep.refl h []).ext E1
  have V1 : Arv Z h1 b1 kA1 .char (6 : Int32) [(.int 0), (.int 0), (.int 0), (.int 0), (.int 0), (.int 0)] (.int 0) := Arv.pad A1 (pad_rep [] (.int 0) 6)
  refine Go.dup (pc' := 148) d10_147 rfl rfl ?_
  refine Go.iconst (pc' := 149) (v := (0 : Int32)) d10_148 rfl rfl ?_
  refine Go.aloadN (pc' := 150) d10_149 rfl rfl rfl ?_
  refine Go.iconst (pc' := 151) (v := (0 : Int32)) d10_150 rfl rfl ?_
  refine Go.caload (pc' := 152) (v := k0) (v.ext E1) d10_151 (by decide) (by decide) rfl rfl ?_
  refine Go.castore (pc' := 153) V1 ge1 d10_152 (by decide) (by decide) (i := 0) rfl (nl rfl) rfl ?_
  intro h4 W5 V6
  have K7 : Keep h h4 [] := K3.wr W5 (Or.inr sz2)
  rw [hn0] at V6
  replace V6 : Arv Z h4 b1 kA1 .char (6 : Int32) [(.int k0), (.int 0), (.int 0), (.int 0), (.int 0), (.int 0)] (.int 0) := V6
  refine Go.dup (pc' := 154) d10_153 rfl rfl ?_
  refine Go.iconst (pc' := 155) (v := (1 : Int32)) d10_154 rfl rfl ?_
  refine Go.aloadN (pc' := 156) d10_155 rfl rfl rfl ?_
  refine Go.iconst (pc' := 157) (v := (1 : Int32)) d10_156 rfl rfl ?_
  have ne8 : c ≠ b1 := (Nat.ne_of_lt (Nat.lt_of_lt_of_le v.lt (Nat.le_of_eq g1.symm)))
  refine Go.caload (pc' := 158) (v := k1) ((v.ext E1).other W5 ne8) d10_157 (by decide) (by decide) rfl rfl ?_
  refine Go.castore (pc' := 159) V6 ge1 d10_158 (by decide) (by decide) (i := 1) rfl (nl rfl) rfl ?_
  intro h9 W10 V11
  have K12 : Keep h h9 [] := K7.wr W10 (Or.inr sz2)
  rw [hn1] at V11
  replace V11 : Arv Z h9 b1 kA1 .char (6 : Int32) [(.int k0), (.int k1), (.int 0), (.int 0), (.int 0), (.int 0)] (.int 0) := V11
  refine Go.dup (pc' := 160) d10_159 rfl rfl ?_
  refine Go.iconst (pc' := 161) (v := (2 : Int32)) d10_160 rfl rfl ?_
  refine Go.aloadN (pc' := 162) d10_161 rfl rfl rfl ?_
  refine Go.iconst (pc' := 163) (v := (2 : Int32)) d10_162 rfl rfl ?_
  have f13 : Arv Z h9 c kc .char (6 : Int32) [(.int k0), (.int k1), (.int k2), (.int k3), (.int k4), (.int k5)] (.int 0) := (((v.ext E1).other W5 ne8).other W10 ne8)
  refine Go.caload (pc' := 164) (v := k2) f13 d10_163 (by decide) (by decide) rfl rfl ?_
  refine Go.castore (pc' := 165) V11 ge1 d10_164 (by decide) (by decide) (i := 2) rfl (nl rfl) rfl ?_
  intro h14 W15 V16
  have K17 : Keep h h14 [] := K12.wr W15 (Or.inr sz2)
  rw [hn2] at V16
  replace V16 : Arv Z h14 b1 kA1 .char (6 : Int32) [(.int k0), (.int k1), (.int k2), (.int 0), (.int 0), (.int 0)] (.int 0) := V16
  refine Go.dup (pc' := 166) d10_165 rfl rfl ?_
  refine Go.iconst (pc' := 167) (v := (3 : Int32)) d10_166 rfl rfl ?_
  refine Go.aloadN (pc' := 168) d10_167 rfl rfl rfl ?_
  refine Go.iconst (pc' := 169) (v := (3 : Int32)) d10_168 rfl rfl ?_
  refine Go.caload (pc' := 170) (v := k3) (f13.other W15 ne8) d10_169 (by decide) (by decide) rfl rfl ?_
  refine Go.castore (pc' := 171) V16 ge1 d10_170 (by decide) (by decide) (i := 3) rfl (nl rfl) rfl ?_
  intro h18 W19 V20
  have K21 : Keep h h18 [] := K17.wr W19 (Or.inr sz2)
  rw [hn3] at V20
  replace V20 : Arv Z h18 b1 kA1 .char (6 : Int32) [(.int k0), (.int k1), (.int k2), (.int k3), (.int 0), (.int 0)] (.int 0) := V20
  refine Go.dup (pc' := 172) d10_171 rfl rfl ?_
  refine Go.iconst (pc' := 173) (v := (4 : Int32)) d10_172 rfl rfl ?_
  refine Go.aloadN (pc' := 174) d10_173 rfl rfl rfl ?_
  refine Go.iconst (pc' := 175) (v := (4 : Int32)) d10_174 rfl rfl ?_
  refine Go.caload (pc' := 176) (v := k4) ((f13.other W15 ne8).other W19 ne8) d10_175 (by decide) (by decide) rfl rfl ?_
  refine Go.castore (pc' := 177) V20 ge1 d10_176 (by decide) (by decide) (i := 4) rfl (nl rfl) rfl ?_
  intro h22 W23 V24
  have K25 : Keep h h22 [] := K21.wr W23 (Or.inr sz2)
  rw [hn4] at V24
  replace V24 : Arv Z h22 b1 kA1 .char (6 : Int32) [(.int k0), (.int k1), (.int k2), (.int k3), (.int k4), (.int 0)] (.int 0) := V24
  refine Go.dup (pc' := 178) d10_177 rfl rfl ?_
  refine Go.iconst (pc' := 179) (v := (5 : Int32)) d10_178 rfl rfl ?_
  refine Go.aloadN (pc' := 180) d10_179 rfl rfl rfl ?_
  refine Go.iconst (pc' := 181) (v := (5 : Int32)) d10_180 rfl rfl ?_
  have f26 : Arv Z h22 c kc .char (6 : Int32) [(.int k0), (.int k1), (.int k2), (.int k3), (.int k4), (.int k5)] (.int 0) := (((f13.other W15 ne8).other W19 ne8).other W23 ne8)
  refine Go.caload (pc' := 182) (v := k5) f26 d10_181 (by decide) (by decide) rfl rfl ?_
  refine Go.castore (pc' := 183) V24 ge1 d10_182 (by decide) (by decide) (i := 5) rfl (nl rfl) rfl ?_
  intro h27 W28 V29
  have K30 : Keep h h27 [] := K25.wr W28 (Or.inr sz2)
  rw [hn5] at V29
  replace V29 : Arv Z h27 b1 kA1 .char (6 : Int32) [(.int k0), (.int k1), (.int k2), (.int k3), (.int k4), (.int k5)] (.int 0) := V29
  exact Go.retR rfl rfl rfl rfl d10_183 ⟨b1, kA1, rfl, K30, ge1, sz2, V29⟩ (by decide) (by decide)
theorem d15_0 : decode jdk_52_method_21_code 0 = .ok (.iconst 0, 1) := by decide +kernel
theorem d15_1 : decode jdk_52_method_21_code 1 = .ok (.istore 5, 2) := by decide +kernel
theorem d15_3 : decode jdk_52_method_21_code 3 = .ok (.iload 5, 2) := by decide +kernel
theorem d15_5 : decode jdk_52_method_21_code 5 = .ok (.iload 4, 2) := by decide +kernel
theorem d15_7 : decode jdk_52_method_21_code 7 = .ok (.if_icmp .ge 37, 3) := by decide +kernel
theorem d15_10 : decode jdk_52_method_21_code 10 = .ok (.aload_n 0, 1) := by decide +kernel
theorem d15_11 : decode jdk_52_method_21_code 11 = .ok (.iload_n 1, 1) := by decide +kernel
theorem d15_12 : decode jdk_52_method_21_code 12 = .ok (.caload, 1) := by decide +kernel
theorem d15_13 : decode jdk_52_method_21_code 13 = .ok (.istore 6, 2) := by decide +kernel
theorem d15_15 : decode jdk_52_method_21_code 15 = .ok (.iload 6, 2) := by decide +kernel
theorem d15_17 : decode jdk_52_method_21_code 17 = .ok (.sipush 255, 3) := by decide +kernel
theorem d15_20 : decode jdk_52_method_21_code 20 = .ok (.if_icmp .le 6, 3) := by decide +kernel
theorem d15_26 : decode jdk_52_method_21_code 26 = .ok (.aload_n 2, 1) := by decide +kernel
theorem d15_27 : decode jdk_52_method_21_code 27 = .ok (.iload_n 3, 1) := by decide +kernel
theorem d15_28 : decode jdk_52_method_21_code 28 = .ok (.iload 6, 2) := by decide +kernel
theorem d15_30 : decode jdk_52_method_21_code 30 = .ok (.i2b, 1) := by decide +kernel
theorem d15_31 : decode jdk_52_method_21_code 31 = .ok (.bastore, 1) := by decide +kernel
theorem d15_32 : decode jdk_52_method_21_code 32 = .ok (.iinc 1 1, 3) := by decide +kernel
theorem d15_35 : decode jdk_52_method_21_code 35 = .ok (.iinc 3 1, 3) := by decide +kernel
theorem d15_38 : decode jdk_52_method_21_code 38 = .ok (.iinc 5 1, 3) := by decide +kernel
theorem d15_41 : decode jdk_52_method_21_code 41 = .ok (.goto (-38), 3) := by decide +kernel
theorem d15_44 : decode jdk_52_method_21_code 44 = .ok (.iload 4, 2) := by decide +kernel
theorem d15_46 : decode jdk_52_method_21_code 46 = .ok (.ireturn, 1) := by decide +kernel
theorem pn_4 : plainName "java/lang/StringUTF16" = true := by first | (simp [plainName, overriddenIn]; done) | decide +kernel
theorem c_strComp1 (l : Launch) (Z : State) (a0 : Array Value) (hw : ∀ d ∈ tables_1, d.before a0 Z = true) {n0 : Nat} (h : Heap) (t : Addr) (kt : ClassId) (b : Addr) (kb : ClassId) (k0 : Int32) (hk0 : ¬ ((255 : Int32) < k0)) (ge_b : n0 ≤ b) (ne_t_b : t ≠ b) (vt : Arv Z h t kt .char (1 : Int32) [(.int k0)] (.int 0)) (vb : Arv Z h b kb .byte (1 : Int32) [(.int 0)] (.int 0)) :
    Con l (⟨"java/lang/StringUTF16", "compress", "([CI[BII)I"⟩ : MethodName) jdk_52_method_21_code 7 (some .int) ({ frames := 0, cells := 0, slots := 0, locals := 0 } : Room) Z n0 #[(.ref t), (.int (0 : Int32)), (.ref b), (.int (0 : Int32)), (.int (1 : Int32))] h (fun v h' => v = some (.int (1 : Int32)) ∧ Keep h h' [b] ∧ Arv Z h' b kb .byte (1 : Int32) [(.int k0.toInt8.toInt32)] (.int 0)) := by
  refine Con.of_go (plainFor_of_name pn_4) (Ls := #[.val (.ref t), .val (.int (0 : Int32)), .val (.ref b), .val (.int (0 : Int32)), .val (.int (1 : Int32)), .unset, .unset]) (fun m => by first | (simp [entryFrame, mkF, argsToLocals, Value.category]; done) | rfl) ?_
  refine Go.iconst (pc' := 1) (v := (0 : Int32)) d15_0 rfl rfl ?_
  refine Go.istore (pc' := 3) (Ls' := #[.val (.ref t), .val (.int (0 : Int32)), .val (.ref b), .val (.int (0 : Int32)), .val (.int (1 : Int32)), .val (.int (0 : Int32)), .unset]) d15_1 rfl rfl ?_
  refine Go.iload (pc' := 5) d15_3 rfl rfl ?_
  refine Go.iload (pc' := 7) d15_5 rfl rfl ?_
  refine Go.icmpNo (pc' := 10) d15_7 (XT.ii_ge_f (by decide)) rfl ?_
  refine Go.aloadN (pc' := 11) d15_10 rfl rfl rfl ?_
  refine Go.iloadN (pc' := 12) d15_11 rfl rfl ?_
  refine Go.caload (pc' := 13) (v := k0) vt d15_12 (by decide) (by decide) rfl rfl ?_
  refine Go.istore (pc' := 15) (Ls' := #[.val (.ref t), .val (.int (0 : Int32)), .val (.ref b), .val (.int (0 : Int32)), .val (.int (1 : Int32)), .val (.int (0 : Int32)), .val (.int k0)]) d15_13 rfl rfl ?_
  refine Go.iload (pc' := 17) d15_15 rfl rfl ?_
  refine Go.sipush (pc' := 20) (v := (255 : Int32)) d15_17 rfl rfl ?_
  refine Go.icmpYes (pc' := 26) d15_20 (XT.ii_le_t hk0) (by decide) (by decide) ?_
  refine Go.aloadN (pc' := 27) d15_26 rfl rfl rfl ?_
  refine Go.iloadN (pc' := 28) d15_27 rfl rfl ?_
  refine Go.iload (pc' := 30) d15_28 rfl rfl ?_
  refine Go.i2b (pc' := 31) d15_30 rfl ?_
  refine Go.bastore (pc' := 32) vb ge_b d15_31 (by decide) (by decide) (i := 0) rfl (nl rfl) rfl ?_
  intro h1 W2 V3
  have K4 : Keep h h1 [b] := (Keep.refl h [b]).wr W2 (Or.inl (List.mem_of_getElem? (i := 0) rfl))
  rw [OwnNum.b8] at V3
  replace V3 : Arv Z h1 b kb .byte (1 : Int32) [(.int k0.toInt8.toInt32)] (.int 0) := V3
  refine Go.iinc (pc' := 35) (Ls' := #[.val (.ref t), .val (.int ((0 : Int32) + (1 : Int32))), .val (.ref b), .val (.int (0 : Int32)), .val (.int (1 : Int32)), .val (.int (0 : Int32)), .val (.int k0)]) (w := (1 : Int32)) d15_32 rfl rfl rfl rfl ?_
  show Go _ _ _ _ _ _ _ _ _ _ _ _ 35 #[.val (.ref t), .val (.int (1 : Int32)), .val (.ref b), .val (.int (0 : Int32)), .val (.int (1 : Int32)), .val (.int (0 : Int32)), .val (.int k0)] []
  refine Go.iinc (pc' := 38) (Ls' := #[.val (.ref t), .val (.int (1 : Int32)), .val (.ref b), .val (.int ((0 : Int32) + (1 : Int32))), .val (.int (1 : Int32)), .val (.int (0 : Int32)), .val (.int k0)]) (w := (1 : Int32)) d15_35 rfl rfl rfl rfl ?_
  show Go _ _ _ _ _ _ _ _ _ _ _ _ 38 #[.val (.ref t), .val (.int (1 : Int32)), .val (.ref b), .val (.int (1 : Int32)), .val (.int (1 : Int32)), .val (.int (0 : Int32)), .val (.int k0)] []
  refine Go.iinc (pc' := 41) (Ls' := #[.val (.ref t), .val (.int (1 : Int32)), .val (.ref b), .val (.int (1 : Int32)), .val (.int (1 : Int32)), .val (.int ((0 : Int32) + (1 : Int32))), .val (.int k0)]) (w := (1 : Int32)) d15_38 rfl rfl rfl rfl ?_
  show Go _ _ _ _ _ _ _ _ _ _ _ _ 41 #[.val (.ref t), .val (.int (1 : Int32)), .val (.ref b), .val (.int (1 : Int32)), .val (.int (1 : Int32)), .val (.int (1 : Int32)), .val (.int k0)] []
  refine Go.goto (pc' := 3) d15_41 (by decide) (by decide) ?_
  refine Go.iload (pc' := 5) d15_3 rfl rfl ?_
  refine Go.iload (pc' := 7) d15_5 rfl rfl ?_
  refine Go.icmpYes (pc' := 44) d15_7 (XT.ii_ge_t (by decide)) (by decide) (by decide) ?_
  refine Go.iload (pc' := 46) d15_44 rfl rfl ?_
  exact Go.retI rfl d15_46 ⟨rfl, K4, V3⟩ (by decide) (by decide)
theorem d14_0 : decode jdk_52_method_16_code 0 = .ok (.iload_n 2, 1) := by decide +kernel
theorem d14_1 : decode jdk_52_method_16_code 1 = .ok (.newarray .byte, 2) := by decide +kernel
theorem d14_3 : decode jdk_52_method_16_code 3 = .ok (.astore_n 3, 1) := by decide +kernel
theorem d14_4 : decode jdk_52_method_16_code 4 = .ok (.aload_n 0, 1) := by decide +kernel
theorem d14_5 : decode jdk_52_method_16_code 5 = .ok (.iload_n 1, 1) := by decide +kernel
theorem d14_6 : decode jdk_52_method_16_code 6 = .ok (.aload_n 3, 1) := by decide +kernel
theorem d14_7 : decode jdk_52_method_16_code 7 = .ok (.iconst 0, 1) := by decide +kernel
theorem d14_8 : decode jdk_52_method_16_code 8 = .ok (.iload_n 2, 1) := by decide +kernel
theorem d14_9 : decode jdk_52_method_16_code 9 = .ok (.invokestatic 115, 3) := by decide +kernel
theorem d14_12 : decode jdk_52_method_16_code 12 = .ok (.istore 4, 2) := by decide +kernel
theorem d14_14 : decode jdk_52_method_16_code 14 = .ok (.iload 4, 2) := by decide +kernel
theorem d14_16 : decode jdk_52_method_16_code 16 = .ok (.iload_n 2, 1) := by decide +kernel
theorem d14_17 : decode jdk_52_method_16_code 17 = .ok (.if_icmp .eq 40, 3) := by decide +kernel
theorem d14_57 : decode jdk_52_method_16_code 57 = .ok (.aload_n 3, 1) := by decide +kernel
theorem d14_58 : decode jdk_52_method_16_code 58 = .ok (.areturn, 1) := by decide +kernel
theorem pd_7 : parseMethodDescriptor "([CI[BII)I" = some ⟨[(.array .char), .int, (.array .byte), .int, .int], some .int⟩ := by decide +kernel
theorem c_strComp2_1 (l : Launch) (Z : State) (a0 : Array Value) (hw : ∀ d ∈ tables_1, d.before a0 Z = true) {n0 : Nat} (h : Heap) (t : Addr) (kt : ClassId) (k0 : Int32) (hk0 : ¬ ((255 : Int32) < k0)) (vt : Arv Z h t kt .char (1 : Int32) [(.int k0)] (.int 0)) :
    Con l (⟨"java/lang/StringUTF16", "compress", "([CII)[B"⟩ : MethodName) jdk_52_method_16_code 6 (some (.array .byte)) ({ frames := 1, cells := 1, slots := 1, locals := 18 } : Room) Z n0 #[(.ref t), (.int (0 : Int32)), (.int (1 : Int32))] h (fun v h' => ∃ b : Addr, ∃ kb : ClassId, v = some (.ref b) ∧ Keep h h' [] ∧ n0 ≤ b ∧ h.size ≤ b ∧ Arv Z h' b kb .byte (1 : Int32) [(.int k0.toInt8.toInt32)] (.int 0)) := by
  refine Con.of_go (plainFor_of_name pn_4) (Ls := #[.val (.ref t), .val (.int (0 : Int32)), .val (.int (1 : Int32)), .unset, .unset, .unset]) (fun m => by first | (simp [entryFrame, mkF, argsToLocals, Value.category]; done) | rfl) ?_
  refine Go.iloadN (pc' := 1) d14_0 rfl rfl ?_
  refine Go.newarray (pc' := 3) (cells' := 1) (slots' := 1) (cap := 1) (ww hw 7 rfl) d14_1 (ad := "[B") (by decide) (by decide) (by decide) rfl rfl (by decide) (by decide) (by decide) rfl ?_
  intro h1 b1 g1 E1 ge1 kA1 A1 X1
  have sz2 : h.size ≤ b1 := Nat.le_trans (Keep.refl h []).1 (Nat.le_of_eq g1.symm)
  have K3 : Keep h h1 [] := (Keep.refl h []).ext E1
  have V1 : Arv Z h1 b1 kA1 .byte (1 : Int32) [(.int 0)] (.int 0) := Arv.pad A1 (pad_rep [] (.int 0) 1)
  refine Go.astoreN (pc' := 4) (Ls' := #[.val (.ref t), .val (.int (0 : Int32)), .val (.int (1 : Int32)), .val (.ref b1), .unset, .unset]) d14_3 rfl rfl rfl ?_
  refine Go.aloadN (pc' := 5) d14_4 rfl rfl rfl ?_
  refine Go.iloadN (pc' := 6) d14_5 rfl rfl ?_
  refine Go.aloadN (pc' := 7) d14_6 rfl rfl rfl ?_
  refine Go.iconst (pc' := 8) (v := (0 : Int32)) d14_7 rfl rfl ?_
  refine Go.iloadN (pc' := 9) d14_8 rfl rfl ?_
  have ne4 : t ≠ b1 := (Nat.ne_of_lt (Nat.lt_of_lt_of_le vt.lt (Nat.le_of_eq g1.symm)))
  refine Go.callS (cells' := 1) (slots' := 1) (pc' := 12) [(.ref t), (.int (0 : Int32)), (.ref b1), (.int (0 : Int32)), (.int (1 : Int32))] [] (ww hw 70 rfl) (ww hw 71 rfl) (ww hw 68 rfl) (ww hw 72 rfl) (by decide) (c_strComp1 l Z a0 hw h1 t kt b1 kA1 k0 hk0 ge1 ne4 (vt.ext E1) V1) pd_7 rfl rfl rfl rfl rfl (nl rfl) (nl rfl) (nl rfl) (nl rfl) d14_9 rfl ?_
  rintro _ h5 ⟨rfl, K5, F5_0⟩
  have K6 : Keep h h5 [] := K3.trans K5 (allS (Or.inr sz2) all0)
  show Go _ _ _ _ _ _ _ _ _ _ _ _ 12 #[.val (.ref t), .val (.int (0 : Int32)), .val (.int (1 : Int32)), .val (.ref b1), .unset, .unset] [(.int (1 : Int32))]
  refine Go.istore (pc' := 14) (Ls' := #[.val (.ref t), .val (.int (0 : Int32)), .val (.int (1 : Int32)), .val (.ref b1), .val (.int (1 : Int32)), .unset]) d14_12 rfl rfl ?_
  refine Go.iload (pc' := 16) d14_14 rfl rfl ?_
  refine Go.iloadN (pc' := 17) d14_16 rfl rfl ?_
  refine Go.icmpYes (pc' := 57) d14_17 (XT.ii_eq_t (by decide)) (by decide) (by decide) ?_
  refine Go.aloadN (pc' := 58) d14_57 rfl rfl rfl ?_
  exact Go.retR rfl rfl rfl rfl d14_58 ⟨b1, kA1, rfl, K6, ge1, sz2, F5_0⟩ (by decide) (by decide)
theorem d16_0 : decode jdk_52_method_15_code 0 = .ok (.iload_n 1, 1) := by decide +kernel
theorem d16_1 : decode jdk_52_method_15_code 1 = .ok (.aload_n 0, 1) := by decide +kernel
theorem d16_2 : decode jdk_52_method_15_code 2 = .ok (.arraylength, 1) := by decide +kernel
theorem d16_3 : decode jdk_52_method_15_code 3 = .ok (.isub, 1) := by decide +kernel
theorem d16_4 : decode jdk_52_method_15_code 4 = .ok (.bipush 31, 2) := by decide +kernel
theorem d16_6 : decode jdk_52_method_15_code 6 = .ok (.iushr, 1) := by decide +kernel
theorem d16_7 : decode jdk_52_method_15_code 7 = .ok (.i2b, 1) := by decide +kernel
theorem d16_8 : decode jdk_52_method_15_code 8 = .ok (.ireturn, 1) := by decide +kernel
theorem c_strCoder1 (l : Launch) (Z : State) (a0 : Array Value) (hw : ∀ d ∈ tables_1, d.before a0 Z = true) {n0 : Nat} (h : Heap) (b : Addr) (kb : ClassId) (k0 : Int32) (vb : Arv Z h b kb .byte (1 : Int32) [(.int k0.toInt8.toInt32)] (.int 0)) :
    Con l (⟨"java/lang/StringUTF16", "coderFromArrayLen", "([BI)B"⟩ : MethodName) jdk_52_method_15_code 2 (some .byte) ({ frames := 0, cells := 0, slots := 0, locals := 0 } : Room) Z n0 #[(.ref b), (.int (1 : Int32))] h (fun v h' => v = some (.int (0 : Int32)) ∧ h = h') := by
  refine Con.of_go (plainFor_of_name pn_4) (Ls := #[.val (.ref b), .val (.int (1 : Int32))]) (fun m => by first | (simp [entryFrame, mkF, argsToLocals, Value.category]; done) | rfl) ?_
  refine Go.iloadN (pc' := 1) d16_0 rfl rfl ?_
  refine Go.aloadN (pc' := 2) d16_1 rfl rfl rfl ?_
  refine Go.arraylength (pc' := 3) vb d16_2 rfl ?_
  refine Go.isub (pc' := 4) d16_3 rfl ?_
  show Go _ _ _ _ _ _ _ _ _ _ _ _ 4 #[.val (.ref b), .val (.int (1 : Int32))] [(.int (0 : Int32))]
  refine Go.bipush (pc' := 6) (v := (31 : Int32)) d16_4 rfl rfl ?_
  refine Go.iushr (pc' := 7) d16_6 rfl ?_
  show Go _ _ _ _ _ _ _ _ _ _ _ _ 7 #[.val (.ref b), .val (.int (1 : Int32))] [(.int (0 : Int32))]
  refine Go.i2b (pc' := 8) d16_7 rfl ?_
  show Go _ _ _ _ _ _ _ _ _ _ _ _ 8 #[.val (.ref b), .val (.int (1 : Int32))] [(.int (0 : Int32))]
  exact Go.retN (t := .byte) rfl (by simp) d16_8 ⟨rfl, rfl⟩ (by decide) (by decide)
theorem d12_0 : decode jdk_42_method_149_code 0 = .ok (.aload_n 0, 1) := by decide +kernel
theorem d12_1 : decode jdk_42_method_149_code 1 = .ok (.invokespecial 1, 3) := by decide +kernel
theorem d12_4 : decode jdk_42_method_149_code 4 = .ok (.iload_n 3, 1) := by decide +kernel
theorem d12_5 : decode jdk_42_method_149_code 5 = .ok (.ifCond .ne 22, 3) := by decide +kernel
theorem d12_27 : decode jdk_42_method_149_code 27 = .ok (.getstatic 38, 3) := by decide +kernel
theorem d12_30 : decode jdk_42_method_149_code 30 = .ok (.ifCond .eq 28, 3) := by decide +kernel
theorem d12_33 : decode jdk_42_method_149_code 33 = .ok (.aload_n 1, 1) := by decide +kernel
theorem d12_34 : decode jdk_42_method_149_code 34 = .ok (.iload_n 2, 1) := by decide +kernel
theorem d12_35 : decode jdk_42_method_149_code 35 = .ok (.iload_n 3, 1) := by decide +kernel
theorem d12_36 : decode jdk_42_method_149_code 36 = .ok (.invokestatic 177, 3) := by decide +kernel
theorem d12_39 : decode jdk_42_method_149_code 39 = .ok (.astore 5, 2) := by decide +kernel
theorem d12_41 : decode jdk_42_method_149_code 41 = .ok (.aload_n 0, 1) := by decide +kernel
theorem d12_42 : decode jdk_42_method_149_code 42 = .ok (.aload 5, 2) := by decide +kernel
theorem d12_44 : decode jdk_42_method_149_code 44 = .ok (.iload_n 3, 1) := by decide +kernel
theorem d12_45 : decode jdk_42_method_149_code 45 = .ok (.invokestatic 47, 3) := by decide +kernel
theorem d12_48 : decode jdk_42_method_149_code 48 = .ok (.putfield 15, 3) := by decide +kernel
theorem d12_51 : decode jdk_42_method_149_code 51 = .ok (.aload_n 0, 1) := by decide +kernel
theorem d12_52 : decode jdk_42_method_149_code 52 = .ok (.aload 5, 2) := by decide +kernel
theorem d12_54 : decode jdk_42_method_149_code 54 = .ok (.putfield 9, 3) := by decide +kernel
theorem d12_57 : decode jdk_42_method_149_code 57 = .ok (.return_, 1) := by decide +kernel
theorem pd_8 : parseMethodDescriptor "([CII)[B" = some ⟨[(.array .char), .int, .int], some (.array .byte)⟩ := by decide +kernel
theorem pd_9 : parseMethodDescriptor "([BI)B" = some ⟨[(.array .byte), .int], some .byte⟩ := by decide +kernel
theorem c_strInit4_1 (l : Launch) (Z : State) (a0 : Array Value) (hw : ∀ d ∈ tables_1, d.before a0 Z = true) {n0 : Nat} (h : Heap) (a : Addr) (t : Addr) (kt : ClassId) (k0 : Int32) (cp : Int32) (hk0 : ¬ ((255 : Int32) < k0)) (hcp : ¬ (cp = (0 : Int32))) (scp : Sta Z Z.heap "java/lang/String" "COMPACT_STRINGS" "Z" (.int cp)) (ge_a : n0 ≤ a) (xa : Exa Z h a "java/lang/String") (pf0 : Fld Z h a "java/lang/String" "value" "[B" .null) (pf1 : Fld Z h a "java/lang/String" "coder" "B" (.int (0 : Int32))) (vt : Arv Z h t kt .char (1 : Int32) [(.int k0)] (.int 0)) :
    Con l (⟨"java/lang/String", "<init>", "([CIILjava/lang/Void;)V"⟩ : MethodName) jdk_42_method_149_code 6 none ({ frames := 2, cells := 1, slots := 1, locals := 35 } : Room) Z n0 #[(.ref a), (.ref t), (.int (0 : Int32)), (.int (1 : Int32)), .null] h (fun v h' => ∃ b : Addr, ∃ kb : ClassId, v = none ∧ Keep h h' [a] ∧ n0 ≤ b ∧ h.size ≤ b ∧ Fld Z h' a "java/lang/String" "value" "[B" (.ref b) ∧ Fld Z h' a "java/lang/String" "coder" "B" (.int (0 : Int32)) ∧ Arv Z h' b kb .byte (1 : Int32) [(.int k0.toInt8.toInt32)] (.int 0)) := by
  refine Con.of_go (plainFor_of_name pn_0) (Ls := #[.val (.ref a), .val (.ref t), .val (.int (0 : Int32)), .val (.int (1 : Int32)), .val .null, .unset]) (fun m => by first | (simp [entryFrame, mkF, argsToLocals, Value.category]; done) | rfl) ?_
  refine Go.aloadN (pc' := 1) d12_0 rfl rfl rfl ?_
  refine Go.initO (pc' := 4) (ww hw 63 rfl) (ww hw 64 rfl) (ww hw 65 rfl) d12_1 rfl (nl rfl) (nl rfl) rfl ?_
  refine Go.iloadN (pc' := 5) d12_4 rfl rfl ?_
  refine Go.ifYes (pc' := 27) d12_5 (XT.i0_ne_t (by decide)) (by decide) (by decide) ?_
  refine Go.old (fun old1 => ?_)
  refine Go.getstatic (pc' := 30) (host := "") (Or.inl (ww hw 27 rfl)) Via.refl (scp.ext old1.2) d12_27 rfl ?_
  refine Go.ifNo (pc' := 33) d12_30 (XT.i0_eq_f hcp) rfl ?_
  refine Go.aloadN (pc' := 34) d12_33 rfl rfl rfl ?_
  refine Go.iloadN (pc' := 35) d12_34 rfl rfl ?_
  refine Go.iloadN (pc' := 36) d12_35 rfl rfl ?_
  refine Go.callS (cells' := 1) (slots' := 1) (pc' := 39) [(.ref t), (.int (0 : Int32)), (.int (1 : Int32))] [] (ww hw 66 rfl) (ww hw 67 rfl) (ww hw 68 rfl) (ww hw 69 rfl) (by decide) (c_strComp2_1 l Z a0 hw h t kt k0 hk0 vt) pd_8 rfl rfl rfl rfl rfl (nl rfl) (nl rfl) (nl rfl) (nl rfl) d12_36 rfl ?_
  rintro _ h2 ⟨b_2, kb_2, rfl, K2, ge_b_2, sz_b_2, F2_0⟩
  have sz3 : h.size ≤ b_2 := Nat.le_trans (Keep.refl h [a]).1 sz_b_2
  have K4 : Keep h h2 [a] := (Keep.refl h [a]).trans K2 all0
  show Go _ _ _ _ _ _ _ _ _ _ _ _ 39 #[.val (.ref a), .val (.ref t), .val (.int (0 : Int32)), .val (.int (1 : Int32)), .val .null, .unset] [(.ref b_2)]
  refine Go.astore (pc' := 41) (Ls' := #[.val (.ref a), .val (.ref t), .val (.int (0 : Int32)), .val (.int (1 : Int32)), .val .null, .val (.ref b_2)]) d12_39 rfl rfl rfl ?_
  refine Go.aloadN (pc' := 42) d12_41 rfl rfl rfl ?_
  refine Go.aload (pc' := 44) d12_42 rfl rfl rfl ?_
  refine Go.iloadN (pc' := 45) d12_44 rfl rfl ?_
  refine Go.callS (cells' := 1) (slots' := 1) (pc' := 48) [(.ref b_2), (.int (1 : Int32))] [(.ref a)] (ww hw 73 rfl) (ww hw 74 rfl) (ww hw 68 rfl) (ww hw 75 rfl) (by decide) (c_strCoder1 l Z a0 hw h2 b_2 kb_2 k0 F2_0) pd_9 rfl rfl rfl rfl rfl (nl rfl) (nl rfl) (nl rfl) (nl rfl) d12_45 rfl ?_
  rintro _ _ ⟨rfl, rfl⟩
  show Go _ _ _ _ _ _ _ _ _ _ _ _ 48 #[.val (.ref a), .val (.ref t), .val (.int (0 : Int32)), .val (.int (1 : Int32)), .val .null, .val (.ref b_2)] [(.int (0 : Int32)), (.ref a)]
  refine Go.putfieldN (pc' := 51) (ww hw 28 rfl) Via.refl (pf1.keep K2 nin0) (xa.keep K2) (Or.inr ⟨(ww hw 9 rfl), rfl, rfl⟩) (ww hw 6 rfl) (ty := .byte) (v' := (0 : Int32)) (by decide) (by first | rfl | decide) (by first | rfl | decide | exact fits_nar_byte _) ge_a d12_48 rfl ?_
  intro h6 W7
  have K8 : Keep h h6 [a] := K4.wr W7 (Or.inl (List.mem_of_getElem? (i := 0) rfl))
  have f9 := (pf1.keep K2 nin0).same W7
  refine Go.aloadN (pc' := 52) d12_51 rfl rfl rfl ?_
  refine Go.aload (pc' := 54) d12_52 rfl rfl rfl ?_
  have f10 : Fld Z h6 a "java/lang/String" "value" "[B" .null := ((pf0.keep K2 nin0).other W7 (Or.inr (slot_ne (Or.inr (ww hw 8 rfl)) (Or.inr (ww hw 9 rfl)) (by decide) (t := (.array .byte)) (t' := .byte) (by decide) (by decide))))
  refine Go.putfield (pc' := 57) (host := "") (Or.inl (ww hw 21 rfl)) Via.refl f10 ((xa.keep K2).wr W7) (Or.inr ⟨(ww hw 8 rfl), rfl, rfl⟩) (ww hw 6 rfl) (ty := (.array .byte)) (by decide) rfl rfl ge_a d12_54 rfl ?_
  intro h11 W12
  have K13 : Keep h h11 [a] := K8.wr W12 (Or.inl (List.mem_of_getElem? (i := 0) rfl))
  have f14 := f10.same W12
  have f15 : Fld Z h11 a "java/lang/String" "coder" "B" (.int (0 : Int32)) := (f9.other W12 (Or.inr (slot_ne (Or.inr (ww hw 9 rfl)) (Or.inr (ww hw 8 rfl)) (by decide) (t := .byte) (t' := (.array .byte)) (by decide) (by decide))))
  have ne16 : a ≠ b_2 := (Nat.ne_of_lt (Nat.lt_of_lt_of_le pf0.lt sz_b_2))
  have f17 : Arv Z h11 b_2 kb_2 .byte (1 : Int32) [(.int k0.toInt8.toInt32)] (.int 0) := ((F2_0.other W7 (Ne.symm ne16)).other W12 (Ne.symm ne16))
  exact Go.retV rfl d12_57 ⟨b_2, kb_2, rfl, K13, ge_b_2, sz3, f14, f15, f17⟩ (by decide) (by decide)
theorem d11_0 : decode jdk_42_method_3_code 0 = .ok (.aload_n 0, 1) := by decide +kernel
theorem d11_1 : decode jdk_42_method_3_code 1 = .ok (.aload_n 1, 1) := by decide +kernel
theorem d11_2 : decode jdk_42_method_3_code 2 = .ok (.iconst 0, 1) := by decide +kernel
theorem d11_3 : decode jdk_42_method_3_code 3 = .ok (.aload_n 1, 1) := by decide +kernel
theorem d11_4 : decode jdk_42_method_3_code 4 = .ok (.arraylength, 1) := by decide +kernel
theorem d11_5 : decode jdk_42_method_3_code 5 = .ok (.aconst_null, 1) := by decide +kernel
theorem d11_6 : decode jdk_42_method_3_code 6 = .ok (.invokespecial 27, 3) := by decide +kernel
theorem d11_9 : decode jdk_42_method_3_code 9 = .ok (.return_, 1) := by decide +kernel
theorem pd_10 : parseMethodDescriptor "([CIILjava/lang/Void;)V" = some ⟨[(.array .char), .int, .int, (.object "java/lang/Void")], none⟩ := by decide +kernel
theorem c_strInit1 (l : Launch) (Z : State) (a0 : Array Value) (hw : ∀ d ∈ tables_1, d.before a0 Z = true) {n0 : Nat} (h : Heap) (a : Addr) (t : Addr) (kt : ClassId) (k0 : Int32) (cp : Int32) (hk0 : ¬ ((255 : Int32) < k0)) (hcp : ¬ (cp = (0 : Int32))) (scp : Sta Z Z.heap "java/lang/String" "COMPACT_STRINGS" "Z" (.int cp)) (ge_a : n0 ≤ a) (xa : Exa Z h a "java/lang/String") (pf0 : Fld Z h a "java/lang/String" "value" "[B" .null) (pf1 : Fld Z h a "java/lang/String" "coder" "B" (.int (0 : Int32))) (vt : Arv Z h t kt .char (1 : Int32) [(.int k0)] (.int 0)) :
    Con l (⟨"java/lang/String", "<init>", "([C)V"⟩ : MethodName) jdk_42_method_3_code 2 none ({ frames := 3, cells := 1, slots := 1, locals := 52 } : Room) Z n0 #[(.ref a), (.ref t)] h (fun v h' => ∃ b : Addr, ∃ kb : ClassId, v = none ∧ Keep h h' [a] ∧ n0 ≤ b ∧ h.size ≤ b ∧ Fld Z h' a "java/lang/String" "value" "[B" (.ref b) ∧ Fld Z h' a "java/lang/String" "coder" "B" (.int (0 : Int32)) ∧ Arv Z h' b kb .byte (1 : Int32) [(.int k0.toInt8.toInt32)] (.int 0)) := by
  refine Con.of_go (plainFor_of_name pn_0) (Ls := #[.val (.ref a), .val (.ref t)]) (fun m => by first | (simp [entryFrame, mkF, argsToLocals, Value.category]; done) | rfl) ?_
  refine Go.aloadN (pc' := 1) d11_0 rfl rfl rfl ?_
  refine Go.aloadN (pc' := 2) d11_1 rfl rfl rfl ?_
  refine Go.iconst (pc' := 3) (v := (0 : Int32)) d11_2 rfl rfl ?_
  refine Go.aloadN (pc' := 4) d11_3 rfl rfl rfl ?_
  refine Go.arraylength (pc' := 5) vt d11_4 rfl ?_
  refine Go.aconstNull (pc' := 6) d11_5 rfl ?_
  refine Go.callC (cells' := 1) (slots' := 1) (pc' := 9) [(.ref t), (.int (0 : Int32)), (.int (1 : Int32)), .null] [] (a := a) rfl rfl (ww hw 59 rfl) (ww hw 60 rfl) (ww hw 5 rfl) (ww hw 62 rfl) (by decide) (c_strInit4_1 l Z a0 hw h a t kt k0 cp hk0 hcp scp ge_a xa pf0 pf1 vt) pd_10 rfl rfl rfl rfl rfl (nl rfl) (nl rfl) (nl rfl) (nl rfl) d11_6 rfl ?_
  rintro _ h1 ⟨b_1, kb_1, rfl, K1, ge_b_1, sz_b_1, F1_0, F1_1, F1_2⟩
  have sz2 : h.size ≤ b_1 := Nat.le_trans (Keep.refl h [a]).1 sz_b_1
  have K3 : Keep h h1 [a] := (Keep.refl h [a]).trans K1 (allS (Or.inl (List.mem_of_getElem? (i := 0) rfl)) all0)
  show Go _ _ _ _ _ _ _ _ _ _ _ _ 9 #[.val (.ref a), .val (.ref t)] []
  exact Go.retV rfl d11_9 ⟨b_1, kb_1, rfl, K3, ge_b_1, sz2, F1_0, F1_1, F1_2⟩ (by decide) (by decide)
theorem c_strComp2 (l : Launch) (Z : State) (a0 : Array Value) (hw : ∀ d ∈ tables_1, d.before a0 Z = true) {n0 : Nat} (h : Heap) (t : Addr) (kt : ClassId) (b : Addr) (kb : ClassId) (k0 : Int32) (k1 : Int32) (hk0 : ¬ ((255 : Int32) < k0)) (hk1 : ¬ ((255 : Int32) < k1)) (ge_b : n0 ≤ b) (ne_t_b : t ≠ b) (vt : Arv Z h t kt .char (2 : Int32) [(.int k0), (.int k1)] (.int 0)) (vb : Arv Z h b kb .byte (2 : Int32) [(.int 0), (.int 0)] (.int 0)) :
    Con l (⟨"java/lang/StringUTF16", "compress", "([CI[BII)I"⟩ : MethodName) jdk_52_method_21_code 7 (some .int) ({ frames := 0, cells := 0, slots := 0, locals := 0 } : Room) Z n0 #[(.ref t), (.int (0 : Int32)), (.ref b), (.int (0 : Int32)), (.int (2 : Int32))] h (fun v h' => v = some (.int (2 : Int32)) ∧ Keep h h' [b] ∧ Arv Z h' b kb .byte (2 : Int32) [(.int k0.toInt8.toInt32), (.int k1.toInt8.toInt32)] (.int 0)) := by
  refine Con.of_go (plainFor_of_name pn_4) (Ls := #[.val (.ref t), .val (.int (0 : Int32)), .val (.ref b), .val (.int (0 : Int32)), .val (.int (2 : Int32)), .unset, .unset]) (fun m => by first | (simp [entryFrame, mkF, argsToLocals, Value.category]; done) | rfl) ?_
  refine Go.iconst (pc' := 1) (v := (0 : Int32)) d15_0 rfl rfl ?_
  refine Go.istore (pc' := 3) (Ls' := #[.val (.ref t), .val (.int (0 : Int32)), .val (.ref b), .val (.int (0 : Int32)), .val (.int (2 : Int32)), .val (.int (0 : Int32)), .unset]) d15_1 rfl rfl ?_
  refine Go.iload (pc' := 5) d15_3 rfl rfl ?_
  refine Go.iload (pc' := 7) d15_5 rfl rfl ?_
  refine Go.icmpNo (pc' := 10) d15_7 (XT.ii_ge_f (by decide)) rfl ?_
  refine Go.aloadN (pc' := 11) d15_10 rfl rfl rfl ?_
  refine Go.iloadN (pc' := 12) d15_11 rfl rfl ?_
  refine Go.caload (pc' := 13) (v := k0) vt d15_12 (by decide) (by decide) rfl rfl ?_
  refine Go.istore (pc' := 15) (Ls' := #[.val (.ref t), .val (.int (0 : Int32)), .val (.ref b), .val (.int (0 : Int32)), .val (.int (2 : Int32)), .val (.int (0 : Int32)), .val (.int k0)]) d15_13 rfl rfl ?_
  refine Go.iload (pc' := 17) d15_15 rfl rfl ?_
  refine Go.sipush (pc' := 20) (v := (255 : Int32)) d15_17 rfl rfl ?_
  refine Go.icmpYes (pc' := 26) d15_20 (XT.ii_le_t hk0) (by decide) (by decide) ?_
  refine Go.aloadN (pc' := 27) d15_26 rfl rfl rfl ?_
  refine Go.iloadN (pc' := 28) d15_27 rfl rfl ?_
  refine Go.iload (pc' := 30) d15_28 rfl rfl ?_
  refine Go.i2b (pc' := 31) d15_30 rfl ?_
  refine Go.bastore (pc' := 32) vb ge_b d15_31 (by decide) (by decide) (i := 0) rfl (nl rfl) rfl ?_
  intro h1 W2 V3
  have K4 : Keep h h1 [b] := (Keep.refl h [b]).wr W2 (Or.inl (List.mem_of_getElem? (i := 0) rfl))
  rw [OwnNum.b8] at V3
  replace V3 : Arv Z h1 b kb .byte (2 : Int32) [(.int k0.toInt8.toInt32), (.int 0)] (.int 0) := V3
  refine Go.iinc (pc' := 35) (Ls' := #[.val (.ref t), .val (.int ((0 : Int32) + (1 : Int32))), .val (.ref b), .val (.int (0 : Int32)), .val (.int (2 : Int32)), .val (.int (0 : Int32)), .val (.int k0)]) (w := (1 : Int32)) d15_32 rfl rfl rfl rfl ?_
  show Go _ _ _ _ _ _ _ _ _ _ _ _ 35 #[.val (.ref t), .val (.int (1 : Int32)), .val (.ref b), .val (.int (0 : Int32)), .val (.int (2 : Int32)), .val (.int (0 : Int32)), .val (.int k0)] []
  refine Go.iinc (pc' := 38) (Ls' := #[.val (.ref t), .val (.int (1 : Int32)), .val (.ref b), .val (.int ((0 : Int32) + (1 : Int32))), .val (.int (2 : Int32)), .val (.int (0 : Int32)), .val (.int k0)]) (w := (1 : Int32)) d15_35 rfl rfl rfl rfl ?_
  show Go _ _ _ _ _ _ _ _ _ _ _ _ 38 #[.val (.ref t), .val (.int (1 : Int32)), .val (.ref b), .val (.int (1 : Int32)), .val (.int (2 : Int32)), .val (.int (0 : Int32)), .val (.int k0)] []
  refine Go.iinc (pc' := 41) (Ls' := #[.val (.ref t), .val (.int (1 : Int32)), .val (.ref b), .val (.int (1 : Int32)), .val (.int (2 : Int32)), .val (.int ((0 : Int32) + (1 : Int32))), .val (.int k0)]) (w := (1 : Int32)) d15_38 rfl rfl rfl rfl ?_
  show Go _ _ _ _ _ _ _ _ _ _ _ _ 41 #[.val (.ref t), .val (.int (1 : Int32)), .val (.ref b), .val (.int (1 : Int32)), .val (.int (2 : Int32)), .val (.int (1 : Int32)), .val (.int k0)] []
  refine Go.goto (pc' := 3) d15_41 (by decide) (by decide) ?_
  refine Go.iload (pc' := 5) d15_3 rfl rfl ?_
  refine Go.iload (pc' := 7) d15_5 rfl rfl ?_
  refine Go.icmpNo (pc' := 10) d15_7 (XT.ii_ge_f (by decide)) rfl ?_
  refine Go.aloadN (pc' := 11) d15_10 rfl rfl rfl ?_
  refine Go.iloadN (pc' := 12) d15_11 rfl rfl ?_
  refine Go.caload (pc' := 13) (v := k1) (vt.other W2 ne_t_b) d15_12 (by decide) (by decide) rfl rfl ?_
  refine Go.istore (pc' := 15) (Ls' := #[.val (.ref t), .val (.int (1 : Int32)), .val (.ref b), .val (.int (1 : Int32)), .val (.int (2 : Int32)), .val (.int (1 : Int32)), .val (.int k1)]) d15_13 rfl rfl ?_
  refine Go.iload (pc' := 17) d15_15 rfl rfl ?_
  refine Go.sipush (pc' := 20) (v := (255 : Int32)) d15_17 rfl rfl ?_
  refine Go.icmpYes (pc' := 26) d15_20 (XT.ii_le_t hk1) (by decide) (by decide) ?_
  refine Go.aloadN (pc' := 27) d15_26 rfl rfl rfl ?_
  refine Go.iloadN (pc' := 28) d15_27 rfl rfl ?_
  refine Go.iload (pc' := 30) d15_28 rfl rfl ?_
  refine Go.i2b (pc' := 31) d15_30 rfl ?_
  refine Go.bastore (pc' := 32) V3 ge_b d15_31 (by decide) (by decide) (i := 1) rfl (nl rfl) rfl ?_
  intro h5 W6 V7
  have K8 : Keep h h5 [b] := K4.wr W6 (Or.inl (List.mem_of_getElem? (i := 0) rfl))
  rw [OwnNum.b8] at V7
  replace V7 : Arv Z h5 b kb .byte (2 : Int32) [(.int k0.toInt8.toInt32), (.int k1.toInt8.toInt32)] (.int 0) := V7
  refine Go.iinc (pc' := 35) (Ls' := #[.val (.ref t), .val (.int ((1 : Int32) + (1 : Int32))), .val (.ref b), .val (.int (1 : Int32)), .val (.int (2 : Int32)), .val (.int (1 : Int32)), .val (.int k1)]) (w := (1 : Int32)) d15_32 rfl rfl rfl rfl ?_
  show Go _ _ _ _ _ _ _ _ _ _ _ _ 35 #[.val (.ref t), .val (.int (2 : Int32)), .val (.ref b), .val (.int (1 : Int32)), .val (.int (2 : Int32)), .val (.int (1 : Int32)), .val (.int k1)] []
  refine Go.iinc (pc' := 38) (Ls' := #[.val (.ref t), .val (.int (2 : Int32)), .val (.ref b), .val (.int ((1 : Int32) + (1 : Int32))), .val (.int (2 : Int32)), .val (.int (1 : Int32)), .val (.int k1)]) (w := (1 : Int32)) d15_35 rfl rfl rfl rfl ?_
  show Go _ _ _ _ _ _ _ _ _ _ _ _ 38 #[.val (.ref t), .val (.int (2 : Int32)), .val (.ref b), .val (.int (2 : Int32)), .val (.int (2 : Int32)), .val (.int (1 : Int32)), .val (.int k1)] []
  refine Go.iinc (pc' := 41) (Ls' := #[.val (.ref t), .val (.int (2 : Int32)), .val (.ref b), .val (.int (2 : Int32)), .val (.int (2 : Int32)), .val (.int ((1 : Int32) + (1 : Int32))), .val (.int k1)]) (w := (1 : Int32)) d15_38 rfl rfl rfl rfl ?_
  show Go _ _ _ _ _ _ _ _ _ _ _ _ 41 #[.val (.ref t), .val (.int (2 : Int32)), .val (.ref b), .val (.int (2 : Int32)), .val (.int (2 : Int32)), .val (.int (2 : Int32)), .val (.int k1)] []
  refine Go.goto (pc' := 3) d15_41 (by decide) (by decide) ?_
  refine Go.iload (pc' := 5) d15_3 rfl rfl ?_
  refine Go.iload (pc' := 7) d15_5 rfl rfl ?_
  refine Go.icmpYes (pc' := 44) d15_7 (XT.ii_ge_t (by decide)) (by decide) (by decide) ?_
  refine Go.iload (pc' := 46) d15_44 rfl rfl ?_
  exact Go.retI rfl d15_46 ⟨rfl, K8, V7⟩ (by decide) (by decide)
theorem c_strComp2_2 (l : Launch) (Z : State) (a0 : Array Value) (hw : ∀ d ∈ tables_1, d.before a0 Z = true) {n0 : Nat} (h : Heap) (t : Addr) (kt : ClassId) (k0 : Int32) (k1 : Int32) (hk0 : ¬ ((255 : Int32) < k0)) (hk1 : ¬ ((255 : Int32) < k1)) (vt : Arv Z h t kt .char (2 : Int32) [(.int k0), (.int k1)] (.int 0)) :
    Con l (⟨"java/lang/StringUTF16", "compress", "([CII)[B"⟩ : MethodName) jdk_52_method_16_code 6 (some (.array .byte)) ({ frames := 1, cells := 1, slots := 2, locals := 18 } : Room) Z n0 #[(.ref t), (.int (0 : Int32)), (.int (2 : Int32))] h (fun v h' => ∃ b : Addr, ∃ kb : ClassId, v = some (.ref b) ∧ Keep h h' [] ∧ n0 ≤ b ∧ h.size ≤ b ∧ Arv Z h' b kb .byte (2 : Int32) [(.int k0.toInt8.toInt32), (.int k1.toInt8.toInt32)] (.int 0)) := by
  refine Con.of_go (plainFor_of_name pn_4) (Ls := #[.val (.ref t), .val (.int (0 : Int32)), .val (.int (2 : Int32)), .unset, .unset, .unset]) (fun m => by first | (simp [entryFrame, mkF, argsToLocals, Value.category]; done) | rfl) ?_
  refine Go.iloadN (pc' := 1) d14_0 rfl rfl ?_
  refine Go.newarray (pc' := 3) (cells' := 1) (slots' := 2) (cap := 2) (ww hw 7 rfl) d14_1 (ad := "[B") (by decide) (by decide) (by decide) rfl rfl (by decide) (by decide) (by decide) rfl ?_
  intro h1 b1 g1 E1 ge1 kA1 A1 X1
  have sz2 : h.size ≤ b1 := Nat.le_trans (Keep.refl h []).1 (Nat.le_of_eq g1.symm)
  have K3 : Keep h h1 [] := (Keep.refl h []).ext E1
  have V1 : Arv Z h1 b1 kA1 .byte (2 : Int32) [(.int 0), (.int 0)] (.int 0) := Arv.pad A1 (pad_rep [] (.int 0) 2)
  refine Go.astoreN (pc' := 4) (Ls' := #[.val (.ref t), .val (.int (0 : Int32)), .val (.int (2 : Int32)), .val (.ref b1), .unset, .unset]) d14_3 rfl rfl rfl ?_
  refine Go.aloadN (pc' := 5) d14_4 rfl rfl rfl ?_
  refine Go.iloadN (pc' := 6) d14_5 rfl rfl ?_
  refine Go.aloadN (pc' := 7) d14_6 rfl rfl rfl ?_
  refine Go.iconst (pc' := 8) (v := (0 : Int32)) d14_7 rfl rfl ?_
  refine Go.iloadN (pc' := 9) d14_8 rfl rfl ?_
  have ne4 : t ≠ b1 := (Nat.ne_of_lt (Nat.lt_of_lt_of_le vt.lt (Nat.le_of_eq g1.symm)))
  refine Go.callS (cells' := 1) (slots' := 2) (pc' := 12) [(.ref t), (.int (0 : Int32)), (.ref b1), (.int (0 : Int32)), (.int (2 : Int32))] [] (ww hw 70 rfl) (ww hw 71 rfl) (ww hw 68 rfl) (ww hw 72 rfl) (by decide) (c_strComp2 l Z a0 hw h1 t kt b1 kA1 k0 k1 hk0 hk1 ge1 ne4 (vt.ext E1) V1) pd_7 rfl rfl rfl rfl rfl (nl rfl) (nl rfl) (nl rfl) (nl rfl) d14_9 rfl ?_
  rintro _ h5 ⟨rfl, K5, F5_0⟩
  have K6 : Keep h h5 [] := K3.trans K5 (allS (Or.inr sz2) all0)
  show Go _ _ _ _ _ _ _ _ _ _ _ _ 12 #[.val (.ref t), .val (.int (0 : Int32)), .val (.int (2 : Int32)), .val (.ref b1), .unset, .unset] [(.int (2 : Int32))]
  refine Go.istore (pc' := 14) (Ls' := #[.val (.ref t), .val (.int (0 : Int32)), .val (.int (2 : Int32)), .val (.ref b1), .val (.int (2 : Int32)), .unset]) d14_12 rfl rfl ?_
  refine Go.iload (pc' := 16) d14_14 rfl rfl ?_
  refine Go.iloadN (pc' := 17) d14_16 rfl rfl ?_
  refine Go.icmpYes (pc' := 57) d14_17 (XT.ii_eq_t (by decide)) (by decide) (by decide) ?_
  refine Go.aloadN (pc' := 58) d14_57 rfl rfl rfl ?_
  exact Go.retR rfl rfl rfl rfl d14_58 ⟨b1, kA1, rfl, K6, ge1, sz2, F5_0⟩ (by decide) (by decide)
theorem c_strCoder2 (l : Launch) (Z : State) (a0 : Array Value) (hw : ∀ d ∈ tables_1, d.before a0 Z = true) {n0 : Nat} (h : Heap) (b : Addr) (kb : ClassId) (k0 : Int32) (k1 : Int32) (vb : Arv Z h b kb .byte (2 : Int32) [(.int k0.toInt8.toInt32), (.int k1.toInt8.toInt32)] (.int 0)) :
    Con l (⟨"java/lang/StringUTF16", "coderFromArrayLen", "([BI)B"⟩ : MethodName) jdk_52_method_15_code 2 (some .byte) ({ frames := 0, cells := 0, slots := 0, locals := 0 } : Room) Z n0 #[(.ref b), (.int (2 : Int32))] h (fun v h' => v = some (.int (0 : Int32)) ∧ h = h') := by
  refine Con.of_go (plainFor_of_name pn_4) (Ls := #[.val (.ref b), .val (.int (2 : Int32))]) (fun m => by first | (simp [entryFrame, mkF, argsToLocals, Value.category]; done) | rfl) ?_
  refine Go.iloadN (pc' := 1) d16_0 rfl rfl ?_
  refine Go.aloadN (pc' := 2) d16_1 rfl rfl rfl ?_
  refine Go.arraylength (pc' := 3) vb d16_2 rfl ?_
  refine Go.isub (pc' := 4) d16_3 rfl ?_
  show Go _ _ _ _ _ _ _ _ _ _ _ _ 4 #[.val (.ref b), .val (.int (2 : Int32))] [(.int (0 : Int32))]
  refine Go.bipush (pc' := 6) (v := (31 : Int32)) d16_4 rfl rfl ?_
  refine Go.iushr (pc' := 7) d16_6 rfl ?_
  show Go _ _ _ _ _ _ _ _ _ _ _ _ 7 #[.val (.ref b), .val (.int (2 : Int32))] [(.int (0 : Int32))]
  refine Go.i2b (pc' := 8) d16_7 rfl ?_
  show Go _ _ _ _ _ _ _ _ _ _ _ _ 8 #[.val (.ref b), .val (.int (2 : Int32))] [(.int (0 : Int32))]
  exact Go.retN (t := .byte) rfl (by simp) d16_8 ⟨rfl, rfl⟩ (by decide) (by decide)
theorem c_strInit4_2 (l : Launch) (Z : State) (a0 : Array Value) (hw : ∀ d ∈ tables_1, d.before a0 Z = true) {n0 : Nat} (h : Heap) (a : Addr) (t : Addr) (kt : ClassId) (k0 : Int32) (k1 : Int32) (cp : Int32) (hk0 : ¬ ((255 : Int32) < k0)) (hk1 : ¬ ((255 : Int32) < k1)) (hcp : ¬ (cp = (0 : Int32))) (scp : Sta Z Z.heap "java/lang/String" "COMPACT_STRINGS" "Z" (.int cp)) (ge_a : n0 ≤ a) (xa : Exa Z h a "java/lang/String") (pf0 : Fld Z h a "java/lang/String" "value" "[B" .null) (pf1 : Fld Z h a "java/lang/String" "coder" "B" (.int (0 : Int32))) (vt : Arv Z h t kt .char (2 : Int32) [(.int k0), (.int k1)] (.int 0)) :
    Con l (⟨"java/lang/String", "<init>", "([CIILjava/lang/Void;)V"⟩ : MethodName) jdk_42_method_149_code 6 none ({ frames := 2, cells := 1, slots := 2, locals := 35 } : Room) Z n0 #[(.ref a), (.ref t), (.int (0 : Int32)), (.int (2 : Int32)), .null] h (fun v h' => ∃ b : Addr, ∃ kb : ClassId, v = none ∧ Keep h h' [a] ∧ n0 ≤ b ∧ h.size ≤ b ∧ Fld Z h' a "java/lang/String" "value" "[B" (.ref b) ∧ Fld Z h' a "java/lang/String" "coder" "B" (.int (0 : Int32)) ∧ Arv Z h' b kb .byte (2 : Int32) [(.int k0.toInt8.toInt32), (.int k1.toInt8.toInt32)] (.int 0)) := by
  refine Con.of_go (plainFor_of_name pn_0) (Ls := #[.val (.ref a), .val (.ref t), .val (.int (0 : Int32)), .val (.int (2 : Int32)), .val .null, .unset]) (fun m => by first | (simp [entryFrame, mkF, argsToLocals, Value.category]; done) | rfl) ?_
  refine Go.aloadN (pc' := 1) d12_0 rfl rfl rfl ?_
  refine Go.initO (pc' := 4) (ww hw 63 rfl) (ww hw 64 rfl) (ww hw 65 rfl) d12_1 rfl (nl rfl) (nl rfl) rfl ?_
  refine Go.iloadN (pc' := 5) d12_4 rfl rfl ?_
  refine Go.ifYes (pc' := 27) d12_5 (XT.i0_ne_t (by decide)) (by decide) (by decide) ?_
  refine Go.old (fun old1 => ?_)
  refine Go.getstatic (pc' := 30) (host := "") (Or.inl (ww hw 27 rfl)) Via.refl (scp.ext old1.2) d12_27 rfl ?_
  refine Go.ifNo (pc' := 33) d12_30 (XT.i0_eq_f hcp) rfl ?_
  refine Go.aloadN (pc' := 34) d12_33 rfl rfl rfl ?_
  refine Go.iloadN (pc' := 35) d12_34 rfl rfl ?_
  refine Go.iloadN (pc' := 36) d12_35 rfl rfl ?_
  refine Go.callS (cells' := 1) (slots' := 2) (pc' := 39) [(.ref t), (.int (0 : Int32)), (.int (2 : Int32))] [] (ww hw 66 rfl) (ww hw 67 rfl) (ww hw 68 rfl) (ww hw 69 rfl) (by decide) (c_strComp2_2 l Z a0 hw h t kt k0 k1 hk0 hk1 vt) pd_8 rfl rfl rfl rfl rfl (nl rfl) (nl rfl) (nl rfl) (nl rfl) d12_36 rfl ?_
  rintro _ h2 ⟨b_2, kb_2, rfl, K2, ge_b_2, sz_b_2, F2_0⟩
  have sz3 : h.size ≤ b_2 := Nat.le_trans (Keep.refl h [a]).1 sz_b_2
  have K4 : Keep h h2 [a] := (Keep.refl h [a]).trans K2 all0
  show Go _ _ _ _ _ _ _ _ _ _ _ _ 39 #[.val (.ref a), .val (.ref t), .val (.int (0 : Int32)), .val (.int (2 : Int32)), .val .null, .unset] [(.ref b_2)]
  refine Go.astore (pc' := 41) (Ls' := #[.val (.ref a), .val (.ref t), .val (.int (0 : Int32)), .val (.int (2 : Int32)), .val .null, .val (.ref b_2)]) d12_39 rfl rfl rfl ?_
  refine Go.aloadN (pc' := 42) d12_41 rfl rfl rfl ?_
  refine Go.aload (pc' := 44) d12_42 rfl rfl rfl ?_
  refine Go.iloadN (pc' := 45) d12_44 rfl rfl ?_
  refine Go.callS (cells' := 1) (slots' := 2) (pc' := 48) [(.ref b_2), (.int (2 : Int32))] [(.ref a)] (ww hw 73 rfl) (ww hw 74 rfl) (ww hw 68 rfl) (ww hw 75 rfl) (by decide) (c_strCoder2 l Z a0 hw h2 b_2 kb_2 k0 k1 F2_0) pd_9 rfl rfl rfl rfl rfl (nl rfl) (nl rfl) (nl rfl) (nl rfl) d12_45 rfl ?_
  rintro _ _ ⟨rfl, rfl⟩
  show Go _ _ _ _ _ _ _ _ _ _ _ _ 48 #[.val (.ref a), .val (.ref t), .val (.int (0 : Int32)), .val (.int (2 : Int32)), .val .null, .val (.ref b_2)] [(.int (0 : Int32)), (.ref a)]
  refine Go.putfieldN (pc' := 51) (ww hw 28 rfl) Via.refl (pf1.keep K2 nin0) (xa.keep K2) (Or.inr ⟨(ww hw 9 rfl), rfl, rfl⟩) (ww hw 6 rfl) (ty := .byte) (v' := (0 : Int32)) (by decide) (by first | rfl | decide) (by first | rfl | decide | exact fits_nar_byte _) ge_a d12_48 rfl ?_
  intro h6 W7
  have K8 : Keep h h6 [a] := K4.wr W7 (Or.inl (List.mem_of_getElem? (i := 0) rfl))
  have f9 := (pf1.keep K2 nin0).same W7
  refine Go.aloadN (pc' := 52) d12_51 rfl rfl rfl ?_
  refine Go.aload (pc' := 54) d12_52 rfl rfl rfl ?_
  have f10 : Fld Z h6 a "java/lang/String" "value" "[B" .null := ((pf0.keep K2 nin0).other W7 (Or.inr (slot_ne (Or.inr (ww hw 8 rfl)) (Or.inr (ww hw 9 rfl)) (by decide) (t := (.array .byte)) (t' := .byte) (by decide) (by decide))))
  refine Go.putfield (pc' := 57) (host := "") (Or.inl (ww hw 21 rfl)) Via.refl f10 ((xa.keep K2).wr W7) (Or.inr ⟨(ww hw 8 rfl), rfl, rfl⟩) (ww hw 6 rfl) (ty := (.array .byte)) (by decide) rfl rfl ge_a d12_54 rfl ?_
  intro h11 W12
  have K13 : Keep h h11 [a] := K8.wr W12 (Or.inl (List.mem_of_getElem? (i := 0) rfl))
  have f14 := f10.same W12
  have f15 : Fld Z h11 a "java/lang/String" "coder" "B" (.int (0 : Int32)) := (f9.other W12 (Or.inr (slot_ne (Or.inr (ww hw 9 rfl)) (Or.inr (ww hw 8 rfl)) (by decide) (t := .byte) (t' := (.array .byte)) (by decide) (by decide))))
  have ne16 : a ≠ b_2 := (Nat.ne_of_lt (Nat.lt_of_lt_of_le pf0.lt sz_b_2))
  have f17 : Arv Z h11 b_2 kb_2 .byte (2 : Int32) [(.int k0.toInt8.toInt32), (.int k1.toInt8.toInt32)] (.int 0) := ((F2_0.other W7 (Ne.symm ne16)).other W12 (Ne.symm ne16))
  exact Go.retV rfl d12_57 ⟨b_2, kb_2, rfl, K13, ge_b_2, sz3, f14, f15, f17⟩ (by decide) (by decide)
theorem c_strInit2 (l : Launch) (Z : State) (a0 : Array Value) (hw : ∀ d ∈ tables_1, d.before a0 Z = true) {n0 : Nat} (h : Heap) (a : Addr) (t : Addr) (kt : ClassId) (k0 : Int32) (k1 : Int32) (cp : Int32) (hk0 : ¬ ((255 : Int32) < k0)) (hk1 : ¬ ((255 : Int32) < k1)) (hcp : ¬ (cp = (0 : Int32))) (scp : Sta Z Z.heap "java/lang/String" "COMPACT_STRINGS" "Z" (.int cp)) (ge_a : n0 ≤ a) (xa : Exa Z h a "java/lang/String") (pf0 : Fld Z h a "java/lang/String" "value" "[B" .null) (pf1 : Fld Z h a "java/lang/String" "coder" "B" (.int (0 : Int32))) (vt : Arv Z h t kt .char (2 : Int32) [(.int k0), (.int k1)] (.int 0)) :
    Con l (⟨"java/lang/String", "<init>", "([C)V"⟩ : MethodName) jdk_42_method_3_code 2 none ({ frames := 3, cells := 1, slots := 2, locals := 52 } : Room) Z n0 #[(.ref a), (.ref t)] h (fun v h' => ∃ b : Addr, ∃ kb : ClassId, v = none ∧ Keep h h' [a] ∧ n0 ≤ b ∧ h.size ≤ b ∧ Fld Z h' a "java/lang/String" "value" "[B" (.ref b) ∧ Fld Z h' a "java/lang/String" "coder" "B" (.int (0 : Int32)) ∧ Arv Z h' b kb .byte (2 : Int32) [(.int k0.toInt8.toInt32), (.int k1.toInt8.toInt32)] (.int 0)) := by
  refine Con.of_go (plainFor_of_name pn_0) (Ls := #[.val (.ref a), .val (.ref t)]) (fun m => by first | (simp [entryFrame, mkF, argsToLocals, Value.category]; done) | rfl) ?_
  refine Go.aloadN (pc' := 1) d11_0 rfl rfl rfl ?_
  refine Go.aloadN (pc' := 2) d11_1 rfl rfl rfl ?_
  refine Go.iconst (pc' := 3) (v := (0 : Int32)) d11_2 rfl rfl ?_
  refine Go.aloadN (pc' := 4) d11_3 rfl rfl rfl ?_
  refine Go.arraylength (pc' := 5) vt d11_4 rfl ?_
  refine Go.aconstNull (pc' := 6) d11_5 rfl ?_
  refine Go.callC (cells' := 1) (slots' := 2) (pc' := 9) [(.ref t), (.int (0 : Int32)), (.int (2 : Int32)), .null] [] (a := a) rfl rfl (ww hw 59 rfl) (ww hw 60 rfl) (ww hw 5 rfl) (ww hw 62 rfl) (by decide) (c_strInit4_2 l Z a0 hw h a t kt k0 k1 cp hk0 hk1 hcp scp ge_a xa pf0 pf1 vt) pd_10 rfl rfl rfl rfl rfl (nl rfl) (nl rfl) (nl rfl) (nl rfl) d11_6 rfl ?_
  rintro _ h1 ⟨b_1, kb_1, rfl, K1, ge_b_1, sz_b_1, F1_0, F1_1, F1_2⟩
  have sz2 : h.size ≤ b_1 := Nat.le_trans (Keep.refl h [a]).1 sz_b_1
  have K3 : Keep h h1 [a] := (Keep.refl h [a]).trans K1 (allS (Or.inl (List.mem_of_getElem? (i := 0) rfl)) all0)
  show Go _ _ _ _ _ _ _ _ _ _ _ _ 9 #[.val (.ref a), .val (.ref t)] []
  exact Go.retV rfl d11_9 ⟨b_1, kb_1, rfl, K3, ge_b_1, sz2, F1_0, F1_1, F1_2⟩ (by decide) (by decide)
theorem c_strComp3 (l : Launch) (Z : State) (a0 : Array Value) (hw : ∀ d ∈ tables_1, d.before a0 Z = true) {n0 : Nat} (h : Heap) (t : Addr) (kt : ClassId) (b : Addr) (kb : ClassId) (k0 : Int32) (k1 : Int32) (k2 : Int32) (hk0 : ¬ ((255 : Int32) < k0)) (hk1 : ¬ ((255 : Int32) < k1)) (hk2 : ¬ ((255 : Int32) < k2)) (ge_b : n0 ≤ b) (ne_t_b : t ≠ b) (vt : Arv Z h t kt .char (3 : Int32) [(.int k0), (.int k1), (.int k2)] (.int 0)) (vb : Arv Z h b kb .byte (3 : Int32) [(.int 0), (.int 0), (.int 0)] (.int 0)) :
    Con l (⟨"java/lang/StringUTF16", "compress", "([CI[BII)I"⟩ : MethodName) jdk_52_method_21_code 7 (some .int) ({ frames := 0, cells := 0, slots := 0, locals := 0 } : Room) Z n0 #[(.ref t), (.int (0 : Int32)), (.ref b), (.int (0 : Int32)), (.int (3 : Int32))] h (fun v h' => v = some (.int (3 : Int32)) ∧ Keep h h' [b] ∧ Arv Z h' b kb .byte (3 : Int32) [(.int k0.toInt8.toInt32), (.int k1.toInt8.toInt32), (.int k2.toInt8.toInt32)] (.int 0)) := by
  refine Con.of_go (plainFor_of_name pn_4) (Ls := #[.val (.ref t), .val (.int (0 : Int32)), .val (.ref b), .val (.int (0 : Int32)), .val (.int (3 : Int32)), .unset, .unset]) (fun m => by first | (simp [entryFrame, mkF, argsToLocals, Value.category]; done) | rfl) ?_
  refine Go.iconst (pc' := 1) (v := (0 : Int32)) d15_0 rfl rfl ?_
  refine Go.istore (pc' := 3) (Ls' := #[.val (.ref t), .val (.int (0 : Int32)), .val (.ref b), .val (.int (0 : Int32)), .val (.int (3 : Int32)), .val (.int (0 : Int32)), .unset]) d15_1 rfl rfl ?_
  refine Go.iload (pc' := 5) d15_3 rfl rfl ?_
  refine Go.iload (pc' := 7) d15_5 rfl rfl ?_
  refine Go.icmpNo (pc' := 10) d15_7 (XT.ii_ge_f (by decide)) rfl ?_
  refine Go.aloadN (pc' := 11) d15_10 rfl rfl rfl ?_
  refine Go.iloadN (pc' := 12) d15_11 rfl rfl ?_
  refine Go.caload (pc' := 13) (v := k0) vt d15_12 (by decide) (by decide) rfl rfl ?_
  refine Go.istore (pc' := 15) (Ls' := #[.val (.ref t), .val (.int (0 : Int32)), .val (.ref b), .val (.int (0 : Int32)), .val (.int (3 : Int32)), .val (.int (0 : Int32)), .val (.int k0)]) d15_13 rfl rfl ?_
  refine Go.iload (pc' := 17) d15_15 rfl rfl ?_
  refine Go.sipush (pc' := 20) (v := (255 : Int32)) d15_17 rfl rfl ?_
  refine Go.icmpYes (pc' := 26) d15_20 (XT.ii_le_t hk0) (by decide) (by decide) ?_
  refine Go.aloadN (pc' := 27) d15_26 rfl rfl rfl ?_
  refine Go.iloadN (pc' := 28) d15_27 rfl rfl ?_
  refine Go.iload (pc' := 30) d15_28 rfl rfl ?_
  refine Go.i2b (pc' := 31) d15_30 rfl ?_
  refine Go.bastore (pc' := 32) vb ge_b d15_31 (by decide) (by decide) (i := 0) rfl (nl rfl) rfl ?_
  intro h1 W2 V3
  have K4 : Keep h h1 [b] := (Keep.refl h [b]).wr W2 (Or.inl (List.mem_of_getElem? (i := 0) rfl))
  rw [OwnNum.b8] at V3
  replace V3 : Arv Z h1 b kb .byte (3 : Int32) [(.int k0.toInt8.toInt32), (.int 0), (.int 0)] (.int 0) := V3
  refine Go.iinc (pc' := 35) (Ls' := #[.val (.ref t), .val (.int ((0 : Int32) + (1 : Int32))), .val (.ref b), .val (.int (0 : Int32)), .val (.int (3 : Int32)), .val (.int (0 : Int32)), .val (.int k0)]) (w := (1 : Int32)) d15_32 rfl rfl rfl rfl ?_
  show Go _ _ _ _ _ _ _ _ _ _ _ _ 35 #[.val (.ref t), .val (.int (1 : Int32)), .val (.ref b), .val (.int (0 : Int32)), .val (.int (3 : Int32)), .val (.int (0 : Int32)), .val (.int k0)] []
  refine Go.iinc (pc' := 38) (Ls' := #[.val (.ref t), .val (.int (1 : Int32)), .val (.ref b), .val (.int ((0 : Int32) + (1 : Int32))), .val (.int (3 : Int32)), .val (.int (0 : Int32)), .val (.int k0)]) (w := (1 : Int32)) d15_35 rfl rfl rfl rfl ?_
  show Go _ _ _ _ _ _ _ _ _ _ _ _ 38 #[.val (.ref t), .val (.int (1 : Int32)), .val (.ref b), .val (.int (1 : Int32)), .val (.int (3 : Int32)), .val (.int (0 : Int32)), .val (.int k0)] []
  refine Go.iinc (pc' := 41) (Ls' := #[.val (.ref t), .val (.int (1 : Int32)), .val (.ref b), .val (.int (1 : Int32)), .val (.int (3 : Int32)), .val (.int ((0 : Int32) + (1 : Int32))), .val (.int k0)]) (w := (1 : Int32)) d15_38 rfl rfl rfl rfl ?_
  show Go _ _ _ _ _ _ _ _ _ _ _ _ 41 #[.val (.ref t), .val (.int (1 : Int32)), .val (.ref b), .val (.int (1 : Int32)), .val (.int (3 : Int32)), .val (.int (1 : Int32)), .val (.int k0)] []
  refine Go.goto (pc' := 3) d15_41 (by decide) (by decide) ?_
  refine Go.iload (pc' := 5) d15_3 rfl rfl ?_
  refine Go.iload (pc' := 7) d15_5 rfl rfl ?_
  refine Go.icmpNo (pc' := 10) d15_7 (XT.ii_ge_f (by decide)) rfl ?_
  refine Go.aloadN (pc' := 11) d15_10 rfl rfl rfl ?_
  refine Go.iloadN (pc' := 12) d15_11 rfl rfl ?_
  refine Go.caload (pc' := 13) (v := k1) (vt.other W2 ne_t_b) d15_12 (by decide) (by decide) rfl rfl ?_
  refine Go.istore (pc' := 15) (Ls' := #[.val (.ref t), .val (.int (1 : Int32)), .val (.ref b), .val (.int (1 : Int32)), .val (.int (3 : Int32)), .val (.int (1 : Int32)), .val (.int k1)]) d15_13 rfl rfl ?_
  refine Go.iload (pc' := 17) d15_15 rfl rfl ?_
  refine Go.sipush (pc' := 20) (v := (255 : Int32)) d15_17 rfl rfl ?_
  refine Go.icmpYes (pc' := 26) d15_20 (XT.ii_le_t hk1) (by decide) (by decide) ?_
  refine Go.aloadN (pc' := 27) d15_26 rfl rfl rfl ?_
  refine Go.iloadN (pc' := 28) d15_27 rfl rfl ?_
  refine Go.iload (pc' := 30) d15_28 rfl rfl ?_
  refine Go.i2b (pc' := 31) d15_30 rfl ?_
  refine Go.bastore (pc' := 32) V3 ge_b d15_31 (by decide) (by decide) (i := 1) rfl (nl rfl) rfl ?_
  intro h5 W6 V7
  have K8 : Keep h h5 [b] := K4.wr W6 (Or.inl (List.mem_of_getElem? (i := 0) rfl))
  rw [OwnNum.b8] at V7
  replace V7 : Arv Z h5 b kb .byte (3 : Int32) [(.int k0.toInt8.toInt32), (.int k1.toInt8.toInt32), (.int 0)] (.int 0) := V7
  refine Go.iinc (pc' := 35) (Ls' := #[.val (.ref t), .val (.int ((1 : Int32) + (1 : Int32))), .val (.ref b), .val (.int (1 : Int32)), .val (.int (3 : Int32)), .val (.int (1 : Int32)), .val (.int k1)]) (w := (1 : Int32)) d15_32 rfl rfl rfl rfl ?_
  show Go _ _ _ _ _ _ _ _ _ _ _ _ 35 #[.val (.ref t), .val (.int (2 : Int32)), .val (.ref b), .val (.int (1 : Int32)), .val (.int (3 : Int32)), .val (.int (1 : Int32)), .val (.int k1)] []
  refine Go.iinc (pc' := 38) (Ls' := #[.val (.ref t), .val (.int (2 : Int32)), .val (.ref b), .val (.int ((1 : Int32) + (1 : Int32))), .val (.int (3 : Int32)), .val (.int (1 : Int32)), .val (.int k1)]) (w := (1 : Int32)) d15_35 rfl rfl rfl rfl ?_
  show Go _ _ _ _ _ _ _ _ _ _ _ _ 38 #[.val (.ref t), .val (.int (2 : Int32)), .val (.ref b), .val (.int (2 : Int32)), .val (.int (3 : Int32)), .val (.int (1 : Int32)), .val (.int k1)] []
  refine Go.iinc (pc' := 41) (Ls' := #[.val (.ref t), .val (.int (2 : Int32)), .val (.ref b), .val (.int (2 : Int32)), .val (.int (3 : Int32)), .val (.int ((1 : Int32) + (1 : Int32))), .val (.int k1)]) (w := (1 : Int32)) d15_38 rfl rfl rfl rfl ?_
  show Go _ _ _ _ _ _ _ _ _ _ _ _ 41 #[.val (.ref t), .val (.int (2 : Int32)), .val (.ref b), .val (.int (2 : Int32)), .val (.int (3 : Int32)), .val (.int (2 : Int32)), .val (.int k1)] []
  refine Go.goto (pc' := 3) d15_41 (by decide) (by decide) ?_
  refine Go.iload (pc' := 5) d15_3 rfl rfl ?_
  refine Go.iload (pc' := 7) d15_5 rfl rfl ?_
  refine Go.icmpNo (pc' := 10) d15_7 (XT.ii_ge_f (by decide)) rfl ?_
  refine Go.aloadN (pc' := 11) d15_10 rfl rfl rfl ?_
  refine Go.iloadN (pc' := 12) d15_11 rfl rfl ?_
  refine Go.caload (pc' := 13) (v := k2) ((vt.other W2 ne_t_b).other W6 ne_t_b) d15_12 (by decide) (by decide) rfl rfl ?_
  refine Go.istore (pc' := 15) (Ls' := #[.val (.ref t), .val (.int (2 : Int32)), .val (.ref b), .val (.int (2 : Int32)), .val (.int (3 : Int32)), .val (.int (2 : Int32)), .val (.int k2)]) d15_13 rfl rfl ?_
  refine Go.iload (pc' := 17) d15_15 rfl rfl ?_
  refine Go.sipush (pc' := 20) (v := (255 : Int32)) d15_17 rfl rfl ?_
  refine Go.icmpYes (pc' := 26) d15_20 (XT.ii_le_t hk2) (by decide) (by decide) ?_
  refine Go.aloadN (pc' := 27) d15_26 rfl rfl rfl ?_
  refine Go.iloadN (pc' := 28) d15_27 rfl rfl ?_
  refine Go.iload (pc' := 30) d15_28 rfl rfl ?_
  refine Go.i2b (pc' := 31) d15_30 rfl ?_
  refine Go.bastore (pc' := 32) V7 ge_b d15_31 (by decide) (by decide) (i := 2) rfl (nl rfl) rfl ?_
  intro h9 W10 V11
  have K12 : Keep h h9 [b] := K8.wr W10 (Or.inl (List.mem_of_getElem? (i := 0) rfl))
  rw [OwnNum.b8] at V11
  replace V11 : Arv Z h9 b kb .byte (3 : Int32) [(.int k0.toInt8.toInt32), (.int k1.toInt8.toInt32), (.int k2.toInt8.toInt32)] (.int 0) := V11
  refine Go.iinc (pc' := 35) (Ls' := #[.val (.ref t), .val (.int ((2 : Int32) + (1 : Int32))), .val (.ref b), .val (.int (2 : Int32)), .val (.int (3 : Int32)), .val (.int (2 : Int32)), .val (.int k2)]) (w := (1 : Int32)) d15_32 rfl rfl rfl rfl ?_
  show Go _ _ _ _ _ _ _ _ _ _ _ _ 35 #[.val (.ref t), .val (.int (3 : Int32)), .val (.ref b), .val (.int (2 : Int32)), .val (.int (3 : Int32)), .val (.int (2 : Int32)), .val (.int k2)] []
  refine Go.iinc (pc' := 38) (Ls' := #[.val (.ref t), .val (.int (3 : Int32)), .val (.ref b), .val (.int ((2 : Int32) + (1 : Int32))), .val (.int (3 : Int32)), .val (.int (2 : Int32)), .val (.int k2)]) (w := (1 : Int32)) d15_35 rfl rfl rfl rfl ?_
  show Go _ _ _ _ _ _ _ _ _ _ _ _ 38 #[.val (.ref t), .val (.int (3 : Int32)), .val (.ref b), .val (.int (3 : Int32)), .val (.int (3 : Int32)), .val (.int (2 : Int32)), .val (.int k2)] []
  refine Go.iinc (pc' := 41) (Ls' := #[.val (.ref t), .val (.int (3 : Int32)), .val (.ref b), .val (.int (3 : Int32)), .val (.int (3 : Int32)), .val (.int ((2 : Int32) + (1 : Int32))), .val (.int k2)]) (w := (1 : Int32)) d15_38 rfl rfl rfl rfl ?_
  show Go _ _ _ _ _ _ _ _ _ _ _ _ 41 #[.val (.ref t), .val (.int (3 : Int32)), .val (.ref b), .val (.int (3 : Int32)), .val (.int (3 : Int32)), .val (.int (3 : Int32)), .val (.int k2)] []
  refine Go.goto (pc' := 3) d15_41 (by decide) (by decide) ?_
  refine Go.iload (pc' := 5) d15_3 rfl rfl ?_
  refine Go.iload (pc' := 7) d15_5 rfl rfl ?_
  refine Go.icmpYes (pc' := 44) d15_7 (XT.ii_ge_t (by decide)) (by decide) (by decide) ?_
  refine Go.iload (pc' := 46) d15_44 rfl rfl ?_
  exact Go.retI rfl d15_46 ⟨rfl, K12, V11⟩ (by decide) (by decide)
theorem c_strComp2_3 (l : Launch) (Z : State) (a0 : Array Value) (hw : ∀ d ∈ tables_1, d.before a0 Z = true) {n0 : Nat} (h : Heap) (t : Addr) (kt : ClassId) (k0 : Int32) (k1 : Int32) (k2 : Int32) (hk0 : ¬ ((255 : Int32) < k0)) (hk1 : ¬ ((255 : Int32) < k1)) (hk2 : ¬ ((255 : Int32) < k2)) (vt : Arv Z h t kt .char (3 : Int32) [(.int k0), (.int k1), (.int k2)] (.int 0)) :
    Con l (⟨"java/lang/StringUTF16", "compress", "([CII)[B"⟩ : MethodName) jdk_52_method_16_code 6 (some (.array .byte)) ({ frames := 1, cells := 1, slots := 3, locals := 18 } : Room) Z n0 #[(.ref t), (.int (0 : Int32)), (.int (3 : Int32))] h (fun v h' => ∃ b : Addr, ∃ kb : ClassId, v = some (.ref b) ∧ Keep h h' [] ∧ n0 ≤ b ∧ h.size ≤ b ∧ Arv Z h' b kb .byte (3 : Int32) [(.int k0.toInt8.toInt32), (.int k1.toInt8.toInt32), (.int k2.toInt8.toInt32)] (.int 0)) := by
  refine Con.of_go (plainFor_of_name pn_4) (Ls := #[.val (.ref t), .val (.int (0 : Int32)), .val (.int (3 : Int32)), .unset, .unset, .unset]) (fun m => by first | (simp [entryFrame, mkF, argsToLocals, Value.category]; done) | rfl) ?_
  refine Go.iloadN (pc' := 1) d14_0 rfl rfl ?_
  refine Go.newarray (pc' := 3) (cells' := 1) (slots' := 3) (cap := 3) (ww hw 7 rfl) d14_1 (ad := "[B") (by decide) (by decide) (by decide) rfl rfl (by decide) (by decide) (by decide) rfl ?_
  intro h1 b1 g1 E1 ge1 kA1 A1 X1
  have sz2 : h.size ≤ b1 := Nat.le_trans (Keep.refl h []).1 (Nat.le_of_eq g1.symm)
  have K3 : Keep h h1 [] := (Keep.refl h []).ext E1
  have V1 : Arv Z h1 b1 kA1 .byte (3 : Int32) [(.int 0), (.int 0), (.int 0)] (.int 0) := Arv.pad A1 (pad_rep [] (.int 0) 3)
  refine Go.astoreN (pc' := 4) (Ls' := #[.val (.ref t), .val (.int (0 : Int32)), .val (.int (3 : Int32)), .val (.ref b1), .unset, .unset]) d14_3 rfl rfl rfl ?_
  refine Go.aloadN (pc' := 5) d14_4 rfl rfl rfl ?_
  refine Go.iloadN (pc' := 6) d14_5 rfl rfl ?_
  refine Go.aloadN (pc' := 7) d14_6 rfl rfl rfl ?_
  refine Go.iconst (pc' := 8) (v := (0 : Int32)) d14_7 rfl rfl ?_
  refine Go.iloadN (pc' := 9) d14_8 rfl rfl ?_
  have ne4 : t ≠ b1 := (Nat.ne_of_lt (Nat.lt_of_lt_of_le vt.lt (Nat.le_of_eq g1.symm)))
  refine Go.callS (cells' := 1) (slots' := 3) (pc' := 12) [(.ref t), (.int (0 : Int32)), (.ref b1), (.int (0 : Int32)), (.int (3 : Int32))] [] (ww hw 70 rfl) (ww hw 71 rfl) (ww hw 68 rfl) (ww hw 72 rfl) (by decide) (c_strComp3 l Z a0 hw h1 t kt b1 kA1 k0 k1 k2 hk0 hk1 hk2 ge1 ne4 (vt.ext E1) V1) pd_7 rfl rfl rfl rfl rfl (nl rfl) (nl rfl) (nl rfl) (nl rfl) d14_9 rfl ?_
  rintro _ h5 ⟨rfl, K5, F5_0⟩
  have K6 : Keep h h5 [] := K3.trans K5 (allS (Or.inr sz2) all0)
  show Go _ _ _ _ _ _ _ _ _ _ _ _ 12 #[.val (.ref t), .val (.int (0 : Int32)), .val (.int (3 : Int32)), .val (.ref b1), .unset, .unset] [(.int (3 : Int32))]
  refine Go.istore (pc' := 14) (Ls' := #[.val (.ref t), .val (.int (0 : Int32)), .val (.int (3 : Int32)), .val (.ref b1), .val (.int (3 : Int32)), .unset]) d14_12 rfl rfl ?_
  refine Go.iload (pc' := 16) d14_14 rfl rfl ?_
  refine Go.iloadN (pc' := 17) d14_16 rfl rfl ?_
  refine Go.icmpYes (pc' := 57) d14_17 (XT.ii_eq_t (by decide)) (by decide) (by decide) ?_
  refine Go.aloadN (pc' := 58) d14_57 rfl rfl rfl ?_
  exact Go.retR rfl rfl rfl rfl d14_58 ⟨b1, kA1, rfl, K6, ge1, sz2, F5_0⟩ (by decide) (by decide)
theorem c_strCoder3 (l : Launch) (Z : State) (a0 : Array Value) (hw : ∀ d ∈ tables_1, d.before a0 Z = true) {n0 : Nat} (h : Heap) (b : Addr) (kb : ClassId) (k0 : Int32) (k1 : Int32) (k2 : Int32) (vb : Arv Z h b kb .byte (3 : Int32) [(.int k0.toInt8.toInt32), (.int k1.toInt8.toInt32), (.int k2.toInt8.toInt32)] (.int 0)) :
    Con l (⟨"java/lang/StringUTF16", "coderFromArrayLen", "([BI)B"⟩ : MethodName) jdk_52_method_15_code 2 (some .byte) ({ frames := 0, cells := 0, slots := 0, locals := 0 } : Room) Z n0 #[(.ref b), (.int (3 : Int32))] h (fun v h' => v = some (.int (0 : Int32)) ∧ h = h') := by
  refine Con.of_go (plainFor_of_name pn_4) (Ls := #[.val (.ref b), .val (.int (3 : Int32))]) (fun m => by first | (simp [entryFrame, mkF, argsToLocals, Value.category]; done) | rfl) ?_
  refine Go.iloadN (pc' := 1) d16_0 rfl rfl ?_
  refine Go.aloadN (pc' := 2) d16_1 rfl rfl rfl ?_
  refine Go.arraylength (pc' := 3) vb d16_2 rfl ?_
  refine Go.isub (pc' := 4) d16_3 rfl ?_
  show Go _ _ _ _ _ _ _ _ _ _ _ _ 4 #[.val (.ref b), .val (.int (3 : Int32))] [(.int (0 : Int32))]
  refine Go.bipush (pc' := 6) (v := (31 : Int32)) d16_4 rfl rfl ?_
  refine Go.iushr (pc' := 7) d16_6 rfl ?_
  show Go _ _ _ _ _ _ _ _ _ _ _ _ 7 #[.val (.ref b), .val (.int (3 : Int32))] [(.int (0 : Int32))]
  refine Go.i2b (pc' := 8) d16_7 rfl ?_
  show Go _ _ _ _ _ _ _ _ _ _ _ _ 8 #[.val (.ref b), .val (.int (3 : Int32))] [(.int (0 : Int32))]
  exact Go.retN (t := .byte) rfl (by simp) d16_8 ⟨rfl, rfl⟩ (by decide) (by decide)
theorem c_strInit4_3 (l : Launch) (Z : State) (a0 : Array Value) (hw : ∀ d ∈ tables_1, d.before a0 Z = true) {n0 : Nat} (h : Heap) (a : Addr) (t : Addr) (kt : ClassId) (k0 : Int32) (k1 : Int32) (k2 : Int32) (cp : Int32) (hk0 : ¬ ((255 : Int32) < k0)) (hk1 : ¬ ((255 : Int32) < k1)) (hk2 : ¬ ((255 : Int32) < k2)) (hcp : ¬ (cp = (0 : Int32))) (scp : Sta Z Z.heap "java/lang/String" "COMPACT_STRINGS" "Z" (.int cp)) (ge_a : n0 ≤ a) (xa : Exa Z h a "java/lang/String") (pf0 : Fld Z h a "java/lang/String" "value" "[B" .null) (pf1 : Fld Z h a "java/lang/String" "coder" "B" (.int (0 : Int32))) (vt : Arv Z h t kt .char (3 : Int32) [(.int k0), (.int k1), (.int k2)] (.int 0)) :
    Con l (⟨"java/lang/String", "<init>", "([CIILjava/lang/Void;)V"⟩ : MethodName) jdk_42_method_149_code 6 none ({ frames := 2, cells := 1, slots := 3, locals := 35 } : Room) Z n0 #[(.ref a), (.ref t), (.int (0 : Int32)), (.int (3 : Int32)), .null] h (fun v h' => ∃ b : Addr, ∃ kb : ClassId, v = none ∧ Keep h h' [a] ∧ n0 ≤ b ∧ h.size ≤ b ∧ Fld Z h' a "java/lang/String" "value" "[B" (.ref b) ∧ Fld Z h' a "java/lang/String" "coder" "B" (.int (0 : Int32)) ∧ Arv Z h' b kb .byte (3 : Int32) [(.int k0.toInt8.toInt32), (.int k1.toInt8.toInt32), (.int k2.toInt8.toInt32)] (.int 0)) := by
  refine Con.of_go (plainFor_of_name pn_0) (Ls := #[.val (.ref a), .val (.ref t), .val (.int (0 : Int32)), .val (.int (3 : Int32)), .val .null, .unset]) (fun m => by first | (simp [entryFrame, mkF, argsToLocals, Value.category]; done) | rfl) ?_
  refine Go.aloadN (pc' := 1) d12_0 rfl rfl rfl ?_
  refine Go.initO (pc' := 4) (ww hw 63 rfl) (ww hw 64 rfl) (ww hw 65 rfl) d12_1 rfl (nl rfl) (nl rfl) rfl ?_
  refine Go.iloadN (pc' := 5) d12_4 rfl rfl ?_
  refine Go.ifYes (pc' := 27) d12_5 (XT.i0_ne_t (by decide)) (by decide) (by decide) ?_
  refine Go.old (fun old1 => ?_)
  refine Go.getstatic (pc' := 30) (host := "") (Or.inl (ww hw 27 rfl)) Via.refl (scp.ext old1.2) d12_27 rfl ?_
  refine Go.ifNo (pc' := 33) d12_30 (XT.i0_eq_f hcp) rfl ?_
  refine Go.aloadN (pc' := 34) d12_33 rfl rfl rfl ?_
  refine Go.iloadN (pc' := 35) d12_34 rfl rfl ?_
  refine Go.iloadN (pc' := 36) d12_35 rfl rfl ?_
  refine Go.callS (cells' := 1) (slots' := 3) (pc' := 39) [(.ref t), (.int (0 : Int32)), (.int (3 : Int32))] [] (ww hw 66 rfl) (ww hw 67 rfl) (ww hw 68 rfl) (ww hw 69 rfl) (by decide) (c_strComp2_3 l Z a0 hw h t kt k0 k1 k2 hk0 hk1 hk2 vt) pd_8 rfl rfl rfl rfl rfl (nl rfl) (nl rfl) (nl rfl) (nl rfl) d12_36 rfl ?_
  rintro _ h2 ⟨b_2, kb_2, rfl, K2, ge_b_2, sz_b_2, F2_0⟩
  have sz3 : h.size ≤ b_2 := Nat.le_trans (Keep.refl h [a]).1 sz_b_2
  have K4 : Keep h h2 [a] := (Keep.refl h [a]).trans K2 all0
  show Go _ _ _ _ _ _ _ _ _ _ _ _ 39 #[.val (.ref a), .val (.ref t), .val (.int (0 : Int32)), .val (.int (3 : Int32)), .val .null, .unset] [(.ref b_2)]
  refine Go.astore (pc' := 41) (Ls' := #[.val (.ref a), .val (.ref t), .val (.int (0 : Int32)), .val (.int (3 : Int32)), .val .null, .val (.ref b_2)]) d12_39 rfl rfl rfl ?_
  refine Go.aloadN (pc' := 42) d12_41 rfl rfl rfl ?_
  refine Go.aload (pc' := 44) d12_42 rfl rfl rfl ?_
  refine Go.iloadN (pc' := 45) d12_44 rfl rfl ?_
  refine Go.callS (cells' := 1) (slots' := 3) (pc' := 48) [(.ref b_2), (.int (3 : Int32))] [(.ref a)] (ww hw 73 rfl) (ww hw 74 rfl) (ww hw 68 rfl) (ww hw 75 rfl) (by decide) (c_strCoder3 l Z a0 hw h2 b_2 kb_2 k0 k1 k2 F2_0) pd_9 rfl rfl rfl rfl rfl (nl rfl) (nl rfl) (nl rfl) (nl rfl) d12_45 rfl ?_
  rintro _ _ ⟨rfl, rfl⟩
  show Go _ _ _ _ _ _ _ _ _ _ _ _ 48 #[.val (.ref a), .val (.ref t), .val (.int (0 : Int32)), .val (.int (3 : Int32)), .val .null, .val (.ref b_2)] [(.int (0 : Int32)), (.ref a)]
  refine Go.putfieldN (pc' := 51) (ww hw 28 rfl) Via.refl (pf1.keep K2 nin0) (xa.keep K2) (Or.inr ⟨(ww hw 9 rfl), rfl, rfl⟩) (ww hw 6 rfl) (ty := .byte) (v' := (0 : Int32)) (by decide) (by first | rfl | decide) (by first | rfl | decide | exact fits_nar_byte _) ge_a d12_48 rfl ?_
  intro h6 W7
  have K8 : Keep h h6 [a] := K4.wr W7 (Or.inl (List.mem_of_getElem? (i := 0) rfl))
  have f9 := (pf1.keep K2 nin0).same W7
  refine Go.aloadN (pc' := 52) d12_51 rfl rfl rfl ?_
  refine Go.aload (pc' := 54) d12_52 rfl rfl rfl ?_
  have f10 : Fld Z h6 a "java/lang/String" "value" "[B" .null := ((pf0.keep K2 nin0).other W7 (Or.inr (slot_ne (Or.inr (ww hw 8 rfl)) (Or.inr (ww hw 9 rfl)) (by decide) (t := (.array .byte)) (t' := .byte) (by decide) (by decide))))
  refine Go.putfield (pc' := 57) (host := "") (Or.inl (ww hw 21 rfl)) Via.refl f10 ((xa.keep K2).wr W7) (Or.inr ⟨(ww hw 8 rfl), rfl, rfl⟩) (ww hw 6 rfl) (ty := (.array .byte)) (by decide) rfl rfl ge_a d12_54 rfl ?_
  intro h11 W12
  have K13 : Keep h h11 [a] := K8.wr W12 (Or.inl (List.mem_of_getElem? (i := 0) rfl))
  have f14 := f10.same W12
  have f15 : Fld Z h11 a "java/lang/String" "coder" "B" (.int (0 : Int32)) := (f9.other W12 (Or.inr (slot_ne (Or.inr (ww hw 9 rfl)) (Or.inr (ww hw 8 rfl)) (by decide) (t := .byte) (t' := (.array .byte)) (by decide) (by decide))))
  have ne16 : a ≠ b_2 := (Nat.ne_of_lt (Nat.lt_of_lt_of_le pf0.lt sz_b_2))
  have f17 : Arv Z h11 b_2 kb_2 .byte (3 : Int32) [(.int k0.toInt8.toInt32), (.int k1.toInt8.toInt32), (.int k2.toInt8.toInt32)] (.int 0) := ((F2_0.other W7 (Ne.symm ne16)).other W12 (Ne.symm ne16))
  exact Go.retV rfl d12_57 ⟨b_2, kb_2, rfl, K13, ge_b_2, sz3, f14, f15, f17⟩ (by decide) (by decide)
theorem c_strInit3 (l : Launch) (Z : State) (a0 : Array Value) (hw : ∀ d ∈ tables_1, d.before a0 Z = true) {n0 : Nat} (h : Heap) (a : Addr) (t : Addr) (kt : ClassId) (k0 : Int32) (k1 : Int32) (k2 : Int32) (cp : Int32) (hk0 : ¬ ((255 : Int32) < k0)) (hk1 : ¬ ((255 : Int32) < k1)) (hk2 : ¬ ((255 : Int32) < k2)) (hcp : ¬ (cp = (0 : Int32))) (scp : Sta Z Z.heap "java/lang/String" "COMPACT_STRINGS" "Z" (.int cp)) (ge_a : n0 ≤ a) (xa : Exa Z h a "java/lang/String") (pf0 : Fld Z h a "java/lang/String" "value" "[B" .null) (pf1 : Fld Z h a "java/lang/String" "coder" "B" (.int (0 : Int32))) (vt : Arv Z h t kt .char (3 : Int32) [(.int k0), (.int k1), (.int k2)] (.int 0)) :
    Con l (⟨"java/lang/String", "<init>", "([C)V"⟩ : MethodName) jdk_42_method_3_code 2 none ({ frames := 3, cells := 1, slots := 3, locals := 52 } : Room) Z n0 #[(.ref a), (.ref t)] h (fun v h' => ∃ b : Addr, ∃ kb : ClassId, v = none ∧ Keep h h' [a] ∧ n0 ≤ b ∧ h.size ≤ b ∧ Fld Z h' a "java/lang/String" "value" "[B" (.ref b) ∧ Fld Z h' a "java/lang/String" "coder" "B" (.int (0 : Int32)) ∧ Arv Z h' b kb .byte (3 : Int32) [(.int k0.toInt8.toInt32), (.int k1.toInt8.toInt32), (.int k2.toInt8.toInt32)] (.int 0)) := by
  refine Con.of_go (plainFor_of_name pn_0) (Ls := #[.val (.ref a), .val (.ref t)]) (fun m => by first | (simp [entryFrame, mkF, argsToLocals, Value.category]; done) | rfl) ?_
  refine Go.aloadN (pc' := 1) d11_0 rfl rfl rfl ?_
  refine Go.aloadN (pc' := 2) d11_1 rfl rfl rfl ?_
  refine Go.iconst (pc' := 3) (v := (0 : Int32)) d11_2 rfl rfl ?_
  refine Go.aloadN (pc' := 4) d11_3 rfl rfl rfl ?_
  refine Go.arraylength (pc' := 5) vt d11_4 rfl ?_
  refine Go.aconstNull (pc' := 6) d11_5 rfl ?_
  refine Go.callC (cells' := 1) (slots' := 3) (pc' := 9) [(.ref t), (.int (0 : Int32)), (.int (3 : Int32)), .null] [] (a := a) rfl rfl (ww hw 59 rfl) (ww hw 60 rfl) (ww hw 5 rfl) (ww hw 62 rfl) (by decide) (c_strInit4_3 l Z a0 hw h a t kt k0 k1 k2 cp hk0 hk1 hk2 hcp scp ge_a xa pf0 pf1 vt) pd_10 rfl rfl rfl rfl rfl (nl rfl) (nl rfl) (nl rfl) (nl rfl) d11_6 rfl ?_
  rintro _ h1 ⟨b_1, kb_1, rfl, K1, ge_b_1, sz_b_1, F1_0, F1_1, F1_2⟩
  have sz2 : h.size ≤ b_1 := Nat.le_trans (Keep.refl h [a]).1 sz_b_1
  have K3 : Keep h h1 [a] := (Keep.refl h [a]).trans K1 (allS (Or.inl (List.mem_of_getElem? (i := 0) rfl)) all0)
  show Go _ _ _ _ _ _ _ _ _ _ _ _ 9 #[.val (.ref a), .val (.ref t)] []
  exact Go.retV rfl d11_9 ⟨b_1, kb_1, rfl, K3, ge_b_1, sz2, F1_0, F1_1, F1_2⟩ (by decide) (by decide)
theorem c_strComp4 (l : Launch) (Z : State) (a0 : Array Value) (hw : ∀ d ∈ tables_1, d.before a0 Z = true) {n0 : Nat} (h : Heap) (t : Addr) (kt : ClassId) (b : Addr) (kb : ClassId) (k0 : Int32) (k1 : Int32) (k2 : Int32) (k3 : Int32) (hk0 : ¬ ((255 : Int32) < k0)) (hk1 : ¬ ((255 : Int32) < k1)) (hk2 : ¬ ((255 : Int32) < k2)) (hk3 : ¬ ((255 : Int32) < k3)) (ge_b : n0 ≤ b) (ne_t_b : t ≠ b) (vt : Arv Z h t kt .char (4 : Int32) [(.int k0), (.int k1), (.int k2), (.int k3)] (.int 0)) (vb : Arv Z h b kb .byte (4 : Int32) [(.int 0), (.int 0), (.int 0), (.int 0)] (.int 0)) :
    Con l (⟨"java/lang/StringUTF16", "compress", "([CI[BII)I"⟩ : MethodName) jdk_52_method_21_code 7 (some .int) ({ frames := 0, cells := 0, slots := 0, locals := 0 } : Room) Z n0 #[(.ref t), (.int (0 : Int32)), (.ref b), (.int (0 : Int32)), (.int (4 : Int32))] h (fun v h' => v = some (.int (4 : Int32)) ∧ Keep h h' [b] ∧ Arv Z h' b kb .byte (4 : Int32) [(.int k0.toInt8.toInt32), (.int k1.toInt8.toInt32), (.int k2.toInt8.toInt32), (.int k3.toInt8.toInt32)] (.int 0)) := by
  refine Con.of_go (plainFor_of_name pn_4) (Ls := #[.val (.ref t), .val (.int (0 : Int32)), .val (.ref b), .val (.int (0 : Int32)), .val (.int (4 : Int32)), .unset, .unset]) (fun m => by first | (simp [entryFrame, mkF, argsToLocals, Value.category]; done) | rfl) ?_
  refine Go.iconst (pc' := 1) (v := (0 : Int32)) d15_0 rfl rfl ?_
  refine Go.istore (pc' := 3) (Ls' := #[.val (.ref t), .val (.int (0 : Int32)), .val (.ref b), .val (.int (0 : Int32)), .val (.int (4 : Int32)), .val (.int (0 : Int32)), .unset]) d15_1 rfl rfl ?_
  refine Go.iload (pc' := 5) d15_3 rfl rfl ?_
  refine Go.iload (pc' := 7) d15_5 rfl rfl ?_
  refine Go.icmpNo (pc' := 10) d15_7 (XT.ii_ge_f (by decide)) rfl ?_
  refine Go.aloadN (pc' := 11) d15_10 rfl rfl rfl ?_
  refine Go.iloadN (pc' := 12) d15_11 rfl rfl ?_
  refine Go.caload (pc' := 13) (v := k0) vt d15_12 (by decide) (by decide) rfl rfl ?_
  refine Go.istore (pc' := 15) (Ls' := #[.val (.ref t), .val (.int (0 : Int32)), .val (.ref b), .val (.int (0 : Int32)), .val (.int (4 : Int32)), .val (.int (0 : Int32)), .val (.int k0)]) d15_13 rfl rfl ?_
  refine Go.iload (pc' := 17) d15_15 rfl rfl ?_
  refine Go.sipush (pc' := 20) (v := (255 : Int32)) d15_17 rfl rfl ?_
  refine Go.icmpYes (pc' := 26) d15_20 (XT.ii_le_t hk0) (by decide) (by decide) ?_
  refine Go.aloadN (pc' := 27) d15_26 rfl rfl rfl ?_
  refine Go.iloadN (pc' := 28) d15_27 rfl rfl ?_
  refine Go.iload (pc' := 30) d15_28 rfl rfl ?_
  refine Go.i2b (pc' := 31) d15_30 rfl ?_
  refine Go.bastore (pc' := 32) vb ge_b d15_31 (by decide) (by decide) (i := 0) rfl (nl rfl) rfl ?_
  intro h1 W2 V3
  have K4 : Keep h h1 [b] := (Keep.refl h [b]).wr W2 (Or.inl (List.mem_of_getElem? (i := 0) rfl))
  rw [OwnNum.b8] at V3
  replace V3 : Arv Z h1 b kb .byte (4 : Int32) [(.int k0.toInt8.toInt32), (.int 0), (.int 0), (.int 0)] (.int 0) := V3
  refine Go.iinc (pc' := 35) (Ls' := #[.val (.ref t), .val (.int ((0 : Int32) + (1 : Int32))), .val (.ref b), .val (.int (0 : Int32)), .val (.int (4 : Int32)), .val (.int (0 : Int32)), .val (.int k0)]) (w := (1 : Int32)) d15_32 rfl rfl rfl rfl ?_
  show Go _ _ _ _ _ _ _ _ _ _ _ _ 35 #[.val (.ref t), .val (.int (1 : Int32)), .val (.ref b), .val (.int (0 : Int32)), .val (.int (4 : Int32)), .val (.int (0 : Int32)), .val (.int k0)] []
  refine Go.iinc (pc' := 38) (Ls' := #[.val (.ref t), .val (.int (1 : Int32)), .val (.ref b), .val (.int ((0 : Int32) + (1 : Int32))), .val (.int (4 : Int32)), .val (.int (0 : Int32)), .val (.int k0)]) (w := (1 : Int32)) d15_35 rfl rfl rfl rfl ?_
  show Go _ _ _ _ _ _ _ _ _ _ _ _ 38 #[.val (.ref t), .val (.int (1 : Int32)), .val (.ref b), .val (.int (1 : Int32)), .val (.int (4 : Int32)), .val (.int (0 : Int32)), .val (.int k0)] []
  refine Go.iinc (pc' := 41) (Ls' := #[.val (.ref t), .val (.int (1 : Int32)), .val (.ref b), .val (.int (1 : Int32)), .val (.int (4 : Int32)), .val (.int ((0 : Int32) + (1 : Int32))), .val (.int k0)]) (w := (1 : Int32)) d15_38 rfl rfl rfl rfl ?_
  show Go _ _ _ _ _ _ _ _ _ _ _ _ 41 #[.val (.ref t), .val (.int (1 : Int32)), .val (.ref b), .val (.int (1 : Int32)), .val (.int (4 : Int32)), .val (.int (1 : Int32)), .val (.int k0)] []
  refine Go.goto (pc' := 3) d15_41 (by decide) (by decide) ?_
  refine Go.iload (pc' := 5) d15_3 rfl rfl ?_
  refine Go.iload (pc' := 7) d15_5 rfl rfl ?_
  refine Go.icmpNo (pc' := 10) d15_7 (XT.ii_ge_f (by decide)) rfl ?_
  refine Go.aloadN (pc' := 11) d15_10 rfl rfl rfl ?_
  refine Go.iloadN (pc' := 12) d15_11 rfl rfl ?_
  refine Go.caload (pc' := 13) (v := k1) (vt.other W2 ne_t_b) d15_12 (by decide) (by decide) rfl rfl ?_
  refine Go.istore (pc' := 15) (Ls' := #[.val (.ref t), .val (.int (1 : Int32)), .val (.ref b), .val (.int (1 : Int32)), .val (.int (4 : Int32)), .val (.int (1 : Int32)), .val (.int k1)]) d15_13 rfl rfl ?_
  refine Go.iload (pc' := 17) d15_15 rfl rfl ?_
  refine Go.sipush (pc' := 20) (v := (255 : Int32)) d15_17 rfl rfl ?_
  refine Go.icmpYes (pc' := 26) d15_20 (XT.ii_le_t hk1) (by decide) (by decide) ?_
  refine Go.aloadN (pc' := 27) d15_26 rfl rfl rfl ?_
  refine Go.iloadN (pc' := 28) d15_27 rfl rfl ?_
  refine Go.iload (pc' := 30) d15_28 rfl rfl ?_
  refine Go.i2b (pc' := 31) d15_30 rfl ?_
  refine Go.bastore (pc' := 32) V3 ge_b d15_31 (by decide) (by decide) (i := 1) rfl (nl rfl) rfl ?_
  intro h5 W6 V7
  have K8 : Keep h h5 [b] := K4.wr W6 (Or.inl (List.mem_of_getElem? (i := 0) rfl))
  rw [OwnNum.b8] at V7
  replace V7 : Arv Z h5 b kb .byte (4 : Int32) [(.int k0.toInt8.toInt32), (.int k1.toInt8.toInt32), (.int 0), (.int 0)] (.int 0) := V7
  refine Go.iinc (pc' := 35) (Ls' := #[.val (.ref t), .val (.int ((1 : Int32) + (1 : Int32))), .val (.ref b), .val (.int (1 : Int32)), .val (.int (4 : Int32)), .val (.int (1 : Int32)), .val (.int k1)]) (w := (1 : Int32)) d15_32 rfl rfl rfl rfl ?_
  show Go _ _ _ _ _ _ _ _ _ _ _ _ 35 #[.val (.ref t), .val (.int (2 : Int32)), .val (.ref b), .val (.int (1 : Int32)), .val (.int (4 : Int32)), .val (.int (1 : Int32)), .val (.int k1)] []
  refine Go.iinc (pc' := 38) (Ls' := #[.val (.ref t), .val (.int (2 : Int32)), .val (.ref b), .val (.int ((1 : Int32) + (1 : Int32))), .val (.int (4 : Int32)), .val (.int (1 : Int32)), .val (.int k1)]) (w := (1 : Int32)) d15_35 rfl rfl rfl rfl ?_
  show Go _ _ _ _ _ _ _ _ _ _ _ _ 38 #[.val (.ref t), .val (.int (2 : Int32)), .val (.ref b), .val (.int (2 : Int32)), .val (.int (4 : Int32)), .val (.int (1 : Int32)), .val (.int k1)] []
  refine Go.iinc (pc' := 41) (Ls' := #[.val (.ref t), .val (.int (2 : Int32)), .val (.ref b), .val (.int (2 : Int32)), .val (.int (4 : Int32)), .val (.int ((1 : Int32) + (1 : Int32))), .val (.int k1)]) (w := (1 : Int32)) d15_38 rfl rfl rfl rfl ?_
  show Go _ _ _ _ _ _ _ _ _ _ _ _ 41 #[.val (.ref t), .val (.int (2 : Int32)), .val (.ref b), .val (.int (2 : Int32)), .val (.int (4 : Int32)), .val (.int (2 : Int32)), .val (.int k1)] []
  refine Go.goto (pc' := 3) d15_41 (by decide) (by decide) ?_
  refine Go.iload (pc' := 5) d15_3 rfl rfl ?_
  refine Go.iload (pc' := 7) d15_5 rfl rfl ?_
  refine Go.icmpNo (pc' := 10) d15_7 (XT.ii_ge_f (by decide)) rfl ?_
  refine Go.aloadN (pc' := 11) d15_10 rfl rfl rfl ?_
  refine Go.iloadN (pc' := 12) d15_11 rfl rfl ?_
  refine Go.caload (pc' := 13) (v := k2) ((vt.other W2 ne_t_b).other W6 ne_t_b) d15_12 (by decide) (by decide) rfl rfl ?_
  refine Go.istore (pc' := 15) (Ls' := #[.val (.ref t), .val (.int (2 : Int32)), .val (.ref b), .val (.int (2 : Int32)), .val (.int (4 : Int32)), .val (.int (2 : Int32)), .val (.int k2)]) d15_13 rfl rfl ?_
  refine Go.iload (pc' := 17) d15_15 rfl rfl ?_
  refine Go.sipush (pc' := 20) (v := (255 : Int32)) d15_17 rfl rfl ?_
  refine Go.icmpYes (pc' := 26) d15_20 (XT.ii_le_t hk2) (by decide) (by decide) ?_
  refine Go.aloadN (pc' := 27) d15_26 rfl rfl rfl ?_
  refine Go.iloadN (pc' := 28) d15_27 rfl rfl ?_
  refine Go.iload (pc' := 30) d15_28 rfl rfl ?_
  refine Go.i2b (pc' := 31) d15_30 rfl ?_
  refine Go.bastore (pc' := 32) V7 ge_b d15_31 (by decide) (by decide) (i := 2) rfl (nl rfl) rfl ?_
  intro h9 W10 V11
  have K12 : Keep h h9 [b] := K8.wr W10 (Or.inl (List.mem_of_getElem? (i := 0) rfl))
  rw [OwnNum.b8] at V11
  replace V11 : Arv Z h9 b kb .byte (4 : Int32) [(.int k0.toInt8.toInt32), (.int k1.toInt8.toInt32), (.int k2.toInt8.toInt32), (.int 0)] (.int 0) := V11
  refine Go.iinc (pc' := 35) (Ls' := #[.val (.ref t), .val (.int ((2 : Int32) + (1 : Int32))), .val (.ref b), .val (.int (2 : Int32)), .val (.int (4 : Int32)), .val (.int (2 : Int32)), .val (.int k2)]) (w := (1 : Int32)) d15_32 rfl rfl rfl rfl ?_
  show Go _ _ _ _ _ _ _ _ _ _ _ _ 35 #[.val (.ref t), .val (.int (3 : Int32)), .val (.ref b), .val (.int (2 : Int32)), .val (.int (4 : Int32)), .val (.int (2 : Int32)), .val (.int k2)] []
  refine Go.iinc (pc' := 38) (Ls' := #[.val (.ref t), .val (.int (3 : Int32)), .val (.ref b), .val (.int ((2 : Int32) + (1 : Int32))), .val (.int (4 : Int32)), .val (.int (2 : Int32)), .val (.int k2)]) (w := (1 : Int32)) d15_35 rfl rfl rfl rfl ?_
  show Go _ _ _ _ _ _ _ _ _ _ _ _ 38 #[.val (.ref t), .val (.int (3 : Int32)), .val (.ref b), .val (.int (3 : Int32)), .val (.int (4 : Int32)), .val (.int (2 : Int32)), .val (.int k2)] []
  refine Go.iinc (pc' := 41) (Ls' := #[.val (.ref t), .val (.int (3 : Int32)), .val (.ref b), .val (.int (3 : Int32)), .val (.int (4 : Int32)), .val (.int ((2 : Int32) + (1 : Int32))), .val (.int k2)]) (w := (1 : Int32)) d15_38 rfl rfl rfl rfl ?_
  show Go _ _ _ _ _ _ _ _ _ _ _ _ 41 #[.val (.ref t), .val (.int (3 : Int32)), .val (.ref b), .val (.int (3 : Int32)), .val (.int (4 : Int32)), .val (.int (3 : Int32)), .val (.int k2)] []
  refine Go.goto (pc' := 3) d15_41 (by decide) (by decide) ?_
  refine Go.iload (pc' := 5) d15_3 rfl rfl ?_
  refine Go.iload (pc' := 7) d15_5 rfl rfl ?_
  refine Go.icmpNo (pc' := 10) d15_7 (XT.ii_ge_f (by decide)) rfl ?_
  refine Go.aloadN (pc' := 11) d15_10 rfl rfl rfl ?_
  refine Go.iloadN (pc' := 12) d15_11 rfl rfl ?_
  have f13 : Arv Z h9 t kt .char (4 : Int32) [(.int k0), (.int k1), (.int k2), (.int k3)] (.int 0) := (((vt.other W2 ne_t_b).other W6 ne_t_b).other W10 ne_t_b)
  refine Go.caload (pc' := 13) (v := k3) f13 d15_12 (by decide) (by decide) rfl rfl ?_
  refine Go.istore (pc' := 15) (Ls' := #[.val (.ref t), .val (.int (3 : Int32)), .val (.ref b), .val (.int (3 : Int32)), .val (.int (4 : Int32)), .val (.int (3 : Int32)), .val (.int k3)]) d15_13 rfl rfl ?_
  refine Go.iload (pc' := 17) d15_15 rfl rfl ?_
  refine Go.sipush (pc' := 20) (v := (255 : Int32)) d15_17 rfl rfl ?_
  refine Go.icmpYes (pc' := 26) d15_20 (XT.ii_le_t hk3) (by decide) (by decide) ?_
  refine Go.aloadN (pc' := 27) d15_26 rfl rfl rfl ?_
  refine Go.iloadN (pc' := 28) d15_27 rfl rfl ?_
  refine Go.iload (pc' := 30) d15_28 rfl rfl ?_
  refine Go.i2b (pc' := 31) d15_30 rfl ?_
  refine Go.bastore (pc' := 32) V11 ge_b d15_31 (by decide) (by decide) (i := 3) rfl (nl rfl) rfl ?_
  intro h14 W15 V16
  have K17 : Keep h h14 [b] := K12.wr W15 (Or.inl (List.mem_of_getElem? (i := 0) rfl))
  rw [OwnNum.b8] at V16
  replace V16 : Arv Z h14 b kb .byte (4 : Int32) [(.int k0.toInt8.toInt32), (.int k1.toInt8.toInt32), (.int k2.toInt8.toInt32), (.int k3.toInt8.toInt32)] (.int 0) := V16
  refine Go.iinc (pc' := 35) (Ls' := #[.val (.ref t), .val (.int ((3 : Int32) + (1 : Int32))), .val (.ref b), .val (.int (3 : Int32)), .val (.int (4 : Int32)), .val (.int (3 : Int32)), .val (.int k3)]) (w := (1 : Int32)) d15_32 rfl rfl rfl rfl ?_
  show Go _ _ _ _ _ _ _ _ _ _ _ _ 35 #[.val (.ref t), .val (.int (4 : Int32)), .val (.ref b), .val (.int (3 : Int32)), .val (.int (4 : Int32)), .val (.int (3 : Int32)), .val (.int k3)] []
  refine Go.iinc (pc' := 38) (Ls' := #[.val (.ref t), .val (.int (4 : Int32)), .val (.ref b), .val (.int ((3 : Int32) + (1 : Int32))), .val (.int (4 : Int32)), .val (.int (3 : Int32)), .val (.int k3)]) (w := (1 : Int32)) d15_35 rfl rfl rfl rfl ?_
  show Go _ _ _ _ _ _ _ _ _ _ _ _ 38 #[.val (.ref t), .val (.int (4 : Int32)), .val (.ref b), .val (.int (4 : Int32)), .val (.int (4 : Int32)), .val (.int (3 : Int32)), .val (.int k3)] []
  refine Go.iinc (pc' := 41) (Ls' := #[.val (.ref t), .val (.int (4 : Int32)), .val (.ref b), .val (.int (4 : Int32)), .val (.int (4 : Int32)), .val (.int ((3 : Int32) + (1 : Int32))), .val (.int k3)]) (w := (1 : Int32)) d15_38 rfl rfl rfl rfl ?_
  show Go _ _ _ _ _ _ _ _ _ _ _ _ 41 #[.val (.ref t), .val (.int (4 : Int32)), .val (.ref b), .val (.int (4 : Int32)), .val (.int (4 : Int32)), .val (.int (4 : Int32)), .val (.int k3)] []
  refine Go.goto (pc' := 3) d15_41 (by decide) (by decide) ?_
  refine Go.iload (pc' := 5) d15_3 rfl rfl ?_
  refine Go.iload (pc' := 7) d15_5 rfl rfl ?_
  refine Go.icmpYes (pc' := 44) d15_7 (XT.ii_ge_t (by decide)) (by decide) (by decide) ?_
  refine Go.iload (pc' := 46) d15_44 rfl rfl ?_
  exact Go.retI rfl d15_46 ⟨rfl, K17, V16⟩ (by decide) (by decide)
theorem c_strComp2_4 (l : Launch) (Z : State) (a0 : Array Value) (hw : ∀ d ∈ tables_1, d.before a0 Z = true) {n0 : Nat} (h : Heap) (t : Addr) (kt : ClassId) (k0 : Int32) (k1 : Int32) (k2 : Int32) (k3 : Int32) (hk0 : ¬ ((255 : Int32) < k0)) (hk1 : ¬ ((255 : Int32) < k1)) (hk2 : ¬ ((255 : Int32) < k2)) (hk3 : ¬ ((255 : Int32) < k3)) (vt : Arv Z h t kt .char (4 : Int32) [(.int k0), (.int k1), (.int k2), (.int k3)] (.int 0)) :
    Con l (⟨"java/lang/StringUTF16", "compress", "([CII)[B"⟩ : MethodName) jdk_52_method_16_code 6 (some (.array .byte)) ({ frames := 1, cells := 1, slots := 4, locals := 18 } : Room) Z n0 #[(.ref t), (.int (0 : Int32)), (.int (4 : Int32))] h (fun v h' => ∃ b : Addr, ∃ kb : ClassId, v = some (.ref b) ∧ Keep h h' [] ∧ n0 ≤ b ∧ h.size ≤ b ∧ Arv Z h' b kb .byte (4 : Int32) [(.int k0.toInt8.toInt32), (.int k1.toInt8.toInt32), (.int k2.toInt8.toInt32), (.int k3.toInt8.toInt32)] (.int 0)) := by
  refine Con.of_go (plainFor_of_name pn_4) (Ls := #[.val (.ref t), .val (.int (0 : Int32)), .val (.int (4 : Int32)), .unset, .unset, .unset]) (fun m => by first | (simp [entryFrame, mkF, argsToLocals, Value.category]; done) | rfl) ?_
  refine Go.iloadN (pc' := 1) d14_0 rfl rfl ?_
  refine Go.newarray (pc' := 3) (cells' := 1) (slots' := 4) (cap := 4) (ww hw 7 rfl) d14_1 (ad := "[B") (by decide) (by decide) (by decide) rfl rfl (by decide) (by decide) (by decide) rfl ?_
  intro h1 b1 g1 E1 ge1 kA1 A1 X1
  have sz2 : h.size ≤ b1 := Nat.le_trans (Keep.refl h []).1 (Nat.le_of_eq g1.symm)
  have K3 : Keep h h1 [] := (Keep.refl h []).ext E1
  have V1 : Arv Z h1 b1 kA1 .byte (4 : Int32) [(.int 0), (.int 0), (.int 0), (.int 0)] (.int 0) := Arv.pad A1 (pad_rep [] (.int 0) 4)
  refine Go.astoreN (pc' := 4) (Ls' := #[.val (.ref t), .val (.int (0 : Int32)), .val (.int (4 : Int32)), .val (.ref b1), .unset, .unset]) d14_3 rfl rfl rfl ?_
  refine Go.aloadN (pc' := 5) d14_4 rfl rfl rfl ?_
  refine Go.iloadN (pc' := 6) d14_5 rfl rfl ?_
  refine Go.aloadN (pc' := 7) d14_6 rfl rfl rfl ?_
  refine Go.iconst (pc' := 8) (v := (0 : Int32)) d14_7 rfl rfl ?_
  refine Go.iloadN (pc' := 9) d14_8 rfl rfl ?_
  have ne4 : t ≠ b1 := (Nat.ne_of_lt (Nat.lt_of_lt_of_le vt.lt (Nat.le_of_eq g1.symm)))
  refine Go.callS (cells' := 1) (slots' := 4) (pc' := 12) [(.ref t), (.int (0 : Int32)), (.ref b1), (.int (0 : Int32)), (.int (4 : Int32))] [] (ww hw 70 rfl) (ww hw 71 rfl) (ww hw 68 rfl) (ww hw 72 rfl) (by decide) (c_strComp4 l Z a0 hw h1 t kt b1 kA1 k0 k1 k2 k3 hk0 hk1 hk2 hk3 ge1 ne4 (vt.ext E1) V1) pd_7 rfl rfl rfl rfl rfl (nl rfl) (nl rfl) (nl rfl) (nl rfl) d14_9 rfl ?_
  rintro _ h5 ⟨rfl, K5, F5_0⟩
  have K6 : Keep h h5 [] := K3.trans K5 (allS (Or.inr sz2) all0)
  show Go _ _ _ _ _ _ _ _ _ _ _ _ 12 #[.val (.ref t), .val (.int (0 : Int32)), .val (.int (4 : Int32)), .val (.ref b1), .unset, .unset] [(.int (4 : Int32))]
  refine Go.istore (pc' := 14) (Ls' := #[.val (.ref t), .val (.int (0 : Int32)), .val (.int (4 : Int32)), .val (.ref b1), .val (.int (4 : Int32)), .unset]) d14_12 rfl rfl ?_
  refine Go.iload (pc' := 16) d14_14 rfl rfl ?_
  refine Go.iloadN (pc' := 17) d14_16 rfl rfl ?_
  refine Go.icmpYes (pc' := 57) d14_17 (XT.ii_eq_t (by decide)) (by decide) (by decide) ?_
  refine Go.aloadN (pc' := 58) d14_57 rfl rfl rfl ?_
  exact Go.retR rfl rfl rfl rfl d14_58 ⟨b1, kA1, rfl, K6, ge1, sz2, F5_0⟩ (by decide) (by decide)
theorem c_strCoder4 (l : Launch) (Z : State) (a0 : Array Value) (hw : ∀ d ∈ tables_1, d.before a0 Z = true) {n0 : Nat} (h : Heap) (b : Addr) (kb : ClassId) (k0 : Int32) (k1 : Int32) (k2 : Int32) (k3 : Int32) (vb : Arv Z h b kb .byte (4 : Int32) [(.int k0.toInt8.toInt32), (.int k1.toInt8.toInt32), (.int k2.toInt8.toInt32), (.int k3.toInt8.toInt32)] (.int 0)) :
    Con l (⟨"java/lang/StringUTF16", "coderFromArrayLen", "([BI)B"⟩ : MethodName) jdk_52_method_15_code 2 (some .byte) ({ frames := 0, cells := 0, slots := 0, locals := 0 } : Room) Z n0 #[(.ref b), (.int (4 : Int32))] h (fun v h' => v = some (.int (0 : Int32)) ∧ h = h') := by
  refine Con.of_go (plainFor_of_name pn_4) (Ls := #[.val (.ref b), .val (.int (4 : Int32))]) (fun m => by first | (simp [entryFrame, mkF, argsToLocals, Value.category]; done) | rfl) ?_
  refine Go.iloadN (pc' := 1) d16_0 rfl rfl ?_
  refine Go.aloadN (pc' := 2) d16_1 rfl rfl rfl ?_
  refine Go.arraylength (pc' := 3) vb d16_2 rfl ?_
  refine Go.isub (pc' := 4) d16_3 rfl ?_
  show Go _ _ _ _ _ _ _ _ _ _ _ _ 4 #[.val (.ref b), .val (.int (4 : Int32))] [(.int (0 : Int32))]
  refine Go.bipush (pc' := 6) (v := (31 : Int32)) d16_4 rfl rfl ?_
  refine Go.iushr (pc' := 7) d16_6 rfl ?_
  show Go _ _ _ _ _ _ _ _ _ _ _ _ 7 #[.val (.ref b), .val (.int (4 : Int32))] [(.int (0 : Int32))]
  refine Go.i2b (pc' := 8) d16_7 rfl ?_
  show Go _ _ _ _ _ _ _ _ _ _ _ _ 8 #[.val (.ref b), .val (.int (4 : Int32))] [(.int (0 : Int32))]
  exact Go.retN (t := .byte) rfl (by simp) d16_8 ⟨rfl, rfl⟩ (by decide) (by decide)
theorem c_strInit4_4 (l : Launch) (Z : State) (a0 : Array Value) (hw : ∀ d ∈ tables_1, d.before a0 Z = true) {n0 : Nat} (h : Heap) (a : Addr) (t : Addr) (kt : ClassId) (k0 : Int32) (k1 : Int32) (k2 : Int32) (k3 : Int32) (cp : Int32) (hk0 : ¬ ((255 : Int32) < k0)) (hk1 : ¬ ((255 : Int32) < k1)) (hk2 : ¬ ((255 : Int32) < k2)) (hk3 : ¬ ((255 : Int32) < k3)) (hcp : ¬ (cp = (0 : Int32))) (scp : Sta Z Z.heap "java/lang/String" "COMPACT_STRINGS" "Z" (.int cp)) (ge_a : n0 ≤ a) (xa : Exa Z h a "java/lang/String") (pf0 : Fld Z h a "java/lang/String" "value" "[B" .null) (pf1 : Fld Z h a "java/lang/String" "coder" "B" (.int (0 : Int32))) (vt : Arv Z h t kt .char (4 : Int32) [(.int k0), (.int k1), (.int k2), (.int k3)] (.int 0)) :
    Con l (⟨"java/lang/String", "<init>", "([CIILjava/lang/Void;)V"⟩ : MethodName) jdk_42_method_149_code 6 none ({ frames := 2, cells := 1, slots := 4, locals := 35 } : Room) Z n0 #[(.ref a), (.ref t), (.int (0 : Int32)), (.int (4 : Int32)), .null] h (fun v h' => ∃ b : Addr, ∃ kb : ClassId, v = none ∧ Keep h h' [a] ∧ n0 ≤ b ∧ h.size ≤ b ∧ Fld Z h' a "java/lang/String" "value" "[B" (.ref b) ∧ Fld Z h' a "java/lang/String" "coder" "B" (.int (0 : Int32)) ∧ Arv Z h' b kb .byte (4 : Int32) [(.int k0.toInt8.toInt32), (.int k1.toInt8.toInt32), (.int k2.toInt8.toInt32), (.int k3.toInt8.toInt32)] (.int 0)) := by
  refine Con.of_go (plainFor_of_name pn_0) (Ls := #[.val (.ref a), .val (.ref t), .val (.int (0 : Int32)), .val (.int (4 : Int32)), .val .null, .unset]) (fun m => by first | (simp [entryFrame, mkF, argsToLocals, Value.category]; done) | rfl) ?_
  refine Go.aloadN (pc' := 1) d12_0 rfl rfl rfl ?_
  refine Go.initO (pc' := 4) (ww hw 63 rfl) (ww hw 64 rfl) (ww hw 65 rfl) d12_1 rfl (nl rfl) (nl rfl) rfl ?_
  refine Go.iloadN (pc' := 5) d12_4 rfl rfl ?_
  refine Go.ifYes (pc' := 27) d12_5 (XT.i0_ne_t (by decide)) (by decide) (by decide) ?_
  refine Go.old (fun old1 => ?_)
  refine Go.getstatic (pc' := 30) (host := "") (Or.inl (ww hw 27 rfl)) Via.refl (scp.ext old1.2) d12_27 rfl ?_
  refine Go.ifNo (pc' := 33) d12_30 (XT.i0_eq_f hcp) rfl ?_
  refine Go.aloadN (pc' := 34) d12_33 rfl rfl rfl ?_
  refine Go.iloadN (pc' := 35) d12_34 rfl rfl ?_
  refine Go.iloadN (pc' := 36) d12_35 rfl rfl ?_
  refine Go.callS (cells' := 1) (slots' := 4) (pc' := 39) [(.ref t), (.int (0 : Int32)), (.int (4 : Int32))] [] (ww hw 66 rfl) (ww hw 67 rfl) (ww hw 68 rfl) (ww hw 69 rfl) (by decide) (c_strComp2_4 l Z a0 hw h t kt k0 k1 k2 k3 hk0 hk1 hk2 hk3 vt) pd_8 rfl rfl rfl rfl rfl (nl rfl) (nl rfl) (nl rfl) (nl rfl) d12_36 rfl ?_
  rintro _ h2 ⟨b_2, kb_2, rfl, K2, ge_b_2, sz_b_2, F2_0⟩
  have sz3 : h.size ≤ b_2 := Nat.le_trans (Keep.refl h [a]).1 sz_b_2
  have K4 : Keep h h2 [a] := (Keep.refl h [a]).trans K2 all0
  show Go _ _ _ _ _ _ _ _ _ _ _ _ 39 #[.val (.ref a), .val (.ref t), .val (.int (0 : Int32)), .val (.int (4 : Int32)), .val .null, .unset] [(.ref b_2)]
  refine Go.astore (pc' := 41) (Ls' := #[.val (.ref a), .val (.ref t), .val (.int (0 : Int32)), .val (.int (4 : Int32)), .val .null, .val (.ref b_2)]) d12_39 rfl rfl rfl ?_
  refine Go.aloadN (pc' := 42) d12_41 rfl rfl rfl ?_
  refine Go.aload (pc' := 44) d12_42 rfl rfl rfl ?_
  refine Go.iloadN (pc' := 45) d12_44 rfl rfl ?_
  refine Go.callS (cells' := 1) (slots' := 4) (pc' := 48) [(.ref b_2), (.int (4 : Int32))] [(.ref a)] (ww hw 73 rfl) (ww hw 74 rfl) (ww hw 68 rfl) (ww hw 75 rfl) (by decide) (c_strCoder4 l Z a0 hw h2 b_2 kb_2 k0 k1 k2 k3 F2_0) pd_9 rfl rfl rfl rfl rfl (nl rfl) (nl rfl) (nl rfl) (nl rfl) d12_45 rfl ?_
  rintro _ _ ⟨rfl, rfl⟩
  show Go _ _ _ _ _ _ _ _ _ _ _ _ 48 #[.val (.ref a), .val (.ref t), .val (.int (0 : Int32)), .val (.int (4 : Int32)), .val .null, .val (.ref b_2)] [(.int (0 : Int32)), (.ref a)]
  refine Go.putfieldN (pc' := 51) (ww hw 28 rfl) Via.refl (pf1.keep K2 nin0) (xa.keep K2) (Or.inr ⟨(ww hw 9 rfl), rfl, rfl⟩) (ww hw 6 rfl) (ty := .byte) (v' := (0 : Int32)) (by decide) (by first | rfl | decide) (by first | rfl | decide | exact fits_nar_byte _) ge_a d12_48 rfl ?_
  intro h6 W7
  have K8 : Keep h h6 [a] := K4.wr W7 (Or.inl (List.mem_of_getElem? (i := 0) rfl))
  have f9 := (pf1.keep K2 nin0).same W7
  refine Go.aloadN (pc' := 52) d12_51 rfl rfl rfl ?_
  refine Go.aload (pc' := 54) d12_52 rfl rfl rfl ?_
  have f10 : Fld Z h6 a "java/lang/String" "value" "[B" .null := ((pf0.keep K2 nin0).other W7 (Or.inr (slot_ne (Or.inr (ww hw 8 rfl)) (Or.inr (ww hw 9 rfl)) (by decide) (t := (.array .byte)) (t' := .byte) (by decide) (by decide))))
  refine Go.putfield (pc' := 57) (host := "") (Or.inl (ww hw 21 rfl)) Via.refl f10 ((xa.keep K2).wr W7) (Or.inr ⟨(ww hw 8 rfl), rfl, rfl⟩) (ww hw 6 rfl) (ty := (.array .byte)) (by decide) rfl rfl ge_a d12_54 rfl ?_
  intro h11 W12
  have K13 : Keep h h11 [a] := K8.wr W12 (Or.inl (List.mem_of_getElem? (i := 0) rfl))
  have f14 := f10.same W12
  have f15 : Fld Z h11 a "java/lang/String" "coder" "B" (.int (0 : Int32)) := (f9.other W12 (Or.inr (slot_ne (Or.inr (ww hw 9 rfl)) (Or.inr (ww hw 8 rfl)) (by decide) (t := .byte) (t' := (.array .byte)) (by decide) (by decide))))
  have ne16 : a ≠ b_2 := (Nat.ne_of_lt (Nat.lt_of_lt_of_le pf0.lt sz_b_2))
  have f17 : Arv Z h11 b_2 kb_2 .byte (4 : Int32) [(.int k0.toInt8.toInt32), (.int k1.toInt8.toInt32), (.int k2.toInt8.toInt32), (.int k3.toInt8.toInt32)] (.int 0) := ((F2_0.other W7 (Ne.symm ne16)).other W12 (Ne.symm ne16))
  exact Go.retV rfl d12_57 ⟨b_2, kb_2, rfl, K13, ge_b_2, sz3, f14, f15, f17⟩ (by decide) (by decide)
theorem c_strInit4 (l : Launch) (Z : State) (a0 : Array Value) (hw : ∀ d ∈ tables_1, d.before a0 Z = true) {n0 : Nat} (h : Heap) (a : Addr) (t : Addr) (kt : ClassId) (k0 : Int32) (k1 : Int32) (k2 : Int32) (k3 : Int32) (cp : Int32) (hk0 : ¬ ((255 : Int32) < k0)) (hk1 : ¬ ((255 : Int32) < k1)) (hk2 : ¬ ((255 : Int32) < k2)) (hk3 : ¬ ((255 : Int32) < k3)) (hcp : ¬ (cp = (0 : Int32))) (scp : Sta Z Z.heap "java/lang/String" "COMPACT_STRINGS" "Z" (.int cp)) (ge_a : n0 ≤ a) (xa : Exa Z h a "java/lang/String") (pf0 : Fld Z h a "java/lang/String" "value" "[B" .null) (pf1 : Fld Z h a "java/lang/String" "coder" "B" (.int (0 : Int32))) (vt : Arv Z h t kt .char (4 : Int32) [(.int k0), (.int k1), (.int k2), (.int k3)] (.int 0)) :
    Con l (⟨"java/lang/String", "<init>", "([C)V"⟩ : MethodName) jdk_42_method_3_code 2 none ({ frames := 3, cells := 1, slots := 4, locals := 52 } : Room) Z n0 #[(.ref a), (.ref t)] h (fun v h' => ∃ b : Addr, ∃ kb : ClassId, v = none ∧ Keep h h' [a] ∧ n0 ≤ b ∧ h.size ≤ b ∧ Fld Z h' a "java/lang/String" "value" "[B" (.ref b) ∧ Fld Z h' a "java/lang/String" "coder" "B" (.int (0 : Int32)) ∧ Arv Z h' b kb .byte (4 : Int32) [(.int k0.toInt8.toInt32), (.int k1.toInt8.toInt32), (.int k2.toInt8.toInt32), (.int k3.toInt8.toInt32)] (.int 0)) := by
  refine Con.of_go (plainFor_of_name pn_0) (Ls := #[.val (.ref a), .val (.ref t)]) (fun m => by first | (simp [entryFrame, mkF, argsToLocals, Value.category]; done) | rfl) ?_
  refine Go.aloadN (pc' := 1) d11_0 rfl rfl rfl ?_
  refine Go.aloadN (pc' := 2) d11_1 rfl rfl rfl ?_
  refine Go.iconst (pc' := 3) (v := (0 : Int32)) d11_2 rfl rfl ?_
  refine Go.aloadN (pc' := 4) d11_3 rfl rfl rfl ?_
  refine Go.arraylength (pc' := 5) vt d11_4 rfl ?_
  refine Go.aconstNull (pc' := 6) d11_5 rfl ?_
  refine Go.callC (cells' := 1) (slots' := 4) (pc' := 9) [(.ref t), (.int (0 : Int32)), (.int (4 : Int32)), .null] [] (a := a) rfl rfl (ww hw 59 rfl) (ww hw 60 rfl) (ww hw 5 rfl) (ww hw 62 rfl) (by decide) (c_strInit4_4 l Z a0 hw h a t kt k0 k1 k2 k3 cp hk0 hk1 hk2 hk3 hcp scp ge_a xa pf0 pf1 vt) pd_10 rfl rfl rfl rfl rfl (nl rfl) (nl rfl) (nl rfl) (nl rfl) d11_6 rfl ?_
  rintro _ h1 ⟨b_1, kb_1, rfl, K1, ge_b_1, sz_b_1, F1_0, F1_1, F1_2⟩
  have sz2 : h.size ≤ b_1 := Nat.le_trans (Keep.refl h [a]).1 sz_b_1
  have K3 : Keep h h1 [a] := (Keep.refl h [a]).trans K1 (allS (Or.inl (List.mem_of_getElem? (i := 0) rfl)) all0)
  show Go _ _ _ _ _ _ _ _ _ _ _ _ 9 #[.val (.ref a), .val (.ref t)] []
  exact Go.retV rfl d11_9 ⟨b_1, kb_1, rfl, K3, ge_b_1, sz2, F1_0, F1_1, F1_2⟩ (by decide) (by decide)
theorem c_strComp5 (l : Launch) (Z : State) (a0 : Array Value) (hw : ∀ d ∈ tables_1, d.before a0 Z = true) {n0 : Nat} (h : Heap) (t : Addr) (kt : ClassId) (b : Addr) (kb : ClassId) (k0 : Int32) (k1 : Int32) (k2 : Int32) (k3 : Int32) (k4 : Int32) (hk0 : ¬ ((255 : Int32) < k0)) (hk1 : ¬ ((255 : Int32) < k1)) (hk2 : ¬ ((255 : Int32) < k2)) (hk3 : ¬ ((255 : Int32) < k3)) (hk4 : ¬ ((255 : Int32) < k4)) (ge_b : n0 ≤ b) (ne_t_b : t ≠ b) (vt : Arv Z h t kt .char (5 : Int32) [(.int k0), (.int k1), (.int k2), (.int k3), (.int k4)] (.int 0)) (vb : Arv Z h b kb .byte (5 : Int32) [(.int 0), (.int 0), (.int 0), (.int 0), (.int 0)] (.int 0)) :
    Con l (⟨"java/lang/StringUTF16", "compress", "([CI[BII)I"⟩ : MethodName) jdk_52_method_21_code 7 (some .int) ({ frames := 0, cells := 0, slots := 0, locals := 0 } : Room) Z n0 #[(.ref t), (.int (0 : Int32)), (.ref b), (.int (0 : Int32)), (.int (5 : Int32))] h (fun v h' => v = some (.int (5 : Int32)) ∧ Keep h h' [b] ∧ Arv Z h' b kb .byte (5 : Int32) [(.int k0.toInt8.toInt32), (.int k1.toInt8.toInt32), (.int k2.toInt8.toInt32), (.int k3.toInt8.toInt32), (.int k4.toInt8.toInt32)] (.int 0)) := by
  refine Con.of_go (plainFor_of_name pn_4) (Ls := #[.val (.ref t), .val (.int (0 : Int32)), .val (.ref b), .val (.int (0 : Int32)), .val (.int (5 : Int32)), .unset, .unset]) (fun m => by first | (simp [entryFrame, mkF, argsToLocals, Value.category]; done) | rfl) ?_
  refine Go.iconst (pc' := 1) (v := (0 : Int32)) d15_0 rfl rfl ?_
  refine Go.istore (pc' := 3) (Ls' := #[.val (.ref t), .val (.int (0 : Int32)), .val (.ref b), .val (.int (0 : Int32)), .val (.int (5 : Int32)), .val (.int (0 : Int32)), .unset]) d15_1 rfl rfl ?_
  refine Go.iload (pc' := 5) d15_3 rfl rfl ?_
  refine Go.iload (pc' := 7) d15_5 rfl rfl ?_
  refine Go.icmpNo (pc' := 10) d15_7 (XT.ii_ge_f (by decide)) rfl ?_
  refine Go.aloadN (pc' := 11) d15_10 rfl rfl rfl ?_
  refine Go.iloadN (pc' := 12) d15_11 rfl rfl ?_
  refine Go.caload (pc' := 13) (v := k0) vt d15_12 (by decide) (by decide) rfl rfl ?_
  refine Go.istore (pc' := 15) (Ls' := #[.val (.ref t), .val (.int (0 : Int32)), .val (.ref b), .val (.int (0 : Int32)), .val (.int (5 : Int32)), .val (.int (0 : Int32)), .val (.int k0)]) d15_13 rfl rfl ?_
  refine Go.iload (pc' := 17) d15_15 rfl rfl ?_
  refine Go.sipush (pc' := 20) (v := (255 : Int32)) d15_17 rfl rfl ?_
  refine Go.icmpYes (pc' := 26) d15_20 (XT.ii_le_t hk0) (by decide) (by decide) ?_
  refine Go.aloadN (pc' := 27) d15_26 rfl rfl rfl ?_
  refine Go.iloadN (pc' := 28) d15_27 rfl rfl ?_
  refine Go.iload (pc' := 30) d15_28 rfl rfl ?_
  refine Go.i2b (pc' := 31) d15_30 rfl ?_
  refine Go.bastore (pc' := 32) vb ge_b d15_31 (by decide) (by decide) (i := 0) rfl (nl rfl) rfl ?_
  intro h1 W2 V3
  have K4 : Keep h h1 [b] := (Keep.refl h [b]).wr W2 (Or.inl (List.mem_of_getElem? (i := 0) rfl))
  rw [OwnNum.b8] at V3
  replace V3 : Arv Z h1 b kb .byte (5 : Int32) [(.int k0.toInt8.toInt32), (.int 0), (.int 0), (.int 0), (.int 0)] (.int 0) := V3
  refine Go.iinc (pc' := 35) (Ls' := #[.val (.ref t), .val (.int ((0 : Int32) + (1 : Int32))), .val (.ref b), .val (.int (0 : Int32)), .val (.int (5 : Int32)), .val (.int (0 : Int32)), .val (.int k0)]) (w := (1 : Int32)) d15_32 rfl rfl rfl rfl ?_
  show Go _ _ _ _ _ _ _ _ _ _ _ _ 35 #[.val (.ref t), .val (.int (1 : Int32)), .val (.ref b), .val (.int (0 : Int32)), .val (.int (5 : Int32)), .val (.int (0 : Int32)), .val (.int k0)] []
  refine Go.iinc (pc' := 38) (Ls' := #[.val (.ref t), .val (.int (1 : Int32)), .val (.ref b), .val (.int ((0 : Int32) + (1 : Int32))), .val (.int (5 : Int32)), .val (.int (0 : Int32)), .val (.int k0)]) (w := (1 : Int32)) d15_35 rfl rfl rfl rfl ?_
  show Go _ _ _ _ _ _ _ _ _ _ _ _ 38 #[.val (.ref t), .val (.int (1 : Int32)), .val (.ref b), .val (.int (1 : Int32)), .val (.int (5 : Int32)), .val (.int (0 : Int32)), .val (.int k0)] []
  refine Go.iinc (pc' := 41) (Ls' := #[.val (.ref t), .val (.int (1 : Int32)), .val (.ref b), .val (.int (1 : Int32)), .val (.int (5 : Int32)), .val (.int ((0 : Int32) + (1 : Int32))), .val (.int k0)]) (w := (1 : Int32)) d15_38 rfl rfl rfl rfl ?_
  show Go _ _ _ _ _ _ _ _ _ _ _ _ 41 #[.val (.ref t), .val (.int (1 : Int32)), .val (.ref b), .val (.int (1 : Int32)), .val (.int (5 : Int32)), .val (.int (1 : Int32)), .val (.int k0)] []
  refine Go.goto (pc' := 3) d15_41 (by decide) (by decide) ?_
  refine Go.iload (pc' := 5) d15_3 rfl rfl ?_
  refine Go.iload (pc' := 7) d15_5 rfl rfl ?_
  refine Go.icmpNo (pc' := 10) d15_7 (XT.ii_ge_f (by decide)) rfl ?_
  refine Go.aloadN (pc' := 11) d15_10 rfl rfl rfl ?_
  refine Go.iloadN (pc' := 12) d15_11 rfl rfl ?_
  refine Go.caload (pc' := 13) (v := k1) (vt.other W2 ne_t_b) d15_12 (by decide) (by decide) rfl rfl ?_
  refine Go.istore (pc' := 15) (Ls' := #[.val (.ref t), .val (.int (1 : Int32)), .val (.ref b), .val (.int (1 : Int32)), .val (.int (5 : Int32)), .val (.int (1 : Int32)), .val (.int k1)]) d15_13 rfl rfl ?_
  refine Go.iload (pc' := 17) d15_15 rfl rfl ?_
  refine Go.sipush (pc' := 20) (v := (255 : Int32)) d15_17 rfl rfl ?_
  refine Go.icmpYes (pc' := 26) d15_20 (XT.ii_le_t hk1) (by decide) (by decide) ?_
  refine Go.aloadN (pc' := 27) d15_26 rfl rfl rfl ?_
  refine Go.iloadN (pc' := 28) d15_27 rfl rfl ?_
  refine Go.iload (pc' := 30) d15_28 rfl rfl ?_
  refine Go.i2b (pc' := 31) d15_30 rfl ?_
  refine Go.bastore (pc' := 32) V3 ge_b d15_31 (by decide) (by decide) (i := 1) rfl (nl rfl) rfl ?_
  intro h5 W6 V7
  have K8 : Keep h h5 [b] := K4.wr W6 (Or.inl (List.mem_of_getElem? (i := 0) rfl))
  rw [OwnNum.b8] at V7
  replace V7 : Arv Z h5 b kb .byte (5 : Int32) [(.int k0.toInt8.toInt32), (.int k1.toInt8.toInt32), (.int 0), (.int 0), (.int 0)] (.int 0) := V7
  refine Go.iinc (pc' := 35) (Ls' := #[.val (.ref t), .val (.int ((1 : Int32) + (1 : Int32))), .val (.ref b), .val (.int (1 : Int32)), .val (.int (5 : Int32)), .val (.int (1 : Int32)), .val (.int k1)]) (w := (1 : Int32)) d15_32 rfl rfl rfl rfl ?_
  show Go _ _ _ _ _ _ _ _ _ _ _ _ 35 #[.val (.ref t), .val (.int (2 : Int32)), .val (.ref b), .val (.int (1 : Int32)), .val (.int (5 : Int32)), .val (.int (1 : Int32)), .val (.int k1)] []
  refine Go.iinc (pc' := 38) (Ls' := #[.val (.ref t), .val (.int (2 : Int32)), .val (.ref b), .val (.int ((1 : Int32) + (1 : Int32))), .val (.int (5 : Int32)), .val (.int (1 : Int32)), .val (.int k1)]) (w := (1 : Int32)) d15_35 rfl rfl rfl rfl ?_
  show Go _ _ _ _ _ _ _ _ _ _ _ _ 38 #[.val (.ref t), .val (.int (2 : Int32)), .val (.ref b), .val (.int (2 : Int32)), .val (.int (5 : Int32)), .val (.int (1 : Int32)), .val (.int k1)] []
  refine Go.iinc (pc' := 41) (Ls' := #[.val (.ref t), .val (.int (2 : Int32)), .val (.ref b), .val (.int (2 : Int32)), .val (.int (5 : Int32)), .val (.int ((1 : Int32) + (1 : Int32))), .val (.int k1)]) (w := (1 : Int32)) d15_38 rfl rfl rfl rfl ?_
  show Go _ _ _ _ _ _ _ _ _ _ _ _ 41 #[.val (.ref t), .val (.int (2 : Int32)), .val (.ref b), .val (.int (2 : Int32)), .val (.int (5 : Int32)), .val (.int (2 : Int32)), .val (.int k1)] []
  refine Go.goto (pc' := 3) d15_41 (by decide) (by decide) ?_
  refine Go.iload (pc' := 5) d15_3 rfl rfl ?_
  refine Go.iload (pc' := 7) d15_5 rfl rfl ?_
  refine Go.icmpNo (pc' := 10) d15_7 (XT.ii_ge_f (by decide)) rfl ?_
  refine Go.aloadN (pc' := 11) d15_10 rfl rfl rfl ?_
  refine Go.iloadN (pc' := 12) d15_11 rfl rfl ?_
  refine Go.caload (pc' := 13) (v := k2) ((vt.other W2 ne_t_b).other W6 ne_t_b) d15_12 (by decide) (by decide) rfl rfl ?_
  refine Go.istore (pc' := 15) (Ls' := #[.val (.ref t), .val (.int (2 : Int32)), .val (.ref b), .val (.int (2 : Int32)), .val (.int (5 : Int32)), .val (.int (2 : Int32)), .val (.int k2)]) d15_13 rfl rfl ?_
  refine Go.iload (pc' := 17) d15_15 rfl rfl ?_
  refine Go.sipush (pc' := 20) (v := (255 : Int32)) d15_17 rfl rfl ?_
  refine Go.icmpYes (pc' := 26) d15_20 (XT.ii_le_t hk2) (by decide) (by decide) ?_
  refine Go.aloadN (pc' := 27) d15_26 rfl rfl rfl ?_
  refine Go.iloadN (pc' := 28) d15_27 rfl rfl ?_
  refine Go.iload (pc' := 30) d15_28 rfl rfl ?_
  refine Go.i2b (pc' := 31) d15_30 rfl ?_
  refine Go.bastore (pc' := 32) V7 ge_b d15_31 (by decide) (by decide) (i := 2) rfl (nl rfl) rfl ?_
  intro h9 W10 V11
  have K12 : Keep h h9 [b] := K8.wr W10 (Or.inl (List.mem_of_getElem? (i := 0) rfl))
  rw [OwnNum.b8] at V11
  replace V11 : Arv Z h9 b kb .byte (5 : Int32) [(.int k0.toInt8.toInt32), (.int k1.toInt8.toInt32), (.int k2.toInt8.toInt32), (.int 0), (.int 0)] (.int 0) := V11
  refine Go.iinc (pc' := 35) (Ls' := #[.val (.ref t), .val (.int ((2 : Int32) + (1 : Int32))), .val (.ref b), .val (.int (2 : Int32)), .val (.int (5 : Int32)), .val (.int (2 : Int32)), .val (.int k2)]) (w := (1 : Int32)) d15_32 rfl rfl rfl rfl ?_
  show Go _ _ _ _ _ _ _ _ _ _ _ _ 35 #[.val (.ref t), .val (.int (3 : Int32)), .val (.ref b), .val (.int (2 : Int32)), .val (.int (5 : Int32)), .val (.int (2 : Int32)), .val (.int k2)] []
  refine Go.iinc (pc' := 38) (Ls' := #[.val (.ref t), .val (.int (3 : Int32)), .val (.ref b), .val (.int ((2 : Int32) + (1 : Int32))), .val (.int (5 : Int32)), .val (.int (2 : Int32)), .val (.int k2)]) (w := (1 : Int32)) d15_35 rfl rfl rfl rfl ?_
  show Go _ _ _ _ _ _ _ _ _ _ _ _ 38 #[.val (.ref t), .val (.int (3 : Int32)), .val (.ref b), .val (.int (3 : Int32)), .val (.int (5 : Int32)), .val (.int (2 : Int32)), .val (.int k2)] []
  refine Go.iinc (pc' := 41) (Ls' := #[.val (.ref t), .val (.int (3 : Int32)), .val (.ref b), .val (.int (3 : Int32)), .val (.int (5 : Int32)), .val (.int ((2 : Int32) + (1 : Int32))), .val (.int k2)]) (w := (1 : Int32)) d15_38 rfl rfl rfl rfl ?_
  show Go _ _ _ _ _ _ _ _ _ _ _ _ 41 #[.val (.ref t), .val (.int (3 : Int32)), .val (.ref b), .val (.int (3 : Int32)), .val (.int (5 : Int32)), .val (.int (3 : Int32)), .val (.int k2)] []
  refine Go.goto (pc' := 3) d15_41 (by decide) (by decide) ?_
  refine Go.iload (pc' := 5) d15_3 rfl rfl ?_
  refine Go.iload (pc' := 7) d15_5 rfl rfl ?_
  refine Go.icmpNo (pc' := 10) d15_7 (XT.ii_ge_f (by decide)) rfl ?_
  refine Go.aloadN (pc' := 11) d15_10 rfl rfl rfl ?_
  refine Go.iloadN (pc' := 12) d15_11 rfl rfl ?_
  have f13 : Arv Z h9 t kt .char (5 : Int32) [(.int k0), (.int k1), (.int k2), (.int k3), (.int k4)] (.int 0) := (((vt.other W2 ne_t_b).other W6 ne_t_b).other W10 ne_t_b)
  refine Go.caload (pc' := 13) (v := k3) f13 d15_12 (by decide) (by decide) rfl rfl ?_
  refine Go.istore (pc' := 15) (Ls' := #[.val (.ref t), .val (.int (3 : Int32)), .val (.ref b), .val (.int (3 : Int32)), .val (.int (5 : Int32)), .val (.int (3 : Int32)), .val (.int k3)]) d15_13 rfl rfl ?_
  refine Go.iload (pc' := 17) d15_15 rfl rfl ?_
  refine Go.sipush (pc' := 20) (v := (255 : Int32)) d15_17 rfl rfl ?_
  refine Go.icmpYes (pc' := 26) d15_20 (XT.ii_le_t hk3) (by decide) (by decide) ?_
  refine Go.aloadN (pc' := 27) d15_26 rfl rfl rfl ?_
  refine Go.iloadN (pc' := 28) d15_27 rfl rfl ?_
  refine Go.iload (pc' := 30) d15_28 rfl rfl ?_
  refine Go.i2b (pc' := 31) d15_30 rfl ?_
  refine Go.bastore (pc' := 32) V11 ge_b d15_31 (by decide) (by decide) (i := 3) rfl (nl rfl) rfl ?_
  intro h14 W15 V16
  have K17 : Keep h h14 [b] := K12.wr W15 (Or.inl (List.mem_of_getElem? (i := 0) rfl))
  rw [OwnNum.b8] at V16
  replace V16 : Arv Z h14 b kb .byte (5 : Int32) [(.int k0.toInt8.toInt32), (.int k1.toInt8.toInt32), (.int k2.toInt8.toInt32), (.int k3.toInt8.toInt32), (.int 0)] (.int 0) := V16
  refine Go.iinc (pc' := 35) (Ls' := #[.val (.ref t), .val (.int ((3 : Int32) + (1 : Int32))), .val (.ref b), .val (.int (3 : Int32)), .val (.int (5 : Int32)), .val (.int (3 : Int32)), .val (.int k3)]) (w := (1 : Int32)) d15_32 rfl rfl rfl rfl ?_
  show Go _ _ _ _ _ _ _ _ _ _ _ _ 35 #[.val (.ref t), .val (.int (4 : Int32)), .val (.ref b), .val (.int (3 : Int32)), .val (.int (5 : Int32)), .val (.int (3 : Int32)), .val (.int k3)] []
  refine Go.iinc (pc' := 38) (Ls' := #[.val (.ref t), .val (.int (4 : Int32)), .val (.ref b), .val (.int ((3 : Int32) + (1 : Int32))), .val (.int (5 : Int32)), .val (.int (3 : Int32)), .val (.int k3)]) (w := (1 : Int32)) d15_35 rfl rfl rfl rfl ?_
  show Go _ _ _ _ _ _ _ _ _ _ _ _ 38 #[.val (.ref t), .val (.int (4 : Int32)), .val (.ref b), .val (.int (4 : Int32)), .val (.int (5 : Int32)), .val (.int (3 : Int32)), .val (.int k3)] []
  refine Go.iinc (pc' := 41) (Ls' := #[.val (.ref t), .val (.int (4 : Int32)), .val (.ref b), .val (.int (4 : Int32)), .val (.int (5 : Int32)), .val (.int ((3 : Int32) + (1 : Int32))), .val (.int k3)]) (w := (1 : Int32)) d15_38 rfl rfl rfl rfl ?_
  show Go _ _ _ _ _ _ _ _ _ _ _ _ 41 #[.val (.ref t), .val (.int (4 : Int32)), .val (.ref b), .val (.int (4 : Int32)), .val (.int (5 : Int32)), .val (.int (4 : Int32)), .val (.int k3)] []
  refine Go.goto (pc' := 3) d15_41 (by decide) (by decide) ?_
  refine Go.iload (pc' := 5) d15_3 rfl rfl ?_
  refine Go.iload (pc' := 7) d15_5 rfl rfl ?_
  refine Go.icmpNo (pc' := 10) d15_7 (XT.ii_ge_f (by decide)) rfl ?_
  refine Go.aloadN (pc' := 11) d15_10 rfl rfl rfl ?_
  refine Go.iloadN (pc' := 12) d15_11 rfl rfl ?_
  refine Go.caload (pc' := 13) (v := k4) (f13.other W15 ne_t_b) d15_12 (by decide) (by decide) rfl rfl ?_
  refine Go.istore (pc' := 15) (Ls' := #[.val (.ref t), .val (.int (4 : Int32)), .val (.ref b), .val (.int (4 : Int32)), .val (.int (5 : Int32)), .val (.int (4 : Int32)), .val (.int k4)]) d15_13 rfl rfl ?_
  refine Go.iload (pc' := 17) d15_15 rfl rfl ?_
  refine Go.sipush (pc' := 20) (v := (255 : Int32)) d15_17 rfl rfl ?_
  refine Go.icmpYes (pc' := 26) d15_20 (XT.ii_le_t hk4) (by decide) (by decide) ?_
  refine Go.aloadN (pc' := 27) d15_26 rfl rfl rfl ?_
  refine Go.iloadN (pc' := 28) d15_27 rfl rfl ?_
  refine Go.iload (pc' := 30) d15_28 rfl rfl ?_
  refine Go.i2b (pc' := 31) d15_30 rfl ?_
  refine Go.bastore (pc' := 32) V16 ge_b d15_31 (by decide) (by decide) (i := 4) rfl (nl rfl) rfl ?_
  intro h18 W19 V20
  have K21 : Keep h h18 [b] := K17.wr W19 (Or.inl (List.mem_of_getElem? (i := 0) rfl))
  rw [OwnNum.b8] at V20
  replace V20 : Arv Z h18 b kb .byte (5 : Int32) [(.int k0.toInt8.toInt32), (.int k1.toInt8.toInt32), (.int k2.toInt8.toInt32), (.int k3.toInt8.toInt32), (.int k4.toInt8.toInt32)] (.int 0) := V20
  refine Go.iinc (pc' := 35) (Ls' := #[.val (.ref t), .val (.int ((4 : Int32) + (1 : Int32))), .val (.ref b), .val (.int (4 : Int32)), .val (.int (5 : Int32)), .val (.int (4 : Int32)), .val (.int k4)]) (w := (1 : Int32)) d15_32 rfl rfl rfl rfl ?_
  show Go _ _ _ _ _ _ _ _ _ _ _ _ 35 #[.val (.ref t), .val (.int (5 : Int32)), .val (.ref b), .val (.int (4 : Int32)), .val (.int (5 : Int32)), .val (.int (4 : Int32)), .val (.int k4)] []
  refine Go.iinc (pc' := 38) (Ls' := #[.val (.ref t), .val (.int (5 : Int32)), .val (.ref b), .val (.int ((4 : Int32) + (1 : Int32))), .val (.int (5 : Int32)), .val (.int (4 : Int32)), .val (.int k4)]) (w := (1 : Int32)) d15_35 rfl rfl rfl rfl ?_
  show Go _ _ _ _ _ _ _ _ _ _ _ _ 38 #[.val (.ref t), .val (.int (5 : Int32)), .val (.ref b), .val (.int (5 : Int32)), .val (.int (5 : Int32)), .val (.int (4 : Int32)), .val (.int k4)] []
  refine Go.iinc (pc' := 41) (Ls' := #[.val (.ref t), .val (.int (5 : Int32)), .val (.ref b), .val (.int (5 : Int32)), .val (.int (5 : Int32)), .val (.int ((4 : Int32) + (1 : Int32))), .val (.int k4)]) (w := (1 : Int32)) d15_38 rfl rfl rfl rfl ?_
  show Go _ _ _ _ _ _ _ _ _ _ _ _ 41 #[.val (.ref t), .val (.int (5 : Int32)), .val (.ref b), .val (.int (5 : Int32)), .val (.int (5 : Int32)), .val (.int (5 : Int32)), .val (.int k4)] []
  refine Go.goto (pc' := 3) d15_41 (by decide) (by decide) ?_
  refine Go.iload (pc' := 5) d15_3 rfl rfl ?_
  refine Go.iload (pc' := 7) d15_5 rfl rfl ?_
  refine Go.icmpYes (pc' := 44) d15_7 (XT.ii_ge_t (by decide)) (by decide) (by decide) ?_
  refine Go.iload (pc' := 46) d15_44 rfl rfl ?_
  exact Go.retI rfl d15_46 ⟨rfl, K21, V20⟩ (by decide) (by decide)
theorem c_strComp2_5 (l : Launch) (Z : State) (a0 : Array Value) (hw : ∀ d ∈ tables_1, d.before a0 Z = true) {n0 : Nat} (h : Heap) (t : Addr) (kt : ClassId) (k0 : Int32) (k1 : Int32) (k2 : Int32) (k3 : Int32) (k4 : Int32) (hk0 : ¬ ((255 : Int32) < k0)) (hk1 : ¬ ((255 : Int32) < k1)) (hk2 : ¬ ((255 : Int32) < k2)) (hk3 : ¬ ((255 : Int32) < k3)) (hk4 : ¬ ((255 : Int32) < k4)) (vt : Arv Z h t kt .char (5 : Int32) [(.int k0), (.int k1), (.int k2), (.int k3), (.int k4)] (.int 0)) :
    Con l (⟨"java/lang/StringUTF16", "compress", "([CII)[B"⟩ : MethodName) jdk_52_method_16_code 6 (some (.array .byte)) ({ frames := 1, cells := 1, slots := 5, locals := 18 } : Room) Z n0 #[(.ref t), (.int (0 : Int32)), (.int (5 : Int32))] h (fun v h' => ∃ b : Addr, ∃ kb : ClassId, v = some (.ref b) ∧ Keep h h' [] ∧ n0 ≤ b ∧ h.size ≤ b ∧ Arv Z h' b kb .byte (5 : Int32) [(.int k0.toInt8.toInt32), (.int k1.toInt8.toInt32), (.int k2.toInt8.toInt32), (.int k3.toInt8.toInt32), (.int k4.toInt8.toInt32)] (.int 0)) := by
  refine Con.of_go (plainFor_of_name pn_4) (Ls := #[.val (.ref t), .val (.int (0 : Int32)), .val (.int (5 : Int32)), .unset, .unset, .unset]) (fun m => by first | (simp [entryFrame, mkF, argsToLocals, Value.category]; done) | rfl) ?_
  refine Go.iloadN (pc' := 1) d14_0 rfl rfl ?_
  refine Go.newarray (pc' := 3) (cells' := 1) (slots' := 5) (cap := 5) (ww hw 7 rfl) d14_1 (ad := "[B") (by decide) (by decide) (by decide) rfl rfl (by decide) (by decide) (by decide) rfl ?_
  intro h1 b1 g1 E1 ge1 kA1 A1 X1
  have sz2 : h.size ≤ b1 := Nat.le_trans (Keep.refl h []).1 (Nat.le_of_eq g1.symm)
  have K3 : Keep h h1 [] := (Keep.refl h []).ext E1
  have V1 : Arv Z h1 b1 kA1 .byte (5 : Int32) [(.int 0), (.int 0), (.int 0), (.int 0), (.int 0)] (.int 0) := Arv.pad A1 (pad_rep [] (.int 0) 5)
  refine Go.astoreN (pc' := 4) (Ls' := #[.val (.ref t), .val (.int (0 : Int32)), .val (.int (5 : Int32)), .val (.ref b1), .unset, .unset]) d14_3 rfl rfl rfl ?_
  refine Go.aloadN (pc' := 5) d14_4 rfl rfl rfl ?_
  refine Go.iloadN (pc' := 6) d14_5 rfl rfl ?_
  refine Go.aloadN (pc' := 7) d14_6 rfl rfl rfl ?_
  refine Go.iconst (pc' := 8) (v := (0 : Int32)) d14_7 rfl rfl ?_
  refine Go.iloadN (pc' := 9) d14_8 rfl rfl ?_
  have ne4 : t ≠ b1 := (Nat.ne_of_lt (Nat.lt_of_lt_of_le vt.lt (Nat.le_of_eq g1.symm)))
  refine Go.callS (cells' := 1) (slots' := 5) (pc' := 12) [(.ref t), (.int (0 : Int32)), (.ref b1), (.int (0 : Int32)), (.int (5 : Int32))] [] (ww hw 70 rfl) (ww hw 71 rfl) (ww hw 68 rfl) (ww hw 72 rfl) (by decide) (c_strComp5 l Z a0 hw h1 t kt b1 kA1 k0 k1 k2 k3 k4 hk0 hk1 hk2 hk3 hk4 ge1 ne4 (vt.ext E1) V1) pd_7 rfl rfl rfl rfl rfl (nl rfl) (nl rfl) (nl rfl) (nl rfl) d14_9 rfl ?_
  rintro _ h5 ⟨rfl, K5, F5_0⟩
  have K6 : Keep h h5 [] := K3.trans K5 (allS (Or.inr sz2) all0)
  show Go _ _ _ _ _ _ _ _ _ _ _ _ 12 #[.val (.ref t), .val (.int (0 : Int32)), .val (.int (5 : Int32)), .val (.ref b1), .unset, .unset] [(.int (5 : Int32))]
  refine Go.istore (pc' := 14) (Ls' := #[.val (.ref t), .val (.int (0 : Int32)), .val (.int (5 : Int32)), .val (.ref b1), .val (.int (5 : Int32)), .unset]) d14_12 rfl rfl ?_
  refine Go.iload (pc' := 16) d14_14 rfl rfl ?_
  refine Go.iloadN (pc' := 17) d14_16 rfl rfl ?_
  refine Go.icmpYes (pc' := 57) d14_17 (XT.ii_eq_t (by decide)) (by decide) (by decide) ?_
  refine Go.aloadN (pc' := 58) d14_57 rfl rfl rfl ?_
  exact Go.retR rfl rfl rfl rfl d14_58 ⟨b1, kA1, rfl, K6, ge1, sz2, F5_0⟩ (by decide) (by decide)
theorem c_strCoder5 (l : Launch) (Z : State) (a0 : Array Value) (hw : ∀ d ∈ tables_1, d.before a0 Z = true) {n0 : Nat} (h : Heap) (b : Addr) (kb : ClassId) (k0 : Int32) (k1 : Int32) (k2 : Int32) (k3 : Int32) (k4 : Int32) (vb : Arv Z h b kb .byte (5 : Int32) [(.int k0.toInt8.toInt32), (.int k1.toInt8.toInt32), (.int k2.toInt8.toInt32), (.int k3.toInt8.toInt32), (.int k4.toInt8.toInt32)] (.int 0)) :
    Con l (⟨"java/lang/StringUTF16", "coderFromArrayLen", "([BI)B"⟩ : MethodName) jdk_52_method_15_code 2 (some .byte) ({ frames := 0, cells := 0, slots := 0, locals := 0 } : Room) Z n0 #[(.ref b), (.int (5 : Int32))] h (fun v h' => v = some (.int (0 : Int32)) ∧ h = h') := by
  refine Con.of_go (plainFor_of_name pn_4) (Ls := #[.val (.ref b), .val (.int (5 : Int32))]) (fun m => by first | (simp [entryFrame, mkF, argsToLocals, Value.category]; done) | rfl) ?_
  refine Go.iloadN (pc' := 1) d16_0 rfl rfl ?_
  refine Go.aloadN (pc' := 2) d16_1 rfl rfl rfl ?_
  refine Go.arraylength (pc' := 3) vb d16_2 rfl ?_
  refine Go.isub (pc' := 4) d16_3 rfl ?_
  show Go _ _ _ _ _ _ _ _ _ _ _ _ 4 #[.val (.ref b), .val (.int (5 : Int32))] [(.int (0 : Int32))]
  refine Go.bipush (pc' := 6) (v := (31 : Int32)) d16_4 rfl rfl ?_
  refine Go.iushr (pc' := 7) d16_6 rfl ?_
  show Go _ _ _ _ _ _ _ _ _ _ _ _ 7 #[.val (.ref b), .val (.int (5 : Int32))] [(.int (0 : Int32))]
  refine Go.i2b (pc' := 8) d16_7 rfl ?_
  show Go _ _ _ _ _ _ _ _ _ _ _ _ 8 #[.val (.ref b), .val (.int (5 : Int32))] [(.int (0 : Int32))]
  exact Go.retN (t := .byte) rfl (by simp) d16_8 ⟨rfl, rfl⟩ (by decide) (by decide)
theorem c_strInit4_5 (l : Launch) (Z : State) (a0 : Array Value) (hw : ∀ d ∈ tables_1, d.before a0 Z = true) {n0 : Nat} (h : Heap) (a : Addr) (t : Addr) (kt : ClassId) (k0 : Int32) (k1 : Int32) (k2 : Int32) (k3 : Int32) (k4 : Int32) (cp : Int32) (hk0 : ¬ ((255 : Int32) < k0)) (hk1 : ¬ ((255 : Int32) < k1)) (hk2 : ¬ ((255 : Int32) < k2)) (hk3 : ¬ ((255 : Int32) < k3)) (hk4 : ¬ ((255 : Int32) < k4)) (hcp : ¬ (cp = (0 : Int32))) (scp : Sta Z Z.heap "java/lang/String" "COMPACT_STRINGS" "Z" (.int cp)) (ge_a : n0 ≤ a) (xa : Exa Z h a "java/lang/String") (pf0 : Fld Z h a "java/lang/String" "value" "[B" .null) (pf1 : Fld Z h a "java/lang/String" "coder" "B" (.int (0 : Int32))) (vt : Arv Z h t kt .char (5 : Int32) [(.int k0), (.int k1), (.int k2), (.int k3), (.int k4)] (.int 0)) :
    Con l (⟨"java/lang/String", "<init>", "([CIILjava/lang/Void;)V"⟩ : MethodName) jdk_42_method_149_code 6 none ({ frames := 2, cells := 1, slots := 5, locals := 35 } : Room) Z n0 #[(.ref a), (.ref t), (.int (0 : Int32)), (.int (5 : Int32)), .null] h (fun v h' => ∃ b : Addr, ∃ kb : ClassId, v = none ∧ Keep h h' [a] ∧ n0 ≤ b ∧ h.size ≤ b ∧ Fld Z h' a "java/lang/String" "value" "[B" (.ref b) ∧ Fld Z h' a "java/lang/String" "coder" "B" (.int (0 : Int32)) ∧ Arv Z h' b kb .byte (5 : Int32) [(.int k0.toInt8.toInt32), (.int k1.toInt8.toInt32), (.int k2.toInt8.toInt32), (.int k3.toInt8.toInt32), (.int k4.toInt8.toInt32)] (.int 0)) := by
  refine Con.of_go (plainFor_of_name pn_0) (Ls := #[.val (.ref a), .val (.ref t), .val (.int (0 : Int32)), .val (.int (5 : Int32)), .val .null, .unset]) (fun m => by first | (simp [entryFrame, mkF, argsToLocals, Value.category]; done) | rfl) ?_
  refine Go.aloadN (pc' := 1) d12_0 rfl rfl rfl ?_
  refine Go.initO (pc' := 4) (ww hw 63 rfl) (ww hw 64 rfl) (ww hw 65 rfl) d12_1 rfl (nl rfl) (nl rfl) rfl ?_
  refine Go.iloadN (pc' := 5) d12_4 rfl rfl ?_
  refine Go.ifYes (pc' := 27) d12_5 (XT.i0_ne_t (by decide)) (by decide) (by decide) ?_
  refine Go.old (fun old1 => ?_)
  refine Go.getstatic (pc' := 30) (host := "") (Or.inl (ww hw 27 rfl)) Via.refl (scp.ext old1.2) d12_27 rfl ?_
  refine Go.ifNo (pc' := 33) d12_30 (XT.i0_eq_f hcp) rfl ?_
  refine Go.aloadN (pc' := 34) d12_33 rfl rfl rfl ?_
  refine Go.iloadN (pc' := 35) d12_34 rfl rfl ?_
  refine Go.iloadN (pc' := 36) d12_35 rfl rfl ?_
  refine Go.callS (cells' := 1) (slots' := 5) (pc' := 39) [(.ref t), (.int (0 : Int32)), (.int (5 : Int32))] [] (ww hw 66 rfl) (ww hw 67 rfl) (ww hw 68 rfl) (ww hw 69 rfl) (by decide) (c_strComp2_5 l Z a0 hw h t kt k0 k1 k2 k3 k4 hk0 hk1 hk2 hk3 hk4 vt) pd_8 rfl rfl rfl rfl rfl (nl rfl) (nl rfl) (nl rfl) (nl rfl) d12_36 rfl ?_
  rintro _ h2 ⟨b_2, kb_2, rfl, K2, ge_b_2, sz_b_2, F2_0⟩
  have sz3 : h.size ≤ b_2 := Nat.le_trans (Keep.refl h [a]).1 sz_b_2
  have K4 : Keep h h2 [a] := (Keep.refl h [a]).trans K2 all0
  show Go _ _ _ _ _ _ _ _ _ _ _ _ 39 #[.val (.ref a), .val (.ref t), .val (.int (0 : Int32)), .val (.int (5 : Int32)), .val .null, .unset] [(.ref b_2)]
  refine Go.astore (pc' := 41) (Ls' := #[.val (.ref a), .val (.ref t), .val (.int (0 : Int32)), .val (.int (5 : Int32)), .val .null, .val (.ref b_2)]) d12_39 rfl rfl rfl ?_
  refine Go.aloadN (pc' := 42) d12_41 rfl rfl rfl ?_
  refine Go.aload (pc' := 44) d12_42 rfl rfl rfl ?_
  refine Go.iloadN (pc' := 45) d12_44 rfl rfl ?_
  refine Go.callS (cells' := 1) (slots' := 5) (pc' := 48) [(.ref b_2), (.int (5 : Int32))] [(.ref a)] (ww hw 73 rfl) (ww hw 74 rfl) (ww hw 68 rfl) (ww hw 75 rfl) (by decide) (c_strCoder5 l Z a0 hw h2 b_2 kb_2 k0 k1 k2 k3 k4 F2_0) pd_9 rfl rfl rfl rfl rfl (nl rfl) (nl rfl) (nl rfl) (nl rfl) d12_45 rfl ?_
  rintro _ _ ⟨rfl, rfl⟩
  show Go _ _ _ _ _ _ _ _ _ _ _ _ 48 #[.val (.ref a), .val (.ref t), .val (.int (0 : Int32)), .val (.int (5 : Int32)), .val .null, .val (.ref b_2)] [(.int (0 : Int32)), (.ref a)]
  refine Go.putfieldN (pc' := 51) (ww hw 28 rfl) Via.refl (pf1.keep K2 nin0) (xa.keep K2) (Or.inr ⟨(ww hw 9 rfl), rfl, rfl⟩) (ww hw 6 rfl) (ty := .byte) (v' := (0 : Int32)) (by decide) (by first | rfl | decide) (by first | rfl | decide | exact fits_nar_byte _) ge_a d12_48 rfl ?_
  intro h6 W7
  have K8 : Keep h h6 [a] := K4.wr W7 (Or.inl (List.mem_of_getElem? (i := 0) rfl))
  have f9 := (pf1.keep K2 nin0).same W7
  refine Go.aloadN (pc' := 52) d12_51 rfl rfl rfl ?_
  refine Go.aload (pc' := 54) d12_52 rfl rfl rfl ?_
  have f10 : Fld Z h6 a "java/lang/String" "value" "[B" .null := ((pf0.keep K2 nin0).other W7 (Or.inr (slot_ne (Or.inr (ww hw 8 rfl)) (Or.inr (ww hw 9 rfl)) (by decide) (t := (.array .byte)) (t' := .byte) (by decide) (by decide))))
  refine Go.putfield (pc' := 57) (host := "") (Or.inl (ww hw 21 rfl)) Via.refl f10 ((xa.keep K2).wr W7) (Or.inr ⟨(ww hw 8 rfl), rfl, rfl⟩) (ww hw 6 rfl) (ty := (.array .byte)) (by decide) rfl rfl ge_a d12_54 rfl ?_
  intro h11 W12
  have K13 : Keep h h11 [a] := K8.wr W12 (Or.inl (List.mem_of_getElem? (i := 0) rfl))
  have f14 := f10.same W12
  have f15 : Fld Z h11 a "java/lang/String" "coder" "B" (.int (0 : Int32)) := (f9.other W12 (Or.inr (slot_ne (Or.inr (ww hw 9 rfl)) (Or.inr (ww hw 8 rfl)) (by decide) (t := .byte) (t' := (.array .byte)) (by decide) (by decide))))
  have ne16 : a ≠ b_2 := (Nat.ne_of_lt (Nat.lt_of_lt_of_le pf0.lt sz_b_2))
  have f17 : Arv Z h11 b_2 kb_2 .byte (5 : Int32) [(.int k0.toInt8.toInt32), (.int k1.toInt8.toInt32), (.int k2.toInt8.toInt32), (.int k3.toInt8.toInt32), (.int k4.toInt8.toInt32)] (.int 0) := ((F2_0.other W7 (Ne.symm ne16)).other W12 (Ne.symm ne16))
  exact Go.retV rfl d12_57 ⟨b_2, kb_2, rfl, K13, ge_b_2, sz3, f14, f15, f17⟩ (by decide) (by decide)
theorem c_strInit5 (l : Launch) (Z : State) (a0 : Array Value) (hw : ∀ d ∈ tables_1, d.before a0 Z = true) {n0 : Nat} (h : Heap) (a : Addr) (t : Addr) (kt : ClassId) (k0 : Int32) (k1 : Int32) (k2 : Int32) (k3 : Int32) (k4 : Int32) (cp : Int32) (hk0 : ¬ ((255 : Int32) < k0)) (hk1 : ¬ ((255 : Int32) < k1)) (hk2 : ¬ ((255 : Int32) < k2)) (hk3 : ¬ ((255 : Int32) < k3)) (hk4 : ¬ ((255 : Int32) < k4)) (hcp : ¬ (cp = (0 : Int32))) (scp : Sta Z Z.heap "java/lang/String" "COMPACT_STRINGS" "Z" (.int cp)) (ge_a : n0 ≤ a) (xa : Exa Z h a "java/lang/String") (pf0 : Fld Z h a "java/lang/String" "value" "[B" .null) (pf1 : Fld Z h a "java/lang/String" "coder" "B" (.int (0 : Int32))) (vt : Arv Z h t kt .char (5 : Int32) [(.int k0), (.int k1), (.int k2), (.int k3), (.int k4)] (.int 0)) :
    Con l (⟨"java/lang/String", "<init>", "([C)V"⟩ : MethodName) jdk_42_method_3_code 2 none ({ frames := 3, cells := 1, slots := 5, locals := 52 } : Room) Z n0 #[(.ref a), (.ref t)] h (fun v h' => ∃ b : Addr, ∃ kb : ClassId, v = none ∧ Keep h h' [a] ∧ n0 ≤ b ∧ h.size ≤ b ∧ Fld Z h' a "java/lang/String" "value" "[B" (.ref b) ∧ Fld Z h' a "java/lang/String" "coder" "B" (.int (0 : Int32)) ∧ Arv Z h' b kb .byte (5 : Int32) [(.int k0.toInt8.toInt32), (.int k1.toInt8.toInt32), (.int k2.toInt8.toInt32), (.int k3.toInt8.toInt32), (.int k4.toInt8.toInt32)] (.int 0)) := by
  refine Con.of_go (plainFor_of_name pn_0) (Ls := #[.val (.ref a), .val (.ref t)]) (fun m => by first | (simp [entryFrame, mkF, argsToLocals, Value.category]; done) | rfl) ?_
  refine Go.aloadN (pc' := 1) d11_0 rfl rfl rfl ?_
  refine Go.aloadN (pc' := 2) d11_1 rfl rfl rfl ?_
  refine Go.iconst (pc' := 3) (v := (0 : Int32)) d11_2 rfl rfl ?_
  refine Go.aloadN (pc' := 4) d11_3 rfl rfl rfl ?_
  refine Go.arraylength (pc' := 5) vt d11_4 rfl ?_
  refine Go.aconstNull (pc' := 6) d11_5 rfl ?_
  refine Go.callC (cells' := 1) (slots' := 5) (pc' := 9) [(.ref t), (.int (0 : Int32)), (.int (5 : Int32)), .null] [] (a := a) rfl rfl (ww hw 59 rfl) (ww hw 60 rfl) (ww hw 5 rfl) (ww hw 62 rfl) (by decide) (c_strInit4_5 l Z a0 hw h a t kt k0 k1 k2 k3 k4 cp hk0 hk1 hk2 hk3 hk4 hcp scp ge_a xa pf0 pf1 vt) pd_10 rfl rfl rfl rfl rfl (nl rfl) (nl rfl) (nl rfl) (nl rfl) d11_6 rfl ?_
  rintro _ h1 ⟨b_1, kb_1, rfl, K1, ge_b_1, sz_b_1, F1_0, F1_1, F1_2⟩
  have sz2 : h.size ≤ b_1 := Nat.le_trans (Keep.refl h [a]).1 sz_b_1
  have K3 : Keep h h1 [a] := (Keep.refl h [a]).trans K1 (allS (Or.inl (List.mem_of_getElem? (i := 0) rfl)) all0)
  show Go _ _ _ _ _ _ _ _ _ _ _ _ 9 #[.val (.ref a), .val (.ref t)] []
  exact Go.retV rfl d11_9 ⟨b_1, kb_1, rfl, K3, ge_b_1, sz2, F1_0, F1_1, F1_2⟩ (by decide) (by decide)
theorem c_strComp6 (l : Launch) (Z : State) (a0 : Array Value) (hw : ∀ d ∈ tables_1, d.before a0 Z = true) {n0 : Nat} (h : Heap) (t : Addr) (kt : ClassId) (b : Addr) (kb : ClassId) (k0 : Int32) (k1 : Int32) (k2 : Int32) (k3 : Int32) (k4 : Int32) (k5 : Int32) (hk0 : ¬ ((255 : Int32) < k0)) (hk1 : ¬ ((255 : Int32) < k1)) (hk2 : ¬ ((255 : Int32) < k2)) (hk3 : ¬ ((255 : Int32) < k3)) (hk4 : ¬ ((255 : Int32) < k4)) (hk5 : ¬ ((255 : Int32) < k5)) (ge_b : n0 ≤ b) (ne_t_b : t ≠ b) (vt : Arv Z h t kt .char (6 : Int32) [(.int k0), (.int k1), (.int k2), (.int k3), (.int k4), (.int k5)] (.int 0)) (vb : Arv Z h b kb .byte (6 : Int32) [(.int 0), (.int 0), (.int 0), (.int 0), (.int 0), (.int 0)] (.int 0)) :
    Con l (⟨"java/lang/StringUTF16", "compress", "([CI[BII)I"⟩ : MethodName) jdk_52_method_21_code 7 (some .int) ({ frames := 0, cells := 0, slots := 0, locals := 0 } : Room) Z n0 #[(.ref t), (.int (0 : Int32)), (.ref b), (.int (0 : Int32)), (.int (6 : Int32))] h (fun v h' => v = some (.int (6 : Int32)) ∧ Keep h h' [b] ∧ Arv Z h' b kb .byte (6 : Int32) [(.int k0.toInt8.toInt32), (.int k1.toInt8.toInt32), (.int k2.toInt8.toInt32), (.int k3.toInt8.toInt32), (.int k4.toInt8.toInt32), (.int k5.toInt8.toInt32)] (.int 0)) := by
  refine Con.of_go (plainFor_of_name pn_4) (Ls := #[.val (.ref t), .val (.int (0 : Int32)), .val (.ref b), .val (.int (0 : Int32)), .val (.int (6 : Int32)), .unset, .unset]) (fun m => by first | (simp [entryFrame, mkF, argsToLocals, Value.category]; done) | rfl) ?_
  refine Go.iconst (pc' := 1) (v := (0 : Int32)) d15_0 rfl rfl ?_
  refine Go.istore (pc' := 3) (Ls' := #[.val (.ref t), .val (.int (0 : Int32)), .val (.ref b), .val (.int (0 : Int32)), .val (.int (6 : Int32)), .val (.int (0 : Int32)), .unset]) d15_1 rfl rfl ?_
  refine Go.iload (pc' := 5) d15_3 rfl rfl ?_
  refine Go.iload (pc' := 7) d15_5 rfl rfl ?_
  refine Go.icmpNo (pc' := 10) d15_7 (XT.ii_ge_f (by decide)) rfl ?_
  refine Go.aloadN (pc' := 11) d15_10 rfl rfl rfl ?_
  refine Go.iloadN (pc' := 12) d15_11 rfl rfl ?_
  refine Go.caload (pc' := 13) (v := k0) vt d15_12 (by decide) (by decide) rfl rfl ?_
  refine Go.istore (pc' := 15) (Ls' := #[.val (.ref t), .val (.int (0 : Int32)), .val (.ref b), .val (.int (0 : Int32)), .val (.int (6 : Int32)), .val (.int (0 : Int32)), .val (.int k0)]) d15_13 rfl rfl ?_
  refine Go.iload (pc' := 17) d15_15 rfl rfl ?_
  refine Go.sipush (pc' := 20) (v := (255 : Int32)) d15_17 rfl rfl ?_
  refine Go.icmpYes (pc' := 26) d15_20 (XT.ii_le_t hk0) (by decide) (by decide) ?_
  refine Go.aloadN (pc' := 27) d15_26 rfl rfl rfl ?_
  refine Go.iloadN (pc' := 28) d15_27 rfl rfl ?_
  refine Go.iload (pc' := 30) d15_28 rfl rfl ?_
  refine Go.i2b (pc' := 31) d15_30 rfl ?_
  refine Go.bastore (pc' := 32) vb ge_b d15_31 (by decide) (by decide) (i := 0) rfl (nl rfl) rfl ?_
  intro h1 W2 V3
  have K4 : Keep h h1 [b] := (Keep.refl h [b]).wr W2 (Or.inl (List.mem_of_getElem? (i := 0) rfl))
  rw [OwnNum.b8] at V3
  replace V3 : Arv Z h1 b kb .byte (6 : Int32) [(.int k0.toInt8.toInt32), (.int 0), (.int 0), (.int 0), (.int 0), (.int 0)] (.int 0) := V3
  refine Go.iinc (pc' := 35) (Ls' := #[.val (.ref t), .val (.int ((0 : Int32) + (1 : Int32))), .val (.ref b), .val (.int (0 : Int32)), .val (.int (6 : Int32)), .val (.int (0 : Int32)), .val (.int k0)]) (w := (1 : Int32)) d15_32 rfl rfl rfl rfl ?_
  show Go _ _ _ _ _ _ _ _ _ _ _ _ 35 #[.val (.ref t), .val (.int (1 : Int32)), .val (.ref b), .val (.int (0 : Int32)), .val (.int (6 : Int32)), .val (.int (0 : Int32)), .val (.int k0)] []
  refine Go.iinc (pc' := 38) (Ls' := #[.val (.ref t), .val (.int (1 : Int32)), .val (.ref b), .val (.int ((0 : Int32) + (1 : Int32))), .val (.int (6 : Int32)), .val (.int (0 : Int32)), .val (.int k0)]) (w := (1 : Int32)) d15_35 rfl rfl rfl rfl ?_
  show Go _ _ _ _ _ _ _ _ _ _ _ _ 38 #[.val (.ref t), .val (.int (1 : Int32)), .val (.ref b), .val (.int (1 : Int32)), .val (.int (6 : Int32)), .val (.int (0 : Int32)), .val (.int k0)] []
  refine Go.iinc (pc' := 41) (Ls' := #[.val (.ref t), .val (.int (1 : Int32)), .val (.ref b), .val (.int (1 : Int32)), .val (.int (6 : Int32)), .val (.int ((0 : Int32) + (1 : Int32))), .val (.int k0)]) (w := (1 : Int32)) d15_38 rfl rfl rfl rfl ?_
  show Go _ _ _ _ _ _ _ _ _ _ _ _ 41 #[.val (.ref t), .val (.int (1 : Int32)), .val (.ref b), .val (.int (1 : Int32)), .val (.int (6 : Int32)), .val (.int (1 : Int32)), .val (.int k0)] []
  refine Go.goto (pc' := 3) d15_41 (by decide) (by decide) ?_
  refine Go.iload (pc' := 5) d15_3 rfl rfl ?_
  refine Go.iload (pc' := 7) d15_5 rfl rfl ?_
  refine Go.icmpNo (pc' := 10) d15_7 (XT.ii_ge_f (by decide)) rfl ?_
  refine Go.aloadN (pc' := 11) d15_10 rfl rfl rfl ?_
  refine Go.iloadN (pc' := 12) d15_11 rfl rfl ?_
  refine Go.caload (pc' := 13) (v := k1) (vt.other W2 ne_t_b) d15_12 (by decide) (by decide) rfl rfl ?_
  refine Go.istore (pc' := 15) (Ls' := #[.val (.ref t), .val (.int (1 : Int32)), .val (.ref b), .val (.int (1 : Int32)), .val (.int (6 : Int32)), .val (.int (1 : Int32)), .val (.int k1)]) d15_13 rfl rfl ?_
  refine Go.iload (pc' := 17) d15_15 rfl rfl ?_
  refine Go.sipush (pc' := 20) (v := (255 : Int32)) d15_17 rfl rfl ?_
  refine Go.icmpYes (pc' := 26) d15_20 (XT.ii_le_t hk1) (by decide) (by decide) ?_
  refine Go.aloadN (pc' := 27) d15_26 rfl rfl rfl ?_
  refine Go.iloadN (pc' := 28) d15_27 rfl rfl ?_
  refine Go.iload (pc' := 30) d15_28 rfl rfl ?_
  refine Go.i2b (pc' := 31) d15_30 rfl ?_
  refine Go.bastore (pc' := 32) V3 ge_b d15_31 (by decide) (by decide) (i := 1) rfl (nl rfl) rfl ?_
  intro h5 W6 V7
  have K8 : Keep h h5 [b] := K4.wr W6 (Or.inl (List.mem_of_getElem? (i := 0) rfl))
  rw [OwnNum.b8] at V7
  replace V7 : Arv Z h5 b kb .byte (6 : Int32) [(.int k0.toInt8.toInt32), (.int k1.toInt8.toInt32), (.int 0), (.int 0), (.int 0), (.int 0)] (.int 0) := V7
  refine Go.iinc (pc' := 35) (Ls' := #[.val (.ref t), .val (.int ((1 : Int32) + (1 : Int32))), .val (.ref b), .val (.int (1 : Int32)), .val (.int (6 : Int32)), .val (.int (1 : Int32)), .val (.int k1)]) (w := (1 : Int32)) d15_32 rfl rfl rfl rfl ?_
  show Go _ _ _ _ _ _ _ _ _ _ _ _ 35 #[.val (.ref t), .val (.int (2 : Int32)), .val (.ref b), .val (.int (1 : Int32)), .val (.int (6 : Int32)), .val (.int (1 : Int32)), .val (.int k1)] []
  refine Go.iinc (pc' := 38) (Ls' := #[.val (.ref t), .val (.int (2 : Int32)), .val (.ref b), .val (.int ((1 : Int32) + (1 : Int32))), .val (.int (6 : Int32)), .val (.int (1 : Int32)), .val (.int k1)]) (w := (1 : Int32)) d15_35 rfl rfl rfl rfl ?_
  show Go _ _ _ _ _ _ _ _ _ _ _ _ 38 #[.val (.ref t), .val (.int (2 : Int32)), .val (.ref b), .val (.int (2 : Int32)), .val (.int (6 : Int32)), .val (.int (1 : Int32)), .val (.int k1)] []
  refine Go.iinc (pc' := 41) (Ls' := #[.val (.ref t), .val (.int (2 : Int32)), .val (.ref b), .val (.int (2 : Int32)), .val (.int (6 : Int32)), .val (.int ((1 : Int32) + (1 : Int32))), .val (.int k1)]) (w := (1 : Int32)) d15_38 rfl rfl rfl rfl ?_
  show Go _ _ _ _ _ _ _ _ _ _ _ _ 41 #[.val (.ref t), .val (.int (2 : Int32)), .val (.ref b), .val (.int (2 : Int32)), .val (.int (6 : Int32)), .val (.int (2 : Int32)), .val (.int k1)] []
  refine Go.goto (pc' := 3) d15_41 (by decide) (by decide) ?_
  refine Go.iload (pc' := 5) d15_3 rfl rfl ?_
  refine Go.iload (pc' := 7) d15_5 rfl rfl ?_
  refine Go.icmpNo (pc' := 10) d15_7 (XT.ii_ge_f (by decide)) rfl ?_
  refine Go.aloadN (pc' := 11) d15_10 rfl rfl rfl ?_
  refine Go.iloadN (pc' := 12) d15_11 rfl rfl ?_
  refine Go.caload (pc' := 13) (v := k2) ((vt.other W2 ne_t_b).other W6 ne_t_b) d15_12 (by decide) (by decide) rfl rfl ?_
  refine Go.istore (pc' := 15) (Ls' := #[.val (.ref t), .val (.int (2 : Int32)), .val (.ref b), .val (.int (2 : Int32)), .val (.int (6 : Int32)), .val (.int (2 : Int32)), .val (.int k2)]) d15_13 rfl rfl ?_
  refine Go.iload (pc' := 17) d15_15 rfl rfl ?_
  refine Go.sipush (pc' := 20) (v := (255 : Int32)) d15_17 rfl rfl ?_
  refine Go.icmpYes (pc' := 26) d15_20 (XT.ii_le_t hk2) (by decide) (by decide) ?_
  refine Go.aloadN (pc' := 27) d15_26 rfl rfl rfl ?_
  refine Go.iloadN (pc' := 28) d15_27 rfl rfl ?_
  refine Go.iload (pc' := 30) d15_28 rfl rfl ?_
  refine Go.i2b (pc' := 31) d15_30 rfl ?_
  refine Go.bastore (pc' := 32) V7 ge_b d15_31 (by decide) (by decide) (i := 2) rfl (nl rfl) rfl ?_
  intro h9 W10 V11
  have K12 : Keep h h9 [b] := K8.wr W10 (Or.inl (List.mem_of_getElem? (i := 0) rfl))
  rw [OwnNum.b8] at V11
  replace V11 : Arv Z h9 b kb .byte (6 : Int32) [(.int k0.toInt8.toInt32), (.int k1.toInt8.toInt32), (.int k2.toInt8.toInt32), (.int 0), (.int 0), (.int 0)] (.int 0) := V11
  refine Go.iinc (pc' := 35) (Ls' := #[.val (.ref t), .val (.int ((2 : Int32) + (1 : Int32))), .val (.ref b), .val (.int (2 : Int32)), .val (.int (6 : Int32)), .val (.int (2 : Int32)), .val (.int k2)]) (w := (1 : Int32)) d15_32 rfl rfl rfl rfl ?_
  show Go _ _ _ _ _ _ _ _ _ _ _ _ 35 #[.val (.ref t), .val (.int (3 : Int32)), .val (.ref b), .val (.int (2 : Int32)), .val (.int (6 : Int32)), .val (.int (2 : Int32)), .val (.int k2)] []
  refine Go.iinc (pc' := 38) (Ls' := #[.val (.ref t), .val (.int (3 : Int32)), .val (.ref b), .val (.int ((2 : Int32) + (1 : Int32))), .val (.int (6 : Int32)), .val (.int (2 : Int32)), .val (.int k2)]) (w := (1 : Int32)) d15_35 rfl rfl rfl rfl ?_
  show Go _ _ _ _ _ _ _ _ _ _ _ _ 38 #[.val (.ref t), .val (.int (3 : Int32)), .val (.ref b), .val (.int (3 : Int32)), .val (.int (6 : Int32)), .val (.int (2 : Int32)), .val (.int k2)] []
  refine Go.iinc (pc' := 41) (Ls' := #[.val (.ref t), .val (.int (3 : Int32)), .val (.ref b), .val (.int (3 : Int32)), .val (.int (6 : Int32)), .val (.int ((2 : Int32) + (1 : Int32))), .val (.int k2)]) (w := (1 : Int32)) d15_38 rfl rfl rfl rfl ?_
  show Go _ _ _ _ _ _ _ _ _ _ _ _ 41 #[.val (.ref t), .val (.int (3 : Int32)), .val (.ref b), .val (.int (3 : Int32)), .val (.int (6 : Int32)), .val (.int (3 : Int32)), .val (.int k2)] []
  refine Go.goto (pc' := 3) d15_41 (by decide) (by decide) ?_
  refine Go.iload (pc' := 5) d15_3 rfl rfl ?_
  refine Go.iload (pc' := 7) d15_5 rfl rfl ?_
  refine Go.icmpNo (pc' := 10) d15_7 (XT.ii_ge_f (by decide)) rfl ?_
  refine Go.aloadN (pc' := 11) d15_10 rfl rfl rfl ?_
  refine Go.iloadN (pc' := 12) d15_11 rfl rfl ?_
  have f13 : Arv Z h9 t kt .char (6 : Int32) [(.int k0), (.int k1), (.int k2), (.int k3), (.int k4), (.int k5)] (.int 0) := (((vt.other W2 ne_t_b).other W6 ne_t_b).other W10 ne_t_b)
  refine Go.caload (pc' := 13) (v := k3) f13 d15_12 (by decide) (by decide) rfl rfl ?_
  refine Go.istore (pc' := 15) (Ls' := #[.val (.ref t), .val (.int (3 : Int32)), .val (.ref b), .val (.int (3 : Int32)), .val (.int (6 : Int32)), .val (.int (3 : Int32)), .val (.int k3)]) d15_13 rfl rfl ?_
  refine Go.iload (pc' := 17) d15_15 rfl rfl ?_
  refine Go.sipush (pc' := 20) (v := (255 : Int32)) d15_17 rfl rfl ?_
  refine Go.icmpYes (pc' := 26) d15_20 (XT.ii_le_t hk3) (by decide) (by decide) ?_
  refine Go.aloadN (pc' := 27) d15_26 rfl rfl rfl ?_
  refine Go.iloadN (pc' := 28) d15_27 rfl rfl ?_
  refine Go.iload (pc' := 30) d15_28 rfl rfl ?_
  refine Go.i2b (pc' := 31) d15_30 rfl ?_
  refine Go.bastore (pc' := 32) V11 ge_b d15_31 (by decide) (by decide) (i := 3) rfl (nl rfl) rfl ?_
  intro h14 W15 V16
  have K17 : Keep h h14 [b] := K12.wr W15 (Or.inl (List.mem_of_getElem? (i := 0) rfl))
  rw [OwnNum.b8] at V16
  replace V16 : Arv Z h14 b kb .byte (6 : Int32) [(.int k0.toInt8.toInt32), (.int k1.toInt8.toInt32), (.int k2.toInt8.toInt32), (.int k3.toInt8.toInt32), (.int 0), (.int 0)] (.int 0) := V16
  refine Go.iinc (pc' := 35) (Ls' := #[.val (.ref t), .val (.int ((3 : Int32) + (1 : Int32))), .val (.ref b), .val (.int (3 : Int32)), .val (.int (6 : Int32)), .val (.int (3 : Int32)), .val (.int k3)]) (w := (1 : Int32)) d15_32 rfl rfl rfl rfl ?_
  show Go _ _ _ _ _ _ _ _ _ _ _ _ 35 #[.val (.ref t), .val (.int (4 : Int32)), .val (.ref b), .val (.int (3 : Int32)), .val (.int (6 : Int32)), .val (.int (3 : Int32)), .val (.int k3)] []
  refine Go.iinc (pc' := 38) (Ls' := #[.val (.ref t), .val (.int (4 : Int32)), .val (.ref b), .val (.int ((3 : Int32) + (1 : Int32))), .val (.int (6 : Int32)), .val (.int (3 : Int32)), .val (.int k3)]) (w := (1 : Int32)) d15_35 rfl rfl rfl rfl ?_
  show Go _ _ _ _ _ _ _ _ _ _ _ _ 38 #[.val (.ref t), .val (.int (4 : Int32)), .val (.ref b), .val (.int (4 : Int32)), .val (.int (6 : Int32)), .val (.int (3 : Int32)), .val (.int k3)] []
  refine Go.iinc (pc' := 41) (Ls' := #[.val (.ref t), .val (.int (4 : Int32)), .val (.ref b), .val (.int (4 : Int32)), .val (.int (6 : Int32)), .val (.int ((3 : Int32) + (1 : Int32))), .val (.int k3)]) (w := (1 : Int32)) d15_38 rfl rfl rfl rfl ?_
  show Go _ _ _ _ _ _ _ _ _ _ _ _ 41 #[.val (.ref t), .val (.int (4 : Int32)), .val (.ref b), .val (.int (4 : Int32)), .val (.int (6 : Int32)), .val (.int (4 : Int32)), .val (.int k3)] []
  refine Go.goto (pc' := 3) d15_41 (by decide) (by decide) ?_
  refine Go.iload (pc' := 5) d15_3 rfl rfl ?_
  refine Go.iload (pc' := 7) d15_5 rfl rfl ?_
  refine Go.icmpNo (pc' := 10) d15_7 (XT.ii_ge_f (by decide)) rfl ?_
  refine Go.aloadN (pc' := 11) d15_10 rfl rfl rfl ?_
  refine Go.iloadN (pc' := 12) d15_11 rfl rfl ?_
  refine Go.caload (pc' := 13) (v := k4) (f13.other W15 ne_t_b) d15_12 (by decide) (by decide) rfl rfl ?_
  refine Go.istore (pc' := 15) (Ls' := #[.val (.ref t), .val (.int (4 : Int32)), .val (.ref b), .val (.int (4 : Int32)), .val (.int (6 : Int32)), .val (.int (4 : Int32)), .val (.int k4)]) d15_13 rfl rfl ?_
  refine Go.iload (pc' := 17) d15_15 rfl rfl ?_
  refine Go.sipush (pc' := 20) (v := (255 : Int32)) d15_17 rfl rfl ?_
  refine Go.icmpYes (pc' := 26) d15_20 (XT.ii_le_t hk4) (by decide) (by decide) ?_
  refine Go.aloadN (pc' := 27) d15_26 rfl rfl rfl ?_
  refine Go.iloadN (pc' := 28) d15_27 rfl rfl ?_
  refine Go.iload (pc' := 30) d15_28 rfl rfl ?_
  refine Go.i2b (pc' := 31) d15_30 rfl ?_
  refine Go.bastore (pc' := 32) V16 ge_b d15_31 (by decide) (by decide) (i := 4) rfl (nl rfl) rfl ?_
  intro h18 W19 V20
  have K21 : Keep h h18 [b] := K17.wr W19 (Or.inl (List.mem_of_getElem? (i := 0) rfl))
  rw [OwnNum.b8] at V20
  replace V20 : Arv Z h18 b kb .byte (6 : Int32) [(.int k0.toInt8.toInt32), (.int k1.toInt8.toInt32), (.int k2.toInt8.toInt32), (.int k3.toInt8.toInt32), (.int k4.toInt8.toInt32), (.int 0)] (.int 0) := V20
  refine Go.iinc (pc' := 35) (Ls' := #[.val (.ref t), .val (.int ((4 : Int32) + (1 : Int32))), .val (.ref b), .val (.int (4 : Int32)), .val (.int (6 : Int32)), .val (.int (4 : Int32)), .val (.int k4)]) (w := (1 : Int32)) d15_32 rfl rfl rfl rfl ?_
  show Go _ _ _ _ _ _ _ _ _ _ _ _ 35 #[.val (.ref t), .val (.int (5 : Int32)), .val (.ref b), .val (.int (4 : Int32)), .val (.int (6 : Int32)), .val (.int (4 : Int32)), .val (.int k4)] []
  refine Go.iinc (pc' := 38) (Ls' := #[.val (.ref t), .val (.int (5 : Int32)), .val (.ref b), .val (.int ((4 : Int32) + (1 : Int32))), .val (.int (6 : Int32)), .val (.int (4 : Int32)), .val (.int k4)]) (w := (1 : Int32)) d15_35 rfl rfl rfl rfl ?_
  show Go _ _ _ _ _ _ _ _ _ _ _ _ 38 #[.val (.ref t), .val (.int (5 : Int32)), .val (.ref b), .val (.int (5 : Int32)), .val (.int (6 : Int32)), .val (.int (4 : Int32)), .val (.int k4)] []
  refine Go.iinc (pc' := 41) (Ls' := #[.val (.ref t), .val (.int (5 : Int32)), .val (.ref b), .val (.int (5 : Int32)), .val (.int (6 : Int32)), .val (.int ((4 : Int32) + (1 : Int32))), .val (.int k4)]) (w := (1 : Int32)) d15_38 rfl rfl rfl rfl ?_
  show Go _ _ _ _ _ _ _ _ _ _ _ _ 41 #[.val (.ref t), .val (.int (5 : Int32)), .val (.ref b), .val (.int (5 : Int32)), .val (.int (6 : Int32)), .val (.int (5 : Int32)), .val (.int k4)] []
  refine Go.goto (pc' := 3) d15_41 (by decide) (by decide) ?_
  refine Go.iload (pc' := 5) d15_3 rfl rfl ?_
  refine Go.iload (pc' := 7) d15_5 rfl rfl ?_
  refine Go.icmpNo (pc' := 10) d15_7 (XT.ii_ge_f (by decide)) rfl ?_
  refine Go.aloadN (pc' := 11) d15_10 rfl rfl rfl ?_
  refine Go.iloadN (pc' := 12) d15_11 rfl rfl ?_
  have f22 : Arv Z h18 t kt .char (6 : Int32) [(.int k0), (.int k1), (.int k2), (.int k3), (.int k4), (.int k5)] (.int 0) := ((f13.other W15 ne_t_b).other W19 ne_t_b)
  refine Go.caload (pc' := 13) (v := k5) f22 d15_12 (by decide) (by decide) rfl rfl ?_
  refine Go.istore (pc' := 15) (Ls' := #[.val (.ref t), .val (.int (5 : Int32)), .val (.ref b), .val (.int (5 : Int32)), .val (.int (6 : Int32)), .val (.int (5 : Int32)), .val (.int k5)]) d15_13 rfl rfl ?_
  refine Go.iload (pc' := 17) d15_15 rfl rfl ?_
  refine Go.sipush (pc' := 20) (v := (255 : Int32)) d15_17 rfl rfl ?_
  refine Go.icmpYes (pc' := 26) d15_20 (XT.ii_le_t hk5) (by decide) (by decide) ?_
  refine Go.aloadN (pc' := 27) d15_26 rfl rfl rfl ?_
  refine Go.iloadN (pc' := 28) d15_27 rfl rfl ?_
  refine Go.iload (pc' := 30) d15_28 rfl rfl ?_
  refine Go.i2b (pc' := 31) d15_30 rfl ?_
  refine Go.bastore (pc' := 32) V20 ge_b d15_31 (by decide) (by decide) (i := 5) rfl (nl rfl) rfl ?_
  intro h23 W24 V25
  have K26 : Keep h h23 [b] := K21.wr W24 (Or.inl (List.mem_of_getElem? (i := 0) rfl))
  rw [OwnNum.b8] at V25
  replace V25 : Arv Z h23 b kb .byte (6 : Int32) [(.int k0.toInt8.toInt32), (.int k1.toInt8.toInt32), (.int k2.toInt8.toInt32), (.int k3.toInt8.toInt32), (.int k4.toInt8.toInt32), (.int k5.toInt8.toInt32)] (.int 0) := V25
  refine Go.iinc (pc' := 35) (Ls' := #[.val (.ref t), .val (.int ((5 : Int32) + (1 : Int32))), .val (.ref b), .val (.int (5 : Int32)), .val (.int (6 : Int32)), .val (.int (5 : Int32)), .val (.int k5)]) (w := (1 : Int32)) d15_32 rfl rfl rfl rfl ?_
  show Go _ _ _ _ _ _ _ _ _ _ _ _ 35 #[.val (.ref t), .val (.int (6 : Int32)), .val (.ref b), .val (.int (5 : Int32)), .val (.int (6 : Int32)), .val (.int (5 : Int32)), .val (.int k5)] []
  refine Go.iinc (pc' := 38) (Ls' := #[.val (.ref t), .val (.int (6 : Int32)), .val (.ref b), .val (.int ((5 : Int32) + (1 : Int32))), .val (.int (6 : Int32)), .val (.int (5 : Int32)), .val (.int k5)]) (w := (1 : Int32)) d15_35 rfl rfl rfl rfl ?_
  show Go _ _ _ _ _ _ _ _ _ _ _ _ 38 #[.val (.ref t), .val (.int (6 : Int32)), .val (.ref b), .val (.int (6 : Int32)), .val (.int (6 : Int32)), .val (.int (5 : Int32)), .val (.int k5)] []
  refine Go.iinc (pc' := 41) (Ls' := #[.val (.ref t), .val (.int (6 : Int32)), .val (.ref b), .val (.int (6 : Int32)), .val (.int (6 : Int32)), .val (.int ((5 : Int32) + (1 : Int32))), .val (.int k5)]) (w := (1 : Int32)) d15_38 rfl rfl rfl rfl ?_
  show Go _ _ _ _ _ _ _ _ _ _ _ _ 41 #[.val (.ref t), .val (.int (6 : Int32)), .val (.ref b), .val (.int (6 : Int32)), .val (.int (6 : Int32)), .val (.int (6 : Int32)), .val (.int k5)] []
  refine Go.goto (pc' := 3) d15_41 (by decide) (by decide) ?_
  refine Go.iload (pc' := 5) d15_3 rfl rfl ?_
  refine Go.iload (pc' := 7) d15_5 rfl rfl ?_
  refine Go.icmpYes (pc' := 44) d15_7 (XT.ii_ge_t (by decide)) (by decide) (by decide) ?_
  refine Go.iload (pc' := 46) d15_44 rfl rfl ?_
  exact Go.retI rfl d15_46 ⟨rfl, K26, V25⟩ (by decide) (by decide)
theorem c_strComp2_6 (l : Launch) (Z : State) (a0 : Array Value) (hw : ∀ d ∈ tables_1, d.before a0 Z = true) {n0 : Nat} (h : Heap) (t : Addr) (kt : ClassId) (k0 : Int32) (k1 : Int32) (k2 : Int32) (k3 : Int32) (k4 : Int32) (k5 : Int32) (hk0 : ¬ ((255 : Int32) < k0)) (hk1 : ¬ ((255 : Int32) < k1)) (hk2 : ¬ ((255 : Int32) < k2)) (hk3 : ¬ ((255 : Int32) < k3)) (hk4 : ¬ ((255 : Int32) < k4)) (hk5 : ¬ ((255 : Int32) < k5)) (vt : Arv Z h t kt .char (6 : Int32) [(.int k0), (.int k1), (.int k2), (.int k3), (.int k4), (.int k5)] (.int 0)) :
    Con l (⟨"java/lang/StringUTF16", "compress", "([CII)[B"⟩ : MethodName) jdk_52_method_16_code 6 (some (.array .byte)) ({ frames := 1, cells := 1, slots := 6, locals := 18 } : Room) Z n0 #[(.ref t), (.int (0 : Int32)), (.int (6 : Int32))] h (fun v h' => ∃ b : Addr, ∃ kb : ClassId, v = some (.ref b) ∧ Keep h h' [] ∧ n0 ≤ b ∧ h.size ≤ b ∧ Arv Z h' b kb .byte (6 : Int32) [(.int k0.toInt8.toInt32), (.int k1.toInt8.toInt32), (.int k2.toInt8.toInt32), (.int k3.toInt8.toInt32), (.int k4.toInt8.toInt32), (.int k5.toInt8.toInt32)] (.int 0)) := by
  refine Con.of_go (plainFor_of_name pn_4) (Ls := #[.val (.ref t), .val (.int (0 : Int32)), .val (.int (6 : Int32)), .unset, .unset, .unset]) (fun m => by first | (simp [entryFrame, mkF, argsToLocals, Value.category]; done) | rfl) ?_
  refine Go.iloadN (pc' := 1) d14_0 rfl rfl ?_
  refine Go.newarray (pc' := 3) (cells' := 1) (slots' := 6) (cap := 6) (ww hw 7 rfl) d14_1 (ad := "[B") (by decide) (by decide) (by decide) rfl rfl (by decide) (by decide) (by decide) rfl ?_
  intro h1 b1 g1 E1 ge1 kA1 A1 X1
  have sz2 : h.size ≤ b1 := Nat.le_trans (Keep.refl h []).1 (Nat.le_of_eq g1.symm)
  have K3 : Keep h h1 [] := (Keep.refl h []).ext E1
  have V1 : Arv Z h1 b1 kA1 .byte (6 : Int32) [(.int 0), (.int 0), (.int 0), (.int 0), (.int 0), (.int 0)] (.int 0) := Arv.pad A1 (pad_rep [] (.int 0) 6)
  refine Go.astoreN (pc' := 4) (Ls' := #[.val (.ref t), .val (.int (0 : Int32)), .val (.int (6 : Int32)), .val (.ref b1), .unset, .unset]) d14_3 rfl rfl rfl ?_
  refine Go.aloadN (pc' := 5) d14_4 rfl rfl rfl ?_
  refine Go.iloadN (pc' := 6) d14_5 rfl rfl ?_
  refine Go.aloadN (pc' := 7) d14_6 rfl rfl rfl ?_
  refine Go.iconst (pc' := 8) (v := (0 : Int32)) d14_7 rfl rfl ?_
  refine Go.iloadN (pc' := 9) d14_8 rfl rfl ?_
  have ne4 : t ≠ b1 := (Nat.ne_of_lt (Nat.lt_of_lt_of_le vt.lt (Nat.le_of_eq g1.symm)))
  refine Go.callS (cells' := 1) (slots' := 6) (pc' := 12) [(.ref t), (.int (0 : Int32)), (.ref b1), (.int (0 : Int32)), (.int (6 : Int32))] [] (ww hw 70 rfl) (ww hw 71 rfl) (ww hw 68 rfl) (ww hw 72 rfl) (by decide) (c_strComp6 l Z a0 hw h1 t kt b1 kA1 k0 k1 k2 k3 k4 k5 hk0 hk1 hk2 hk3 hk4 hk5 ge1 ne4 (vt.ext E1) V1) pd_7 rfl rfl rfl rfl rfl (nl rfl) (nl rfl) (nl rfl) (nl rfl) d14_9 rfl ?_
  rintro _ h5 ⟨rfl, K5, F5_0⟩
  have K6 : Keep h h5 [] := K3.trans K5 (allS (Or.inr sz2) all0)
  show Go _ _ _ _ _ _ _ _ _ _ _ _ 12 #[.val (.ref t), .val (.int (0 : Int32)), .val (.int (6 : Int32)), .val (.ref b1), .unset, .unset] [(.int (6 : Int32))]
  refine Go.istore (pc' := 14) (Ls' := #[.val (.ref t), .val (.int (0 : Int32)), .val (.int (6 : Int32)), .val (.ref b1), .val (.int (6 : Int32)), .unset]) d14_12 rfl rfl ?_
  refine Go.iload (pc' := 16) d14_14 rfl rfl ?_
  refine Go.iloadN (pc' := 17) d14_16 rfl rfl ?_
  refine Go.icmpYes (pc' := 57) d14_17 (XT.ii_eq_t (by decide)) (by decide) (by decide) ?_
  refine Go.aloadN (pc' := 58) d14_57 rfl rfl rfl ?_
  exact Go.retR rfl rfl rfl rfl d14_58 ⟨b1, kA1, rfl, K6, ge1, sz2, F5_0⟩ (by decide) (by decide)
theorem c_strCoder6 (l : Launch) (Z : State) (a0 : Array Value) (hw : ∀ d ∈ tables_1, d.before a0 Z = true) {n0 : Nat} (h : Heap) (b : Addr) (kb : ClassId) (k0 : Int32) (k1 : Int32) (k2 : Int32) (k3 : Int32) (k4 : Int32) (k5 : Int32) (vb : Arv Z h b kb .byte (6 : Int32) [(.int k0.toInt8.toInt32), (.int k1.toInt8.toInt32), (.int k2.toInt8.toInt32), (.int k3.toInt8.toInt32), (.int k4.toInt8.toInt32), (.int k5.toInt8.toInt32)] (.int 0)) :
    Con l (⟨"java/lang/StringUTF16", "coderFromArrayLen", "([BI)B"⟩ : MethodName) jdk_52_method_15_code 2 (some .byte) ({ frames := 0, cells := 0, slots := 0, locals := 0 } : Room) Z n0 #[(.ref b), (.int (6 : Int32))] h (fun v h' => v = some (.int (0 : Int32)) ∧ h = h') := by
  refine Con.of_go (plainFor_of_name pn_4) (Ls := #[.val (.ref b), .val (.int (6 : Int32))]) (fun m => by first | (simp [entryFrame, mkF, argsToLocals, Value.category]; done) | rfl) ?_
  refine Go.iloadN (pc' := 1) d16_0 rfl rfl ?_
  refine Go.aloadN (pc' := 2) d16_1 rfl rfl rfl ?_
  refine Go.arraylength (pc' := 3) vb d16_2 rfl ?_
  refine Go.isub (pc' := 4) d16_3 rfl ?_
  show Go _ _ _ _ _ _ _ _ _ _ _ _ 4 #[.val (.ref b), .val (.int (6 : Int32))] [(.int (0 : Int32))]
  refine Go.bipush (pc' := 6) (v := (31 : Int32)) d16_4 rfl rfl ?_
  refine Go.iushr (pc' := 7) d16_6 rfl ?_
  show Go _ _ _ _ _ _ _ _ _ _ _ _ 7 #[.val (.ref b), .val (.int (6 : Int32))] [(.int (0 : Int32))]
  refine Go.i2b (pc' := 8) d16_7 rfl ?_
  show Go _ _ _ _ _ _ _ _ _ _ _ _ 8 #[.val (.ref b), .val (.int (6 : Int32))] [(.int (0 : Int32))]
  exact Go.retN (t := .byte) rfl (by simp) d16_8 ⟨rfl, rfl⟩ (by decide) (by decide)
theorem c_strInit4_6 (l : Launch) (Z : State) (a0 : Array Value) (hw : ∀ d ∈ tables_1, d.before a0 Z = true) {n0 : Nat} (h : Heap) (a : Addr) (t : Addr) (kt : ClassId) (k0 : Int32) (k1 : Int32) (k2 : Int32) (k3 : Int32) (k4 : Int32) (k5 : Int32) (cp : Int32) (hk0 : ¬ ((255 : Int32) < k0)) (hk1 : ¬ ((255 : Int32) < k1)) (hk2 : ¬ ((255 : Int32) < k2)) (hk3 : ¬ ((255 : Int32) < k3)) (hk4 : ¬ ((255 : Int32) < k4)) (hk5 : ¬ ((255 : Int32) < k5)) (hcp : ¬ (cp = (0 : Int32))) (scp : Sta Z Z.heap "java/lang/String" "COMPACT_STRINGS" "Z" (.int cp)) (ge_a : n0 ≤ a) (xa : Exa Z h a "java/lang/String") (pf0 : Fld Z h a "java/lang/String" "value" "[B" .null) (pf1 : Fld Z h a "java/lang/String" "coder" "B" (.int (0 : Int32))) (vt : Arv Z h t kt .char (6 : Int32) [(.int k0), (.int k1), (.int k2), (.int k3), (.int k4), (.int k5)] (.int 0)) :
    Con l (⟨"java/lang/String", "<init>", "([CIILjava/lang/Void;)V"⟩ : MethodName) jdk_42_method_149_code 6 none ({ frames := 2, cells := 1, slots := 6, locals := 35 } : Room) Z n0 #[(.ref a), (.ref t), (.int (0 : Int32)), (.int (6 : Int32)), .null] h (fun v h' => ∃ b : Addr, ∃ kb : ClassId, v = none ∧ Keep h h' [a] ∧ n0 ≤ b ∧ h.size ≤ b ∧ Fld Z h' a "java/lang/String" "value" "[B" (.ref b) ∧ Fld Z h' a "java/lang/String" "coder" "B" (.int (0 : Int32)) ∧ Arv Z h' b kb .byte (6 : Int32) [(.int k0.toInt8.toInt32), (.int k1.toInt8.toInt32), (.int k2.toInt8.toInt32), (.int k3.toInt8.toInt32), (.int k4.toInt8.toInt32), (.int k5.toInt8.toInt32)] (.int 0)) := by
  refine Con.of_go (plainFor_of_name pn_0) (Ls := #[.val (.ref a), .val (.ref t), .val (.int (0 : Int32)), .val (.int (6 : Int32)), .val .null, .unset]) (fun m => by first | (simp [entryFrame, mkF, argsToLocals, Value.category]; done) | rfl) ?_
  refine Go.aloadN (pc' := 1) d12_0 rfl rfl rfl ?_
  refine Go.initO (pc' := 4) (ww hw 63 rfl) (ww hw 64 rfl) (ww hw 65 rfl) d12_1 rfl (nl rfl) (nl rfl) rfl ?_
  refine Go.iloadN (pc' := 5) d12_4 rfl rfl ?_
  refine Go.ifYes (pc' := 27) d12_5 (XT.i0_ne_t (by decide)) (by decide) (by decide) ?_
  refine Go.old (fun old1 => ?_)
  refine Go.getstatic (pc' := 30) (host := "") (Or.inl (ww hw 27 rfl)) Via.refl (scp.ext old1.2) d12_27 rfl ?_
  refine Go.ifNo (pc' := 33) d12_30 (XT.i0_eq_f hcp) rfl ?_
  refine Go.aloadN (pc' := 34) d12_33 rfl rfl rfl ?_
  refine Go.iloadN (pc' := 35) d12_34 rfl rfl ?_
  refine Go.iloadN (pc' := 36) d12_35 rfl rfl ?_
  refine Go.callS (cells' := 1) (slots' := 6) (pc' := 39) [(.ref t), (.int (0 : Int32)), (.int (6 : Int32))] [] (ww hw 66 rfl) (ww hw 67 rfl) (ww hw 68 rfl) (ww hw 69 rfl) (by decide) (c_strComp2_6 l Z a0 hw h t kt k0 k1 k2 k3 k4 k5 hk0 hk1 hk2 hk3 hk4 hk5 vt) pd_8 rfl rfl rfl rfl rfl (nl rfl) (nl rfl) (nl rfl) (nl rfl) d12_36 rfl ?_
  rintro _ h2 ⟨b_2, kb_2, rfl, K2, ge_b_2, sz_b_2, F2_0⟩
  have sz3 : h.size ≤ b_2 := Nat.le_trans (Keep.refl h [a]).1 sz_b_2
  have K4 : Keep h h2 [a] := (Keep.refl h [a]).trans K2 all0
  show Go _ _ _ _ _ _ _ _ _ _ _ _ 39 #[.val (.ref a), .val (.ref t), .val (.int (0 : Int32)), .val (.int (6 : Int32)), .val .null, .unset] [(.ref b_2)]
  refine Go.astore (pc' := 41) (Ls' := #[.val (.ref a), .val (.ref t), .val (.int (0 : Int32)), .val (.int (6 : Int32)), .val .null, .val (.ref b_2)]) d12_39 rfl rfl rfl ?_
  refine Go.aloadN (pc' := 42) d12_41 rfl rfl rfl ?_
  refine Go.aload (pc' := 44) d12_42 rfl rfl rfl ?_
  refine Go.iloadN (pc' := 45) d12_44 rfl rfl ?_
  refine Go.callS (cells' := 1) (slots' := 6) (pc' := 48) [(.ref b_2), (.int (6 : Int32))] [(.ref a)] (ww hw 73 rfl) (ww hw 74 rfl) (ww hw 68 rfl) (ww hw 75 rfl) (by decide) (c_strCoder6 l Z a0 hw h2 b_2 kb_2 k0 k1 k2 k3 k4 k5 F2_0) pd_9 rfl rfl rfl rfl rfl (nl rfl) (nl rfl) (nl rfl) (nl rfl) d12_45 rfl ?_
  rintro _ _ ⟨rfl, rfl⟩
  show Go _ _ _ _ _ _ _ _ _ _ _ _ 48 #[.val (.ref a), .val (.ref t), .val (.int (0 : Int32)), .val (.int (6 : Int32)), .val .null, .val (.ref b_2)] [(.int (0 : Int32)), (.ref a)]
  refine Go.putfieldN (pc' := 51) (ww hw 28 rfl) Via.refl (pf1.keep K2 nin0) (xa.keep K2) (Or.inr ⟨(ww hw 9 rfl), rfl, rfl⟩) (ww hw 6 rfl) (ty := .byte) (v' := (0 : Int32)) (by decide) (by first | rfl | decide) (by first | rfl | decide | exact fits_nar_byte _) ge_a d12_48 rfl ?_
  intro h6 W7
  have K8 : Keep h h6 [a] := K4.wr W7 (Or.inl (List.mem_of_getElem? (i := 0) rfl))
  have f9 := (pf1.keep K2 nin0).same W7
  refine Go.aloadN (pc' := 52) d12_51 rfl rfl rfl ?_
  refine Go.aload (pc' := 54) d12_52 rfl rfl rfl ?_
  have f10 : Fld Z h6 a "java/lang/String" "value" "[B" .null := ((pf0.keep K2 nin0).other W7 (Or.inr (slot_ne (Or.inr (ww hw 8 rfl)) (Or.inr (ww hw 9 rfl)) (by decide) (t := (.array .byte)) (t' := .byte) (by decide) (by decide))))
  refine Go.putfield (pc' := 57) (host := "") (Or.inl (ww hw 21 rfl)) Via.refl f10 ((xa.keep K2).wr W7) (Or.inr ⟨(ww hw 8 rfl), rfl, rfl⟩) (ww hw 6 rfl) (ty := (.array .byte)) (by decide) rfl rfl ge_a d12_54 rfl ?_
  intro h11 W12
  have K13 : Keep h h11 [a] := K8.wr W12 (Or.inl (List.mem_of_getElem? (i := 0) rfl))
  have f14 := f10.same W12
  have f15 : Fld Z h11 a "java/lang/String" "coder" "B" (.int (0 : Int32)) := (f9.other W12 (Or.inr (slot_ne (Or.inr (ww hw 9 rfl)) (Or.inr (ww hw 8 rfl)) (by decide) (t := .byte) (t' := (.array .byte)) (by decide) (by decide))))
  have ne16 : a ≠ b_2 := (Nat.ne_of_lt (Nat.lt_of_lt_of_le pf0.lt sz_b_2))
  have f17 : Arv Z h11 b_2 kb_2 .byte (6 : Int32) [(.int k0.toInt8.toInt32), (.int k1.toInt8.toInt32), (.int k2.toInt8.toInt32), (.int k3.toInt8.toInt32), (.int k4.toInt8.toInt32), (.int k5.toInt8.toInt32)] (.int 0) := ((F2_0.other W7 (Ne.symm ne16)).other W12 (Ne.symm ne16))
  exact Go.retV rfl d12_57 ⟨b_2, kb_2, rfl, K13, ge_b_2, sz3, f14, f15, f17⟩ (by decide) (by decide)
theorem c_strInit6 (l : Launch) (Z : State) (a0 : Array Value) (hw : ∀ d ∈ tables_1, d.before a0 Z = true) {n0 : Nat} (h : Heap) (a : Addr) (t : Addr) (kt : ClassId) (k0 : Int32) (k1 : Int32) (k2 : Int32) (k3 : Int32) (k4 : Int32) (k5 : Int32) (cp : Int32) (hk0 : ¬ ((255 : Int32) < k0)) (hk1 : ¬ ((255 : Int32) < k1)) (hk2 : ¬ ((255 : Int32) < k2)) (hk3 : ¬ ((255 : Int32) < k3)) (hk4 : ¬ ((255 : Int32) < k4)) (hk5 : ¬ ((255 : Int32) < k5)) (hcp : ¬ (cp = (0 : Int32))) (scp : Sta Z Z.heap "java/lang/String" "COMPACT_STRINGS" "Z" (.int cp)) (ge_a : n0 ≤ a) (xa : Exa Z h a "java/lang/String") (pf0 : Fld Z h a "java/lang/String" "value" "[B" .null) (pf1 : Fld Z h a "java/lang/String" "coder" "B" (.int (0 : Int32))) (vt : Arv Z h t kt .char (6 : Int32) [(.int k0), (.int k1), (.int k2), (.int k3), (.int k4), (.int k5)] (.int 0)) :
    Con l (⟨"java/lang/String", "<init>", "([C)V"⟩ : MethodName) jdk_42_method_3_code 2 none ({ frames := 3, cells := 1, slots := 6, locals := 52 } : Room) Z n0 #[(.ref a), (.ref t)] h (fun v h' => ∃ b : Addr, ∃ kb : ClassId, v = none ∧ Keep h h' [a] ∧ n0 ≤ b ∧ h.size ≤ b ∧ Fld Z h' a "java/lang/String" "value" "[B" (.ref b) ∧ Fld Z h' a "java/lang/String" "coder" "B" (.int (0 : Int32)) ∧ Arv Z h' b kb .byte (6 : Int32) [(.int k0.toInt8.toInt32), (.int k1.toInt8.toInt32), (.int k2.toInt8.toInt32), (.int k3.toInt8.toInt32), (.int k4.toInt8.toInt32), (.int k5.toInt8.toInt32)] (.int 0)) := by
  refine Con.of_go (plainFor_of_name pn_0) (Ls := #[.val (.ref a), .val (.ref t)]) (fun m => by first | (simp [entryFrame, mkF, argsToLocals, Value.category]; done) | rfl) ?_
  refine Go.aloadN (pc' := 1) d11_0 rfl rfl rfl ?_
  refine Go.aloadN (pc' := 2) d11_1 rfl rfl rfl ?_
  refine Go.iconst (pc' := 3) (v := (0 : Int32)) d11_2 rfl rfl ?_
  refine Go.aloadN (pc' := 4) d11_3 rfl rfl rfl ?_
  refine Go.arraylength (pc' := 5) vt d11_4 rfl ?_
  refine Go.aconstNull (pc' := 6) d11_5 rfl ?_
  refine Go.callC (cells' := 1) (slots' := 6) (pc' := 9) [(.ref t), (.int (0 : Int32)), (.int (6 : Int32)), .null] [] (a := a) rfl rfl (ww hw 59 rfl) (ww hw 60 rfl) (ww hw 5 rfl) (ww hw 62 rfl) (by decide) (c_strInit4_6 l Z a0 hw h a t kt k0 k1 k2 k3 k4 k5 cp hk0 hk1 hk2 hk3 hk4 hk5 hcp scp ge_a xa pf0 pf1 vt) pd_10 rfl rfl rfl rfl rfl (nl rfl) (nl rfl) (nl rfl) (nl rfl) d11_6 rfl ?_
  rintro _ h1 ⟨b_1, kb_1, rfl, K1, ge_b_1, sz_b_1, F1_0, F1_1, F1_2⟩
  have sz2 : h.size ≤ b_1 := Nat.le_trans (Keep.refl h [a]).1 sz_b_1
  have K3 : Keep h h1 [a] := (Keep.refl h [a]).trans K1 (allS (Or.inl (List.mem_of_getElem? (i := 0) rfl)) all0)
  show Go _ _ _ _ _ _ _ _ _ _ _ _ 9 #[.val (.ref a), .val (.ref t)] []
  exact Go.retV rfl d11_9 ⟨b_1, kb_1, rfl, K3, ge_b_1, sz2, F1_0, F1_1, F1_2⟩ (by decide) (by decide)
theorem d12_8 : decode jdk_42_method_149_code 8 = .ok (.aload_n 0, 1) := by decide +kernel
theorem d12_9 : decode jdk_42_method_149_code 9 = .ok (.ldc 7, 2) := by decide +kernel
theorem d12_11 : decode jdk_42_method_149_code 11 = .ok (.getfield 9, 3) := by decide +kernel
theorem d12_14 : decode jdk_42_method_149_code 14 = .ok (.putfield 9, 3) := by decide +kernel
theorem d12_17 : decode jdk_42_method_149_code 17 = .ok (.aload_n 0, 1) := by decide +kernel
theorem d12_18 : decode jdk_42_method_149_code 18 = .ok (.ldc 7, 2) := by decide +kernel
theorem d12_20 : decode jdk_42_method_149_code 20 = .ok (.getfield 15, 3) := by decide +kernel
theorem d12_23 : decode jdk_42_method_149_code 23 = .ok (.putfield 15, 3) := by decide +kernel
theorem d12_26 : decode jdk_42_method_149_code 26 = .ok (.return_, 1) := by decide +kernel
theorem tx_8 : (∀ c ∈ ("" : String).toList, c.toNat < 256) ∧ ("" : String).toList.map (fun c => Value.int (Jvm.Lit.byteI c.toNat.toUInt16)) = [] := ⟨by decide, by decide⟩
theorem c_str0Init4 (l : Launch) (Z : State) (a0 : Array Value) (hw : ∀ d ∈ tables_1, d.before a0 Z = true) {n0 : Nat} (h : Heap) (a : Addr) (t : Addr) (kt : ClassId) (tt : String) (tw : Addr) (tb : Addr) (to : String) (ti : Nat) (hcw : Jvm.Lit.compactW.before a0 Z = true) (hch7 : Jvm.Lit.constHeld Z "java/lang/String" 7) (ge_a : n0 ≤ a) (xa : Exa Z h a "java/lang/String") (pf0 : Fld Z h a "java/lang/String" "value" "[B" .null) (pf1 : Fld Z h a "java/lang/String" "coder" "B" (.int (0 : Int32))) (vt : Arv Z h t kt .char (0 : Int32) [] (.int 0)) (HT : Hel Z h tw tb tt) :
    ConS l (⟨"java/lang/String", "<init>", "([CIILjava/lang/Void;)V"⟩ : MethodName) jdk_42_method_149_code 6 none ({ frames := 1, cells := 2, slots := 4, locals := 12 } : Room) Z n0 #[(.ref a), (.ref t), (.int (0 : Int32)), (.int (0 : Int32)), .null] h [(tt, tw, to, ti)] (fun v h' LL' => ∃ sa : Addr, ∃ sb : Addr, ∃ ks : ClassId, v = none ∧ Keep h h' [a] ∧ Fld Z h' a "java/lang/String" "value" "[B" (.ref sb) ∧ Fld Z h' a "java/lang/String" "coder" "B" (.int (0 : Int32)) ∧ Arv Z h' sb ks .byte (0 : Int32) [] (.int 0) ∧ Exa Z h' sb "[B" ∧ Hel Z h' sa sb ("") ∧ LL' = [("", sa, "java/lang/String", 7), (tt, tw, to, ti)]) := by
  refine ConS.of_go (plainFor_of_name pn_0) (Ls := #[.val (.ref a), .val (.ref t), .val (.int (0 : Int32)), .val (.int (0 : Int32)), .val .null, .unset]) (fun m => by first | (simp [entryFrame, mkF, argsToLocals, Value.category]; done) | rfl) ?_
  refine GoS.aloadN (pc' := 1) d12_0 rfl rfl rfl ?_
  refine GoS.initO (pc' := 4) (ww hw 63 rfl) (ww hw 64 rfl) (ww hw 65 rfl) d12_1 rfl (nl rfl) (nl rfl) rfl ?_
  refine GoS.iloadN (pc' := 5) d12_4 rfl rfl ?_
  refine GoS.ifNo (pc' := 8) d12_5 (XT.i0_ne_f (by decide)) rfl ?_
  refine GoS.aloadN (pc' := 9) d12_8 rfl rfl rfl ?_
  refine GoS.ldcS (pc' := 11) (cells' := 2) (slots' := 4) (n := 0) (z := (0 : Int32)) (vs := []) (ww hw 132 rfl) (wsA hw) hch7 hcw (Keep.refl h []) (HL.yes (ww hw 6 rfl) HT HL.nil) tx_8 (by decide) rfl d12_9 (nl rfl) (nl rfl) rfl rfl (nl rfl) (nl rfl) rfl ?_
  intro h1 sa1 sb1 kb1 E1 F1_0 F1_1 F1_2 F1_3 F1_4 F1_5
  have K2 : Keep h h1 [a] := (Keep.refl h [a]).ext E1
  have K3 : Keep h h1 [] := (Keep.refl h []).ext E1
  have H4 : Hel Z h1 sa1 sb1 "" := ⟨kb1, _, _, F1_0, F1_1, F1_2, F1_3, F1_4, tx_8, rfl⟩
  show GoS _ _ _ _ _ _ _ _ _ _ _ _ _ _ 11 #[.val (.ref a), .val (.ref t), .val (.int (0 : Int32)), .val (.int (0 : Int32)), .val .null, .unset] [(.ref sa1), (.ref a)]
  refine GoS.getfield (pc' := 14) (host := "") (Or.inl (ww hw 21 rfl)) Via.refl F1_2 d12_11 rfl ?_
  have ne5 : sa1 ≠ a := own_fne F1_2 (pf0.ext E1) nofun
  refine GoS.putfield (pc' := 17) (host := "") (Or.inl (ww hw 21 rfl)) Via.refl (pf0.ext E1) (xa.ext E1) (Or.inr ⟨(ww hw 8 rfl), rfl, rfl⟩) (ww hw 6 rfl) (ty := (.array .byte)) (by decide) rfl rfl ge_a d12_14 rfl ?_
  intro h6 W7
  have K8 : Keep h h6 [a] := K2.wr W7 (Or.inl (List.mem_of_getElem? (i := 0) rfl))
  have f9 := (pf0.ext E1).same W7
  refine GoS.aloadN (pc' := 18) d12_17 rfl rfl rfl ?_
  refine GoS.ldcAgain (pc' := 20) (a := sa1) (ww hw 132 rfl) (List.mem_of_getElem? (i := 0) rfl) d12_18 rfl ?_
  refine GoS.getfield (pc' := 23) (host := "") (Or.inl (ww hw 28 rfl)) Via.refl (F1_1.other W7 (Or.inl ne5)) d12_20 rfl ?_
  have f10 : Fld Z h6 a "java/lang/String" "coder" "B" (.int (0 : Int32)) := ((pf1.ext E1).other W7 (Or.inr (slot_ne (Or.inr (ww hw 9 rfl)) (Or.inr (ww hw 8 rfl)) (by decide) (t := .byte) (t' := (.array .byte)) (by decide) (by decide))))
  refine GoS.putfieldN (pc' := 26) (ww hw 28 rfl) Via.refl f10 ((xa.ext E1).wr W7) (Or.inr ⟨(ww hw 9 rfl), rfl, rfl⟩) (ww hw 6 rfl) (ty := .byte) (v' := (0 : Int32)) (by decide) (by first | rfl | decide) (by first | rfl | decide | exact fits_nar_byte _) ge_a d12_23 rfl ?_
  intro h11 W12
  have K13 : Keep h h11 [a] := K8.wr W12 (Or.inl (List.mem_of_getElem? (i := 0) rfl))
  have f14 := f10.same W12
  have f15 : Fld Z h11 a "java/lang/String" "value" "[B" (.ref sb1) := (f9.other W12 (Or.inr (slot_ne (Or.inr (ww hw 8 rfl)) (Or.inr (ww hw 9 rfl)) (by decide) (t := (.array .byte)) (t' := .byte) (by decide) (by decide))))
  have ne16 : sb1 ≠ a := ne_exa ((F1_4.wr W7).wr W12) (((xa.ext E1).wr W7).wr W12) (by decide)
  have f17 : Hel Z h11 sa1 sb1 ("") := ((H4.other W7 ne5 ne16).other W12 ne5 ne16)
  exact GoS.retV rfl d12_26 ⟨sa1, sb1, kb1, rfl, K13, f15, f14, ((F1_3.other W7 ne16).other W12 ne16), ((F1_4.wr W7).wr W12), f17, rfl⟩ (by decide) (by decide)
theorem c_str0Init (l : Launch) (Z : State) (a0 : Array Value) (hw : ∀ d ∈ tables_1, d.before a0 Z = true) {n0 : Nat} (h : Heap) (a : Addr) (t : Addr) (kt : ClassId) (tt : String) (tw : Addr) (tb : Addr) (to : String) (ti : Nat) (hcw : Jvm.Lit.compactW.before a0 Z = true) (hch7 : Jvm.Lit.constHeld Z "java/lang/String" 7) (ge_a : n0 ≤ a) (xa : Exa Z h a "java/lang/String") (pf0 : Fld Z h a "java/lang/String" "value" "[B" .null) (pf1 : Fld Z h a "java/lang/String" "coder" "B" (.int (0 : Int32))) (vt : Arv Z h t kt .char (0 : Int32) [] (.int 0)) (HT : Hel Z h tw tb tt) :
    ConS l (⟨"java/lang/String", "<init>", "([C)V"⟩ : MethodName) jdk_42_method_3_code 2 none ({ frames := 2, cells := 2, slots := 4, locals := 29 } : Room) Z n0 #[(.ref a), (.ref t)] h [(tt, tw, to, ti)] (fun v h' LL' => ∃ sa : Addr, ∃ sb : Addr, ∃ ks : ClassId, v = none ∧ Keep h h' [a] ∧ Fld Z h' a "java/lang/String" "value" "[B" (.ref sb) ∧ Fld Z h' a "java/lang/String" "coder" "B" (.int (0 : Int32)) ∧ Arv Z h' sb ks .byte (0 : Int32) [] (.int 0) ∧ Exa Z h' sb "[B" ∧ Hel Z h' sa sb ("") ∧ LL' = [("", sa, "java/lang/String", 7), (tt, tw, to, ti)]) := by
  refine ConS.of_go (plainFor_of_name pn_0) (Ls := #[.val (.ref a), .val (.ref t)]) (fun m => by first | (simp [entryFrame, mkF, argsToLocals, Value.category]; done) | rfl) ?_
  refine GoS.aloadN (pc' := 1) d11_0 rfl rfl rfl ?_
  refine GoS.aloadN (pc' := 2) d11_1 rfl rfl rfl ?_
  refine GoS.iconst (pc' := 3) (v := (0 : Int32)) d11_2 rfl rfl ?_
  refine GoS.aloadN (pc' := 4) d11_3 rfl rfl rfl ?_
  refine GoS.arraylength (pc' := 5) vt d11_4 rfl ?_
  refine GoS.aconstNull (pc' := 6) d11_5 rfl ?_
  refine GoS.callC (cells' := 2) (slots' := 4) (pc' := 9) [(.ref t), (.int (0 : Int32)), (.int (0 : Int32)), .null] [] (a := a) rfl rfl (ww hw 59 rfl) (ww hw 60 rfl) (ww hw 5 rfl) (ww hw 62 rfl) (by decide) (c_str0Init4 l Z a0 hw h a t kt tt tw tb to ti hcw hch7 ge_a xa pf0 pf1 vt HT) pd_10 rfl rfl rfl rfl rfl (nl rfl) (nl rfl) (nl rfl) (nl rfl) d11_6 rfl ?_
  rintro _ h1 _ ⟨sa_1, sb_1, ks_1, rfl, K1, F1_0, F1_1, F1_2, F1_3, F1_4, rfl⟩
  have K2 : Keep h h1 [a] := (Keep.refl h [a]).trans K1 (allS (Or.inl (List.mem_of_getElem? (i := 0) rfl)) all0)
  show GoS _ _ _ _ _ _ _ _ _ _ _ _ _ _ 9 #[.val (.ref a), .val (.ref t)] []
  exact GoS.retV rfl d11_9 ⟨sa_1, sb_1, ks_1, rfl, K2, F1_0, F1_1, F1_2, F1_3, F1_4, rfl⟩ (by decide) (by decide)
def KS (Z : State) (wV : Addr) (kV : ClassId) (w0 : Addr) (s0 : Addr) (t0 : Addr) (kt0 : ClassId) (w1 : Addr) (s1 : Addr) (t1 : Addr) (kt1 : ClassId) (w2 : Addr) (s2 : Addr) (t2 : Addr) (kt2 : ClassId) (w3 : Addr) (s3 : Addr) (t3 : Addr) (kt3 : ClassId) : Prop := Sta Z Z.heap "com/example/huron/huron/io/config/AuthenticatorKind" "$VALUES" "[Lcom/example/huron/huron/io/config/AuthenticatorKind;" (.ref wV) ∧ Arv Z Z.heap wV kV (.object "com/example/huron/huron/io/config/AuthenticatorKind") (4 : Int32) [(.ref w0), (.ref w1), (.ref w2), (.ref w3)] .null ∧ Exa Z Z.heap wV "[Lcom/example/huron/huron/io/config/AuthenticatorKind;" ∧ Sta Z Z.heap "com/example/huron/huron/io/config/AuthenticatorKind" "LOCAL" "Lcom/example/huron/huron/io/config/AuthenticatorKind;" (.ref w0) ∧ Exa Z Z.heap w0 "com/example/huron/huron/io/config/AuthenticatorKind" ∧ Fld Z Z.heap w0 "com/example/huron/huron/io/config/AuthenticatorKind" "word" "Ljava/lang/String;" (.ref s0) ∧ Exa Z Z.heap s0 "java/lang/String" ∧ Fld Z Z.heap s0 "java/lang/String" "coder" "B" (.int (0 : Int32)) ∧ Fld Z Z.heap s0 "java/lang/String" "value" "[B" (.ref t0) ∧ Arv Z Z.heap t0 kt0 .byte (5 : Int32) [(.int (108 : Int32)), (.int (111 : Int32)), (.int (99 : Int32)), (.int (97 : Int32)), (.int (108 : Int32))] (.int 0) ∧ Sta Z Z.heap "com/example/huron/huron/io/config/AuthenticatorKind" "LDAP" "Lcom/example/huron/huron/io/config/AuthenticatorKind;" (.ref w1) ∧ Exa Z Z.heap w1 "com/example/huron/huron/io/config/AuthenticatorKind" ∧ Fld Z Z.heap w1 "com/example/huron/huron/io/config/AuthenticatorKind" "word" "Ljava/lang/String;" (.ref s1) ∧ Exa Z Z.heap s1 "java/lang/String" ∧ Fld Z Z.heap s1 "java/lang/String" "coder" "B" (.int (0 : Int32)) ∧ Fld Z Z.heap s1 "java/lang/String" "value" "[B" (.ref t1) ∧ Arv Z Z.heap t1 kt1 .byte (4 : Int32) [(.int (108 : Int32)), (.int (100 : Int32)), (.int (97 : Int32)), (.int (112 : Int32))] (.int 0) ∧ Sta Z Z.heap "com/example/huron/huron/io/config/AuthenticatorKind" "OIDC" "Lcom/example/huron/huron/io/config/AuthenticatorKind;" (.ref w2) ∧ Exa Z Z.heap w2 "com/example/huron/huron/io/config/AuthenticatorKind" ∧ Fld Z Z.heap w2 "com/example/huron/huron/io/config/AuthenticatorKind" "word" "Ljava/lang/String;" (.ref s2) ∧ Exa Z Z.heap s2 "java/lang/String" ∧ Fld Z Z.heap s2 "java/lang/String" "coder" "B" (.int (0 : Int32)) ∧ Fld Z Z.heap s2 "java/lang/String" "value" "[B" (.ref t2) ∧ Arv Z Z.heap t2 kt2 .byte (4 : Int32) [(.int (111 : Int32)), (.int (105 : Int32)), (.int (100 : Int32)), (.int (99 : Int32))] (.int 0) ∧ Sta Z Z.heap "com/example/huron/huron/io/config/AuthenticatorKind" "SAML" "Lcom/example/huron/huron/io/config/AuthenticatorKind;" (.ref w3) ∧ Exa Z Z.heap w3 "com/example/huron/huron/io/config/AuthenticatorKind" ∧ Fld Z Z.heap w3 "com/example/huron/huron/io/config/AuthenticatorKind" "word" "Ljava/lang/String;" (.ref s3) ∧ Exa Z Z.heap s3 "java/lang/String" ∧ Fld Z Z.heap s3 "java/lang/String" "coder" "B" (.int (0 : Int32)) ∧ Fld Z Z.heap s3 "java/lang/String" "value" "[B" (.ref t3) ∧ Arv Z Z.heap t3 kt3 .byte (4 : Int32) [(.int (115 : Int32)), (.int (97 : Int32)), (.int (109 : Int32)), (.int (108 : Int32))] (.int 0)
theorem d19_0 : decode jdk_43_method_13_code 0 = .ok (.aload_n 0, 1) := by decide +kernel
theorem d19_1 : decode jdk_43_method_13_code 1 = .ok (.arraylength, 1) := by decide +kernel
theorem d19_2 : decode jdk_43_method_13_code 2 = .ok (.aload_n 1, 1) := by decide +kernel
theorem d19_3 : decode jdk_43_method_13_code 3 = .ok (.arraylength, 1) := by decide +kernel
theorem d19_4 : decode jdk_43_method_13_code 4 = .ok (.if_icmp .ne 30, 3) := by decide +kernel
theorem d19_7 : decode jdk_43_method_13_code 7 = .ok (.iconst 0, 1) := by decide +kernel
theorem d19_8 : decode jdk_43_method_13_code 8 = .ok (.istore_n 2, 1) := by decide +kernel
theorem d19_9 : decode jdk_43_method_13_code 9 = .ok (.iload_n 2, 1) := by decide +kernel
theorem d19_10 : decode jdk_43_method_13_code 10 = .ok (.aload_n 0, 1) := by decide +kernel
theorem d19_11 : decode jdk_43_method_13_code 11 = .ok (.arraylength, 1) := by decide +kernel
theorem d19_12 : decode jdk_43_method_13_code 12 = .ok (.if_icmp .ge 20, 3) := by decide +kernel
theorem d19_15 : decode jdk_43_method_13_code 15 = .ok (.aload_n 0, 1) := by decide +kernel
theorem d19_16 : decode jdk_43_method_13_code 16 = .ok (.iload_n 2, 1) := by decide +kernel
theorem d19_17 : decode jdk_43_method_13_code 17 = .ok (.baload, 1) := by decide +kernel
theorem d19_18 : decode jdk_43_method_13_code 18 = .ok (.aload_n 1, 1) := by decide +kernel
theorem d19_19 : decode jdk_43_method_13_code 19 = .ok (.iload_n 2, 1) := by decide +kernel
theorem d19_20 : decode jdk_43_method_13_code 20 = .ok (.baload, 1) := by decide +kernel
theorem d19_21 : decode jdk_43_method_13_code 21 = .ok (.if_icmp .eq 5, 3) := by decide +kernel
theorem d19_24 : decode jdk_43_method_13_code 24 = .ok (.iconst 0, 1) := by decide +kernel
theorem d19_25 : decode jdk_43_method_13_code 25 = .ok (.ireturn, 1) := by decide +kernel
theorem d19_26 : decode jdk_43_method_13_code 26 = .ok (.iinc 2 1, 3) := by decide +kernel
theorem d19_29 : decode jdk_43_method_13_code 29 = .ok (.goto (-20), 3) := by decide +kernel
theorem d19_32 : decode jdk_43_method_13_code 32 = .ok (.iconst 1, 1) := by decide +kernel
theorem d19_33 : decode jdk_43_method_13_code 33 = .ok (.ireturn, 1) := by decide +kernel
theorem c_latEq4_4 (l : Launch) (Z : State) (a0 : Array Value) (hw : ∀ d ∈ tables_1, d.before a0 Z = true) {n0 : Nat} (h : Heap) (b : Addr) (kb : ClassId) (d : Addr) (kd : ClassId) (x0 : Int32) (x1 : Int32) (x2 : Int32) (x3 : Int32) (y0 : Int32) (y1 : Int32) (y2 : Int32) (y3 : Int32) (v : Arv Z h b kb .byte (4 : Int32) [(.int x0), (.int x1), (.int x2), (.int x3)] (.int 0)) (w : Arv Z h d kd .byte (4 : Int32) [(.int y0), (.int y1), (.int y2), (.int y3)] (.int 0)) :
    Con l (⟨"java/lang/StringLatin1", "equals", "([B[B)Z"⟩ : MethodName) jdk_43_method_13_code 3 (some .boolean) ({ frames := 0, cells := 0, slots := 0, locals := 0 } : Room) Z n0 #[(.ref b), (.ref d)] h (fun v h' => v = some (.int (if x0 = y0 ∧ x1 = y1 ∧ x2 = y2 ∧ x3 = y3 then (1 : Int32) else 0)) ∧ h = h') := by
  refine Con.of_go (plainFor_of_name pn_3) (Ls := #[.val (.ref b), .val (.ref d), .unset]) (fun m => by first | (simp [entryFrame, mkF, argsToLocals, Value.category]; done) | rfl) ?_
  refine Go.aloadN (pc' := 1) d19_0 rfl rfl rfl ?_
  refine Go.arraylength (pc' := 2) v d19_1 rfl ?_
  refine Go.aloadN (pc' := 3) d19_2 rfl rfl rfl ?_
  refine Go.arraylength (pc' := 4) w d19_3 rfl ?_
  refine Go.icmpNo (pc' := 7) d19_4 (XT.ii_ne_f (by decide)) rfl ?_
  refine Go.iconst (pc' := 8) (v := (0 : Int32)) d19_7 rfl rfl ?_
  refine Go.istoreN (pc' := 9) (Ls' := #[.val (.ref b), .val (.ref d), .val (.int (0 : Int32))]) d19_8 rfl rfl ?_
  refine Go.iloadN (pc' := 10) d19_9 rfl rfl ?_
  refine Go.aloadN (pc' := 11) d19_10 rfl rfl rfl ?_
  refine Go.arraylength (pc' := 12) v d19_11 rfl ?_
  refine Go.icmpNo (pc' := 15) d19_12 (XT.ii_ge_f (by decide)) rfl ?_
  refine Go.aloadN (pc' := 16) d19_15 rfl rfl rfl ?_
  refine Go.iloadN (pc' := 17) d19_16 rfl rfl ?_
  refine Go.baload (pc' := 18) (v := x0) v d19_17 (by decide) (by decide) rfl rfl ?_
  refine Go.aloadN (pc' := 19) d19_18 rfl rfl rfl ?_
  refine Go.iloadN (pc' := 20) d19_19 rfl rfl ?_
  refine Go.baload (pc' := 21) (v := y0) w d19_20 (by decide) (by decide) rfl rfl ?_
  by_cases hc1 : x0 = y0
  ·
    refine Go.icmpYes (pc' := 26) d19_21 (XT.ii_eq_t hc1) (by decide) (by decide) ?_
    refine Go.iinc (pc' := 29) (Ls' := #[.val (.ref b), .val (.ref d), .val (.int ((0 : Int32) + (1 : Int32)))]) (w := (1 : Int32)) d19_26 rfl rfl rfl rfl ?_
    show Go _ _ _ _ _ _ _ _ _ _ _ _ 29 #[.val (.ref b), .val (.ref d), .val (.int (1 : Int32))] []
    refine Go.goto (pc' := 9) d19_29 (by decide) (by decide) ?_
    refine Go.iloadN (pc' := 10) d19_9 rfl rfl ?_
    refine Go.aloadN (pc' := 11) d19_10 rfl rfl rfl ?_
    refine Go.arraylength (pc' := 12) v d19_11 rfl ?_
    refine Go.icmpNo (pc' := 15) d19_12 (XT.ii_ge_f (by decide)) rfl ?_
    refine Go.aloadN (pc' := 16) d19_15 rfl rfl rfl ?_
    refine Go.iloadN (pc' := 17) d19_16 rfl rfl ?_
    refine Go.baload (pc' := 18) (v := x1) v d19_17 (by decide) (by decide) rfl rfl ?_
    refine Go.aloadN (pc' := 19) d19_18 rfl rfl rfl ?_
    refine Go.iloadN (pc' := 20) d19_19 rfl rfl ?_
    refine Go.baload (pc' := 21) (v := y1) w d19_20 (by decide) (by decide) rfl rfl ?_
    by_cases hc2 : x1 = y1
    ·
      refine Go.icmpYes (pc' := 26) d19_21 (XT.ii_eq_t hc2) (by decide) (by decide) ?_
      refine Go.iinc (pc' := 29) (Ls' := #[.val (.ref b), .val (.ref d), .val (.int ((1 : Int32) + (1 : Int32)))]) (w := (1 : Int32)) d19_26 rfl rfl rfl rfl ?_
      show Go _ _ _ _ _ _ _ _ _ _ _ _ 29 #[.val (.ref b), .val (.ref d), .val (.int (2 : Int32))] []
      refine Go.goto (pc' := 9) d19_29 (by decide) (by decide) ?_
      refine Go.iloadN (pc' := 10) d19_9 rfl rfl ?_
      refine Go.aloadN (pc' := 11) d19_10 rfl rfl rfl ?_
      refine Go.arraylength (pc' := 12) v d19_11 rfl ?_
      refine Go.icmpNo (pc' := 15) d19_12 (XT.ii_ge_f (by decide)) rfl ?_
      refine Go.aloadN (pc' := 16) d19_15 rfl rfl rfl ?_
      refine Go.iloadN (pc' := 17) d19_16 rfl rfl ?_
      refine Go.baload (pc' := 18) (v := x2) v d19_17 (by decide) (by decide) rfl rfl ?_
      refine Go.aloadN (pc' := 19) d19_18 rfl rfl rfl ?_
      refine Go.iloadN (pc' := 20) d19_19 rfl rfl ?_
      refine Go.baload (pc' := 21) (v := y2) w d19_20 (by decide) (by decide) rfl rfl ?_
      by_cases hc3 : x2 = y2
      ·
        refine Go.icmpYes (pc' := 26) d19_21 (XT.ii_eq_t hc3) (by decide) (by decide) ?_
        refine Go.iinc (pc' := 29) (Ls' := #[.val (.ref b), .val (.ref d), .val (.int ((2 : Int32) + (1 : Int32)))]) (w := (1 : Int32)) d19_26 rfl rfl rfl rfl ?_
        show Go _ _ _ _ _ _ _ _ _ _ _ _ 29 #[.val (.ref b), .val (.ref d), .val (.int (3 : Int32))] []
        refine Go.goto (pc' := 9) d19_29 (by decide) (by decide) ?_
        refine Go.iloadN (pc' := 10) d19_9 rfl rfl ?_
        refine Go.aloadN (pc' := 11) d19_10 rfl rfl rfl ?_
        refine Go.arraylength (pc' := 12) v d19_11 rfl ?_
        refine Go.icmpNo (pc' := 15) d19_12 (XT.ii_ge_f (by decide)) rfl ?_
        refine Go.aloadN (pc' := 16) d19_15 rfl rfl rfl ?_
        refine Go.iloadN (pc' := 17) d19_16 rfl rfl ?_
        refine Go.baload (pc' := 18) (v := x3) v d19_17 (by decide) (by decide) rfl rfl ?_
        refine Go.aloadN (pc' := 19) d19_18 rfl rfl rfl ?_
        refine Go.iloadN (pc' := 20) d19_19 rfl rfl ?_
        refine Go.baload (pc' := 21) (v := y3) w d19_20 (by decide) (by decide) rfl rfl ?_
        by_cases hc4 : x3 = y3
        ·
          refine Go.icmpYes (pc' := 26) d19_21 (XT.ii_eq_t hc4) (by decide) (by decide) ?_
          refine Go.iinc (pc' := 29) (Ls' := #[.val (.ref b), .val (.ref d), .val (.int ((3 : Int32) + (1 : Int32)))]) (w := (1 : Int32)) d19_26 rfl rfl rfl rfl ?_
          show Go _ _ _ _ _ _ _ _ _ _ _ _ 29 #[.val (.ref b), .val (.ref d), .val (.int (4 : Int32))] []
          refine Go.goto (pc' := 9) d19_29 (by decide) (by decide) ?_
          refine Go.iloadN (pc' := 10) d19_9 rfl rfl ?_
          refine Go.aloadN (pc' := 11) d19_10 rfl rfl rfl ?_
          refine Go.arraylength (pc' := 12) v d19_11 rfl ?_
          refine Go.icmpYes (pc' := 32) d19_12 (XT.ii_ge_t (by decide)) (by decide) (by decide) ?_
          refine Go.iconst (pc' := 33) (v := (1 : Int32)) d19_32 rfl rfl ?_
          exact Go.retN (t := .boolean) rfl (by simp) d19_33 ⟨(by rw [if_pos ⟨hc1, hc2, hc3, hc4⟩]; rfl), rfl⟩ (by decide) (by decide)
        ·
          refine Go.icmpNo (pc' := 24) d19_21 (XT.ii_eq_f hc4) rfl ?_
          refine Go.iconst (pc' := 25) (v := (0 : Int32)) d19_24 rfl rfl ?_
          exact Go.retN (t := .boolean) rfl (by simp) d19_25 ⟨(by rw [if_neg (fun z => hc4 z.2.2.2)]; rfl), rfl⟩ (by decide) (by decide)
      ·
        refine Go.icmpNo (pc' := 24) d19_21 (XT.ii_eq_f hc3) rfl ?_
        refine Go.iconst (pc' := 25) (v := (0 : Int32)) d19_24 rfl rfl ?_
        exact Go.retN (t := .boolean) rfl (by simp) d19_25 ⟨(by rw [if_neg (fun z => hc3 z.2.2.1)]; rfl), rfl⟩ (by decide) (by decide)
    ·
      refine Go.icmpNo (pc' := 24) d19_21 (XT.ii_eq_f hc2) rfl ?_
      refine Go.iconst (pc' := 25) (v := (0 : Int32)) d19_24 rfl rfl ?_
      exact Go.retN (t := .boolean) rfl (by simp) d19_25 ⟨(by rw [if_neg (fun z => hc2 z.2.1)]; rfl), rfl⟩ (by decide) (by decide)
  ·
    refine Go.icmpNo (pc' := 24) d19_21 (XT.ii_eq_f hc1) rfl ?_
    refine Go.iconst (pc' := 25) (v := (0 : Int32)) d19_24 rfl rfl ?_
    exact Go.retN (t := .boolean) rfl (by simp) d19_25 ⟨(by rw [if_neg (fun z => hc1 z.1)]; rfl), rfl⟩ (by decide) (by decide)
theorem d18_0 : decode jdk_42_method_66_code 0 = .ok (.aload_n 0, 1) := by decide +kernel
theorem d18_1 : decode jdk_42_method_66_code 1 = .ok (.aload_n 1, 1) := by decide +kernel
theorem d18_2 : decode jdk_42_method_66_code 2 = .ok (.if_acmp .ne 5, 3) := by decide +kernel
theorem d18_5 : decode jdk_42_method_66_code 5 = .ok (.iconst 1, 1) := by decide +kernel
theorem d18_6 : decode jdk_42_method_66_code 6 = .ok (.ireturn, 1) := by decide +kernel
theorem d18_7 : decode jdk_42_method_66_code 7 = .ok (.aload_n 1, 1) := by decide +kernel
theorem d18_8 : decode jdk_42_method_66_code 8 = .ok (.instanceof 10, 3) := by decide +kernel
theorem d18_11 : decode jdk_42_method_66_code 11 = .ok (.ifCond .eq 43, 3) := by decide +kernel
theorem d18_14 : decode jdk_42_method_66_code 14 = .ok (.aload_n 1, 1) := by decide +kernel
theorem d18_15 : decode jdk_42_method_66_code 15 = .ok (.checkcast 10, 3) := by decide +kernel
theorem d18_18 : decode jdk_42_method_66_code 18 = .ok (.astore_n 2, 1) := by decide +kernel
theorem d18_19 : decode jdk_42_method_66_code 19 = .ok (.getstatic 38, 3) := by decide +kernel
theorem d18_22 : decode jdk_42_method_66_code 22 = .ok (.ifCond .eq 14, 3) := by decide +kernel
theorem d18_25 : decode jdk_42_method_66_code 25 = .ok (.aload_n 0, 1) := by decide +kernel
theorem d18_26 : decode jdk_42_method_66_code 26 = .ok (.getfield 15, 3) := by decide +kernel
theorem d18_29 : decode jdk_42_method_66_code 29 = .ok (.aload_n 2, 1) := by decide +kernel
theorem d18_30 : decode jdk_42_method_66_code 30 = .ok (.getfield 15, 3) := by decide +kernel
theorem d18_33 : decode jdk_42_method_66_code 33 = .ok (.if_icmp .ne 21, 3) := by decide +kernel
theorem d18_36 : decode jdk_42_method_66_code 36 = .ok (.aload_n 0, 1) := by decide +kernel
theorem d18_37 : decode jdk_42_method_66_code 37 = .ok (.getfield 9, 3) := by decide +kernel
theorem d18_40 : decode jdk_42_method_66_code 40 = .ok (.aload_n 2, 1) := by decide +kernel
theorem d18_41 : decode jdk_42_method_66_code 41 = .ok (.getfield 9, 3) := by decide +kernel
theorem d18_44 : decode jdk_42_method_66_code 44 = .ok (.invokestatic 541, 3) := by decide +kernel
theorem d18_47 : decode jdk_42_method_66_code 47 = .ok (.ifCond .eq 7, 3) := by decide +kernel
theorem d18_50 : decode jdk_42_method_66_code 50 = .ok (.iconst 1, 1) := by decide +kernel
theorem d18_51 : decode jdk_42_method_66_code 51 = .ok (.goto 4, 3) := by decide +kernel
theorem d18_54 : decode jdk_42_method_66_code 54 = .ok (.iconst 0, 1) := by decide +kernel
theorem d18_55 : decode jdk_42_method_66_code 55 = .ok (.ireturn, 1) := by decide +kernel
theorem pd_11 : parseMethodDescriptor "([B[B)Z" = some ⟨[(.array .byte), (.array .byte)], some .boolean⟩ := by decide +kernel
theorem c_strEq4_4 (l : Launch) (Z : State) (a0 : Array Value) (hw : ∀ d ∈ tables_1, d.before a0 Z = true) {n0 : Nat} (h : Heap) (a : Addr) (b : Addr) (kb : ClassId) (c : Addr) (d : Addr) (kd : ClassId) (x0 : Int32) (x1 : Int32) (x2 : Int32) (x3 : Int32) (y0 : Int32) (y1 : Int32) (y2 : Int32) (y3 : Int32) (cp : Int32) (hcp : ¬ (cp = (0 : Int32))) (scp : Sta Z Z.heap "java/lang/String" "COMPACT_STRINGS" "Z" (.int cp)) (xa : Exa Z h a "java/lang/String") (fa : Fld Z h a "java/lang/String" "coder" "B" (.int (0 : Int32))) (ga : Fld Z h a "java/lang/String" "value" "[B" (.ref b)) (v : Arv Z h b kb .byte (4 : Int32) [(.int x0), (.int x1), (.int x2), (.int x3)] (.int 0)) (xc : Exa Z h c "java/lang/String") (fc : Fld Z h c "java/lang/String" "coder" "B" (.int (0 : Int32))) (gc : Fld Z h c "java/lang/String" "value" "[B" (.ref d)) (w : Arv Z h d kd .byte (4 : Int32) [(.int y0), (.int y1), (.int y2), (.int y3)] (.int 0)) :
    Con l (⟨"java/lang/String", "equals", "(Ljava/lang/Object;)Z"⟩ : MethodName) jdk_42_method_66_code 3 (some .boolean) ({ frames := 1, cells := 0, slots := 0, locals := 14 } : Room) Z n0 #[(.ref a), (.ref c)] h (fun v h' => v = some (.int (if x0 = y0 ∧ x1 = y1 ∧ x2 = y2 ∧ x3 = y3 then (1 : Int32) else 0)) ∧ h = h') := by
  refine Con.of_go (plainFor_of_name pn_0) (Ls := #[.val (.ref a), .val (.ref c), .unset]) (fun m => by first | (simp [entryFrame, mkF, argsToLocals, Value.category]; done) | rfl) ?_
  refine Go.aloadN (pc' := 1) d18_0 rfl rfl rfl ?_
  refine Go.aloadN (pc' := 2) d18_1 rfl rfl rfl ?_
  by_cases hs1 : a = c
  ·
    refine Go.acmpNo (pc' := 5) d18_2 rfl rfl (XT.aa_ne_f (congrArg Value.ref hs1)) rfl ?_
    refine Go.iconst (pc' := 6) (v := (1 : Int32)) d18_5 rfl rfl ?_
    exact Go.retN (t := .boolean) rfl (by simp) d18_6 ⟨(by rw [if_pos ⟨Value.int.inj ((own_same hs1 ga gc v w).2 0 (by decide)), Value.int.inj ((own_same hs1 ga gc v w).2 1 (by decide)), Value.int.inj ((own_same hs1 ga gc v w).2 2 (by decide)), Value.int.inj ((own_same hs1 ga gc v w).2 3 (by decide))⟩]; rfl), rfl⟩ (by decide) (by decide)
  ·
    refine Go.acmpYes (pc' := 7) d18_2 rfl rfl (XT.aa_ne_t (fun q => hs1 (Value.ref.inj q))) (by decide) (by decide) ?_
    refine Go.aloadN (pc' := 8) d18_7 rfl rfl rfl ?_
    refine Go.instY (pc' := 11) (ww hw 84 rfl) (Ins.self xc) d18_8 rfl ?_
    refine Go.ifNo (pc' := 14) d18_11 (XT.i0_eq_f (by decide)) rfl ?_
    refine Go.aloadN (pc' := 15) d18_14 rfl rfl rfl ?_
    refine Go.castY (pc' := 18) (ww hw 84 rfl) (Ins.self xc) d18_15 rfl ?_
    refine Go.astoreN (pc' := 19) (Ls' := #[.val (.ref a), .val (.ref c), .val (.ref c)]) d18_18 rfl rfl rfl ?_
    refine Go.old (fun old2 => ?_)
    refine Go.getstatic (pc' := 22) (host := "") (Or.inl (ww hw 27 rfl)) Via.refl (scp.ext old2.2) d18_19 rfl ?_
    refine Go.ifNo (pc' := 25) d18_22 (XT.i0_eq_f hcp) rfl ?_
    refine Go.aloadN (pc' := 26) d18_25 rfl rfl rfl ?_
    refine Go.getfield (pc' := 29) (host := "") (Or.inl (ww hw 28 rfl)) Via.refl fa d18_26 rfl ?_
    refine Go.aloadN (pc' := 30) d18_29 rfl rfl rfl ?_
    refine Go.getfield (pc' := 33) (host := "") (Or.inl (ww hw 28 rfl)) Via.refl fc d18_30 rfl ?_
    refine Go.icmpNo (pc' := 36) d18_33 (XT.ii_ne_f (by decide)) rfl ?_
    refine Go.aloadN (pc' := 37) d18_36 rfl rfl rfl ?_
    refine Go.getfield (pc' := 40) (host := "") (Or.inl (ww hw 21 rfl)) Via.refl ga d18_37 rfl ?_
    refine Go.aloadN (pc' := 41) d18_40 rfl rfl rfl ?_
    refine Go.getfield (pc' := 44) (host := "") (Or.inl (ww hw 21 rfl)) Via.refl gc d18_41 rfl ?_
    refine Go.callS (cells' := 0) (slots' := 0) (pc' := 47) [(.ref b), (.ref d)] [] (ww hw 85 rfl) (ww hw 86 rfl) (ww hw 41 rfl) (ww hw 87 rfl) (by decide) (c_latEq4_4 l Z a0 hw h b kb d kd x0 x1 x2 x3 y0 y1 y2 y3 v w) pd_11 rfl rfl rfl rfl rfl (nl rfl) (nl rfl) (nl rfl) (nl rfl) d18_44 rfl ?_
    rintro _ _ ⟨rfl, rfl⟩
    show Go _ _ _ _ _ _ _ _ _ _ _ _ 47 #[.val (.ref a), .val (.ref c), .val (.ref c)] [(.int (if x0 = y0 ∧ x1 = y1 ∧ x2 = y2 ∧ x3 = y3 then (1 : Int32) else 0))]
    by_cases hc4 : (if x0 = y0 ∧ x1 = y1 ∧ x2 = y2 ∧ x3 = y3 then (1 : Int32) else 0) = (0 : Int32)
    ·
      refine Go.ifYes (pc' := 54) d18_47 (XT.i0_eq_t hc4) (by decide) (by decide) ?_
      refine Go.iconst (pc' := 55) (v := (0 : Int32)) d18_54 rfl rfl ?_
      exact Go.retN (t := .boolean) rfl (by simp) d18_55 ⟨own_ite0 hc4, rfl⟩ (by decide) (by decide)
    ·
      refine Go.ifNo (pc' := 50) d18_47 (XT.i0_eq_f hc4) rfl ?_
      refine Go.iconst (pc' := 51) (v := (1 : Int32)) d18_50 rfl rfl ?_
      refine Go.goto (pc' := 55) d18_51 (by decide) (by decide) ?_
      exact Go.retN (t := .boolean) rfl (by simp) d18_55 ⟨own_ite1 hc4, rfl⟩ (by decide) (by decide)
theorem c_latEq5_5 (l : Launch) (Z : State) (a0 : Array Value) (hw : ∀ d ∈ tables_1, d.before a0 Z = true) {n0 : Nat} (h : Heap) (b : Addr) (kb : ClassId) (d : Addr) (kd : ClassId) (x0 : Int32) (x1 : Int32) (x2 : Int32) (x3 : Int32) (x4 : Int32) (y0 : Int32) (y1 : Int32) (y2 : Int32) (y3 : Int32) (y4 : Int32) (v : Arv Z h b kb .byte (5 : Int32) [(.int x0), (.int x1), (.int x2), (.int x3), (.int x4)] (.int 0)) (w : Arv Z h d kd .byte (5 : Int32) [(.int y0), (.int y1), (.int y2), (.int y3), (.int y4)] (.int 0)) :
    Con l (⟨"java/lang/StringLatin1", "equals", "([B[B)Z"⟩ : MethodName) jdk_43_method_13_code 3 (some .boolean) ({ frames := 0, cells := 0, slots := 0, locals := 0 } : Room) Z n0 #[(.ref b), (.ref d)] h (fun v h' => v = some (.int (if x0 = y0 ∧ x1 = y1 ∧ x2 = y2 ∧ x3 = y3 ∧ x4 = y4 then (1 : Int32) else 0)) ∧ h = h') := by
  refine Con.of_go (plainFor_of_name pn_3) (Ls := #[.val (.ref b), .val (.ref d), .unset]) (fun m => by first | (simp [entryFrame, mkF, argsToLocals, Value.category]; done) | rfl) ?_
  refine Go.aloadN (pc' := 1) d19_0 rfl rfl rfl ?_
  refine Go.arraylength (pc' := 2) v d19_1 rfl ?_
  refine Go.aloadN (pc' := 3) d19_2 rfl rfl rfl ?_
  refine Go.arraylength (pc' := 4) w d19_3 rfl ?_
  refine Go.icmpNo (pc' := 7) d19_4 (XT.ii_ne_f (by decide)) rfl ?_
  refine Go.iconst (pc' := 8) (v := (0 : Int32)) d19_7 rfl rfl ?_
  refine Go.istoreN (pc' := 9) (Ls' := #[.val (.ref b), .val (.ref d), .val (.int (0 : Int32))]) d19_8 rfl rfl ?_
  refine Go.iloadN (pc' := 10) d19_9 rfl rfl ?_
  refine Go.aloadN (pc' := 11) d19_10 rfl rfl rfl ?_
  refine Go.arraylength (pc' := 12) v d19_11 rfl ?_
  refine Go.icmpNo (pc' := 15) d19_12 (XT.ii_ge_f (by decide)) rfl ?_
  refine Go.aloadN (pc' := 16) d19_15 rfl rfl rfl ?_
  refine Go.iloadN (pc' := 17) d19_16 rfl rfl ?_
  refine Go.baload (pc' := 18) (v := x0) v d19_17 (by decide) (by decide) rfl rfl ?_
  refine Go.aloadN (pc' := 19) d19_18 rfl rfl rfl ?_
  refine Go.iloadN (pc' := 20) d19_19 rfl rfl ?_
  refine Go.baload (pc' := 21) (v := y0) w d19_20 (by decide) (by decide) rfl rfl ?_
  by_cases hc1 : x0 = y0
  ·
    refine Go.icmpYes (pc' := 26) d19_21 (XT.ii_eq_t hc1) (by decide) (by decide) ?_
    refine Go.iinc (pc' := 29) (Ls' := #[.val (.ref b), .val (.ref d), .val (.int ((0 : Int32) + (1 : Int32)))]) (w := (1 : Int32)) d19_26 rfl rfl rfl rfl ?_
    show Go _ _ _ _ _ _ _ _ _ _ _ _ 29 #[.val (.ref b), .val (.ref d), .val (.int (1 : Int32))] []
    refine Go.goto (pc' := 9) d19_29 (by decide) (by decide) ?_
    refine Go.iloadN (pc' := 10) d19_9 rfl rfl ?_
    refine Go.aloadN (pc' := 11) d19_10 rfl rfl rfl ?_
    refine Go.arraylength (pc' := 12) v d19_11 rfl ?_
    refine Go.icmpNo (pc' := 15) d19_12 (XT.ii_ge_f (by decide)) rfl ?_
    refine Go.aloadN (pc' := 16) d19_15 rfl rfl rfl ?_
    refine Go.iloadN (pc' := 17) d19_16 rfl rfl ?_
    refine Go.baload (pc' := 18) (v := x1) v d19_17 (by decide) (by decide) rfl rfl ?_
    refine Go.aloadN (pc' := 19) d19_18 rfl rfl rfl ?_
    refine Go.iloadN (pc' := 20) d19_19 rfl rfl ?_
    refine Go.baload (pc' := 21) (v := y1) w d19_20 (by decide) (by decide) rfl rfl ?_
    by_cases hc2 : x1 = y1
    ·
      refine Go.icmpYes (pc' := 26) d19_21 (XT.ii_eq_t hc2) (by decide) (by decide) ?_
      refine Go.iinc (pc' := 29) (Ls' := #[.val (.ref b), .val (.ref d), .val (.int ((1 : Int32) + (1 : Int32)))]) (w := (1 : Int32)) d19_26 rfl rfl rfl rfl ?_
      show Go _ _ _ _ _ _ _ _ _ _ _ _ 29 #[.val (.ref b), .val (.ref d), .val (.int (2 : Int32))] []
      refine Go.goto (pc' := 9) d19_29 (by decide) (by decide) ?_
      refine Go.iloadN (pc' := 10) d19_9 rfl rfl ?_
      refine Go.aloadN (pc' := 11) d19_10 rfl rfl rfl ?_
      refine Go.arraylength (pc' := 12) v d19_11 rfl ?_
      refine Go.icmpNo (pc' := 15) d19_12 (XT.ii_ge_f (by decide)) rfl ?_
      refine Go.aloadN (pc' := 16) d19_15 rfl rfl rfl ?_
      refine Go.iloadN (pc' := 17) d19_16 rfl rfl ?_
      refine Go.baload (pc' := 18) (v := x2) v d19_17 (by decide) (by decide) rfl rfl ?_
      refine Go.aloadN (pc' := 19) d19_18 rfl rfl rfl ?_
      refine Go.iloadN (pc' := 20) d19_19 rfl rfl ?_
      refine Go.baload (pc' := 21) (v := y2) w d19_20 (by decide) (by decide) rfl rfl ?_
      by_cases hc3 : x2 = y2
      ·
        refine Go.icmpYes (pc' := 26) d19_21 (XT.ii_eq_t hc3) (by decide) (by decide) ?_
        refine Go.iinc (pc' := 29) (Ls' := #[.val (.ref b), .val (.ref d), .val (.int ((2 : Int32) + (1 : Int32)))]) (w := (1 : Int32)) d19_26 rfl rfl rfl rfl ?_
        show Go _ _ _ _ _ _ _ _ _ _ _ _ 29 #[.val (.ref b), .val (.ref d), .val (.int (3 : Int32))] []
        refine Go.goto (pc' := 9) d19_29 (by decide) (by decide) ?_
        refine Go.iloadN (pc' := 10) d19_9 rfl rfl ?_
        refine Go.aloadN (pc' := 11) d19_10 rfl rfl rfl ?_
        refine Go.arraylength (pc' := 12) v d19_11 rfl ?_
        refine Go.icmpNo (pc' := 15) d19_12 (XT.ii_ge_f (by decide)) rfl ?_
        refine Go.aloadN (pc' := 16) d19_15 rfl rfl rfl ?_
        refine Go.iloadN (pc' := 17) d19_16 rfl rfl ?_
        refine Go.baload (pc' := 18) (v := x3) v d19_17 (by decide) (by decide) rfl rfl ?_
        refine Go.aloadN (pc' := 19) d19_18 rfl rfl rfl ?_
        refine Go.iloadN (pc' := 20) d19_19 rfl rfl ?_
        refine Go.baload (pc' := 21) (v := y3) w d19_20 (by decide) (by decide) rfl rfl ?_
        by_cases hc4 : x3 = y3
        ·
          refine Go.icmpYes (pc' := 26) d19_21 (XT.ii_eq_t hc4) (by decide) (by decide) ?_
          refine Go.iinc (pc' := 29) (Ls' := #[.val (.ref b), .val (.ref d), .val (.int ((3 : Int32) + (1 : Int32)))]) (w := (1 : Int32)) d19_26 rfl rfl rfl rfl ?_
          show Go _ _ _ _ _ _ _ _ _ _ _ _ 29 #[.val (.ref b), .val (.ref d), .val (.int (4 : Int32))] []
          refine Go.goto (pc' := 9) d19_29 (by decide) (by decide) ?_
          refine Go.iloadN (pc' := 10) d19_9 rfl rfl ?_
          refine Go.aloadN (pc' := 11) d19_10 rfl rfl rfl ?_
          refine Go.arraylength (pc' := 12) v d19_11 rfl ?_
          refine Go.icmpNo (pc' := 15) d19_12 (XT.ii_ge_f (by decide)) rfl ?_
          refine Go.aloadN (pc' := 16) d19_15 rfl rfl rfl ?_
          refine Go.iloadN (pc' := 17) d19_16 rfl rfl ?_
          refine Go.baload (pc' := 18) (v := x4) v d19_17 (by decide) (by decide) rfl rfl ?_
          refine Go.aloadN (pc' := 19) d19_18 rfl rfl rfl ?_
          refine Go.iloadN (pc' := 20) d19_19 rfl rfl ?_
          refine Go.baload (pc' := 21) (v := y4) w d19_20 (by decide) (by decide) rfl rfl ?_
          by_cases hc5 : x4 = y4
          ·
            refine Go.icmpYes (pc' := 26) d19_21 (XT.ii_eq_t hc5) (by decide) (by decide) ?_
            refine Go.iinc (pc' := 29) (Ls' := #[.val (.ref b), .val (.ref d), .val (.int ((4 : Int32) + (1 : Int32)))]) (w := (1 : Int32)) d19_26 rfl rfl rfl rfl ?_
            show Go _ _ _ _ _ _ _ _ _ _ _ _ 29 #[.val (.ref b), .val (.ref d), .val (.int (5 : Int32))] []
            refine Go.goto (pc' := 9) d19_29 (by decide) (by decide) ?_
            refine Go.iloadN (pc' := 10) d19_9 rfl rfl ?_
            refine Go.aloadN (pc' := 11) d19_10 rfl rfl rfl ?_
            refine Go.arraylength (pc' := 12) v d19_11 rfl ?_
            refine Go.icmpYes (pc' := 32) d19_12 (XT.ii_ge_t (by decide)) (by decide) (by decide) ?_
            refine Go.iconst (pc' := 33) (v := (1 : Int32)) d19_32 rfl rfl ?_
            exact Go.retN (t := .boolean) rfl (by simp) d19_33 ⟨(by rw [if_pos ⟨hc1, hc2, hc3, hc4, hc5⟩]; rfl), rfl⟩ (by decide) (by decide)
          ·
            refine Go.icmpNo (pc' := 24) d19_21 (XT.ii_eq_f hc5) rfl ?_
            refine Go.iconst (pc' := 25) (v := (0 : Int32)) d19_24 rfl rfl ?_
            exact Go.retN (t := .boolean) rfl (by simp) d19_25 ⟨(by rw [if_neg (fun z => hc5 z.2.2.2.2)]; rfl), rfl⟩ (by decide) (by decide)
        ·
          refine Go.icmpNo (pc' := 24) d19_21 (XT.ii_eq_f hc4) rfl ?_
          refine Go.iconst (pc' := 25) (v := (0 : Int32)) d19_24 rfl rfl ?_
          exact Go.retN (t := .boolean) rfl (by simp) d19_25 ⟨(by rw [if_neg (fun z => hc4 z.2.2.2.1)]; rfl), rfl⟩ (by decide) (by decide)
      ·
        refine Go.icmpNo (pc' := 24) d19_21 (XT.ii_eq_f hc3) rfl ?_
        refine Go.iconst (pc' := 25) (v := (0 : Int32)) d19_24 rfl rfl ?_
        exact Go.retN (t := .boolean) rfl (by simp) d19_25 ⟨(by rw [if_neg (fun z => hc3 z.2.2.1)]; rfl), rfl⟩ (by decide) (by decide)
    ·
      refine Go.icmpNo (pc' := 24) d19_21 (XT.ii_eq_f hc2) rfl ?_
      refine Go.iconst (pc' := 25) (v := (0 : Int32)) d19_24 rfl rfl ?_
      exact Go.retN (t := .boolean) rfl (by simp) d19_25 ⟨(by rw [if_neg (fun z => hc2 z.2.1)]; rfl), rfl⟩ (by decide) (by decide)
  ·
    refine Go.icmpNo (pc' := 24) d19_21 (XT.ii_eq_f hc1) rfl ?_
    refine Go.iconst (pc' := 25) (v := (0 : Int32)) d19_24 rfl rfl ?_
    exact Go.retN (t := .boolean) rfl (by simp) d19_25 ⟨(by rw [if_neg (fun z => hc1 z.1)]; rfl), rfl⟩ (by decide) (by decide)
theorem c_strEq5_5 (l : Launch) (Z : State) (a0 : Array Value) (hw : ∀ d ∈ tables_1, d.before a0 Z = true) {n0 : Nat} (h : Heap) (a : Addr) (b : Addr) (kb : ClassId) (c : Addr) (d : Addr) (kd : ClassId) (x0 : Int32) (x1 : Int32) (x2 : Int32) (x3 : Int32) (x4 : Int32) (y0 : Int32) (y1 : Int32) (y2 : Int32) (y3 : Int32) (y4 : Int32) (cp : Int32) (hcp : ¬ (cp = (0 : Int32))) (scp : Sta Z Z.heap "java/lang/String" "COMPACT_STRINGS" "Z" (.int cp)) (xa : Exa Z h a "java/lang/String") (fa : Fld Z h a "java/lang/String" "coder" "B" (.int (0 : Int32))) (ga : Fld Z h a "java/lang/String" "value" "[B" (.ref b)) (v : Arv Z h b kb .byte (5 : Int32) [(.int x0), (.int x1), (.int x2), (.int x3), (.int x4)] (.int 0)) (xc : Exa Z h c "java/lang/String") (fc : Fld Z h c "java/lang/String" "coder" "B" (.int (0 : Int32))) (gc : Fld Z h c "java/lang/String" "value" "[B" (.ref d)) (w : Arv Z h d kd .byte (5 : Int32) [(.int y0), (.int y1), (.int y2), (.int y3), (.int y4)] (.int 0)) :
    Con l (⟨"java/lang/String", "equals", "(Ljava/lang/Object;)Z"⟩ : MethodName) jdk_42_method_66_code 3 (some .boolean) ({ frames := 1, cells := 0, slots := 0, locals := 14 } : Room) Z n0 #[(.ref a), (.ref c)] h (fun v h' => v = some (.int (if x0 = y0 ∧ x1 = y1 ∧ x2 = y2 ∧ x3 = y3 ∧ x4 = y4 then (1 : Int32) else 0)) ∧ h = h') := by
  refine Con.of_go (plainFor_of_name pn_0) (Ls := #[.val (.ref a), .val (.ref c), .unset]) (fun m => by first | (simp [entryFrame, mkF, argsToLocals, Value.category]; done) | rfl) ?_
  refine Go.aloadN (pc' := 1) d18_0 rfl rfl rfl ?_
  refine Go.aloadN (pc' := 2) d18_1 rfl rfl rfl ?_
  by_cases hs1 : a = c
  ·
    refine Go.acmpNo (pc' := 5) d18_2 rfl rfl (XT.aa_ne_f (congrArg Value.ref hs1)) rfl ?_
    refine Go.iconst (pc' := 6) (v := (1 : Int32)) d18_5 rfl rfl ?_
    exact Go.retN (t := .boolean) rfl (by simp) d18_6 ⟨(by rw [if_pos ⟨Value.int.inj ((own_same hs1 ga gc v w).2 0 (by decide)), Value.int.inj ((own_same hs1 ga gc v w).2 1 (by decide)), Value.int.inj ((own_same hs1 ga gc v w).2 2 (by decide)), Value.int.inj ((own_same hs1 ga gc v w).2 3 (by decide)), Value.int.inj ((own_same hs1 ga gc v w).2 4 (by decide))⟩]; rfl), rfl⟩ (by decide) (by decide)
  ·
    refine Go.acmpYes (pc' := 7) d18_2 rfl rfl (XT.aa_ne_t (fun q => hs1 (Value.ref.inj q))) (by decide) (by decide) ?_
    refine Go.aloadN (pc' := 8) d18_7 rfl rfl rfl ?_
    refine Go.instY (pc' := 11) (ww hw 84 rfl) (Ins.self xc) d18_8 rfl ?_
    refine Go.ifNo (pc' := 14) d18_11 (XT.i0_eq_f (by decide)) rfl ?_
    refine Go.aloadN (pc' := 15) d18_14 rfl rfl rfl ?_
    refine Go.castY (pc' := 18) (ww hw 84 rfl) (Ins.self xc) d18_15 rfl ?_
    refine Go.astoreN (pc' := 19) (Ls' := #[.val (.ref a), .val (.ref c), .val (.ref c)]) d18_18 rfl rfl rfl ?_
    refine Go.old (fun old2 => ?_)
    refine Go.getstatic (pc' := 22) (host := "") (Or.inl (ww hw 27 rfl)) Via.refl (scp.ext old2.2) d18_19 rfl ?_
    refine Go.ifNo (pc' := 25) d18_22 (XT.i0_eq_f hcp) rfl ?_
    refine Go.aloadN (pc' := 26) d18_25 rfl rfl rfl ?_
    refine Go.getfield (pc' := 29) (host := "") (Or.inl (ww hw 28 rfl)) Via.refl fa d18_26 rfl ?_
    refine Go.aloadN (pc' := 30) d18_29 rfl rfl rfl ?_
    refine Go.getfield (pc' := 33) (host := "") (Or.inl (ww hw 28 rfl)) Via.refl fc d18_30 rfl ?_
    refine Go.icmpNo (pc' := 36) d18_33 (XT.ii_ne_f (by decide)) rfl ?_
    refine Go.aloadN (pc' := 37) d18_36 rfl rfl rfl ?_
    refine Go.getfield (pc' := 40) (host := "") (Or.inl (ww hw 21 rfl)) Via.refl ga d18_37 rfl ?_
    refine Go.aloadN (pc' := 41) d18_40 rfl rfl rfl ?_
    refine Go.getfield (pc' := 44) (host := "") (Or.inl (ww hw 21 rfl)) Via.refl gc d18_41 rfl ?_
    refine Go.callS (cells' := 0) (slots' := 0) (pc' := 47) [(.ref b), (.ref d)] [] (ww hw 85 rfl) (ww hw 86 rfl) (ww hw 41 rfl) (ww hw 87 rfl) (by decide) (c_latEq5_5 l Z a0 hw h b kb d kd x0 x1 x2 x3 x4 y0 y1 y2 y3 y4 v w) pd_11 rfl rfl rfl rfl rfl (nl rfl) (nl rfl) (nl rfl) (nl rfl) d18_44 rfl ?_
    rintro _ _ ⟨rfl, rfl⟩
    show Go _ _ _ _ _ _ _ _ _ _ _ _ 47 #[.val (.ref a), .val (.ref c), .val (.ref c)] [(.int (if x0 = y0 ∧ x1 = y1 ∧ x2 = y2 ∧ x3 = y3 ∧ x4 = y4 then (1 : Int32) else 0))]
    by_cases hc4 : (if x0 = y0 ∧ x1 = y1 ∧ x2 = y2 ∧ x3 = y3 ∧ x4 = y4 then (1 : Int32) else 0) = (0 : Int32)
    ·
      refine Go.ifYes (pc' := 54) d18_47 (XT.i0_eq_t hc4) (by decide) (by decide) ?_
      refine Go.iconst (pc' := 55) (v := (0 : Int32)) d18_54 rfl rfl ?_
      exact Go.retN (t := .boolean) rfl (by simp) d18_55 ⟨own_ite0 hc4, rfl⟩ (by decide) (by decide)
    ·
      refine Go.ifNo (pc' := 50) d18_47 (XT.i0_eq_f hc4) rfl ?_
      refine Go.iconst (pc' := 51) (v := (1 : Int32)) d18_50 rfl rfl ?_
      refine Go.goto (pc' := 55) d18_51 (by decide) (by decide) ?_
      exact Go.retN (t := .boolean) rfl (by simp) d18_55 ⟨own_ite1 hc4, rfl⟩ (by decide) (by decide)
theorem c_latEq4_4s (l : Launch) (Z : State) (a0 : Array Value) (hw : ∀ d ∈ tables_1, d.before a0 Z = true) {n0 : Nat} (h : Heap) (b : Addr) (kb : ClassId) (d : Addr) (kd : ClassId) (x0 : Int32) (x1 : Int32) (x2 : Int32) (x3 : Int32) (y0 : Int32) (y1 : Int32) (y2 : Int32) (y3 : Int32) (v : Arv Z h b kb .byte (4 : Int32) [(.int x0), (.int x1), (.int x2), (.int x3)] (.int 0)) (w : Arv Z h d kd .byte (4 : Int32) [(.int y0), (.int y1), (.int y2), (.int y3)] (.int 0)) :
    Con l (⟨"java/lang/StringLatin1", "equals", "([B[B)Z"⟩ : MethodName) jdk_43_method_13_code 3 (some .boolean) ({ frames := 0, cells := 0, slots := 0, locals := 0 } : Room) Z n0 #[(.ref d), (.ref b)] h (fun v h' => v = some (.int (if x0 = y0 ∧ x1 = y1 ∧ x2 = y2 ∧ x3 = y3 then (1 : Int32) else 0)) ∧ h = h') := by
  refine Con.of_go (plainFor_of_name pn_3) (Ls := #[.val (.ref d), .val (.ref b), .unset]) (fun m => by first | (simp [entryFrame, mkF, argsToLocals, Value.category]; done) | rfl) ?_
  refine Go.aloadN (pc' := 1) d19_0 rfl rfl rfl ?_
  refine Go.arraylength (pc' := 2) w d19_1 rfl ?_
  refine Go.aloadN (pc' := 3) d19_2 rfl rfl rfl ?_
  refine Go.arraylength (pc' := 4) v d19_3 rfl ?_
  refine Go.icmpNo (pc' := 7) d19_4 (XT.ii_ne_f (by decide)) rfl ?_
  refine Go.iconst (pc' := 8) (v := (0 : Int32)) d19_7 rfl rfl ?_
  refine Go.istoreN (pc' := 9) (Ls' := #[.val (.ref d), .val (.ref b), .val (.int (0 : Int32))]) d19_8 rfl rfl ?_
  refine Go.iloadN (pc' := 10) d19_9 rfl rfl ?_
  refine Go.aloadN (pc' := 11) d19_10 rfl rfl rfl ?_
  refine Go.arraylength (pc' := 12) w d19_11 rfl ?_
  refine Go.icmpNo (pc' := 15) d19_12 (XT.ii_ge_f (by decide)) rfl ?_
  refine Go.aloadN (pc' := 16) d19_15 rfl rfl rfl ?_
  refine Go.iloadN (pc' := 17) d19_16 rfl rfl ?_
  refine Go.baload (pc' := 18) (v := y0) w d19_17 (by decide) (by decide) rfl rfl ?_
  refine Go.aloadN (pc' := 19) d19_18 rfl rfl rfl ?_
  refine Go.iloadN (pc' := 20) d19_19 rfl rfl ?_
  refine Go.baload (pc' := 21) (v := x0) v d19_20 (by decide) (by decide) rfl rfl ?_
  by_cases hc1 : y0 = x0
  ·
    refine Go.icmpYes (pc' := 26) d19_21 (XT.ii_eq_t hc1) (by decide) (by decide) ?_
    refine Go.iinc (pc' := 29) (Ls' := #[.val (.ref d), .val (.ref b), .val (.int ((0 : Int32) + (1 : Int32)))]) (w := (1 : Int32)) d19_26 rfl rfl rfl rfl ?_
    show Go _ _ _ _ _ _ _ _ _ _ _ _ 29 #[.val (.ref d), .val (.ref b), .val (.int (1 : Int32))] []
    refine Go.goto (pc' := 9) d19_29 (by decide) (by decide) ?_
    refine Go.iloadN (pc' := 10) d19_9 rfl rfl ?_
    refine Go.aloadN (pc' := 11) d19_10 rfl rfl rfl ?_
    refine Go.arraylength (pc' := 12) w d19_11 rfl ?_
    refine Go.icmpNo (pc' := 15) d19_12 (XT.ii_ge_f (by decide)) rfl ?_
    refine Go.aloadN (pc' := 16) d19_15 rfl rfl rfl ?_
    refine Go.iloadN (pc' := 17) d19_16 rfl rfl ?_
    refine Go.baload (pc' := 18) (v := y1) w d19_17 (by decide) (by decide) rfl rfl ?_
    refine Go.aloadN (pc' := 19) d19_18 rfl rfl rfl ?_
    refine Go.iloadN (pc' := 20) d19_19 rfl rfl ?_
    refine Go.baload (pc' := 21) (v := x1) v d19_20 (by decide) (by decide) rfl rfl ?_
    by_cases hc2 : y1 = x1
    ·
      refine Go.icmpYes (pc' := 26) d19_21 (XT.ii_eq_t hc2) (by decide) (by decide) ?_
      refine Go.iinc (pc' := 29) (Ls' := #[.val (.ref d), .val (.ref b), .val (.int ((1 : Int32) + (1 : Int32)))]) (w := (1 : Int32)) d19_26 rfl rfl rfl rfl ?_
      show Go _ _ _ _ _ _ _ _ _ _ _ _ 29 #[.val (.ref d), .val (.ref b), .val (.int (2 : Int32))] []
      refine Go.goto (pc' := 9) d19_29 (by decide) (by decide) ?_
      refine Go.iloadN (pc' := 10) d19_9 rfl rfl ?_
      refine Go.aloadN (pc' := 11) d19_10 rfl rfl rfl ?_
      refine Go.arraylength (pc' := 12) w d19_11 rfl ?_
      refine Go.icmpNo (pc' := 15) d19_12 (XT.ii_ge_f (by decide)) rfl ?_
      refine Go.aloadN (pc' := 16) d19_15 rfl rfl rfl ?_
      refine Go.iloadN (pc' := 17) d19_16 rfl rfl ?_
      refine Go.baload (pc' := 18) (v := y2) w d19_17 (by decide) (by decide) rfl rfl ?_
      refine Go.aloadN (pc' := 19) d19_18 rfl rfl rfl ?_
      refine Go.iloadN (pc' := 20) d19_19 rfl rfl ?_
      refine Go.baload (pc' := 21) (v := x2) v d19_20 (by decide) (by decide) rfl rfl ?_
      by_cases hc3 : y2 = x2
      ·
        refine Go.icmpYes (pc' := 26) d19_21 (XT.ii_eq_t hc3) (by decide) (by decide) ?_
        refine Go.iinc (pc' := 29) (Ls' := #[.val (.ref d), .val (.ref b), .val (.int ((2 : Int32) + (1 : Int32)))]) (w := (1 : Int32)) d19_26 rfl rfl rfl rfl ?_
        show Go _ _ _ _ _ _ _ _ _ _ _ _ 29 #[.val (.ref d), .val (.ref b), .val (.int (3 : Int32))] []
        refine Go.goto (pc' := 9) d19_29 (by decide) (by decide) ?_
        refine Go.iloadN (pc' := 10) d19_9 rfl rfl ?_
        refine Go.aloadN (pc' := 11) d19_10 rfl rfl rfl ?_
        refine Go.arraylength (pc' := 12) w d19_11 rfl ?_
        refine Go.icmpNo (pc' := 15) d19_12 (XT.ii_ge_f (by decide)) rfl ?_
        refine Go.aloadN (pc' := 16) d19_15 rfl rfl rfl ?_
        refine Go.iloadN (pc' := 17) d19_16 rfl rfl ?_
        refine Go.baload (pc' := 18) (v := y3) w d19_17 (by decide) (by decide) rfl rfl ?_
        refine Go.aloadN (pc' := 19) d19_18 rfl rfl rfl ?_
        refine Go.iloadN (pc' := 20) d19_19 rfl rfl ?_
        refine Go.baload (pc' := 21) (v := x3) v d19_20 (by decide) (by decide) rfl rfl ?_
        by_cases hc4 : y3 = x3
        ·
          refine Go.icmpYes (pc' := 26) d19_21 (XT.ii_eq_t hc4) (by decide) (by decide) ?_
          refine Go.iinc (pc' := 29) (Ls' := #[.val (.ref d), .val (.ref b), .val (.int ((3 : Int32) + (1 : Int32)))]) (w := (1 : Int32)) d19_26 rfl rfl rfl rfl ?_
          show Go _ _ _ _ _ _ _ _ _ _ _ _ 29 #[.val (.ref d), .val (.ref b), .val (.int (4 : Int32))] []
          refine Go.goto (pc' := 9) d19_29 (by decide) (by decide) ?_
          refine Go.iloadN (pc' := 10) d19_9 rfl rfl ?_
          refine Go.aloadN (pc' := 11) d19_10 rfl rfl rfl ?_
          refine Go.arraylength (pc' := 12) w d19_11 rfl ?_
          refine Go.icmpYes (pc' := 32) d19_12 (XT.ii_ge_t (by decide)) (by decide) (by decide) ?_
          refine Go.iconst (pc' := 33) (v := (1 : Int32)) d19_32 rfl rfl ?_
          exact Go.retN (t := .boolean) rfl (by simp) d19_33 ⟨(by rw [if_pos ⟨hc1.symm, hc2.symm, hc3.symm, hc4.symm⟩]; rfl), rfl⟩ (by decide) (by decide)
        ·
          refine Go.icmpNo (pc' := 24) d19_21 (XT.ii_eq_f hc4) rfl ?_
          refine Go.iconst (pc' := 25) (v := (0 : Int32)) d19_24 rfl rfl ?_
          exact Go.retN (t := .boolean) rfl (by simp) d19_25 ⟨(by rw [if_neg (fun z => hc4 (z.2.2.2).symm)]; rfl), rfl⟩ (by decide) (by decide)
      ·
        refine Go.icmpNo (pc' := 24) d19_21 (XT.ii_eq_f hc3) rfl ?_
        refine Go.iconst (pc' := 25) (v := (0 : Int32)) d19_24 rfl rfl ?_
        exact Go.retN (t := .boolean) rfl (by simp) d19_25 ⟨(by rw [if_neg (fun z => hc3 (z.2.2.1).symm)]; rfl), rfl⟩ (by decide) (by decide)
    ·
      refine Go.icmpNo (pc' := 24) d19_21 (XT.ii_eq_f hc2) rfl ?_
      refine Go.iconst (pc' := 25) (v := (0 : Int32)) d19_24 rfl rfl ?_
      exact Go.retN (t := .boolean) rfl (by simp) d19_25 ⟨(by rw [if_neg (fun z => hc2 (z.2.1).symm)]; rfl), rfl⟩ (by decide) (by decide)
  ·
    refine Go.icmpNo (pc' := 24) d19_21 (XT.ii_eq_f hc1) rfl ?_
    refine Go.iconst (pc' := 25) (v := (0 : Int32)) d19_24 rfl rfl ?_
    exact Go.retN (t := .boolean) rfl (by simp) d19_25 ⟨(by rw [if_neg (fun z => hc1 (z.1).symm)]; rfl), rfl⟩ (by decide) (by decide)
theorem c_strEq4_4s (l : Launch) (Z : State) (a0 : Array Value) (hw : ∀ d ∈ tables_1, d.before a0 Z = true) {n0 : Nat} (h : Heap) (a : Addr) (b : Addr) (kb : ClassId) (c : Addr) (d : Addr) (kd : ClassId) (x0 : Int32) (x1 : Int32) (x2 : Int32) (x3 : Int32) (y0 : Int32) (y1 : Int32) (y2 : Int32) (y3 : Int32) (cp : Int32) (hcp : ¬ (cp = (0 : Int32))) (scp : Sta Z Z.heap "java/lang/String" "COMPACT_STRINGS" "Z" (.int cp)) (xa : Exa Z h a "java/lang/String") (fa : Fld Z h a "java/lang/String" "coder" "B" (.int (0 : Int32))) (ga : Fld Z h a "java/lang/String" "value" "[B" (.ref b)) (v : Arv Z h b kb .byte (4 : Int32) [(.int x0), (.int x1), (.int x2), (.int x3)] (.int 0)) (xc : Exa Z h c "java/lang/String") (fc : Fld Z h c "java/lang/String" "coder" "B" (.int (0 : Int32))) (gc : Fld Z h c "java/lang/String" "value" "[B" (.ref d)) (w : Arv Z h d kd .byte (4 : Int32) [(.int y0), (.int y1), (.int y2), (.int y3)] (.int 0)) :
    Con l (⟨"java/lang/String", "equals", "(Ljava/lang/Object;)Z"⟩ : MethodName) jdk_42_method_66_code 3 (some .boolean) ({ frames := 1, cells := 0, slots := 0, locals := 14 } : Room) Z n0 #[(.ref c), (.ref a)] h (fun v h' => v = some (.int (if x0 = y0 ∧ x1 = y1 ∧ x2 = y2 ∧ x3 = y3 then (1 : Int32) else 0)) ∧ h = h') := by
  refine Con.of_go (plainFor_of_name pn_0) (Ls := #[.val (.ref c), .val (.ref a), .unset]) (fun m => by first | (simp [entryFrame, mkF, argsToLocals, Value.category]; done) | rfl) ?_
  refine Go.aloadN (pc' := 1) d18_0 rfl rfl rfl ?_
  refine Go.aloadN (pc' := 2) d18_1 rfl rfl rfl ?_
  by_cases hs1 : a = c
  ·
    refine Go.acmpNo (pc' := 5) d18_2 rfl rfl (XT.aa_ne_f (congrArg Value.ref hs1.symm)) rfl ?_
    refine Go.iconst (pc' := 6) (v := (1 : Int32)) d18_5 rfl rfl ?_
    exact Go.retN (t := .boolean) rfl (by simp) d18_6 ⟨(by rw [if_pos ⟨Value.int.inj ((own_same hs1 ga gc v w).2 0 (by decide)), Value.int.inj ((own_same hs1 ga gc v w).2 1 (by decide)), Value.int.inj ((own_same hs1 ga gc v w).2 2 (by decide)), Value.int.inj ((own_same hs1 ga gc v w).2 3 (by decide))⟩]; rfl), rfl⟩ (by decide) (by decide)
  ·
    refine Go.acmpYes (pc' := 7) d18_2 rfl rfl (XT.aa_ne_t (fun q => (Ne.symm hs1) (Value.ref.inj q))) (by decide) (by decide) ?_
    refine Go.aloadN (pc' := 8) d18_7 rfl rfl rfl ?_
    refine Go.instY (pc' := 11) (ww hw 84 rfl) (Ins.self xa) d18_8 rfl ?_
    refine Go.ifNo (pc' := 14) d18_11 (XT.i0_eq_f (by decide)) rfl ?_
    refine Go.aloadN (pc' := 15) d18_14 rfl rfl rfl ?_
    refine Go.castY (pc' := 18) (ww hw 84 rfl) (Ins.self xa) d18_15 rfl ?_
    refine Go.astoreN (pc' := 19) (Ls' := #[.val (.ref c), .val (.ref a), .val (.ref a)]) d18_18 rfl rfl rfl ?_
    refine Go.old (fun old2 => ?_)
    refine Go.getstatic (pc' := 22) (host := "") (Or.inl (ww hw 27 rfl)) Via.refl (scp.ext old2.2) d18_19 rfl ?_
    refine Go.ifNo (pc' := 25) d18_22 (XT.i0_eq_f hcp) rfl ?_
    refine Go.aloadN (pc' := 26) d18_25 rfl rfl rfl ?_
    refine Go.getfield (pc' := 29) (host := "") (Or.inl (ww hw 28 rfl)) Via.refl fc d18_26 rfl ?_
    refine Go.aloadN (pc' := 30) d18_29 rfl rfl rfl ?_
    refine Go.getfield (pc' := 33) (host := "") (Or.inl (ww hw 28 rfl)) Via.refl fa d18_30 rfl ?_
    refine Go.icmpNo (pc' := 36) d18_33 (XT.ii_ne_f (by decide)) rfl ?_
    refine Go.aloadN (pc' := 37) d18_36 rfl rfl rfl ?_
    refine Go.getfield (pc' := 40) (host := "") (Or.inl (ww hw 21 rfl)) Via.refl gc d18_37 rfl ?_
    refine Go.aloadN (pc' := 41) d18_40 rfl rfl rfl ?_
    refine Go.getfield (pc' := 44) (host := "") (Or.inl (ww hw 21 rfl)) Via.refl ga d18_41 rfl ?_
    refine Go.callS (cells' := 0) (slots' := 0) (pc' := 47) [(.ref d), (.ref b)] [] (ww hw 85 rfl) (ww hw 86 rfl) (ww hw 41 rfl) (ww hw 87 rfl) (by decide) (c_latEq4_4s l Z a0 hw h b kb d kd x0 x1 x2 x3 y0 y1 y2 y3 v w) pd_11 rfl rfl rfl rfl rfl (nl rfl) (nl rfl) (nl rfl) (nl rfl) d18_44 rfl ?_
    rintro _ _ ⟨rfl, rfl⟩
    show Go _ _ _ _ _ _ _ _ _ _ _ _ 47 #[.val (.ref c), .val (.ref a), .val (.ref a)] [(.int (if x0 = y0 ∧ x1 = y1 ∧ x2 = y2 ∧ x3 = y3 then (1 : Int32) else 0))]
    by_cases hc4 : (if x0 = y0 ∧ x1 = y1 ∧ x2 = y2 ∧ x3 = y3 then (1 : Int32) else 0) = (0 : Int32)
    ·
      refine Go.ifYes (pc' := 54) d18_47 (XT.i0_eq_t hc4) (by decide) (by decide) ?_
      refine Go.iconst (pc' := 55) (v := (0 : Int32)) d18_54 rfl rfl ?_
      exact Go.retN (t := .boolean) rfl (by simp) d18_55 ⟨own_ite0 hc4, rfl⟩ (by decide) (by decide)
    ·
      refine Go.ifNo (pc' := 50) d18_47 (XT.i0_eq_f hc4) rfl ?_
      refine Go.iconst (pc' := 51) (v := (1 : Int32)) d18_50 rfl rfl ?_
      refine Go.goto (pc' := 55) d18_51 (by decide) (by decide) ?_
      exact Go.retN (t := .boolean) rfl (by simp) d18_55 ⟨own_ite1 hc4, rfl⟩ (by decide) (by decide)
theorem c_latEq5_5s (l : Launch) (Z : State) (a0 : Array Value) (hw : ∀ d ∈ tables_1, d.before a0 Z = true) {n0 : Nat} (h : Heap) (b : Addr) (kb : ClassId) (d : Addr) (kd : ClassId) (x0 : Int32) (x1 : Int32) (x2 : Int32) (x3 : Int32) (x4 : Int32) (y0 : Int32) (y1 : Int32) (y2 : Int32) (y3 : Int32) (y4 : Int32) (v : Arv Z h b kb .byte (5 : Int32) [(.int x0), (.int x1), (.int x2), (.int x3), (.int x4)] (.int 0)) (w : Arv Z h d kd .byte (5 : Int32) [(.int y0), (.int y1), (.int y2), (.int y3), (.int y4)] (.int 0)) :
    Con l (⟨"java/lang/StringLatin1", "equals", "([B[B)Z"⟩ : MethodName) jdk_43_method_13_code 3 (some .boolean) ({ frames := 0, cells := 0, slots := 0, locals := 0 } : Room) Z n0 #[(.ref d), (.ref b)] h (fun v h' => v = some (.int (if x0 = y0 ∧ x1 = y1 ∧ x2 = y2 ∧ x3 = y3 ∧ x4 = y4 then (1 : Int32) else 0)) ∧ h = h') := by
  refine Con.of_go (plainFor_of_name pn_3) (Ls := #[.val (.ref d), .val (.ref b), .unset]) (fun m => by first | (simp [entryFrame, mkF, argsToLocals, Value.category]; done) | rfl) ?_
  refine Go.aloadN (pc' := 1) d19_0 rfl rfl rfl ?_
  refine Go.arraylength (pc' := 2) w d19_1 rfl ?_
  refine Go.aloadN (pc' := 3) d19_2 rfl rfl rfl ?_
  refine Go.arraylength (pc' := 4) v d19_3 rfl ?_
  refine Go.icmpNo (pc' := 7) d19_4 (XT.ii_ne_f (by decide)) rfl ?_
  refine Go.iconst (pc' := 8) (v := (0 : Int32)) d19_7 rfl rfl ?_
  refine Go.istoreN (pc' := 9) (Ls' := #[.val (.ref d), .val (.ref b), .val (.int (0 : Int32))]) d19_8 rfl rfl ?_
  refine Go.iloadN (pc' := 10) d19_9 rfl rfl ?_
  refine Go.aloadN (pc' := 11) d19_10 rfl rfl rfl ?_
  refine Go.arraylength (pc' := 12) w d19_11 rfl ?_
  refine Go.icmpNo (pc' := 15) d19_12 (XT.ii_ge_f (by decide)) rfl ?_
  refine Go.aloadN (pc' := 16) d19_15 rfl rfl rfl ?_
  refine Go.iloadN (pc' := 17) d19_16 rfl rfl ?_
  refine Go.baload (pc' := 18) (v := y0) w d19_17 (by decide) (by decide) rfl rfl ?_
  refine Go.aloadN (pc' := 19) d19_18 rfl rfl rfl ?_
  refine Go.iloadN (pc' := 20) d19_19 rfl rfl ?_
  refine Go.baload (pc' := 21) (v := x0) v d19_20 (by decide) (by decide) rfl rfl ?_
  by_cases hc1 : y0 = x0
  ·
    refine Go.icmpYes (pc' := 26) d19_21 (XT.ii_eq_t hc1) (by decide) (by decide) ?_
    refine Go.iinc (pc' := 29) (Ls' := #[.val (.ref d), .val (.ref b), .val (.int ((0 : Int32) + (1 : Int32)))]) (w := (1 : Int32)) d19_26 rfl rfl rfl rfl ?_
    show Go _ _ _ _ _ _ _ _ _ _ _ _ 29 #[.val (.ref d), .val (.ref b), .val (.int (1 : Int32))] []
    refine Go.goto (pc' := 9) d19_29 (by decide) (by decide) ?_
    refine Go.iloadN (pc' := 10) d19_9 rfl rfl ?_
    refine Go.aloadN (pc' := 11) d19_10 rfl rfl rfl ?_
    refine Go.arraylength (pc' := 12) w d19_11 rfl ?_
    refine Go.icmpNo (pc' := 15) d19_12 (XT.ii_ge_f (by decide)) rfl ?_
    refine Go.aloadN (pc' := 16) d19_15 rfl rfl rfl ?_
    refine Go.iloadN (pc' := 17) d19_16 rfl rfl ?_
    refine Go.baload (pc' := 18) (v := y1) w d19_17 (by decide) (by decide) rfl rfl ?_
    refine Go.aloadN (pc' := 19) d19_18 rfl rfl rfl ?_
    refine Go.iloadN (pc' := 20) d19_19 rfl rfl ?_
    refine Go.baload (pc' := 21) (v := x1) v d19_20 (by decide) (by decide) rfl rfl ?_
    by_cases hc2 : y1 = x1
    ·
      refine Go.icmpYes (pc' := 26) d19_21 (XT.ii_eq_t hc2) (by decide) (by decide) ?_
      refine Go.iinc (pc' := 29) (Ls' := #[.val (.ref d), .val (.ref b), .val (.int ((1 : Int32) + (1 : Int32)))]) (w := (1 : Int32)) d19_26 rfl rfl rfl rfl ?_
      show Go _ _ _ _ _ _ _ _ _ _ _ _ 29 #[.val (.ref d), .val (.ref b), .val (.int (2 : Int32))] []
      refine Go.goto (pc' := 9) d19_29 (by decide) (by decide) ?_
      refine Go.iloadN (pc' := 10) d19_9 rfl rfl ?_
      refine Go.aloadN (pc' := 11) d19_10 rfl rfl rfl ?_
      refine Go.arraylength (pc' := 12) w d19_11 rfl ?_
      refine Go.icmpNo (pc' := 15) d19_12 (XT.ii_ge_f (by decide)) rfl ?_
      refine Go.aloadN (pc' := 16) d19_15 rfl rfl rfl ?_
      refine Go.iloadN (pc' := 17) d19_16 rfl rfl ?_
      refine Go.baload (pc' := 18) (v := y2) w d19_17 (by decide) (by decide) rfl rfl ?_
      refine Go.aloadN (pc' := 19) d19_18 rfl rfl rfl ?_
      refine Go.iloadN (pc' := 20) d19_19 rfl rfl ?_
      refine Go.baload (pc' := 21) (v := x2) v d19_20 (by decide) (by decide) rfl rfl ?_
      by_cases hc3 : y2 = x2
      ·
        refine Go.icmpYes (pc' := 26) d19_21 (XT.ii_eq_t hc3) (by decide) (by decide) ?_
        refine Go.iinc (pc' := 29) (Ls' := #[.val (.ref d), .val (.ref b), .val (.int ((2 : Int32) + (1 : Int32)))]) (w := (1 : Int32)) d19_26 rfl rfl rfl rfl ?_
        show Go _ _ _ _ _ _ _ _ _ _ _ _ 29 #[.val (.ref d), .val (.ref b), .val (.int (3 : Int32))] []
        refine Go.goto (pc' := 9) d19_29 (by decide) (by decide) ?_
        refine Go.iloadN (pc' := 10) d19_9 rfl rfl ?_
        refine Go.aloadN (pc' := 11) d19_10 rfl rfl rfl ?_
        refine Go.arraylength (pc' := 12) w d19_11 rfl ?_
        refine Go.icmpNo (pc' := 15) d19_12 (XT.ii_ge_f (by decide)) rfl ?_
        refine Go.aloadN (pc' := 16) d19_15 rfl rfl rfl ?_
        refine Go.iloadN (pc' := 17) d19_16 rfl rfl ?_
        refine Go.baload (pc' := 18) (v := y3) w d19_17 (by decide) (by decide) rfl rfl ?_
        refine Go.aloadN (pc' := 19) d19_18 rfl rfl rfl ?_
        refine Go.iloadN (pc' := 20) d19_19 rfl rfl ?_
        refine Go.baload (pc' := 21) (v := x3) v d19_20 (by decide) (by decide) rfl rfl ?_
        by_cases hc4 : y3 = x3
        ·
          refine Go.icmpYes (pc' := 26) d19_21 (XT.ii_eq_t hc4) (by decide) (by decide) ?_
          refine Go.iinc (pc' := 29) (Ls' := #[.val (.ref d), .val (.ref b), .val (.int ((3 : Int32) + (1 : Int32)))]) (w := (1 : Int32)) d19_26 rfl rfl rfl rfl ?_
          show Go _ _ _ _ _ _ _ _ _ _ _ _ 29 #[.val (.ref d), .val (.ref b), .val (.int (4 : Int32))] []
          refine Go.goto (pc' := 9) d19_29 (by decide) (by decide) ?_
          refine Go.iloadN (pc' := 10) d19_9 rfl rfl ?_
          refine Go.aloadN (pc' := 11) d19_10 rfl rfl rfl ?_
          refine Go.arraylength (pc' := 12) w d19_11 rfl ?_
          refine Go.icmpNo (pc' := 15) d19_12 (XT.ii_ge_f (by decide)) rfl ?_
          refine Go.aloadN (pc' := 16) d19_15 rfl rfl rfl ?_
          refine Go.iloadN (pc' := 17) d19_16 rfl rfl ?_
          refine Go.baload (pc' := 18) (v := y4) w d19_17 (by decide) (by decide) rfl rfl ?_
          refine Go.aloadN (pc' := 19) d19_18 rfl rfl rfl ?_
          refine Go.iloadN (pc' := 20) d19_19 rfl rfl ?_
          refine Go.baload (pc' := 21) (v := x4) v d19_20 (by decide) (by decide) rfl rfl ?_
          by_cases hc5 : y4 = x4
          ·
            refine Go.icmpYes (pc' := 26) d19_21 (XT.ii_eq_t hc5) (by decide) (by decide) ?_
            refine Go.iinc (pc' := 29) (Ls' := #[.val (.ref d), .val (.ref b), .val (.int ((4 : Int32) + (1 : Int32)))]) (w := (1 : Int32)) d19_26 rfl rfl rfl rfl ?_
            show Go _ _ _ _ _ _ _ _ _ _ _ _ 29 #[.val (.ref d), .val (.ref b), .val (.int (5 : Int32))] []
            refine Go.goto (pc' := 9) d19_29 (by decide) (by decide) ?_
            refine Go.iloadN (pc' := 10) d19_9 rfl rfl ?_
            refine Go.aloadN (pc' := 11) d19_10 rfl rfl rfl ?_
            refine Go.arraylength (pc' := 12) w d19_11 rfl ?_
            refine Go.icmpYes (pc' := 32) d19_12 (XT.ii_ge_t (by decide)) (by decide) (by decide) ?_
            refine Go.iconst (pc' := 33) (v := (1 : Int32)) d19_32 rfl rfl ?_
            exact Go.retN (t := .boolean) rfl (by simp) d19_33 ⟨(by rw [if_pos ⟨hc1.symm, hc2.symm, hc3.symm, hc4.symm, hc5.symm⟩]; rfl), rfl⟩ (by decide) (by decide)
          ·
            refine Go.icmpNo (pc' := 24) d19_21 (XT.ii_eq_f hc5) rfl ?_
            refine Go.iconst (pc' := 25) (v := (0 : Int32)) d19_24 rfl rfl ?_
            exact Go.retN (t := .boolean) rfl (by simp) d19_25 ⟨(by rw [if_neg (fun z => hc5 (z.2.2.2.2).symm)]; rfl), rfl⟩ (by decide) (by decide)
        ·
          refine Go.icmpNo (pc' := 24) d19_21 (XT.ii_eq_f hc4) rfl ?_
          refine Go.iconst (pc' := 25) (v := (0 : Int32)) d19_24 rfl rfl ?_
          exact Go.retN (t := .boolean) rfl (by simp) d19_25 ⟨(by rw [if_neg (fun z => hc4 (z.2.2.2.1).symm)]; rfl), rfl⟩ (by decide) (by decide)
      ·
        refine Go.icmpNo (pc' := 24) d19_21 (XT.ii_eq_f hc3) rfl ?_
        refine Go.iconst (pc' := 25) (v := (0 : Int32)) d19_24 rfl rfl ?_
        exact Go.retN (t := .boolean) rfl (by simp) d19_25 ⟨(by rw [if_neg (fun z => hc3 (z.2.2.1).symm)]; rfl), rfl⟩ (by decide) (by decide)
    ·
      refine Go.icmpNo (pc' := 24) d19_21 (XT.ii_eq_f hc2) rfl ?_
      refine Go.iconst (pc' := 25) (v := (0 : Int32)) d19_24 rfl rfl ?_
      exact Go.retN (t := .boolean) rfl (by simp) d19_25 ⟨(by rw [if_neg (fun z => hc2 (z.2.1).symm)]; rfl), rfl⟩ (by decide) (by decide)
  ·
    refine Go.icmpNo (pc' := 24) d19_21 (XT.ii_eq_f hc1) rfl ?_
    refine Go.iconst (pc' := 25) (v := (0 : Int32)) d19_24 rfl rfl ?_
    exact Go.retN (t := .boolean) rfl (by simp) d19_25 ⟨(by rw [if_neg (fun z => hc1 (z.1).symm)]; rfl), rfl⟩ (by decide) (by decide)
theorem c_strEq5_5s (l : Launch) (Z : State) (a0 : Array Value) (hw : ∀ d ∈ tables_1, d.before a0 Z = true) {n0 : Nat} (h : Heap) (a : Addr) (b : Addr) (kb : ClassId) (c : Addr) (d : Addr) (kd : ClassId) (x0 : Int32) (x1 : Int32) (x2 : Int32) (x3 : Int32) (x4 : Int32) (y0 : Int32) (y1 : Int32) (y2 : Int32) (y3 : Int32) (y4 : Int32) (cp : Int32) (hcp : ¬ (cp = (0 : Int32))) (scp : Sta Z Z.heap "java/lang/String" "COMPACT_STRINGS" "Z" (.int cp)) (xa : Exa Z h a "java/lang/String") (fa : Fld Z h a "java/lang/String" "coder" "B" (.int (0 : Int32))) (ga : Fld Z h a "java/lang/String" "value" "[B" (.ref b)) (v : Arv Z h b kb .byte (5 : Int32) [(.int x0), (.int x1), (.int x2), (.int x3), (.int x4)] (.int 0)) (xc : Exa Z h c "java/lang/String") (fc : Fld Z h c "java/lang/String" "coder" "B" (.int (0 : Int32))) (gc : Fld Z h c "java/lang/String" "value" "[B" (.ref d)) (w : Arv Z h d kd .byte (5 : Int32) [(.int y0), (.int y1), (.int y2), (.int y3), (.int y4)] (.int 0)) :
    Con l (⟨"java/lang/String", "equals", "(Ljava/lang/Object;)Z"⟩ : MethodName) jdk_42_method_66_code 3 (some .boolean) ({ frames := 1, cells := 0, slots := 0, locals := 14 } : Room) Z n0 #[(.ref c), (.ref a)] h (fun v h' => v = some (.int (if x0 = y0 ∧ x1 = y1 ∧ x2 = y2 ∧ x3 = y3 ∧ x4 = y4 then (1 : Int32) else 0)) ∧ h = h') := by
  refine Con.of_go (plainFor_of_name pn_0) (Ls := #[.val (.ref c), .val (.ref a), .unset]) (fun m => by first | (simp [entryFrame, mkF, argsToLocals, Value.category]; done) | rfl) ?_
  refine Go.aloadN (pc' := 1) d18_0 rfl rfl rfl ?_
  refine Go.aloadN (pc' := 2) d18_1 rfl rfl rfl ?_
  by_cases hs1 : a = c
  ·
    refine Go.acmpNo (pc' := 5) d18_2 rfl rfl (XT.aa_ne_f (congrArg Value.ref hs1.symm)) rfl ?_
    refine Go.iconst (pc' := 6) (v := (1 : Int32)) d18_5 rfl rfl ?_
    exact Go.retN (t := .boolean) rfl (by simp) d18_6 ⟨(by rw [if_pos ⟨Value.int.inj ((own_same hs1 ga gc v w).2 0 (by decide)), Value.int.inj ((own_same hs1 ga gc v w).2 1 (by decide)), Value.int.inj ((own_same hs1 ga gc v w).2 2 (by decide)), Value.int.inj ((own_same hs1 ga gc v w).2 3 (by decide)), Value.int.inj ((own_same hs1 ga gc v w).2 4 (by decide))⟩]; rfl), rfl⟩ (by decide) (by decide)
  ·
    refine Go.acmpYes (pc' := 7) d18_2 rfl rfl (XT.aa_ne_t (fun q => (Ne.symm hs1) (Value.ref.inj q))) (by decide) (by decide) ?_
    refine Go.aloadN (pc' := 8) d18_7 rfl rfl rfl ?_
    refine Go.instY (pc' := 11) (ww hw 84 rfl) (Ins.self xa) d18_8 rfl ?_
    refine Go.ifNo (pc' := 14) d18_11 (XT.i0_eq_f (by decide)) rfl ?_
    refine Go.aloadN (pc' := 15) d18_14 rfl rfl rfl ?_
    refine Go.castY (pc' := 18) (ww hw 84 rfl) (Ins.self xa) d18_15 rfl ?_
    refine Go.astoreN (pc' := 19) (Ls' := #[.val (.ref c), .val (.ref a), .val (.ref a)]) d18_18 rfl rfl rfl ?_
    refine Go.old (fun old2 => ?_)
    refine Go.getstatic (pc' := 22) (host := "") (Or.inl (ww hw 27 rfl)) Via.refl (scp.ext old2.2) d18_19 rfl ?_
    refine Go.ifNo (pc' := 25) d18_22 (XT.i0_eq_f hcp) rfl ?_
    refine Go.aloadN (pc' := 26) d18_25 rfl rfl rfl ?_
    refine Go.getfield (pc' := 29) (host := "") (Or.inl (ww hw 28 rfl)) Via.refl fc d18_26 rfl ?_
    refine Go.aloadN (pc' := 30) d18_29 rfl rfl rfl ?_
    refine Go.getfield (pc' := 33) (host := "") (Or.inl (ww hw 28 rfl)) Via.refl fa d18_30 rfl ?_
    refine Go.icmpNo (pc' := 36) d18_33 (XT.ii_ne_f (by decide)) rfl ?_
    refine Go.aloadN (pc' := 37) d18_36 rfl rfl rfl ?_
    refine Go.getfield (pc' := 40) (host := "") (Or.inl (ww hw 21 rfl)) Via.refl gc d18_37 rfl ?_
    refine Go.aloadN (pc' := 41) d18_40 rfl rfl rfl ?_
    refine Go.getfield (pc' := 44) (host := "") (Or.inl (ww hw 21 rfl)) Via.refl ga d18_41 rfl ?_
    refine Go.callS (cells' := 0) (slots' := 0) (pc' := 47) [(.ref d), (.ref b)] [] (ww hw 85 rfl) (ww hw 86 rfl) (ww hw 41 rfl) (ww hw 87 rfl) (by decide) (c_latEq5_5s l Z a0 hw h b kb d kd x0 x1 x2 x3 x4 y0 y1 y2 y3 y4 v w) pd_11 rfl rfl rfl rfl rfl (nl rfl) (nl rfl) (nl rfl) (nl rfl) d18_44 rfl ?_
    rintro _ _ ⟨rfl, rfl⟩
    show Go _ _ _ _ _ _ _ _ _ _ _ _ 47 #[.val (.ref c), .val (.ref a), .val (.ref a)] [(.int (if x0 = y0 ∧ x1 = y1 ∧ x2 = y2 ∧ x3 = y3 ∧ x4 = y4 then (1 : Int32) else 0))]
    by_cases hc4 : (if x0 = y0 ∧ x1 = y1 ∧ x2 = y2 ∧ x3 = y3 ∧ x4 = y4 then (1 : Int32) else 0) = (0 : Int32)
    ·
      refine Go.ifYes (pc' := 54) d18_47 (XT.i0_eq_t hc4) (by decide) (by decide) ?_
      refine Go.iconst (pc' := 55) (v := (0 : Int32)) d18_54 rfl rfl ?_
      exact Go.retN (t := .boolean) rfl (by simp) d18_55 ⟨own_ite0 hc4, rfl⟩ (by decide) (by decide)
    ·
      refine Go.ifNo (pc' := 50) d18_47 (XT.i0_eq_f hc4) rfl ?_
      refine Go.iconst (pc' := 51) (v := (1 : Int32)) d18_50 rfl rfl ?_
      refine Go.goto (pc' := 55) d18_51 (by decide) (by decide) ?_
      exact Go.retN (t := .boolean) rfl (by simp) d18_55 ⟨own_ite1 hc4, rfl⟩ (by decide) (by decide)
theorem d19_34 : decode jdk_43_method_13_code 34 = .ok (.iconst 0, 1) := by decide +kernel
theorem d19_35 : decode jdk_43_method_13_code 35 = .ok (.ireturn, 1) := by decide +kernel
theorem c_latNe (l : Launch) (Z : State) (a0 : Array Value) (hw : ∀ d ∈ tables_1, d.before a0 Z = true) {n0 : Nat} (h : Heap) (b : Addr) (kb : ClassId) (d : Addr) (kd : ClassId) (z : Int32) (vs : List Value) (z' : Int32) (vs' : List Value) (hz : ¬ (z = z')) (hz' : z.toNatClampNeg ≠ z'.toNatClampNeg) (v : Arv Z h b kb .byte z vs (.int 0)) (w : Arv Z h d kd .byte z' vs' (.int 0)) :
    Con l (⟨"java/lang/StringLatin1", "equals", "([B[B)Z"⟩ : MethodName) jdk_43_method_13_code 3 (some .boolean) ({ frames := 0, cells := 0, slots := 0, locals := 0 } : Room) Z n0 #[(.ref b), (.ref d)] h (fun v h' => v = some (.int (0 : Int32)) ∧ h = h') := by
  refine Con.of_go (plainFor_of_name pn_3) (Ls := #[.val (.ref b), .val (.ref d), .unset]) (fun m => by first | (simp [entryFrame, mkF, argsToLocals, Value.category]; done) | rfl) ?_
  refine Go.aloadN (pc' := 1) d19_0 rfl rfl rfl ?_
  refine Go.arraylength (pc' := 2) v d19_1 rfl ?_
  refine Go.aloadN (pc' := 3) d19_2 rfl rfl rfl ?_
  refine Go.arraylength (pc' := 4) w d19_3 rfl ?_
  refine Go.icmpYes (pc' := 34) d19_4 (XT.ii_ne_t hz) (by decide) (by decide) ?_
  refine Go.iconst (pc' := 35) (v := (0 : Int32)) d19_34 rfl rfl ?_
  exact Go.retN (t := .boolean) rfl (by simp) d19_35 ⟨rfl, rfl⟩ (by decide) (by decide)
theorem c_strNe (l : Launch) (Z : State) (a0 : Array Value) (hw : ∀ d ∈ tables_1, d.before a0 Z = true) {n0 : Nat} (h : Heap) (a : Addr) (b : Addr) (kb : ClassId) (c : Addr) (d : Addr) (kd : ClassId) (z : Int32) (vs : List Value) (z' : Int32) (vs' : List Value) (cp : Int32) (hcp : ¬ (cp = (0 : Int32))) (hz : ¬ (z = z')) (hz' : z.toNatClampNeg ≠ z'.toNatClampNeg) (scp : Sta Z Z.heap "java/lang/String" "COMPACT_STRINGS" "Z" (.int cp)) (xa : Exa Z h a "java/lang/String") (fa : Fld Z h a "java/lang/String" "coder" "B" (.int (0 : Int32))) (ga : Fld Z h a "java/lang/String" "value" "[B" (.ref b)) (v : Arv Z h b kb .byte z vs (.int 0)) (xc : Exa Z h c "java/lang/String") (fc : Fld Z h c "java/lang/String" "coder" "B" (.int (0 : Int32))) (gc : Fld Z h c "java/lang/String" "value" "[B" (.ref d)) (w : Arv Z h d kd .byte z' vs' (.int 0)) :
    Con l (⟨"java/lang/String", "equals", "(Ljava/lang/Object;)Z"⟩ : MethodName) jdk_42_method_66_code 3 (some .boolean) ({ frames := 1, cells := 0, slots := 0, locals := 14 } : Room) Z n0 #[(.ref a), (.ref c)] h (fun v h' => v = some (.int (0 : Int32)) ∧ h = h') := by
  refine Con.of_go (plainFor_of_name pn_0) (Ls := #[.val (.ref a), .val (.ref c), .unset]) (fun m => by first | (simp [entryFrame, mkF, argsToLocals, Value.category]; done) | rfl) ?_
  refine Go.aloadN (pc' := 1) d18_0 rfl rfl rfl ?_
  refine Go.aloadN (pc' := 2) d18_1 rfl rfl rfl ?_
  by_cases hs1 : a = c
  ·
    exact absurd (own_same hs1 ga gc v w).1 hz'
  ·
    refine Go.acmpYes (pc' := 7) d18_2 rfl rfl (XT.aa_ne_t (fun q => hs1 (Value.ref.inj q))) (by decide) (by decide) ?_
    refine Go.aloadN (pc' := 8) d18_7 rfl rfl rfl ?_
    refine Go.instY (pc' := 11) (ww hw 84 rfl) (Ins.self xc) d18_8 rfl ?_
    refine Go.ifNo (pc' := 14) d18_11 (XT.i0_eq_f (by decide)) rfl ?_
    refine Go.aloadN (pc' := 15) d18_14 rfl rfl rfl ?_
    refine Go.castY (pc' := 18) (ww hw 84 rfl) (Ins.self xc) d18_15 rfl ?_
    refine Go.astoreN (pc' := 19) (Ls' := #[.val (.ref a), .val (.ref c), .val (.ref c)]) d18_18 rfl rfl rfl ?_
    refine Go.old (fun old2 => ?_)
    refine Go.getstatic (pc' := 22) (host := "") (Or.inl (ww hw 27 rfl)) Via.refl (scp.ext old2.2) d18_19 rfl ?_
    refine Go.ifNo (pc' := 25) d18_22 (XT.i0_eq_f hcp) rfl ?_
    refine Go.aloadN (pc' := 26) d18_25 rfl rfl rfl ?_
    refine Go.getfield (pc' := 29) (host := "") (Or.inl (ww hw 28 rfl)) Via.refl fa d18_26 rfl ?_
    refine Go.aloadN (pc' := 30) d18_29 rfl rfl rfl ?_
    refine Go.getfield (pc' := 33) (host := "") (Or.inl (ww hw 28 rfl)) Via.refl fc d18_30 rfl ?_
    refine Go.icmpNo (pc' := 36) d18_33 (XT.ii_ne_f (by decide)) rfl ?_
    refine Go.aloadN (pc' := 37) d18_36 rfl rfl rfl ?_
    refine Go.getfield (pc' := 40) (host := "") (Or.inl (ww hw 21 rfl)) Via.refl ga d18_37 rfl ?_
    refine Go.aloadN (pc' := 41) d18_40 rfl rfl rfl ?_
    refine Go.getfield (pc' := 44) (host := "") (Or.inl (ww hw 21 rfl)) Via.refl gc d18_41 rfl ?_
    refine Go.callS (cells' := 0) (slots' := 0) (pc' := 47) [(.ref b), (.ref d)] [] (ww hw 85 rfl) (ww hw 86 rfl) (ww hw 41 rfl) (ww hw 87 rfl) (by decide) (c_latNe l Z a0 hw h b kb d kd z vs (z') (vs') hz (hz') v w) pd_11 rfl rfl rfl rfl rfl (nl rfl) (nl rfl) (nl rfl) (nl rfl) d18_44 rfl ?_
    rintro _ _ ⟨rfl, rfl⟩
    show Go _ _ _ _ _ _ _ _ _ _ _ _ 47 #[.val (.ref a), .val (.ref c), .val (.ref c)] [(.int (0 : Int32))]
    refine Go.ifYes (pc' := 54) d18_47 (XT.i0_eq_t (by decide)) (by decide) (by decide) ?_
    refine Go.iconst (pc' := 55) (v := (0 : Int32)) d18_54 rfl rfl ?_
    exact Go.retN (t := .boolean) rfl (by simp) d18_55 ⟨rfl, rfl⟩ (by decide) (by decide)
theorem d25_0 : decode jdk_31_method_10_code 0 = .ok (.aload_n 0, 1) := by decide +kernel
theorem d25_1 : decode jdk_31_method_10_code 1 = .ok (.ifnonnull 11, 3) := by decide +kernel
theorem d25_12 : decode jdk_31_method_10_code 12 = .ok (.aload_n 0, 1) := by decide +kernel
theorem d25_13 : decode jdk_31_method_10_code 13 = .ok (.areturn, 1) := by decide +kernel
theorem pn_5 : plainName "java/util/Objects" = true := by first | (simp [plainName, overriddenIn]; done) | decide +kernel
theorem c_rnn (l : Launch) (Z : State) (a0 : Array Value) (hw : ∀ d ∈ tables_1, d.before a0 Z = true) {n0 : Nat} (h : Heap) (a : Addr) :
    Con l (⟨"java/util/Objects", "requireNonNull", "(Ljava/lang/Object;)Ljava/lang/Object;"⟩ : MethodName) jdk_31_method_10_code 1 (some (.object "java/lang/Object")) ({ frames := 0, cells := 0, slots := 0, locals := 0 } : Room) Z n0 #[(.ref a)] h (fun v h' => v = some (.ref a) ∧ h = h') := by
  refine Con.of_go (plainFor_of_name pn_5) (Ls := #[.val (.ref a)]) (fun m => by first | (simp [entryFrame, mkF, argsToLocals, Value.category]; done) | rfl) ?_
  refine Go.aloadN (pc' := 1) d25_0 rfl rfl rfl ?_
  refine Go.nonnullYes (pc' := 12) d25_1 rfl nofun (by decide) (by decide) ?_
  refine Go.aloadN (pc' := 13) d25_12 rfl rfl rfl ?_
  exact Go.retR rfl rfl rfl rfl d25_13 ⟨rfl, rfl⟩ (by decide) (by decide)
theorem d26_0 : decode jdk_32_method_2_code 0 = .ok (.aload_n 0, 1) := by decide +kernel
theorem d26_1 : decode jdk_32_method_2_code 1 = .ok (.invokespecial 7, 3) := by decide +kernel
theorem d26_4 : decode jdk_32_method_2_code 4 = .ok (.aload_n 0, 1) := by decide +kernel
theorem d26_5 : decode jdk_32_method_2_code 5 = .ok (.aload_n 1, 1) := by decide +kernel
theorem d26_6 : decode jdk_32_method_2_code 6 = .ok (.putfield 13, 3) := by decide +kernel
theorem d26_9 : decode jdk_32_method_2_code 9 = .ok (.return_, 1) := by decide +kernel
theorem pn_6 : plainName "java/util/Optional" = true := by first | (simp [plainName, overriddenIn]; done) | decide +kernel
theorem c_optInit (l : Launch) (Z : State) (a0 : Array Value) (hw : ∀ d ∈ tables_1, d.before a0 Z = true) {n0 : Nat} (h : Heap) (a : Addr) (e : Addr) (ge_a : n0 ≤ a) (x : Exa Z h a "java/util/Optional") (f : Fld Z h a "java/util/Optional" "value" "Ljava/lang/Object;" .null) :
    Con l (⟨"java/util/Optional", "<init>", "(Ljava/lang/Object;)V"⟩ : MethodName) jdk_32_method_2_code 2 none ({ frames := 1, cells := 0, slots := 0, locals := 12 } : Room) Z n0 #[(.ref a), (.ref e)] h (fun v h' => v = none ∧ Keep h h' [a] ∧ Fld Z h' a "java/util/Optional" "value" "Ljava/lang/Object;" (.ref e)) := by
  refine Con.of_go (plainFor_of_name pn_6) (Ls := #[.val (.ref a), .val (.ref e)]) (fun m => by first | (simp [entryFrame, mkF, argsToLocals, Value.category]; done) | rfl) ?_
  refine Go.aloadN (pc' := 1) d26_0 rfl rfl rfl ?_
  refine Go.initO (pc' := 4) (ww hw 148 rfl) (ww hw 64 rfl) (ww hw 65 rfl) d26_1 rfl (nl rfl) (nl rfl) rfl ?_
  refine Go.aloadN (pc' := 5) d26_4 rfl rfl rfl ?_
  refine Go.aloadN (pc' := 6) d26_5 rfl rfl rfl ?_
  refine Go.putfield (pc' := 9) (host := "") (Or.inl (ww hw 127 rfl)) Via.refl f x (Or.inr ⟨(ww hw 128 rfl), rfl, rfl⟩) (ww hw 139 rfl) (ty := (.object "java/lang/Object")) (by decide) rfl rfl ge_a d26_6 rfl ?_
  intro h1 W2
  have K3 : Keep h h1 [a] := (Keep.refl h [a]).wr W2 (Or.inl (List.mem_of_getElem? (i := 0) rfl))
  have f4 := f.same W2
  exact Go.retV rfl d26_9 ⟨rfl, K3, f4⟩ (by decide) (by decide)
theorem d24_0 : decode jdk_32_method_3_code 0 = .ok (.new 2, 3) := by decide +kernel
theorem d24_3 : decode jdk_32_method_3_code 3 = .ok (.dup, 1) := by decide +kernel
theorem d24_4 : decode jdk_32_method_3_code 4 = .ok (.aload_n 0, 1) := by decide +kernel
theorem d24_5 : decode jdk_32_method_3_code 5 = .ok (.invokestatic 17, 3) := by decide +kernel
theorem d24_8 : decode jdk_32_method_3_code 8 = .ok (.invokespecial 23, 3) := by decide +kernel
theorem d24_11 : decode jdk_32_method_3_code 11 = .ok (.areturn, 1) := by decide +kernel
theorem pd_12 : parseMethodDescriptor "(Ljava/lang/Object;)Ljava/lang/Object;" = some ⟨[(.object "java/lang/Object")], some (.object "java/lang/Object")⟩ := by decide +kernel
theorem pd_13 : parseMethodDescriptor "(Ljava/lang/Object;)V" = some ⟨[(.object "java/lang/Object")], none⟩ := by decide +kernel
theorem c_optOf (l : Launch) (Z : State) (a0 : Array Value) (hw : ∀ d ∈ tables_1, d.before a0 Z = true) {n0 : Nat} (h : Heap) (e : Addr) :
    Con l (⟨"java/util/Optional", "of", "(Ljava/lang/Object;)Ljava/util/Optional;"⟩ : MethodName) jdk_32_method_3_code 1 (some (.object "java/util/Optional")) ({ frames := 2, cells := 1, slots := 1, locals := 26 } : Room) Z n0 #[(.ref e)] h (fun v h' => ∃ b : Addr, v = some (.ref b) ∧ Keep h h' [] ∧ n0 ≤ b ∧ h.size ≤ b ∧ Exa Z h' b "java/util/Optional" ∧ Fld Z h' b "java/util/Optional" "value" "Ljava/lang/Object;" (.ref e)) := by
  refine Con.of_go (plainFor_of_name pn_6) (Ls := #[.val (.ref e)]) (fun m => by first | (simp [entryFrame, mkF, argsToLocals, Value.category]; done) | rfl) ?_
  refine Go.new (pc' := 3) (cells' := 1) (slots' := 1) (ww hw 138 rfl) (ww hw 139 rfl) (ww hw 119 rfl) d24_0 rfl rfl (by decide) (by decide) rfl ?_
  intro h1 b1 g1 E1 ge1 A1 D1
  have sz2 : h.size ≤ b1 := Nat.le_trans (Keep.refl h []).1 (Nat.le_of_eq g1.symm)
  have K3 : Keep h h1 [] := (Keep.refl h []).ext E1
  refine Go.dup (pc' := 4) d24_3 rfl rfl ?_
  refine Go.aloadN (pc' := 5) d24_4 rfl rfl rfl ?_
  refine Go.callS (cells' := 1) (slots' := 1) (pc' := 8) [(.ref e)] [(.ref b1), (.ref b1)] (ww hw 140 rfl) (ww hw 141 rfl) (ww hw 142 rfl) (ww hw 143 rfl) (by decide) (c_rnn l Z a0 hw h1 e) pd_12 rfl rfl rfl rfl rfl (nl rfl) (nl rfl) (nl rfl) (nl rfl) d24_5 rfl ?_
  rintro _ _ ⟨rfl, rfl⟩
  show Go _ _ _ _ _ _ _ _ _ _ _ _ 8 #[.val (.ref e)] [(.ref e), (.ref b1), (.ref b1)]
  refine Go.callC (cells' := 1) (slots' := 1) (pc' := 11) [(.ref e)] [(.ref b1)] (a := b1) rfl rfl (ww hw 144 rfl) (ww hw 145 rfl) (ww hw 119 rfl) (ww hw 147 rfl) (by decide) (c_optInit l Z a0 hw h1 b1 e ge1 A1 ((D1 (Or.inr (ww hw 128 rfl)) (ty := (.object "java/lang/Object")) (by decide) : Fld Z h1 b1 "java/util/Optional" "value" "Ljava/lang/Object;" .null))) pd_13 rfl rfl rfl rfl rfl (nl rfl) (nl rfl) (nl rfl) (nl rfl) d24_8 rfl ?_
  rintro _ h5 ⟨rfl, K5, F5_0⟩
  have K6 : Keep h h5 [] := K3.trans K5 (allS (Or.inr sz2) all0)
  show Go _ _ _ _ _ _ _ _ _ _ _ _ 11 #[.val (.ref e)] [(.ref b1)]
  exact Go.retR rfl rfl rfl rfl d24_11 ⟨b1, rfl, K6, ge1, sz2, (A1.keep K5), F5_0⟩ (by decide) (by decide)
theorem d22_0 : decode jdk_32_method_1_code 0 = .ok (.getstatic 1, 3) := by decide +kernel
theorem d22_3 : decode jdk_32_method_1_code 3 = .ok (.astore_n 0, 1) := by decide +kernel
theorem d22_4 : decode jdk_32_method_1_code 4 = .ok (.aload_n 0, 1) := by decide +kernel
theorem d22_5 : decode jdk_32_method_1_code 5 = .ok (.areturn, 1) := by decide +kernel
theorem c_optEmpty (l : Launch) (Z : State) (a0 : Array Value) (hw : ∀ d ∈ tables_1, d.before a0 Z = true) {n0 : Nat} (h : Heap) (wo : Addr) (so : Sta Z Z.heap "java/util/Optional" "EMPTY" "Ljava/util/Optional;" (.ref wo)) (xo : Exa Z Z.heap wo "java/util/Optional") (fo : Fld Z Z.heap wo "java/util/Optional" "value" "Ljava/lang/Object;" .null) :
    Con l (⟨"java/util/Optional", "empty", "()Ljava/util/Optional;"⟩ : MethodName) jdk_32_method_1_code 1 (some (.object "java/util/Optional")) ({ frames := 0, cells := 0, slots := 0, locals := 0 } : Room) Z n0 #[] h (fun v h' => v = some (.ref wo) ∧ h = h') := by
  refine Con.of_go (plainFor_of_name pn_6) (Ls := #[.unset]) (fun m => by first | (simp [entryFrame, mkF, argsToLocals, Value.category]; done) | rfl) ?_
  refine Go.old (fun old1 => ?_)
  refine Go.getstatic (pc' := 3) (host := "") (Or.inl (ww hw 121 rfl)) Via.refl (so.ext old1.2) d22_0 rfl ?_
  refine Go.astoreN (pc' := 4) (Ls' := #[.val (.ref wo)]) d22_3 rfl rfl rfl ?_
  refine Go.aloadN (pc' := 5) d22_4 rfl rfl rfl ?_
  exact Go.retR rfl rfl rfl rfl d22_5 ⟨rfl, rfl⟩ (by decide) (by decide)
theorem d23_0 : decode jdk_32_method_15_code 0 = .ok (.aload_n 0, 1) := by decide +kernel
theorem d23_1 : decode jdk_32_method_15_code 1 = .ok (.getfield 13, 3) := by decide +kernel
theorem d23_4 : decode jdk_32_method_15_code 4 = .ok (.ifnull 10, 3) := by decide +kernel
theorem d23_7 : decode jdk_32_method_15_code 7 = .ok (.aload_n 0, 1) := by decide +kernel
theorem d23_8 : decode jdk_32_method_15_code 8 = .ok (.getfield 13, 3) := by decide +kernel
theorem d23_11 : decode jdk_32_method_15_code 11 = .ok (.goto 4, 3) := by decide +kernel
theorem d23_15 : decode jdk_32_method_15_code 15 = .ok (.areturn, 1) := by decide +kernel
theorem c_orElse1 (l : Launch) (Z : State) (a0 : Array Value) (hw : ∀ d ∈ tables_1, d.before a0 Z = true) {n0 : Nat} (h : Heap) (a : Addr) (e : Addr) (x : Exa Z h a "java/util/Optional") (f : Fld Z h a "java/util/Optional" "value" "Ljava/lang/Object;" (.ref e)) :
    Con l (⟨"java/util/Optional", "orElse", "(Ljava/lang/Object;)Ljava/lang/Object;"⟩ : MethodName) jdk_32_method_15_code 2 (some (.object "java/lang/Object")) ({ frames := 0, cells := 0, slots := 0, locals := 0 } : Room) Z n0 #[(.ref a), .null] h (fun v h' => v = some (.ref e) ∧ h = h') := by
  refine Con.of_go (plainFor_of_name pn_6) (Ls := #[.val (.ref a), .val .null]) (fun m => by first | (simp [entryFrame, mkF, argsToLocals, Value.category]; done) | rfl) ?_
  refine Go.aloadN (pc' := 1) d23_0 rfl rfl rfl ?_
  refine Go.getfield (pc' := 4) (host := "") (Or.inl (ww hw 127 rfl)) Via.refl f d23_1 rfl ?_
  refine Go.nullNo (pc' := 7) d23_4 rfl nofun rfl ?_
  refine Go.aloadN (pc' := 8) d23_7 rfl rfl rfl ?_
  refine Go.getfield (pc' := 11) (host := "") (Or.inl (ww hw 127 rfl)) Via.refl f d23_8 rfl ?_
  refine Go.goto (pc' := 15) d23_11 (by decide) (by decide) ?_
  exact Go.retR rfl rfl rfl rfl d23_15 ⟨rfl, rfl⟩ (by decide) (by decide)
theorem d23_14 : decode jdk_32_method_15_code 14 = .ok (.aload_n 1, 1) := by decide +kernel
theorem c_orElse0 (l : Launch) (Z : State) (a0 : Array Value) (hw : ∀ d ∈ tables_1, d.before a0 Z = true) {n0 : Nat} (h : Heap) (a : Addr) (x : Exa Z h a "java/util/Optional") (f : Fld Z h a "java/util/Optional" "value" "Ljava/lang/Object;" .null) :
    Con l (⟨"java/util/Optional", "orElse", "(Ljava/lang/Object;)Ljava/lang/Object;"⟩ : MethodName) jdk_32_method_15_code 2 (some (.object "java/lang/Object")) ({ frames := 0, cells := 0, slots := 0, locals := 0 } : Room) Z n0 #[(.ref a), .null] h (fun v h' => v = some .null ∧ h = h') := by
  refine Con.of_go (plainFor_of_name pn_6) (Ls := #[.val (.ref a), .val .null]) (fun m => by first | (simp [entryFrame, mkF, argsToLocals, Value.category]; done) | rfl) ?_
  refine Go.aloadN (pc' := 1) d23_0 rfl rfl rfl ?_
  refine Go.getfield (pc' := 4) (host := "") (Or.inl (ww hw 127 rfl)) Via.refl f d23_1 rfl ?_
  refine Go.nullYes (pc' := 14) d23_4 rfl (by decide) (by decide) ?_
  refine Go.aloadN (pc' := 15) d23_14 rfl rfl rfl ?_
  exact Go.retR rfl rfl rfl rfl d23_15 ⟨rfl, rfl⟩ (by decide) (by decide)
theorem d21_0 : decode prog_8_method_1_code 0 = .ok (.getstatic 16, 3) := by decide +kernel
theorem d21_3 : decode prog_8_method_1_code 3 = .ok (.invokevirtual 20, 3) := by decide +kernel
theorem d21_6 : decode prog_8_method_1_code 6 = .ok (.checkcast 21, 3) := by decide +kernel
theorem d21_9 : decode prog_8_method_1_code 9 = .ok (.areturn, 1) := by decide +kernel
theorem pn_7 : plainName "com/example/huron/huron/io/config/AuthenticatorKind" = true := by first | (simp [plainName, overriddenIn]; done) | decide +kernel
theorem c_values (l : Launch) (Z : State) (a0 : Array Value) (hw : ∀ d ∈ tables_1, d.before a0 Z = true) {n0 : Nat} (h : Heap) (wV : Addr) (kV : ClassId) (w0 : Addr) (s0 : Addr) (t0 : Addr) (kt0 : ClassId) (w1 : Addr) (s1 : Addr) (t1 : Addr) (kt1 : ClassId) (w2 : Addr) (s2 : Addr) (t2 : Addr) (kt2 : ClassId) (w3 : Addr) (s3 : Addr) (t3 : Addr) (kt3 : ClassId) (hKS : KS Z wV kV w0 s0 t0 kt0 w1 s1 t1 kt1 w2 s2 t2 kt2 w3 s3 t3 kt3) :
    Con l (⟨"com/example/huron/huron/io/config/AuthenticatorKind", "values", "()[Lcom/example/huron/huron/io/config/AuthenticatorKind;"⟩ : MethodName) prog_8_method_1_code 0 (some (.array (.object "com/example/huron/huron/io/config/AuthenticatorKind"))) ({ frames := 1, cells := 1, slots := 4, locals := 14 } : Room) Z n0 #[] h (fun v h' => ∃ r : Addr, v = some (.ref r) ∧ Keep h h' [] ∧ n0 ≤ r ∧ h.size ≤ r ∧ Arv Z h' r kV (.object "com/example/huron/huron/io/config/AuthenticatorKind") (4 : Int32) [(.ref w0), (.ref w1), (.ref w2), (.ref w3)] .null ∧ Exa Z h' r "[Lcom/example/huron/huron/io/config/AuthenticatorKind;") := by
  obtain ⟨sv, vv, xv, sk0, xk0, fk0, xs0, cs0, gs0, vs0, sk1, xk1, fk1, xs1, cs1, gs1, vs1, sk2, xk2, fk2, xs2, cs2, gs2, vs2, sk3, xk3, fk3, xs3, cs3, gs3, vs3⟩ := id hKS
  refine Con.of_go (plainFor_of_name pn_7) (Ls := #[]) (fun m => by first | (simp [entryFrame, mkF, argsToLocals, Value.category]; done) | rfl) ?_
  refine Go.old (fun old1 => ?_)
  refine Go.getstatic (pc' := 3) (host := "") (Or.inl (ww hw 98 rfl)) Via.refl (sv.ext old1.2) d21_0 rfl ?_
  refine Go.clone (pc' := 6) (cells' := 1) (slots' := 4) (cap := 4) (ww hw 100 rfl) (ww hw 101 rfl) (ww hw 105 rfl) (ww hw 103 rfl) (ww hw 104 rfl) (ww hw 106 rfl) (vv.ext old1.2) (xv.ext old1.2) d21_3 rfl (nl rfl) (nl rfl) (by decide) rfl rfl (nl rfl) (nl rfl) rfl ?_
  intro h2 b2 g2 E2 ge2 V2 X2
  have sz3 : h.size ≤ b2 := Nat.le_trans (Keep.refl h []).1 (Nat.le_of_eq g2.symm)
  have K4 : Keep h h2 [] := (Keep.refl h []).ext E2
  refine Go.castY (pc' := 9) (ww hw 112 rfl) (Ins.self X2) d21_6 rfl ?_
  exact Go.retR rfl rfl rfl rfl d21_9 ⟨b2, rfl, K4, ge2, sz3, V2, X2⟩ (by decide) (by decide)
theorem d17_0 : decode method_3_code 0 = .ok (.aload_n 0, 1) := by decide +kernel
theorem d17_1 : decode method_3_code 1 = .ok (.ldc 43, 2) := by decide +kernel
theorem d17_3 : decode method_3_code 3 = .ok (.invokevirtual 45, 3) := by decide +kernel
theorem d17_6 : decode method_3_code 6 = .ok (.ifCond .eq 7, 3) := by decide +kernel
theorem d17_13 : decode method_3_code 13 = .ok (.aload_n 0, 1) := by decide +kernel
theorem d17_14 : decode method_3_code 14 = .ok (.ldc 53, 2) := by decide +kernel
theorem d17_16 : decode method_3_code 16 = .ok (.invokevirtual 45, 3) := by decide +kernel
theorem d17_19 : decode method_3_code 19 = .ok (.ifCond .eq 7, 3) := by decide +kernel
theorem d17_26 : decode method_3_code 26 = .ok (.aload_n 0, 1) := by decide +kernel
theorem d17_27 : decode method_3_code 27 = .ok (.ldc 58, 2) := by decide +kernel
theorem d17_29 : decode method_3_code 29 = .ok (.invokevirtual 45, 3) := by decide +kernel
theorem d17_32 : decode method_3_code 32 = .ok (.ifCond .eq 7, 3) := by decide +kernel
theorem d17_39 : decode method_3_code 39 = .ok (.aload_n 0, 1) := by decide +kernel
theorem d17_40 : decode method_3_code 40 = .ok (.ldc 63, 2) := by decide +kernel
theorem d17_42 : decode method_3_code 42 = .ok (.invokevirtual 45, 3) := by decide +kernel
theorem d17_45 : decode method_3_code 45 = .ok (.ifCond .eq 7, 3) := by decide +kernel
theorem d17_52 : decode method_3_code 52 = .ok (.aconst_null, 1) := by decide +kernel
theorem d17_53 : decode method_3_code 53 = .ok (.areturn, 1) := by decide +kernel
theorem pd_14 : parseMethodDescriptor "(Ljava/lang/Object;)Z" = some ⟨[(.object "java/lang/Object")], some .boolean⟩ := by decide +kernel
theorem c_expz_n (l : Launch) (Z : State) (a0 : Array Value) (hw : ∀ d ∈ tables_1, d.before a0 Z = true) {n0 : Nat} (h : Heap) (a : Addr) (b : Addr) (kb : ClassId) (z : Int32) (vs : List Value) (tt : String) (tw : Addr) (tb : Addr) (to : String) (ti : Nat) (wV : Addr) (kV : ClassId) (w0 : Addr) (s0 : Addr) (t0 : Addr) (kt0 : ClassId) (w1 : Addr) (s1 : Addr) (t1 : Addr) (kt1 : ClassId) (w2 : Addr) (s2 : Addr) (t2 : Addr) (kt2 : ClassId) (w3 : Addr) (s3 : Addr) (t3 : Addr) (kt3 : ClassId) (cp : Int32) (hKS : KS Z wV kV w0 s0 t0 kt0 w1 s1 t1 kt1 w2 s2 t2 kt2 w3 s3 t3 kt3) (hcp : ¬ (cp = (0 : Int32))) (hcw : Jvm.Lit.compactW.before a0 Z = true) (hch43 : Jvm.Lit.constHeld Z "com/example/huron/huron/io/config/AuthenticatorKindNamedPinLaw" 43) (hch53 : Jvm.Lit.constHeld Z "com/example/huron/huron/io/config/AuthenticatorKindNamedPinLaw" 53) (hch58 : Jvm.Lit.constHeld Z "com/example/huron/huron/io/config/AuthenticatorKindNamedPinLaw" 58) (hch63 : Jvm.Lit.constHeld Z "com/example/huron/huron/io/config/AuthenticatorKindNamedPinLaw" 63) (hz4 : ¬ (z = (4 : Int32))) (hy4 : z.toNatClampNeg ≠ (4 : Int32).toNatClampNeg) (hx4 : ¬ ((4 : Int32) = z)) (hu4 : (4 : Int32).toNatClampNeg ≠ z.toNatClampNeg) (hz5 : ¬ (z = (5 : Int32))) (hy5 : z.toNatClampNeg ≠ (5 : Int32).toNatClampNeg) (hx5 : ¬ ((5 : Int32) = z)) (hu5 : (5 : Int32).toNatClampNeg ≠ z.toNatClampNeg) (scp : Sta Z Z.heap "java/lang/String" "COMPACT_STRINGS" "Z" (.int cp)) (xa : Exa Z h a "java/lang/String") (fa : Fld Z h a "java/lang/String" "coder" "B" (.int (0 : Int32))) (ga : Fld Z h a "java/lang/String" "value" "[B" (.ref b)) (v : Arv Z h b kb .byte z vs (.int 0)) (HT : Hel Z h tw tb tt) :
    ConS l (⟨"com/example/huron/huron/io/config/AuthenticatorKindNamedPinLaw", "expected", "(Ljava/lang/String;)Lcom/example/huron/huron/io/config/AuthenticatorKind;"⟩ : MethodName) method_3_code 1 (some (.object "com/example/huron/huron/io/config/AuthenticatorKind")) ({ frames := 2, cells := 8, slots := 84, locals := 28 } : Room) Z n0 #[(.ref a)] h [(tt, tw, to, ti)] (fun v h' LL' => v = some .null ∧ Keep h h' []) := by
  obtain ⟨sv, vv, xv, sk0, xk0, fk0, xs0, cs0, gs0, vs0, sk1, xk1, fk1, xs1, cs1, gs1, vs1, sk2, xk2, fk2, xs2, cs2, gs2, vs2, sk3, xk3, fk3, xs3, cs3, gs3, vs3⟩ := id hKS
  refine ConS.of_go (plainFor_of_name pn_2) (Ls := #[.val (.ref a)]) (fun m => by first | (simp [entryFrame, mkF, argsToLocals, Value.category]; done) | rfl) ?_
  refine GoS.aloadN (pc' := 1) d17_0 rfl rfl rfl ?_
  refine GoS.ldcS (pc' := 3) (cells' := 2) (slots' := 24) (n := 20) (z := (5 : Int32)) (vs := [(.int (108 : Int32)), (.int (111 : Int32)), (.int (99 : Int32)), (.int (97 : Int32)), (.int (108 : Int32))]) (ww hw 4 rfl) (wsA hw) hch43 hcw (Keep.refl h []) (HL.yes (ww hw 6 rfl) HT HL.nil) tx_0 (by decide) rfl d17_1 (nl rfl) (nl rfl) rfl rfl (nl rfl) (nl rfl) rfl ?_
  intro h1 sa1 sb1 kb1 E1 F1_0 F1_1 F1_2 F1_3 F1_4 F1_5
  have K2 : Keep h h1 [] := (Keep.refl h []).ext E1
  have H3 : Hel Z h1 sa1 sb1 "local" := ⟨kb1, _, _, F1_0, F1_1, F1_2, F1_3, F1_4, tx_0, rfl⟩
  show GoS _ _ _ _ _ _ _ _ _ _ _ _ _ _ 3 #[.val (.ref a)] [(.ref sa1), (.ref a)]
  refine GoS.callV (cells' := 2) (slots' := 24) (pc' := 6) [(.ref sa1)] [] (xa.ext E1) (ww hw 79 rfl) (ww hw 80 rfl) (fun s' hs' => notFace_of_selects (args := #[]) (mvT hs' (ww hw 82 rfl))) (ww hw 82 rfl) (ww hw 81 rfl) (ww hw 5 rfl) (ww hw 83 rfl) (by decide) (Con.cold (c_strNe l Z a0 hw h1 a b kb sa1 sb1 kb1 z vs (5 : Int32) ([(.int (108 : Int32)), (.int (111 : Int32)), (.int (99 : Int32)), (.int (97 : Int32)), (.int (108 : Int32))]) cp hcp hz5 hy5 scp (xa.ext E1) (fa.ext E1) (ga.ext E1) (v.ext E1) F1_0 F1_1 F1_2 F1_3)) pd_14 rfl rfl rfl rfl rfl (nl rfl) (nl rfl) (nl rfl) (nl rfl) d17_3 rfl ?_
  rintro _ _ _ ⟨⟨rfl, rfl⟩, rfl⟩
  show GoS _ _ _ _ _ _ _ _ _ _ _ _ _ _ 6 #[.val (.ref a)] [(.int (0 : Int32))]
  refine GoS.ifYes (pc' := 13) d17_6 (XT.i0_eq_t (by decide)) (by decide) (by decide) ?_
  refine GoS.aloadN (pc' := 14) d17_13 rfl rfl rfl ?_
  refine GoS.ldcS (pc' := 16) (cells' := 4) (slots' := 44) (n := 16) (z := (4 : Int32)) (vs := [(.int (108 : Int32)), (.int (100 : Int32)), (.int (97 : Int32)), (.int (112 : Int32))]) (ww hw 88 rfl) (wsA hw) hch53 hcw K2 (HL.no (by decide) (HL.yes (ww hw 6 rfl) HT HL.nil)) tx_1 (by decide) rfl d17_14 (nl rfl) (nl rfl) rfl rfl (nl rfl) (nl rfl) rfl ?_
  intro h5 sa5 sb5 kb5 E5 F5_0 F5_1 F5_2 F5_3 F5_4 F5_5
  have K6 : Keep h h5 [] := K2.ext E5
  have H7 : Hel Z h5 sa5 sb5 "ldap" := ⟨kb5, _, _, F5_0, F5_1, F5_2, F5_3, F5_4, tx_1, rfl⟩
  show GoS _ _ _ _ _ _ _ _ _ _ _ _ _ _ 16 #[.val (.ref a)] [(.ref sa5), (.ref a)]
  refine GoS.callV (cells' := 4) (slots' := 44) (pc' := 19) [(.ref sa5)] [] ((xa.ext E1).ext E5) (ww hw 79 rfl) (ww hw 80 rfl) (fun s' hs' => notFace_of_selects (args := #[]) (mvT hs' (ww hw 82 rfl))) (ww hw 82 rfl) (ww hw 81 rfl) (ww hw 5 rfl) (ww hw 83 rfl) (by decide) (Con.cold (c_strNe l Z a0 hw h5 a b kb sa5 sb5 kb5 z vs (4 : Int32) ([(.int (108 : Int32)), (.int (100 : Int32)), (.int (97 : Int32)), (.int (112 : Int32))]) cp hcp hz4 hy4 scp (((xa.ext E1).ext E5)) (((fa.ext E1).ext E5)) (((ga.ext E1).ext E5)) (((v.ext E1).ext E5)) F5_0 F5_1 F5_2 F5_3)) pd_14 rfl rfl rfl rfl rfl (nl rfl) (nl rfl) (nl rfl) (nl rfl) d17_16 rfl ?_
  rintro _ _ _ ⟨⟨rfl, rfl⟩, rfl⟩
  show GoS _ _ _ _ _ _ _ _ _ _ _ _ _ _ 19 #[.val (.ref a)] [(.int (0 : Int32))]
  refine GoS.ifYes (pc' := 26) d17_19 (XT.i0_eq_t (by decide)) (by decide) (by decide) ?_
  refine GoS.aloadN (pc' := 27) d17_26 rfl rfl rfl ?_
  refine GoS.ldcS (pc' := 29) (cells' := 6) (slots' := 64) (n := 16) (z := (4 : Int32)) (vs := [(.int (111 : Int32)), (.int (105 : Int32)), (.int (100 : Int32)), (.int (99 : Int32))]) (ww hw 89 rfl) (wsA hw) hch58 hcw K6 (HL.no (by decide) (HL.no (by decide) (HL.yes (ww hw 6 rfl) HT HL.nil))) tx_2 (by decide) rfl d17_27 (nl rfl) (nl rfl) rfl rfl (nl rfl) (nl rfl) rfl ?_
  intro h9 sa9 sb9 kb9 E9 F9_0 F9_1 F9_2 F9_3 F9_4 F9_5
  have K10 : Keep h h9 [] := K6.ext E9
  have H11 : Hel Z h9 sa9 sb9 "oidc" := ⟨kb9, _, _, F9_0, F9_1, F9_2, F9_3, F9_4, tx_2, rfl⟩
  show GoS _ _ _ _ _ _ _ _ _ _ _ _ _ _ 29 #[.val (.ref a)] [(.ref sa9), (.ref a)]
  refine GoS.callV (cells' := 6) (slots' := 64) (pc' := 32) [(.ref sa9)] [] (((xa.ext E1).ext E5).ext E9) (ww hw 79 rfl) (ww hw 80 rfl) (fun s' hs' => notFace_of_selects (args := #[]) (mvT hs' (ww hw 82 rfl))) (ww hw 82 rfl) (ww hw 81 rfl) (ww hw 5 rfl) (ww hw 83 rfl) (by decide) (Con.cold (c_strNe l Z a0 hw h9 a b kb sa9 sb9 kb9 z vs (4 : Int32) ([(.int (111 : Int32)), (.int (105 : Int32)), (.int (100 : Int32)), (.int (99 : Int32))]) cp hcp hz4 hy4 scp ((((xa.ext E1).ext E5).ext E9)) ((((fa.ext E1).ext E5).ext E9)) ((((ga.ext E1).ext E5).ext E9)) ((((v.ext E1).ext E5).ext E9)) F9_0 F9_1 F9_2 F9_3)) pd_14 rfl rfl rfl rfl rfl (nl rfl) (nl rfl) (nl rfl) (nl rfl) d17_29 rfl ?_
  rintro _ _ _ ⟨⟨rfl, rfl⟩, rfl⟩
  show GoS _ _ _ _ _ _ _ _ _ _ _ _ _ _ 32 #[.val (.ref a)] [(.int (0 : Int32))]
  refine GoS.ifYes (pc' := 39) d17_32 (XT.i0_eq_t (by decide)) (by decide) (by decide) ?_
  refine GoS.aloadN (pc' := 40) d17_39 rfl rfl rfl ?_
  refine GoS.ldcS (pc' := 42) (cells' := 8) (slots' := 84) (n := 16) (z := (4 : Int32)) (vs := [(.int (115 : Int32)), (.int (97 : Int32)), (.int (109 : Int32)), (.int (108 : Int32))]) (ww hw 90 rfl) (wsA hw) hch63 hcw K10 (HL.no (by decide) (HL.no (by decide) (HL.no (by decide) (HL.yes (ww hw 6 rfl) HT HL.nil)))) tx_3 (by decide) rfl d17_40 (nl rfl) (nl rfl) rfl rfl (nl rfl) (nl rfl) rfl ?_
  intro h13 sa13 sb13 kb13 E13 F13_0 F13_1 F13_2 F13_3 F13_4 F13_5
  have K14 : Keep h h13 [] := K10.ext E13
  have H15 : Hel Z h13 sa13 sb13 "saml" := ⟨kb13, _, _, F13_0, F13_1, F13_2, F13_3, F13_4, tx_3, rfl⟩
  show GoS _ _ _ _ _ _ _ _ _ _ _ _ _ _ 42 #[.val (.ref a)] [(.ref sa13), (.ref a)]
  refine GoS.callV (cells' := 8) (slots' := 84) (pc' := 45) [(.ref sa13)] [] ((((xa.ext E1).ext E5).ext E9).ext E13) (ww hw 79 rfl) (ww hw 80 rfl) (fun s' hs' => notFace_of_selects (args := #[]) (mvT hs' (ww hw 82 rfl))) (ww hw 82 rfl) (ww hw 81 rfl) (ww hw 5 rfl) (ww hw 83 rfl) (by decide) (Con.cold (c_strNe l Z a0 hw h13 a b kb sa13 sb13 kb13 z vs (4 : Int32) ([(.int (115 : Int32)), (.int (97 : Int32)), (.int (109 : Int32)), (.int (108 : Int32))]) cp hcp hz4 hy4 scp (((((xa.ext E1).ext E5).ext E9).ext E13)) (((((fa.ext E1).ext E5).ext E9).ext E13)) (((((ga.ext E1).ext E5).ext E9).ext E13)) (((((v.ext E1).ext E5).ext E9).ext E13)) F13_0 F13_1 F13_2 F13_3)) pd_14 rfl rfl rfl rfl rfl (nl rfl) (nl rfl) (nl rfl) (nl rfl) d17_42 rfl ?_
  rintro _ _ _ ⟨⟨rfl, rfl⟩, rfl⟩
  show GoS _ _ _ _ _ _ _ _ _ _ _ _ _ _ 45 #[.val (.ref a)] [(.int (0 : Int32))]
  refine GoS.ifYes (pc' := 52) d17_45 (XT.i0_eq_t (by decide)) (by decide) (by decide) ?_
  refine GoS.aconstNull (pc' := 53) d17_52 rfl ?_
  exact GoS.retR rfl rfl rfl rfl d17_53 ⟨rfl, K14⟩ (by decide) (by decide)
theorem d20_0 : decode prog_8_method_4_code 0 = .ok (.invokestatic 39, 3) := by decide +kernel
theorem d20_3 : decode prog_8_method_4_code 3 = .ok (.astore_n 1, 1) := by decide +kernel
theorem d20_4 : decode prog_8_method_4_code 4 = .ok (.aload_n 1, 1) := by decide +kernel
theorem d20_5 : decode prog_8_method_4_code 5 = .ok (.arraylength, 1) := by decide +kernel
theorem d20_6 : decode prog_8_method_4_code 6 = .ok (.istore_n 2, 1) := by decide +kernel
theorem d20_7 : decode prog_8_method_4_code 7 = .ok (.iconst 0, 1) := by decide +kernel
theorem d20_8 : decode prog_8_method_4_code 8 = .ok (.istore_n 3, 1) := by decide +kernel
theorem d20_9 : decode prog_8_method_4_code 9 = .ok (.iload_n 3, 1) := by decide +kernel
theorem d20_10 : decode prog_8_method_4_code 10 = .ok (.iload_n 2, 1) := by decide +kernel
theorem d20_11 : decode prog_8_method_4_code 11 = .ok (.if_icmp .ge 32, 3) := by decide +kernel
theorem d20_14 : decode prog_8_method_4_code 14 = .ok (.aload_n 1, 1) := by decide +kernel
theorem d20_15 : decode prog_8_method_4_code 15 = .ok (.iload_n 3, 1) := by decide +kernel
theorem d20_16 : decode prog_8_method_4_code 16 = .ok (.aaload, 1) := by decide +kernel
theorem d20_17 : decode prog_8_method_4_code 17 = .ok (.astore 4, 2) := by decide +kernel
theorem d20_19 : decode prog_8_method_4_code 19 = .ok (.aload 4, 2) := by decide +kernel
theorem d20_21 : decode prog_8_method_4_code 21 = .ok (.getfield 35, 3) := by decide +kernel
theorem d20_24 : decode prog_8_method_4_code 24 = .ok (.aload_n 0, 1) := by decide +kernel
theorem d20_25 : decode prog_8_method_4_code 25 = .ok (.invokevirtual 43, 3) := by decide +kernel
theorem d20_28 : decode prog_8_method_4_code 28 = .ok (.ifCond .eq 9, 3) := by decide +kernel
theorem d20_37 : decode prog_8_method_4_code 37 = .ok (.iinc 3 1, 3) := by decide +kernel
theorem d20_40 : decode prog_8_method_4_code 40 = .ok (.goto (-31), 3) := by decide +kernel
theorem d20_43 : decode prog_8_method_4_code 43 = .ok (.invokestatic 55, 3) := by decide +kernel
theorem d20_46 : decode prog_8_method_4_code 46 = .ok (.areturn, 1) := by decide +kernel
theorem pd_15 : parseMethodDescriptor "()[Lcom/example/huron/huron/io/config/AuthenticatorKind;" = some ⟨[], some (.array (.object "com/example/huron/huron/io/config/AuthenticatorKind"))⟩ := by decide +kernel
theorem pd_16 : parseMethodDescriptor "()Ljava/util/Optional;" = some ⟨[], some (.object "java/util/Optional")⟩ := by decide +kernel
theorem c_namedz_n (l : Launch) (Z : State) (a0 : Array Value) (hw : ∀ d ∈ tables_1, d.before a0 Z = true) {n0 : Nat} (h : Heap) (a : Addr) (b : Addr) (kb : ClassId) (z : Int32) (vs : List Value) (wV : Addr) (kV : ClassId) (w0 : Addr) (s0 : Addr) (t0 : Addr) (kt0 : ClassId) (w1 : Addr) (s1 : Addr) (t1 : Addr) (kt1 : ClassId) (w2 : Addr) (s2 : Addr) (t2 : Addr) (kt2 : ClassId) (w3 : Addr) (s3 : Addr) (t3 : Addr) (kt3 : ClassId) (cp : Int32) (wo : Addr) (hKS : KS Z wV kV w0 s0 t0 kt0 w1 s1 t1 kt1 w2 s2 t2 kt2 w3 s3 t3 kt3) (hcp : ¬ (cp = (0 : Int32))) (hz4 : ¬ (z = (4 : Int32))) (hy4 : z.toNatClampNeg ≠ (4 : Int32).toNatClampNeg) (hx4 : ¬ ((4 : Int32) = z)) (hu4 : (4 : Int32).toNatClampNeg ≠ z.toNatClampNeg) (hz5 : ¬ (z = (5 : Int32))) (hy5 : z.toNatClampNeg ≠ (5 : Int32).toNatClampNeg) (hx5 : ¬ ((5 : Int32) = z)) (hu5 : (5 : Int32).toNatClampNeg ≠ z.toNatClampNeg) (scp : Sta Z Z.heap "java/lang/String" "COMPACT_STRINGS" "Z" (.int cp)) (so : Sta Z Z.heap "java/util/Optional" "EMPTY" "Ljava/util/Optional;" (.ref wo)) (xo : Exa Z Z.heap wo "java/util/Optional") (fo : Fld Z Z.heap wo "java/util/Optional" "value" "Ljava/lang/Object;" .null) (xa : Exa Z h a "java/lang/String") (fa : Fld Z h a "java/lang/String" "coder" "B" (.int (0 : Int32))) (ga : Fld Z h a "java/lang/String" "value" "[B" (.ref b)) (v : Arv Z h b kb .byte z vs (.int 0)) :
    Con l (⟨"com/example/huron/huron/io/config/AuthenticatorKind", "named", "(Ljava/lang/String;)Ljava/util/Optional;"⟩ : MethodName) prog_8_method_4_code 5 (some (.object "java/util/Optional")) ({ frames := 2, cells := 1, slots := 4, locals := 28 } : Room) Z n0 #[(.ref a)] h (fun v h' => v = some (.ref wo) ∧ Keep h h' []) := by
  obtain ⟨sv, vv, xv, sk0, xk0, fk0, xs0, cs0, gs0, vs0, sk1, xk1, fk1, xs1, cs1, gs1, vs1, sk2, xk2, fk2, xs2, cs2, gs2, vs2, sk3, xk3, fk3, xs3, cs3, gs3, vs3⟩ := id hKS
  refine Con.of_go (plainFor_of_name pn_7) (Ls := #[.val (.ref a), .unset, .unset, .unset, .unset]) (fun m => by first | (simp [entryFrame, mkF, argsToLocals, Value.category]; done) | rfl) ?_
  refine Go.callS (cells' := 1) (slots' := 4) (pc' := 3) [] [] (ww hw 95 rfl) (ww hw 96 rfl) (ww hw 93 rfl) (ww hw 97 rfl) (by decide) (c_values l Z a0 hw h wV kV w0 s0 t0 kt0 w1 s1 t1 kt1 w2 s2 t2 kt2 w3 s3 t3 kt3 hKS) pd_15 rfl rfl rfl rfl rfl (nl rfl) (nl rfl) (nl rfl) (nl rfl) d20_0 rfl ?_
  rintro _ h1 ⟨r_1, rfl, K1, ge_r_1, sz_r_1, F1_0, F1_1⟩
  have sz2 : h.size ≤ r_1 := Nat.le_trans (Keep.refl h []).1 sz_r_1
  have K3 : Keep h h1 [] := (Keep.refl h []).trans K1 all0
  show Go _ _ _ _ _ _ _ _ _ _ _ _ 3 #[.val (.ref a), .unset, .unset, .unset, .unset] [(.ref r_1)]
  refine Go.astoreN (pc' := 4) (Ls' := #[.val (.ref a), .val (.ref r_1), .unset, .unset, .unset]) d20_3 rfl rfl rfl ?_
  refine Go.aloadN (pc' := 5) d20_4 rfl rfl rfl ?_
  refine Go.arraylength (pc' := 6) F1_0 d20_5 rfl ?_
  refine Go.istoreN (pc' := 7) (Ls' := #[.val (.ref a), .val (.ref r_1), .val (.int (4 : Int32)), .unset, .unset]) d20_6 rfl rfl ?_
  refine Go.iconst (pc' := 8) (v := (0 : Int32)) d20_7 rfl rfl ?_
  refine Go.istoreN (pc' := 9) (Ls' := #[.val (.ref a), .val (.ref r_1), .val (.int (4 : Int32)), .val (.int (0 : Int32)), .unset]) d20_8 rfl rfl ?_
  refine Go.iloadN (pc' := 10) d20_9 rfl rfl ?_
  refine Go.iloadN (pc' := 11) d20_10 rfl rfl ?_
  refine Go.icmpNo (pc' := 14) d20_11 (XT.ii_ge_f (by decide)) rfl ?_
  refine Go.aloadN (pc' := 15) d20_14 rfl rfl rfl ?_
  refine Go.iloadN (pc' := 16) d20_15 rfl rfl ?_
  refine Go.aaload (pc' := 17) (v := (.ref w0)) F1_0 rfl d20_16 (by decide) (by decide) rfl rfl ?_
  refine Go.astore (pc' := 19) (Ls' := #[.val (.ref a), .val (.ref r_1), .val (.int (4 : Int32)), .val (.int (0 : Int32)), .val (.ref w0)]) d20_17 rfl rfl rfl ?_
  refine Go.aload (pc' := 21) d20_19 rfl rfl rfl ?_
  refine Go.old (fun old4 => ?_)
  refine Go.getfield (pc' := 24) (host := "") (Or.inl (ww hw 114 rfl)) Via.refl (fk0.ext old4.2) d20_21 rfl ?_
  refine Go.aloadN (pc' := 25) d20_24 rfl rfl rfl ?_
  refine Go.callV (cells' := 1) (slots' := 4) (pc' := 28) [(.ref a)] [] (xs0.ext old4.2) (ww hw 116 rfl) (ww hw 80 rfl) (fun s' hs' => notFace_of_selects (args := #[]) (mvT hs' (ww hw 82 rfl))) (ww hw 82 rfl) (ww hw 81 rfl) (ww hw 5 rfl) (ww hw 83 rfl) (by decide) (c_strNe l Z a0 hw h1 s0 t0 kt0 a b kb (5 : Int32) ([(.int (108 : Int32)), (.int (111 : Int32)), (.int (99 : Int32)), (.int (97 : Int32)), (.int (108 : Int32))]) z vs cp hcp hx5 hu5 scp (xs0.ext old4.2) (cs0.ext old4.2) (gs0.ext old4.2) (vs0.ext old4.2) (xa.keep K1) (fa.keep K1 nin0) (ga.keep K1 nin0) (v.keep K1 nin0)) pd_14 rfl rfl rfl rfl rfl (nl rfl) (nl rfl) (nl rfl) (nl rfl) d20_25 rfl ?_
  rintro _ _ ⟨rfl, rfl⟩
  show Go _ _ _ _ _ _ _ _ _ _ _ _ 28 #[.val (.ref a), .val (.ref r_1), .val (.int (4 : Int32)), .val (.int (0 : Int32)), .val (.ref w0)] [(.int (0 : Int32))]
  refine Go.ifYes (pc' := 37) d20_28 (XT.i0_eq_t (by decide)) (by decide) (by decide) ?_
  refine Go.iinc (pc' := 40) (Ls' := #[.val (.ref a), .val (.ref r_1), .val (.int (4 : Int32)), .val (.int ((0 : Int32) + (1 : Int32))), .val (.ref w0)]) (w := (1 : Int32)) d20_37 rfl rfl rfl rfl ?_
  show Go _ _ _ _ _ _ _ _ _ _ _ _ 40 #[.val (.ref a), .val (.ref r_1), .val (.int (4 : Int32)), .val (.int (1 : Int32)), .val (.ref w0)] []
  refine Go.goto (pc' := 9) d20_40 (by decide) (by decide) ?_
  refine Go.iloadN (pc' := 10) d20_9 rfl rfl ?_
  refine Go.iloadN (pc' := 11) d20_10 rfl rfl ?_
  refine Go.icmpNo (pc' := 14) d20_11 (XT.ii_ge_f (by decide)) rfl ?_
  refine Go.aloadN (pc' := 15) d20_14 rfl rfl rfl ?_
  refine Go.iloadN (pc' := 16) d20_15 rfl rfl ?_
  refine Go.aaload (pc' := 17) (v := (.ref w1)) F1_0 rfl d20_16 (by decide) (by decide) rfl rfl ?_
  refine Go.astore (pc' := 19) (Ls' := #[.val (.ref a), .val (.ref r_1), .val (.int (4 : Int32)), .val (.int (1 : Int32)), .val (.ref w1)]) d20_17 rfl rfl rfl ?_
  refine Go.aload (pc' := 21) d20_19 rfl rfl rfl ?_
  refine Go.getfield (pc' := 24) (host := "") (Or.inl (ww hw 114 rfl)) Via.refl (fk1.ext old4.2) d20_21 rfl ?_
  refine Go.aloadN (pc' := 25) d20_24 rfl rfl rfl ?_
  refine Go.callV (cells' := 1) (slots' := 4) (pc' := 28) [(.ref a)] [] (xs1.ext old4.2) (ww hw 116 rfl) (ww hw 80 rfl) (fun s' hs' => notFace_of_selects (args := #[]) (mvT hs' (ww hw 82 rfl))) (ww hw 82 rfl) (ww hw 81 rfl) (ww hw 5 rfl) (ww hw 83 rfl) (by decide) (c_strNe l Z a0 hw h1 s1 t1 kt1 a b kb (4 : Int32) ([(.int (108 : Int32)), (.int (100 : Int32)), (.int (97 : Int32)), (.int (112 : Int32))]) z vs cp hcp hx4 hu4 scp (xs1.ext old4.2) (cs1.ext old4.2) (gs1.ext old4.2) (vs1.ext old4.2) (xa.keep K1) (fa.keep K1 nin0) (ga.keep K1 nin0) (v.keep K1 nin0)) pd_14 rfl rfl rfl rfl rfl (nl rfl) (nl rfl) (nl rfl) (nl rfl) d20_25 rfl ?_
  rintro _ _ ⟨rfl, rfl⟩
  show Go _ _ _ _ _ _ _ _ _ _ _ _ 28 #[.val (.ref a), .val (.ref r_1), .val (.int (4 : Int32)), .val (.int (1 : Int32)), .val (.ref w1)] [(.int (0 : Int32))]
  refine Go.ifYes (pc' := 37) d20_28 (XT.i0_eq_t (by decide)) (by decide) (by decide) ?_
  refine Go.iinc (pc' := 40) (Ls' := #[.val (.ref a), .val (.ref r_1), .val (.int (4 : Int32)), .val (.int ((1 : Int32) + (1 : Int32))), .val (.ref w1)]) (w := (1 : Int32)) d20_37 rfl rfl rfl rfl ?_
  show Go _ _ _ _ _ _ _ _ _ _ _ _ 40 #[.val (.ref a), .val (.ref r_1), .val (.int (4 : Int32)), .val (.int (2 : Int32)), .val (.ref w1)] []
  refine Go.goto (pc' := 9) d20_40 (by decide) (by decide) ?_
  refine Go.iloadN (pc' := 10) d20_9 rfl rfl ?_
  refine Go.iloadN (pc' := 11) d20_10 rfl rfl ?_
  refine Go.icmpNo (pc' := 14) d20_11 (XT.ii_ge_f (by decide)) rfl ?_
  refine Go.aloadN (pc' := 15) d20_14 rfl rfl rfl ?_
  refine Go.iloadN (pc' := 16) d20_15 rfl rfl ?_
  refine Go.aaload (pc' := 17) (v := (.ref w2)) F1_0 rfl d20_16 (by decide) (by decide) rfl rfl ?_
  refine Go.astore (pc' := 19) (Ls' := #[.val (.ref a), .val (.ref r_1), .val (.int (4 : Int32)), .val (.int (2 : Int32)), .val (.ref w2)]) d20_17 rfl rfl rfl ?_
  refine Go.aload (pc' := 21) d20_19 rfl rfl rfl ?_
  refine Go.getfield (pc' := 24) (host := "") (Or.inl (ww hw 114 rfl)) Via.refl (fk2.ext old4.2) d20_21 rfl ?_
  refine Go.aloadN (pc' := 25) d20_24 rfl rfl rfl ?_
  refine Go.callV (cells' := 1) (slots' := 4) (pc' := 28) [(.ref a)] [] (xs2.ext old4.2) (ww hw 116 rfl) (ww hw 80 rfl) (fun s' hs' => notFace_of_selects (args := #[]) (mvT hs' (ww hw 82 rfl))) (ww hw 82 rfl) (ww hw 81 rfl) (ww hw 5 rfl) (ww hw 83 rfl) (by decide) (c_strNe l Z a0 hw h1 s2 t2 kt2 a b kb (4 : Int32) ([(.int (111 : Int32)), (.int (105 : Int32)), (.int (100 : Int32)), (.int (99 : Int32))]) z vs cp hcp hx4 hu4 scp (xs2.ext old4.2) (cs2.ext old4.2) (gs2.ext old4.2) (vs2.ext old4.2) (xa.keep K1) (fa.keep K1 nin0) (ga.keep K1 nin0) (v.keep K1 nin0)) pd_14 rfl rfl rfl rfl rfl (nl rfl) (nl rfl) (nl rfl) (nl rfl) d20_25 rfl ?_
  rintro _ _ ⟨rfl, rfl⟩
  show Go _ _ _ _ _ _ _ _ _ _ _ _ 28 #[.val (.ref a), .val (.ref r_1), .val (.int (4 : Int32)), .val (.int (2 : Int32)), .val (.ref w2)] [(.int (0 : Int32))]
  refine Go.ifYes (pc' := 37) d20_28 (XT.i0_eq_t (by decide)) (by decide) (by decide) ?_
  refine Go.iinc (pc' := 40) (Ls' := #[.val (.ref a), .val (.ref r_1), .val (.int (4 : Int32)), .val (.int ((2 : Int32) + (1 : Int32))), .val (.ref w2)]) (w := (1 : Int32)) d20_37 rfl rfl rfl rfl ?_
  show Go _ _ _ _ _ _ _ _ _ _ _ _ 40 #[.val (.ref a), .val (.ref r_1), .val (.int (4 : Int32)), .val (.int (3 : Int32)), .val (.ref w2)] []
  refine Go.goto (pc' := 9) d20_40 (by decide) (by decide) ?_
  refine Go.iloadN (pc' := 10) d20_9 rfl rfl ?_
  refine Go.iloadN (pc' := 11) d20_10 rfl rfl ?_
  refine Go.icmpNo (pc' := 14) d20_11 (XT.ii_ge_f (by decide)) rfl ?_
  refine Go.aloadN (pc' := 15) d20_14 rfl rfl rfl ?_
  refine Go.iloadN (pc' := 16) d20_15 rfl rfl ?_
  refine Go.aaload (pc' := 17) (v := (.ref w3)) F1_0 rfl d20_16 (by decide) (by decide) rfl rfl ?_
  refine Go.astore (pc' := 19) (Ls' := #[.val (.ref a), .val (.ref r_1), .val (.int (4 : Int32)), .val (.int (3 : Int32)), .val (.ref w3)]) d20_17 rfl rfl rfl ?_
  refine Go.aload (pc' := 21) d20_19 rfl rfl rfl ?_
  refine Go.getfield (pc' := 24) (host := "") (Or.inl (ww hw 114 rfl)) Via.refl (fk3.ext old4.2) d20_21 rfl ?_
  refine Go.aloadN (pc' := 25) d20_24 rfl rfl rfl ?_
  refine Go.callV (cells' := 1) (slots' := 4) (pc' := 28) [(.ref a)] [] (xs3.ext old4.2) (ww hw 116 rfl) (ww hw 80 rfl) (fun s' hs' => notFace_of_selects (args := #[]) (mvT hs' (ww hw 82 rfl))) (ww hw 82 rfl) (ww hw 81 rfl) (ww hw 5 rfl) (ww hw 83 rfl) (by decide) (c_strNe l Z a0 hw h1 s3 t3 kt3 a b kb (4 : Int32) ([(.int (115 : Int32)), (.int (97 : Int32)), (.int (109 : Int32)), (.int (108 : Int32))]) z vs cp hcp hx4 hu4 scp (xs3.ext old4.2) (cs3.ext old4.2) (gs3.ext old4.2) (vs3.ext old4.2) (xa.keep K1) (fa.keep K1 nin0) (ga.keep K1 nin0) (v.keep K1 nin0)) pd_14 rfl rfl rfl rfl rfl (nl rfl) (nl rfl) (nl rfl) (nl rfl) d20_25 rfl ?_
  rintro _ _ ⟨rfl, rfl⟩
  show Go _ _ _ _ _ _ _ _ _ _ _ _ 28 #[.val (.ref a), .val (.ref r_1), .val (.int (4 : Int32)), .val (.int (3 : Int32)), .val (.ref w3)] [(.int (0 : Int32))]
  refine Go.ifYes (pc' := 37) d20_28 (XT.i0_eq_t (by decide)) (by decide) (by decide) ?_
  refine Go.iinc (pc' := 40) (Ls' := #[.val (.ref a), .val (.ref r_1), .val (.int (4 : Int32)), .val (.int ((3 : Int32) + (1 : Int32))), .val (.ref w3)]) (w := (1 : Int32)) d20_37 rfl rfl rfl rfl ?_
  show Go _ _ _ _ _ _ _ _ _ _ _ _ 40 #[.val (.ref a), .val (.ref r_1), .val (.int (4 : Int32)), .val (.int (4 : Int32)), .val (.ref w3)] []
  refine Go.goto (pc' := 9) d20_40 (by decide) (by decide) ?_
  refine Go.iloadN (pc' := 10) d20_9 rfl rfl ?_
  refine Go.iloadN (pc' := 11) d20_10 rfl rfl ?_
  refine Go.icmpYes (pc' := 43) d20_11 (XT.ii_ge_t (by decide)) (by decide) (by decide) ?_
  refine Go.callS (cells' := 1) (slots' := 4) (pc' := 46) [] [] (ww hw 117 rfl) (ww hw 118 rfl) (ww hw 119 rfl) (ww hw 120 rfl) (by decide) (c_optEmpty l Z a0 hw h1 wo so xo fo) pd_16 rfl rfl rfl rfl rfl (nl rfl) (nl rfl) (nl rfl) (nl rfl) d20_43 rfl ?_
  rintro _ _ ⟨rfl, rfl⟩
  show Go _ _ _ _ _ _ _ _ _ _ _ _ 46 #[.val (.ref a), .val (.ref r_1), .val (.int (4 : Int32)), .val (.int (4 : Int32)), .val (.ref w3)] [(.ref wo)]
  exact Go.retR rfl rfl rfl rfl d20_46 ⟨rfl, K3⟩ (by decide) (by decide)
theorem c_exp0_n (l : Launch) (Z : State) (a0 : Array Value) (hw : ∀ d ∈ tables_1, d.before a0 Z = true) {n0 : Nat} (h : Heap) (a : Addr) (b : Addr) (kb : ClassId) (tt : String) (tw : Addr) (tb : Addr) (to : String) (ti : Nat) (ea : Addr) (eb : Addr) (wV : Addr) (kV : ClassId) (w0 : Addr) (s0 : Addr) (t0 : Addr) (kt0 : ClassId) (w1 : Addr) (s1 : Addr) (t1 : Addr) (kt1 : ClassId) (w2 : Addr) (s2 : Addr) (t2 : Addr) (kt2 : ClassId) (w3 : Addr) (s3 : Addr) (t3 : Addr) (kt3 : ClassId) (cp : Int32) (hKS : KS Z wV kV w0 s0 t0 kt0 w1 s1 t1 kt1 w2 s2 t2 kt2 w3 s3 t3 kt3) (hcp : ¬ (cp = (0 : Int32))) (hcw : Jvm.Lit.compactW.before a0 Z = true) (hch43 : Jvm.Lit.constHeld Z "com/example/huron/huron/io/config/AuthenticatorKindNamedPinLaw" 43) (hch53 : Jvm.Lit.constHeld Z "com/example/huron/huron/io/config/AuthenticatorKindNamedPinLaw" 53) (hch58 : Jvm.Lit.constHeld Z "com/example/huron/huron/io/config/AuthenticatorKindNamedPinLaw" 58) (hch63 : Jvm.Lit.constHeld Z "com/example/huron/huron/io/config/AuthenticatorKindNamedPinLaw" 63) (scp : Sta Z Z.heap "java/lang/String" "COMPACT_STRINGS" "Z" (.int cp)) (xa : Exa Z h a "java/lang/String") (fa : Fld Z h a "java/lang/String" "coder" "B" (.int (0 : Int32))) (ga : Fld Z h a "java/lang/String" "value" "[B" (.ref b)) (v : Arv Z h b kb .byte (0 : Int32) [] (.int 0)) (HT : Hel Z h tw tb tt) (HE : Hel Z h ea eb ("")) :
    ConS l (⟨"com/example/huron/huron/io/config/AuthenticatorKindNamedPinLaw", "expected", "(Ljava/lang/String;)Lcom/example/huron/huron/io/config/AuthenticatorKind;"⟩ : MethodName) method_3_code 1 (some (.object "com/example/huron/huron/io/config/AuthenticatorKind")) ({ frames := 2, cells := 8, slots := 84, locals := 28 } : Room) Z n0 #[(.ref a)] h [("", ea, "java/lang/String", 7), (tt, tw, to, ti)] (fun v h' LL' => v = some .null ∧ Keep h h' []) := by
  obtain ⟨sv, vv, xv, sk0, xk0, fk0, xs0, cs0, gs0, vs0, sk1, xk1, fk1, xs1, cs1, gs1, vs1, sk2, xk2, fk2, xs2, cs2, gs2, vs2, sk3, xk3, fk3, xs3, cs3, gs3, vs3⟩ := id hKS
  refine ConS.of_go (plainFor_of_name pn_2) (Ls := #[.val (.ref a)]) (fun m => by first | (simp [entryFrame, mkF, argsToLocals, Value.category]; done) | rfl) ?_
  refine GoS.aloadN (pc' := 1) d17_0 rfl rfl rfl ?_
  refine GoS.ldcS (pc' := 3) (cells' := 2) (slots' := 24) (n := 20) (z := (5 : Int32)) (vs := [(.int (108 : Int32)), (.int (111 : Int32)), (.int (99 : Int32)), (.int (97 : Int32)), (.int (108 : Int32))]) (ww hw 4 rfl) (wsA hw) hch43 hcw (Keep.refl h []) (HL.no (by decide) (HL.yes (ww hw 6 rfl) HT HL.nil)) tx_0 (by decide) rfl d17_1 (nl rfl) (nl rfl) rfl rfl (nl rfl) (nl rfl) rfl ?_
  intro h1 sa1 sb1 kb1 E1 F1_0 F1_1 F1_2 F1_3 F1_4 F1_5
  have K2 : Keep h h1 [] := (Keep.refl h []).ext E1
  have H3 : Hel Z h1 sa1 sb1 "local" := ⟨kb1, _, _, F1_0, F1_1, F1_2, F1_3, F1_4, tx_0, rfl⟩
  show GoS _ _ _ _ _ _ _ _ _ _ _ _ _ _ 3 #[.val (.ref a)] [(.ref sa1), (.ref a)]
  refine GoS.callV (cells' := 2) (slots' := 24) (pc' := 6) [(.ref sa1)] [] (xa.ext E1) (ww hw 79 rfl) (ww hw 80 rfl) (fun s' hs' => notFace_of_selects (args := #[]) (mvT hs' (ww hw 82 rfl))) (ww hw 82 rfl) (ww hw 81 rfl) (ww hw 5 rfl) (ww hw 83 rfl) (by decide) (Con.cold (c_strNe l Z a0 hw h1 a b kb sa1 sb1 kb1 (0 : Int32) ([]) (5 : Int32) ([(.int (108 : Int32)), (.int (111 : Int32)), (.int (99 : Int32)), (.int (97 : Int32)), (.int (108 : Int32))]) cp hcp (by decide) (by decide) scp (xa.ext E1) (fa.ext E1) (ga.ext E1) (v.ext E1) F1_0 F1_1 F1_2 F1_3)) pd_14 rfl rfl rfl rfl rfl (nl rfl) (nl rfl) (nl rfl) (nl rfl) d17_3 rfl ?_
  rintro _ _ _ ⟨⟨rfl, rfl⟩, rfl⟩
  show GoS _ _ _ _ _ _ _ _ _ _ _ _ _ _ 6 #[.val (.ref a)] [(.int (0 : Int32))]
  refine GoS.ifYes (pc' := 13) d17_6 (XT.i0_eq_t (by decide)) (by decide) (by decide) ?_
  refine GoS.aloadN (pc' := 14) d17_13 rfl rfl rfl ?_
  refine GoS.ldcS (pc' := 16) (cells' := 4) (slots' := 44) (n := 16) (z := (4 : Int32)) (vs := [(.int (108 : Int32)), (.int (100 : Int32)), (.int (97 : Int32)), (.int (112 : Int32))]) (ww hw 88 rfl) (wsA hw) hch53 hcw K2 (HL.no (by decide) (HL.no (by decide) (HL.yes (ww hw 6 rfl) HT HL.nil))) tx_1 (by decide) rfl d17_14 (nl rfl) (nl rfl) rfl rfl (nl rfl) (nl rfl) rfl ?_
  intro h5 sa5 sb5 kb5 E5 F5_0 F5_1 F5_2 F5_3 F5_4 F5_5
  have K6 : Keep h h5 [] := K2.ext E5
  have H7 : Hel Z h5 sa5 sb5 "ldap" := ⟨kb5, _, _, F5_0, F5_1, F5_2, F5_3, F5_4, tx_1, rfl⟩
  show GoS _ _ _ _ _ _ _ _ _ _ _ _ _ _ 16 #[.val (.ref a)] [(.ref sa5), (.ref a)]
  refine GoS.callV (cells' := 4) (slots' := 44) (pc' := 19) [(.ref sa5)] [] ((xa.ext E1).ext E5) (ww hw 79 rfl) (ww hw 80 rfl) (fun s' hs' => notFace_of_selects (args := #[]) (mvT hs' (ww hw 82 rfl))) (ww hw 82 rfl) (ww hw 81 rfl) (ww hw 5 rfl) (ww hw 83 rfl) (by decide) (Con.cold (c_strNe l Z a0 hw h5 a b kb sa5 sb5 kb5 (0 : Int32) ([]) (4 : Int32) ([(.int (108 : Int32)), (.int (100 : Int32)), (.int (97 : Int32)), (.int (112 : Int32))]) cp hcp (by decide) (by decide) scp (((xa.ext E1).ext E5)) (((fa.ext E1).ext E5)) (((ga.ext E1).ext E5)) (((v.ext E1).ext E5)) F5_0 F5_1 F5_2 F5_3)) pd_14 rfl rfl rfl rfl rfl (nl rfl) (nl rfl) (nl rfl) (nl rfl) d17_16 rfl ?_
  rintro _ _ _ ⟨⟨rfl, rfl⟩, rfl⟩
  show GoS _ _ _ _ _ _ _ _ _ _ _ _ _ _ 19 #[.val (.ref a)] [(.int (0 : Int32))]
  refine GoS.ifYes (pc' := 26) d17_19 (XT.i0_eq_t (by decide)) (by decide) (by decide) ?_
  refine GoS.aloadN (pc' := 27) d17_26 rfl rfl rfl ?_
  refine GoS.ldcS (pc' := 29) (cells' := 6) (slots' := 64) (n := 16) (z := (4 : Int32)) (vs := [(.int (111 : Int32)), (.int (105 : Int32)), (.int (100 : Int32)), (.int (99 : Int32))]) (ww hw 89 rfl) (wsA hw) hch58 hcw K6 (HL.no (by decide) (HL.no (by decide) (HL.no (by decide) (HL.yes (ww hw 6 rfl) HT HL.nil)))) tx_2 (by decide) rfl d17_27 (nl rfl) (nl rfl) rfl rfl (nl rfl) (nl rfl) rfl ?_
  intro h9 sa9 sb9 kb9 E9 F9_0 F9_1 F9_2 F9_3 F9_4 F9_5
  have K10 : Keep h h9 [] := K6.ext E9
  have H11 : Hel Z h9 sa9 sb9 "oidc" := ⟨kb9, _, _, F9_0, F9_1, F9_2, F9_3, F9_4, tx_2, rfl⟩
  show GoS _ _ _ _ _ _ _ _ _ _ _ _ _ _ 29 #[.val (.ref a)] [(.ref sa9), (.ref a)]
  refine GoS.callV (cells' := 6) (slots' := 64) (pc' := 32) [(.ref sa9)] [] (((xa.ext E1).ext E5).ext E9) (ww hw 79 rfl) (ww hw 80 rfl) (fun s' hs' => notFace_of_selects (args := #[]) (mvT hs' (ww hw 82 rfl))) (ww hw 82 rfl) (ww hw 81 rfl) (ww hw 5 rfl) (ww hw 83 rfl) (by decide) (Con.cold (c_strNe l Z a0 hw h9 a b kb sa9 sb9 kb9 (0 : Int32) ([]) (4 : Int32) ([(.int (111 : Int32)), (.int (105 : Int32)), (.int (100 : Int32)), (.int (99 : Int32))]) cp hcp (by decide) (by decide) scp ((((xa.ext E1).ext E5).ext E9)) ((((fa.ext E1).ext E5).ext E9)) ((((ga.ext E1).ext E5).ext E9)) ((((v.ext E1).ext E5).ext E9)) F9_0 F9_1 F9_2 F9_3)) pd_14 rfl rfl rfl rfl rfl (nl rfl) (nl rfl) (nl rfl) (nl rfl) d17_29 rfl ?_
  rintro _ _ _ ⟨⟨rfl, rfl⟩, rfl⟩
  show GoS _ _ _ _ _ _ _ _ _ _ _ _ _ _ 32 #[.val (.ref a)] [(.int (0 : Int32))]
  refine GoS.ifYes (pc' := 39) d17_32 (XT.i0_eq_t (by decide)) (by decide) (by decide) ?_
  refine GoS.aloadN (pc' := 40) d17_39 rfl rfl rfl ?_
  refine GoS.ldcS (pc' := 42) (cells' := 8) (slots' := 84) (n := 16) (z := (4 : Int32)) (vs := [(.int (115 : Int32)), (.int (97 : Int32)), (.int (109 : Int32)), (.int (108 : Int32))]) (ww hw 90 rfl) (wsA hw) hch63 hcw K10 (HL.no (by decide) (HL.no (by decide) (HL.no (by decide) (HL.no (by decide) (HL.yes (ww hw 6 rfl) HT HL.nil))))) tx_3 (by decide) rfl d17_40 (nl rfl) (nl rfl) rfl rfl (nl rfl) (nl rfl) rfl ?_
  intro h13 sa13 sb13 kb13 E13 F13_0 F13_1 F13_2 F13_3 F13_4 F13_5
  have K14 : Keep h h13 [] := K10.ext E13
  have H15 : Hel Z h13 sa13 sb13 "saml" := ⟨kb13, _, _, F13_0, F13_1, F13_2, F13_3, F13_4, tx_3, rfl⟩
  show GoS _ _ _ _ _ _ _ _ _ _ _ _ _ _ 42 #[.val (.ref a)] [(.ref sa13), (.ref a)]
  refine GoS.callV (cells' := 8) (slots' := 84) (pc' := 45) [(.ref sa13)] [] ((((xa.ext E1).ext E5).ext E9).ext E13) (ww hw 79 rfl) (ww hw 80 rfl) (fun s' hs' => notFace_of_selects (args := #[]) (mvT hs' (ww hw 82 rfl))) (ww hw 82 rfl) (ww hw 81 rfl) (ww hw 5 rfl) (ww hw 83 rfl) (by decide) (Con.cold (c_strNe l Z a0 hw h13 a b kb sa13 sb13 kb13 (0 : Int32) ([]) (4 : Int32) ([(.int (115 : Int32)), (.int (97 : Int32)), (.int (109 : Int32)), (.int (108 : Int32))]) cp hcp (by decide) (by decide) scp (((((xa.ext E1).ext E5).ext E9).ext E13)) (((((fa.ext E1).ext E5).ext E9).ext E13)) (((((ga.ext E1).ext E5).ext E9).ext E13)) (((((v.ext E1).ext E5).ext E9).ext E13)) F13_0 F13_1 F13_2 F13_3)) pd_14 rfl rfl rfl rfl rfl (nl rfl) (nl rfl) (nl rfl) (nl rfl) d17_42 rfl ?_
  rintro _ _ _ ⟨⟨rfl, rfl⟩, rfl⟩
  show GoS _ _ _ _ _ _ _ _ _ _ _ _ _ _ 45 #[.val (.ref a)] [(.int (0 : Int32))]
  refine GoS.ifYes (pc' := 52) d17_45 (XT.i0_eq_t (by decide)) (by decide) (by decide) ?_
  refine GoS.aconstNull (pc' := 53) d17_52 rfl ?_
  exact GoS.retR rfl rfl rfl rfl d17_53 ⟨rfl, K14⟩ (by decide) (by decide)
theorem c_named0_n (l : Launch) (Z : State) (a0 : Array Value) (hw : ∀ d ∈ tables_1, d.before a0 Z = true) {n0 : Nat} (h : Heap) (a : Addr) (b : Addr) (kb : ClassId) (wV : Addr) (kV : ClassId) (w0 : Addr) (s0 : Addr) (t0 : Addr) (kt0 : ClassId) (w1 : Addr) (s1 : Addr) (t1 : Addr) (kt1 : ClassId) (w2 : Addr) (s2 : Addr) (t2 : Addr) (kt2 : ClassId) (w3 : Addr) (s3 : Addr) (t3 : Addr) (kt3 : ClassId) (cp : Int32) (wo : Addr) (hKS : KS Z wV kV w0 s0 t0 kt0 w1 s1 t1 kt1 w2 s2 t2 kt2 w3 s3 t3 kt3) (hcp : ¬ (cp = (0 : Int32))) (scp : Sta Z Z.heap "java/lang/String" "COMPACT_STRINGS" "Z" (.int cp)) (so : Sta Z Z.heap "java/util/Optional" "EMPTY" "Ljava/util/Optional;" (.ref wo)) (xo : Exa Z Z.heap wo "java/util/Optional") (fo : Fld Z Z.heap wo "java/util/Optional" "value" "Ljava/lang/Object;" .null) (xa : Exa Z h a "java/lang/String") (fa : Fld Z h a "java/lang/String" "coder" "B" (.int (0 : Int32))) (ga : Fld Z h a "java/lang/String" "value" "[B" (.ref b)) (v : Arv Z h b kb .byte (0 : Int32) [] (.int 0)) :
    Con l (⟨"com/example/huron/huron/io/config/AuthenticatorKind", "named", "(Ljava/lang/String;)Ljava/util/Optional;"⟩ : MethodName) prog_8_method_4_code 5 (some (.object "java/util/Optional")) ({ frames := 2, cells := 1, slots := 4, locals := 28 } : Room) Z n0 #[(.ref a)] h (fun v h' => v = some (.ref wo) ∧ Keep h h' []) := by
  obtain ⟨sv, vv, xv, sk0, xk0, fk0, xs0, cs0, gs0, vs0, sk1, xk1, fk1, xs1, cs1, gs1, vs1, sk2, xk2, fk2, xs2, cs2, gs2, vs2, sk3, xk3, fk3, xs3, cs3, gs3, vs3⟩ := id hKS
  refine Con.of_go (plainFor_of_name pn_7) (Ls := #[.val (.ref a), .unset, .unset, .unset, .unset]) (fun m => by first | (simp [entryFrame, mkF, argsToLocals, Value.category]; done) | rfl) ?_
  refine Go.callS (cells' := 1) (slots' := 4) (pc' := 3) [] [] (ww hw 95 rfl) (ww hw 96 rfl) (ww hw 93 rfl) (ww hw 97 rfl) (by decide) (c_values l Z a0 hw h wV kV w0 s0 t0 kt0 w1 s1 t1 kt1 w2 s2 t2 kt2 w3 s3 t3 kt3 hKS) pd_15 rfl rfl rfl rfl rfl (nl rfl) (nl rfl) (nl rfl) (nl rfl) d20_0 rfl ?_
  rintro _ h1 ⟨r_1, rfl, K1, ge_r_1, sz_r_1, F1_0, F1_1⟩
  have sz2 : h.size ≤ r_1 := Nat.le_trans (Keep.refl h []).1 sz_r_1
  have K3 : Keep h h1 [] := (Keep.refl h []).trans K1 all0
  show Go _ _ _ _ _ _ _ _ _ _ _ _ 3 #[.val (.ref a), .unset, .unset, .unset, .unset] [(.ref r_1)]
  refine Go.astoreN (pc' := 4) (Ls' := #[.val (.ref a), .val (.ref r_1), .unset, .unset, .unset]) d20_3 rfl rfl rfl ?_
  refine Go.aloadN (pc' := 5) d20_4 rfl rfl rfl ?_
  refine Go.arraylength (pc' := 6) F1_0 d20_5 rfl ?_
  refine Go.istoreN (pc' := 7) (Ls' := #[.val (.ref a), .val (.ref r_1), .val (.int (4 : Int32)), .unset, .unset]) d20_6 rfl rfl ?_
  refine Go.iconst (pc' := 8) (v := (0 : Int32)) d20_7 rfl rfl ?_
  refine Go.istoreN (pc' := 9) (Ls' := #[.val (.ref a), .val (.ref r_1), .val (.int (4 : Int32)), .val (.int (0 : Int32)), .unset]) d20_8 rfl rfl ?_
  refine Go.iloadN (pc' := 10) d20_9 rfl rfl ?_
  refine Go.iloadN (pc' := 11) d20_10 rfl rfl ?_
  refine Go.icmpNo (pc' := 14) d20_11 (XT.ii_ge_f (by decide)) rfl ?_
  refine Go.aloadN (pc' := 15) d20_14 rfl rfl rfl ?_
  refine Go.iloadN (pc' := 16) d20_15 rfl rfl ?_
  refine Go.aaload (pc' := 17) (v := (.ref w0)) F1_0 rfl d20_16 (by decide) (by decide) rfl rfl ?_
  refine Go.astore (pc' := 19) (Ls' := #[.val (.ref a), .val (.ref r_1), .val (.int (4 : Int32)), .val (.int (0 : Int32)), .val (.ref w0)]) d20_17 rfl rfl rfl ?_
  refine Go.aload (pc' := 21) d20_19 rfl rfl rfl ?_
  refine Go.old (fun old4 => ?_)
  refine Go.getfield (pc' := 24) (host := "") (Or.inl (ww hw 114 rfl)) Via.refl (fk0.ext old4.2) d20_21 rfl ?_
  refine Go.aloadN (pc' := 25) d20_24 rfl rfl rfl ?_
  refine Go.callV (cells' := 1) (slots' := 4) (pc' := 28) [(.ref a)] [] (xs0.ext old4.2) (ww hw 116 rfl) (ww hw 80 rfl) (fun s' hs' => notFace_of_selects (args := #[]) (mvT hs' (ww hw 82 rfl))) (ww hw 82 rfl) (ww hw 81 rfl) (ww hw 5 rfl) (ww hw 83 rfl) (by decide) (c_strNe l Z a0 hw h1 s0 t0 kt0 a b kb (5 : Int32) ([(.int (108 : Int32)), (.int (111 : Int32)), (.int (99 : Int32)), (.int (97 : Int32)), (.int (108 : Int32))]) (0 : Int32) ([]) cp hcp (by decide) (by decide) scp (xs0.ext old4.2) (cs0.ext old4.2) (gs0.ext old4.2) (vs0.ext old4.2) (xa.keep K1) (fa.keep K1 nin0) (ga.keep K1 nin0) (v.keep K1 nin0)) pd_14 rfl rfl rfl rfl rfl (nl rfl) (nl rfl) (nl rfl) (nl rfl) d20_25 rfl ?_
  rintro _ _ ⟨rfl, rfl⟩
  show Go _ _ _ _ _ _ _ _ _ _ _ _ 28 #[.val (.ref a), .val (.ref r_1), .val (.int (4 : Int32)), .val (.int (0 : Int32)), .val (.ref w0)] [(.int (0 : Int32))]
  refine Go.ifYes (pc' := 37) d20_28 (XT.i0_eq_t (by decide)) (by decide) (by decide) ?_
  refine Go.iinc (pc' := 40) (Ls' := #[.val (.ref a), .val (.ref r_1), .val (.int (4 : Int32)), .val (.int ((0 : Int32) + (1 : Int32))), .val (.ref w0)]) (w := (1 : Int32)) d20_37 rfl rfl rfl rfl ?_
  show Go _ _ _ _ _ _ _ _ _ _ _ _ 40 #[.val (.ref a), .val (.ref r_1), .val (.int (4 : Int32)), .val (.int (1 : Int32)), .val (.ref w0)] []
  refine Go.goto (pc' := 9) d20_40 (by decide) (by decide) ?_
  refine Go.iloadN (pc' := 10) d20_9 rfl rfl ?_
  refine Go.iloadN (pc' := 11) d20_10 rfl rfl ?_
  refine Go.icmpNo (pc' := 14) d20_11 (XT.ii_ge_f (by decide)) rfl ?_
  refine Go.aloadN (pc' := 15) d20_14 rfl rfl rfl ?_
  refine Go.iloadN (pc' := 16) d20_15 rfl rfl ?_
  refine Go.aaload (pc' := 17) (v := (.ref w1)) F1_0 rfl d20_16 (by decide) (by decide) rfl rfl ?_
  refine Go.astore (pc' := 19) (Ls' := #[.val (.ref a), .val (.ref r_1), .val (.int (4 : Int32)), .val (.int (1 : Int32)), .val (.ref w1)]) d20_17 rfl rfl rfl ?_
  refine Go.aload (pc' := 21) d20_19 rfl rfl rfl ?_
  refine Go.getfield (pc' := 24) (host := "") (Or.inl (ww hw 114 rfl)) Via.refl (fk1.ext old4.2) d20_21 rfl ?_
  refine Go.aloadN (pc' := 25) d20_24 rfl rfl rfl ?_
  refine Go.callV (cells' := 1) (slots' := 4) (pc' := 28) [(.ref a)] [] (xs1.ext old4.2) (ww hw 116 rfl) (ww hw 80 rfl) (fun s' hs' => notFace_of_selects (args := #[]) (mvT hs' (ww hw 82 rfl))) (ww hw 82 rfl) (ww hw 81 rfl) (ww hw 5 rfl) (ww hw 83 rfl) (by decide) (c_strNe l Z a0 hw h1 s1 t1 kt1 a b kb (4 : Int32) ([(.int (108 : Int32)), (.int (100 : Int32)), (.int (97 : Int32)), (.int (112 : Int32))]) (0 : Int32) ([]) cp hcp (by decide) (by decide) scp (xs1.ext old4.2) (cs1.ext old4.2) (gs1.ext old4.2) (vs1.ext old4.2) (xa.keep K1) (fa.keep K1 nin0) (ga.keep K1 nin0) (v.keep K1 nin0)) pd_14 rfl rfl rfl rfl rfl (nl rfl) (nl rfl) (nl rfl) (nl rfl) d20_25 rfl ?_
  rintro _ _ ⟨rfl, rfl⟩
  show Go _ _ _ _ _ _ _ _ _ _ _ _ 28 #[.val (.ref a), .val (.ref r_1), .val (.int (4 : Int32)), .val (.int (1 : Int32)), .val (.ref w1)] [(.int (0 : Int32))]
  refine Go.ifYes (pc' := 37) d20_28 (XT.i0_eq_t (by decide)) (by decide) (by decide) ?_
  refine Go.iinc (pc' := 40) (Ls' := #[.val (.ref a), .val (.ref r_1), .val (.int (4 : Int32)), .val (.int ((1 : Int32) + (1 : Int32))), .val (.ref w1)]) (w := (1 : Int32)) d20_37 rfl rfl rfl rfl ?_
  show Go _ _ _ _ _ _ _ _ _ _ _ _ 40 #[.val (.ref a), .val (.ref r_1), .val (.int (4 : Int32)), .val (.int (2 : Int32)), .val (.ref w1)] []
  refine Go.goto (pc' := 9) d20_40 (by decide) (by decide) ?_
  refine Go.iloadN (pc' := 10) d20_9 rfl rfl ?_
  refine Go.iloadN (pc' := 11) d20_10 rfl rfl ?_
  refine Go.icmpNo (pc' := 14) d20_11 (XT.ii_ge_f (by decide)) rfl ?_
  refine Go.aloadN (pc' := 15) d20_14 rfl rfl rfl ?_
  refine Go.iloadN (pc' := 16) d20_15 rfl rfl ?_
  refine Go.aaload (pc' := 17) (v := (.ref w2)) F1_0 rfl d20_16 (by decide) (by decide) rfl rfl ?_
  refine Go.astore (pc' := 19) (Ls' := #[.val (.ref a), .val (.ref r_1), .val (.int (4 : Int32)), .val (.int (2 : Int32)), .val (.ref w2)]) d20_17 rfl rfl rfl ?_
  refine Go.aload (pc' := 21) d20_19 rfl rfl rfl ?_
  refine Go.getfield (pc' := 24) (host := "") (Or.inl (ww hw 114 rfl)) Via.refl (fk2.ext old4.2) d20_21 rfl ?_
  refine Go.aloadN (pc' := 25) d20_24 rfl rfl rfl ?_
  refine Go.callV (cells' := 1) (slots' := 4) (pc' := 28) [(.ref a)] [] (xs2.ext old4.2) (ww hw 116 rfl) (ww hw 80 rfl) (fun s' hs' => notFace_of_selects (args := #[]) (mvT hs' (ww hw 82 rfl))) (ww hw 82 rfl) (ww hw 81 rfl) (ww hw 5 rfl) (ww hw 83 rfl) (by decide) (c_strNe l Z a0 hw h1 s2 t2 kt2 a b kb (4 : Int32) ([(.int (111 : Int32)), (.int (105 : Int32)), (.int (100 : Int32)), (.int (99 : Int32))]) (0 : Int32) ([]) cp hcp (by decide) (by decide) scp (xs2.ext old4.2) (cs2.ext old4.2) (gs2.ext old4.2) (vs2.ext old4.2) (xa.keep K1) (fa.keep K1 nin0) (ga.keep K1 nin0) (v.keep K1 nin0)) pd_14 rfl rfl rfl rfl rfl (nl rfl) (nl rfl) (nl rfl) (nl rfl) d20_25 rfl ?_
  rintro _ _ ⟨rfl, rfl⟩
  show Go _ _ _ _ _ _ _ _ _ _ _ _ 28 #[.val (.ref a), .val (.ref r_1), .val (.int (4 : Int32)), .val (.int (2 : Int32)), .val (.ref w2)] [(.int (0 : Int32))]
  refine Go.ifYes (pc' := 37) d20_28 (XT.i0_eq_t (by decide)) (by decide) (by decide) ?_
  refine Go.iinc (pc' := 40) (Ls' := #[.val (.ref a), .val (.ref r_1), .val (.int (4 : Int32)), .val (.int ((2 : Int32) + (1 : Int32))), .val (.ref w2)]) (w := (1 : Int32)) d20_37 rfl rfl rfl rfl ?_
  show Go _ _ _ _ _ _ _ _ _ _ _ _ 40 #[.val (.ref a), .val (.ref r_1), .val (.int (4 : Int32)), .val (.int (3 : Int32)), .val (.ref w2)] []
  refine Go.goto (pc' := 9) d20_40 (by decide) (by decide) ?_
  refine Go.iloadN (pc' := 10) d20_9 rfl rfl ?_
  refine Go.iloadN (pc' := 11) d20_10 rfl rfl ?_
  refine Go.icmpNo (pc' := 14) d20_11 (XT.ii_ge_f (by decide)) rfl ?_
  refine Go.aloadN (pc' := 15) d20_14 rfl rfl rfl ?_
  refine Go.iloadN (pc' := 16) d20_15 rfl rfl ?_
  refine Go.aaload (pc' := 17) (v := (.ref w3)) F1_0 rfl d20_16 (by decide) (by decide) rfl rfl ?_
  refine Go.astore (pc' := 19) (Ls' := #[.val (.ref a), .val (.ref r_1), .val (.int (4 : Int32)), .val (.int (3 : Int32)), .val (.ref w3)]) d20_17 rfl rfl rfl ?_
  refine Go.aload (pc' := 21) d20_19 rfl rfl rfl ?_
  refine Go.getfield (pc' := 24) (host := "") (Or.inl (ww hw 114 rfl)) Via.refl (fk3.ext old4.2) d20_21 rfl ?_
  refine Go.aloadN (pc' := 25) d20_24 rfl rfl rfl ?_
  refine Go.callV (cells' := 1) (slots' := 4) (pc' := 28) [(.ref a)] [] (xs3.ext old4.2) (ww hw 116 rfl) (ww hw 80 rfl) (fun s' hs' => notFace_of_selects (args := #[]) (mvT hs' (ww hw 82 rfl))) (ww hw 82 rfl) (ww hw 81 rfl) (ww hw 5 rfl) (ww hw 83 rfl) (by decide) (c_strNe l Z a0 hw h1 s3 t3 kt3 a b kb (4 : Int32) ([(.int (115 : Int32)), (.int (97 : Int32)), (.int (109 : Int32)), (.int (108 : Int32))]) (0 : Int32) ([]) cp hcp (by decide) (by decide) scp (xs3.ext old4.2) (cs3.ext old4.2) (gs3.ext old4.2) (vs3.ext old4.2) (xa.keep K1) (fa.keep K1 nin0) (ga.keep K1 nin0) (v.keep K1 nin0)) pd_14 rfl rfl rfl rfl rfl (nl rfl) (nl rfl) (nl rfl) (nl rfl) d20_25 rfl ?_
  rintro _ _ ⟨rfl, rfl⟩
  show Go _ _ _ _ _ _ _ _ _ _ _ _ 28 #[.val (.ref a), .val (.ref r_1), .val (.int (4 : Int32)), .val (.int (3 : Int32)), .val (.ref w3)] [(.int (0 : Int32))]
  refine Go.ifYes (pc' := 37) d20_28 (XT.i0_eq_t (by decide)) (by decide) (by decide) ?_
  refine Go.iinc (pc' := 40) (Ls' := #[.val (.ref a), .val (.ref r_1), .val (.int (4 : Int32)), .val (.int ((3 : Int32) + (1 : Int32))), .val (.ref w3)]) (w := (1 : Int32)) d20_37 rfl rfl rfl rfl ?_
  show Go _ _ _ _ _ _ _ _ _ _ _ _ 40 #[.val (.ref a), .val (.ref r_1), .val (.int (4 : Int32)), .val (.int (4 : Int32)), .val (.ref w3)] []
  refine Go.goto (pc' := 9) d20_40 (by decide) (by decide) ?_
  refine Go.iloadN (pc' := 10) d20_9 rfl rfl ?_
  refine Go.iloadN (pc' := 11) d20_10 rfl rfl ?_
  refine Go.icmpYes (pc' := 43) d20_11 (XT.ii_ge_t (by decide)) (by decide) (by decide) ?_
  refine Go.callS (cells' := 1) (slots' := 4) (pc' := 46) [] [] (ww hw 117 rfl) (ww hw 118 rfl) (ww hw 119 rfl) (ww hw 120 rfl) (by decide) (c_optEmpty l Z a0 hw h1 wo so xo fo) pd_16 rfl rfl rfl rfl rfl (nl rfl) (nl rfl) (nl rfl) (nl rfl) d20_43 rfl ?_
  rintro _ _ ⟨rfl, rfl⟩
  show Go _ _ _ _ _ _ _ _ _ _ _ _ 46 #[.val (.ref a), .val (.ref r_1), .val (.int (4 : Int32)), .val (.int (4 : Int32)), .val (.ref w3)] [(.ref wo)]
  exact Go.retR rfl rfl rfl rfl d20_46 ⟨rfl, K3⟩ (by decide) (by decide)
theorem d17_22 : decode method_3_code 22 = .ok (.getstatic 55, 3) := by decide +kernel
theorem d17_25 : decode method_3_code 25 = .ok (.areturn, 1) := by decide +kernel
theorem c_exp4_1 (l : Launch) (Z : State) (a0 : Array Value) (hw : ∀ d ∈ tables_1, d.before a0 Z = true) {n0 : Nat} (h : Heap) (a : Addr) (b : Addr) (kb : ClassId) (k0 : Int32) (k1 : Int32) (k2 : Int32) (k3 : Int32) (tt : String) (tw : Addr) (tb : Addr) (to : String) (ti : Nat) (wV : Addr) (kV : ClassId) (w0 : Addr) (s0 : Addr) (t0 : Addr) (kt0 : ClassId) (w1 : Addr) (s1 : Addr) (t1 : Addr) (kt1 : ClassId) (w2 : Addr) (s2 : Addr) (t2 : Addr) (kt2 : ClassId) (w3 : Addr) (s3 : Addr) (t3 : Addr) (kt3 : ClassId) (cp : Int32) (hKS : KS Z wV kV w0 s0 t0 kt0 w1 s1 t1 kt1 w2 s2 t2 kt2 w3 s3 t3 kt3) (hcp : ¬ (cp = (0 : Int32))) (hcw : Jvm.Lit.compactW.before a0 Z = true) (hch43 : Jvm.Lit.constHeld Z "com/example/huron/huron/io/config/AuthenticatorKindNamedPinLaw" 43) (hch53 : Jvm.Lit.constHeld Z "com/example/huron/huron/io/config/AuthenticatorKindNamedPinLaw" 53) (hch58 : Jvm.Lit.constHeld Z "com/example/huron/huron/io/config/AuthenticatorKindNamedPinLaw" 58) (hch63 : Jvm.Lit.constHeld Z "com/example/huron/huron/io/config/AuthenticatorKindNamedPinLaw" 63) (he1 : ¬ ((if k0.toInt8.toInt32 = (108 : Int32) ∧ k1.toInt8.toInt32 = (100 : Int32) ∧ k2.toInt8.toInt32 = (97 : Int32) ∧ k3.toInt8.toInt32 = (112 : Int32) then (1 : Int32) else 0) = (0 : Int32))) (scp : Sta Z Z.heap "java/lang/String" "COMPACT_STRINGS" "Z" (.int cp)) (xa : Exa Z h a "java/lang/String") (fa : Fld Z h a "java/lang/String" "coder" "B" (.int (0 : Int32))) (ga : Fld Z h a "java/lang/String" "value" "[B" (.ref b)) (v : Arv Z h b kb .byte (4 : Int32) [(.int k0.toInt8.toInt32), (.int k1.toInt8.toInt32), (.int k2.toInt8.toInt32), (.int k3.toInt8.toInt32)] (.int 0)) (HT : Hel Z h tw tb tt) :
    ConS l (⟨"com/example/huron/huron/io/config/AuthenticatorKindNamedPinLaw", "expected", "(Ljava/lang/String;)Lcom/example/huron/huron/io/config/AuthenticatorKind;"⟩ : MethodName) method_3_code 1 (some (.object "com/example/huron/huron/io/config/AuthenticatorKind")) ({ frames := 2, cells := 4, slots := 44, locals := 28 } : Room) Z n0 #[(.ref a)] h [(tt, tw, to, ti)] (fun v h' LL' => v = some (.ref w1) ∧ Keep h h' []) := by
  obtain ⟨sv, vv, xv, sk0, xk0, fk0, xs0, cs0, gs0, vs0, sk1, xk1, fk1, xs1, cs1, gs1, vs1, sk2, xk2, fk2, xs2, cs2, gs2, vs2, sk3, xk3, fk3, xs3, cs3, gs3, vs3⟩ := id hKS
  refine ConS.of_go (plainFor_of_name pn_2) (Ls := #[.val (.ref a)]) (fun m => by first | (simp [entryFrame, mkF, argsToLocals, Value.category]; done) | rfl) ?_
  refine GoS.aloadN (pc' := 1) d17_0 rfl rfl rfl ?_
  refine GoS.ldcS (pc' := 3) (cells' := 2) (slots' := 24) (n := 20) (z := (5 : Int32)) (vs := [(.int (108 : Int32)), (.int (111 : Int32)), (.int (99 : Int32)), (.int (97 : Int32)), (.int (108 : Int32))]) (ww hw 4 rfl) (wsA hw) hch43 hcw (Keep.refl h []) (HL.yes (ww hw 6 rfl) HT HL.nil) tx_0 (by decide) rfl d17_1 (nl rfl) (nl rfl) rfl rfl (nl rfl) (nl rfl) rfl ?_
  intro h1 sa1 sb1 kb1 E1 F1_0 F1_1 F1_2 F1_3 F1_4 F1_5
  have K2 : Keep h h1 [] := (Keep.refl h []).ext E1
  have H3 : Hel Z h1 sa1 sb1 "local" := ⟨kb1, _, _, F1_0, F1_1, F1_2, F1_3, F1_4, tx_0, rfl⟩
  show GoS _ _ _ _ _ _ _ _ _ _ _ _ _ _ 3 #[.val (.ref a)] [(.ref sa1), (.ref a)]
  refine GoS.callV (cells' := 2) (slots' := 24) (pc' := 6) [(.ref sa1)] [] (xa.ext E1) (ww hw 79 rfl) (ww hw 80 rfl) (fun s' hs' => notFace_of_selects (args := #[]) (mvT hs' (ww hw 82 rfl))) (ww hw 82 rfl) (ww hw 81 rfl) (ww hw 5 rfl) (ww hw 83 rfl) (by decide) (Con.cold (c_strNe l Z a0 hw h1 a b kb sa1 sb1 kb1 (4 : Int32) ([(.int k0.toInt8.toInt32), (.int k1.toInt8.toInt32), (.int k2.toInt8.toInt32), (.int k3.toInt8.toInt32)]) (5 : Int32) ([(.int (108 : Int32)), (.int (111 : Int32)), (.int (99 : Int32)), (.int (97 : Int32)), (.int (108 : Int32))]) cp hcp (by decide) (by decide) scp (xa.ext E1) (fa.ext E1) (ga.ext E1) (v.ext E1) F1_0 F1_1 F1_2 F1_3)) pd_14 rfl rfl rfl rfl rfl (nl rfl) (nl rfl) (nl rfl) (nl rfl) d17_3 rfl ?_
  rintro _ _ _ ⟨⟨rfl, rfl⟩, rfl⟩
  show GoS _ _ _ _ _ _ _ _ _ _ _ _ _ _ 6 #[.val (.ref a)] [(.int (0 : Int32))]
  refine GoS.ifYes (pc' := 13) d17_6 (XT.i0_eq_t (by decide)) (by decide) (by decide) ?_
  refine GoS.aloadN (pc' := 14) d17_13 rfl rfl rfl ?_
  refine GoS.ldcS (pc' := 16) (cells' := 4) (slots' := 44) (n := 16) (z := (4 : Int32)) (vs := [(.int (108 : Int32)), (.int (100 : Int32)), (.int (97 : Int32)), (.int (112 : Int32))]) (ww hw 88 rfl) (wsA hw) hch53 hcw K2 (HL.no (by decide) (HL.yes (ww hw 6 rfl) HT HL.nil)) tx_1 (by decide) rfl d17_14 (nl rfl) (nl rfl) rfl rfl (nl rfl) (nl rfl) rfl ?_
  intro h5 sa5 sb5 kb5 E5 F5_0 F5_1 F5_2 F5_3 F5_4 F5_5
  have K6 : Keep h h5 [] := K2.ext E5
  have H7 : Hel Z h5 sa5 sb5 "ldap" := ⟨kb5, _, _, F5_0, F5_1, F5_2, F5_3, F5_4, tx_1, rfl⟩
  show GoS _ _ _ _ _ _ _ _ _ _ _ _ _ _ 16 #[.val (.ref a)] [(.ref sa5), (.ref a)]
  refine GoS.callV (cells' := 4) (slots' := 44) (pc' := 19) [(.ref sa5)] [] ((xa.ext E1).ext E5) (ww hw 79 rfl) (ww hw 80 rfl) (fun s' hs' => notFace_of_selects (args := #[]) (mvT hs' (ww hw 82 rfl))) (ww hw 82 rfl) (ww hw 81 rfl) (ww hw 5 rfl) (ww hw 83 rfl) (by decide) (Con.cold (c_strEq4_4 l Z a0 hw h5 a b kb sa5 sb5 kb5 k0.toInt8.toInt32 k1.toInt8.toInt32 k2.toInt8.toInt32 k3.toInt8.toInt32 (108 : Int32) (100 : Int32) (97 : Int32) (112 : Int32) cp hcp scp (((xa.ext E1).ext E5)) (((fa.ext E1).ext E5)) (((ga.ext E1).ext E5)) (((v.ext E1).ext E5)) F5_0 F5_1 F5_2 F5_3)) pd_14 rfl rfl rfl rfl rfl (nl rfl) (nl rfl) (nl rfl) (nl rfl) d17_16 rfl ?_
  rintro _ _ _ ⟨⟨rfl, rfl⟩, rfl⟩
  show GoS _ _ _ _ _ _ _ _ _ _ _ _ _ _ 19 #[.val (.ref a)] [(.int (if k0.toInt8.toInt32 = (108 : Int32) ∧ k1.toInt8.toInt32 = (100 : Int32) ∧ k2.toInt8.toInt32 = (97 : Int32) ∧ k3.toInt8.toInt32 = (112 : Int32) then (1 : Int32) else 0))]
  refine GoS.ifNo (pc' := 22) d17_19 (XT.i0_eq_f he1) rfl ?_
  refine GoS.old (fun old9 => ?_)
  refine GoS.getstatic (pc' := 25) (host := "") (Or.inl (ww hw 149 rfl)) Via.refl (sk1.ext old9.2) d17_22 rfl ?_
  exact GoS.retR rfl rfl rfl rfl d17_25 ⟨rfl, K6⟩ (by decide) (by decide)
theorem d20_31 : decode prog_8_method_4_code 31 = .ok (.aload 4, 2) := by decide +kernel
theorem d20_33 : decode prog_8_method_4_code 33 = .ok (.invokestatic 49, 3) := by decide +kernel
theorem d20_36 : decode prog_8_method_4_code 36 = .ok (.areturn, 1) := by decide +kernel
theorem pd_17 : parseMethodDescriptor "(Ljava/lang/Object;)Ljava/util/Optional;" = some ⟨[(.object "java/lang/Object")], some (.object "java/util/Optional")⟩ := by decide +kernel
theorem c_named4_1 (l : Launch) (Z : State) (a0 : Array Value) (hw : ∀ d ∈ tables_1, d.before a0 Z = true) {n0 : Nat} (h : Heap) (a : Addr) (b : Addr) (kb : ClassId) (k0 : Int32) (k1 : Int32) (k2 : Int32) (k3 : Int32) (wV : Addr) (kV : ClassId) (w0 : Addr) (s0 : Addr) (t0 : Addr) (kt0 : ClassId) (w1 : Addr) (s1 : Addr) (t1 : Addr) (kt1 : ClassId) (w2 : Addr) (s2 : Addr) (t2 : Addr) (kt2 : ClassId) (w3 : Addr) (s3 : Addr) (t3 : Addr) (kt3 : ClassId) (cp : Int32) (wo : Addr) (hKS : KS Z wV kV w0 s0 t0 kt0 w1 s1 t1 kt1 w2 s2 t2 kt2 w3 s3 t3 kt3) (hcp : ¬ (cp = (0 : Int32))) (he1 : ¬ ((if k0.toInt8.toInt32 = (108 : Int32) ∧ k1.toInt8.toInt32 = (100 : Int32) ∧ k2.toInt8.toInt32 = (97 : Int32) ∧ k3.toInt8.toInt32 = (112 : Int32) then (1 : Int32) else 0) = (0 : Int32))) (scp : Sta Z Z.heap "java/lang/String" "COMPACT_STRINGS" "Z" (.int cp)) (so : Sta Z Z.heap "java/util/Optional" "EMPTY" "Ljava/util/Optional;" (.ref wo)) (xo : Exa Z Z.heap wo "java/util/Optional") (fo : Fld Z Z.heap wo "java/util/Optional" "value" "Ljava/lang/Object;" .null) (xa : Exa Z h a "java/lang/String") (fa : Fld Z h a "java/lang/String" "coder" "B" (.int (0 : Int32))) (ga : Fld Z h a "java/lang/String" "value" "[B" (.ref b)) (v : Arv Z h b kb .byte (4 : Int32) [(.int k0.toInt8.toInt32), (.int k1.toInt8.toInt32), (.int k2.toInt8.toInt32), (.int k3.toInt8.toInt32)] (.int 0)) :
    Con l (⟨"com/example/huron/huron/io/config/AuthenticatorKind", "named", "(Ljava/lang/String;)Ljava/util/Optional;"⟩ : MethodName) prog_8_method_4_code 5 (some (.object "java/util/Optional")) ({ frames := 3, cells := 2, slots := 5, locals := 38 } : Room) Z n0 #[(.ref a)] h (fun v h' => ∃ r : Addr, v = some (.ref r) ∧ Keep h h' [] ∧ n0 ≤ r ∧ h.size ≤ r ∧ Exa Z h' r "java/util/Optional" ∧ Fld Z h' r "java/util/Optional" "value" "Ljava/lang/Object;" (.ref w1)) := by
  obtain ⟨sv, vv, xv, sk0, xk0, fk0, xs0, cs0, gs0, vs0, sk1, xk1, fk1, xs1, cs1, gs1, vs1, sk2, xk2, fk2, xs2, cs2, gs2, vs2, sk3, xk3, fk3, xs3, cs3, gs3, vs3⟩ := id hKS
  refine Con.of_go (plainFor_of_name pn_7) (Ls := #[.val (.ref a), .unset, .unset, .unset, .unset]) (fun m => by first | (simp [entryFrame, mkF, argsToLocals, Value.category]; done) | rfl) ?_
  refine Go.callS (cells' := 1) (slots' := 4) (pc' := 3) [] [] (ww hw 95 rfl) (ww hw 96 rfl) (ww hw 93 rfl) (ww hw 97 rfl) (by decide) (c_values l Z a0 hw h wV kV w0 s0 t0 kt0 w1 s1 t1 kt1 w2 s2 t2 kt2 w3 s3 t3 kt3 hKS) pd_15 rfl rfl rfl rfl rfl (nl rfl) (nl rfl) (nl rfl) (nl rfl) d20_0 rfl ?_
  rintro _ h1 ⟨r_1, rfl, K1, ge_r_1, sz_r_1, F1_0, F1_1⟩
  have sz2 : h.size ≤ r_1 := Nat.le_trans (Keep.refl h []).1 sz_r_1
  have K3 : Keep h h1 [] := (Keep.refl h []).trans K1 all0
  show Go _ _ _ _ _ _ _ _ _ _ _ _ 3 #[.val (.ref a), .unset, .unset, .unset, .unset] [(.ref r_1)]
  refine Go.astoreN (pc' := 4) (Ls' := #[.val (.ref a), .val (.ref r_1), .unset, .unset, .unset]) d20_3 rfl rfl rfl ?_
  refine Go.aloadN (pc' := 5) d20_4 rfl rfl rfl ?_
  refine Go.arraylength (pc' := 6) F1_0 d20_5 rfl ?_
  refine Go.istoreN (pc' := 7) (Ls' := #[.val (.ref a), .val (.ref r_1), .val (.int (4 : Int32)), .unset, .unset]) d20_6 rfl rfl ?_
  refine Go.iconst (pc' := 8) (v := (0 : Int32)) d20_7 rfl rfl ?_
  refine Go.istoreN (pc' := 9) (Ls' := #[.val (.ref a), .val (.ref r_1), .val (.int (4 : Int32)), .val (.int (0 : Int32)), .unset]) d20_8 rfl rfl ?_
  refine Go.iloadN (pc' := 10) d20_9 rfl rfl ?_
  refine Go.iloadN (pc' := 11) d20_10 rfl rfl ?_
  refine Go.icmpNo (pc' := 14) d20_11 (XT.ii_ge_f (by decide)) rfl ?_
  refine Go.aloadN (pc' := 15) d20_14 rfl rfl rfl ?_
  refine Go.iloadN (pc' := 16) d20_15 rfl rfl ?_
  refine Go.aaload (pc' := 17) (v := (.ref w0)) F1_0 rfl d20_16 (by decide) (by decide) rfl rfl ?_
  refine Go.astore (pc' := 19) (Ls' := #[.val (.ref a), .val (.ref r_1), .val (.int (4 : Int32)), .val (.int (0 : Int32)), .val (.ref w0)]) d20_17 rfl rfl rfl ?_
  refine Go.aload (pc' := 21) d20_19 rfl rfl rfl ?_
  refine Go.old (fun old4 => ?_)
  refine Go.getfield (pc' := 24) (host := "") (Or.inl (ww hw 114 rfl)) Via.refl (fk0.ext old4.2) d20_21 rfl ?_
  refine Go.aloadN (pc' := 25) d20_24 rfl rfl rfl ?_
  refine Go.callV (cells' := 1) (slots' := 4) (pc' := 28) [(.ref a)] [] (xs0.ext old4.2) (ww hw 116 rfl) (ww hw 80 rfl) (fun s' hs' => notFace_of_selects (args := #[]) (mvT hs' (ww hw 82 rfl))) (ww hw 82 rfl) (ww hw 81 rfl) (ww hw 5 rfl) (ww hw 83 rfl) (by decide) (c_strNe l Z a0 hw h1 s0 t0 kt0 a b kb (5 : Int32) ([(.int (108 : Int32)), (.int (111 : Int32)), (.int (99 : Int32)), (.int (97 : Int32)), (.int (108 : Int32))]) (4 : Int32) ([(.int k0.toInt8.toInt32), (.int k1.toInt8.toInt32), (.int k2.toInt8.toInt32), (.int k3.toInt8.toInt32)]) cp hcp (by decide) (by decide) scp (xs0.ext old4.2) (cs0.ext old4.2) (gs0.ext old4.2) (vs0.ext old4.2) (xa.keep K1) (fa.keep K1 nin0) (ga.keep K1 nin0) (v.keep K1 nin0)) pd_14 rfl rfl rfl rfl rfl (nl rfl) (nl rfl) (nl rfl) (nl rfl) d20_25 rfl ?_
  rintro _ _ ⟨rfl, rfl⟩
  show Go _ _ _ _ _ _ _ _ _ _ _ _ 28 #[.val (.ref a), .val (.ref r_1), .val (.int (4 : Int32)), .val (.int (0 : Int32)), .val (.ref w0)] [(.int (0 : Int32))]
  refine Go.ifYes (pc' := 37) d20_28 (XT.i0_eq_t (by decide)) (by decide) (by decide) ?_
  refine Go.iinc (pc' := 40) (Ls' := #[.val (.ref a), .val (.ref r_1), .val (.int (4 : Int32)), .val (.int ((0 : Int32) + (1 : Int32))), .val (.ref w0)]) (w := (1 : Int32)) d20_37 rfl rfl rfl rfl ?_
  show Go _ _ _ _ _ _ _ _ _ _ _ _ 40 #[.val (.ref a), .val (.ref r_1), .val (.int (4 : Int32)), .val (.int (1 : Int32)), .val (.ref w0)] []
  refine Go.goto (pc' := 9) d20_40 (by decide) (by decide) ?_
  refine Go.iloadN (pc' := 10) d20_9 rfl rfl ?_
  refine Go.iloadN (pc' := 11) d20_10 rfl rfl ?_
  refine Go.icmpNo (pc' := 14) d20_11 (XT.ii_ge_f (by decide)) rfl ?_
  refine Go.aloadN (pc' := 15) d20_14 rfl rfl rfl ?_
  refine Go.iloadN (pc' := 16) d20_15 rfl rfl ?_
  refine Go.aaload (pc' := 17) (v := (.ref w1)) F1_0 rfl d20_16 (by decide) (by decide) rfl rfl ?_
  refine Go.astore (pc' := 19) (Ls' := #[.val (.ref a), .val (.ref r_1), .val (.int (4 : Int32)), .val (.int (1 : Int32)), .val (.ref w1)]) d20_17 rfl rfl rfl ?_
  refine Go.aload (pc' := 21) d20_19 rfl rfl rfl ?_
  refine Go.getfield (pc' := 24) (host := "") (Or.inl (ww hw 114 rfl)) Via.refl (fk1.ext old4.2) d20_21 rfl ?_
  refine Go.aloadN (pc' := 25) d20_24 rfl rfl rfl ?_
  refine Go.callV (cells' := 1) (slots' := 4) (pc' := 28) [(.ref a)] [] (xs1.ext old4.2) (ww hw 116 rfl) (ww hw 80 rfl) (fun s' hs' => notFace_of_selects (args := #[]) (mvT hs' (ww hw 82 rfl))) (ww hw 82 rfl) (ww hw 81 rfl) (ww hw 5 rfl) (ww hw 83 rfl) (by decide) (c_strEq4_4s l Z a0 hw h1 a b kb s1 t1 kt1 k0.toInt8.toInt32 k1.toInt8.toInt32 k2.toInt8.toInt32 k3.toInt8.toInt32 (108 : Int32) (100 : Int32) (97 : Int32) (112 : Int32) cp hcp scp (xa.keep K1) (fa.keep K1 nin0) (ga.keep K1 nin0) (v.keep K1 nin0) (xs1.ext old4.2) (cs1.ext old4.2) (gs1.ext old4.2) (vs1.ext old4.2)) pd_14 rfl rfl rfl rfl rfl (nl rfl) (nl rfl) (nl rfl) (nl rfl) d20_25 rfl ?_
  rintro _ _ ⟨rfl, rfl⟩
  show Go _ _ _ _ _ _ _ _ _ _ _ _ 28 #[.val (.ref a), .val (.ref r_1), .val (.int (4 : Int32)), .val (.int (1 : Int32)), .val (.ref w1)] [(.int (if k0.toInt8.toInt32 = (108 : Int32) ∧ k1.toInt8.toInt32 = (100 : Int32) ∧ k2.toInt8.toInt32 = (97 : Int32) ∧ k3.toInt8.toInt32 = (112 : Int32) then (1 : Int32) else 0))]
  refine Go.ifNo (pc' := 31) d20_28 (XT.i0_eq_f he1) rfl ?_
  refine Go.aload (pc' := 33) d20_31 rfl rfl rfl ?_
  refine Go.callS (cells' := 2) (slots' := 5) (pc' := 36) [(.ref w1)] [] (ww hw 135 rfl) (ww hw 136 rfl) (ww hw 119 rfl) (ww hw 137 rfl) (by decide) (c_optOf l Z a0 hw h1 w1) pd_17 rfl rfl rfl rfl rfl (nl rfl) (nl rfl) (nl rfl) (nl rfl) d20_33 rfl ?_
  rintro _ h7 ⟨b_7, rfl, K7, ge_b_7, sz_b_7, F7_0, F7_1⟩
  have sz8 : h.size ≤ b_7 := Nat.le_trans K3.1 sz_b_7
  have K9 : Keep h h7 [] := K3.trans K7 all0
  show Go _ _ _ _ _ _ _ _ _ _ _ _ 36 #[.val (.ref a), .val (.ref r_1), .val (.int (4 : Int32)), .val (.int (1 : Int32)), .val (.ref w1)] [(.ref b_7)]
  exact Go.retR rfl rfl rfl rfl d20_36 ⟨b_7, rfl, K9, ge_b_7, sz8, F7_0, F7_1⟩ (by decide) (by decide)
theorem d17_35 : decode method_3_code 35 = .ok (.getstatic 60, 3) := by decide +kernel
theorem d17_38 : decode method_3_code 38 = .ok (.areturn, 1) := by decide +kernel
theorem c_exp4_2 (l : Launch) (Z : State) (a0 : Array Value) (hw : ∀ d ∈ tables_1, d.before a0 Z = true) {n0 : Nat} (h : Heap) (a : Addr) (b : Addr) (kb : ClassId) (k0 : Int32) (k1 : Int32) (k2 : Int32) (k3 : Int32) (tt : String) (tw : Addr) (tb : Addr) (to : String) (ti : Nat) (wV : Addr) (kV : ClassId) (w0 : Addr) (s0 : Addr) (t0 : Addr) (kt0 : ClassId) (w1 : Addr) (s1 : Addr) (t1 : Addr) (kt1 : ClassId) (w2 : Addr) (s2 : Addr) (t2 : Addr) (kt2 : ClassId) (w3 : Addr) (s3 : Addr) (t3 : Addr) (kt3 : ClassId) (cp : Int32) (hKS : KS Z wV kV w0 s0 t0 kt0 w1 s1 t1 kt1 w2 s2 t2 kt2 w3 s3 t3 kt3) (hcp : ¬ (cp = (0 : Int32))) (hcw : Jvm.Lit.compactW.before a0 Z = true) (hch43 : Jvm.Lit.constHeld Z "com/example/huron/huron/io/config/AuthenticatorKindNamedPinLaw" 43) (hch53 : Jvm.Lit.constHeld Z "com/example/huron/huron/io/config/AuthenticatorKindNamedPinLaw" 53) (hch58 : Jvm.Lit.constHeld Z "com/example/huron/huron/io/config/AuthenticatorKindNamedPinLaw" 58) (hch63 : Jvm.Lit.constHeld Z "com/example/huron/huron/io/config/AuthenticatorKindNamedPinLaw" 63) (he1 : (if k0.toInt8.toInt32 = (108 : Int32) ∧ k1.toInt8.toInt32 = (100 : Int32) ∧ k2.toInt8.toInt32 = (97 : Int32) ∧ k3.toInt8.toInt32 = (112 : Int32) then (1 : Int32) else 0) = (0 : Int32)) (he2 : ¬ ((if k0.toInt8.toInt32 = (111 : Int32) ∧ k1.toInt8.toInt32 = (105 : Int32) ∧ k2.toInt8.toInt32 = (100 : Int32) ∧ k3.toInt8.toInt32 = (99 : Int32) then (1 : Int32) else 0) = (0 : Int32))) (scp : Sta Z Z.heap "java/lang/String" "COMPACT_STRINGS" "Z" (.int cp)) (xa : Exa Z h a "java/lang/String") (fa : Fld Z h a "java/lang/String" "coder" "B" (.int (0 : Int32))) (ga : Fld Z h a "java/lang/String" "value" "[B" (.ref b)) (v : Arv Z h b kb .byte (4 : Int32) [(.int k0.toInt8.toInt32), (.int k1.toInt8.toInt32), (.int k2.toInt8.toInt32), (.int k3.toInt8.toInt32)] (.int 0)) (HT : Hel Z h tw tb tt) :
    ConS l (⟨"com/example/huron/huron/io/config/AuthenticatorKindNamedPinLaw", "expected", "(Ljava/lang/String;)Lcom/example/huron/huron/io/config/AuthenticatorKind;"⟩ : MethodName) method_3_code 1 (some (.object "com/example/huron/huron/io/config/AuthenticatorKind")) ({ frames := 2, cells := 6, slots := 64, locals := 28 } : Room) Z n0 #[(.ref a)] h [(tt, tw, to, ti)] (fun v h' LL' => v = some (.ref w2) ∧ Keep h h' []) := by
  obtain ⟨sv, vv, xv, sk0, xk0, fk0, xs0, cs0, gs0, vs0, sk1, xk1, fk1, xs1, cs1, gs1, vs1, sk2, xk2, fk2, xs2, cs2, gs2, vs2, sk3, xk3, fk3, xs3, cs3, gs3, vs3⟩ := id hKS
  refine ConS.of_go (plainFor_of_name pn_2) (Ls := #[.val (.ref a)]) (fun m => by first | (simp [entryFrame, mkF, argsToLocals, Value.category]; done) | rfl) ?_
  refine GoS.aloadN (pc' := 1) d17_0 rfl rfl rfl ?_
  refine GoS.ldcS (pc' := 3) (cells' := 2) (slots' := 24) (n := 20) (z := (5 : Int32)) (vs := [(.int (108 : Int32)), (.int (111 : Int32)), (.int (99 : Int32)), (.int (97 : Int32)), (.int (108 : Int32))]) (ww hw 4 rfl) (wsA hw) hch43 hcw (Keep.refl h []) (HL.yes (ww hw 6 rfl) HT HL.nil) tx_0 (by decide) rfl d17_1 (nl rfl) (nl rfl) rfl rfl (nl rfl) (nl rfl) rfl ?_
  intro h1 sa1 sb1 kb1 E1 F1_0 F1_1 F1_2 F1_3 F1_4 F1_5
  have K2 : Keep h h1 [] := (Keep.refl h []).ext E1
  have H3 : Hel Z h1 sa1 sb1 "local" := ⟨kb1, _, _, F1_0, F1_1, F1_2, F1_3, F1_4, tx_0, rfl⟩
  show GoS _ _ _ _ _ _ _ _ _ _ _ _ _ _ 3 #[.val (.ref a)] [(.ref sa1), (.ref a)]
  refine GoS.callV (cells' := 2) (slots' := 24) (pc' := 6) [(.ref sa1)] [] (xa.ext E1) (ww hw 79 rfl) (ww hw 80 rfl) (fun s' hs' => notFace_of_selects (args := #[]) (mvT hs' (ww hw 82 rfl))) (ww hw 82 rfl) (ww hw 81 rfl) (ww hw 5 rfl) (ww hw 83 rfl) (by decide) (Con.cold (c_strNe l Z a0 hw h1 a b kb sa1 sb1 kb1 (4 : Int32) ([(.int k0.toInt8.toInt32), (.int k1.toInt8.toInt32), (.int k2.toInt8.toInt32), (.int k3.toInt8.toInt32)]) (5 : Int32) ([(.int (108 : Int32)), (.int (111 : Int32)), (.int (99 : Int32)), (.int (97 : Int32)), (.int (108 : Int32))]) cp hcp (by decide) (by decide) scp (xa.ext E1) (fa.ext E1) (ga.ext E1) (v.ext E1) F1_0 F1_1 F1_2 F1_3)) pd_14 rfl rfl rfl rfl rfl (nl rfl) (nl rfl) (nl rfl) (nl rfl) d17_3 rfl ?_
  rintro _ _ _ ⟨⟨rfl, rfl⟩, rfl⟩
  show GoS _ _ _ _ _ _ _ _ _ _ _ _ _ _ 6 #[.val (.ref a)] [(.int (0 : Int32))]
  refine GoS.ifYes (pc' := 13) d17_6 (XT.i0_eq_t (by decide)) (by decide) (by decide) ?_
  refine GoS.aloadN (pc' := 14) d17_13 rfl rfl rfl ?_
  refine GoS.ldcS (pc' := 16) (cells' := 4) (slots' := 44) (n := 16) (z := (4 : Int32)) (vs := [(.int (108 : Int32)), (.int (100 : Int32)), (.int (97 : Int32)), (.int (112 : Int32))]) (ww hw 88 rfl) (wsA hw) hch53 hcw K2 (HL.no (by decide) (HL.yes (ww hw 6 rfl) HT HL.nil)) tx_1 (by decide) rfl d17_14 (nl rfl) (nl rfl) rfl rfl (nl rfl) (nl rfl) rfl ?_
  intro h5 sa5 sb5 kb5 E5 F5_0 F5_1 F5_2 F5_3 F5_4 F5_5
  have K6 : Keep h h5 [] := K2.ext E5
  have H7 : Hel Z h5 sa5 sb5 "ldap" := ⟨kb5, _, _, F5_0, F5_1, F5_2, F5_3, F5_4, tx_1, rfl⟩
  show GoS _ _ _ _ _ _ _ _ _ _ _ _ _ _ 16 #[.val (.ref a)] [(.ref sa5), (.ref a)]
  refine GoS.callV (cells' := 4) (slots' := 44) (pc' := 19) [(.ref sa5)] [] ((xa.ext E1).ext E5) (ww hw 79 rfl) (ww hw 80 rfl) (fun s' hs' => notFace_of_selects (args := #[]) (mvT hs' (ww hw 82 rfl))) (ww hw 82 rfl) (ww hw 81 rfl) (ww hw 5 rfl) (ww hw 83 rfl) (by decide) (Con.cold (c_strEq4_4 l Z a0 hw h5 a b kb sa5 sb5 kb5 k0.toInt8.toInt32 k1.toInt8.toInt32 k2.toInt8.toInt32 k3.toInt8.toInt32 (108 : Int32) (100 : Int32) (97 : Int32) (112 : Int32) cp hcp scp (((xa.ext E1).ext E5)) (((fa.ext E1).ext E5)) (((ga.ext E1).ext E5)) (((v.ext E1).ext E5)) F5_0 F5_1 F5_2 F5_3)) pd_14 rfl rfl rfl rfl rfl (nl rfl) (nl rfl) (nl rfl) (nl rfl) d17_16 rfl ?_
  rintro _ _ _ ⟨⟨rfl, rfl⟩, rfl⟩
  show GoS _ _ _ _ _ _ _ _ _ _ _ _ _ _ 19 #[.val (.ref a)] [(.int (if k0.toInt8.toInt32 = (108 : Int32) ∧ k1.toInt8.toInt32 = (100 : Int32) ∧ k2.toInt8.toInt32 = (97 : Int32) ∧ k3.toInt8.toInt32 = (112 : Int32) then (1 : Int32) else 0))]
  refine GoS.ifYes (pc' := 26) d17_19 (XT.i0_eq_t he1) (by decide) (by decide) ?_
  refine GoS.aloadN (pc' := 27) d17_26 rfl rfl rfl ?_
  refine GoS.ldcS (pc' := 29) (cells' := 6) (slots' := 64) (n := 16) (z := (4 : Int32)) (vs := [(.int (111 : Int32)), (.int (105 : Int32)), (.int (100 : Int32)), (.int (99 : Int32))]) (ww hw 89 rfl) (wsA hw) hch58 hcw K6 (HL.no (by decide) (HL.no (by decide) (HL.yes (ww hw 6 rfl) HT HL.nil))) tx_2 (by decide) rfl d17_27 (nl rfl) (nl rfl) rfl rfl (nl rfl) (nl rfl) rfl ?_
  intro h9 sa9 sb9 kb9 E9 F9_0 F9_1 F9_2 F9_3 F9_4 F9_5
  have K10 : Keep h h9 [] := K6.ext E9
  have H11 : Hel Z h9 sa9 sb9 "oidc" := ⟨kb9, _, _, F9_0, F9_1, F9_2, F9_3, F9_4, tx_2, rfl⟩
  show GoS _ _ _ _ _ _ _ _ _ _ _ _ _ _ 29 #[.val (.ref a)] [(.ref sa9), (.ref a)]
  refine GoS.callV (cells' := 6) (slots' := 64) (pc' := 32) [(.ref sa9)] [] (((xa.ext E1).ext E5).ext E9) (ww hw 79 rfl) (ww hw 80 rfl) (fun s' hs' => notFace_of_selects (args := #[]) (mvT hs' (ww hw 82 rfl))) (ww hw 82 rfl) (ww hw 81 rfl) (ww hw 5 rfl) (ww hw 83 rfl) (by decide) (Con.cold (c_strEq4_4 l Z a0 hw h9 a b kb sa9 sb9 kb9 k0.toInt8.toInt32 k1.toInt8.toInt32 k2.toInt8.toInt32 k3.toInt8.toInt32 (111 : Int32) (105 : Int32) (100 : Int32) (99 : Int32) cp hcp scp ((((xa.ext E1).ext E5).ext E9)) ((((fa.ext E1).ext E5).ext E9)) ((((ga.ext E1).ext E5).ext E9)) ((((v.ext E1).ext E5).ext E9)) F9_0 F9_1 F9_2 F9_3)) pd_14 rfl rfl rfl rfl rfl (nl rfl) (nl rfl) (nl rfl) (nl rfl) d17_29 rfl ?_
  rintro _ _ _ ⟨⟨rfl, rfl⟩, rfl⟩
  show GoS _ _ _ _ _ _ _ _ _ _ _ _ _ _ 32 #[.val (.ref a)] [(.int (if k0.toInt8.toInt32 = (111 : Int32) ∧ k1.toInt8.toInt32 = (105 : Int32) ∧ k2.toInt8.toInt32 = (100 : Int32) ∧ k3.toInt8.toInt32 = (99 : Int32) then (1 : Int32) else 0))]
  refine GoS.ifNo (pc' := 35) d17_32 (XT.i0_eq_f he2) rfl ?_
  refine GoS.old (fun old13 => ?_)
  refine GoS.getstatic (pc' := 38) (host := "") (Or.inl (ww hw 151 rfl)) Via.refl (sk2.ext old13.2) d17_35 rfl ?_
  exact GoS.retR rfl rfl rfl rfl d17_38 ⟨rfl, K10⟩ (by decide) (by decide)
theorem c_named4_2 (l : Launch) (Z : State) (a0 : Array Value) (hw : ∀ d ∈ tables_1, d.before a0 Z = true) {n0 : Nat} (h : Heap) (a : Addr) (b : Addr) (kb : ClassId) (k0 : Int32) (k1 : Int32) (k2 : Int32) (k3 : Int32) (wV : Addr) (kV : ClassId) (w0 : Addr) (s0 : Addr) (t0 : Addr) (kt0 : ClassId) (w1 : Addr) (s1 : Addr) (t1 : Addr) (kt1 : ClassId) (w2 : Addr) (s2 : Addr) (t2 : Addr) (kt2 : ClassId) (w3 : Addr) (s3 : Addr) (t3 : Addr) (kt3 : ClassId) (cp : Int32) (wo : Addr) (hKS : KS Z wV kV w0 s0 t0 kt0 w1 s1 t1 kt1 w2 s2 t2 kt2 w3 s3 t3 kt3) (hcp : ¬ (cp = (0 : Int32))) (he1 : (if k0.toInt8.toInt32 = (108 : Int32) ∧ k1.toInt8.toInt32 = (100 : Int32) ∧ k2.toInt8.toInt32 = (97 : Int32) ∧ k3.toInt8.toInt32 = (112 : Int32) then (1 : Int32) else 0) = (0 : Int32)) (he2 : ¬ ((if k0.toInt8.toInt32 = (111 : Int32) ∧ k1.toInt8.toInt32 = (105 : Int32) ∧ k2.toInt8.toInt32 = (100 : Int32) ∧ k3.toInt8.toInt32 = (99 : Int32) then (1 : Int32) else 0) = (0 : Int32))) (scp : Sta Z Z.heap "java/lang/String" "COMPACT_STRINGS" "Z" (.int cp)) (so : Sta Z Z.heap "java/util/Optional" "EMPTY" "Ljava/util/Optional;" (.ref wo)) (xo : Exa Z Z.heap wo "java/util/Optional") (fo : Fld Z Z.heap wo "java/util/Optional" "value" "Ljava/lang/Object;" .null) (xa : Exa Z h a "java/lang/String") (fa : Fld Z h a "java/lang/String" "coder" "B" (.int (0 : Int32))) (ga : Fld Z h a "java/lang/String" "value" "[B" (.ref b)) (v : Arv Z h b kb .byte (4 : Int32) [(.int k0.toInt8.toInt32), (.int k1.toInt8.toInt32), (.int k2.toInt8.toInt32), (.int k3.toInt8.toInt32)] (.int 0)) :
    Con l (⟨"com/example/huron/huron/io/config/AuthenticatorKind", "named", "(Ljava/lang/String;)Ljava/util/Optional;"⟩ : MethodName) prog_8_method_4_code 5 (some (.object "java/util/Optional")) ({ frames := 3, cells := 2, slots := 5, locals := 38 } : Room) Z n0 #[(.ref a)] h (fun v h' => ∃ r : Addr, v = some (.ref r) ∧ Keep h h' [] ∧ n0 ≤ r ∧ h.size ≤ r ∧ Exa Z h' r "java/util/Optional" ∧ Fld Z h' r "java/util/Optional" "value" "Ljava/lang/Object;" (.ref w2)) := by
  obtain ⟨sv, vv, xv, sk0, xk0, fk0, xs0, cs0, gs0, vs0, sk1, xk1, fk1, xs1, cs1, gs1, vs1, sk2, xk2, fk2, xs2, cs2, gs2, vs2, sk3, xk3, fk3, xs3, cs3, gs3, vs3⟩ := id hKS
  refine Con.of_go (plainFor_of_name pn_7) (Ls := #[.val (.ref a), .unset, .unset, .unset, .unset]) (fun m => by first | (simp [entryFrame, mkF, argsToLocals, Value.category]; done) | rfl) ?_
  refine Go.callS (cells' := 1) (slots' := 4) (pc' := 3) [] [] (ww hw 95 rfl) (ww hw 96 rfl) (ww hw 93 rfl) (ww hw 97 rfl) (by decide) (c_values l Z a0 hw h wV kV w0 s0 t0 kt0 w1 s1 t1 kt1 w2 s2 t2 kt2 w3 s3 t3 kt3 hKS) pd_15 rfl rfl rfl rfl rfl (nl rfl) (nl rfl) (nl rfl) (nl rfl) d20_0 rfl ?_
  rintro _ h1 ⟨r_1, rfl, K1, ge_r_1, sz_r_1, F1_0, F1_1⟩
  have sz2 : h.size ≤ r_1 := Nat.le_trans (Keep.refl h []).1 sz_r_1
  have K3 : Keep h h1 [] := (Keep.refl h []).trans K1 all0
  show Go _ _ _ _ _ _ _ _ _ _ _ _ 3 #[.val (.ref a), .unset, .unset, .unset, .unset] [(.ref r_1)]
  refine Go.astoreN (pc' := 4) (Ls' := #[.val (.ref a), .val (.ref r_1), .unset, .unset, .unset]) d20_3 rfl rfl rfl ?_
  refine Go.aloadN (pc' := 5) d20_4 rfl rfl rfl ?_
  refine Go.arraylength (pc' := 6) F1_0 d20_5 rfl ?_
  refine Go.istoreN (pc' := 7) (Ls' := #[.val (.ref a), .val (.ref r_1), .val (.int (4 : Int32)), .unset, .unset]) d20_6 rfl rfl ?_
  refine Go.iconst (pc' := 8) (v := (0 : Int32)) d20_7 rfl rfl ?_
  refine Go.istoreN (pc' := 9) (Ls' := #[.val (.ref a), .val (.ref r_1), .val (.int (4 : Int32)), .val (.int (0 : Int32)), .unset]) d20_8 rfl rfl ?_
  refine Go.iloadN (pc' := 10) d20_9 rfl rfl ?_
  refine Go.iloadN (pc' := 11) d20_10 rfl rfl ?_
  refine Go.icmpNo (pc' := 14) d20_11 (XT.ii_ge_f (by decide)) rfl ?_
  refine Go.aloadN (pc' := 15) d20_14 rfl rfl rfl ?_
  refine Go.iloadN (pc' := 16) d20_15 rfl rfl ?_
  refine Go.aaload (pc' := 17) (v := (.ref w0)) F1_0 rfl d20_16 (by decide) (by decide) rfl rfl ?_
  refine Go.astore (pc' := 19) (Ls' := #[.val (.ref a), .val (.ref r_1), .val (.int (4 : Int32)), .val (.int (0 : Int32)), .val (.ref w0)]) d20_17 rfl rfl rfl ?_
  refine Go.aload (pc' := 21) d20_19 rfl rfl rfl ?_
  refine Go.old (fun old4 => ?_)
  refine Go.getfield (pc' := 24) (host := "") (Or.inl (ww hw 114 rfl)) Via.refl (fk0.ext old4.2) d20_21 rfl ?_
  refine Go.aloadN (pc' := 25) d20_24 rfl rfl rfl ?_
  refine Go.callV (cells' := 1) (slots' := 4) (pc' := 28) [(.ref a)] [] (xs0.ext old4.2) (ww hw 116 rfl) (ww hw 80 rfl) (fun s' hs' => notFace_of_selects (args := #[]) (mvT hs' (ww hw 82 rfl))) (ww hw 82 rfl) (ww hw 81 rfl) (ww hw 5 rfl) (ww hw 83 rfl) (by decide) (c_strNe l Z a0 hw h1 s0 t0 kt0 a b kb (5 : Int32) ([(.int (108 : Int32)), (.int (111 : Int32)), (.int (99 : Int32)), (.int (97 : Int32)), (.int (108 : Int32))]) (4 : Int32) ([(.int k0.toInt8.toInt32), (.int k1.toInt8.toInt32), (.int k2.toInt8.toInt32), (.int k3.toInt8.toInt32)]) cp hcp (by decide) (by decide) scp (xs0.ext old4.2) (cs0.ext old4.2) (gs0.ext old4.2) (vs0.ext old4.2) (xa.keep K1) (fa.keep K1 nin0) (ga.keep K1 nin0) (v.keep K1 nin0)) pd_14 rfl rfl rfl rfl rfl (nl rfl) (nl rfl) (nl rfl) (nl rfl) d20_25 rfl ?_
  rintro _ _ ⟨rfl, rfl⟩
  show Go _ _ _ _ _ _ _ _ _ _ _ _ 28 #[.val (.ref a), .val (.ref r_1), .val (.int (4 : Int32)), .val (.int (0 : Int32)), .val (.ref w0)] [(.int (0 : Int32))]
  refine Go.ifYes (pc' := 37) d20_28 (XT.i0_eq_t (by decide)) (by decide) (by decide) ?_
  refine Go.iinc (pc' := 40) (Ls' := #[.val (.ref a), .val (.ref r_1), .val (.int (4 : Int32)), .val (.int ((0 : Int32) + (1 : Int32))), .val (.ref w0)]) (w := (1 : Int32)) d20_37 rfl rfl rfl rfl ?_
  show Go _ _ _ _ _ _ _ _ _ _ _ _ 40 #[.val (.ref a), .val (.ref r_1), .val (.int (4 : Int32)), .val (.int (1 : Int32)), .val (.ref w0)] []
  refine Go.goto (pc' := 9) d20_40 (by decide) (by decide) ?_
  refine Go.iloadN (pc' := 10) d20_9 rfl rfl ?_
  refine Go.iloadN (pc' := 11) d20_10 rfl rfl ?_
  refine Go.icmpNo (pc' := 14) d20_11 (XT.ii_ge_f (by decide)) rfl ?_
  refine Go.aloadN (pc' := 15) d20_14 rfl rfl rfl ?_
  refine Go.iloadN (pc' := 16) d20_15 rfl rfl ?_
  refine Go.aaload (pc' := 17) (v := (.ref w1)) F1_0 rfl d20_16 (by decide) (by decide) rfl rfl ?_
  refine Go.astore (pc' := 19) (Ls' := #[.val (.ref a), .val (.ref r_1), .val (.int (4 : Int32)), .val (.int (1 : Int32)), .val (.ref w1)]) d20_17 rfl rfl rfl ?_
  refine Go.aload (pc' := 21) d20_19 rfl rfl rfl ?_
  refine Go.getfield (pc' := 24) (host := "") (Or.inl (ww hw 114 rfl)) Via.refl (fk1.ext old4.2) d20_21 rfl ?_
  refine Go.aloadN (pc' := 25) d20_24 rfl rfl rfl ?_
  refine Go.callV (cells' := 1) (slots' := 4) (pc' := 28) [(.ref a)] [] (xs1.ext old4.2) (ww hw 116 rfl) (ww hw 80 rfl) (fun s' hs' => notFace_of_selects (args := #[]) (mvT hs' (ww hw 82 rfl))) (ww hw 82 rfl) (ww hw 81 rfl) (ww hw 5 rfl) (ww hw 83 rfl) (by decide) (c_strEq4_4s l Z a0 hw h1 a b kb s1 t1 kt1 k0.toInt8.toInt32 k1.toInt8.toInt32 k2.toInt8.toInt32 k3.toInt8.toInt32 (108 : Int32) (100 : Int32) (97 : Int32) (112 : Int32) cp hcp scp (xa.keep K1) (fa.keep K1 nin0) (ga.keep K1 nin0) (v.keep K1 nin0) (xs1.ext old4.2) (cs1.ext old4.2) (gs1.ext old4.2) (vs1.ext old4.2)) pd_14 rfl rfl rfl rfl rfl (nl rfl) (nl rfl) (nl rfl) (nl rfl) d20_25 rfl ?_
  rintro _ _ ⟨rfl, rfl⟩
  show Go _ _ _ _ _ _ _ _ _ _ _ _ 28 #[.val (.ref a), .val (.ref r_1), .val (.int (4 : Int32)), .val (.int (1 : Int32)), .val (.ref w1)] [(.int (if k0.toInt8.toInt32 = (108 : Int32) ∧ k1.toInt8.toInt32 = (100 : Int32) ∧ k2.toInt8.toInt32 = (97 : Int32) ∧ k3.toInt8.toInt32 = (112 : Int32) then (1 : Int32) else 0))]
  refine Go.ifYes (pc' := 37) d20_28 (XT.i0_eq_t he1) (by decide) (by decide) ?_
  refine Go.iinc (pc' := 40) (Ls' := #[.val (.ref a), .val (.ref r_1), .val (.int (4 : Int32)), .val (.int ((1 : Int32) + (1 : Int32))), .val (.ref w1)]) (w := (1 : Int32)) d20_37 rfl rfl rfl rfl ?_
  show Go _ _ _ _ _ _ _ _ _ _ _ _ 40 #[.val (.ref a), .val (.ref r_1), .val (.int (4 : Int32)), .val (.int (2 : Int32)), .val (.ref w1)] []
  refine Go.goto (pc' := 9) d20_40 (by decide) (by decide) ?_
  refine Go.iloadN (pc' := 10) d20_9 rfl rfl ?_
  refine Go.iloadN (pc' := 11) d20_10 rfl rfl ?_
  refine Go.icmpNo (pc' := 14) d20_11 (XT.ii_ge_f (by decide)) rfl ?_
  refine Go.aloadN (pc' := 15) d20_14 rfl rfl rfl ?_
  refine Go.iloadN (pc' := 16) d20_15 rfl rfl ?_
  refine Go.aaload (pc' := 17) (v := (.ref w2)) F1_0 rfl d20_16 (by decide) (by decide) rfl rfl ?_
  refine Go.astore (pc' := 19) (Ls' := #[.val (.ref a), .val (.ref r_1), .val (.int (4 : Int32)), .val (.int (2 : Int32)), .val (.ref w2)]) d20_17 rfl rfl rfl ?_
  refine Go.aload (pc' := 21) d20_19 rfl rfl rfl ?_
  refine Go.getfield (pc' := 24) (host := "") (Or.inl (ww hw 114 rfl)) Via.refl (fk2.ext old4.2) d20_21 rfl ?_
  refine Go.aloadN (pc' := 25) d20_24 rfl rfl rfl ?_
  refine Go.callV (cells' := 1) (slots' := 4) (pc' := 28) [(.ref a)] [] (xs2.ext old4.2) (ww hw 116 rfl) (ww hw 80 rfl) (fun s' hs' => notFace_of_selects (args := #[]) (mvT hs' (ww hw 82 rfl))) (ww hw 82 rfl) (ww hw 81 rfl) (ww hw 5 rfl) (ww hw 83 rfl) (by decide) (c_strEq4_4s l Z a0 hw h1 a b kb s2 t2 kt2 k0.toInt8.toInt32 k1.toInt8.toInt32 k2.toInt8.toInt32 k3.toInt8.toInt32 (111 : Int32) (105 : Int32) (100 : Int32) (99 : Int32) cp hcp scp (xa.keep K1) (fa.keep K1 nin0) (ga.keep K1 nin0) (v.keep K1 nin0) (xs2.ext old4.2) (cs2.ext old4.2) (gs2.ext old4.2) (vs2.ext old4.2)) pd_14 rfl rfl rfl rfl rfl (nl rfl) (nl rfl) (nl rfl) (nl rfl) d20_25 rfl ?_
  rintro _ _ ⟨rfl, rfl⟩
  show Go _ _ _ _ _ _ _ _ _ _ _ _ 28 #[.val (.ref a), .val (.ref r_1), .val (.int (4 : Int32)), .val (.int (2 : Int32)), .val (.ref w2)] [(.int (if k0.toInt8.toInt32 = (111 : Int32) ∧ k1.toInt8.toInt32 = (105 : Int32) ∧ k2.toInt8.toInt32 = (100 : Int32) ∧ k3.toInt8.toInt32 = (99 : Int32) then (1 : Int32) else 0))]
  refine Go.ifNo (pc' := 31) d20_28 (XT.i0_eq_f he2) rfl ?_
  refine Go.aload (pc' := 33) d20_31 rfl rfl rfl ?_
  refine Go.callS (cells' := 2) (slots' := 5) (pc' := 36) [(.ref w2)] [] (ww hw 135 rfl) (ww hw 136 rfl) (ww hw 119 rfl) (ww hw 137 rfl) (by decide) (c_optOf l Z a0 hw h1 w2) pd_17 rfl rfl rfl rfl rfl (nl rfl) (nl rfl) (nl rfl) (nl rfl) d20_33 rfl ?_
  rintro _ h8 ⟨b_8, rfl, K8, ge_b_8, sz_b_8, F8_0, F8_1⟩
  have sz9 : h.size ≤ b_8 := Nat.le_trans K3.1 sz_b_8
  have K10 : Keep h h8 [] := K3.trans K8 all0
  show Go _ _ _ _ _ _ _ _ _ _ _ _ 36 #[.val (.ref a), .val (.ref r_1), .val (.int (4 : Int32)), .val (.int (2 : Int32)), .val (.ref w2)] [(.ref b_8)]
  exact Go.retR rfl rfl rfl rfl d20_36 ⟨b_8, rfl, K10, ge_b_8, sz9, F8_0, F8_1⟩ (by decide) (by decide)
theorem d17_48 : decode method_3_code 48 = .ok (.getstatic 65, 3) := by decide +kernel
theorem d17_51 : decode method_3_code 51 = .ok (.areturn, 1) := by decide +kernel
theorem c_exp4_3 (l : Launch) (Z : State) (a0 : Array Value) (hw : ∀ d ∈ tables_1, d.before a0 Z = true) {n0 : Nat} (h : Heap) (a : Addr) (b : Addr) (kb : ClassId) (k0 : Int32) (k1 : Int32) (k2 : Int32) (k3 : Int32) (tt : String) (tw : Addr) (tb : Addr) (to : String) (ti : Nat) (wV : Addr) (kV : ClassId) (w0 : Addr) (s0 : Addr) (t0 : Addr) (kt0 : ClassId) (w1 : Addr) (s1 : Addr) (t1 : Addr) (kt1 : ClassId) (w2 : Addr) (s2 : Addr) (t2 : Addr) (kt2 : ClassId) (w3 : Addr) (s3 : Addr) (t3 : Addr) (kt3 : ClassId) (cp : Int32) (hKS : KS Z wV kV w0 s0 t0 kt0 w1 s1 t1 kt1 w2 s2 t2 kt2 w3 s3 t3 kt3) (hcp : ¬ (cp = (0 : Int32))) (hcw : Jvm.Lit.compactW.before a0 Z = true) (hch43 : Jvm.Lit.constHeld Z "com/example/huron/huron/io/config/AuthenticatorKindNamedPinLaw" 43) (hch53 : Jvm.Lit.constHeld Z "com/example/huron/huron/io/config/AuthenticatorKindNamedPinLaw" 53) (hch58 : Jvm.Lit.constHeld Z "com/example/huron/huron/io/config/AuthenticatorKindNamedPinLaw" 58) (hch63 : Jvm.Lit.constHeld Z "com/example/huron/huron/io/config/AuthenticatorKindNamedPinLaw" 63) (he1 : (if k0.toInt8.toInt32 = (108 : Int32) ∧ k1.toInt8.toInt32 = (100 : Int32) ∧ k2.toInt8.toInt32 = (97 : Int32) ∧ k3.toInt8.toInt32 = (112 : Int32) then (1 : Int32) else 0) = (0 : Int32)) (he2 : (if k0.toInt8.toInt32 = (111 : Int32) ∧ k1.toInt8.toInt32 = (105 : Int32) ∧ k2.toInt8.toInt32 = (100 : Int32) ∧ k3.toInt8.toInt32 = (99 : Int32) then (1 : Int32) else 0) = (0 : Int32)) (he3 : ¬ ((if k0.toInt8.toInt32 = (115 : Int32) ∧ k1.toInt8.toInt32 = (97 : Int32) ∧ k2.toInt8.toInt32 = (109 : Int32) ∧ k3.toInt8.toInt32 = (108 : Int32) then (1 : Int32) else 0) = (0 : Int32))) (scp : Sta Z Z.heap "java/lang/String" "COMPACT_STRINGS" "Z" (.int cp)) (xa : Exa Z h a "java/lang/String") (fa : Fld Z h a "java/lang/String" "coder" "B" (.int (0 : Int32))) (ga : Fld Z h a "java/lang/String" "value" "[B" (.ref b)) (v : Arv Z h b kb .byte (4 : Int32) [(.int k0.toInt8.toInt32), (.int k1.toInt8.toInt32), (.int k2.toInt8.toInt32), (.int k3.toInt8.toInt32)] (.int 0)) (HT : Hel Z h tw tb tt) :
    ConS l (⟨"com/example/huron/huron/io/config/AuthenticatorKindNamedPinLaw", "expected", "(Ljava/lang/String;)Lcom/example/huron/huron/io/config/AuthenticatorKind;"⟩ : MethodName) method_3_code 1 (some (.object "com/example/huron/huron/io/config/AuthenticatorKind")) ({ frames := 2, cells := 8, slots := 84, locals := 28 } : Room) Z n0 #[(.ref a)] h [(tt, tw, to, ti)] (fun v h' LL' => v = some (.ref w3) ∧ Keep h h' []) := by
  obtain ⟨sv, vv, xv, sk0, xk0, fk0, xs0, cs0, gs0, vs0, sk1, xk1, fk1, xs1, cs1, gs1, vs1, sk2, xk2, fk2, xs2, cs2, gs2, vs2, sk3, xk3, fk3, xs3, cs3, gs3, vs3⟩ := id hKS
  refine ConS.of_go (plainFor_of_name pn_2) (Ls := #[.val (.ref a)]) (fun m => by first | (simp [entryFrame, mkF, argsToLocals, Value.category]; done) | rfl) ?_
  refine GoS.aloadN (pc' := 1) d17_0 rfl rfl rfl ?_
  refine GoS.ldcS (pc' := 3) (cells' := 2) (slots' := 24) (n := 20) (z := (5 : Int32)) (vs := [(.int (108 : Int32)), (.int (111 : Int32)), (.int (99 : Int32)), (.int (97 : Int32)), (.int (108 : Int32))]) (ww hw 4 rfl) (wsA hw) hch43 hcw (Keep.refl h []) (HL.yes (ww hw 6 rfl) HT HL.nil) tx_0 (by decide) rfl d17_1 (nl rfl) (nl rfl) rfl rfl (nl rfl) (nl rfl) rfl ?_
  intro h1 sa1 sb1 kb1 E1 F1_0 F1_1 F1_2 F1_3 F1_4 F1_5
  have K2 : Keep h h1 [] := (Keep.refl h []).ext E1
  have H3 : Hel Z h1 sa1 sb1 "local" := ⟨kb1, _, _, F1_0, F1_1, F1_2, F1_3, F1_4, tx_0, rfl⟩
  show GoS _ _ _ _ _ _ _ _ _ _ _ _ _ _ 3 #[.val (.ref a)] [(.ref sa1), (.ref a)]
  refine GoS.callV (cells' := 2) (slots' := 24) (pc' := 6) [(.ref sa1)] [] (xa.ext E1) (ww hw 79 rfl) (ww hw 80 rfl) (fun s' hs' => notFace_of_selects (args := #[]) (mvT hs' (ww hw 82 rfl))) (ww hw 82 rfl) (ww hw 81 rfl) (ww hw 5 rfl) (ww hw 83 rfl) (by decide) (Con.cold (c_strNe l Z a0 hw h1 a b kb sa1 sb1 kb1 (4 : Int32) ([(.int k0.toInt8.toInt32), (.int k1.toInt8.toInt32), (.int k2.toInt8.toInt32), (.int k3.toInt8.toInt32)]) (5 : Int32) ([(.int (108 : Int32)), (.int (111 : Int32)), (.int (99 : Int32)), (.int (97 : Int32)), (.int (108 : Int32))]) cp hcp (by decide) (by decide) scp (xa.ext E1) (fa.ext E1) (ga.ext E1) (v.ext E1) F1_0 F1_1 F1_2 F1_3)) pd_14 rfl rfl rfl rfl rfl (nl rfl) (nl rfl) (nl rfl) (nl rfl) d17_3 rfl ?_
  rintro _ _ _ ⟨⟨rfl, rfl⟩, rfl⟩
  show GoS _ _ _ _ _ _ _ _ _ _ _ _ _ _ 6 #[.val (.ref a)] [(.int (0 : Int32))]
  refine GoS.ifYes (pc' := 13) d17_6 (XT.i0_eq_t (by decide)) (by decide) (by decide) ?_
  refine GoS.aloadN (pc' := 14) d17_13 rfl rfl rfl ?_
  refine GoS.ldcS (pc' := 16) (cells' := 4) (slots' := 44) (n := 16) (z := (4 : Int32)) (vs := [(.int (108 : Int32)), (.int (100 : Int32)), (.int (97 : Int32)), (.int (112 : Int32))]) (ww hw 88 rfl) (wsA hw) hch53 hcw K2 (HL.no (by decide) (HL.yes (ww hw 6 rfl) HT HL.nil)) tx_1 (by decide) rfl d17_14 (nl rfl) (nl rfl) rfl rfl (nl rfl) (nl rfl) rfl ?_
  intro h5 sa5 sb5 kb5 E5 F5_0 F5_1 F5_2 F5_3 F5_4 F5_5
  have K6 : Keep h h5 [] := K2.ext E5
  have H7 : Hel Z h5 sa5 sb5 "ldap" := ⟨kb5, _, _, F5_0, F5_1, F5_2, F5_3, F5_4, tx_1, rfl⟩
  show GoS _ _ _ _ _ _ _ _ _ _ _ _ _ _ 16 #[.val (.ref a)] [(.ref sa5), (.ref a)]
  refine GoS.callV (cells' := 4) (slots' := 44) (pc' := 19) [(.ref sa5)] [] ((xa.ext E1).ext E5) (ww hw 79 rfl) (ww hw 80 rfl) (fun s' hs' => notFace_of_selects (args := #[]) (mvT hs' (ww hw 82 rfl))) (ww hw 82 rfl) (ww hw 81 rfl) (ww hw 5 rfl) (ww hw 83 rfl) (by decide) (Con.cold (c_strEq4_4 l Z a0 hw h5 a b kb sa5 sb5 kb5 k0.toInt8.toInt32 k1.toInt8.toInt32 k2.toInt8.toInt32 k3.toInt8.toInt32 (108 : Int32) (100 : Int32) (97 : Int32) (112 : Int32) cp hcp scp (((xa.ext E1).ext E5)) (((fa.ext E1).ext E5)) (((ga.ext E1).ext E5)) (((v.ext E1).ext E5)) F5_0 F5_1 F5_2 F5_3)) pd_14 rfl rfl rfl rfl rfl (nl rfl) (nl rfl) (nl rfl) (nl rfl) d17_16 rfl ?_
  rintro _ _ _ ⟨⟨rfl, rfl⟩, rfl⟩
  show GoS _ _ _ _ _ _ _ _ _ _ _ _ _ _ 19 #[.val (.ref a)] [(.int (if k0.toInt8.toInt32 = (108 : Int32) ∧ k1.toInt8.toInt32 = (100 : Int32) ∧ k2.toInt8.toInt32 = (97 : Int32) ∧ k3.toInt8.toInt32 = (112 : Int32) then (1 : Int32) else 0))]
  refine GoS.ifYes (pc' := 26) d17_19 (XT.i0_eq_t he1) (by decide) (by decide) ?_
  refine GoS.aloadN (pc' := 27) d17_26 rfl rfl rfl ?_
  refine GoS.ldcS (pc' := 29) (cells' := 6) (slots' := 64) (n := 16) (z := (4 : Int32)) (vs := [(.int (111 : Int32)), (.int (105 : Int32)), (.int (100 : Int32)), (.int (99 : Int32))]) (ww hw 89 rfl) (wsA hw) hch58 hcw K6 (HL.no (by decide) (HL.no (by decide) (HL.yes (ww hw 6 rfl) HT HL.nil))) tx_2 (by decide) rfl d17_27 (nl rfl) (nl rfl) rfl rfl (nl rfl) (nl rfl) rfl ?_
  intro h9 sa9 sb9 kb9 E9 F9_0 F9_1 F9_2 F9_3 F9_4 F9_5
  have K10 : Keep h h9 [] := K6.ext E9
  have H11 : Hel Z h9 sa9 sb9 "oidc" := ⟨kb9, _, _, F9_0, F9_1, F9_2, F9_3, F9_4, tx_2, rfl⟩
  show GoS _ _ _ _ _ _ _ _ _ _ _ _ _ _ 29 #[.val (.ref a)] [(.ref sa9), (.ref a)]
  refine GoS.callV (cells' := 6) (slots' := 64) (pc' := 32) [(.ref sa9)] [] (((xa.ext E1).ext E5).ext E9) (ww hw 79 rfl) (ww hw 80 rfl) (fun s' hs' => notFace_of_selects (args := #[]) (mvT hs' (ww hw 82 rfl))) (ww hw 82 rfl) (ww hw 81 rfl) (ww hw 5 rfl) (ww hw 83 rfl) (by decide) (Con.cold (c_strEq4_4 l Z a0 hw h9 a b kb sa9 sb9 kb9 k0.toInt8.toInt32 k1.toInt8.toInt32 k2.toInt8.toInt32 k3.toInt8.toInt32 (111 : Int32) (105 : Int32) (100 : Int32) (99 : Int32) cp hcp scp ((((xa.ext E1).ext E5).ext E9)) ((((fa.ext E1).ext E5).ext E9)) ((((ga.ext E1).ext E5).ext E9)) ((((v.ext E1).ext E5).ext E9)) F9_0 F9_1 F9_2 F9_3)) pd_14 rfl rfl rfl rfl rfl (nl rfl) (nl rfl) (nl rfl) (nl rfl) d17_29 rfl ?_
  rintro _ _ _ ⟨⟨rfl, rfl⟩, rfl⟩
  show GoS _ _ _ _ _ _ _ _ _ _ _ _ _ _ 32 #[.val (.ref a)] [(.int (if k0.toInt8.toInt32 = (111 : Int32) ∧ k1.toInt8.toInt32 = (105 : Int32) ∧ k2.toInt8.toInt32 = (100 : Int32) ∧ k3.toInt8.toInt32 = (99 : Int32) then (1 : Int32) else 0))]
  refine GoS.ifYes (pc' := 39) d17_32 (XT.i0_eq_t he2) (by decide) (by decide) ?_
  refine GoS.aloadN (pc' := 40) d17_39 rfl rfl rfl ?_
  refine GoS.ldcS (pc' := 42) (cells' := 8) (slots' := 84) (n := 16) (z := (4 : Int32)) (vs := [(.int (115 : Int32)), (.int (97 : Int32)), (.int (109 : Int32)), (.int (108 : Int32))]) (ww hw 90 rfl) (wsA hw) hch63 hcw K10 (HL.no (by decide) (HL.no (by decide) (HL.no (by decide) (HL.yes (ww hw 6 rfl) HT HL.nil)))) tx_3 (by decide) rfl d17_40 (nl rfl) (nl rfl) rfl rfl (nl rfl) (nl rfl) rfl ?_
  intro h13 sa13 sb13 kb13 E13 F13_0 F13_1 F13_2 F13_3 F13_4 F13_5
  have K14 : Keep h h13 [] := K10.ext E13
  have H15 : Hel Z h13 sa13 sb13 "saml" := ⟨kb13, _, _, F13_0, F13_1, F13_2, F13_3, F13_4, tx_3, rfl⟩
  show GoS _ _ _ _ _ _ _ _ _ _ _ _ _ _ 42 #[.val (.ref a)] [(.ref sa13), (.ref a)]
  refine GoS.callV (cells' := 8) (slots' := 84) (pc' := 45) [(.ref sa13)] [] ((((xa.ext E1).ext E5).ext E9).ext E13) (ww hw 79 rfl) (ww hw 80 rfl) (fun s' hs' => notFace_of_selects (args := #[]) (mvT hs' (ww hw 82 rfl))) (ww hw 82 rfl) (ww hw 81 rfl) (ww hw 5 rfl) (ww hw 83 rfl) (by decide) (Con.cold (c_strEq4_4 l Z a0 hw h13 a b kb sa13 sb13 kb13 k0.toInt8.toInt32 k1.toInt8.toInt32 k2.toInt8.toInt32 k3.toInt8.toInt32 (115 : Int32) (97 : Int32) (109 : Int32) (108 : Int32) cp hcp scp (((((xa.ext E1).ext E5).ext E9).ext E13)) (((((fa.ext E1).ext E5).ext E9).ext E13)) (((((ga.ext E1).ext E5).ext E9).ext E13)) (((((v.ext E1).ext E5).ext E9).ext E13)) F13_0 F13_1 F13_2 F13_3)) pd_14 rfl rfl rfl rfl rfl (nl rfl) (nl rfl) (nl rfl) (nl rfl) d17_42 rfl ?_
  rintro _ _ _ ⟨⟨rfl, rfl⟩, rfl⟩
  show GoS _ _ _ _ _ _ _ _ _ _ _ _ _ _ 45 #[.val (.ref a)] [(.int (if k0.toInt8.toInt32 = (115 : Int32) ∧ k1.toInt8.toInt32 = (97 : Int32) ∧ k2.toInt8.toInt32 = (109 : Int32) ∧ k3.toInt8.toInt32 = (108 : Int32) then (1 : Int32) else 0))]
  refine GoS.ifNo (pc' := 48) d17_45 (XT.i0_eq_f he3) rfl ?_
  refine GoS.old (fun old17 => ?_)
  refine GoS.getstatic (pc' := 51) (host := "") (Or.inl (ww hw 150 rfl)) Via.refl (sk3.ext old17.2) d17_48 rfl ?_
  exact GoS.retR rfl rfl rfl rfl d17_51 ⟨rfl, K14⟩ (by decide) (by decide)
theorem c_named4_3 (l : Launch) (Z : State) (a0 : Array Value) (hw : ∀ d ∈ tables_1, d.before a0 Z = true) {n0 : Nat} (h : Heap) (a : Addr) (b : Addr) (kb : ClassId) (k0 : Int32) (k1 : Int32) (k2 : Int32) (k3 : Int32) (wV : Addr) (kV : ClassId) (w0 : Addr) (s0 : Addr) (t0 : Addr) (kt0 : ClassId) (w1 : Addr) (s1 : Addr) (t1 : Addr) (kt1 : ClassId) (w2 : Addr) (s2 : Addr) (t2 : Addr) (kt2 : ClassId) (w3 : Addr) (s3 : Addr) (t3 : Addr) (kt3 : ClassId) (cp : Int32) (wo : Addr) (hKS : KS Z wV kV w0 s0 t0 kt0 w1 s1 t1 kt1 w2 s2 t2 kt2 w3 s3 t3 kt3) (hcp : ¬ (cp = (0 : Int32))) (he1 : (if k0.toInt8.toInt32 = (108 : Int32) ∧ k1.toInt8.toInt32 = (100 : Int32) ∧ k2.toInt8.toInt32 = (97 : Int32) ∧ k3.toInt8.toInt32 = (112 : Int32) then (1 : Int32) else 0) = (0 : Int32)) (he2 : (if k0.toInt8.toInt32 = (111 : Int32) ∧ k1.toInt8.toInt32 = (105 : Int32) ∧ k2.toInt8.toInt32 = (100 : Int32) ∧ k3.toInt8.toInt32 = (99 : Int32) then (1 : Int32) else 0) = (0 : Int32)) (he3 : ¬ ((if k0.toInt8.toInt32 = (115 : Int32) ∧ k1.toInt8.toInt32 = (97 : Int32) ∧ k2.toInt8.toInt32 = (109 : Int32) ∧ k3.toInt8.toInt32 = (108 : Int32) then (1 : Int32) else 0) = (0 : Int32))) (scp : Sta Z Z.heap "java/lang/String" "COMPACT_STRINGS" "Z" (.int cp)) (so : Sta Z Z.heap "java/util/Optional" "EMPTY" "Ljava/util/Optional;" (.ref wo)) (xo : Exa Z Z.heap wo "java/util/Optional") (fo : Fld Z Z.heap wo "java/util/Optional" "value" "Ljava/lang/Object;" .null) (xa : Exa Z h a "java/lang/String") (fa : Fld Z h a "java/lang/String" "coder" "B" (.int (0 : Int32))) (ga : Fld Z h a "java/lang/String" "value" "[B" (.ref b)) (v : Arv Z h b kb .byte (4 : Int32) [(.int k0.toInt8.toInt32), (.int k1.toInt8.toInt32), (.int k2.toInt8.toInt32), (.int k3.toInt8.toInt32)] (.int 0)) :
    Con l (⟨"com/example/huron/huron/io/config/AuthenticatorKind", "named", "(Ljava/lang/String;)Ljava/util/Optional;"⟩ : MethodName) prog_8_method_4_code 5 (some (.object "java/util/Optional")) ({ frames := 3, cells := 2, slots := 5, locals := 38 } : Room) Z n0 #[(.ref a)] h (fun v h' => ∃ r : Addr, v = some (.ref r) ∧ Keep h h' [] ∧ n0 ≤ r ∧ h.size ≤ r ∧ Exa Z h' r "java/util/Optional" ∧ Fld Z h' r "java/util/Optional" "value" "Ljava/lang/Object;" (.ref w3)) := by
  obtain ⟨sv, vv, xv, sk0, xk0, fk0, xs0, cs0, gs0, vs0, sk1, xk1, fk1, xs1, cs1, gs1, vs1, sk2, xk2, fk2, xs2, cs2, gs2, vs2, sk3, xk3, fk3, xs3, cs3, gs3, vs3⟩ := id hKS
  refine Con.of_go (plainFor_of_name pn_7) (Ls := #[.val (.ref a), .unset, .unset, .unset, .unset]) (fun m => by first | (simp [entryFrame, mkF, argsToLocals, Value.category]; done) | rfl) ?_
  refine Go.callS (cells' := 1) (slots' := 4) (pc' := 3) [] [] (ww hw 95 rfl) (ww hw 96 rfl) (ww hw 93 rfl) (ww hw 97 rfl) (by decide) (c_values l Z a0 hw h wV kV w0 s0 t0 kt0 w1 s1 t1 kt1 w2 s2 t2 kt2 w3 s3 t3 kt3 hKS) pd_15 rfl rfl rfl rfl rfl (nl rfl) (nl rfl) (nl rfl) (nl rfl) d20_0 rfl ?_
  rintro _ h1 ⟨r_1, rfl, K1, ge_r_1, sz_r_1, F1_0, F1_1⟩
  have sz2 : h.size ≤ r_1 := Nat.le_trans (Keep.refl h []).1 sz_r_1
  have K3 : Keep h h1 [] := (Keep.refl h []).trans K1 all0
  show Go _ _ _ _ _ _ _ _ _ _ _ _ 3 #[.val (.ref a), .unset, .unset, .unset, .unset] [(.ref r_1)]
  refine Go.astoreN (pc' := 4) (Ls' := #[.val (.ref a), .val (.ref r_1), .unset, .unset, .unset]) d20_3 rfl rfl rfl ?_
  refine Go.aloadN (pc' := 5) d20_4 rfl rfl rfl ?_
  refine Go.arraylength (pc' := 6) F1_0 d20_5 rfl ?_
  refine Go.istoreN (pc' := 7) (Ls' := #[.val (.ref a), .val (.ref r_1), .val (.int (4 : Int32)), .unset, .unset]) d20_6 rfl rfl ?_
  refine Go.iconst (pc' := 8) (v := (0 : Int32)) d20_7 rfl rfl ?_
  refine Go.istoreN (pc' := 9) (Ls' := #[.val (.ref a), .val (.ref r_1), .val (.int (4 : Int32)), .val (.int (0 : Int32)), .unset]) d20_8 rfl rfl ?_
  refine Go.iloadN (pc' := 10) d20_9 rfl rfl ?_
  refine Go.iloadN (pc' := 11) d20_10 rfl rfl ?_
  refine Go.icmpNo (pc' := 14) d20_11 (XT.ii_ge_f (by decide)) rfl ?_
  refine Go.aloadN (pc' := 15) d20_14 rfl rfl rfl ?_
  refine Go.iloadN (pc' := 16) d20_15 rfl rfl ?_
  refine Go.aaload (pc' := 17) (v := (.ref w0)) F1_0 rfl d20_16 (by decide) (by decide) rfl rfl ?_
  refine Go.astore (pc' := 19) (Ls' := #[.val (.ref a), .val (.ref r_1), .val (.int (4 : Int32)), .val (.int (0 : Int32)), .val (.ref w0)]) d20_17 rfl rfl rfl ?_
  refine Go.aload (pc' := 21) d20_19 rfl rfl rfl ?_
  refine Go.old (fun old4 => ?_)
  refine Go.getfield (pc' := 24) (host := "") (Or.inl (ww hw 114 rfl)) Via.refl (fk0.ext old4.2) d20_21 rfl ?_
  refine Go.aloadN (pc' := 25) d20_24 rfl rfl rfl ?_
  refine Go.callV (cells' := 1) (slots' := 4) (pc' := 28) [(.ref a)] [] (xs0.ext old4.2) (ww hw 116 rfl) (ww hw 80 rfl) (fun s' hs' => notFace_of_selects (args := #[]) (mvT hs' (ww hw 82 rfl))) (ww hw 82 rfl) (ww hw 81 rfl) (ww hw 5 rfl) (ww hw 83 rfl) (by decide) (c_strNe l Z a0 hw h1 s0 t0 kt0 a b kb (5 : Int32) ([(.int (108 : Int32)), (.int (111 : Int32)), (.int (99 : Int32)), (.int (97 : Int32)), (.int (108 : Int32))]) (4 : Int32) ([(.int k0.toInt8.toInt32), (.int k1.toInt8.toInt32), (.int k2.toInt8.toInt32), (.int k3.toInt8.toInt32)]) cp hcp (by decide) (by decide) scp (xs0.ext old4.2) (cs0.ext old4.2) (gs0.ext old4.2) (vs0.ext old4.2) (xa.keep K1) (fa.keep K1 nin0) (ga.keep K1 nin0) (v.keep K1 nin0)) pd_14 rfl rfl rfl rfl rfl (nl rfl) (nl rfl) (nl rfl) (nl rfl) d20_25 rfl ?_
  rintro _ _ ⟨rfl, rfl⟩
  show Go _ _ _ _ _ _ _ _ _ _ _ _ 28 #[.val (.ref a), .val (.ref r_1), .val (.int (4 : Int32)), .val (.int (0 : Int32)), .val (.ref w0)] [(.int (0 : Int32))]
  refine Go.ifYes (pc' := 37) d20_28 (XT.i0_eq_t (by decide)) (by decide) (by decide) ?_
  refine Go.iinc (pc' := 40) (Ls' := #[.val (.ref a), .val (.ref r_1), .val (.int (4 : Int32)), .val (.int ((0 : Int32) + (1 : Int32))), .val (.ref w0)]) (w := (1 : Int32)) d20_37 rfl rfl rfl rfl ?_
  show Go _ _ _ _ _ _ _ _ _ _ _ _ 40 #[.val (.ref a), .val (.ref r_1), .val (.int (4 : Int32)), .val (.int (1 : Int32)), .val (.ref w0)] []
  refine Go.goto (pc' := 9) d20_40 (by decide) (by decide) ?_
  refine Go.iloadN (pc' := 10) d20_9 rfl rfl ?_
  refine Go.iloadN (pc' := 11) d20_10 rfl rfl ?_
  refine Go.icmpNo (pc' := 14) d20_11 (XT.ii_ge_f (by decide)) rfl ?_
  refine Go.aloadN (pc' := 15) d20_14 rfl rfl rfl ?_
  refine Go.iloadN (pc' := 16) d20_15 rfl rfl ?_
  refine Go.aaload (pc' := 17) (v := (.ref w1)) F1_0 rfl d20_16 (by decide) (by decide) rfl rfl ?_
  refine Go.astore (pc' := 19) (Ls' := #[.val (.ref a), .val (.ref r_1), .val (.int (4 : Int32)), .val (.int (1 : Int32)), .val (.ref w1)]) d20_17 rfl rfl rfl ?_
  refine Go.aload (pc' := 21) d20_19 rfl rfl rfl ?_
  refine Go.getfield (pc' := 24) (host := "") (Or.inl (ww hw 114 rfl)) Via.refl (fk1.ext old4.2) d20_21 rfl ?_
  refine Go.aloadN (pc' := 25) d20_24 rfl rfl rfl ?_
  refine Go.callV (cells' := 1) (slots' := 4) (pc' := 28) [(.ref a)] [] (xs1.ext old4.2) (ww hw 116 rfl) (ww hw 80 rfl) (fun s' hs' => notFace_of_selects (args := #[]) (mvT hs' (ww hw 82 rfl))) (ww hw 82 rfl) (ww hw 81 rfl) (ww hw 5 rfl) (ww hw 83 rfl) (by decide) (c_strEq4_4s l Z a0 hw h1 a b kb s1 t1 kt1 k0.toInt8.toInt32 k1.toInt8.toInt32 k2.toInt8.toInt32 k3.toInt8.toInt32 (108 : Int32) (100 : Int32) (97 : Int32) (112 : Int32) cp hcp scp (xa.keep K1) (fa.keep K1 nin0) (ga.keep K1 nin0) (v.keep K1 nin0) (xs1.ext old4.2) (cs1.ext old4.2) (gs1.ext old4.2) (vs1.ext old4.2)) pd_14 rfl rfl rfl rfl rfl (nl rfl) (nl rfl) (nl rfl) (nl rfl) d20_25 rfl ?_
  rintro _ _ ⟨rfl, rfl⟩
  show Go _ _ _ _ _ _ _ _ _ _ _ _ 28 #[.val (.ref a), .val (.ref r_1), .val (.int (4 : Int32)), .val (.int (1 : Int32)), .val (.ref w1)] [(.int (if k0.toInt8.toInt32 = (108 : Int32) ∧ k1.toInt8.toInt32 = (100 : Int32) ∧ k2.toInt8.toInt32 = (97 : Int32) ∧ k3.toInt8.toInt32 = (112 : Int32) then (1 : Int32) else 0))]
  refine Go.ifYes (pc' := 37) d20_28 (XT.i0_eq_t he1) (by decide) (by decide) ?_
  refine Go.iinc (pc' := 40) (Ls' := #[.val (.ref a), .val (.ref r_1), .val (.int (4 : Int32)), .val (.int ((1 : Int32) + (1 : Int32))), .val (.ref w1)]) (w := (1 : Int32)) d20_37 rfl rfl rfl rfl ?_
  show Go _ _ _ _ _ _ _ _ _ _ _ _ 40 #[.val (.ref a), .val (.ref r_1), .val (.int (4 : Int32)), .val (.int (2 : Int32)), .val (.ref w1)] []
  refine Go.goto (pc' := 9) d20_40 (by decide) (by decide) ?_
  refine Go.iloadN (pc' := 10) d20_9 rfl rfl ?_
  refine Go.iloadN (pc' := 11) d20_10 rfl rfl ?_
  refine Go.icmpNo (pc' := 14) d20_11 (XT.ii_ge_f (by decide)) rfl ?_
  refine Go.aloadN (pc' := 15) d20_14 rfl rfl rfl ?_
  refine Go.iloadN (pc' := 16) d20_15 rfl rfl ?_
  refine Go.aaload (pc' := 17) (v := (.ref w2)) F1_0 rfl d20_16 (by decide) (by decide) rfl rfl ?_
  refine Go.astore (pc' := 19) (Ls' := #[.val (.ref a), .val (.ref r_1), .val (.int (4 : Int32)), .val (.int (2 : Int32)), .val (.ref w2)]) d20_17 rfl rfl rfl ?_
  refine Go.aload (pc' := 21) d20_19 rfl rfl rfl ?_
  refine Go.getfield (pc' := 24) (host := "") (Or.inl (ww hw 114 rfl)) Via.refl (fk2.ext old4.2) d20_21 rfl ?_
  refine Go.aloadN (pc' := 25) d20_24 rfl rfl rfl ?_
  refine Go.callV (cells' := 1) (slots' := 4) (pc' := 28) [(.ref a)] [] (xs2.ext old4.2) (ww hw 116 rfl) (ww hw 80 rfl) (fun s' hs' => notFace_of_selects (args := #[]) (mvT hs' (ww hw 82 rfl))) (ww hw 82 rfl) (ww hw 81 rfl) (ww hw 5 rfl) (ww hw 83 rfl) (by decide) (c_strEq4_4s l Z a0 hw h1 a b kb s2 t2 kt2 k0.toInt8.toInt32 k1.toInt8.toInt32 k2.toInt8.toInt32 k3.toInt8.toInt32 (111 : Int32) (105 : Int32) (100 : Int32) (99 : Int32) cp hcp scp (xa.keep K1) (fa.keep K1 nin0) (ga.keep K1 nin0) (v.keep K1 nin0) (xs2.ext old4.2) (cs2.ext old4.2) (gs2.ext old4.2) (vs2.ext old4.2)) pd_14 rfl rfl rfl rfl rfl (nl rfl) (nl rfl) (nl rfl) (nl rfl) d20_25 rfl ?_
  rintro _ _ ⟨rfl, rfl⟩
  show Go _ _ _ _ _ _ _ _ _ _ _ _ 28 #[.val (.ref a), .val (.ref r_1), .val (.int (4 : Int32)), .val (.int (2 : Int32)), .val (.ref w2)] [(.int (if k0.toInt8.toInt32 = (111 : Int32) ∧ k1.toInt8.toInt32 = (105 : Int32) ∧ k2.toInt8.toInt32 = (100 : Int32) ∧ k3.toInt8.toInt32 = (99 : Int32) then (1 : Int32) else 0))]
  refine Go.ifYes (pc' := 37) d20_28 (XT.i0_eq_t he2) (by decide) (by decide) ?_
  refine Go.iinc (pc' := 40) (Ls' := #[.val (.ref a), .val (.ref r_1), .val (.int (4 : Int32)), .val (.int ((2 : Int32) + (1 : Int32))), .val (.ref w2)]) (w := (1 : Int32)) d20_37 rfl rfl rfl rfl ?_
  show Go _ _ _ _ _ _ _ _ _ _ _ _ 40 #[.val (.ref a), .val (.ref r_1), .val (.int (4 : Int32)), .val (.int (3 : Int32)), .val (.ref w2)] []
  refine Go.goto (pc' := 9) d20_40 (by decide) (by decide) ?_
  refine Go.iloadN (pc' := 10) d20_9 rfl rfl ?_
  refine Go.iloadN (pc' := 11) d20_10 rfl rfl ?_
  refine Go.icmpNo (pc' := 14) d20_11 (XT.ii_ge_f (by decide)) rfl ?_
  refine Go.aloadN (pc' := 15) d20_14 rfl rfl rfl ?_
  refine Go.iloadN (pc' := 16) d20_15 rfl rfl ?_
  refine Go.aaload (pc' := 17) (v := (.ref w3)) F1_0 rfl d20_16 (by decide) (by decide) rfl rfl ?_
  refine Go.astore (pc' := 19) (Ls' := #[.val (.ref a), .val (.ref r_1), .val (.int (4 : Int32)), .val (.int (3 : Int32)), .val (.ref w3)]) d20_17 rfl rfl rfl ?_
  refine Go.aload (pc' := 21) d20_19 rfl rfl rfl ?_
  refine Go.getfield (pc' := 24) (host := "") (Or.inl (ww hw 114 rfl)) Via.refl (fk3.ext old4.2) d20_21 rfl ?_
  refine Go.aloadN (pc' := 25) d20_24 rfl rfl rfl ?_
  refine Go.callV (cells' := 1) (slots' := 4) (pc' := 28) [(.ref a)] [] (xs3.ext old4.2) (ww hw 116 rfl) (ww hw 80 rfl) (fun s' hs' => notFace_of_selects (args := #[]) (mvT hs' (ww hw 82 rfl))) (ww hw 82 rfl) (ww hw 81 rfl) (ww hw 5 rfl) (ww hw 83 rfl) (by decide) (c_strEq4_4s l Z a0 hw h1 a b kb s3 t3 kt3 k0.toInt8.toInt32 k1.toInt8.toInt32 k2.toInt8.toInt32 k3.toInt8.toInt32 (115 : Int32) (97 : Int32) (109 : Int32) (108 : Int32) cp hcp scp (xa.keep K1) (fa.keep K1 nin0) (ga.keep K1 nin0) (v.keep K1 nin0) (xs3.ext old4.2) (cs3.ext old4.2) (gs3.ext old4.2) (vs3.ext old4.2)) pd_14 rfl rfl rfl rfl rfl (nl rfl) (nl rfl) (nl rfl) (nl rfl) d20_25 rfl ?_
  rintro _ _ ⟨rfl, rfl⟩
  show Go _ _ _ _ _ _ _ _ _ _ _ _ 28 #[.val (.ref a), .val (.ref r_1), .val (.int (4 : Int32)), .val (.int (3 : Int32)), .val (.ref w3)] [(.int (if k0.toInt8.toInt32 = (115 : Int32) ∧ k1.toInt8.toInt32 = (97 : Int32) ∧ k2.toInt8.toInt32 = (109 : Int32) ∧ k3.toInt8.toInt32 = (108 : Int32) then (1 : Int32) else 0))]
  refine Go.ifNo (pc' := 31) d20_28 (XT.i0_eq_f he3) rfl ?_
  refine Go.aload (pc' := 33) d20_31 rfl rfl rfl ?_
  refine Go.callS (cells' := 2) (slots' := 5) (pc' := 36) [(.ref w3)] [] (ww hw 135 rfl) (ww hw 136 rfl) (ww hw 119 rfl) (ww hw 137 rfl) (by decide) (c_optOf l Z a0 hw h1 w3) pd_17 rfl rfl rfl rfl rfl (nl rfl) (nl rfl) (nl rfl) (nl rfl) d20_33 rfl ?_
  rintro _ h9 ⟨b_9, rfl, K9, ge_b_9, sz_b_9, F9_0, F9_1⟩
  have sz10 : h.size ≤ b_9 := Nat.le_trans K3.1 sz_b_9
  have K11 : Keep h h9 [] := K3.trans K9 all0
  show Go _ _ _ _ _ _ _ _ _ _ _ _ 36 #[.val (.ref a), .val (.ref r_1), .val (.int (4 : Int32)), .val (.int (3 : Int32)), .val (.ref w3)] [(.ref b_9)]
  exact Go.retR rfl rfl rfl rfl d20_36 ⟨b_9, rfl, K11, ge_b_9, sz10, F9_0, F9_1⟩ (by decide) (by decide)
theorem c_exp4_n (l : Launch) (Z : State) (a0 : Array Value) (hw : ∀ d ∈ tables_1, d.before a0 Z = true) {n0 : Nat} (h : Heap) (a : Addr) (b : Addr) (kb : ClassId) (k0 : Int32) (k1 : Int32) (k2 : Int32) (k3 : Int32) (tt : String) (tw : Addr) (tb : Addr) (to : String) (ti : Nat) (wV : Addr) (kV : ClassId) (w0 : Addr) (s0 : Addr) (t0 : Addr) (kt0 : ClassId) (w1 : Addr) (s1 : Addr) (t1 : Addr) (kt1 : ClassId) (w2 : Addr) (s2 : Addr) (t2 : Addr) (kt2 : ClassId) (w3 : Addr) (s3 : Addr) (t3 : Addr) (kt3 : ClassId) (cp : Int32) (hKS : KS Z wV kV w0 s0 t0 kt0 w1 s1 t1 kt1 w2 s2 t2 kt2 w3 s3 t3 kt3) (hcp : ¬ (cp = (0 : Int32))) (hcw : Jvm.Lit.compactW.before a0 Z = true) (hch43 : Jvm.Lit.constHeld Z "com/example/huron/huron/io/config/AuthenticatorKindNamedPinLaw" 43) (hch53 : Jvm.Lit.constHeld Z "com/example/huron/huron/io/config/AuthenticatorKindNamedPinLaw" 53) (hch58 : Jvm.Lit.constHeld Z "com/example/huron/huron/io/config/AuthenticatorKindNamedPinLaw" 58) (hch63 : Jvm.Lit.constHeld Z "com/example/huron/huron/io/config/AuthenticatorKindNamedPinLaw" 63) (he1 : (if k0.toInt8.toInt32 = (108 : Int32) ∧ k1.toInt8.toInt32 = (100 : Int32) ∧ k2.toInt8.toInt32 = (97 : Int32) ∧ k3.toInt8.toInt32 = (112 : Int32) then (1 : Int32) else 0) = (0 : Int32)) (he2 : (if k0.toInt8.toInt32 = (111 : Int32) ∧ k1.toInt8.toInt32 = (105 : Int32) ∧ k2.toInt8.toInt32 = (100 : Int32) ∧ k3.toInt8.toInt32 = (99 : Int32) then (1 : Int32) else 0) = (0 : Int32)) (he3 : (if k0.toInt8.toInt32 = (115 : Int32) ∧ k1.toInt8.toInt32 = (97 : Int32) ∧ k2.toInt8.toInt32 = (109 : Int32) ∧ k3.toInt8.toInt32 = (108 : Int32) then (1 : Int32) else 0) = (0 : Int32)) (scp : Sta Z Z.heap "java/lang/String" "COMPACT_STRINGS" "Z" (.int cp)) (xa : Exa Z h a "java/lang/String") (fa : Fld Z h a "java/lang/String" "coder" "B" (.int (0 : Int32))) (ga : Fld Z h a "java/lang/String" "value" "[B" (.ref b)) (v : Arv Z h b kb .byte (4 : Int32) [(.int k0.toInt8.toInt32), (.int k1.toInt8.toInt32), (.int k2.toInt8.toInt32), (.int k3.toInt8.toInt32)] (.int 0)) (HT : Hel Z h tw tb tt) :
    ConS l (⟨"com/example/huron/huron/io/config/AuthenticatorKindNamedPinLaw", "expected", "(Ljava/lang/String;)Lcom/example/huron/huron/io/config/AuthenticatorKind;"⟩ : MethodName) method_3_code 1 (some (.object "com/example/huron/huron/io/config/AuthenticatorKind")) ({ frames := 2, cells := 8, slots := 84, locals := 28 } : Room) Z n0 #[(.ref a)] h [(tt, tw, to, ti)] (fun v h' LL' => v = some .null ∧ Keep h h' []) := by
  obtain ⟨sv, vv, xv, sk0, xk0, fk0, xs0, cs0, gs0, vs0, sk1, xk1, fk1, xs1, cs1, gs1, vs1, sk2, xk2, fk2, xs2, cs2, gs2, vs2, sk3, xk3, fk3, xs3, cs3, gs3, vs3⟩ := id hKS
  refine ConS.of_go (plainFor_of_name pn_2) (Ls := #[.val (.ref a)]) (fun m => by first | (simp [entryFrame, mkF, argsToLocals, Value.category]; done) | rfl) ?_
  refine GoS.aloadN (pc' := 1) d17_0 rfl rfl rfl ?_
  refine GoS.ldcS (pc' := 3) (cells' := 2) (slots' := 24) (n := 20) (z := (5 : Int32)) (vs := [(.int (108 : Int32)), (.int (111 : Int32)), (.int (99 : Int32)), (.int (97 : Int32)), (.int (108 : Int32))]) (ww hw 4 rfl) (wsA hw) hch43 hcw (Keep.refl h []) (HL.yes (ww hw 6 rfl) HT HL.nil) tx_0 (by decide) rfl d17_1 (nl rfl) (nl rfl) rfl rfl (nl rfl) (nl rfl) rfl ?_
  intro h1 sa1 sb1 kb1 E1 F1_0 F1_1 F1_2 F1_3 F1_4 F1_5
  have K2 : Keep h h1 [] := (Keep.refl h []).ext E1
  have H3 : Hel Z h1 sa1 sb1 "local" := ⟨kb1, _, _, F1_0, F1_1, F1_2, F1_3, F1_4, tx_0, rfl⟩
  show GoS _ _ _ _ _ _ _ _ _ _ _ _ _ _ 3 #[.val (.ref a)] [(.ref sa1), (.ref a)]
  refine GoS.callV (cells' := 2) (slots' := 24) (pc' := 6) [(.ref sa1)] [] (xa.ext E1) (ww hw 79 rfl) (ww hw 80 rfl) (fun s' hs' => notFace_of_selects (args := #[]) (mvT hs' (ww hw 82 rfl))) (ww hw 82 rfl) (ww hw 81 rfl) (ww hw 5 rfl) (ww hw 83 rfl) (by decide) (Con.cold (c_strNe l Z a0 hw h1 a b kb sa1 sb1 kb1 (4 : Int32) ([(.int k0.toInt8.toInt32), (.int k1.toInt8.toInt32), (.int k2.toInt8.toInt32), (.int k3.toInt8.toInt32)]) (5 : Int32) ([(.int (108 : Int32)), (.int (111 : Int32)), (.int (99 : Int32)), (.int (97 : Int32)), (.int (108 : Int32))]) cp hcp (by decide) (by decide) scp (xa.ext E1) (fa.ext E1) (ga.ext E1) (v.ext E1) F1_0 F1_1 F1_2 F1_3)) pd_14 rfl rfl rfl rfl rfl (nl rfl) (nl rfl) (nl rfl) (nl rfl) d17_3 rfl ?_
  rintro _ _ _ ⟨⟨rfl, rfl⟩, rfl⟩
  show GoS _ _ _ _ _ _ _ _ _ _ _ _ _ _ 6 #[.val (.ref a)] [(.int (0 : Int32))]
  refine GoS.ifYes (pc' := 13) d17_6 (XT.i0_eq_t (by decide)) (by decide) (by decide) ?_
  refine GoS.aloadN (pc' := 14) d17_13 rfl rfl rfl ?_
  refine GoS.ldcS (pc' := 16) (cells' := 4) (slots' := 44) (n := 16) (z := (4 : Int32)) (vs := [(.int (108 : Int32)), (.int (100 : Int32)), (.int (97 : Int32)), (.int (112 : Int32))]) (ww hw 88 rfl) (wsA hw) hch53 hcw K2 (HL.no (by decide) (HL.yes (ww hw 6 rfl) HT HL.nil)) tx_1 (by decide) rfl d17_14 (nl rfl) (nl rfl) rfl rfl (nl rfl) (nl rfl) rfl ?_
  intro h5 sa5 sb5 kb5 E5 F5_0 F5_1 F5_2 F5_3 F5_4 F5_5
  have K6 : Keep h h5 [] := K2.ext E5
  have H7 : Hel Z h5 sa5 sb5 "ldap" := ⟨kb5, _, _, F5_0, F5_1, F5_2, F5_3, F5_4, tx_1, rfl⟩
  show GoS _ _ _ _ _ _ _ _ _ _ _ _ _ _ 16 #[.val (.ref a)] [(.ref sa5), (.ref a)]
  refine GoS.callV (cells' := 4) (slots' := 44) (pc' := 19) [(.ref sa5)] [] ((xa.ext E1).ext E5) (ww hw 79 rfl) (ww hw 80 rfl) (fun s' hs' => notFace_of_selects (args := #[]) (mvT hs' (ww hw 82 rfl))) (ww hw 82 rfl) (ww hw 81 rfl) (ww hw 5 rfl) (ww hw 83 rfl) (by decide) (Con.cold (c_strEq4_4 l Z a0 hw h5 a b kb sa5 sb5 kb5 k0.toInt8.toInt32 k1.toInt8.toInt32 k2.toInt8.toInt32 k3.toInt8.toInt32 (108 : Int32) (100 : Int32) (97 : Int32) (112 : Int32) cp hcp scp (((xa.ext E1).ext E5)) (((fa.ext E1).ext E5)) (((ga.ext E1).ext E5)) (((v.ext E1).ext E5)) F5_0 F5_1 F5_2 F5_3)) pd_14 rfl rfl rfl rfl rfl (nl rfl) (nl rfl) (nl rfl) (nl rfl) d17_16 rfl ?_
  rintro _ _ _ ⟨⟨rfl, rfl⟩, rfl⟩
  show GoS _ _ _ _ _ _ _ _ _ _ _ _ _ _ 19 #[.val (.ref a)] [(.int (if k0.toInt8.toInt32 = (108 : Int32) ∧ k1.toInt8.toInt32 = (100 : Int32) ∧ k2.toInt8.toInt32 = (97 : Int32) ∧ k3.toInt8.toInt32 = (112 : Int32) then (1 : Int32) else 0))]
  refine GoS.ifYes (pc' := 26) d17_19 (XT.i0_eq_t he1) (by decide) (by decide) ?_
  refine GoS.aloadN (pc' := 27) d17_26 rfl rfl rfl ?_
  refine GoS.ldcS (pc' := 29) (cells' := 6) (slots' := 64) (n := 16) (z := (4 : Int32)) (vs := [(.int (111 : Int32)), (.int (105 : Int32)), (.int (100 : Int32)), (.int (99 : Int32))]) (ww hw 89 rfl) (wsA hw) hch58 hcw K6 (HL.no (by decide) (HL.no (by decide) (HL.yes (ww hw 6 rfl) HT HL.nil))) tx_2 (by decide) rfl d17_27 (nl rfl) (nl rfl) rfl rfl (nl rfl) (nl rfl) rfl ?_
  intro h9 sa9 sb9 kb9 E9 F9_0 F9_1 F9_2 F9_3 F9_4 F9_5
  have K10 : Keep h h9 [] := K6.ext E9
  have H11 : Hel Z h9 sa9 sb9 "oidc" := ⟨kb9, _, _, F9_0, F9_1, F9_2, F9_3, F9_4, tx_2, rfl⟩
  show GoS _ _ _ _ _ _ _ _ _ _ _ _ _ _ 29 #[.val (.ref a)] [(.ref sa9), (.ref a)]
  refine GoS.callV (cells' := 6) (slots' := 64) (pc' := 32) [(.ref sa9)] [] (((xa.ext E1).ext E5).ext E9) (ww hw 79 rfl) (ww hw 80 rfl) (fun s' hs' => notFace_of_selects (args := #[]) (mvT hs' (ww hw 82 rfl))) (ww hw 82 rfl) (ww hw 81 rfl) (ww hw 5 rfl) (ww hw 83 rfl) (by decide) (Con.cold (c_strEq4_4 l Z a0 hw h9 a b kb sa9 sb9 kb9 k0.toInt8.toInt32 k1.toInt8.toInt32 k2.toInt8.toInt32 k3.toInt8.toInt32 (111 : Int32) (105 : Int32) (100 : Int32) (99 : Int32) cp hcp scp ((((xa.ext E1).ext E5).ext E9)) ((((fa.ext E1).ext E5).ext E9)) ((((ga.ext E1).ext E5).ext E9)) ((((v.ext E1).ext E5).ext E9)) F9_0 F9_1 F9_2 F9_3)) pd_14 rfl rfl rfl rfl rfl (nl rfl) (nl rfl) (nl rfl) (nl rfl) d17_29 rfl ?_
  rintro _ _ _ ⟨⟨rfl, rfl⟩, rfl⟩
  show GoS _ _ _ _ _ _ _ _ _ _ _ _ _ _ 32 #[.val (.ref a)] [(.int (if k0.toInt8.toInt32 = (111 : Int32) ∧ k1.toInt8.toInt32 = (105 : Int32) ∧ k2.toInt8.toInt32 = (100 : Int32) ∧ k3.toInt8.toInt32 = (99 : Int32) then (1 : Int32) else 0))]
  refine GoS.ifYes (pc' := 39) d17_32 (XT.i0_eq_t he2) (by decide) (by decide) ?_
  refine GoS.aloadN (pc' := 40) d17_39 rfl rfl rfl ?_
  refine GoS.ldcS (pc' := 42) (cells' := 8) (slots' := 84) (n := 16) (z := (4 : Int32)) (vs := [(.int (115 : Int32)), (.int (97 : Int32)), (.int (109 : Int32)), (.int (108 : Int32))]) (ww hw 90 rfl) (wsA hw) hch63 hcw K10 (HL.no (by decide) (HL.no (by decide) (HL.no (by decide) (HL.yes (ww hw 6 rfl) HT HL.nil)))) tx_3 (by decide) rfl d17_40 (nl rfl) (nl rfl) rfl rfl (nl rfl) (nl rfl) rfl ?_
  intro h13 sa13 sb13 kb13 E13 F13_0 F13_1 F13_2 F13_3 F13_4 F13_5
  have K14 : Keep h h13 [] := K10.ext E13
  have H15 : Hel Z h13 sa13 sb13 "saml" := ⟨kb13, _, _, F13_0, F13_1, F13_2, F13_3, F13_4, tx_3, rfl⟩
  show GoS _ _ _ _ _ _ _ _ _ _ _ _ _ _ 42 #[.val (.ref a)] [(.ref sa13), (.ref a)]
  refine GoS.callV (cells' := 8) (slots' := 84) (pc' := 45) [(.ref sa13)] [] ((((xa.ext E1).ext E5).ext E9).ext E13) (ww hw 79 rfl) (ww hw 80 rfl) (fun s' hs' => notFace_of_selects (args := #[]) (mvT hs' (ww hw 82 rfl))) (ww hw 82 rfl) (ww hw 81 rfl) (ww hw 5 rfl) (ww hw 83 rfl) (by decide) (Con.cold (c_strEq4_4 l Z a0 hw h13 a b kb sa13 sb13 kb13 k0.toInt8.toInt32 k1.toInt8.toInt32 k2.toInt8.toInt32 k3.toInt8.toInt32 (115 : Int32) (97 : Int32) (109 : Int32) (108 : Int32) cp hcp scp (((((xa.ext E1).ext E5).ext E9).ext E13)) (((((fa.ext E1).ext E5).ext E9).ext E13)) (((((ga.ext E1).ext E5).ext E9).ext E13)) (((((v.ext E1).ext E5).ext E9).ext E13)) F13_0 F13_1 F13_2 F13_3)) pd_14 rfl rfl rfl rfl rfl (nl rfl) (nl rfl) (nl rfl) (nl rfl) d17_42 rfl ?_
  rintro _ _ _ ⟨⟨rfl, rfl⟩, rfl⟩
  show GoS _ _ _ _ _ _ _ _ _ _ _ _ _ _ 45 #[.val (.ref a)] [(.int (if k0.toInt8.toInt32 = (115 : Int32) ∧ k1.toInt8.toInt32 = (97 : Int32) ∧ k2.toInt8.toInt32 = (109 : Int32) ∧ k3.toInt8.toInt32 = (108 : Int32) then (1 : Int32) else 0))]
  refine GoS.ifYes (pc' := 52) d17_45 (XT.i0_eq_t he3) (by decide) (by decide) ?_
  refine GoS.aconstNull (pc' := 53) d17_52 rfl ?_
  exact GoS.retR rfl rfl rfl rfl d17_53 ⟨rfl, K14⟩ (by decide) (by decide)
theorem c_named4_n (l : Launch) (Z : State) (a0 : Array Value) (hw : ∀ d ∈ tables_1, d.before a0 Z = true) {n0 : Nat} (h : Heap) (a : Addr) (b : Addr) (kb : ClassId) (k0 : Int32) (k1 : Int32) (k2 : Int32) (k3 : Int32) (wV : Addr) (kV : ClassId) (w0 : Addr) (s0 : Addr) (t0 : Addr) (kt0 : ClassId) (w1 : Addr) (s1 : Addr) (t1 : Addr) (kt1 : ClassId) (w2 : Addr) (s2 : Addr) (t2 : Addr) (kt2 : ClassId) (w3 : Addr) (s3 : Addr) (t3 : Addr) (kt3 : ClassId) (cp : Int32) (wo : Addr) (hKS : KS Z wV kV w0 s0 t0 kt0 w1 s1 t1 kt1 w2 s2 t2 kt2 w3 s3 t3 kt3) (hcp : ¬ (cp = (0 : Int32))) (he1 : (if k0.toInt8.toInt32 = (108 : Int32) ∧ k1.toInt8.toInt32 = (100 : Int32) ∧ k2.toInt8.toInt32 = (97 : Int32) ∧ k3.toInt8.toInt32 = (112 : Int32) then (1 : Int32) else 0) = (0 : Int32)) (he2 : (if k0.toInt8.toInt32 = (111 : Int32) ∧ k1.toInt8.toInt32 = (105 : Int32) ∧ k2.toInt8.toInt32 = (100 : Int32) ∧ k3.toInt8.toInt32 = (99 : Int32) then (1 : Int32) else 0) = (0 : Int32)) (he3 : (if k0.toInt8.toInt32 = (115 : Int32) ∧ k1.toInt8.toInt32 = (97 : Int32) ∧ k2.toInt8.toInt32 = (109 : Int32) ∧ k3.toInt8.toInt32 = (108 : Int32) then (1 : Int32) else 0) = (0 : Int32)) (scp : Sta Z Z.heap "java/lang/String" "COMPACT_STRINGS" "Z" (.int cp)) (so : Sta Z Z.heap "java/util/Optional" "EMPTY" "Ljava/util/Optional;" (.ref wo)) (xo : Exa Z Z.heap wo "java/util/Optional") (fo : Fld Z Z.heap wo "java/util/Optional" "value" "Ljava/lang/Object;" .null) (xa : Exa Z h a "java/lang/String") (fa : Fld Z h a "java/lang/String" "coder" "B" (.int (0 : Int32))) (ga : Fld Z h a "java/lang/String" "value" "[B" (.ref b)) (v : Arv Z h b kb .byte (4 : Int32) [(.int k0.toInt8.toInt32), (.int k1.toInt8.toInt32), (.int k2.toInt8.toInt32), (.int k3.toInt8.toInt32)] (.int 0)) :
    Con l (⟨"com/example/huron/huron/io/config/AuthenticatorKind", "named", "(Ljava/lang/String;)Ljava/util/Optional;"⟩ : MethodName) prog_8_method_4_code 5 (some (.object "java/util/Optional")) ({ frames := 2, cells := 1, slots := 4, locals := 28 } : Room) Z n0 #[(.ref a)] h (fun v h' => v = some (.ref wo) ∧ Keep h h' []) := by
  obtain ⟨sv, vv, xv, sk0, xk0, fk0, xs0, cs0, gs0, vs0, sk1, xk1, fk1, xs1, cs1, gs1, vs1, sk2, xk2, fk2, xs2, cs2, gs2, vs2, sk3, xk3, fk3, xs3, cs3, gs3, vs3⟩ := id hKS
  refine Con.of_go (plainFor_of_name pn_7) (Ls := #[.val (.ref a), .unset, .unset, .unset, .unset]) (fun m => by first | (simp [entryFrame, mkF, argsToLocals, Value.category]; done) | rfl) ?_
  refine Go.callS (cells' := 1) (slots' := 4) (pc' := 3) [] [] (ww hw 95 rfl) (ww hw 96 rfl) (ww hw 93 rfl) (ww hw 97 rfl) (by decide) (c_values l Z a0 hw h wV kV w0 s0 t0 kt0 w1 s1 t1 kt1 w2 s2 t2 kt2 w3 s3 t3 kt3 hKS) pd_15 rfl rfl rfl rfl rfl (nl rfl) (nl rfl) (nl rfl) (nl rfl) d20_0 rfl ?_
  rintro _ h1 ⟨r_1, rfl, K1, ge_r_1, sz_r_1, F1_0, F1_1⟩
  have sz2 : h.size ≤ r_1 := Nat.le_trans (Keep.refl h []).1 sz_r_1
  have K3 : Keep h h1 [] := (Keep.refl h []).trans K1 all0
  show Go _ _ _ _ _ _ _ _ _ _ _ _ 3 #[.val (.ref a), .unset, .unset, .unset, .unset] [(.ref r_1)]
  refine Go.astoreN (pc' := 4) (Ls' := #[.val (.ref a), .val (.ref r_1), .unset, .unset, .unset]) d20_3 rfl rfl rfl ?_
  refine Go.aloadN (pc' := 5) d20_4 rfl rfl rfl ?_
  refine Go.arraylength (pc' := 6) F1_0 d20_5 rfl ?_
  refine Go.istoreN (pc' := 7) (Ls' := #[.val (.ref a), .val (.ref r_1), .val (.int (4 : Int32)), .unset, .unset]) d20_6 rfl rfl ?_
  refine Go.iconst (pc' := 8) (v := (0 : Int32)) d20_7 rfl rfl ?_
  refine Go.istoreN (pc' := 9) (Ls' := #[.val (.ref a), .val (.ref r_1), .val (.int (4 : Int32)), .val (.int (0 : Int32)), .unset]) d20_8 rfl rfl ?_
  refine Go.iloadN (pc' := 10) d20_9 rfl rfl ?_
  refine Go.iloadN (pc' := 11) d20_10 rfl rfl ?_
  refine Go.icmpNo (pc' := 14) d20_11 (XT.ii_ge_f (by decide)) rfl ?_
  refine Go.aloadN (pc' := 15) d20_14 rfl rfl rfl ?_
  refine Go.iloadN (pc' := 16) d20_15 rfl rfl ?_
  refine Go.aaload (pc' := 17) (v := (.ref w0)) F1_0 rfl d20_16 (by decide) (by decide) rfl rfl ?_
  refine Go.astore (pc' := 19) (Ls' := #[.val (.ref a), .val (.ref r_1), .val (.int (4 : Int32)), .val (.int (0 : Int32)), .val (.ref w0)]) d20_17 rfl rfl rfl ?_
  refine Go.aload (pc' := 21) d20_19 rfl rfl rfl ?_
  refine Go.old (fun old4 => ?_)
  refine Go.getfield (pc' := 24) (host := "") (Or.inl (ww hw 114 rfl)) Via.refl (fk0.ext old4.2) d20_21 rfl ?_
  refine Go.aloadN (pc' := 25) d20_24 rfl rfl rfl ?_
  refine Go.callV (cells' := 1) (slots' := 4) (pc' := 28) [(.ref a)] [] (xs0.ext old4.2) (ww hw 116 rfl) (ww hw 80 rfl) (fun s' hs' => notFace_of_selects (args := #[]) (mvT hs' (ww hw 82 rfl))) (ww hw 82 rfl) (ww hw 81 rfl) (ww hw 5 rfl) (ww hw 83 rfl) (by decide) (c_strNe l Z a0 hw h1 s0 t0 kt0 a b kb (5 : Int32) ([(.int (108 : Int32)), (.int (111 : Int32)), (.int (99 : Int32)), (.int (97 : Int32)), (.int (108 : Int32))]) (4 : Int32) ([(.int k0.toInt8.toInt32), (.int k1.toInt8.toInt32), (.int k2.toInt8.toInt32), (.int k3.toInt8.toInt32)]) cp hcp (by decide) (by decide) scp (xs0.ext old4.2) (cs0.ext old4.2) (gs0.ext old4.2) (vs0.ext old4.2) (xa.keep K1) (fa.keep K1 nin0) (ga.keep K1 nin0) (v.keep K1 nin0)) pd_14 rfl rfl rfl rfl rfl (nl rfl) (nl rfl) (nl rfl) (nl rfl) d20_25 rfl ?_
  rintro _ _ ⟨rfl, rfl⟩
  show Go _ _ _ _ _ _ _ _ _ _ _ _ 28 #[.val (.ref a), .val (.ref r_1), .val (.int (4 : Int32)), .val (.int (0 : Int32)), .val (.ref w0)] [(.int (0 : Int32))]
  refine Go.ifYes (pc' := 37) d20_28 (XT.i0_eq_t (by decide)) (by decide) (by decide) ?_
  refine Go.iinc (pc' := 40) (Ls' := #[.val (.ref a), .val (.ref r_1), .val (.int (4 : Int32)), .val (.int ((0 : Int32) + (1 : Int32))), .val (.ref w0)]) (w := (1 : Int32)) d20_37 rfl rfl rfl rfl ?_
  show Go _ _ _ _ _ _ _ _ _ _ _ _ 40 #[.val (.ref a), .val (.ref r_1), .val (.int (4 : Int32)), .val (.int (1 : Int32)), .val (.ref w0)] []
  refine Go.goto (pc' := 9) d20_40 (by decide) (by decide) ?_
  refine Go.iloadN (pc' := 10) d20_9 rfl rfl ?_
  refine Go.iloadN (pc' := 11) d20_10 rfl rfl ?_
  refine Go.icmpNo (pc' := 14) d20_11 (XT.ii_ge_f (by decide)) rfl ?_
  refine Go.aloadN (pc' := 15) d20_14 rfl rfl rfl ?_
  refine Go.iloadN (pc' := 16) d20_15 rfl rfl ?_
  refine Go.aaload (pc' := 17) (v := (.ref w1)) F1_0 rfl d20_16 (by decide) (by decide) rfl rfl ?_
  refine Go.astore (pc' := 19) (Ls' := #[.val (.ref a), .val (.ref r_1), .val (.int (4 : Int32)), .val (.int (1 : Int32)), .val (.ref w1)]) d20_17 rfl rfl rfl ?_
  refine Go.aload (pc' := 21) d20_19 rfl rfl rfl ?_
  refine Go.getfield (pc' := 24) (host := "") (Or.inl (ww hw 114 rfl)) Via.refl (fk1.ext old4.2) d20_21 rfl ?_
  refine Go.aloadN (pc' := 25) d20_24 rfl rfl rfl ?_
  refine Go.callV (cells' := 1) (slots' := 4) (pc' := 28) [(.ref a)] [] (xs1.ext old4.2) (ww hw 116 rfl) (ww hw 80 rfl) (fun s' hs' => notFace_of_selects (args := #[]) (mvT hs' (ww hw 82 rfl))) (ww hw 82 rfl) (ww hw 81 rfl) (ww hw 5 rfl) (ww hw 83 rfl) (by decide) (c_strEq4_4s l Z a0 hw h1 a b kb s1 t1 kt1 k0.toInt8.toInt32 k1.toInt8.toInt32 k2.toInt8.toInt32 k3.toInt8.toInt32 (108 : Int32) (100 : Int32) (97 : Int32) (112 : Int32) cp hcp scp (xa.keep K1) (fa.keep K1 nin0) (ga.keep K1 nin0) (v.keep K1 nin0) (xs1.ext old4.2) (cs1.ext old4.2) (gs1.ext old4.2) (vs1.ext old4.2)) pd_14 rfl rfl rfl rfl rfl (nl rfl) (nl rfl) (nl rfl) (nl rfl) d20_25 rfl ?_
  rintro _ _ ⟨rfl, rfl⟩
  show Go _ _ _ _ _ _ _ _ _ _ _ _ 28 #[.val (.ref a), .val (.ref r_1), .val (.int (4 : Int32)), .val (.int (1 : Int32)), .val (.ref w1)] [(.int (if k0.toInt8.toInt32 = (108 : Int32) ∧ k1.toInt8.toInt32 = (100 : Int32) ∧ k2.toInt8.toInt32 = (97 : Int32) ∧ k3.toInt8.toInt32 = (112 : Int32) then (1 : Int32) else 0))]
  refine Go.ifYes (pc' := 37) d20_28 (XT.i0_eq_t he1) (by decide) (by decide) ?_
  refine Go.iinc (pc' := 40) (Ls' := #[.val (.ref a), .val (.ref r_1), .val (.int (4 : Int32)), .val (.int ((1 : Int32) + (1 : Int32))), .val (.ref w1)]) (w := (1 : Int32)) d20_37 rfl rfl rfl rfl ?_
  show Go _ _ _ _ _ _ _ _ _ _ _ _ 40 #[.val (.ref a), .val (.ref r_1), .val (.int (4 : Int32)), .val (.int (2 : Int32)), .val (.ref w1)] []
  refine Go.goto (pc' := 9) d20_40 (by decide) (by decide) ?_
  refine Go.iloadN (pc' := 10) d20_9 rfl rfl ?_
  refine Go.iloadN (pc' := 11) d20_10 rfl rfl ?_
  refine Go.icmpNo (pc' := 14) d20_11 (XT.ii_ge_f (by decide)) rfl ?_
  refine Go.aloadN (pc' := 15) d20_14 rfl rfl rfl ?_
  refine Go.iloadN (pc' := 16) d20_15 rfl rfl ?_
  refine Go.aaload (pc' := 17) (v := (.ref w2)) F1_0 rfl d20_16 (by decide) (by decide) rfl rfl ?_
  refine Go.astore (pc' := 19) (Ls' := #[.val (.ref a), .val (.ref r_1), .val (.int (4 : Int32)), .val (.int (2 : Int32)), .val (.ref w2)]) d20_17 rfl rfl rfl ?_
  refine Go.aload (pc' := 21) d20_19 rfl rfl rfl ?_
  refine Go.getfield (pc' := 24) (host := "") (Or.inl (ww hw 114 rfl)) Via.refl (fk2.ext old4.2) d20_21 rfl ?_
  refine Go.aloadN (pc' := 25) d20_24 rfl rfl rfl ?_
  refine Go.callV (cells' := 1) (slots' := 4) (pc' := 28) [(.ref a)] [] (xs2.ext old4.2) (ww hw 116 rfl) (ww hw 80 rfl) (fun s' hs' => notFace_of_selects (args := #[]) (mvT hs' (ww hw 82 rfl))) (ww hw 82 rfl) (ww hw 81 rfl) (ww hw 5 rfl) (ww hw 83 rfl) (by decide) (c_strEq4_4s l Z a0 hw h1 a b kb s2 t2 kt2 k0.toInt8.toInt32 k1.toInt8.toInt32 k2.toInt8.toInt32 k3.toInt8.toInt32 (111 : Int32) (105 : Int32) (100 : Int32) (99 : Int32) cp hcp scp (xa.keep K1) (fa.keep K1 nin0) (ga.keep K1 nin0) (v.keep K1 nin0) (xs2.ext old4.2) (cs2.ext old4.2) (gs2.ext old4.2) (vs2.ext old4.2)) pd_14 rfl rfl rfl rfl rfl (nl rfl) (nl rfl) (nl rfl) (nl rfl) d20_25 rfl ?_
  rintro _ _ ⟨rfl, rfl⟩
  show Go _ _ _ _ _ _ _ _ _ _ _ _ 28 #[.val (.ref a), .val (.ref r_1), .val (.int (4 : Int32)), .val (.int (2 : Int32)), .val (.ref w2)] [(.int (if k0.toInt8.toInt32 = (111 : Int32) ∧ k1.toInt8.toInt32 = (105 : Int32) ∧ k2.toInt8.toInt32 = (100 : Int32) ∧ k3.toInt8.toInt32 = (99 : Int32) then (1 : Int32) else 0))]
  refine Go.ifYes (pc' := 37) d20_28 (XT.i0_eq_t he2) (by decide) (by decide) ?_
  refine Go.iinc (pc' := 40) (Ls' := #[.val (.ref a), .val (.ref r_1), .val (.int (4 : Int32)), .val (.int ((2 : Int32) + (1 : Int32))), .val (.ref w2)]) (w := (1 : Int32)) d20_37 rfl rfl rfl rfl ?_
  show Go _ _ _ _ _ _ _ _ _ _ _ _ 40 #[.val (.ref a), .val (.ref r_1), .val (.int (4 : Int32)), .val (.int (3 : Int32)), .val (.ref w2)] []
  refine Go.goto (pc' := 9) d20_40 (by decide) (by decide) ?_
  refine Go.iloadN (pc' := 10) d20_9 rfl rfl ?_
  refine Go.iloadN (pc' := 11) d20_10 rfl rfl ?_
  refine Go.icmpNo (pc' := 14) d20_11 (XT.ii_ge_f (by decide)) rfl ?_
  refine Go.aloadN (pc' := 15) d20_14 rfl rfl rfl ?_
  refine Go.iloadN (pc' := 16) d20_15 rfl rfl ?_
  refine Go.aaload (pc' := 17) (v := (.ref w3)) F1_0 rfl d20_16 (by decide) (by decide) rfl rfl ?_
  refine Go.astore (pc' := 19) (Ls' := #[.val (.ref a), .val (.ref r_1), .val (.int (4 : Int32)), .val (.int (3 : Int32)), .val (.ref w3)]) d20_17 rfl rfl rfl ?_
  refine Go.aload (pc' := 21) d20_19 rfl rfl rfl ?_
  refine Go.getfield (pc' := 24) (host := "") (Or.inl (ww hw 114 rfl)) Via.refl (fk3.ext old4.2) d20_21 rfl ?_
  refine Go.aloadN (pc' := 25) d20_24 rfl rfl rfl ?_
  refine Go.callV (cells' := 1) (slots' := 4) (pc' := 28) [(.ref a)] [] (xs3.ext old4.2) (ww hw 116 rfl) (ww hw 80 rfl) (fun s' hs' => notFace_of_selects (args := #[]) (mvT hs' (ww hw 82 rfl))) (ww hw 82 rfl) (ww hw 81 rfl) (ww hw 5 rfl) (ww hw 83 rfl) (by decide) (c_strEq4_4s l Z a0 hw h1 a b kb s3 t3 kt3 k0.toInt8.toInt32 k1.toInt8.toInt32 k2.toInt8.toInt32 k3.toInt8.toInt32 (115 : Int32) (97 : Int32) (109 : Int32) (108 : Int32) cp hcp scp (xa.keep K1) (fa.keep K1 nin0) (ga.keep K1 nin0) (v.keep K1 nin0) (xs3.ext old4.2) (cs3.ext old4.2) (gs3.ext old4.2) (vs3.ext old4.2)) pd_14 rfl rfl rfl rfl rfl (nl rfl) (nl rfl) (nl rfl) (nl rfl) d20_25 rfl ?_
  rintro _ _ ⟨rfl, rfl⟩
  show Go _ _ _ _ _ _ _ _ _ _ _ _ 28 #[.val (.ref a), .val (.ref r_1), .val (.int (4 : Int32)), .val (.int (3 : Int32)), .val (.ref w3)] [(.int (if k0.toInt8.toInt32 = (115 : Int32) ∧ k1.toInt8.toInt32 = (97 : Int32) ∧ k2.toInt8.toInt32 = (109 : Int32) ∧ k3.toInt8.toInt32 = (108 : Int32) then (1 : Int32) else 0))]
  refine Go.ifYes (pc' := 37) d20_28 (XT.i0_eq_t he3) (by decide) (by decide) ?_
  refine Go.iinc (pc' := 40) (Ls' := #[.val (.ref a), .val (.ref r_1), .val (.int (4 : Int32)), .val (.int ((3 : Int32) + (1 : Int32))), .val (.ref w3)]) (w := (1 : Int32)) d20_37 rfl rfl rfl rfl ?_
  show Go _ _ _ _ _ _ _ _ _ _ _ _ 40 #[.val (.ref a), .val (.ref r_1), .val (.int (4 : Int32)), .val (.int (4 : Int32)), .val (.ref w3)] []
  refine Go.goto (pc' := 9) d20_40 (by decide) (by decide) ?_
  refine Go.iloadN (pc' := 10) d20_9 rfl rfl ?_
  refine Go.iloadN (pc' := 11) d20_10 rfl rfl ?_
  refine Go.icmpYes (pc' := 43) d20_11 (XT.ii_ge_t (by decide)) (by decide) (by decide) ?_
  refine Go.callS (cells' := 1) (slots' := 4) (pc' := 46) [] [] (ww hw 117 rfl) (ww hw 118 rfl) (ww hw 119 rfl) (ww hw 120 rfl) (by decide) (c_optEmpty l Z a0 hw h1 wo so xo fo) pd_16 rfl rfl rfl rfl rfl (nl rfl) (nl rfl) (nl rfl) (nl rfl) d20_43 rfl ?_
  rintro _ _ ⟨rfl, rfl⟩
  show Go _ _ _ _ _ _ _ _ _ _ _ _ 46 #[.val (.ref a), .val (.ref r_1), .val (.int (4 : Int32)), .val (.int (4 : Int32)), .val (.ref w3)] [(.ref wo)]
  exact Go.retR rfl rfl rfl rfl d20_46 ⟨rfl, K3⟩ (by decide) (by decide)
theorem d17_9 : decode method_3_code 9 = .ok (.getstatic 49, 3) := by decide +kernel
theorem d17_12 : decode method_3_code 12 = .ok (.areturn, 1) := by decide +kernel
theorem c_exp5_0 (l : Launch) (Z : State) (a0 : Array Value) (hw : ∀ d ∈ tables_1, d.before a0 Z = true) {n0 : Nat} (h : Heap) (a : Addr) (b : Addr) (kb : ClassId) (k0 : Int32) (k1 : Int32) (k2 : Int32) (k3 : Int32) (k4 : Int32) (tt : String) (tw : Addr) (tb : Addr) (to : String) (ti : Nat) (wV : Addr) (kV : ClassId) (w0 : Addr) (s0 : Addr) (t0 : Addr) (kt0 : ClassId) (w1 : Addr) (s1 : Addr) (t1 : Addr) (kt1 : ClassId) (w2 : Addr) (s2 : Addr) (t2 : Addr) (kt2 : ClassId) (w3 : Addr) (s3 : Addr) (t3 : Addr) (kt3 : ClassId) (cp : Int32) (hKS : KS Z wV kV w0 s0 t0 kt0 w1 s1 t1 kt1 w2 s2 t2 kt2 w3 s3 t3 kt3) (hcp : ¬ (cp = (0 : Int32))) (hcw : Jvm.Lit.compactW.before a0 Z = true) (hch43 : Jvm.Lit.constHeld Z "com/example/huron/huron/io/config/AuthenticatorKindNamedPinLaw" 43) (hch53 : Jvm.Lit.constHeld Z "com/example/huron/huron/io/config/AuthenticatorKindNamedPinLaw" 53) (hch58 : Jvm.Lit.constHeld Z "com/example/huron/huron/io/config/AuthenticatorKindNamedPinLaw" 58) (hch63 : Jvm.Lit.constHeld Z "com/example/huron/huron/io/config/AuthenticatorKindNamedPinLaw" 63) (he0 : ¬ ((if k0.toInt8.toInt32 = (108 : Int32) ∧ k1.toInt8.toInt32 = (111 : Int32) ∧ k2.toInt8.toInt32 = (99 : Int32) ∧ k3.toInt8.toInt32 = (97 : Int32) ∧ k4.toInt8.toInt32 = (108 : Int32) then (1 : Int32) else 0) = (0 : Int32))) (scp : Sta Z Z.heap "java/lang/String" "COMPACT_STRINGS" "Z" (.int cp)) (xa : Exa Z h a "java/lang/String") (fa : Fld Z h a "java/lang/String" "coder" "B" (.int (0 : Int32))) (ga : Fld Z h a "java/lang/String" "value" "[B" (.ref b)) (v : Arv Z h b kb .byte (5 : Int32) [(.int k0.toInt8.toInt32), (.int k1.toInt8.toInt32), (.int k2.toInt8.toInt32), (.int k3.toInt8.toInt32), (.int k4.toInt8.toInt32)] (.int 0)) (HT : Hel Z h tw tb tt) :
    ConS l (⟨"com/example/huron/huron/io/config/AuthenticatorKindNamedPinLaw", "expected", "(Ljava/lang/String;)Lcom/example/huron/huron/io/config/AuthenticatorKind;"⟩ : MethodName) method_3_code 1 (some (.object "com/example/huron/huron/io/config/AuthenticatorKind")) ({ frames := 2, cells := 2, slots := 24, locals := 28 } : Room) Z n0 #[(.ref a)] h [(tt, tw, to, ti)] (fun v h' LL' => v = some (.ref w0) ∧ Keep h h' []) := by
  obtain ⟨sv, vv, xv, sk0, xk0, fk0, xs0, cs0, gs0, vs0, sk1, xk1, fk1, xs1, cs1, gs1, vs1, sk2, xk2, fk2, xs2, cs2, gs2, vs2, sk3, xk3, fk3, xs3, cs3, gs3, vs3⟩ := id hKS
  refine ConS.of_go (plainFor_of_name pn_2) (Ls := #[.val (.ref a)]) (fun m => by first | (simp [entryFrame, mkF, argsToLocals, Value.category]; done) | rfl) ?_
  refine GoS.aloadN (pc' := 1) d17_0 rfl rfl rfl ?_
  refine GoS.ldcS (pc' := 3) (cells' := 2) (slots' := 24) (n := 20) (z := (5 : Int32)) (vs := [(.int (108 : Int32)), (.int (111 : Int32)), (.int (99 : Int32)), (.int (97 : Int32)), (.int (108 : Int32))]) (ww hw 4 rfl) (wsA hw) hch43 hcw (Keep.refl h []) (HL.yes (ww hw 6 rfl) HT HL.nil) tx_0 (by decide) rfl d17_1 (nl rfl) (nl rfl) rfl rfl (nl rfl) (nl rfl) rfl ?_
  intro h1 sa1 sb1 kb1 E1 F1_0 F1_1 F1_2 F1_3 F1_4 F1_5
  have K2 : Keep h h1 [] := (Keep.refl h []).ext E1
  have H3 : Hel Z h1 sa1 sb1 "local" := ⟨kb1, _, _, F1_0, F1_1, F1_2, F1_3, F1_4, tx_0, rfl⟩
  show GoS _ _ _ _ _ _ _ _ _ _ _ _ _ _ 3 #[.val (.ref a)] [(.ref sa1), (.ref a)]
  refine GoS.callV (cells' := 2) (slots' := 24) (pc' := 6) [(.ref sa1)] [] (xa.ext E1) (ww hw 79 rfl) (ww hw 80 rfl) (fun s' hs' => notFace_of_selects (args := #[]) (mvT hs' (ww hw 82 rfl))) (ww hw 82 rfl) (ww hw 81 rfl) (ww hw 5 rfl) (ww hw 83 rfl) (by decide) (Con.cold (c_strEq5_5 l Z a0 hw h1 a b kb sa1 sb1 kb1 k0.toInt8.toInt32 k1.toInt8.toInt32 k2.toInt8.toInt32 k3.toInt8.toInt32 k4.toInt8.toInt32 (108 : Int32) (111 : Int32) (99 : Int32) (97 : Int32) (108 : Int32) cp hcp scp (xa.ext E1) (fa.ext E1) (ga.ext E1) (v.ext E1) F1_0 F1_1 F1_2 F1_3)) pd_14 rfl rfl rfl rfl rfl (nl rfl) (nl rfl) (nl rfl) (nl rfl) d17_3 rfl ?_
  rintro _ _ _ ⟨⟨rfl, rfl⟩, rfl⟩
  show GoS _ _ _ _ _ _ _ _ _ _ _ _ _ _ 6 #[.val (.ref a)] [(.int (if k0.toInt8.toInt32 = (108 : Int32) ∧ k1.toInt8.toInt32 = (111 : Int32) ∧ k2.toInt8.toInt32 = (99 : Int32) ∧ k3.toInt8.toInt32 = (97 : Int32) ∧ k4.toInt8.toInt32 = (108 : Int32) then (1 : Int32) else 0))]
  refine GoS.ifNo (pc' := 9) d17_6 (XT.i0_eq_f he0) rfl ?_
  refine GoS.old (fun old5 => ?_)
  refine GoS.getstatic (pc' := 12) (host := "") (Or.inl (ww hw 134 rfl)) Via.refl (sk0.ext old5.2) d17_9 rfl ?_
  exact GoS.retR rfl rfl rfl rfl d17_12 ⟨rfl, K2⟩ (by decide) (by decide)
theorem c_named5_0 (l : Launch) (Z : State) (a0 : Array Value) (hw : ∀ d ∈ tables_1, d.before a0 Z = true) {n0 : Nat} (h : Heap) (a : Addr) (b : Addr) (kb : ClassId) (k0 : Int32) (k1 : Int32) (k2 : Int32) (k3 : Int32) (k4 : Int32) (wV : Addr) (kV : ClassId) (w0 : Addr) (s0 : Addr) (t0 : Addr) (kt0 : ClassId) (w1 : Addr) (s1 : Addr) (t1 : Addr) (kt1 : ClassId) (w2 : Addr) (s2 : Addr) (t2 : Addr) (kt2 : ClassId) (w3 : Addr) (s3 : Addr) (t3 : Addr) (kt3 : ClassId) (cp : Int32) (wo : Addr) (hKS : KS Z wV kV w0 s0 t0 kt0 w1 s1 t1 kt1 w2 s2 t2 kt2 w3 s3 t3 kt3) (hcp : ¬ (cp = (0 : Int32))) (he0 : ¬ ((if k0.toInt8.toInt32 = (108 : Int32) ∧ k1.toInt8.toInt32 = (111 : Int32) ∧ k2.toInt8.toInt32 = (99 : Int32) ∧ k3.toInt8.toInt32 = (97 : Int32) ∧ k4.toInt8.toInt32 = (108 : Int32) then (1 : Int32) else 0) = (0 : Int32))) (scp : Sta Z Z.heap "java/lang/String" "COMPACT_STRINGS" "Z" (.int cp)) (so : Sta Z Z.heap "java/util/Optional" "EMPTY" "Ljava/util/Optional;" (.ref wo)) (xo : Exa Z Z.heap wo "java/util/Optional") (fo : Fld Z Z.heap wo "java/util/Optional" "value" "Ljava/lang/Object;" .null) (xa : Exa Z h a "java/lang/String") (fa : Fld Z h a "java/lang/String" "coder" "B" (.int (0 : Int32))) (ga : Fld Z h a "java/lang/String" "value" "[B" (.ref b)) (v : Arv Z h b kb .byte (5 : Int32) [(.int k0.toInt8.toInt32), (.int k1.toInt8.toInt32), (.int k2.toInt8.toInt32), (.int k3.toInt8.toInt32), (.int k4.toInt8.toInt32)] (.int 0)) :
    Con l (⟨"com/example/huron/huron/io/config/AuthenticatorKind", "named", "(Ljava/lang/String;)Ljava/util/Optional;"⟩ : MethodName) prog_8_method_4_code 5 (some (.object "java/util/Optional")) ({ frames := 3, cells := 2, slots := 5, locals := 38 } : Room) Z n0 #[(.ref a)] h (fun v h' => ∃ r : Addr, v = some (.ref r) ∧ Keep h h' [] ∧ n0 ≤ r ∧ h.size ≤ r ∧ Exa Z h' r "java/util/Optional" ∧ Fld Z h' r "java/util/Optional" "value" "Ljava/lang/Object;" (.ref w0)) := by
  obtain ⟨sv, vv, xv, sk0, xk0, fk0, xs0, cs0, gs0, vs0, sk1, xk1, fk1, xs1, cs1, gs1, vs1, sk2, xk2, fk2, xs2, cs2, gs2, vs2, sk3, xk3, fk3, xs3, cs3, gs3, vs3⟩ := id hKS
  refine Con.of_go (plainFor_of_name pn_7) (Ls := #[.val (.ref a), .unset, .unset, .unset, .unset]) (fun m => by first | (simp [entryFrame, mkF, argsToLocals, Value.category]; done) | rfl) ?_
  refine Go.callS (cells' := 1) (slots' := 4) (pc' := 3) [] [] (ww hw 95 rfl) (ww hw 96 rfl) (ww hw 93 rfl) (ww hw 97 rfl) (by decide) (c_values l Z a0 hw h wV kV w0 s0 t0 kt0 w1 s1 t1 kt1 w2 s2 t2 kt2 w3 s3 t3 kt3 hKS) pd_15 rfl rfl rfl rfl rfl (nl rfl) (nl rfl) (nl rfl) (nl rfl) d20_0 rfl ?_
  rintro _ h1 ⟨r_1, rfl, K1, ge_r_1, sz_r_1, F1_0, F1_1⟩
  have sz2 : h.size ≤ r_1 := Nat.le_trans (Keep.refl h []).1 sz_r_1
  have K3 : Keep h h1 [] := (Keep.refl h []).trans K1 all0
  show Go _ _ _ _ _ _ _ _ _ _ _ _ 3 #[.val (.ref a), .unset, .unset, .unset, .unset] [(.ref r_1)]
  refine Go.astoreN (pc' := 4) (Ls' := #[.val (.ref a), .val (.ref r_1), .unset, .unset, .unset]) d20_3 rfl rfl rfl ?_
  refine Go.aloadN (pc' := 5) d20_4 rfl rfl rfl ?_
  refine Go.arraylength (pc' := 6) F1_0 d20_5 rfl ?_
  refine Go.istoreN (pc' := 7) (Ls' := #[.val (.ref a), .val (.ref r_1), .val (.int (4 : Int32)), .unset, .unset]) d20_6 rfl rfl ?_
  refine Go.iconst (pc' := 8) (v := (0 : Int32)) d20_7 rfl rfl ?_
  refine Go.istoreN (pc' := 9) (Ls' := #[.val (.ref a), .val (.ref r_1), .val (.int (4 : Int32)), .val (.int (0 : Int32)), .unset]) d20_8 rfl rfl ?_
  refine Go.iloadN (pc' := 10) d20_9 rfl rfl ?_
  refine Go.iloadN (pc' := 11) d20_10 rfl rfl ?_
  refine Go.icmpNo (pc' := 14) d20_11 (XT.ii_ge_f (by decide)) rfl ?_
  refine Go.aloadN (pc' := 15) d20_14 rfl rfl rfl ?_
  refine Go.iloadN (pc' := 16) d20_15 rfl rfl ?_
  refine Go.aaload (pc' := 17) (v := (.ref w0)) F1_0 rfl d20_16 (by decide) (by decide) rfl rfl ?_
  refine Go.astore (pc' := 19) (Ls' := #[.val (.ref a), .val (.ref r_1), .val (.int (4 : Int32)), .val (.int (0 : Int32)), .val (.ref w0)]) d20_17 rfl rfl rfl ?_
  refine Go.aload (pc' := 21) d20_19 rfl rfl rfl ?_
  refine Go.old (fun old4 => ?_)
  refine Go.getfield (pc' := 24) (host := "") (Or.inl (ww hw 114 rfl)) Via.refl (fk0.ext old4.2) d20_21 rfl ?_
  refine Go.aloadN (pc' := 25) d20_24 rfl rfl rfl ?_
  refine Go.callV (cells' := 1) (slots' := 4) (pc' := 28) [(.ref a)] [] (xs0.ext old4.2) (ww hw 116 rfl) (ww hw 80 rfl) (fun s' hs' => notFace_of_selects (args := #[]) (mvT hs' (ww hw 82 rfl))) (ww hw 82 rfl) (ww hw 81 rfl) (ww hw 5 rfl) (ww hw 83 rfl) (by decide) (c_strEq5_5s l Z a0 hw h1 a b kb s0 t0 kt0 k0.toInt8.toInt32 k1.toInt8.toInt32 k2.toInt8.toInt32 k3.toInt8.toInt32 k4.toInt8.toInt32 (108 : Int32) (111 : Int32) (99 : Int32) (97 : Int32) (108 : Int32) cp hcp scp (xa.keep K1) (fa.keep K1 nin0) (ga.keep K1 nin0) (v.keep K1 nin0) (xs0.ext old4.2) (cs0.ext old4.2) (gs0.ext old4.2) (vs0.ext old4.2)) pd_14 rfl rfl rfl rfl rfl (nl rfl) (nl rfl) (nl rfl) (nl rfl) d20_25 rfl ?_
  rintro _ _ ⟨rfl, rfl⟩
  show Go _ _ _ _ _ _ _ _ _ _ _ _ 28 #[.val (.ref a), .val (.ref r_1), .val (.int (4 : Int32)), .val (.int (0 : Int32)), .val (.ref w0)] [(.int (if k0.toInt8.toInt32 = (108 : Int32) ∧ k1.toInt8.toInt32 = (111 : Int32) ∧ k2.toInt8.toInt32 = (99 : Int32) ∧ k3.toInt8.toInt32 = (97 : Int32) ∧ k4.toInt8.toInt32 = (108 : Int32) then (1 : Int32) else 0))]
  refine Go.ifNo (pc' := 31) d20_28 (XT.i0_eq_f he0) rfl ?_
  refine Go.aload (pc' := 33) d20_31 rfl rfl rfl ?_
  refine Go.callS (cells' := 2) (slots' := 5) (pc' := 36) [(.ref w0)] [] (ww hw 135 rfl) (ww hw 136 rfl) (ww hw 119 rfl) (ww hw 137 rfl) (by decide) (c_optOf l Z a0 hw h1 w0) pd_17 rfl rfl rfl rfl rfl (nl rfl) (nl rfl) (nl rfl) (nl rfl) d20_33 rfl ?_
  rintro _ h6 ⟨b_6, rfl, K6, ge_b_6, sz_b_6, F6_0, F6_1⟩
  have sz7 : h.size ≤ b_6 := Nat.le_trans K3.1 sz_b_6
  have K8 : Keep h h6 [] := K3.trans K6 all0
  show Go _ _ _ _ _ _ _ _ _ _ _ _ 36 #[.val (.ref a), .val (.ref r_1), .val (.int (4 : Int32)), .val (.int (0 : Int32)), .val (.ref w0)] [(.ref b_6)]
  exact Go.retR rfl rfl rfl rfl d20_36 ⟨b_6, rfl, K8, ge_b_6, sz7, F6_0, F6_1⟩ (by decide) (by decide)
theorem c_exp5_n (l : Launch) (Z : State) (a0 : Array Value) (hw : ∀ d ∈ tables_1, d.before a0 Z = true) {n0 : Nat} (h : Heap) (a : Addr) (b : Addr) (kb : ClassId) (k0 : Int32) (k1 : Int32) (k2 : Int32) (k3 : Int32) (k4 : Int32) (tt : String) (tw : Addr) (tb : Addr) (to : String) (ti : Nat) (wV : Addr) (kV : ClassId) (w0 : Addr) (s0 : Addr) (t0 : Addr) (kt0 : ClassId) (w1 : Addr) (s1 : Addr) (t1 : Addr) (kt1 : ClassId) (w2 : Addr) (s2 : Addr) (t2 : Addr) (kt2 : ClassId) (w3 : Addr) (s3 : Addr) (t3 : Addr) (kt3 : ClassId) (cp : Int32) (hKS : KS Z wV kV w0 s0 t0 kt0 w1 s1 t1 kt1 w2 s2 t2 kt2 w3 s3 t3 kt3) (hcp : ¬ (cp = (0 : Int32))) (hcw : Jvm.Lit.compactW.before a0 Z = true) (hch43 : Jvm.Lit.constHeld Z "com/example/huron/huron/io/config/AuthenticatorKindNamedPinLaw" 43) (hch53 : Jvm.Lit.constHeld Z "com/example/huron/huron/io/config/AuthenticatorKindNamedPinLaw" 53) (hch58 : Jvm.Lit.constHeld Z "com/example/huron/huron/io/config/AuthenticatorKindNamedPinLaw" 58) (hch63 : Jvm.Lit.constHeld Z "com/example/huron/huron/io/config/AuthenticatorKindNamedPinLaw" 63) (he0 : (if k0.toInt8.toInt32 = (108 : Int32) ∧ k1.toInt8.toInt32 = (111 : Int32) ∧ k2.toInt8.toInt32 = (99 : Int32) ∧ k3.toInt8.toInt32 = (97 : Int32) ∧ k4.toInt8.toInt32 = (108 : Int32) then (1 : Int32) else 0) = (0 : Int32)) (scp : Sta Z Z.heap "java/lang/String" "COMPACT_STRINGS" "Z" (.int cp)) (xa : Exa Z h a "java/lang/String") (fa : Fld Z h a "java/lang/String" "coder" "B" (.int (0 : Int32))) (ga : Fld Z h a "java/lang/String" "value" "[B" (.ref b)) (v : Arv Z h b kb .byte (5 : Int32) [(.int k0.toInt8.toInt32), (.int k1.toInt8.toInt32), (.int k2.toInt8.toInt32), (.int k3.toInt8.toInt32), (.int k4.toInt8.toInt32)] (.int 0)) (HT : Hel Z h tw tb tt) :
    ConS l (⟨"com/example/huron/huron/io/config/AuthenticatorKindNamedPinLaw", "expected", "(Ljava/lang/String;)Lcom/example/huron/huron/io/config/AuthenticatorKind;"⟩ : MethodName) method_3_code 1 (some (.object "com/example/huron/huron/io/config/AuthenticatorKind")) ({ frames := 2, cells := 8, slots := 84, locals := 28 } : Room) Z n0 #[(.ref a)] h [(tt, tw, to, ti)] (fun v h' LL' => v = some .null ∧ Keep h h' []) := by
  obtain ⟨sv, vv, xv, sk0, xk0, fk0, xs0, cs0, gs0, vs0, sk1, xk1, fk1, xs1, cs1, gs1, vs1, sk2, xk2, fk2, xs2, cs2, gs2, vs2, sk3, xk3, fk3, xs3, cs3, gs3, vs3⟩ := id hKS
  refine ConS.of_go (plainFor_of_name pn_2) (Ls := #[.val (.ref a)]) (fun m => by first | (simp [entryFrame, mkF, argsToLocals, Value.category]; done) | rfl) ?_
  refine GoS.aloadN (pc' := 1) d17_0 rfl rfl rfl ?_
  refine GoS.ldcS (pc' := 3) (cells' := 2) (slots' := 24) (n := 20) (z := (5 : Int32)) (vs := [(.int (108 : Int32)), (.int (111 : Int32)), (.int (99 : Int32)), (.int (97 : Int32)), (.int (108 : Int32))]) (ww hw 4 rfl) (wsA hw) hch43 hcw (Keep.refl h []) (HL.yes (ww hw 6 rfl) HT HL.nil) tx_0 (by decide) rfl d17_1 (nl rfl) (nl rfl) rfl rfl (nl rfl) (nl rfl) rfl ?_
  intro h1 sa1 sb1 kb1 E1 F1_0 F1_1 F1_2 F1_3 F1_4 F1_5
  have K2 : Keep h h1 [] := (Keep.refl h []).ext E1
  have H3 : Hel Z h1 sa1 sb1 "local" := ⟨kb1, _, _, F1_0, F1_1, F1_2, F1_3, F1_4, tx_0, rfl⟩
  show GoS _ _ _ _ _ _ _ _ _ _ _ _ _ _ 3 #[.val (.ref a)] [(.ref sa1), (.ref a)]
  refine GoS.callV (cells' := 2) (slots' := 24) (pc' := 6) [(.ref sa1)] [] (xa.ext E1) (ww hw 79 rfl) (ww hw 80 rfl) (fun s' hs' => notFace_of_selects (args := #[]) (mvT hs' (ww hw 82 rfl))) (ww hw 82 rfl) (ww hw 81 rfl) (ww hw 5 rfl) (ww hw 83 rfl) (by decide) (Con.cold (c_strEq5_5 l Z a0 hw h1 a b kb sa1 sb1 kb1 k0.toInt8.toInt32 k1.toInt8.toInt32 k2.toInt8.toInt32 k3.toInt8.toInt32 k4.toInt8.toInt32 (108 : Int32) (111 : Int32) (99 : Int32) (97 : Int32) (108 : Int32) cp hcp scp (xa.ext E1) (fa.ext E1) (ga.ext E1) (v.ext E1) F1_0 F1_1 F1_2 F1_3)) pd_14 rfl rfl rfl rfl rfl (nl rfl) (nl rfl) (nl rfl) (nl rfl) d17_3 rfl ?_
  rintro _ _ _ ⟨⟨rfl, rfl⟩, rfl⟩
  show GoS _ _ _ _ _ _ _ _ _ _ _ _ _ _ 6 #[.val (.ref a)] [(.int (if k0.toInt8.toInt32 = (108 : Int32) ∧ k1.toInt8.toInt32 = (111 : Int32) ∧ k2.toInt8.toInt32 = (99 : Int32) ∧ k3.toInt8.toInt32 = (97 : Int32) ∧ k4.toInt8.toInt32 = (108 : Int32) then (1 : Int32) else 0))]
  refine GoS.ifYes (pc' := 13) d17_6 (XT.i0_eq_t he0) (by decide) (by decide) ?_
  refine GoS.aloadN (pc' := 14) d17_13 rfl rfl rfl ?_
  refine GoS.ldcS (pc' := 16) (cells' := 4) (slots' := 44) (n := 16) (z := (4 : Int32)) (vs := [(.int (108 : Int32)), (.int (100 : Int32)), (.int (97 : Int32)), (.int (112 : Int32))]) (ww hw 88 rfl) (wsA hw) hch53 hcw K2 (HL.no (by decide) (HL.yes (ww hw 6 rfl) HT HL.nil)) tx_1 (by decide) rfl d17_14 (nl rfl) (nl rfl) rfl rfl (nl rfl) (nl rfl) rfl ?_
  intro h5 sa5 sb5 kb5 E5 F5_0 F5_1 F5_2 F5_3 F5_4 F5_5
  have K6 : Keep h h5 [] := K2.ext E5
  have H7 : Hel Z h5 sa5 sb5 "ldap" := ⟨kb5, _, _, F5_0, F5_1, F5_2, F5_3, F5_4, tx_1, rfl⟩
  show GoS _ _ _ _ _ _ _ _ _ _ _ _ _ _ 16 #[.val (.ref a)] [(.ref sa5), (.ref a)]
  refine GoS.callV (cells' := 4) (slots' := 44) (pc' := 19) [(.ref sa5)] [] ((xa.ext E1).ext E5) (ww hw 79 rfl) (ww hw 80 rfl) (fun s' hs' => notFace_of_selects (args := #[]) (mvT hs' (ww hw 82 rfl))) (ww hw 82 rfl) (ww hw 81 rfl) (ww hw 5 rfl) (ww hw 83 rfl) (by decide) (Con.cold (c_strNe l Z a0 hw h5 a b kb sa5 sb5 kb5 (5 : Int32) ([(.int k0.toInt8.toInt32), (.int k1.toInt8.toInt32), (.int k2.toInt8.toInt32), (.int k3.toInt8.toInt32), (.int k4.toInt8.toInt32)]) (4 : Int32) ([(.int (108 : Int32)), (.int (100 : Int32)), (.int (97 : Int32)), (.int (112 : Int32))]) cp hcp (by decide) (by decide) scp (((xa.ext E1).ext E5)) (((fa.ext E1).ext E5)) (((ga.ext E1).ext E5)) (((v.ext E1).ext E5)) F5_0 F5_1 F5_2 F5_3)) pd_14 rfl rfl rfl rfl rfl (nl rfl) (nl rfl) (nl rfl) (nl rfl) d17_16 rfl ?_
  rintro _ _ _ ⟨⟨rfl, rfl⟩, rfl⟩
  show GoS _ _ _ _ _ _ _ _ _ _ _ _ _ _ 19 #[.val (.ref a)] [(.int (0 : Int32))]
  refine GoS.ifYes (pc' := 26) d17_19 (XT.i0_eq_t (by decide)) (by decide) (by decide) ?_
  refine GoS.aloadN (pc' := 27) d17_26 rfl rfl rfl ?_
  refine GoS.ldcS (pc' := 29) (cells' := 6) (slots' := 64) (n := 16) (z := (4 : Int32)) (vs := [(.int (111 : Int32)), (.int (105 : Int32)), (.int (100 : Int32)), (.int (99 : Int32))]) (ww hw 89 rfl) (wsA hw) hch58 hcw K6 (HL.no (by decide) (HL.no (by decide) (HL.yes (ww hw 6 rfl) HT HL.nil))) tx_2 (by decide) rfl d17_27 (nl rfl) (nl rfl) rfl rfl (nl rfl) (nl rfl) rfl ?_
  intro h9 sa9 sb9 kb9 E9 F9_0 F9_1 F9_2 F9_3 F9_4 F9_5
  have K10 : Keep h h9 [] := K6.ext E9
  have H11 : Hel Z h9 sa9 sb9 "oidc" := ⟨kb9, _, _, F9_0, F9_1, F9_2, F9_3, F9_4, tx_2, rfl⟩
  show GoS _ _ _ _ _ _ _ _ _ _ _ _ _ _ 29 #[.val (.ref a)] [(.ref sa9), (.ref a)]
  refine GoS.callV (cells' := 6) (slots' := 64) (pc' := 32) [(.ref sa9)] [] (((xa.ext E1).ext E5).ext E9) (ww hw 79 rfl) (ww hw 80 rfl) (fun s' hs' => notFace_of_selects (args := #[]) (mvT hs' (ww hw 82 rfl))) (ww hw 82 rfl) (ww hw 81 rfl) (ww hw 5 rfl) (ww hw 83 rfl) (by decide) (Con.cold (c_strNe l Z a0 hw h9 a b kb sa9 sb9 kb9 (5 : Int32) ([(.int k0.toInt8.toInt32), (.int k1.toInt8.toInt32), (.int k2.toInt8.toInt32), (.int k3.toInt8.toInt32), (.int k4.toInt8.toInt32)]) (4 : Int32) ([(.int (111 : Int32)), (.int (105 : Int32)), (.int (100 : Int32)), (.int (99 : Int32))]) cp hcp (by decide) (by decide) scp ((((xa.ext E1).ext E5).ext E9)) ((((fa.ext E1).ext E5).ext E9)) ((((ga.ext E1).ext E5).ext E9)) ((((v.ext E1).ext E5).ext E9)) F9_0 F9_1 F9_2 F9_3)) pd_14 rfl rfl rfl rfl rfl (nl rfl) (nl rfl) (nl rfl) (nl rfl) d17_29 rfl ?_
  rintro _ _ _ ⟨⟨rfl, rfl⟩, rfl⟩
  show GoS _ _ _ _ _ _ _ _ _ _ _ _ _ _ 32 #[.val (.ref a)] [(.int (0 : Int32))]
  refine GoS.ifYes (pc' := 39) d17_32 (XT.i0_eq_t (by decide)) (by decide) (by decide) ?_
  refine GoS.aloadN (pc' := 40) d17_39 rfl rfl rfl ?_
  refine GoS.ldcS (pc' := 42) (cells' := 8) (slots' := 84) (n := 16) (z := (4 : Int32)) (vs := [(.int (115 : Int32)), (.int (97 : Int32)), (.int (109 : Int32)), (.int (108 : Int32))]) (ww hw 90 rfl) (wsA hw) hch63 hcw K10 (HL.no (by decide) (HL.no (by decide) (HL.no (by decide) (HL.yes (ww hw 6 rfl) HT HL.nil)))) tx_3 (by decide) rfl d17_40 (nl rfl) (nl rfl) rfl rfl (nl rfl) (nl rfl) rfl ?_
  intro h13 sa13 sb13 kb13 E13 F13_0 F13_1 F13_2 F13_3 F13_4 F13_5
  have K14 : Keep h h13 [] := K10.ext E13
  have H15 : Hel Z h13 sa13 sb13 "saml" := ⟨kb13, _, _, F13_0, F13_1, F13_2, F13_3, F13_4, tx_3, rfl⟩
  show GoS _ _ _ _ _ _ _ _ _ _ _ _ _ _ 42 #[.val (.ref a)] [(.ref sa13), (.ref a)]
  refine GoS.callV (cells' := 8) (slots' := 84) (pc' := 45) [(.ref sa13)] [] ((((xa.ext E1).ext E5).ext E9).ext E13) (ww hw 79 rfl) (ww hw 80 rfl) (fun s' hs' => notFace_of_selects (args := #[]) (mvT hs' (ww hw 82 rfl))) (ww hw 82 rfl) (ww hw 81 rfl) (ww hw 5 rfl) (ww hw 83 rfl) (by decide) (Con.cold (c_strNe l Z a0 hw h13 a b kb sa13 sb13 kb13 (5 : Int32) ([(.int k0.toInt8.toInt32), (.int k1.toInt8.toInt32), (.int k2.toInt8.toInt32), (.int k3.toInt8.toInt32), (.int k4.toInt8.toInt32)]) (4 : Int32) ([(.int (115 : Int32)), (.int (97 : Int32)), (.int (109 : Int32)), (.int (108 : Int32))]) cp hcp (by decide) (by decide) scp (((((xa.ext E1).ext E5).ext E9).ext E13)) (((((fa.ext E1).ext E5).ext E9).ext E13)) (((((ga.ext E1).ext E5).ext E9).ext E13)) (((((v.ext E1).ext E5).ext E9).ext E13)) F13_0 F13_1 F13_2 F13_3)) pd_14 rfl rfl rfl rfl rfl (nl rfl) (nl rfl) (nl rfl) (nl rfl) d17_42 rfl ?_
  rintro _ _ _ ⟨⟨rfl, rfl⟩, rfl⟩
  show GoS _ _ _ _ _ _ _ _ _ _ _ _ _ _ 45 #[.val (.ref a)] [(.int (0 : Int32))]
  refine GoS.ifYes (pc' := 52) d17_45 (XT.i0_eq_t (by decide)) (by decide) (by decide) ?_
  refine GoS.aconstNull (pc' := 53) d17_52 rfl ?_
  exact GoS.retR rfl rfl rfl rfl d17_53 ⟨rfl, K14⟩ (by decide) (by decide)
theorem c_named5_n (l : Launch) (Z : State) (a0 : Array Value) (hw : ∀ d ∈ tables_1, d.before a0 Z = true) {n0 : Nat} (h : Heap) (a : Addr) (b : Addr) (kb : ClassId) (k0 : Int32) (k1 : Int32) (k2 : Int32) (k3 : Int32) (k4 : Int32) (wV : Addr) (kV : ClassId) (w0 : Addr) (s0 : Addr) (t0 : Addr) (kt0 : ClassId) (w1 : Addr) (s1 : Addr) (t1 : Addr) (kt1 : ClassId) (w2 : Addr) (s2 : Addr) (t2 : Addr) (kt2 : ClassId) (w3 : Addr) (s3 : Addr) (t3 : Addr) (kt3 : ClassId) (cp : Int32) (wo : Addr) (hKS : KS Z wV kV w0 s0 t0 kt0 w1 s1 t1 kt1 w2 s2 t2 kt2 w3 s3 t3 kt3) (hcp : ¬ (cp = (0 : Int32))) (he0 : (if k0.toInt8.toInt32 = (108 : Int32) ∧ k1.toInt8.toInt32 = (111 : Int32) ∧ k2.toInt8.toInt32 = (99 : Int32) ∧ k3.toInt8.toInt32 = (97 : Int32) ∧ k4.toInt8.toInt32 = (108 : Int32) then (1 : Int32) else 0) = (0 : Int32)) (scp : Sta Z Z.heap "java/lang/String" "COMPACT_STRINGS" "Z" (.int cp)) (so : Sta Z Z.heap "java/util/Optional" "EMPTY" "Ljava/util/Optional;" (.ref wo)) (xo : Exa Z Z.heap wo "java/util/Optional") (fo : Fld Z Z.heap wo "java/util/Optional" "value" "Ljava/lang/Object;" .null) (xa : Exa Z h a "java/lang/String") (fa : Fld Z h a "java/lang/String" "coder" "B" (.int (0 : Int32))) (ga : Fld Z h a "java/lang/String" "value" "[B" (.ref b)) (v : Arv Z h b kb .byte (5 : Int32) [(.int k0.toInt8.toInt32), (.int k1.toInt8.toInt32), (.int k2.toInt8.toInt32), (.int k3.toInt8.toInt32), (.int k4.toInt8.toInt32)] (.int 0)) :
    Con l (⟨"com/example/huron/huron/io/config/AuthenticatorKind", "named", "(Ljava/lang/String;)Ljava/util/Optional;"⟩ : MethodName) prog_8_method_4_code 5 (some (.object "java/util/Optional")) ({ frames := 2, cells := 1, slots := 4, locals := 28 } : Room) Z n0 #[(.ref a)] h (fun v h' => v = some (.ref wo) ∧ Keep h h' []) := by
  obtain ⟨sv, vv, xv, sk0, xk0, fk0, xs0, cs0, gs0, vs0, sk1, xk1, fk1, xs1, cs1, gs1, vs1, sk2, xk2, fk2, xs2, cs2, gs2, vs2, sk3, xk3, fk3, xs3, cs3, gs3, vs3⟩ := id hKS
  refine Con.of_go (plainFor_of_name pn_7) (Ls := #[.val (.ref a), .unset, .unset, .unset, .unset]) (fun m => by first | (simp [entryFrame, mkF, argsToLocals, Value.category]; done) | rfl) ?_
  refine Go.callS (cells' := 1) (slots' := 4) (pc' := 3) [] [] (ww hw 95 rfl) (ww hw 96 rfl) (ww hw 93 rfl) (ww hw 97 rfl) (by decide) (c_values l Z a0 hw h wV kV w0 s0 t0 kt0 w1 s1 t1 kt1 w2 s2 t2 kt2 w3 s3 t3 kt3 hKS) pd_15 rfl rfl rfl rfl rfl (nl rfl) (nl rfl) (nl rfl) (nl rfl) d20_0 rfl ?_
  rintro _ h1 ⟨r_1, rfl, K1, ge_r_1, sz_r_1, F1_0, F1_1⟩
  have sz2 : h.size ≤ r_1 := Nat.le_trans (Keep.refl h []).1 sz_r_1
  have K3 : Keep h h1 [] := (Keep.refl h []).trans K1 all0
  show Go _ _ _ _ _ _ _ _ _ _ _ _ 3 #[.val (.ref a), .unset, .unset, .unset, .unset] [(.ref r_1)]
  refine Go.astoreN (pc' := 4) (Ls' := #[.val (.ref a), .val (.ref r_1), .unset, .unset, .unset]) d20_3 rfl rfl rfl ?_
  refine Go.aloadN (pc' := 5) d20_4 rfl rfl rfl ?_
  refine Go.arraylength (pc' := 6) F1_0 d20_5 rfl ?_
  refine Go.istoreN (pc' := 7) (Ls' := #[.val (.ref a), .val (.ref r_1), .val (.int (4 : Int32)), .unset, .unset]) d20_6 rfl rfl ?_
  refine Go.iconst (pc' := 8) (v := (0 : Int32)) d20_7 rfl rfl ?_
  refine Go.istoreN (pc' := 9) (Ls' := #[.val (.ref a), .val (.ref r_1), .val (.int (4 : Int32)), .val (.int (0 : Int32)), .unset]) d20_8 rfl rfl ?_
  refine Go.iloadN (pc' := 10) d20_9 rfl rfl ?_
  refine Go.iloadN (pc' := 11) d20_10 rfl rfl ?_
  refine Go.icmpNo (pc' := 14) d20_11 (XT.ii_ge_f (by decide)) rfl ?_
  refine Go.aloadN (pc' := 15) d20_14 rfl rfl rfl ?_
  refine Go.iloadN (pc' := 16) d20_15 rfl rfl ?_
  refine Go.aaload (pc' := 17) (v := (.ref w0)) F1_0 rfl d20_16 (by decide) (by decide) rfl rfl ?_
  refine Go.astore (pc' := 19) (Ls' := #[.val (.ref a), .val (.ref r_1), .val (.int (4 : Int32)), .val (.int (0 : Int32)), .val (.ref w0)]) d20_17 rfl rfl rfl ?_
  refine Go.aload (pc' := 21) d20_19 rfl rfl rfl ?_
  refine Go.old (fun old4 => ?_)
  refine Go.getfield (pc' := 24) (host := "") (Or.inl (ww hw 114 rfl)) Via.refl (fk0.ext old4.2) d20_21 rfl ?_
  refine Go.aloadN (pc' := 25) d20_24 rfl rfl rfl ?_
  refine Go.callV (cells' := 1) (slots' := 4) (pc' := 28) [(.ref a)] [] (xs0.ext old4.2) (ww hw 116 rfl) (ww hw 80 rfl) (fun s' hs' => notFace_of_selects (args := #[]) (mvT hs' (ww hw 82 rfl))) (ww hw 82 rfl) (ww hw 81 rfl) (ww hw 5 rfl) (ww hw 83 rfl) (by decide) (c_strEq5_5s l Z a0 hw h1 a b kb s0 t0 kt0 k0.toInt8.toInt32 k1.toInt8.toInt32 k2.toInt8.toInt32 k3.toInt8.toInt32 k4.toInt8.toInt32 (108 : Int32) (111 : Int32) (99 : Int32) (97 : Int32) (108 : Int32) cp hcp scp (xa.keep K1) (fa.keep K1 nin0) (ga.keep K1 nin0) (v.keep K1 nin0) (xs0.ext old4.2) (cs0.ext old4.2) (gs0.ext old4.2) (vs0.ext old4.2)) pd_14 rfl rfl rfl rfl rfl (nl rfl) (nl rfl) (nl rfl) (nl rfl) d20_25 rfl ?_
  rintro _ _ ⟨rfl, rfl⟩
  show Go _ _ _ _ _ _ _ _ _ _ _ _ 28 #[.val (.ref a), .val (.ref r_1), .val (.int (4 : Int32)), .val (.int (0 : Int32)), .val (.ref w0)] [(.int (if k0.toInt8.toInt32 = (108 : Int32) ∧ k1.toInt8.toInt32 = (111 : Int32) ∧ k2.toInt8.toInt32 = (99 : Int32) ∧ k3.toInt8.toInt32 = (97 : Int32) ∧ k4.toInt8.toInt32 = (108 : Int32) then (1 : Int32) else 0))]
  refine Go.ifYes (pc' := 37) d20_28 (XT.i0_eq_t he0) (by decide) (by decide) ?_
  refine Go.iinc (pc' := 40) (Ls' := #[.val (.ref a), .val (.ref r_1), .val (.int (4 : Int32)), .val (.int ((0 : Int32) + (1 : Int32))), .val (.ref w0)]) (w := (1 : Int32)) d20_37 rfl rfl rfl rfl ?_
  show Go _ _ _ _ _ _ _ _ _ _ _ _ 40 #[.val (.ref a), .val (.ref r_1), .val (.int (4 : Int32)), .val (.int (1 : Int32)), .val (.ref w0)] []
  refine Go.goto (pc' := 9) d20_40 (by decide) (by decide) ?_
  refine Go.iloadN (pc' := 10) d20_9 rfl rfl ?_
  refine Go.iloadN (pc' := 11) d20_10 rfl rfl ?_
  refine Go.icmpNo (pc' := 14) d20_11 (XT.ii_ge_f (by decide)) rfl ?_
  refine Go.aloadN (pc' := 15) d20_14 rfl rfl rfl ?_
  refine Go.iloadN (pc' := 16) d20_15 rfl rfl ?_
  refine Go.aaload (pc' := 17) (v := (.ref w1)) F1_0 rfl d20_16 (by decide) (by decide) rfl rfl ?_
  refine Go.astore (pc' := 19) (Ls' := #[.val (.ref a), .val (.ref r_1), .val (.int (4 : Int32)), .val (.int (1 : Int32)), .val (.ref w1)]) d20_17 rfl rfl rfl ?_
  refine Go.aload (pc' := 21) d20_19 rfl rfl rfl ?_
  refine Go.getfield (pc' := 24) (host := "") (Or.inl (ww hw 114 rfl)) Via.refl (fk1.ext old4.2) d20_21 rfl ?_
  refine Go.aloadN (pc' := 25) d20_24 rfl rfl rfl ?_
  refine Go.callV (cells' := 1) (slots' := 4) (pc' := 28) [(.ref a)] [] (xs1.ext old4.2) (ww hw 116 rfl) (ww hw 80 rfl) (fun s' hs' => notFace_of_selects (args := #[]) (mvT hs' (ww hw 82 rfl))) (ww hw 82 rfl) (ww hw 81 rfl) (ww hw 5 rfl) (ww hw 83 rfl) (by decide) (c_strNe l Z a0 hw h1 s1 t1 kt1 a b kb (4 : Int32) ([(.int (108 : Int32)), (.int (100 : Int32)), (.int (97 : Int32)), (.int (112 : Int32))]) (5 : Int32) ([(.int k0.toInt8.toInt32), (.int k1.toInt8.toInt32), (.int k2.toInt8.toInt32), (.int k3.toInt8.toInt32), (.int k4.toInt8.toInt32)]) cp hcp (by decide) (by decide) scp (xs1.ext old4.2) (cs1.ext old4.2) (gs1.ext old4.2) (vs1.ext old4.2) (xa.keep K1) (fa.keep K1 nin0) (ga.keep K1 nin0) (v.keep K1 nin0)) pd_14 rfl rfl rfl rfl rfl (nl rfl) (nl rfl) (nl rfl) (nl rfl) d20_25 rfl ?_
  rintro _ _ ⟨rfl, rfl⟩
  show Go _ _ _ _ _ _ _ _ _ _ _ _ 28 #[.val (.ref a), .val (.ref r_1), .val (.int (4 : Int32)), .val (.int (1 : Int32)), .val (.ref w1)] [(.int (0 : Int32))]
  refine Go.ifYes (pc' := 37) d20_28 (XT.i0_eq_t (by decide)) (by decide) (by decide) ?_
  refine Go.iinc (pc' := 40) (Ls' := #[.val (.ref a), .val (.ref r_1), .val (.int (4 : Int32)), .val (.int ((1 : Int32) + (1 : Int32))), .val (.ref w1)]) (w := (1 : Int32)) d20_37 rfl rfl rfl rfl ?_
  show Go _ _ _ _ _ _ _ _ _ _ _ _ 40 #[.val (.ref a), .val (.ref r_1), .val (.int (4 : Int32)), .val (.int (2 : Int32)), .val (.ref w1)] []
  refine Go.goto (pc' := 9) d20_40 (by decide) (by decide) ?_
  refine Go.iloadN (pc' := 10) d20_9 rfl rfl ?_
  refine Go.iloadN (pc' := 11) d20_10 rfl rfl ?_
  refine Go.icmpNo (pc' := 14) d20_11 (XT.ii_ge_f (by decide)) rfl ?_
  refine Go.aloadN (pc' := 15) d20_14 rfl rfl rfl ?_
  refine Go.iloadN (pc' := 16) d20_15 rfl rfl ?_
  refine Go.aaload (pc' := 17) (v := (.ref w2)) F1_0 rfl d20_16 (by decide) (by decide) rfl rfl ?_
  refine Go.astore (pc' := 19) (Ls' := #[.val (.ref a), .val (.ref r_1), .val (.int (4 : Int32)), .val (.int (2 : Int32)), .val (.ref w2)]) d20_17 rfl rfl rfl ?_
  refine Go.aload (pc' := 21) d20_19 rfl rfl rfl ?_
  refine Go.getfield (pc' := 24) (host := "") (Or.inl (ww hw 114 rfl)) Via.refl (fk2.ext old4.2) d20_21 rfl ?_
  refine Go.aloadN (pc' := 25) d20_24 rfl rfl rfl ?_
  refine Go.callV (cells' := 1) (slots' := 4) (pc' := 28) [(.ref a)] [] (xs2.ext old4.2) (ww hw 116 rfl) (ww hw 80 rfl) (fun s' hs' => notFace_of_selects (args := #[]) (mvT hs' (ww hw 82 rfl))) (ww hw 82 rfl) (ww hw 81 rfl) (ww hw 5 rfl) (ww hw 83 rfl) (by decide) (c_strNe l Z a0 hw h1 s2 t2 kt2 a b kb (4 : Int32) ([(.int (111 : Int32)), (.int (105 : Int32)), (.int (100 : Int32)), (.int (99 : Int32))]) (5 : Int32) ([(.int k0.toInt8.toInt32), (.int k1.toInt8.toInt32), (.int k2.toInt8.toInt32), (.int k3.toInt8.toInt32), (.int k4.toInt8.toInt32)]) cp hcp (by decide) (by decide) scp (xs2.ext old4.2) (cs2.ext old4.2) (gs2.ext old4.2) (vs2.ext old4.2) (xa.keep K1) (fa.keep K1 nin0) (ga.keep K1 nin0) (v.keep K1 nin0)) pd_14 rfl rfl rfl rfl rfl (nl rfl) (nl rfl) (nl rfl) (nl rfl) d20_25 rfl ?_
  rintro _ _ ⟨rfl, rfl⟩
  show Go _ _ _ _ _ _ _ _ _ _ _ _ 28 #[.val (.ref a), .val (.ref r_1), .val (.int (4 : Int32)), .val (.int (2 : Int32)), .val (.ref w2)] [(.int (0 : Int32))]
  refine Go.ifYes (pc' := 37) d20_28 (XT.i0_eq_t (by decide)) (by decide) (by decide) ?_
  refine Go.iinc (pc' := 40) (Ls' := #[.val (.ref a), .val (.ref r_1), .val (.int (4 : Int32)), .val (.int ((2 : Int32) + (1 : Int32))), .val (.ref w2)]) (w := (1 : Int32)) d20_37 rfl rfl rfl rfl ?_
  show Go _ _ _ _ _ _ _ _ _ _ _ _ 40 #[.val (.ref a), .val (.ref r_1), .val (.int (4 : Int32)), .val (.int (3 : Int32)), .val (.ref w2)] []
  refine Go.goto (pc' := 9) d20_40 (by decide) (by decide) ?_
  refine Go.iloadN (pc' := 10) d20_9 rfl rfl ?_
  refine Go.iloadN (pc' := 11) d20_10 rfl rfl ?_
  refine Go.icmpNo (pc' := 14) d20_11 (XT.ii_ge_f (by decide)) rfl ?_
  refine Go.aloadN (pc' := 15) d20_14 rfl rfl rfl ?_
  refine Go.iloadN (pc' := 16) d20_15 rfl rfl ?_
  refine Go.aaload (pc' := 17) (v := (.ref w3)) F1_0 rfl d20_16 (by decide) (by decide) rfl rfl ?_
  refine Go.astore (pc' := 19) (Ls' := #[.val (.ref a), .val (.ref r_1), .val (.int (4 : Int32)), .val (.int (3 : Int32)), .val (.ref w3)]) d20_17 rfl rfl rfl ?_
  refine Go.aload (pc' := 21) d20_19 rfl rfl rfl ?_
  refine Go.getfield (pc' := 24) (host := "") (Or.inl (ww hw 114 rfl)) Via.refl (fk3.ext old4.2) d20_21 rfl ?_
  refine Go.aloadN (pc' := 25) d20_24 rfl rfl rfl ?_
  refine Go.callV (cells' := 1) (slots' := 4) (pc' := 28) [(.ref a)] [] (xs3.ext old4.2) (ww hw 116 rfl) (ww hw 80 rfl) (fun s' hs' => notFace_of_selects (args := #[]) (mvT hs' (ww hw 82 rfl))) (ww hw 82 rfl) (ww hw 81 rfl) (ww hw 5 rfl) (ww hw 83 rfl) (by decide) (c_strNe l Z a0 hw h1 s3 t3 kt3 a b kb (4 : Int32) ([(.int (115 : Int32)), (.int (97 : Int32)), (.int (109 : Int32)), (.int (108 : Int32))]) (5 : Int32) ([(.int k0.toInt8.toInt32), (.int k1.toInt8.toInt32), (.int k2.toInt8.toInt32), (.int k3.toInt8.toInt32), (.int k4.toInt8.toInt32)]) cp hcp (by decide) (by decide) scp (xs3.ext old4.2) (cs3.ext old4.2) (gs3.ext old4.2) (vs3.ext old4.2) (xa.keep K1) (fa.keep K1 nin0) (ga.keep K1 nin0) (v.keep K1 nin0)) pd_14 rfl rfl rfl rfl rfl (nl rfl) (nl rfl) (nl rfl) (nl rfl) d20_25 rfl ?_
  rintro _ _ ⟨rfl, rfl⟩
  show Go _ _ _ _ _ _ _ _ _ _ _ _ 28 #[.val (.ref a), .val (.ref r_1), .val (.int (4 : Int32)), .val (.int (3 : Int32)), .val (.ref w3)] [(.int (0 : Int32))]
  refine Go.ifYes (pc' := 37) d20_28 (XT.i0_eq_t (by decide)) (by decide) (by decide) ?_
  refine Go.iinc (pc' := 40) (Ls' := #[.val (.ref a), .val (.ref r_1), .val (.int (4 : Int32)), .val (.int ((3 : Int32) + (1 : Int32))), .val (.ref w3)]) (w := (1 : Int32)) d20_37 rfl rfl rfl rfl ?_
  show Go _ _ _ _ _ _ _ _ _ _ _ _ 40 #[.val (.ref a), .val (.ref r_1), .val (.int (4 : Int32)), .val (.int (4 : Int32)), .val (.ref w3)] []
  refine Go.goto (pc' := 9) d20_40 (by decide) (by decide) ?_
  refine Go.iloadN (pc' := 10) d20_9 rfl rfl ?_
  refine Go.iloadN (pc' := 11) d20_10 rfl rfl ?_
  refine Go.icmpYes (pc' := 43) d20_11 (XT.ii_ge_t (by decide)) (by decide) (by decide) ?_
  refine Go.callS (cells' := 1) (slots' := 4) (pc' := 46) [] [] (ww hw 117 rfl) (ww hw 118 rfl) (ww hw 119 rfl) (ww hw 120 rfl) (by decide) (c_optEmpty l Z a0 hw h1 wo so xo fo) pd_16 rfl rfl rfl rfl rfl (nl rfl) (nl rfl) (nl rfl) (nl rfl) d20_43 rfl ?_
  rintro _ _ ⟨rfl, rfl⟩
  show Go _ _ _ _ _ _ _ _ _ _ _ _ 46 #[.val (.ref a), .val (.ref r_1), .val (.int (4 : Int32)), .val (.int (4 : Int32)), .val (.ref w3)] [(.ref wo)]
  exact Go.retR rfl rfl rfl rfl d20_46 ⟨rfl, K3⟩ (by decide) (by decide)
theorem pd_18 : parseMethodDescriptor "([CI)[C" = some ⟨[(.array .char), .int], some (.array .char)⟩ := by decide +kernel
theorem pd_19 : parseMethodDescriptor "([C)V" = some ⟨[(.array .char)], none⟩ := by decide +kernel
theorem pd_20 : parseMethodDescriptor "(Ljava/lang/String;)Lcom/example/huron/huron/io/config/AuthenticatorKind;" = some ⟨[(.object "java/lang/String")], some (.object "com/example/huron/huron/io/config/AuthenticatorKind")⟩ := by decide +kernel
theorem pd_21 : parseMethodDescriptor "(Ljava/lang/String;)Ljava/util/Optional;" = some ⟨[(.object "java/lang/String")], some (.object "java/util/Optional")⟩ := by decide +kernel
theorem c_rest3 (l : Launch) (Z : State) (a0 : Array Value) (hw : ∀ d ∈ tables_1, d.before a0 Z = true) {n0 : Nat} (hs h : Heap) (p0 : Int32) (p1 : Int32) (p2 : Int32) (p3 : Int32) (p4 : Int32) (p5 : Int32) (kk : Int32) (c : Addr) (kc : ClassId) (k0 : Int32) (k1 : Int32) (k2 : Int32) (k3 : Int32) (k4 : Int32) (k5 : Int32) (tt : String) (tw : Addr) (tb : Addr) (to : String) (ti : Nat) (wV : Addr) (kV : ClassId) (w0 : Addr) (s0 : Addr) (t0 : Addr) (kt0 : ClassId) (w1 : Addr) (s1 : Addr) (t1 : Addr) (kt1 : ClassId) (w2 : Addr) (s2 : Addr) (t2 : Addr) (kt2 : ClassId) (w3 : Addr) (s3 : Addr) (t3 : Addr) (kt3 : ClassId) (cp : Int32) (wf : Value) (wo : Addr) (hKS : KS Z wV kV w0 s0 t0 kt0 w1 s1 t1 kt1 w2 s2 t2 kt2 w3 s3 t3 kt3) (hcp : ¬ (cp = (0 : Int32))) (hcw : Jvm.Lit.compactW.before a0 Z = true) (hwf : wf.isRef = true) (hch7 : Jvm.Lit.constHeld Z "java/lang/String" 7) (hch43 : Jvm.Lit.constHeld Z "com/example/huron/huron/io/config/AuthenticatorKindNamedPinLaw" 43) (hch53 : Jvm.Lit.constHeld Z "com/example/huron/huron/io/config/AuthenticatorKindNamedPinLaw" 53) (hch58 : Jvm.Lit.constHeld Z "com/example/huron/huron/io/config/AuthenticatorKindNamedPinLaw" 58) (hch63 : Jvm.Lit.constHeld Z "com/example/huron/huron/io/config/AuthenticatorKindNamedPinLaw" 63) (hch68 : Jvm.Lit.constHeld Z "com/example/huron/huron/io/config/AuthenticatorKindNamedPinLaw" 68) (hch69 : Jvm.Lit.constHeld Z "com/example/huron/huron/io/config/AuthenticatorKindNamedPinLaw" 69) (hch70 : Jvm.Lit.constHeld Z "com/example/huron/huron/io/config/AuthenticatorKindNamedPinLaw" 70) (hch71 : Jvm.Lit.constHeld Z "com/example/huron/huron/io/config/AuthenticatorKindNamedPinLaw" 71) (hk0 : ¬ ((255 : Int32) < k0)) (hk1 : ¬ ((255 : Int32) < k1)) (hk2 : ¬ ((255 : Int32) < k2)) (hk3 : ¬ ((255 : Int32) < k3)) (hk4 : ¬ ((255 : Int32) < k4)) (hk5 : ¬ ((255 : Int32) < k5)) (hn0 : nar .char k0 = k0) (hn1 : nar .char k1 = k1) (hn2 : nar .char k2 = k2) (hn3 : nar .char k3 = k3) (hn4 : nar .char k4 = k4) (hn5 : nar .char k5 = k5) (scp : Sta Z Z.heap "java/lang/String" "COMPACT_STRINGS" "Z" (.int cp)) (sfm : Sta Z Z.heap "jdk/internal/util/Preconditions" "SIOOBE_FORMATTER" "Ljava/util/function/BiFunction;" wf) (so : Sta Z Z.heap "java/util/Optional" "EMPTY" "Ljava/util/Optional;" (.ref wo)) (xo : Exa Z Z.heap wo "java/util/Optional") (fo : Fld Z Z.heap wo "java/util/Optional" "value" "Ljava/lang/Object;" .null) (ge_c : n0 ≤ c) (xc : Exa Z h c "[C") (vc : Arv Z h c kc .char (6 : Int32) [(.int k0), (.int k1), (.int k2), (.int k3), (.int k4), (.int k5)] (.int 0)) (HT : Hel Z h tw tb tt) (xw : Exa Z h tw "java/lang/String") (xb : Exa Z h tb "[B") (sz_c : hs.size ≤ c) (Kp : Keep hs h []) :
    GoS l room_1 Z n0 x code maxLocals ret (fun v h' LL' => v = some (.int (1 : Int32)) ∧ Keep hs h' []) hs [(tt, tw, to, ti)] 20 200 h 127 #[.val (.int p0), .val (.int p1), .val (.int p2), .val (.int p3), .val (.int p4), .val (.int p5), .val (.int kk), .val (.ref tw), .val (.ref c), .unset, .unset, .unset, .unset] [] := by
  obtain ⟨sv, vv, xv, sk0, xk0, fk0, xs0, cs0, gs0, vs0, sk1, xk1, fk1, xs1, cs1, gs1, vs1, sk2, xk2, fk2, xs2, cs2, gs2, vs2, sk3, xk3, fk3, xs3, cs3, gs3, vs3⟩ := id hKS
  refine GoS.iloadN (pc' := 128) at_127 rfl rfl ?_
  refine GoS.ldcI (pc' := 130) (ww hw 51 rfl) at_128 rfl ?_
  refine GoS.iand (pc' := 131) at_130 rfl ?_
  refine GoS.bipush (pc' := 133) (v := (7 : Int32)) at_131 rfl rfl ?_
  refine GoS.irem (pc' := 134) at_133 (by decide) rfl ?_
  obtain hspl1 | hspl1 | hspl1 | hspl1 | hspl1 | hspl1 | hspl1 := own_mod7 p1
  ·
    rw [hspl1]
    refine GoS.istore (pc' := 136) (Ls' := #[.val (.int p0), .val (.int p1), .val (.int p2), .val (.int p3), .val (.int p4), .val (.int p5), .val (.int kk), .val (.ref tw), .val (.ref c), .val (.int (0 : Int32)), .unset, .unset, .unset]) at_134 rfl rfl ?_
    refine GoS.new (pc' := 139) (cells' := 21) (slots' := 204) (ww hw 52 rfl) (ww hw 6 rfl) (ww hw 5 rfl) at_136 rfl rfl (by decide) (by decide) rfl ?_
    intro h2 b2 g2 E2 ge2 A2 D2
    have sz3 : hs.size ≤ b2 := Nat.le_trans Kp.1 (Nat.le_of_eq g2.symm)
    have K4 : Keep hs h2 [] := Kp.ext E2
    refine GoS.dup (pc' := 140) at_139 rfl rfl ?_
    refine GoS.aload (pc' := 142) at_140 rfl rfl rfl ?_
    refine GoS.iload (pc' := 144) at_142 rfl rfl ?_
    refine GoS.callS (cells' := 22) (slots' := 204) (pc' := 147) [(.ref c), (.int (0 : Int32))] [(.ref b2), (.ref b2)] (ww hw 53 rfl) (ww hw 54 rfl) (ww hw 2 rfl) (ww hw 55 rfl) (by decide) (Con.cold (c_take0 l Z a0 hw h2 c kc k0 k1 k2 k3 k4 k5 (vc.ext E2))) pd_18 rfl rfl rfl rfl rfl (nl rfl) (nl rfl) (nl rfl) (nl rfl) at_144 rfl ?_
    rintro _ h5 _ ⟨⟨d_5, kd_5, rfl, K5, ge_d_5, sz_d_5, F5_0⟩, rfl⟩
    have sz6 : hs.size ≤ d_5 := Nat.le_trans K4.1 sz_d_5
    have K7 : Keep hs h5 [] := K4.trans K5 all0
    show GoS _ _ _ _ _ _ _ _ _ _ _ _ _ _ 147 #[.val (.int p0), .val (.int p1), .val (.int p2), .val (.int p3), .val (.int p4), .val (.int p5), .val (.int kk), .val (.ref tw), .val (.ref c), .val (.int (0 : Int32)), .unset, .unset, .unset] [(.ref d_5), (.ref b2), (.ref b2)]
    have f8 : Fld Z h5 b2 "java/lang/String" "value" "[B" .null := ((D2 (Or.inr (ww hw 8 rfl)) (ty := (.array .byte)) (by decide) : Fld Z h2 b2 "java/lang/String" "value" "[B" .null).keep K5 nin0)
    have f9 : Fld Z h5 b2 "java/lang/String" "coder" "B" (.int (0 : Int32)) := ((D2 (Or.inr (ww hw 9 rfl)) (ty := .byte) (by decide) : Fld Z h2 b2 "java/lang/String" "coder" "B" (.int (0 : Int32))).keep K5 nin0)
    refine GoS.callC (cells' := 24) (slots' := 208) (pc' := 150) [(.ref d_5)] [(.ref b2)] (a := b2) rfl rfl (ww hw 56 rfl) (ww hw 57 rfl) (ww hw 5 rfl) (ww hw 58 rfl) (by decide) (c_str0Init l Z a0 hw h5 b2 d_5 kd_5 tt tw tb to ti hcw hch7 ge2 (A2.keep K5) f8 f9 F5_0 (((HT.ext E2).keep K5 nin0 nin0))) pd_19 rfl rfl rfl rfl rfl (nl rfl) (nl rfl) (nl rfl) (nl rfl) at_147 rfl ?_
    rintro _ h10 _ ⟨sa_10, sb_10, ks_10, rfl, K10, F10_0, F10_1, F10_2, F10_3, F10_4, rfl⟩
    have K11 : Keep hs h10 [] := K7.trans K10 (allS (Or.inr sz3) all0)
    show GoS _ _ _ _ _ _ _ _ _ _ _ _ _ _ 150 #[.val (.int p0), .val (.int p1), .val (.int p2), .val (.int p3), .val (.int p4), .val (.int p5), .val (.int kk), .val (.ref tw), .val (.ref c), .val (.int (0 : Int32)), .unset, .unset, .unset] [(.ref b2)]
    refine GoS.astore (pc' := 152) (Ls' := #[.val (.int p0), .val (.int p1), .val (.int p2), .val (.int p3), .val (.int p4), .val (.int p5), .val (.int kk), .val (.ref tw), .val (.ref c), .val (.int (0 : Int32)), .val (.ref b2), .unset, .unset]) at_150 rfl rfl rfl ?_
    refine GoS.aload (pc' := 154) at_152 rfl rfl rfl ?_
    have ne12 : tw ≠ b2 := (Nat.ne_of_lt (Nat.lt_of_lt_of_le xw.lt (Nat.le_of_eq g2.symm)))
    have ne13 : tb ≠ b2 := (Nat.ne_of_lt (Nat.lt_of_lt_of_le xb.lt (Nat.le_of_eq g2.symm)))
    have f14 : Hel Z h10 tw tb tt := (((HT.ext E2).keep K5 nin0 nin0).keep K10 (ninS ne12 nin0) (ninS ne13 nin0))
    refine GoS.callS (cells' := 32) (slots' := 292) (pc' := 157) [(.ref b2)] [] (ww hw 76 rfl) (ww hw 77 rfl) (ww hw 2 rfl) (ww hw 78 rfl) (by decide) (c_exp0_n l Z a0 hw h10 b2 sb_10 ks_10 tt tw tb to ti sa_10 sb_10 wV kV w0 s0 t0 kt0 w1 s1 t1 kt1 w2 s2 t2 kt2 w3 s3 t3 kt3 cp hKS hcp hcw hch43 hch53 hch58 hch63 scp (((A2.keep K5).keep K10)) F10_1 F10_0 F10_2 f14 F10_4) pd_20 rfl rfl rfl rfl rfl (nl rfl) (nl rfl) (nl rfl) (nl rfl) at_154 rfl ?_
    rintro _ h15 LL16 ⟨rfl, K15⟩
    have K17 : Keep hs h15 [] := K11.trans K15 all0
    show GoS _ _ _ _ _ _ _ _ _ _ _ _ _ _ 157 #[.val (.int p0), .val (.int p1), .val (.int p2), .val (.int p3), .val (.int p4), .val (.int p5), .val (.int kk), .val (.ref tw), .val (.ref c), .val (.int (0 : Int32)), .val (.ref b2), .unset, .unset] [.null]
    refine GoS.astore (pc' := 159) (Ls' := #[.val (.int p0), .val (.int p1), .val (.int p2), .val (.int p3), .val (.int p4), .val (.int p5), .val (.int kk), .val (.ref tw), .val (.ref c), .val (.int (0 : Int32)), .val (.ref b2), .val .null, .unset]) at_157 rfl rfl rfl ?_
    refine GoS.aload (pc' := 161) at_159 rfl rfl rfl ?_
    refine GoS.callS (cells' := 33) (slots' := 296) (pc' := 164) [(.ref b2)] [] (ww hw 91 rfl) (ww hw 92 rfl) (ww hw 93 rfl) (ww hw 94 rfl) (by decide) (Con.cold (c_named0_n l Z a0 hw h15 b2 sb_10 ks_10 wV kV w0 s0 t0 kt0 w1 s1 t1 kt1 w2 s2 t2 kt2 w3 s3 t3 kt3 cp wo hKS hcp scp so xo fo ((((A2.keep K5).keep K10).keep K15)) (F10_1.keep K15 nin0) (F10_0.keep K15 nin0) (F10_2.keep K15 nin0))) pd_21 rfl rfl rfl rfl rfl (nl rfl) (nl rfl) (nl rfl) (nl rfl) at_161 rfl ?_
    rintro _ h18 _ ⟨⟨rfl, K18⟩, rfl⟩
    have K19 : Keep hs h18 [] := K17.trans K18 all0
    show GoS _ _ _ _ _ _ _ _ _ _ _ _ _ _ 164 #[.val (.int p0), .val (.int p1), .val (.int p2), .val (.int p3), .val (.int p4), .val (.int p5), .val (.int kk), .val (.ref tw), .val (.ref c), .val (.int (0 : Int32)), .val (.ref b2), .val .null, .unset] [(.ref wo)]
    refine GoS.astore (pc' := 166) (Ls' := #[.val (.int p0), .val (.int p1), .val (.int p2), .val (.int p3), .val (.int p4), .val (.int p5), .val (.int kk), .val (.ref tw), .val (.ref c), .val (.int (0 : Int32)), .val (.ref b2), .val .null, .val (.ref wo)]) at_164 rfl rfl rfl ?_
    refine GoS.aload (pc' := 168) at_166 rfl rfl rfl ?_
    refine GoS.nullNo (pc' := 171) at_168 rfl nofun rfl ?_
    refine GoS.aload (pc' := 173) at_171 rfl rfl rfl ?_
    refine GoS.aconstNull (pc' := 174) at_173 rfl ?_
    refine GoS.old (fun old20 => ?_)
    refine GoS.callV (cells' := 33) (slots' := 296) (pc' := 177) [.null] [] (xo.ext old20.2) (ww hw 122 rfl) (ww hw 123 rfl) (fun s' hs' => notFace_of_selects (args := #[]) (mvT hs' (ww hw 125 rfl))) (ww hw 125 rfl) (ww hw 124 rfl) (ww hw 119 rfl) (ww hw 126 rfl) (by decide) (Con.cold (c_orElse0 l Z a0 hw h18 wo (xo.ext old20.2) (fo.ext old20.2))) pd_12 rfl rfl rfl rfl rfl (nl rfl) (nl rfl) (nl rfl) (nl rfl) at_174 rfl ?_
    rintro _ _ _ ⟨⟨rfl, rfl⟩, rfl⟩
    show GoS _ _ _ _ _ _ _ _ _ _ _ _ _ _ 177 #[.val (.int p0), .val (.int p1), .val (.int p2), .val (.int p3), .val (.int p4), .val (.int p5), .val (.int kk), .val (.ref tw), .val (.ref c), .val (.int (0 : Int32)), .val (.ref b2), .val .null, .val (.ref wo)] [.null]
    refine GoS.aload (pc' := 179) at_177 rfl rfl rfl ?_
    refine GoS.acmpNo (pc' := 182) at_179 rfl rfl (XT.aa_ne_f rfl) rfl ?_
    refine GoS.iconst (pc' := 183) (v := (1 : Int32)) at_182 rfl rfl ?_
    refine GoS.goto (pc' := 187) at_183 (by decide) (by decide) ?_
    exact GoS.retN (t := .boolean) rfl (by simp) at_187 ⟨rfl, K19⟩ (by decide) (by decide)
  ·
    rw [hspl1]
    refine GoS.istore (pc' := 136) (Ls' := #[.val (.int p0), .val (.int p1), .val (.int p2), .val (.int p3), .val (.int p4), .val (.int p5), .val (.int kk), .val (.ref tw), .val (.ref c), .val (.int (1 : Int32)), .unset, .unset, .unset]) at_134 rfl rfl ?_
    refine GoS.new (pc' := 139) (cells' := 21) (slots' := 204) (ww hw 52 rfl) (ww hw 6 rfl) (ww hw 5 rfl) at_136 rfl rfl (by decide) (by decide) rfl ?_
    intro h22 b22 g22 E22 ge22 A22 D22
    have sz23 : hs.size ≤ b22 := Nat.le_trans Kp.1 (Nat.le_of_eq g22.symm)
    have K24 : Keep hs h22 [] := Kp.ext E22
    refine GoS.dup (pc' := 140) at_139 rfl rfl ?_
    refine GoS.aload (pc' := 142) at_140 rfl rfl rfl ?_
    refine GoS.iload (pc' := 144) at_142 rfl rfl ?_
    refine GoS.callS (cells' := 22) (slots' := 205) (pc' := 147) [(.ref c), (.int (1 : Int32))] [(.ref b22), (.ref b22)] (ww hw 53 rfl) (ww hw 54 rfl) (ww hw 2 rfl) (ww hw 55 rfl) (by decide) (Con.cold (c_take1 l Z a0 hw h22 c kc k0 k1 k2 k3 k4 k5 hn0 (vc.ext E22))) pd_18 rfl rfl rfl rfl rfl (nl rfl) (nl rfl) (nl rfl) (nl rfl) at_144 rfl ?_
    rintro _ h25 _ ⟨⟨d_25, kd_25, rfl, K25, ge_d_25, sz_d_25, F25_0⟩, rfl⟩
    have sz26 : hs.size ≤ d_25 := Nat.le_trans K24.1 sz_d_25
    have K27 : Keep hs h25 [] := K24.trans K25 all0
    show GoS _ _ _ _ _ _ _ _ _ _ _ _ _ _ 147 #[.val (.int p0), .val (.int p1), .val (.int p2), .val (.int p3), .val (.int p4), .val (.int p5), .val (.int kk), .val (.ref tw), .val (.ref c), .val (.int (1 : Int32)), .unset, .unset, .unset] [(.ref d_25), (.ref b22), (.ref b22)]
    have f28 : Fld Z h25 b22 "java/lang/String" "value" "[B" .null := ((D22 (Or.inr (ww hw 8 rfl)) (ty := (.array .byte)) (by decide) : Fld Z h22 b22 "java/lang/String" "value" "[B" .null).keep K25 nin0)
    have f29 : Fld Z h25 b22 "java/lang/String" "coder" "B" (.int (0 : Int32)) := ((D22 (Or.inr (ww hw 9 rfl)) (ty := .byte) (by decide) : Fld Z h22 b22 "java/lang/String" "coder" "B" (.int (0 : Int32))).keep K25 nin0)
    refine GoS.callC (cells' := 23) (slots' := 206) (pc' := 150) [(.ref d_25)] [(.ref b22)] (a := b22) rfl rfl (ww hw 56 rfl) (ww hw 57 rfl) (ww hw 5 rfl) (ww hw 58 rfl) (by decide) (Con.cold (c_strInit1 l Z a0 hw h25 b22 d_25 kd_25 k0 cp hk0 hcp scp ge22 (A22.keep K25) f28 f29 F25_0)) pd_19 rfl rfl rfl rfl rfl (nl rfl) (nl rfl) (nl rfl) (nl rfl) at_147 rfl ?_
    rintro _ h30 _ ⟨⟨b_30, kb_30, rfl, K30, ge_b_30, sz_b_30, F30_0, F30_1, F30_2⟩, rfl⟩
    have sz31 : hs.size ≤ b_30 := Nat.le_trans K27.1 sz_b_30
    have K32 : Keep hs h30 [] := K27.trans K30 (allS (Or.inr sz23) all0)
    show GoS _ _ _ _ _ _ _ _ _ _ _ _ _ _ 150 #[.val (.int p0), .val (.int p1), .val (.int p2), .val (.int p3), .val (.int p4), .val (.int p5), .val (.int kk), .val (.ref tw), .val (.ref c), .val (.int (1 : Int32)), .unset, .unset, .unset] [(.ref b22)]
    refine GoS.astore (pc' := 152) (Ls' := #[.val (.int p0), .val (.int p1), .val (.int p2), .val (.int p3), .val (.int p4), .val (.int p5), .val (.int kk), .val (.ref tw), .val (.ref c), .val (.int (1 : Int32)), .val (.ref b22), .unset, .unset]) at_150 rfl rfl rfl ?_
    refine GoS.aload (pc' := 154) at_152 rfl rfl rfl ?_
    have ne33 : tw ≠ b22 := (Nat.ne_of_lt (Nat.lt_of_lt_of_le xw.lt (Nat.le_of_eq g22.symm)))
    have ne34 : tb ≠ b22 := (Nat.ne_of_lt (Nat.lt_of_lt_of_le xb.lt (Nat.le_of_eq g22.symm)))
    have f35 : Hel Z h30 tw tb tt := (((HT.ext E22).keep K25 nin0 nin0).keep K30 (ninS ne33 nin0) (ninS ne34 nin0))
    refine GoS.callS (cells' := 31) (slots' := 290) (pc' := 157) [(.ref b22)] [] (ww hw 76 rfl) (ww hw 77 rfl) (ww hw 2 rfl) (ww hw 78 rfl) (by decide) (c_expz_n l Z a0 hw h30 b22 b_30 kb_30 (1 : Int32) ([(.int k0.toInt8.toInt32)]) tt tw tb to ti wV kV w0 s0 t0 kt0 w1 s1 t1 kt1 w2 s2 t2 kt2 w3 s3 t3 kt3 cp hKS hcp hcw hch43 hch53 hch58 hch63 (by decide) (by decide) (by decide) (by decide) (by decide) (by decide) (by decide) (by decide) scp (((A22.keep K25).keep K30)) F30_1 F30_0 F30_2 f35) pd_20 rfl rfl rfl rfl rfl (nl rfl) (nl rfl) (nl rfl) (nl rfl) at_154 rfl ?_
    rintro _ h36 LL37 ⟨rfl, K36⟩
    have K38 : Keep hs h36 [] := K32.trans K36 all0
    show GoS _ _ _ _ _ _ _ _ _ _ _ _ _ _ 157 #[.val (.int p0), .val (.int p1), .val (.int p2), .val (.int p3), .val (.int p4), .val (.int p5), .val (.int kk), .val (.ref tw), .val (.ref c), .val (.int (1 : Int32)), .val (.ref b22), .unset, .unset] [.null]
    refine GoS.astore (pc' := 159) (Ls' := #[.val (.int p0), .val (.int p1), .val (.int p2), .val (.int p3), .val (.int p4), .val (.int p5), .val (.int kk), .val (.ref tw), .val (.ref c), .val (.int (1 : Int32)), .val (.ref b22), .val .null, .unset]) at_157 rfl rfl rfl ?_
    refine GoS.aload (pc' := 161) at_159 rfl rfl rfl ?_
    refine GoS.callS (cells' := 32) (slots' := 294) (pc' := 164) [(.ref b22)] [] (ww hw 91 rfl) (ww hw 92 rfl) (ww hw 93 rfl) (ww hw 94 rfl) (by decide) (Con.cold (c_namedz_n l Z a0 hw h36 b22 b_30 kb_30 (1 : Int32) ([(.int k0.toInt8.toInt32)]) wV kV w0 s0 t0 kt0 w1 s1 t1 kt1 w2 s2 t2 kt2 w3 s3 t3 kt3 cp wo hKS hcp (by decide) (by decide) (by decide) (by decide) (by decide) (by decide) (by decide) (by decide) scp so xo fo ((((A22.keep K25).keep K30).keep K36)) (F30_1.keep K36 nin0) (F30_0.keep K36 nin0) (F30_2.keep K36 nin0))) pd_21 rfl rfl rfl rfl rfl (nl rfl) (nl rfl) (nl rfl) (nl rfl) at_161 rfl ?_
    rintro _ h39 _ ⟨⟨rfl, K39⟩, rfl⟩
    have K40 : Keep hs h39 [] := K38.trans K39 all0
    show GoS _ _ _ _ _ _ _ _ _ _ _ _ _ _ 164 #[.val (.int p0), .val (.int p1), .val (.int p2), .val (.int p3), .val (.int p4), .val (.int p5), .val (.int kk), .val (.ref tw), .val (.ref c), .val (.int (1 : Int32)), .val (.ref b22), .val .null, .unset] [(.ref wo)]
    refine GoS.astore (pc' := 166) (Ls' := #[.val (.int p0), .val (.int p1), .val (.int p2), .val (.int p3), .val (.int p4), .val (.int p5), .val (.int kk), .val (.ref tw), .val (.ref c), .val (.int (1 : Int32)), .val (.ref b22), .val .null, .val (.ref wo)]) at_164 rfl rfl rfl ?_
    refine GoS.aload (pc' := 168) at_166 rfl rfl rfl ?_
    refine GoS.nullNo (pc' := 171) at_168 rfl nofun rfl ?_
    refine GoS.aload (pc' := 173) at_171 rfl rfl rfl ?_
    refine GoS.aconstNull (pc' := 174) at_173 rfl ?_
    refine GoS.old (fun old41 => ?_)
    refine GoS.callV (cells' := 32) (slots' := 294) (pc' := 177) [.null] [] (xo.ext old41.2) (ww hw 122 rfl) (ww hw 123 rfl) (fun s' hs' => notFace_of_selects (args := #[]) (mvT hs' (ww hw 125 rfl))) (ww hw 125 rfl) (ww hw 124 rfl) (ww hw 119 rfl) (ww hw 126 rfl) (by decide) (Con.cold (c_orElse0 l Z a0 hw h39 wo (xo.ext old41.2) (fo.ext old41.2))) pd_12 rfl rfl rfl rfl rfl (nl rfl) (nl rfl) (nl rfl) (nl rfl) at_174 rfl ?_
    rintro _ _ _ ⟨⟨rfl, rfl⟩, rfl⟩
    show GoS _ _ _ _ _ _ _ _ _ _ _ _ _ _ 177 #[.val (.int p0), .val (.int p1), .val (.int p2), .val (.int p3), .val (.int p4), .val (.int p5), .val (.int kk), .val (.ref tw), .val (.ref c), .val (.int (1 : Int32)), .val (.ref b22), .val .null, .val (.ref wo)] [.null]
    refine GoS.aload (pc' := 179) at_177 rfl rfl rfl ?_
    refine GoS.acmpNo (pc' := 182) at_179 rfl rfl (XT.aa_ne_f rfl) rfl ?_
    refine GoS.iconst (pc' := 183) (v := (1 : Int32)) at_182 rfl rfl ?_
    refine GoS.goto (pc' := 187) at_183 (by decide) (by decide) ?_
    exact GoS.retN (t := .boolean) rfl (by simp) at_187 ⟨rfl, K40⟩ (by decide) (by decide)
  ·
    rw [hspl1]
    refine GoS.istore (pc' := 136) (Ls' := #[.val (.int p0), .val (.int p1), .val (.int p2), .val (.int p3), .val (.int p4), .val (.int p5), .val (.int kk), .val (.ref tw), .val (.ref c), .val (.int (2 : Int32)), .unset, .unset, .unset]) at_134 rfl rfl ?_
    refine GoS.new (pc' := 139) (cells' := 21) (slots' := 204) (ww hw 52 rfl) (ww hw 6 rfl) (ww hw 5 rfl) at_136 rfl rfl (by decide) (by decide) rfl ?_
    intro h43 b43 g43 E43 ge43 A43 D43
    have sz44 : hs.size ≤ b43 := Nat.le_trans Kp.1 (Nat.le_of_eq g43.symm)
    have K45 : Keep hs h43 [] := Kp.ext E43
    refine GoS.dup (pc' := 140) at_139 rfl rfl ?_
    refine GoS.aload (pc' := 142) at_140 rfl rfl rfl ?_
    refine GoS.iload (pc' := 144) at_142 rfl rfl ?_
    refine GoS.callS (cells' := 22) (slots' := 206) (pc' := 147) [(.ref c), (.int (2 : Int32))] [(.ref b43), (.ref b43)] (ww hw 53 rfl) (ww hw 54 rfl) (ww hw 2 rfl) (ww hw 55 rfl) (by decide) (Con.cold (c_take2 l Z a0 hw h43 c kc k0 k1 k2 k3 k4 k5 hn0 hn1 (vc.ext E43))) pd_18 rfl rfl rfl rfl rfl (nl rfl) (nl rfl) (nl rfl) (nl rfl) at_144 rfl ?_
    rintro _ h46 _ ⟨⟨d_46, kd_46, rfl, K46, ge_d_46, sz_d_46, F46_0⟩, rfl⟩
    have sz47 : hs.size ≤ d_46 := Nat.le_trans K45.1 sz_d_46
    have K48 : Keep hs h46 [] := K45.trans K46 all0
    show GoS _ _ _ _ _ _ _ _ _ _ _ _ _ _ 147 #[.val (.int p0), .val (.int p1), .val (.int p2), .val (.int p3), .val (.int p4), .val (.int p5), .val (.int kk), .val (.ref tw), .val (.ref c), .val (.int (2 : Int32)), .unset, .unset, .unset] [(.ref d_46), (.ref b43), (.ref b43)]
    have f49 : Fld Z h46 b43 "java/lang/String" "value" "[B" .null := ((D43 (Or.inr (ww hw 8 rfl)) (ty := (.array .byte)) (by decide) : Fld Z h43 b43 "java/lang/String" "value" "[B" .null).keep K46 nin0)
    have f50 : Fld Z h46 b43 "java/lang/String" "coder" "B" (.int (0 : Int32)) := ((D43 (Or.inr (ww hw 9 rfl)) (ty := .byte) (by decide) : Fld Z h43 b43 "java/lang/String" "coder" "B" (.int (0 : Int32))).keep K46 nin0)
    refine GoS.callC (cells' := 23) (slots' := 208) (pc' := 150) [(.ref d_46)] [(.ref b43)] (a := b43) rfl rfl (ww hw 56 rfl) (ww hw 57 rfl) (ww hw 5 rfl) (ww hw 58 rfl) (by decide) (Con.cold (c_strInit2 l Z a0 hw h46 b43 d_46 kd_46 k0 k1 cp hk0 hk1 hcp scp ge43 (A43.keep K46) f49 f50 F46_0)) pd_19 rfl rfl rfl rfl rfl (nl rfl) (nl rfl) (nl rfl) (nl rfl) at_147 rfl ?_
    rintro _ h51 _ ⟨⟨b_51, kb_51, rfl, K51, ge_b_51, sz_b_51, F51_0, F51_1, F51_2⟩, rfl⟩
    have sz52 : hs.size ≤ b_51 := Nat.le_trans K48.1 sz_b_51
    have K53 : Keep hs h51 [] := K48.trans K51 (allS (Or.inr sz44) all0)
    show GoS _ _ _ _ _ _ _ _ _ _ _ _ _ _ 150 #[.val (.int p0), .val (.int p1), .val (.int p2), .val (.int p3), .val (.int p4), .val (.int p5), .val (.int kk), .val (.ref tw), .val (.ref c), .val (.int (2 : Int32)), .unset, .unset, .unset] [(.ref b43)]
    refine GoS.astore (pc' := 152) (Ls' := #[.val (.int p0), .val (.int p1), .val (.int p2), .val (.int p3), .val (.int p4), .val (.int p5), .val (.int kk), .val (.ref tw), .val (.ref c), .val (.int (2 : Int32)), .val (.ref b43), .unset, .unset]) at_150 rfl rfl rfl ?_
    refine GoS.aload (pc' := 154) at_152 rfl rfl rfl ?_
    have ne54 : tw ≠ b43 := (Nat.ne_of_lt (Nat.lt_of_lt_of_le xw.lt (Nat.le_of_eq g43.symm)))
    have ne55 : tb ≠ b43 := (Nat.ne_of_lt (Nat.lt_of_lt_of_le xb.lt (Nat.le_of_eq g43.symm)))
    have f56 : Hel Z h51 tw tb tt := (((HT.ext E43).keep K46 nin0 nin0).keep K51 (ninS ne54 nin0) (ninS ne55 nin0))
    refine GoS.callS (cells' := 31) (slots' := 292) (pc' := 157) [(.ref b43)] [] (ww hw 76 rfl) (ww hw 77 rfl) (ww hw 2 rfl) (ww hw 78 rfl) (by decide) (c_expz_n l Z a0 hw h51 b43 b_51 kb_51 (2 : Int32) ([(.int k0.toInt8.toInt32), (.int k1.toInt8.toInt32)]) tt tw tb to ti wV kV w0 s0 t0 kt0 w1 s1 t1 kt1 w2 s2 t2 kt2 w3 s3 t3 kt3 cp hKS hcp hcw hch43 hch53 hch58 hch63 (by decide) (by decide) (by decide) (by decide) (by decide) (by decide) (by decide) (by decide) scp (((A43.keep K46).keep K51)) F51_1 F51_0 F51_2 f56) pd_20 rfl rfl rfl rfl rfl (nl rfl) (nl rfl) (nl rfl) (nl rfl) at_154 rfl ?_
    rintro _ h57 LL58 ⟨rfl, K57⟩
    have K59 : Keep hs h57 [] := K53.trans K57 all0
    show GoS _ _ _ _ _ _ _ _ _ _ _ _ _ _ 157 #[.val (.int p0), .val (.int p1), .val (.int p2), .val (.int p3), .val (.int p4), .val (.int p5), .val (.int kk), .val (.ref tw), .val (.ref c), .val (.int (2 : Int32)), .val (.ref b43), .unset, .unset] [.null]
    refine GoS.astore (pc' := 159) (Ls' := #[.val (.int p0), .val (.int p1), .val (.int p2), .val (.int p3), .val (.int p4), .val (.int p5), .val (.int kk), .val (.ref tw), .val (.ref c), .val (.int (2 : Int32)), .val (.ref b43), .val .null, .unset]) at_157 rfl rfl rfl ?_
    refine GoS.aload (pc' := 161) at_159 rfl rfl rfl ?_
    refine GoS.callS (cells' := 32) (slots' := 296) (pc' := 164) [(.ref b43)] [] (ww hw 91 rfl) (ww hw 92 rfl) (ww hw 93 rfl) (ww hw 94 rfl) (by decide) (Con.cold (c_namedz_n l Z a0 hw h57 b43 b_51 kb_51 (2 : Int32) ([(.int k0.toInt8.toInt32), (.int k1.toInt8.toInt32)]) wV kV w0 s0 t0 kt0 w1 s1 t1 kt1 w2 s2 t2 kt2 w3 s3 t3 kt3 cp wo hKS hcp (by decide) (by decide) (by decide) (by decide) (by decide) (by decide) (by decide) (by decide) scp so xo fo ((((A43.keep K46).keep K51).keep K57)) (F51_1.keep K57 nin0) (F51_0.keep K57 nin0) (F51_2.keep K57 nin0))) pd_21 rfl rfl rfl rfl rfl (nl rfl) (nl rfl) (nl rfl) (nl rfl) at_161 rfl ?_
    rintro _ h60 _ ⟨⟨rfl, K60⟩, rfl⟩
    have K61 : Keep hs h60 [] := K59.trans K60 all0
    show GoS _ _ _ _ _ _ _ _ _ _ _ _ _ _ 164 #[.val (.int p0), .val (.int p1), .val (.int p2), .val (.int p3), .val (.int p4), .val (.int p5), .val (.int kk), .val (.ref tw), .val (.ref c), .val (.int (2 : Int32)), .val (.ref b43), .val .null, .unset] [(.ref wo)]
    refine GoS.astore (pc' := 166) (Ls' := #[.val (.int p0), .val (.int p1), .val (.int p2), .val (.int p3), .val (.int p4), .val (.int p5), .val (.int kk), .val (.ref tw), .val (.ref c), .val (.int (2 : Int32)), .val (.ref b43), .val .null, .val (.ref wo)]) at_164 rfl rfl rfl ?_
    refine GoS.aload (pc' := 168) at_166 rfl rfl rfl ?_
    refine GoS.nullNo (pc' := 171) at_168 rfl nofun rfl ?_
    refine GoS.aload (pc' := 173) at_171 rfl rfl rfl ?_
    refine GoS.aconstNull (pc' := 174) at_173 rfl ?_
    refine GoS.old (fun old62 => ?_)
    refine GoS.callV (cells' := 32) (slots' := 296) (pc' := 177) [.null] [] (xo.ext old62.2) (ww hw 122 rfl) (ww hw 123 rfl) (fun s' hs' => notFace_of_selects (args := #[]) (mvT hs' (ww hw 125 rfl))) (ww hw 125 rfl) (ww hw 124 rfl) (ww hw 119 rfl) (ww hw 126 rfl) (by decide) (Con.cold (c_orElse0 l Z a0 hw h60 wo (xo.ext old62.2) (fo.ext old62.2))) pd_12 rfl rfl rfl rfl rfl (nl rfl) (nl rfl) (nl rfl) (nl rfl) at_174 rfl ?_
    rintro _ _ _ ⟨⟨rfl, rfl⟩, rfl⟩
    show GoS _ _ _ _ _ _ _ _ _ _ _ _ _ _ 177 #[.val (.int p0), .val (.int p1), .val (.int p2), .val (.int p3), .val (.int p4), .val (.int p5), .val (.int kk), .val (.ref tw), .val (.ref c), .val (.int (2 : Int32)), .val (.ref b43), .val .null, .val (.ref wo)] [.null]
    refine GoS.aload (pc' := 179) at_177 rfl rfl rfl ?_
    refine GoS.acmpNo (pc' := 182) at_179 rfl rfl (XT.aa_ne_f rfl) rfl ?_
    refine GoS.iconst (pc' := 183) (v := (1 : Int32)) at_182 rfl rfl ?_
    refine GoS.goto (pc' := 187) at_183 (by decide) (by decide) ?_
    exact GoS.retN (t := .boolean) rfl (by simp) at_187 ⟨rfl, K61⟩ (by decide) (by decide)
  ·
    rw [hspl1]
    refine GoS.istore (pc' := 136) (Ls' := #[.val (.int p0), .val (.int p1), .val (.int p2), .val (.int p3), .val (.int p4), .val (.int p5), .val (.int kk), .val (.ref tw), .val (.ref c), .val (.int (3 : Int32)), .unset, .unset, .unset]) at_134 rfl rfl ?_
    refine GoS.new (pc' := 139) (cells' := 21) (slots' := 204) (ww hw 52 rfl) (ww hw 6 rfl) (ww hw 5 rfl) at_136 rfl rfl (by decide) (by decide) rfl ?_
    intro h64 b64 g64 E64 ge64 A64 D64
    have sz65 : hs.size ≤ b64 := Nat.le_trans Kp.1 (Nat.le_of_eq g64.symm)
    have K66 : Keep hs h64 [] := Kp.ext E64
    refine GoS.dup (pc' := 140) at_139 rfl rfl ?_
    refine GoS.aload (pc' := 142) at_140 rfl rfl rfl ?_
    refine GoS.iload (pc' := 144) at_142 rfl rfl ?_
    refine GoS.callS (cells' := 22) (slots' := 207) (pc' := 147) [(.ref c), (.int (3 : Int32))] [(.ref b64), (.ref b64)] (ww hw 53 rfl) (ww hw 54 rfl) (ww hw 2 rfl) (ww hw 55 rfl) (by decide) (Con.cold (c_take3 l Z a0 hw h64 c kc k0 k1 k2 k3 k4 k5 hn0 hn1 hn2 (vc.ext E64))) pd_18 rfl rfl rfl rfl rfl (nl rfl) (nl rfl) (nl rfl) (nl rfl) at_144 rfl ?_
    rintro _ h67 _ ⟨⟨d_67, kd_67, rfl, K67, ge_d_67, sz_d_67, F67_0⟩, rfl⟩
    have sz68 : hs.size ≤ d_67 := Nat.le_trans K66.1 sz_d_67
    have K69 : Keep hs h67 [] := K66.trans K67 all0
    show GoS _ _ _ _ _ _ _ _ _ _ _ _ _ _ 147 #[.val (.int p0), .val (.int p1), .val (.int p2), .val (.int p3), .val (.int p4), .val (.int p5), .val (.int kk), .val (.ref tw), .val (.ref c), .val (.int (3 : Int32)), .unset, .unset, .unset] [(.ref d_67), (.ref b64), (.ref b64)]
    have f70 : Fld Z h67 b64 "java/lang/String" "value" "[B" .null := ((D64 (Or.inr (ww hw 8 rfl)) (ty := (.array .byte)) (by decide) : Fld Z h64 b64 "java/lang/String" "value" "[B" .null).keep K67 nin0)
    have f71 : Fld Z h67 b64 "java/lang/String" "coder" "B" (.int (0 : Int32)) := ((D64 (Or.inr (ww hw 9 rfl)) (ty := .byte) (by decide) : Fld Z h64 b64 "java/lang/String" "coder" "B" (.int (0 : Int32))).keep K67 nin0)
    refine GoS.callC (cells' := 23) (slots' := 210) (pc' := 150) [(.ref d_67)] [(.ref b64)] (a := b64) rfl rfl (ww hw 56 rfl) (ww hw 57 rfl) (ww hw 5 rfl) (ww hw 58 rfl) (by decide) (Con.cold (c_strInit3 l Z a0 hw h67 b64 d_67 kd_67 k0 k1 k2 cp hk0 hk1 hk2 hcp scp ge64 (A64.keep K67) f70 f71 F67_0)) pd_19 rfl rfl rfl rfl rfl (nl rfl) (nl rfl) (nl rfl) (nl rfl) at_147 rfl ?_
    rintro _ h72 _ ⟨⟨b_72, kb_72, rfl, K72, ge_b_72, sz_b_72, F72_0, F72_1, F72_2⟩, rfl⟩
    have sz73 : hs.size ≤ b_72 := Nat.le_trans K69.1 sz_b_72
    have K74 : Keep hs h72 [] := K69.trans K72 (allS (Or.inr sz65) all0)
    show GoS _ _ _ _ _ _ _ _ _ _ _ _ _ _ 150 #[.val (.int p0), .val (.int p1), .val (.int p2), .val (.int p3), .val (.int p4), .val (.int p5), .val (.int kk), .val (.ref tw), .val (.ref c), .val (.int (3 : Int32)), .unset, .unset, .unset] [(.ref b64)]
    refine GoS.astore (pc' := 152) (Ls' := #[.val (.int p0), .val (.int p1), .val (.int p2), .val (.int p3), .val (.int p4), .val (.int p5), .val (.int kk), .val (.ref tw), .val (.ref c), .val (.int (3 : Int32)), .val (.ref b64), .unset, .unset]) at_150 rfl rfl rfl ?_
    refine GoS.aload (pc' := 154) at_152 rfl rfl rfl ?_
    have ne75 : tw ≠ b64 := (Nat.ne_of_lt (Nat.lt_of_lt_of_le xw.lt (Nat.le_of_eq g64.symm)))
    have ne76 : tb ≠ b64 := (Nat.ne_of_lt (Nat.lt_of_lt_of_le xb.lt (Nat.le_of_eq g64.symm)))
    have f77 : Hel Z h72 tw tb tt := (((HT.ext E64).keep K67 nin0 nin0).keep K72 (ninS ne75 nin0) (ninS ne76 nin0))
    refine GoS.callS (cells' := 31) (slots' := 294) (pc' := 157) [(.ref b64)] [] (ww hw 76 rfl) (ww hw 77 rfl) (ww hw 2 rfl) (ww hw 78 rfl) (by decide) (c_expz_n l Z a0 hw h72 b64 b_72 kb_72 (3 : Int32) ([(.int k0.toInt8.toInt32), (.int k1.toInt8.toInt32), (.int k2.toInt8.toInt32)]) tt tw tb to ti wV kV w0 s0 t0 kt0 w1 s1 t1 kt1 w2 s2 t2 kt2 w3 s3 t3 kt3 cp hKS hcp hcw hch43 hch53 hch58 hch63 (by decide) (by decide) (by decide) (by decide) (by decide) (by decide) (by decide) (by decide) scp (((A64.keep K67).keep K72)) F72_1 F72_0 F72_2 f77) pd_20 rfl rfl rfl rfl rfl (nl rfl) (nl rfl) (nl rfl) (nl rfl) at_154 rfl ?_
    rintro _ h78 LL79 ⟨rfl, K78⟩
    have K80 : Keep hs h78 [] := K74.trans K78 all0
    show GoS _ _ _ _ _ _ _ _ _ _ _ _ _ _ 157 #[.val (.int p0), .val (.int p1), .val (.int p2), .val (.int p3), .val (.int p4), .val (.int p5), .val (.int kk), .val (.ref tw), .val (.ref c), .val (.int (3 : Int32)), .val (.ref b64), .unset, .unset] [.null]
    refine GoS.astore (pc' := 159) (Ls' := #[.val (.int p0), .val (.int p1), .val (.int p2), .val (.int p3), .val (.int p4), .val (.int p5), .val (.int kk), .val (.ref tw), .val (.ref c), .val (.int (3 : Int32)), .val (.ref b64), .val .null, .unset]) at_157 rfl rfl rfl ?_
    refine GoS.aload (pc' := 161) at_159 rfl rfl rfl ?_
    refine GoS.callS (cells' := 32) (slots' := 298) (pc' := 164) [(.ref b64)] [] (ww hw 91 rfl) (ww hw 92 rfl) (ww hw 93 rfl) (ww hw 94 rfl) (by decide) (Con.cold (c_namedz_n l Z a0 hw h78 b64 b_72 kb_72 (3 : Int32) ([(.int k0.toInt8.toInt32), (.int k1.toInt8.toInt32), (.int k2.toInt8.toInt32)]) wV kV w0 s0 t0 kt0 w1 s1 t1 kt1 w2 s2 t2 kt2 w3 s3 t3 kt3 cp wo hKS hcp (by decide) (by decide) (by decide) (by decide) (by decide) (by decide) (by decide) (by decide) scp so xo fo ((((A64.keep K67).keep K72).keep K78)) (F72_1.keep K78 nin0) (F72_0.keep K78 nin0) (F72_2.keep K78 nin0))) pd_21 rfl rfl rfl rfl rfl (nl rfl) (nl rfl) (nl rfl) (nl rfl) at_161 rfl ?_
    rintro _ h81 _ ⟨⟨rfl, K81⟩, rfl⟩
    have K82 : Keep hs h81 [] := K80.trans K81 all0
    show GoS _ _ _ _ _ _ _ _ _ _ _ _ _ _ 164 #[.val (.int p0), .val (.int p1), .val (.int p2), .val (.int p3), .val (.int p4), .val (.int p5), .val (.int kk), .val (.ref tw), .val (.ref c), .val (.int (3 : Int32)), .val (.ref b64), .val .null, .unset] [(.ref wo)]
    refine GoS.astore (pc' := 166) (Ls' := #[.val (.int p0), .val (.int p1), .val (.int p2), .val (.int p3), .val (.int p4), .val (.int p5), .val (.int kk), .val (.ref tw), .val (.ref c), .val (.int (3 : Int32)), .val (.ref b64), .val .null, .val (.ref wo)]) at_164 rfl rfl rfl ?_
    refine GoS.aload (pc' := 168) at_166 rfl rfl rfl ?_
    refine GoS.nullNo (pc' := 171) at_168 rfl nofun rfl ?_
    refine GoS.aload (pc' := 173) at_171 rfl rfl rfl ?_
    refine GoS.aconstNull (pc' := 174) at_173 rfl ?_
    refine GoS.old (fun old83 => ?_)
    refine GoS.callV (cells' := 32) (slots' := 298) (pc' := 177) [.null] [] (xo.ext old83.2) (ww hw 122 rfl) (ww hw 123 rfl) (fun s' hs' => notFace_of_selects (args := #[]) (mvT hs' (ww hw 125 rfl))) (ww hw 125 rfl) (ww hw 124 rfl) (ww hw 119 rfl) (ww hw 126 rfl) (by decide) (Con.cold (c_orElse0 l Z a0 hw h81 wo (xo.ext old83.2) (fo.ext old83.2))) pd_12 rfl rfl rfl rfl rfl (nl rfl) (nl rfl) (nl rfl) (nl rfl) at_174 rfl ?_
    rintro _ _ _ ⟨⟨rfl, rfl⟩, rfl⟩
    show GoS _ _ _ _ _ _ _ _ _ _ _ _ _ _ 177 #[.val (.int p0), .val (.int p1), .val (.int p2), .val (.int p3), .val (.int p4), .val (.int p5), .val (.int kk), .val (.ref tw), .val (.ref c), .val (.int (3 : Int32)), .val (.ref b64), .val .null, .val (.ref wo)] [.null]
    refine GoS.aload (pc' := 179) at_177 rfl rfl rfl ?_
    refine GoS.acmpNo (pc' := 182) at_179 rfl rfl (XT.aa_ne_f rfl) rfl ?_
    refine GoS.iconst (pc' := 183) (v := (1 : Int32)) at_182 rfl rfl ?_
    refine GoS.goto (pc' := 187) at_183 (by decide) (by decide) ?_
    exact GoS.retN (t := .boolean) rfl (by simp) at_187 ⟨rfl, K82⟩ (by decide) (by decide)
  ·
    rw [hspl1]
    refine GoS.istore (pc' := 136) (Ls' := #[.val (.int p0), .val (.int p1), .val (.int p2), .val (.int p3), .val (.int p4), .val (.int p5), .val (.int kk), .val (.ref tw), .val (.ref c), .val (.int (4 : Int32)), .unset, .unset, .unset]) at_134 rfl rfl ?_
    refine GoS.new (pc' := 139) (cells' := 21) (slots' := 204) (ww hw 52 rfl) (ww hw 6 rfl) (ww hw 5 rfl) at_136 rfl rfl (by decide) (by decide) rfl ?_
    intro h85 b85 g85 E85 ge85 A85 D85
    have sz86 : hs.size ≤ b85 := Nat.le_trans Kp.1 (Nat.le_of_eq g85.symm)
    have K87 : Keep hs h85 [] := Kp.ext E85
    refine GoS.dup (pc' := 140) at_139 rfl rfl ?_
    refine GoS.aload (pc' := 142) at_140 rfl rfl rfl ?_
    refine GoS.iload (pc' := 144) at_142 rfl rfl ?_
    refine GoS.callS (cells' := 22) (slots' := 208) (pc' := 147) [(.ref c), (.int (4 : Int32))] [(.ref b85), (.ref b85)] (ww hw 53 rfl) (ww hw 54 rfl) (ww hw 2 rfl) (ww hw 55 rfl) (by decide) (Con.cold (c_take4 l Z a0 hw h85 c kc k0 k1 k2 k3 k4 k5 hn0 hn1 hn2 hn3 (vc.ext E85))) pd_18 rfl rfl rfl rfl rfl (nl rfl) (nl rfl) (nl rfl) (nl rfl) at_144 rfl ?_
    rintro _ h88 _ ⟨⟨d_88, kd_88, rfl, K88, ge_d_88, sz_d_88, F88_0⟩, rfl⟩
    have sz89 : hs.size ≤ d_88 := Nat.le_trans K87.1 sz_d_88
    have K90 : Keep hs h88 [] := K87.trans K88 all0
    show GoS _ _ _ _ _ _ _ _ _ _ _ _ _ _ 147 #[.val (.int p0), .val (.int p1), .val (.int p2), .val (.int p3), .val (.int p4), .val (.int p5), .val (.int kk), .val (.ref tw), .val (.ref c), .val (.int (4 : Int32)), .unset, .unset, .unset] [(.ref d_88), (.ref b85), (.ref b85)]
    have f91 : Fld Z h88 b85 "java/lang/String" "value" "[B" .null := ((D85 (Or.inr (ww hw 8 rfl)) (ty := (.array .byte)) (by decide) : Fld Z h85 b85 "java/lang/String" "value" "[B" .null).keep K88 nin0)
    have f92 : Fld Z h88 b85 "java/lang/String" "coder" "B" (.int (0 : Int32)) := ((D85 (Or.inr (ww hw 9 rfl)) (ty := .byte) (by decide) : Fld Z h85 b85 "java/lang/String" "coder" "B" (.int (0 : Int32))).keep K88 nin0)
    refine GoS.callC (cells' := 23) (slots' := 212) (pc' := 150) [(.ref d_88)] [(.ref b85)] (a := b85) rfl rfl (ww hw 56 rfl) (ww hw 57 rfl) (ww hw 5 rfl) (ww hw 58 rfl) (by decide) (Con.cold (c_strInit4 l Z a0 hw h88 b85 d_88 kd_88 k0 k1 k2 k3 cp hk0 hk1 hk2 hk3 hcp scp ge85 (A85.keep K88) f91 f92 F88_0)) pd_19 rfl rfl rfl rfl rfl (nl rfl) (nl rfl) (nl rfl) (nl rfl) at_147 rfl ?_
    rintro _ h93 _ ⟨⟨b_93, kb_93, rfl, K93, ge_b_93, sz_b_93, F93_0, F93_1, F93_2⟩, rfl⟩
    have sz94 : hs.size ≤ b_93 := Nat.le_trans K90.1 sz_b_93
    have K95 : Keep hs h93 [] := K90.trans K93 (allS (Or.inr sz86) all0)
    show GoS _ _ _ _ _ _ _ _ _ _ _ _ _ _ 150 #[.val (.int p0), .val (.int p1), .val (.int p2), .val (.int p3), .val (.int p4), .val (.int p5), .val (.int kk), .val (.ref tw), .val (.ref c), .val (.int (4 : Int32)), .unset, .unset, .unset] [(.ref b85)]
    refine GoS.astore (pc' := 152) (Ls' := #[.val (.int p0), .val (.int p1), .val (.int p2), .val (.int p3), .val (.int p4), .val (.int p5), .val (.int kk), .val (.ref tw), .val (.ref c), .val (.int (4 : Int32)), .val (.ref b85), .unset, .unset]) at_150 rfl rfl rfl ?_
    refine GoS.aload (pc' := 154) at_152 rfl rfl rfl ?_
    by_cases he96 : (if k0.toInt8.toInt32 = (108 : Int32) ∧ k1.toInt8.toInt32 = (100 : Int32) ∧ k2.toInt8.toInt32 = (97 : Int32) ∧ k3.toInt8.toInt32 = (112 : Int32) then (1 : Int32) else 0) = (0 : Int32)
    ·
      by_cases he97 : (if k0.toInt8.toInt32 = (111 : Int32) ∧ k1.toInt8.toInt32 = (105 : Int32) ∧ k2.toInt8.toInt32 = (100 : Int32) ∧ k3.toInt8.toInt32 = (99 : Int32) then (1 : Int32) else 0) = (0 : Int32)
      ·
        by_cases he98 : (if k0.toInt8.toInt32 = (115 : Int32) ∧ k1.toInt8.toInt32 = (97 : Int32) ∧ k2.toInt8.toInt32 = (109 : Int32) ∧ k3.toInt8.toInt32 = (108 : Int32) then (1 : Int32) else 0) = (0 : Int32)
        ·
          have ne99 : tw ≠ b85 := (Nat.ne_of_lt (Nat.lt_of_lt_of_le xw.lt (Nat.le_of_eq g85.symm)))
          have ne100 : tb ≠ b85 := (Nat.ne_of_lt (Nat.lt_of_lt_of_le xb.lt (Nat.le_of_eq g85.symm)))
          have f101 : Hel Z h93 tw tb tt := (((HT.ext E85).keep K88 nin0 nin0).keep K93 (ninS ne99 nin0) (ninS ne100 nin0))
          refine GoS.callS (cells' := 31) (slots' := 296) (pc' := 157) [(.ref b85)] [] (ww hw 76 rfl) (ww hw 77 rfl) (ww hw 2 rfl) (ww hw 78 rfl) (by decide) (c_exp4_n l Z a0 hw h93 b85 b_93 kb_93 k0 k1 k2 k3 tt tw tb to ti wV kV w0 s0 t0 kt0 w1 s1 t1 kt1 w2 s2 t2 kt2 w3 s3 t3 kt3 cp hKS hcp hcw hch43 hch53 hch58 hch63 he96 he97 he98 scp (((A85.keep K88).keep K93)) F93_1 F93_0 F93_2 f101) pd_20 rfl rfl rfl rfl rfl (nl rfl) (nl rfl) (nl rfl) (nl rfl) at_154 rfl ?_
          rintro _ h102 LL103 ⟨rfl, K102⟩
          have K104 : Keep hs h102 [] := K95.trans K102 all0
          show GoS _ _ _ _ _ _ _ _ _ _ _ _ _ _ 157 #[.val (.int p0), .val (.int p1), .val (.int p2), .val (.int p3), .val (.int p4), .val (.int p5), .val (.int kk), .val (.ref tw), .val (.ref c), .val (.int (4 : Int32)), .val (.ref b85), .unset, .unset] [.null]
          refine GoS.astore (pc' := 159) (Ls' := #[.val (.int p0), .val (.int p1), .val (.int p2), .val (.int p3), .val (.int p4), .val (.int p5), .val (.int kk), .val (.ref tw), .val (.ref c), .val (.int (4 : Int32)), .val (.ref b85), .val .null, .unset]) at_157 rfl rfl rfl ?_
          refine GoS.aload (pc' := 161) at_159 rfl rfl rfl ?_
          refine GoS.callS (cells' := 32) (slots' := 300) (pc' := 164) [(.ref b85)] [] (ww hw 91 rfl) (ww hw 92 rfl) (ww hw 93 rfl) (ww hw 94 rfl) (by decide) (Con.cold (c_named4_n l Z a0 hw h102 b85 b_93 kb_93 k0 k1 k2 k3 wV kV w0 s0 t0 kt0 w1 s1 t1 kt1 w2 s2 t2 kt2 w3 s3 t3 kt3 cp wo hKS hcp he96 he97 he98 scp so xo fo ((((A85.keep K88).keep K93).keep K102)) (F93_1.keep K102 nin0) (F93_0.keep K102 nin0) (F93_2.keep K102 nin0))) pd_21 rfl rfl rfl rfl rfl (nl rfl) (nl rfl) (nl rfl) (nl rfl) at_161 rfl ?_
          rintro _ h105 _ ⟨⟨rfl, K105⟩, rfl⟩
          have K106 : Keep hs h105 [] := K104.trans K105 all0
          show GoS _ _ _ _ _ _ _ _ _ _ _ _ _ _ 164 #[.val (.int p0), .val (.int p1), .val (.int p2), .val (.int p3), .val (.int p4), .val (.int p5), .val (.int kk), .val (.ref tw), .val (.ref c), .val (.int (4 : Int32)), .val (.ref b85), .val .null, .unset] [(.ref wo)]
          refine GoS.astore (pc' := 166) (Ls' := #[.val (.int p0), .val (.int p1), .val (.int p2), .val (.int p3), .val (.int p4), .val (.int p5), .val (.int kk), .val (.ref tw), .val (.ref c), .val (.int (4 : Int32)), .val (.ref b85), .val .null, .val (.ref wo)]) at_164 rfl rfl rfl ?_
          refine GoS.aload (pc' := 168) at_166 rfl rfl rfl ?_
          refine GoS.nullNo (pc' := 171) at_168 rfl nofun rfl ?_
          refine GoS.aload (pc' := 173) at_171 rfl rfl rfl ?_
          refine GoS.aconstNull (pc' := 174) at_173 rfl ?_
          refine GoS.old (fun old107 => ?_)
          refine GoS.callV (cells' := 32) (slots' := 300) (pc' := 177) [.null] [] (xo.ext old107.2) (ww hw 122 rfl) (ww hw 123 rfl) (fun s' hs' => notFace_of_selects (args := #[]) (mvT hs' (ww hw 125 rfl))) (ww hw 125 rfl) (ww hw 124 rfl) (ww hw 119 rfl) (ww hw 126 rfl) (by decide) (Con.cold (c_orElse0 l Z a0 hw h105 wo (xo.ext old107.2) (fo.ext old107.2))) pd_12 rfl rfl rfl rfl rfl (nl rfl) (nl rfl) (nl rfl) (nl rfl) at_174 rfl ?_
          rintro _ _ _ ⟨⟨rfl, rfl⟩, rfl⟩
          show GoS _ _ _ _ _ _ _ _ _ _ _ _ _ _ 177 #[.val (.int p0), .val (.int p1), .val (.int p2), .val (.int p3), .val (.int p4), .val (.int p5), .val (.int kk), .val (.ref tw), .val (.ref c), .val (.int (4 : Int32)), .val (.ref b85), .val .null, .val (.ref wo)] [.null]
          refine GoS.aload (pc' := 179) at_177 rfl rfl rfl ?_
          refine GoS.acmpNo (pc' := 182) at_179 rfl rfl (XT.aa_ne_f rfl) rfl ?_
          refine GoS.iconst (pc' := 183) (v := (1 : Int32)) at_182 rfl rfl ?_
          refine GoS.goto (pc' := 187) at_183 (by decide) (by decide) ?_
          exact GoS.retN (t := .boolean) rfl (by simp) at_187 ⟨rfl, K106⟩ (by decide) (by decide)
        ·
          have ne109 : tw ≠ b85 := (Nat.ne_of_lt (Nat.lt_of_lt_of_le xw.lt (Nat.le_of_eq g85.symm)))
          have ne110 : tb ≠ b85 := (Nat.ne_of_lt (Nat.lt_of_lt_of_le xb.lt (Nat.le_of_eq g85.symm)))
          have f111 : Hel Z h93 tw tb tt := (((HT.ext E85).keep K88 nin0 nin0).keep K93 (ninS ne109 nin0) (ninS ne110 nin0))
          refine GoS.callS (cells' := 31) (slots' := 296) (pc' := 157) [(.ref b85)] [] (ww hw 76 rfl) (ww hw 77 rfl) (ww hw 2 rfl) (ww hw 78 rfl) (by decide) (c_exp4_3 l Z a0 hw h93 b85 b_93 kb_93 k0 k1 k2 k3 tt tw tb to ti wV kV w0 s0 t0 kt0 w1 s1 t1 kt1 w2 s2 t2 kt2 w3 s3 t3 kt3 cp hKS hcp hcw hch43 hch53 hch58 hch63 he96 he97 he98 scp (((A85.keep K88).keep K93)) F93_1 F93_0 F93_2 f111) pd_20 rfl rfl rfl rfl rfl (nl rfl) (nl rfl) (nl rfl) (nl rfl) at_154 rfl ?_
          rintro _ h112 LL113 ⟨rfl, K112⟩
          have K114 : Keep hs h112 [] := K95.trans K112 all0
          show GoS _ _ _ _ _ _ _ _ _ _ _ _ _ _ 157 #[.val (.int p0), .val (.int p1), .val (.int p2), .val (.int p3), .val (.int p4), .val (.int p5), .val (.int kk), .val (.ref tw), .val (.ref c), .val (.int (4 : Int32)), .val (.ref b85), .unset, .unset] [(.ref w3)]
          refine GoS.astore (pc' := 159) (Ls' := #[.val (.int p0), .val (.int p1), .val (.int p2), .val (.int p3), .val (.int p4), .val (.int p5), .val (.int kk), .val (.ref tw), .val (.ref c), .val (.int (4 : Int32)), .val (.ref b85), .val (.ref w3), .unset]) at_157 rfl rfl rfl ?_
          refine GoS.aload (pc' := 161) at_159 rfl rfl rfl ?_
          refine GoS.callS (cells' := 33) (slots' := 301) (pc' := 164) [(.ref b85)] [] (ww hw 91 rfl) (ww hw 92 rfl) (ww hw 93 rfl) (ww hw 94 rfl) (by decide) (Con.cold (c_named4_3 l Z a0 hw h112 b85 b_93 kb_93 k0 k1 k2 k3 wV kV w0 s0 t0 kt0 w1 s1 t1 kt1 w2 s2 t2 kt2 w3 s3 t3 kt3 cp wo hKS hcp he96 he97 he98 scp so xo fo ((((A85.keep K88).keep K93).keep K112)) (F93_1.keep K112 nin0) (F93_0.keep K112 nin0) (F93_2.keep K112 nin0))) pd_21 rfl rfl rfl rfl rfl (nl rfl) (nl rfl) (nl rfl) (nl rfl) at_161 rfl ?_
          rintro _ h115 _ ⟨⟨r_115, rfl, K115, ge_r_115, sz_r_115, F115_0, F115_1⟩, rfl⟩
          have sz116 : hs.size ≤ r_115 := Nat.le_trans K114.1 sz_r_115
          have K117 : Keep hs h115 [] := K114.trans K115 all0
          show GoS _ _ _ _ _ _ _ _ _ _ _ _ _ _ 164 #[.val (.int p0), .val (.int p1), .val (.int p2), .val (.int p3), .val (.int p4), .val (.int p5), .val (.int kk), .val (.ref tw), .val (.ref c), .val (.int (4 : Int32)), .val (.ref b85), .val (.ref w3), .unset] [(.ref r_115)]
          refine GoS.astore (pc' := 166) (Ls' := #[.val (.int p0), .val (.int p1), .val (.int p2), .val (.int p3), .val (.int p4), .val (.int p5), .val (.int kk), .val (.ref tw), .val (.ref c), .val (.int (4 : Int32)), .val (.ref b85), .val (.ref w3), .val (.ref r_115)]) at_164 rfl rfl rfl ?_
          refine GoS.aload (pc' := 168) at_166 rfl rfl rfl ?_
          refine GoS.nullNo (pc' := 171) at_168 rfl nofun rfl ?_
          refine GoS.aload (pc' := 173) at_171 rfl rfl rfl ?_
          refine GoS.aconstNull (pc' := 174) at_173 rfl ?_
          refine GoS.callV (cells' := 33) (slots' := 301) (pc' := 177) [.null] [] F115_0 (ww hw 122 rfl) (ww hw 123 rfl) (fun s' hs' => notFace_of_selects (args := #[]) (mvT hs' (ww hw 125 rfl))) (ww hw 125 rfl) (ww hw 124 rfl) (ww hw 119 rfl) (ww hw 126 rfl) (by decide) (Con.cold (c_orElse1 l Z a0 hw h115 r_115 w3 F115_0 F115_1)) pd_12 rfl rfl rfl rfl rfl (nl rfl) (nl rfl) (nl rfl) (nl rfl) at_174 rfl ?_
          rintro _ _ _ ⟨⟨rfl, rfl⟩, rfl⟩
          show GoS _ _ _ _ _ _ _ _ _ _ _ _ _ _ 177 #[.val (.int p0), .val (.int p1), .val (.int p2), .val (.int p3), .val (.int p4), .val (.int p5), .val (.int kk), .val (.ref tw), .val (.ref c), .val (.int (4 : Int32)), .val (.ref b85), .val (.ref w3), .val (.ref r_115)] [(.ref w3)]
          refine GoS.aload (pc' := 179) at_177 rfl rfl rfl ?_
          refine GoS.acmpNo (pc' := 182) at_179 rfl rfl (XT.aa_ne_f rfl) rfl ?_
          refine GoS.iconst (pc' := 183) (v := (1 : Int32)) at_182 rfl rfl ?_
          refine GoS.goto (pc' := 187) at_183 (by decide) (by decide) ?_
          exact GoS.retN (t := .boolean) rfl (by simp) at_187 ⟨rfl, K117⟩ (by decide) (by decide)
      ·
        have ne119 : tw ≠ b85 := (Nat.ne_of_lt (Nat.lt_of_lt_of_le xw.lt (Nat.le_of_eq g85.symm)))
        have ne120 : tb ≠ b85 := (Nat.ne_of_lt (Nat.lt_of_lt_of_le xb.lt (Nat.le_of_eq g85.symm)))
        have f121 : Hel Z h93 tw tb tt := (((HT.ext E85).keep K88 nin0 nin0).keep K93 (ninS ne119 nin0) (ninS ne120 nin0))
        refine GoS.callS (cells' := 29) (slots' := 276) (pc' := 157) [(.ref b85)] [] (ww hw 76 rfl) (ww hw 77 rfl) (ww hw 2 rfl) (ww hw 78 rfl) (by decide) (c_exp4_2 l Z a0 hw h93 b85 b_93 kb_93 k0 k1 k2 k3 tt tw tb to ti wV kV w0 s0 t0 kt0 w1 s1 t1 kt1 w2 s2 t2 kt2 w3 s3 t3 kt3 cp hKS hcp hcw hch43 hch53 hch58 hch63 he96 he97 scp (((A85.keep K88).keep K93)) F93_1 F93_0 F93_2 f121) pd_20 rfl rfl rfl rfl rfl (nl rfl) (nl rfl) (nl rfl) (nl rfl) at_154 rfl ?_
        rintro _ h122 LL123 ⟨rfl, K122⟩
        have K124 : Keep hs h122 [] := K95.trans K122 all0
        show GoS _ _ _ _ _ _ _ _ _ _ _ _ _ _ 157 #[.val (.int p0), .val (.int p1), .val (.int p2), .val (.int p3), .val (.int p4), .val (.int p5), .val (.int kk), .val (.ref tw), .val (.ref c), .val (.int (4 : Int32)), .val (.ref b85), .unset, .unset] [(.ref w2)]
        refine GoS.astore (pc' := 159) (Ls' := #[.val (.int p0), .val (.int p1), .val (.int p2), .val (.int p3), .val (.int p4), .val (.int p5), .val (.int kk), .val (.ref tw), .val (.ref c), .val (.int (4 : Int32)), .val (.ref b85), .val (.ref w2), .unset]) at_157 rfl rfl rfl ?_
        refine GoS.aload (pc' := 161) at_159 rfl rfl rfl ?_
        refine GoS.callS (cells' := 31) (slots' := 281) (pc' := 164) [(.ref b85)] [] (ww hw 91 rfl) (ww hw 92 rfl) (ww hw 93 rfl) (ww hw 94 rfl) (by decide) (Con.cold (c_named4_2 l Z a0 hw h122 b85 b_93 kb_93 k0 k1 k2 k3 wV kV w0 s0 t0 kt0 w1 s1 t1 kt1 w2 s2 t2 kt2 w3 s3 t3 kt3 cp wo hKS hcp he96 he97 scp so xo fo ((((A85.keep K88).keep K93).keep K122)) (F93_1.keep K122 nin0) (F93_0.keep K122 nin0) (F93_2.keep K122 nin0))) pd_21 rfl rfl rfl rfl rfl (nl rfl) (nl rfl) (nl rfl) (nl rfl) at_161 rfl ?_
        rintro _ h125 _ ⟨⟨r_125, rfl, K125, ge_r_125, sz_r_125, F125_0, F125_1⟩, rfl⟩
        have sz126 : hs.size ≤ r_125 := Nat.le_trans K124.1 sz_r_125
        have K127 : Keep hs h125 [] := K124.trans K125 all0
        show GoS _ _ _ _ _ _ _ _ _ _ _ _ _ _ 164 #[.val (.int p0), .val (.int p1), .val (.int p2), .val (.int p3), .val (.int p4), .val (.int p5), .val (.int kk), .val (.ref tw), .val (.ref c), .val (.int (4 : Int32)), .val (.ref b85), .val (.ref w2), .unset] [(.ref r_125)]
        refine GoS.astore (pc' := 166) (Ls' := #[.val (.int p0), .val (.int p1), .val (.int p2), .val (.int p3), .val (.int p4), .val (.int p5), .val (.int kk), .val (.ref tw), .val (.ref c), .val (.int (4 : Int32)), .val (.ref b85), .val (.ref w2), .val (.ref r_125)]) at_164 rfl rfl rfl ?_
        refine GoS.aload (pc' := 168) at_166 rfl rfl rfl ?_
        refine GoS.nullNo (pc' := 171) at_168 rfl nofun rfl ?_
        refine GoS.aload (pc' := 173) at_171 rfl rfl rfl ?_
        refine GoS.aconstNull (pc' := 174) at_173 rfl ?_
        refine GoS.callV (cells' := 31) (slots' := 281) (pc' := 177) [.null] [] F125_0 (ww hw 122 rfl) (ww hw 123 rfl) (fun s' hs' => notFace_of_selects (args := #[]) (mvT hs' (ww hw 125 rfl))) (ww hw 125 rfl) (ww hw 124 rfl) (ww hw 119 rfl) (ww hw 126 rfl) (by decide) (Con.cold (c_orElse1 l Z a0 hw h125 r_125 w2 F125_0 F125_1)) pd_12 rfl rfl rfl rfl rfl (nl rfl) (nl rfl) (nl rfl) (nl rfl) at_174 rfl ?_
        rintro _ _ _ ⟨⟨rfl, rfl⟩, rfl⟩
        show GoS _ _ _ _ _ _ _ _ _ _ _ _ _ _ 177 #[.val (.int p0), .val (.int p1), .val (.int p2), .val (.int p3), .val (.int p4), .val (.int p5), .val (.int kk), .val (.ref tw), .val (.ref c), .val (.int (4 : Int32)), .val (.ref b85), .val (.ref w2), .val (.ref r_125)] [(.ref w2)]
        refine GoS.aload (pc' := 179) at_177 rfl rfl rfl ?_
        refine GoS.acmpNo (pc' := 182) at_179 rfl rfl (XT.aa_ne_f rfl) rfl ?_
        refine GoS.iconst (pc' := 183) (v := (1 : Int32)) at_182 rfl rfl ?_
        refine GoS.goto (pc' := 187) at_183 (by decide) (by decide) ?_
        exact GoS.retN (t := .boolean) rfl (by simp) at_187 ⟨rfl, K127⟩ (by decide) (by decide)
    ·
      have ne129 : tw ≠ b85 := (Nat.ne_of_lt (Nat.lt_of_lt_of_le xw.lt (Nat.le_of_eq g85.symm)))
      have ne130 : tb ≠ b85 := (Nat.ne_of_lt (Nat.lt_of_lt_of_le xb.lt (Nat.le_of_eq g85.symm)))
      have f131 : Hel Z h93 tw tb tt := (((HT.ext E85).keep K88 nin0 nin0).keep K93 (ninS ne129 nin0) (ninS ne130 nin0))
      refine GoS.callS (cells' := 27) (slots' := 256) (pc' := 157) [(.ref b85)] [] (ww hw 76 rfl) (ww hw 77 rfl) (ww hw 2 rfl) (ww hw 78 rfl) (by decide) (c_exp4_1 l Z a0 hw h93 b85 b_93 kb_93 k0 k1 k2 k3 tt tw tb to ti wV kV w0 s0 t0 kt0 w1 s1 t1 kt1 w2 s2 t2 kt2 w3 s3 t3 kt3 cp hKS hcp hcw hch43 hch53 hch58 hch63 he96 scp (((A85.keep K88).keep K93)) F93_1 F93_0 F93_2 f131) pd_20 rfl rfl rfl rfl rfl (nl rfl) (nl rfl) (nl rfl) (nl rfl) at_154 rfl ?_
      rintro _ h132 LL133 ⟨rfl, K132⟩
      have K134 : Keep hs h132 [] := K95.trans K132 all0
      show GoS _ _ _ _ _ _ _ _ _ _ _ _ _ _ 157 #[.val (.int p0), .val (.int p1), .val (.int p2), .val (.int p3), .val (.int p4), .val (.int p5), .val (.int kk), .val (.ref tw), .val (.ref c), .val (.int (4 : Int32)), .val (.ref b85), .unset, .unset] [(.ref w1)]
      refine GoS.astore (pc' := 159) (Ls' := #[.val (.int p0), .val (.int p1), .val (.int p2), .val (.int p3), .val (.int p4), .val (.int p5), .val (.int kk), .val (.ref tw), .val (.ref c), .val (.int (4 : Int32)), .val (.ref b85), .val (.ref w1), .unset]) at_157 rfl rfl rfl ?_
      refine GoS.aload (pc' := 161) at_159 rfl rfl rfl ?_
      refine GoS.callS (cells' := 29) (slots' := 261) (pc' := 164) [(.ref b85)] [] (ww hw 91 rfl) (ww hw 92 rfl) (ww hw 93 rfl) (ww hw 94 rfl) (by decide) (Con.cold (c_named4_1 l Z a0 hw h132 b85 b_93 kb_93 k0 k1 k2 k3 wV kV w0 s0 t0 kt0 w1 s1 t1 kt1 w2 s2 t2 kt2 w3 s3 t3 kt3 cp wo hKS hcp he96 scp so xo fo ((((A85.keep K88).keep K93).keep K132)) (F93_1.keep K132 nin0) (F93_0.keep K132 nin0) (F93_2.keep K132 nin0))) pd_21 rfl rfl rfl rfl rfl (nl rfl) (nl rfl) (nl rfl) (nl rfl) at_161 rfl ?_
      rintro _ h135 _ ⟨⟨r_135, rfl, K135, ge_r_135, sz_r_135, F135_0, F135_1⟩, rfl⟩
      have sz136 : hs.size ≤ r_135 := Nat.le_trans K134.1 sz_r_135
      have K137 : Keep hs h135 [] := K134.trans K135 all0
      show GoS _ _ _ _ _ _ _ _ _ _ _ _ _ _ 164 #[.val (.int p0), .val (.int p1), .val (.int p2), .val (.int p3), .val (.int p4), .val (.int p5), .val (.int kk), .val (.ref tw), .val (.ref c), .val (.int (4 : Int32)), .val (.ref b85), .val (.ref w1), .unset] [(.ref r_135)]
      refine GoS.astore (pc' := 166) (Ls' := #[.val (.int p0), .val (.int p1), .val (.int p2), .val (.int p3), .val (.int p4), .val (.int p5), .val (.int kk), .val (.ref tw), .val (.ref c), .val (.int (4 : Int32)), .val (.ref b85), .val (.ref w1), .val (.ref r_135)]) at_164 rfl rfl rfl ?_
      refine GoS.aload (pc' := 168) at_166 rfl rfl rfl ?_
      refine GoS.nullNo (pc' := 171) at_168 rfl nofun rfl ?_
      refine GoS.aload (pc' := 173) at_171 rfl rfl rfl ?_
      refine GoS.aconstNull (pc' := 174) at_173 rfl ?_
      refine GoS.callV (cells' := 29) (slots' := 261) (pc' := 177) [.null] [] F135_0 (ww hw 122 rfl) (ww hw 123 rfl) (fun s' hs' => notFace_of_selects (args := #[]) (mvT hs' (ww hw 125 rfl))) (ww hw 125 rfl) (ww hw 124 rfl) (ww hw 119 rfl) (ww hw 126 rfl) (by decide) (Con.cold (c_orElse1 l Z a0 hw h135 r_135 w1 F135_0 F135_1)) pd_12 rfl rfl rfl rfl rfl (nl rfl) (nl rfl) (nl rfl) (nl rfl) at_174 rfl ?_
      rintro _ _ _ ⟨⟨rfl, rfl⟩, rfl⟩
      show GoS _ _ _ _ _ _ _ _ _ _ _ _ _ _ 177 #[.val (.int p0), .val (.int p1), .val (.int p2), .val (.int p3), .val (.int p4), .val (.int p5), .val (.int kk), .val (.ref tw), .val (.ref c), .val (.int (4 : Int32)), .val (.ref b85), .val (.ref w1), .val (.ref r_135)] [(.ref w1)]
      refine GoS.aload (pc' := 179) at_177 rfl rfl rfl ?_
      refine GoS.acmpNo (pc' := 182) at_179 rfl rfl (XT.aa_ne_f rfl) rfl ?_
      refine GoS.iconst (pc' := 183) (v := (1 : Int32)) at_182 rfl rfl ?_
      refine GoS.goto (pc' := 187) at_183 (by decide) (by decide) ?_
      exact GoS.retN (t := .boolean) rfl (by simp) at_187 ⟨rfl, K137⟩ (by decide) (by decide)
  ·
    rw [hspl1]
    refine GoS.istore (pc' := 136) (Ls' := #[.val (.int p0), .val (.int p1), .val (.int p2), .val (.int p3), .val (.int p4), .val (.int p5), .val (.int kk), .val (.ref tw), .val (.ref c), .val (.int (5 : Int32)), .unset, .unset, .unset]) at_134 rfl rfl ?_
    refine GoS.new (pc' := 139) (cells' := 21) (slots' := 204) (ww hw 52 rfl) (ww hw 6 rfl) (ww hw 5 rfl) at_136 rfl rfl (by decide) (by decide) rfl ?_
    intro h139 b139 g139 E139 ge139 A139 D139
    have sz140 : hs.size ≤ b139 := Nat.le_trans Kp.1 (Nat.le_of_eq g139.symm)
    have K141 : Keep hs h139 [] := Kp.ext E139
    refine GoS.dup (pc' := 140) at_139 rfl rfl ?_
    refine GoS.aload (pc' := 142) at_140 rfl rfl rfl ?_
    refine GoS.iload (pc' := 144) at_142 rfl rfl ?_
    refine GoS.callS (cells' := 22) (slots' := 209) (pc' := 147) [(.ref c), (.int (5 : Int32))] [(.ref b139), (.ref b139)] (ww hw 53 rfl) (ww hw 54 rfl) (ww hw 2 rfl) (ww hw 55 rfl) (by decide) (Con.cold (c_take5 l Z a0 hw h139 c kc k0 k1 k2 k3 k4 k5 hn0 hn1 hn2 hn3 hn4 (vc.ext E139))) pd_18 rfl rfl rfl rfl rfl (nl rfl) (nl rfl) (nl rfl) (nl rfl) at_144 rfl ?_
    rintro _ h142 _ ⟨⟨d_142, kd_142, rfl, K142, ge_d_142, sz_d_142, F142_0⟩, rfl⟩
    have sz143 : hs.size ≤ d_142 := Nat.le_trans K141.1 sz_d_142
    have K144 : Keep hs h142 [] := K141.trans K142 all0
    show GoS _ _ _ _ _ _ _ _ _ _ _ _ _ _ 147 #[.val (.int p0), .val (.int p1), .val (.int p2), .val (.int p3), .val (.int p4), .val (.int p5), .val (.int kk), .val (.ref tw), .val (.ref c), .val (.int (5 : Int32)), .unset, .unset, .unset] [(.ref d_142), (.ref b139), (.ref b139)]
    have f145 : Fld Z h142 b139 "java/lang/String" "value" "[B" .null := ((D139 (Or.inr (ww hw 8 rfl)) (ty := (.array .byte)) (by decide) : Fld Z h139 b139 "java/lang/String" "value" "[B" .null).keep K142 nin0)
    have f146 : Fld Z h142 b139 "java/lang/String" "coder" "B" (.int (0 : Int32)) := ((D139 (Or.inr (ww hw 9 rfl)) (ty := .byte) (by decide) : Fld Z h139 b139 "java/lang/String" "coder" "B" (.int (0 : Int32))).keep K142 nin0)
    refine GoS.callC (cells' := 23) (slots' := 214) (pc' := 150) [(.ref d_142)] [(.ref b139)] (a := b139) rfl rfl (ww hw 56 rfl) (ww hw 57 rfl) (ww hw 5 rfl) (ww hw 58 rfl) (by decide) (Con.cold (c_strInit5 l Z a0 hw h142 b139 d_142 kd_142 k0 k1 k2 k3 k4 cp hk0 hk1 hk2 hk3 hk4 hcp scp ge139 (A139.keep K142) f145 f146 F142_0)) pd_19 rfl rfl rfl rfl rfl (nl rfl) (nl rfl) (nl rfl) (nl rfl) at_147 rfl ?_
    rintro _ h147 _ ⟨⟨b_147, kb_147, rfl, K147, ge_b_147, sz_b_147, F147_0, F147_1, F147_2⟩, rfl⟩
    have sz148 : hs.size ≤ b_147 := Nat.le_trans K144.1 sz_b_147
    have K149 : Keep hs h147 [] := K144.trans K147 (allS (Or.inr sz140) all0)
    show GoS _ _ _ _ _ _ _ _ _ _ _ _ _ _ 150 #[.val (.int p0), .val (.int p1), .val (.int p2), .val (.int p3), .val (.int p4), .val (.int p5), .val (.int kk), .val (.ref tw), .val (.ref c), .val (.int (5 : Int32)), .unset, .unset, .unset] [(.ref b139)]
    refine GoS.astore (pc' := 152) (Ls' := #[.val (.int p0), .val (.int p1), .val (.int p2), .val (.int p3), .val (.int p4), .val (.int p5), .val (.int kk), .val (.ref tw), .val (.ref c), .val (.int (5 : Int32)), .val (.ref b139), .unset, .unset]) at_150 rfl rfl rfl ?_
    refine GoS.aload (pc' := 154) at_152 rfl rfl rfl ?_
    by_cases he150 : (if k0.toInt8.toInt32 = (108 : Int32) ∧ k1.toInt8.toInt32 = (111 : Int32) ∧ k2.toInt8.toInt32 = (99 : Int32) ∧ k3.toInt8.toInt32 = (97 : Int32) ∧ k4.toInt8.toInt32 = (108 : Int32) then (1 : Int32) else 0) = (0 : Int32)
    ·
      have ne151 : tw ≠ b139 := (Nat.ne_of_lt (Nat.lt_of_lt_of_le xw.lt (Nat.le_of_eq g139.symm)))
      have ne152 : tb ≠ b139 := (Nat.ne_of_lt (Nat.lt_of_lt_of_le xb.lt (Nat.le_of_eq g139.symm)))
      have f153 : Hel Z h147 tw tb tt := (((HT.ext E139).keep K142 nin0 nin0).keep K147 (ninS ne151 nin0) (ninS ne152 nin0))
      refine GoS.callS (cells' := 31) (slots' := 298) (pc' := 157) [(.ref b139)] [] (ww hw 76 rfl) (ww hw 77 rfl) (ww hw 2 rfl) (ww hw 78 rfl) (by decide) (c_exp5_n l Z a0 hw h147 b139 b_147 kb_147 k0 k1 k2 k3 k4 tt tw tb to ti wV kV w0 s0 t0 kt0 w1 s1 t1 kt1 w2 s2 t2 kt2 w3 s3 t3 kt3 cp hKS hcp hcw hch43 hch53 hch58 hch63 he150 scp (((A139.keep K142).keep K147)) F147_1 F147_0 F147_2 f153) pd_20 rfl rfl rfl rfl rfl (nl rfl) (nl rfl) (nl rfl) (nl rfl) at_154 rfl ?_
      rintro _ h154 LL155 ⟨rfl, K154⟩
      have K156 : Keep hs h154 [] := K149.trans K154 all0
      show GoS _ _ _ _ _ _ _ _ _ _ _ _ _ _ 157 #[.val (.int p0), .val (.int p1), .val (.int p2), .val (.int p3), .val (.int p4), .val (.int p5), .val (.int kk), .val (.ref tw), .val (.ref c), .val (.int (5 : Int32)), .val (.ref b139), .unset, .unset] [.null]
      refine GoS.astore (pc' := 159) (Ls' := #[.val (.int p0), .val (.int p1), .val (.int p2), .val (.int p3), .val (.int p4), .val (.int p5), .val (.int kk), .val (.ref tw), .val (.ref c), .val (.int (5 : Int32)), .val (.ref b139), .val .null, .unset]) at_157 rfl rfl rfl ?_
      refine GoS.aload (pc' := 161) at_159 rfl rfl rfl ?_
      refine GoS.callS (cells' := 32) (slots' := 302) (pc' := 164) [(.ref b139)] [] (ww hw 91 rfl) (ww hw 92 rfl) (ww hw 93 rfl) (ww hw 94 rfl) (by decide) (Con.cold (c_named5_n l Z a0 hw h154 b139 b_147 kb_147 k0 k1 k2 k3 k4 wV kV w0 s0 t0 kt0 w1 s1 t1 kt1 w2 s2 t2 kt2 w3 s3 t3 kt3 cp wo hKS hcp he150 scp so xo fo ((((A139.keep K142).keep K147).keep K154)) (F147_1.keep K154 nin0) (F147_0.keep K154 nin0) (F147_2.keep K154 nin0))) pd_21 rfl rfl rfl rfl rfl (nl rfl) (nl rfl) (nl rfl) (nl rfl) at_161 rfl ?_
      rintro _ h157 _ ⟨⟨rfl, K157⟩, rfl⟩
      have K158 : Keep hs h157 [] := K156.trans K157 all0
      show GoS _ _ _ _ _ _ _ _ _ _ _ _ _ _ 164 #[.val (.int p0), .val (.int p1), .val (.int p2), .val (.int p3), .val (.int p4), .val (.int p5), .val (.int kk), .val (.ref tw), .val (.ref c), .val (.int (5 : Int32)), .val (.ref b139), .val .null, .unset] [(.ref wo)]
      refine GoS.astore (pc' := 166) (Ls' := #[.val (.int p0), .val (.int p1), .val (.int p2), .val (.int p3), .val (.int p4), .val (.int p5), .val (.int kk), .val (.ref tw), .val (.ref c), .val (.int (5 : Int32)), .val (.ref b139), .val .null, .val (.ref wo)]) at_164 rfl rfl rfl ?_
      refine GoS.aload (pc' := 168) at_166 rfl rfl rfl ?_
      refine GoS.nullNo (pc' := 171) at_168 rfl nofun rfl ?_
      refine GoS.aload (pc' := 173) at_171 rfl rfl rfl ?_
      refine GoS.aconstNull (pc' := 174) at_173 rfl ?_
      refine GoS.old (fun old159 => ?_)
      refine GoS.callV (cells' := 32) (slots' := 302) (pc' := 177) [.null] [] (xo.ext old159.2) (ww hw 122 rfl) (ww hw 123 rfl) (fun s' hs' => notFace_of_selects (args := #[]) (mvT hs' (ww hw 125 rfl))) (ww hw 125 rfl) (ww hw 124 rfl) (ww hw 119 rfl) (ww hw 126 rfl) (by decide) (Con.cold (c_orElse0 l Z a0 hw h157 wo (xo.ext old159.2) (fo.ext old159.2))) pd_12 rfl rfl rfl rfl rfl (nl rfl) (nl rfl) (nl rfl) (nl rfl) at_174 rfl ?_
      rintro _ _ _ ⟨⟨rfl, rfl⟩, rfl⟩
      show GoS _ _ _ _ _ _ _ _ _ _ _ _ _ _ 177 #[.val (.int p0), .val (.int p1), .val (.int p2), .val (.int p3), .val (.int p4), .val (.int p5), .val (.int kk), .val (.ref tw), .val (.ref c), .val (.int (5 : Int32)), .val (.ref b139), .val .null, .val (.ref wo)] [.null]
      refine GoS.aload (pc' := 179) at_177 rfl rfl rfl ?_
      refine GoS.acmpNo (pc' := 182) at_179 rfl rfl (XT.aa_ne_f rfl) rfl ?_
      refine GoS.iconst (pc' := 183) (v := (1 : Int32)) at_182 rfl rfl ?_
      refine GoS.goto (pc' := 187) at_183 (by decide) (by decide) ?_
      exact GoS.retN (t := .boolean) rfl (by simp) at_187 ⟨rfl, K158⟩ (by decide) (by decide)
    ·
      have ne161 : tw ≠ b139 := (Nat.ne_of_lt (Nat.lt_of_lt_of_le xw.lt (Nat.le_of_eq g139.symm)))
      have ne162 : tb ≠ b139 := (Nat.ne_of_lt (Nat.lt_of_lt_of_le xb.lt (Nat.le_of_eq g139.symm)))
      have f163 : Hel Z h147 tw tb tt := (((HT.ext E139).keep K142 nin0 nin0).keep K147 (ninS ne161 nin0) (ninS ne162 nin0))
      refine GoS.callS (cells' := 25) (slots' := 238) (pc' := 157) [(.ref b139)] [] (ww hw 76 rfl) (ww hw 77 rfl) (ww hw 2 rfl) (ww hw 78 rfl) (by decide) (c_exp5_0 l Z a0 hw h147 b139 b_147 kb_147 k0 k1 k2 k3 k4 tt tw tb to ti wV kV w0 s0 t0 kt0 w1 s1 t1 kt1 w2 s2 t2 kt2 w3 s3 t3 kt3 cp hKS hcp hcw hch43 hch53 hch58 hch63 he150 scp (((A139.keep K142).keep K147)) F147_1 F147_0 F147_2 f163) pd_20 rfl rfl rfl rfl rfl (nl rfl) (nl rfl) (nl rfl) (nl rfl) at_154 rfl ?_
      rintro _ h164 LL165 ⟨rfl, K164⟩
      have K166 : Keep hs h164 [] := K149.trans K164 all0
      show GoS _ _ _ _ _ _ _ _ _ _ _ _ _ _ 157 #[.val (.int p0), .val (.int p1), .val (.int p2), .val (.int p3), .val (.int p4), .val (.int p5), .val (.int kk), .val (.ref tw), .val (.ref c), .val (.int (5 : Int32)), .val (.ref b139), .unset, .unset] [(.ref w0)]
      refine GoS.astore (pc' := 159) (Ls' := #[.val (.int p0), .val (.int p1), .val (.int p2), .val (.int p3), .val (.int p4), .val (.int p5), .val (.int kk), .val (.ref tw), .val (.ref c), .val (.int (5 : Int32)), .val (.ref b139), .val (.ref w0), .unset]) at_157 rfl rfl rfl ?_
      refine GoS.aload (pc' := 161) at_159 rfl rfl rfl ?_
      refine GoS.callS (cells' := 27) (slots' := 243) (pc' := 164) [(.ref b139)] [] (ww hw 91 rfl) (ww hw 92 rfl) (ww hw 93 rfl) (ww hw 94 rfl) (by decide) (Con.cold (c_named5_0 l Z a0 hw h164 b139 b_147 kb_147 k0 k1 k2 k3 k4 wV kV w0 s0 t0 kt0 w1 s1 t1 kt1 w2 s2 t2 kt2 w3 s3 t3 kt3 cp wo hKS hcp he150 scp so xo fo ((((A139.keep K142).keep K147).keep K164)) (F147_1.keep K164 nin0) (F147_0.keep K164 nin0) (F147_2.keep K164 nin0))) pd_21 rfl rfl rfl rfl rfl (nl rfl) (nl rfl) (nl rfl) (nl rfl) at_161 rfl ?_
      rintro _ h167 _ ⟨⟨r_167, rfl, K167, ge_r_167, sz_r_167, F167_0, F167_1⟩, rfl⟩
      have sz168 : hs.size ≤ r_167 := Nat.le_trans K166.1 sz_r_167
      have K169 : Keep hs h167 [] := K166.trans K167 all0
      show GoS _ _ _ _ _ _ _ _ _ _ _ _ _ _ 164 #[.val (.int p0), .val (.int p1), .val (.int p2), .val (.int p3), .val (.int p4), .val (.int p5), .val (.int kk), .val (.ref tw), .val (.ref c), .val (.int (5 : Int32)), .val (.ref b139), .val (.ref w0), .unset] [(.ref r_167)]
      refine GoS.astore (pc' := 166) (Ls' := #[.val (.int p0), .val (.int p1), .val (.int p2), .val (.int p3), .val (.int p4), .val (.int p5), .val (.int kk), .val (.ref tw), .val (.ref c), .val (.int (5 : Int32)), .val (.ref b139), .val (.ref w0), .val (.ref r_167)]) at_164 rfl rfl rfl ?_
      refine GoS.aload (pc' := 168) at_166 rfl rfl rfl ?_
      refine GoS.nullNo (pc' := 171) at_168 rfl nofun rfl ?_
      refine GoS.aload (pc' := 173) at_171 rfl rfl rfl ?_
      refine GoS.aconstNull (pc' := 174) at_173 rfl ?_
      refine GoS.callV (cells' := 27) (slots' := 243) (pc' := 177) [.null] [] F167_0 (ww hw 122 rfl) (ww hw 123 rfl) (fun s' hs' => notFace_of_selects (args := #[]) (mvT hs' (ww hw 125 rfl))) (ww hw 125 rfl) (ww hw 124 rfl) (ww hw 119 rfl) (ww hw 126 rfl) (by decide) (Con.cold (c_orElse1 l Z a0 hw h167 r_167 w0 F167_0 F167_1)) pd_12 rfl rfl rfl rfl rfl (nl rfl) (nl rfl) (nl rfl) (nl rfl) at_174 rfl ?_
      rintro _ _ _ ⟨⟨rfl, rfl⟩, rfl⟩
      show GoS _ _ _ _ _ _ _ _ _ _ _ _ _ _ 177 #[.val (.int p0), .val (.int p1), .val (.int p2), .val (.int p3), .val (.int p4), .val (.int p5), .val (.int kk), .val (.ref tw), .val (.ref c), .val (.int (5 : Int32)), .val (.ref b139), .val (.ref w0), .val (.ref r_167)] [(.ref w0)]
      refine GoS.aload (pc' := 179) at_177 rfl rfl rfl ?_
      refine GoS.acmpNo (pc' := 182) at_179 rfl rfl (XT.aa_ne_f rfl) rfl ?_
      refine GoS.iconst (pc' := 183) (v := (1 : Int32)) at_182 rfl rfl ?_
      refine GoS.goto (pc' := 187) at_183 (by decide) (by decide) ?_
      exact GoS.retN (t := .boolean) rfl (by simp) at_187 ⟨rfl, K169⟩ (by decide) (by decide)
  ·
    rw [hspl1]
    refine GoS.istore (pc' := 136) (Ls' := #[.val (.int p0), .val (.int p1), .val (.int p2), .val (.int p3), .val (.int p4), .val (.int p5), .val (.int kk), .val (.ref tw), .val (.ref c), .val (.int (6 : Int32)), .unset, .unset, .unset]) at_134 rfl rfl ?_
    refine GoS.new (pc' := 139) (cells' := 21) (slots' := 204) (ww hw 52 rfl) (ww hw 6 rfl) (ww hw 5 rfl) at_136 rfl rfl (by decide) (by decide) rfl ?_
    intro h171 b171 g171 E171 ge171 A171 D171
    have sz172 : hs.size ≤ b171 := Nat.le_trans Kp.1 (Nat.le_of_eq g171.symm)
    have K173 : Keep hs h171 [] := Kp.ext E171
    refine GoS.dup (pc' := 140) at_139 rfl rfl ?_
    refine GoS.aload (pc' := 142) at_140 rfl rfl rfl ?_
    refine GoS.iload (pc' := 144) at_142 rfl rfl ?_
    refine GoS.callS (cells' := 22) (slots' := 210) (pc' := 147) [(.ref c), (.int (6 : Int32))] [(.ref b171), (.ref b171)] (ww hw 53 rfl) (ww hw 54 rfl) (ww hw 2 rfl) (ww hw 55 rfl) (by decide) (Con.cold (c_take6 l Z a0 hw h171 c kc k0 k1 k2 k3 k4 k5 hn0 hn1 hn2 hn3 hn4 hn5 (vc.ext E171))) pd_18 rfl rfl rfl rfl rfl (nl rfl) (nl rfl) (nl rfl) (nl rfl) at_144 rfl ?_
    rintro _ h174 _ ⟨⟨d_174, kd_174, rfl, K174, ge_d_174, sz_d_174, F174_0⟩, rfl⟩
    have sz175 : hs.size ≤ d_174 := Nat.le_trans K173.1 sz_d_174
    have K176 : Keep hs h174 [] := K173.trans K174 all0
    show GoS _ _ _ _ _ _ _ _ _ _ _ _ _ _ 147 #[.val (.int p0), .val (.int p1), .val (.int p2), .val (.int p3), .val (.int p4), .val (.int p5), .val (.int kk), .val (.ref tw), .val (.ref c), .val (.int (6 : Int32)), .unset, .unset, .unset] [(.ref d_174), (.ref b171), (.ref b171)]
    have f177 : Fld Z h174 b171 "java/lang/String" "value" "[B" .null := ((D171 (Or.inr (ww hw 8 rfl)) (ty := (.array .byte)) (by decide) : Fld Z h171 b171 "java/lang/String" "value" "[B" .null).keep K174 nin0)
    have f178 : Fld Z h174 b171 "java/lang/String" "coder" "B" (.int (0 : Int32)) := ((D171 (Or.inr (ww hw 9 rfl)) (ty := .byte) (by decide) : Fld Z h171 b171 "java/lang/String" "coder" "B" (.int (0 : Int32))).keep K174 nin0)
    refine GoS.callC (cells' := 23) (slots' := 216) (pc' := 150) [(.ref d_174)] [(.ref b171)] (a := b171) rfl rfl (ww hw 56 rfl) (ww hw 57 rfl) (ww hw 5 rfl) (ww hw 58 rfl) (by decide) (Con.cold (c_strInit6 l Z a0 hw h174 b171 d_174 kd_174 k0 k1 k2 k3 k4 k5 cp hk0 hk1 hk2 hk3 hk4 hk5 hcp scp ge171 (A171.keep K174) f177 f178 F174_0)) pd_19 rfl rfl rfl rfl rfl (nl rfl) (nl rfl) (nl rfl) (nl rfl) at_147 rfl ?_
    rintro _ h179 _ ⟨⟨b_179, kb_179, rfl, K179, ge_b_179, sz_b_179, F179_0, F179_1, F179_2⟩, rfl⟩
    have sz180 : hs.size ≤ b_179 := Nat.le_trans K176.1 sz_b_179
    have K181 : Keep hs h179 [] := K176.trans K179 (allS (Or.inr sz172) all0)
    show GoS _ _ _ _ _ _ _ _ _ _ _ _ _ _ 150 #[.val (.int p0), .val (.int p1), .val (.int p2), .val (.int p3), .val (.int p4), .val (.int p5), .val (.int kk), .val (.ref tw), .val (.ref c), .val (.int (6 : Int32)), .unset, .unset, .unset] [(.ref b171)]
    refine GoS.astore (pc' := 152) (Ls' := #[.val (.int p0), .val (.int p1), .val (.int p2), .val (.int p3), .val (.int p4), .val (.int p5), .val (.int kk), .val (.ref tw), .val (.ref c), .val (.int (6 : Int32)), .val (.ref b171), .unset, .unset]) at_150 rfl rfl rfl ?_
    refine GoS.aload (pc' := 154) at_152 rfl rfl rfl ?_
    have ne182 : tw ≠ b171 := (Nat.ne_of_lt (Nat.lt_of_lt_of_le xw.lt (Nat.le_of_eq g171.symm)))
    have ne183 : tb ≠ b171 := (Nat.ne_of_lt (Nat.lt_of_lt_of_le xb.lt (Nat.le_of_eq g171.symm)))
    have f184 : Hel Z h179 tw tb tt := (((HT.ext E171).keep K174 nin0 nin0).keep K179 (ninS ne182 nin0) (ninS ne183 nin0))
    refine GoS.callS (cells' := 31) (slots' := 300) (pc' := 157) [(.ref b171)] [] (ww hw 76 rfl) (ww hw 77 rfl) (ww hw 2 rfl) (ww hw 78 rfl) (by decide) (c_expz_n l Z a0 hw h179 b171 b_179 kb_179 (6 : Int32) ([(.int k0.toInt8.toInt32), (.int k1.toInt8.toInt32), (.int k2.toInt8.toInt32), (.int k3.toInt8.toInt32), (.int k4.toInt8.toInt32), (.int k5.toInt8.toInt32)]) tt tw tb to ti wV kV w0 s0 t0 kt0 w1 s1 t1 kt1 w2 s2 t2 kt2 w3 s3 t3 kt3 cp hKS hcp hcw hch43 hch53 hch58 hch63 (by decide) (by decide) (by decide) (by decide) (by decide) (by decide) (by decide) (by decide) scp (((A171.keep K174).keep K179)) F179_1 F179_0 F179_2 f184) pd_20 rfl rfl rfl rfl rfl (nl rfl) (nl rfl) (nl rfl) (nl rfl) at_154 rfl ?_
    rintro _ h185 LL186 ⟨rfl, K185⟩
    have K187 : Keep hs h185 [] := K181.trans K185 all0
    show GoS _ _ _ _ _ _ _ _ _ _ _ _ _ _ 157 #[.val (.int p0), .val (.int p1), .val (.int p2), .val (.int p3), .val (.int p4), .val (.int p5), .val (.int kk), .val (.ref tw), .val (.ref c), .val (.int (6 : Int32)), .val (.ref b171), .unset, .unset] [.null]
    refine GoS.astore (pc' := 159) (Ls' := #[.val (.int p0), .val (.int p1), .val (.int p2), .val (.int p3), .val (.int p4), .val (.int p5), .val (.int kk), .val (.ref tw), .val (.ref c), .val (.int (6 : Int32)), .val (.ref b171), .val .null, .unset]) at_157 rfl rfl rfl ?_
    refine GoS.aload (pc' := 161) at_159 rfl rfl rfl ?_
    refine GoS.callS (cells' := 32) (slots' := 304) (pc' := 164) [(.ref b171)] [] (ww hw 91 rfl) (ww hw 92 rfl) (ww hw 93 rfl) (ww hw 94 rfl) (by decide) (Con.cold (c_namedz_n l Z a0 hw h185 b171 b_179 kb_179 (6 : Int32) ([(.int k0.toInt8.toInt32), (.int k1.toInt8.toInt32), (.int k2.toInt8.toInt32), (.int k3.toInt8.toInt32), (.int k4.toInt8.toInt32), (.int k5.toInt8.toInt32)]) wV kV w0 s0 t0 kt0 w1 s1 t1 kt1 w2 s2 t2 kt2 w3 s3 t3 kt3 cp wo hKS hcp (by decide) (by decide) (by decide) (by decide) (by decide) (by decide) (by decide) (by decide) scp so xo fo ((((A171.keep K174).keep K179).keep K185)) (F179_1.keep K185 nin0) (F179_0.keep K185 nin0) (F179_2.keep K185 nin0))) pd_21 rfl rfl rfl rfl rfl (nl rfl) (nl rfl) (nl rfl) (nl rfl) at_161 rfl ?_
    rintro _ h188 _ ⟨⟨rfl, K188⟩, rfl⟩
    have K189 : Keep hs h188 [] := K187.trans K188 all0
    show GoS _ _ _ _ _ _ _ _ _ _ _ _ _ _ 164 #[.val (.int p0), .val (.int p1), .val (.int p2), .val (.int p3), .val (.int p4), .val (.int p5), .val (.int kk), .val (.ref tw), .val (.ref c), .val (.int (6 : Int32)), .val (.ref b171), .val .null, .unset] [(.ref wo)]
    refine GoS.astore (pc' := 166) (Ls' := #[.val (.int p0), .val (.int p1), .val (.int p2), .val (.int p3), .val (.int p4), .val (.int p5), .val (.int kk), .val (.ref tw), .val (.ref c), .val (.int (6 : Int32)), .val (.ref b171), .val .null, .val (.ref wo)]) at_164 rfl rfl rfl ?_
    refine GoS.aload (pc' := 168) at_166 rfl rfl rfl ?_
    refine GoS.nullNo (pc' := 171) at_168 rfl nofun rfl ?_
    refine GoS.aload (pc' := 173) at_171 rfl rfl rfl ?_
    refine GoS.aconstNull (pc' := 174) at_173 rfl ?_
    refine GoS.old (fun old190 => ?_)
    refine GoS.callV (cells' := 32) (slots' := 304) (pc' := 177) [.null] [] (xo.ext old190.2) (ww hw 122 rfl) (ww hw 123 rfl) (fun s' hs' => notFace_of_selects (args := #[]) (mvT hs' (ww hw 125 rfl))) (ww hw 125 rfl) (ww hw 124 rfl) (ww hw 119 rfl) (ww hw 126 rfl) (by decide) (Con.cold (c_orElse0 l Z a0 hw h188 wo (xo.ext old190.2) (fo.ext old190.2))) pd_12 rfl rfl rfl rfl rfl (nl rfl) (nl rfl) (nl rfl) (nl rfl) at_174 rfl ?_
    rintro _ _ _ ⟨⟨rfl, rfl⟩, rfl⟩
    show GoS _ _ _ _ _ _ _ _ _ _ _ _ _ _ 177 #[.val (.int p0), .val (.int p1), .val (.int p2), .val (.int p3), .val (.int p4), .val (.int p5), .val (.int kk), .val (.ref tw), .val (.ref c), .val (.int (6 : Int32)), .val (.ref b171), .val .null, .val (.ref wo)] [.null]
    refine GoS.aload (pc' := 179) at_177 rfl rfl rfl ?_
    refine GoS.acmpNo (pc' := 182) at_179 rfl rfl (XT.aa_ne_f rfl) rfl ?_
    refine GoS.iconst (pc' := 183) (v := (1 : Int32)) at_182 rfl rfl ?_
    refine GoS.goto (pc' := 187) at_183 (by decide) (by decide) ?_
    exact GoS.retN (t := .boolean) rfl (by simp) at_187 ⟨rfl, K189⟩ (by decide) (by decide)
theorem c_rest2 (l : Launch) (Z : State) (a0 : Array Value) (hw : ∀ d ∈ tables_1, d.before a0 Z = true) {n0 : Nat} (hs h : Heap) (p0 : Int32) (p1 : Int32) (p2 : Int32) (p3 : Int32) (p4 : Int32) (p5 : Int32) (kk : Int32) (c : Addr) (kc : ClassId) (k0 : Int32) (k1 : Int32) (k2 : Int32) (k3 : Int32) (k4 : Int32) (k5 : Int32) (tt : String) (tw : Addr) (tb : Addr) (to : String) (ti : Nat) (wV : Addr) (kV : ClassId) (w0 : Addr) (s0 : Addr) (t0 : Addr) (kt0 : ClassId) (w1 : Addr) (s1 : Addr) (t1 : Addr) (kt1 : ClassId) (w2 : Addr) (s2 : Addr) (t2 : Addr) (kt2 : ClassId) (w3 : Addr) (s3 : Addr) (t3 : Addr) (kt3 : ClassId) (cp : Int32) (wf : Value) (wo : Addr) (hKS : KS Z wV kV w0 s0 t0 kt0 w1 s1 t1 kt1 w2 s2 t2 kt2 w3 s3 t3 kt3) (hcp : ¬ (cp = (0 : Int32))) (hcw : Jvm.Lit.compactW.before a0 Z = true) (hwf : wf.isRef = true) (hch7 : Jvm.Lit.constHeld Z "java/lang/String" 7) (hch43 : Jvm.Lit.constHeld Z "com/example/huron/huron/io/config/AuthenticatorKindNamedPinLaw" 43) (hch53 : Jvm.Lit.constHeld Z "com/example/huron/huron/io/config/AuthenticatorKindNamedPinLaw" 53) (hch58 : Jvm.Lit.constHeld Z "com/example/huron/huron/io/config/AuthenticatorKindNamedPinLaw" 58) (hch63 : Jvm.Lit.constHeld Z "com/example/huron/huron/io/config/AuthenticatorKindNamedPinLaw" 63) (hch68 : Jvm.Lit.constHeld Z "com/example/huron/huron/io/config/AuthenticatorKindNamedPinLaw" 68) (hch69 : Jvm.Lit.constHeld Z "com/example/huron/huron/io/config/AuthenticatorKindNamedPinLaw" 69) (hch70 : Jvm.Lit.constHeld Z "com/example/huron/huron/io/config/AuthenticatorKindNamedPinLaw" 70) (hch71 : Jvm.Lit.constHeld Z "com/example/huron/huron/io/config/AuthenticatorKindNamedPinLaw" 71) (hk0 : ¬ ((255 : Int32) < k0)) (hk1 : ¬ ((255 : Int32) < k1)) (hk2 : ¬ ((255 : Int32) < k2)) (hk3 : ¬ ((255 : Int32) < k3)) (hk4 : ¬ ((255 : Int32) < k4)) (hk5 : ¬ ((255 : Int32) < k5)) (hn0 : nar .char k0 = k0) (hn1 : nar .char k1 = k1) (hn2 : nar .char k2 = k2) (hn3 : nar .char k3 = k3) (hn4 : nar .char k4 = k4) (hn5 : nar .char k5 = k5) (scp : Sta Z Z.heap "java/lang/String" "COMPACT_STRINGS" "Z" (.int cp)) (sfm : Sta Z Z.heap "jdk/internal/util/Preconditions" "SIOOBE_FORMATTER" "Ljava/util/function/BiFunction;" wf) (so : Sta Z Z.heap "java/util/Optional" "EMPTY" "Ljava/util/Optional;" (.ref wo)) (xo : Exa Z Z.heap wo "java/util/Optional") (fo : Fld Z Z.heap wo "java/util/Optional" "value" "Ljava/lang/Object;" .null) (ge_c : n0 ≤ c) (xc : Exa Z h c "[C") (vc : Arv Z h c kc .char (6 : Int32) [(.int k0), (.int k1), (.int k2), (.int k3), (.int k4), (.int k5)] (.int 0)) (HT : Hel Z h tw tb tt) (xw : Exa Z h tw "java/lang/String") (xb : Exa Z h tb "[B") (sz_c : hs.size ≤ c) (Kp : Keep hs h []) :
    GoS l room_1 Z n0 x code maxLocals ret (fun v h' LL' => v = some (.int (1 : Int32)) ∧ Keep hs h' []) hs [(tt, tw, to, ti)] 20 200 h 102 #[.val (.int p0), .val (.int p1), .val (.int p2), .val (.int p3), .val (.int p4), .val (.int p5), .val (.int kk), .val (.ref tw), .val (.ref c), .unset, .unset, .unset, .unset] [] := by
  obtain ⟨sv, vv, xv, sk0, xk0, fk0, xs0, cs0, gs0, vs0, sk1, xk1, fk1, xs1, cs1, gs1, vs1, sk2, xk2, fk2, xs2, cs2, gs2, vs2, sk3, xk3, fk3, xs3, cs3, gs3, vs3⟩ := id hKS
  refine GoS.iloadN (pc' := 103) at_102 rfl rfl ?_
  refine GoS.bipush (pc' := 105) (v := (16 : Int32)) at_103 rfl rfl ?_
  refine GoS.iand (pc' := 106) at_105 rfl ?_
  by_cases hc1 : (p0 &&& (16 : Int32)) = (0 : Int32)
  ·
    refine GoS.ifYes (pc' := 127) at_106 (XT.i0_eq_t hc1) (by decide) (by decide) ?_
    exact GoS.more (c_rest3 l Z a0 hw hs h p0 p1 p2 p3 p4 p5 kk c kc k0 k1 k2 k3 k4 k5 tt tw tb to ti wV kV w0 s0 t0 kt0 w1 s1 t1 kt1 w2 s2 t2 kt2 w3 s3 t3 kt3 cp wf wo hKS hcp hcw hwf hch7 hch43 hch53 hch58 hch63 hch68 hch69 hch70 hch71 hk0 hk1 hk2 hk3 hk4 hk5 hn0 hn1 hn2 hn3 hn4 hn5 scp sfm so xo fo ge_c xc vc HT xw xb sz_c Kp) (nl rfl) (nl rfl)
  ·
    refine GoS.ifNo (pc' := 109) at_106 (XT.i0_eq_f hc1) rfl ?_
    refine GoS.aload (pc' := 111) at_109 rfl rfl rfl ?_
    refine GoS.iload (pc' := 113) at_111 rfl rfl ?_
    refine GoS.ldcI (pc' := 115) (ww hw 51 rfl) at_113 rfl ?_
    refine GoS.iand (pc' := 116) at_115 rfl ?_
    refine GoS.bipush (pc' := 118) (v := (6 : Int32)) at_116 rfl rfl ?_
    refine GoS.irem (pc' := 119) at_118 (by decide) rfl ?_
    obtain hspl2 | hspl2 | hspl2 | hspl2 | hspl2 | hspl2 := own_mod6 p4
    ·
      rw [hspl2]
      refine GoS.iload (pc' := 121) at_119 rfl rfl ?_
      refine GoS.sipush (pc' := 124) (v := (255 : Int32)) at_121 rfl rfl ?_
      refine GoS.iand (pc' := 125) at_124 rfl ?_
      refine GoS.i2c (pc' := 126) at_125 rfl ?_
      rw [i2c_mask]
      refine GoS.castore (pc' := 127) vc ge_c at_126 (by decide) (by decide) (i := 0) rfl (nl rfl) rfl ?_
      intro h3 W4 V5
      have K6 : Keep hs h3 [] := Kp.wr W4 (Or.inr sz_c)
      rw [(show nar .char (p5 &&& (255 : Int32)) = (p5 &&& (255 : Int32)) from i2c_mask _)] at V5
      replace V5 : Arv Z h3 c kc .char (6 : Int32) [(.int (p5 &&& (255 : Int32))), (.int k1), (.int k2), (.int k3), (.int k4), (.int k5)] (.int 0) := V5
      have ne7 : tw ≠ c := ne_exa (xw.wr W4) (xc.wr W4) (by decide)
      have ne8 : tb ≠ c := ne_exa (xb.wr W4) (xc.wr W4) (by decide)
      exact GoS.more (c_rest3 l Z a0 hw hs h3 p0 p1 p2 p3 p4 p5 kk c kc ((p5 &&& (255 : Int32))) k1 k2 k3 k4 k5 tt tw tb to ti wV kV w0 s0 t0 kt0 w1 s1 t1 kt1 w2 s2 t2 kt2 w3 s3 t3 kt3 cp wf wo hKS hcp hcw hwf hch7 hch43 hch53 hch58 hch63 hch68 hch69 hch70 hch71 (OwnNum.le255 p5) hk1 hk2 hk3 hk4 hk5 ((show nar .char (p5 &&& (255 : Int32)) = (p5 &&& (255 : Int32)) from i2c_mask _)) hn1 hn2 hn3 hn4 hn5 scp sfm so xo fo ge_c (xc.wr W4) V5 (HT.other W4 ne7 ne8) (xw.wr W4) (xb.wr W4) sz_c K6) (nl rfl) (nl rfl)
    ·
      rw [hspl2]
      refine GoS.iload (pc' := 121) at_119 rfl rfl ?_
      refine GoS.sipush (pc' := 124) (v := (255 : Int32)) at_121 rfl rfl ?_
      refine GoS.iand (pc' := 125) at_124 rfl ?_
      refine GoS.i2c (pc' := 126) at_125 rfl ?_
      rw [i2c_mask]
      refine GoS.castore (pc' := 127) vc ge_c at_126 (by decide) (by decide) (i := 1) rfl (nl rfl) rfl ?_
      intro h9 W10 V11
      have K12 : Keep hs h9 [] := Kp.wr W10 (Or.inr sz_c)
      rw [(show nar .char (p5 &&& (255 : Int32)) = (p5 &&& (255 : Int32)) from i2c_mask _)] at V11
      replace V11 : Arv Z h9 c kc .char (6 : Int32) [(.int k0), (.int (p5 &&& (255 : Int32))), (.int k2), (.int k3), (.int k4), (.int k5)] (.int 0) := V11
      have ne13 : tw ≠ c := ne_exa (xw.wr W10) (xc.wr W10) (by decide)
      have ne14 : tb ≠ c := ne_exa (xb.wr W10) (xc.wr W10) (by decide)
      exact GoS.more (c_rest3 l Z a0 hw hs h9 p0 p1 p2 p3 p4 p5 kk c kc k0 ((p5 &&& (255 : Int32))) k2 k3 k4 k5 tt tw tb to ti wV kV w0 s0 t0 kt0 w1 s1 t1 kt1 w2 s2 t2 kt2 w3 s3 t3 kt3 cp wf wo hKS hcp hcw hwf hch7 hch43 hch53 hch58 hch63 hch68 hch69 hch70 hch71 hk0 (OwnNum.le255 p5) hk2 hk3 hk4 hk5 hn0 ((show nar .char (p5 &&& (255 : Int32)) = (p5 &&& (255 : Int32)) from i2c_mask _)) hn2 hn3 hn4 hn5 scp sfm so xo fo ge_c (xc.wr W10) V11 (HT.other W10 ne13 ne14) (xw.wr W10) (xb.wr W10) sz_c K12) (nl rfl) (nl rfl)
    ·
      rw [hspl2]
      refine GoS.iload (pc' := 121) at_119 rfl rfl ?_
      refine GoS.sipush (pc' := 124) (v := (255 : Int32)) at_121 rfl rfl ?_
      refine GoS.iand (pc' := 125) at_124 rfl ?_
      refine GoS.i2c (pc' := 126) at_125 rfl ?_
      rw [i2c_mask]
      refine GoS.castore (pc' := 127) vc ge_c at_126 (by decide) (by decide) (i := 2) rfl (nl rfl) rfl ?_
      intro h15 W16 V17
      have K18 : Keep hs h15 [] := Kp.wr W16 (Or.inr sz_c)
      rw [(show nar .char (p5 &&& (255 : Int32)) = (p5 &&& (255 : Int32)) from i2c_mask _)] at V17
      replace V17 : Arv Z h15 c kc .char (6 : Int32) [(.int k0), (.int k1), (.int (p5 &&& (255 : Int32))), (.int k3), (.int k4), (.int k5)] (.int 0) := V17
      have ne19 : tw ≠ c := ne_exa (xw.wr W16) (xc.wr W16) (by decide)
      have ne20 : tb ≠ c := ne_exa (xb.wr W16) (xc.wr W16) (by decide)
      exact GoS.more (c_rest3 l Z a0 hw hs h15 p0 p1 p2 p3 p4 p5 kk c kc k0 k1 ((p5 &&& (255 : Int32))) k3 k4 k5 tt tw tb to ti wV kV w0 s0 t0 kt0 w1 s1 t1 kt1 w2 s2 t2 kt2 w3 s3 t3 kt3 cp wf wo hKS hcp hcw hwf hch7 hch43 hch53 hch58 hch63 hch68 hch69 hch70 hch71 hk0 hk1 (OwnNum.le255 p5) hk3 hk4 hk5 hn0 hn1 ((show nar .char (p5 &&& (255 : Int32)) = (p5 &&& (255 : Int32)) from i2c_mask _)) hn3 hn4 hn5 scp sfm so xo fo ge_c (xc.wr W16) V17 (HT.other W16 ne19 ne20) (xw.wr W16) (xb.wr W16) sz_c K18) (nl rfl) (nl rfl)
    ·
      rw [hspl2]
      refine GoS.iload (pc' := 121) at_119 rfl rfl ?_
      refine GoS.sipush (pc' := 124) (v := (255 : Int32)) at_121 rfl rfl ?_
      refine GoS.iand (pc' := 125) at_124 rfl ?_
      refine GoS.i2c (pc' := 126) at_125 rfl ?_
      rw [i2c_mask]
      refine GoS.castore (pc' := 127) vc ge_c at_126 (by decide) (by decide) (i := 3) rfl (nl rfl) rfl ?_
      intro h21 W22 V23
      have K24 : Keep hs h21 [] := Kp.wr W22 (Or.inr sz_c)
      rw [(show nar .char (p5 &&& (255 : Int32)) = (p5 &&& (255 : Int32)) from i2c_mask _)] at V23
      replace V23 : Arv Z h21 c kc .char (6 : Int32) [(.int k0), (.int k1), (.int k2), (.int (p5 &&& (255 : Int32))), (.int k4), (.int k5)] (.int 0) := V23
      have ne25 : tw ≠ c := ne_exa (xw.wr W22) (xc.wr W22) (by decide)
      have ne26 : tb ≠ c := ne_exa (xb.wr W22) (xc.wr W22) (by decide)
      exact GoS.more (c_rest3 l Z a0 hw hs h21 p0 p1 p2 p3 p4 p5 kk c kc k0 k1 k2 ((p5 &&& (255 : Int32))) k4 k5 tt tw tb to ti wV kV w0 s0 t0 kt0 w1 s1 t1 kt1 w2 s2 t2 kt2 w3 s3 t3 kt3 cp wf wo hKS hcp hcw hwf hch7 hch43 hch53 hch58 hch63 hch68 hch69 hch70 hch71 hk0 hk1 hk2 (OwnNum.le255 p5) hk4 hk5 hn0 hn1 hn2 ((show nar .char (p5 &&& (255 : Int32)) = (p5 &&& (255 : Int32)) from i2c_mask _)) hn4 hn5 scp sfm so xo fo ge_c (xc.wr W22) V23 (HT.other W22 ne25 ne26) (xw.wr W22) (xb.wr W22) sz_c K24) (nl rfl) (nl rfl)
    ·
      rw [hspl2]
      refine GoS.iload (pc' := 121) at_119 rfl rfl ?_
      refine GoS.sipush (pc' := 124) (v := (255 : Int32)) at_121 rfl rfl ?_
      refine GoS.iand (pc' := 125) at_124 rfl ?_
      refine GoS.i2c (pc' := 126) at_125 rfl ?_
      rw [i2c_mask]
      refine GoS.castore (pc' := 127) vc ge_c at_126 (by decide) (by decide) (i := 4) rfl (nl rfl) rfl ?_
      intro h27 W28 V29
      have K30 : Keep hs h27 [] := Kp.wr W28 (Or.inr sz_c)
      rw [(show nar .char (p5 &&& (255 : Int32)) = (p5 &&& (255 : Int32)) from i2c_mask _)] at V29
      replace V29 : Arv Z h27 c kc .char (6 : Int32) [(.int k0), (.int k1), (.int k2), (.int k3), (.int (p5 &&& (255 : Int32))), (.int k5)] (.int 0) := V29
      have ne31 : tw ≠ c := ne_exa (xw.wr W28) (xc.wr W28) (by decide)
      have ne32 : tb ≠ c := ne_exa (xb.wr W28) (xc.wr W28) (by decide)
      exact GoS.more (c_rest3 l Z a0 hw hs h27 p0 p1 p2 p3 p4 p5 kk c kc k0 k1 k2 k3 ((p5 &&& (255 : Int32))) k5 tt tw tb to ti wV kV w0 s0 t0 kt0 w1 s1 t1 kt1 w2 s2 t2 kt2 w3 s3 t3 kt3 cp wf wo hKS hcp hcw hwf hch7 hch43 hch53 hch58 hch63 hch68 hch69 hch70 hch71 hk0 hk1 hk2 hk3 (OwnNum.le255 p5) hk5 hn0 hn1 hn2 hn3 ((show nar .char (p5 &&& (255 : Int32)) = (p5 &&& (255 : Int32)) from i2c_mask _)) hn5 scp sfm so xo fo ge_c (xc.wr W28) V29 (HT.other W28 ne31 ne32) (xw.wr W28) (xb.wr W28) sz_c K30) (nl rfl) (nl rfl)
    ·
      rw [hspl2]
      refine GoS.iload (pc' := 121) at_119 rfl rfl ?_
      refine GoS.sipush (pc' := 124) (v := (255 : Int32)) at_121 rfl rfl ?_
      refine GoS.iand (pc' := 125) at_124 rfl ?_
      refine GoS.i2c (pc' := 126) at_125 rfl ?_
      rw [i2c_mask]
      refine GoS.castore (pc' := 127) vc ge_c at_126 (by decide) (by decide) (i := 5) rfl (nl rfl) rfl ?_
      intro h33 W34 V35
      have K36 : Keep hs h33 [] := Kp.wr W34 (Or.inr sz_c)
      rw [(show nar .char (p5 &&& (255 : Int32)) = (p5 &&& (255 : Int32)) from i2c_mask _)] at V35
      replace V35 : Arv Z h33 c kc .char (6 : Int32) [(.int k0), (.int k1), (.int k2), (.int k3), (.int k4), (.int (p5 &&& (255 : Int32)))] (.int 0) := V35
      have ne37 : tw ≠ c := ne_exa (xw.wr W34) (xc.wr W34) (by decide)
      have ne38 : tb ≠ c := ne_exa (xb.wr W34) (xc.wr W34) (by decide)
      exact GoS.more (c_rest3 l Z a0 hw hs h33 p0 p1 p2 p3 p4 p5 kk c kc k0 k1 k2 k3 k4 ((p5 &&& (255 : Int32))) tt tw tb to ti wV kV w0 s0 t0 kt0 w1 s1 t1 kt1 w2 s2 t2 kt2 w3 s3 t3 kt3 cp wf wo hKS hcp hcw hwf hch7 hch43 hch53 hch58 hch63 hch68 hch69 hch70 hch71 hk0 hk1 hk2 hk3 hk4 (OwnNum.le255 p5) hn0 hn1 hn2 hn3 hn4 ((show nar .char (p5 &&& (255 : Int32)) = (p5 &&& (255 : Int32)) from i2c_mask _)) scp sfm so xo fo ge_c (xc.wr W34) V35 (HT.other W34 ne37 ne38) (xw.wr W34) (xb.wr W34) sz_c K36) (nl rfl) (nl rfl)
theorem c_rest1 (l : Launch) (Z : State) (a0 : Array Value) (hw : ∀ d ∈ tables_1, d.before a0 Z = true) {n0 : Nat} (hs h : Heap) (p0 : Int32) (p1 : Int32) (p2 : Int32) (p3 : Int32) (p4 : Int32) (p5 : Int32) (kk : Int32) (c : Addr) (kc : ClassId) (k0 : Int32) (k1 : Int32) (k2 : Int32) (k3 : Int32) (k4 : Int32) (k5 : Int32) (tt : String) (tw : Addr) (tb : Addr) (to : String) (ti : Nat) (wV : Addr) (kV : ClassId) (w0 : Addr) (s0 : Addr) (t0 : Addr) (kt0 : ClassId) (w1 : Addr) (s1 : Addr) (t1 : Addr) (kt1 : ClassId) (w2 : Addr) (s2 : Addr) (t2 : Addr) (kt2 : ClassId) (w3 : Addr) (s3 : Addr) (t3 : Addr) (kt3 : ClassId) (cp : Int32) (wf : Value) (wo : Addr) (hKS : KS Z wV kV w0 s0 t0 kt0 w1 s1 t1 kt1 w2 s2 t2 kt2 w3 s3 t3 kt3) (hcp : ¬ (cp = (0 : Int32))) (hcw : Jvm.Lit.compactW.before a0 Z = true) (hwf : wf.isRef = true) (hch7 : Jvm.Lit.constHeld Z "java/lang/String" 7) (hch43 : Jvm.Lit.constHeld Z "com/example/huron/huron/io/config/AuthenticatorKindNamedPinLaw" 43) (hch53 : Jvm.Lit.constHeld Z "com/example/huron/huron/io/config/AuthenticatorKindNamedPinLaw" 53) (hch58 : Jvm.Lit.constHeld Z "com/example/huron/huron/io/config/AuthenticatorKindNamedPinLaw" 58) (hch63 : Jvm.Lit.constHeld Z "com/example/huron/huron/io/config/AuthenticatorKindNamedPinLaw" 63) (hch68 : Jvm.Lit.constHeld Z "com/example/huron/huron/io/config/AuthenticatorKindNamedPinLaw" 68) (hch69 : Jvm.Lit.constHeld Z "com/example/huron/huron/io/config/AuthenticatorKindNamedPinLaw" 69) (hch70 : Jvm.Lit.constHeld Z "com/example/huron/huron/io/config/AuthenticatorKindNamedPinLaw" 70) (hch71 : Jvm.Lit.constHeld Z "com/example/huron/huron/io/config/AuthenticatorKindNamedPinLaw" 71) (hk0 : ¬ ((255 : Int32) < k0)) (hk1 : ¬ ((255 : Int32) < k1)) (hk2 : ¬ ((255 : Int32) < k2)) (hk3 : ¬ ((255 : Int32) < k3)) (hk4 : ¬ ((255 : Int32) < k4)) (hk5 : ¬ ((255 : Int32) < k5)) (hn0 : nar .char k0 = k0) (hn1 : nar .char k1 = k1) (hn2 : nar .char k2 = k2) (hn3 : nar .char k3 = k3) (hn4 : nar .char k4 = k4) (hn5 : nar .char k5 = k5) (scp : Sta Z Z.heap "java/lang/String" "COMPACT_STRINGS" "Z" (.int cp)) (sfm : Sta Z Z.heap "jdk/internal/util/Preconditions" "SIOOBE_FORMATTER" "Ljava/util/function/BiFunction;" wf) (so : Sta Z Z.heap "java/util/Optional" "EMPTY" "Ljava/util/Optional;" (.ref wo)) (xo : Exa Z Z.heap wo "java/util/Optional") (fo : Fld Z Z.heap wo "java/util/Optional" "value" "Ljava/lang/Object;" .null) (ge_c : n0 ≤ c) (xc : Exa Z h c "[C") (vc : Arv Z h c kc .char (6 : Int32) [(.int k0), (.int k1), (.int k2), (.int k3), (.int k4), (.int k5)] (.int 0)) (HT : Hel Z h tw tb tt) (xw : Exa Z h tw "java/lang/String") (xb : Exa Z h tb "[B") (sz_c : hs.size ≤ c) (Kp : Keep hs h []) :
    GoS l room_1 Z n0 x code maxLocals ret (fun v h' LL' => v = some (.int (1 : Int32)) ∧ Keep hs h' []) hs [(tt, tw, to, ti)] 20 200 h 79 #[.val (.int p0), .val (.int p1), .val (.int p2), .val (.int p3), .val (.int p4), .val (.int p5), .val (.int kk), .val (.ref tw), .val (.ref c), .unset, .unset, .unset, .unset] [] := by
  obtain ⟨sv, vv, xv, sk0, xk0, fk0, xs0, cs0, gs0, vs0, sk1, xk1, fk1, xs1, cs1, gs1, vs1, sk2, xk2, fk2, xs2, cs2, gs2, vs2, sk3, xk3, fk3, xs3, cs3, gs3, vs3⟩ := id hKS
  refine GoS.iloadN (pc' := 80) at_79 rfl rfl ?_
  refine GoS.bipush (pc' := 82) (v := (8 : Int32)) at_80 rfl rfl ?_
  refine GoS.iand (pc' := 83) at_82 rfl ?_
  by_cases hc1 : (p0 &&& (8 : Int32)) = (0 : Int32)
  ·
    refine GoS.ifYes (pc' := 102) at_83 (XT.i0_eq_t hc1) (by decide) (by decide) ?_
    exact GoS.more (c_rest2 l Z a0 hw hs h p0 p1 p2 p3 p4 p5 kk c kc k0 k1 k2 k3 k4 k5 tt tw tb to ti wV kV w0 s0 t0 kt0 w1 s1 t1 kt1 w2 s2 t2 kt2 w3 s3 t3 kt3 cp wf wo hKS hcp hcw hwf hch7 hch43 hch53 hch58 hch63 hch68 hch69 hch70 hch71 hk0 hk1 hk2 hk3 hk4 hk5 hn0 hn1 hn2 hn3 hn4 hn5 scp sfm so xo fo ge_c xc vc HT xw xb sz_c Kp) (nl rfl) (nl rfl)
  ·
    refine GoS.ifNo (pc' := 86) at_83 (XT.i0_eq_f hc1) rfl ?_
    refine GoS.aload (pc' := 88) at_86 rfl rfl rfl ?_
    refine GoS.iloadN (pc' := 89) at_88 rfl rfl ?_
    refine GoS.ldcI (pc' := 91) (ww hw 51 rfl) at_89 rfl ?_
    refine GoS.iand (pc' := 92) at_91 rfl ?_
    refine GoS.bipush (pc' := 94) (v := (6 : Int32)) at_92 rfl rfl ?_
    refine GoS.irem (pc' := 95) at_94 (by decide) rfl ?_
    obtain hspl2 | hspl2 | hspl2 | hspl2 | hspl2 | hspl2 := own_mod6 p2
    ·
      rw [hspl2]
      refine GoS.iloadN (pc' := 96) at_95 rfl rfl ?_
      refine GoS.sipush (pc' := 99) (v := (255 : Int32)) at_96 rfl rfl ?_
      refine GoS.iand (pc' := 100) at_99 rfl ?_
      refine GoS.i2c (pc' := 101) at_100 rfl ?_
      rw [i2c_mask]
      refine GoS.castore (pc' := 102) vc ge_c at_101 (by decide) (by decide) (i := 0) rfl (nl rfl) rfl ?_
      intro h3 W4 V5
      have K6 : Keep hs h3 [] := Kp.wr W4 (Or.inr sz_c)
      rw [(show nar .char (p3 &&& (255 : Int32)) = (p3 &&& (255 : Int32)) from i2c_mask _)] at V5
      replace V5 : Arv Z h3 c kc .char (6 : Int32) [(.int (p3 &&& (255 : Int32))), (.int k1), (.int k2), (.int k3), (.int k4), (.int k5)] (.int 0) := V5
      have ne7 : tw ≠ c := ne_exa (xw.wr W4) (xc.wr W4) (by decide)
      have ne8 : tb ≠ c := ne_exa (xb.wr W4) (xc.wr W4) (by decide)
      exact GoS.more (c_rest2 l Z a0 hw hs h3 p0 p1 p2 p3 p4 p5 kk c kc ((p3 &&& (255 : Int32))) k1 k2 k3 k4 k5 tt tw tb to ti wV kV w0 s0 t0 kt0 w1 s1 t1 kt1 w2 s2 t2 kt2 w3 s3 t3 kt3 cp wf wo hKS hcp hcw hwf hch7 hch43 hch53 hch58 hch63 hch68 hch69 hch70 hch71 (OwnNum.le255 p3) hk1 hk2 hk3 hk4 hk5 ((show nar .char (p3 &&& (255 : Int32)) = (p3 &&& (255 : Int32)) from i2c_mask _)) hn1 hn2 hn3 hn4 hn5 scp sfm so xo fo ge_c (xc.wr W4) V5 (HT.other W4 ne7 ne8) (xw.wr W4) (xb.wr W4) sz_c K6) (nl rfl) (nl rfl)
    ·
      rw [hspl2]
      refine GoS.iloadN (pc' := 96) at_95 rfl rfl ?_
      refine GoS.sipush (pc' := 99) (v := (255 : Int32)) at_96 rfl rfl ?_
      refine GoS.iand (pc' := 100) at_99 rfl ?_
      refine GoS.i2c (pc' := 101) at_100 rfl ?_
      rw [i2c_mask]
      refine GoS.castore (pc' := 102) vc ge_c at_101 (by decide) (by decide) (i := 1) rfl (nl rfl) rfl ?_
      intro h9 W10 V11
      have K12 : Keep hs h9 [] := Kp.wr W10 (Or.inr sz_c)
      rw [(show nar .char (p3 &&& (255 : Int32)) = (p3 &&& (255 : Int32)) from i2c_mask _)] at V11
      replace V11 : Arv Z h9 c kc .char (6 : Int32) [(.int k0), (.int (p3 &&& (255 : Int32))), (.int k2), (.int k3), (.int k4), (.int k5)] (.int 0) := V11
      have ne13 : tw ≠ c := ne_exa (xw.wr W10) (xc.wr W10) (by decide)
      have ne14 : tb ≠ c := ne_exa (xb.wr W10) (xc.wr W10) (by decide)
      exact GoS.more (c_rest2 l Z a0 hw hs h9 p0 p1 p2 p3 p4 p5 kk c kc k0 ((p3 &&& (255 : Int32))) k2 k3 k4 k5 tt tw tb to ti wV kV w0 s0 t0 kt0 w1 s1 t1 kt1 w2 s2 t2 kt2 w3 s3 t3 kt3 cp wf wo hKS hcp hcw hwf hch7 hch43 hch53 hch58 hch63 hch68 hch69 hch70 hch71 hk0 (OwnNum.le255 p3) hk2 hk3 hk4 hk5 hn0 ((show nar .char (p3 &&& (255 : Int32)) = (p3 &&& (255 : Int32)) from i2c_mask _)) hn2 hn3 hn4 hn5 scp sfm so xo fo ge_c (xc.wr W10) V11 (HT.other W10 ne13 ne14) (xw.wr W10) (xb.wr W10) sz_c K12) (nl rfl) (nl rfl)
    ·
      rw [hspl2]
      refine GoS.iloadN (pc' := 96) at_95 rfl rfl ?_
      refine GoS.sipush (pc' := 99) (v := (255 : Int32)) at_96 rfl rfl ?_
      refine GoS.iand (pc' := 100) at_99 rfl ?_
      refine GoS.i2c (pc' := 101) at_100 rfl ?_
      rw [i2c_mask]
      refine GoS.castore (pc' := 102) vc ge_c at_101 (by decide) (by decide) (i := 2) rfl (nl rfl) rfl ?_
      intro h15 W16 V17
      have K18 : Keep hs h15 [] := Kp.wr W16 (Or.inr sz_c)
      rw [(show nar .char (p3 &&& (255 : Int32)) = (p3 &&& (255 : Int32)) from i2c_mask _)] at V17
      replace V17 : Arv Z h15 c kc .char (6 : Int32) [(.int k0), (.int k1), (.int (p3 &&& (255 : Int32))), (.int k3), (.int k4), (.int k5)] (.int 0) := V17
      have ne19 : tw ≠ c := ne_exa (xw.wr W16) (xc.wr W16) (by decide)
      have ne20 : tb ≠ c := ne_exa (xb.wr W16) (xc.wr W16) (by decide)
      exact GoS.more (c_rest2 l Z a0 hw hs h15 p0 p1 p2 p3 p4 p5 kk c kc k0 k1 ((p3 &&& (255 : Int32))) k3 k4 k5 tt tw tb to ti wV kV w0 s0 t0 kt0 w1 s1 t1 kt1 w2 s2 t2 kt2 w3 s3 t3 kt3 cp wf wo hKS hcp hcw hwf hch7 hch43 hch53 hch58 hch63 hch68 hch69 hch70 hch71 hk0 hk1 (OwnNum.le255 p3) hk3 hk4 hk5 hn0 hn1 ((show nar .char (p3 &&& (255 : Int32)) = (p3 &&& (255 : Int32)) from i2c_mask _)) hn3 hn4 hn5 scp sfm so xo fo ge_c (xc.wr W16) V17 (HT.other W16 ne19 ne20) (xw.wr W16) (xb.wr W16) sz_c K18) (nl rfl) (nl rfl)
    ·
      rw [hspl2]
      refine GoS.iloadN (pc' := 96) at_95 rfl rfl ?_
      refine GoS.sipush (pc' := 99) (v := (255 : Int32)) at_96 rfl rfl ?_
      refine GoS.iand (pc' := 100) at_99 rfl ?_
      refine GoS.i2c (pc' := 101) at_100 rfl ?_
      rw [i2c_mask]
      refine GoS.castore (pc' := 102) vc ge_c at_101 (by decide) (by decide) (i := 3) rfl (nl rfl) rfl ?_
      intro h21 W22 V23
      have K24 : Keep hs h21 [] := Kp.wr W22 (Or.inr sz_c)
      rw [(show nar .char (p3 &&& (255 : Int32)) = (p3 &&& (255 : Int32)) from i2c_mask _)] at V23
      replace V23 : Arv Z h21 c kc .char (6 : Int32) [(.int k0), (.int k1), (.int k2), (.int (p3 &&& (255 : Int32))), (.int k4), (.int k5)] (.int 0) := V23
      have ne25 : tw ≠ c := ne_exa (xw.wr W22) (xc.wr W22) (by decide)
      have ne26 : tb ≠ c := ne_exa (xb.wr W22) (xc.wr W22) (by decide)
      exact GoS.more (c_rest2 l Z a0 hw hs h21 p0 p1 p2 p3 p4 p5 kk c kc k0 k1 k2 ((p3 &&& (255 : Int32))) k4 k5 tt tw tb to ti wV kV w0 s0 t0 kt0 w1 s1 t1 kt1 w2 s2 t2 kt2 w3 s3 t3 kt3 cp wf wo hKS hcp hcw hwf hch7 hch43 hch53 hch58 hch63 hch68 hch69 hch70 hch71 hk0 hk1 hk2 (OwnNum.le255 p3) hk4 hk5 hn0 hn1 hn2 ((show nar .char (p3 &&& (255 : Int32)) = (p3 &&& (255 : Int32)) from i2c_mask _)) hn4 hn5 scp sfm so xo fo ge_c (xc.wr W22) V23 (HT.other W22 ne25 ne26) (xw.wr W22) (xb.wr W22) sz_c K24) (nl rfl) (nl rfl)
    ·
      rw [hspl2]
      refine GoS.iloadN (pc' := 96) at_95 rfl rfl ?_
      refine GoS.sipush (pc' := 99) (v := (255 : Int32)) at_96 rfl rfl ?_
      refine GoS.iand (pc' := 100) at_99 rfl ?_
      refine GoS.i2c (pc' := 101) at_100 rfl ?_
      rw [i2c_mask]
      refine GoS.castore (pc' := 102) vc ge_c at_101 (by decide) (by decide) (i := 4) rfl (nl rfl) rfl ?_
      intro h27 W28 V29
      have K30 : Keep hs h27 [] := Kp.wr W28 (Or.inr sz_c)
      rw [(show nar .char (p3 &&& (255 : Int32)) = (p3 &&& (255 : Int32)) from i2c_mask _)] at V29
      replace V29 : Arv Z h27 c kc .char (6 : Int32) [(.int k0), (.int k1), (.int k2), (.int k3), (.int (p3 &&& (255 : Int32))), (.int k5)] (.int 0) := V29
      have ne31 : tw ≠ c := ne_exa (xw.wr W28) (xc.wr W28) (by decide)
      have ne32 : tb ≠ c := ne_exa (xb.wr W28) (xc.wr W28) (by decide)
      exact GoS.more (c_rest2 l Z a0 hw hs h27 p0 p1 p2 p3 p4 p5 kk c kc k0 k1 k2 k3 ((p3 &&& (255 : Int32))) k5 tt tw tb to ti wV kV w0 s0 t0 kt0 w1 s1 t1 kt1 w2 s2 t2 kt2 w3 s3 t3 kt3 cp wf wo hKS hcp hcw hwf hch7 hch43 hch53 hch58 hch63 hch68 hch69 hch70 hch71 hk0 hk1 hk2 hk3 (OwnNum.le255 p3) hk5 hn0 hn1 hn2 hn3 ((show nar .char (p3 &&& (255 : Int32)) = (p3 &&& (255 : Int32)) from i2c_mask _)) hn5 scp sfm so xo fo ge_c (xc.wr W28) V29 (HT.other W28 ne31 ne32) (xw.wr W28) (xb.wr W28) sz_c K30) (nl rfl) (nl rfl)
    ·
      rw [hspl2]
      refine GoS.iloadN (pc' := 96) at_95 rfl rfl ?_
      refine GoS.sipush (pc' := 99) (v := (255 : Int32)) at_96 rfl rfl ?_
      refine GoS.iand (pc' := 100) at_99 rfl ?_
      refine GoS.i2c (pc' := 101) at_100 rfl ?_
      rw [i2c_mask]
      refine GoS.castore (pc' := 102) vc ge_c at_101 (by decide) (by decide) (i := 5) rfl (nl rfl) rfl ?_
      intro h33 W34 V35
      have K36 : Keep hs h33 [] := Kp.wr W34 (Or.inr sz_c)
      rw [(show nar .char (p3 &&& (255 : Int32)) = (p3 &&& (255 : Int32)) from i2c_mask _)] at V35
      replace V35 : Arv Z h33 c kc .char (6 : Int32) [(.int k0), (.int k1), (.int k2), (.int k3), (.int k4), (.int (p3 &&& (255 : Int32)))] (.int 0) := V35
      have ne37 : tw ≠ c := ne_exa (xw.wr W34) (xc.wr W34) (by decide)
      have ne38 : tb ≠ c := ne_exa (xb.wr W34) (xc.wr W34) (by decide)
      exact GoS.more (c_rest2 l Z a0 hw hs h33 p0 p1 p2 p3 p4 p5 kk c kc k0 k1 k2 k3 k4 ((p3 &&& (255 : Int32))) tt tw tb to ti wV kV w0 s0 t0 kt0 w1 s1 t1 kt1 w2 s2 t2 kt2 w3 s3 t3 kt3 cp wf wo hKS hcp hcw hwf hch7 hch43 hch53 hch58 hch63 hch68 hch69 hch70 hch71 hk0 hk1 hk2 hk3 hk4 (OwnNum.le255 p3) hn0 hn1 hn2 hn3 hn4 ((show nar .char (p3 &&& (255 : Int32)) = (p3 &&& (255 : Int32)) from i2c_mask _)) scp sfm so xo fo ge_c (xc.wr W34) V35 (HT.other W34 ne37 ne38) (xw.wr W34) (xb.wr W34) sz_c K36) (nl rfl) (nl rfl)
theorem pd_22 : parseMethodDescriptor "(Ljava/lang/String;I)C" = some ⟨[(.object "java/lang/String"), .int], some .char⟩ := by decide +kernel
theorem c_rest0_4 (l : Launch) (Z : State) (a0 : Array Value) (hw : ∀ d ∈ tables_1, d.before a0 Z = true) {n0 : Nat} (hs h : Heap) (p0 : Int32) (p1 : Int32) (p2 : Int32) (p3 : Int32) (p4 : Int32) (p5 : Int32) (kk : Int32) (tt : String) (tw : Addr) (tb : Addr) (to : String) (ti : Nat) (kb : ClassId) (x0 : Int32) (x1 : Int32) (x2 : Int32) (x3 : Int32) (wV : Addr) (kV : ClassId) (w0 : Addr) (s0 : Addr) (t0 : Addr) (kt0 : ClassId) (w1 : Addr) (s1 : Addr) (t1 : Addr) (kt1 : ClassId) (w2 : Addr) (s2 : Addr) (t2 : Addr) (kt2 : ClassId) (w3 : Addr) (s3 : Addr) (t3 : Addr) (kt3 : ClassId) (cp : Int32) (wf : Value) (wo : Addr) (hKS : KS Z wV kV w0 s0 t0 kt0 w1 s1 t1 kt1 w2 s2 t2 kt2 w3 s3 t3 kt3) (hcp : ¬ (cp = (0 : Int32))) (hcw : Jvm.Lit.compactW.before a0 Z = true) (hwf : wf.isRef = true) (hch7 : Jvm.Lit.constHeld Z "java/lang/String" 7) (hch43 : Jvm.Lit.constHeld Z "com/example/huron/huron/io/config/AuthenticatorKindNamedPinLaw" 43) (hch53 : Jvm.Lit.constHeld Z "com/example/huron/huron/io/config/AuthenticatorKindNamedPinLaw" 53) (hch58 : Jvm.Lit.constHeld Z "com/example/huron/huron/io/config/AuthenticatorKindNamedPinLaw" 58) (hch63 : Jvm.Lit.constHeld Z "com/example/huron/huron/io/config/AuthenticatorKindNamedPinLaw" 63) (hch68 : Jvm.Lit.constHeld Z "com/example/huron/huron/io/config/AuthenticatorKindNamedPinLaw" 68) (hch69 : Jvm.Lit.constHeld Z "com/example/huron/huron/io/config/AuthenticatorKindNamedPinLaw" 69) (hch70 : Jvm.Lit.constHeld Z "com/example/huron/huron/io/config/AuthenticatorKindNamedPinLaw" 70) (hch71 : Jvm.Lit.constHeld Z "com/example/huron/huron/io/config/AuthenticatorKindNamedPinLaw" 71) (scp : Sta Z Z.heap "java/lang/String" "COMPACT_STRINGS" "Z" (.int cp)) (sfm : Sta Z Z.heap "jdk/internal/util/Preconditions" "SIOOBE_FORMATTER" "Ljava/util/function/BiFunction;" wf) (so : Sta Z Z.heap "java/util/Optional" "EMPTY" "Ljava/util/Optional;" (.ref wo)) (xo : Exa Z Z.heap wo "java/util/Optional") (fo : Fld Z Z.heap wo "java/util/Optional" "value" "Ljava/lang/Object;" .null) (HT : Hel Z h tw tb tt) (xw : Exa Z h tw "java/lang/String") (cw : Fld Z h tw "java/lang/String" "coder" "B" (.int (0 : Int32))) (gw : Fld Z h tw "java/lang/String" "value" "[B" (.ref tb)) (vw : Arv Z h tb kb .byte (4 : Int32) [(.int x0), (.int x1), (.int x2), (.int x3)] (.int 0)) (xb : Exa Z h tb "[B") (Kp : Keep hs h []) :
    GoS l room_1 Z n0 x code maxLocals ret (fun v h' LL' => v = some (.int (1 : Int32)) ∧ Keep hs h' []) hs [(tt, tw, to, ti)] 3 30 h 13 #[.val (.int p0), .val (.int p1), .val (.int p2), .val (.int p3), .val (.int p4), .val (.int p5), .val (.int kk), .val (.ref tw), .unset, .unset, .unset, .unset, .unset] [] := by
  obtain ⟨sv, vv, xv, sk0, xk0, fk0, xs0, cs0, gs0, vs0, sk1, xk1, fk1, xs1, cs1, gs1, vs1, sk2, xk2, fk2, xs2, cs2, gs2, vs2, sk3, xk3, fk3, xs3, cs3, gs3, vs3⟩ := id hKS
  refine GoS.bipush (pc' := 15) (v := (6 : Int32)) at_13 rfl rfl ?_
  refine GoS.newarray (pc' := 17) (cells' := 4) (slots' := 36) (cap := 6) (ww hw 12 rfl) at_15 (ad := "[C") (by decide) (by decide) (by decide) rfl rfl (by decide) (by decide) (by decide) rfl ?_
  intro h1 b1 g1 E1 ge1 kA1 A1 X1
  have sz2 : hs.size ≤ b1 := Nat.le_trans Kp.1 (Nat.le_of_eq g1.symm)
  have K3 : Keep hs h1 [] := Kp.ext E1
  have V1 : Arv Z h1 b1 kA1 .char (6 : Int32) [(.int 0), (.int 0), (.int 0), (.int 0), (.int 0), (.int 0)] (.int 0) := Arv.pad A1 (pad_rep [] (.int 0) 6)
  refine GoS.astore (pc' := 19) (Ls' := #[.val (.int p0), .val (.int p1), .val (.int p2), .val (.int p3), .val (.int p4), .val (.int p5), .val (.int kk), .val (.ref tw), .val (.ref b1), .unset, .unset, .unset, .unset]) at_17 rfl rfl rfl ?_
  refine GoS.aload (pc' := 21) at_19 rfl rfl rfl ?_
  refine GoS.iconst (pc' := 22) (v := (0 : Int32)) at_21 rfl rfl ?_
  refine GoS.aload (pc' := 24) at_22 rfl rfl rfl ?_
  refine GoS.iconst (pc' := 25) (v := (0 : Int32)) at_24 rfl rfl ?_
  refine GoS.callS (cells' := 4) (slots' := 36) (pc' := 28) [(.ref tw), (.int (0 : Int32))] [(.int (0 : Int32)), (.ref b1)] (ww hw 13 rfl) (ww hw 14 rfl) (ww hw 2 rfl) (ww hw 15 rfl) (by decide) (Con.cold (c_at4_0 l Z a0 hw h1 tw tb kb x0 x1 x2 x3 cp wf hcp hwf scp sfm (xw.ext E1) (cw.ext E1) (gw.ext E1) (vw.ext E1))) pd_22 rfl rfl rfl rfl rfl (nl rfl) (nl rfl) (nl rfl) (nl rfl) at_25 rfl ?_
  rintro _ _ _ ⟨⟨rfl, rfl⟩, rfl⟩
  show GoS _ _ _ _ _ _ _ _ _ _ _ _ _ _ 28 #[.val (.int p0), .val (.int p1), .val (.int p2), .val (.int p3), .val (.int p4), .val (.int p5), .val (.int kk), .val (.ref tw), .val (.ref b1), .unset, .unset, .unset, .unset] [(.int (x0 &&& (255 : Int32))), (.int (0 : Int32)), (.ref b1)]
  refine GoS.castore (pc' := 29) V1 ge1 at_28 (by decide) (by decide) (i := 0) rfl (nl rfl) rfl ?_
  intro h5 W6 V7
  have K8 : Keep hs h5 [] := K3.wr W6 (Or.inr sz2)
  rw [(show nar .char (x0 &&& (255 : Int32)) = (x0 &&& (255 : Int32)) from i2c_mask _)] at V7
  replace V7 : Arv Z h5 b1 kA1 .char (6 : Int32) [(.int (x0 &&& (255 : Int32))), (.int 0), (.int 0), (.int 0), (.int 0), (.int 0)] (.int 0) := V7
  refine GoS.aload (pc' := 31) at_29 rfl rfl rfl ?_
  refine GoS.iconst (pc' := 32) (v := (1 : Int32)) at_31 rfl rfl ?_
  refine GoS.aload (pc' := 34) at_32 rfl rfl rfl ?_
  refine GoS.iconst (pc' := 35) (v := (1 : Int32)) at_34 rfl rfl ?_
  have ne9 : tw ≠ b1 := (Nat.ne_of_lt (Nat.lt_of_lt_of_le HT.lt0 (Nat.le_of_eq g1.symm)))
  have ne10 : tb ≠ b1 := (Nat.ne_of_lt (Nat.lt_of_lt_of_le xb.lt (Nat.le_of_eq g1.symm)))
  refine GoS.callS (cells' := 4) (slots' := 36) (pc' := 38) [(.ref tw), (.int (1 : Int32))] [(.int (1 : Int32)), (.ref b1)] (ww hw 13 rfl) (ww hw 14 rfl) (ww hw 2 rfl) (ww hw 15 rfl) (by decide) (Con.cold (c_at4_1 l Z a0 hw h5 tw tb kb x0 x1 x2 x3 cp wf hcp hwf scp sfm (((xw.ext E1).wr W6)) (((cw.ext E1).other W6 (Or.inl ne9))) (((gw.ext E1).other W6 (Or.inl ne9))) (((vw.ext E1).other W6 ne10)))) pd_22 rfl rfl rfl rfl rfl (nl rfl) (nl rfl) (nl rfl) (nl rfl) at_35 rfl ?_
  rintro _ _ _ ⟨⟨rfl, rfl⟩, rfl⟩
  show GoS _ _ _ _ _ _ _ _ _ _ _ _ _ _ 38 #[.val (.int p0), .val (.int p1), .val (.int p2), .val (.int p3), .val (.int p4), .val (.int p5), .val (.int kk), .val (.ref tw), .val (.ref b1), .unset, .unset, .unset, .unset] [(.int (x1 &&& (255 : Int32))), (.int (1 : Int32)), (.ref b1)]
  refine GoS.castore (pc' := 39) V7 ge1 at_38 (by decide) (by decide) (i := 1) rfl (nl rfl) rfl ?_
  intro h12 W13 V14
  have K15 : Keep hs h12 [] := K8.wr W13 (Or.inr sz2)
  rw [(show nar .char (x1 &&& (255 : Int32)) = (x1 &&& (255 : Int32)) from i2c_mask _)] at V14
  replace V14 : Arv Z h12 b1 kA1 .char (6 : Int32) [(.int (x0 &&& (255 : Int32))), (.int (x1 &&& (255 : Int32))), (.int 0), (.int 0), (.int 0), (.int 0)] (.int 0) := V14
  refine GoS.aload (pc' := 41) at_39 rfl rfl rfl ?_
  refine GoS.iconst (pc' := 42) (v := (2 : Int32)) at_41 rfl rfl ?_
  refine GoS.aload (pc' := 44) at_42 rfl rfl rfl ?_
  refine GoS.iconst (pc' := 45) (v := (2 : Int32)) at_44 rfl rfl ?_
  have f16 : Fld Z h12 tw "java/lang/String" "coder" "B" (.int (0 : Int32)) := (((cw.ext E1).other W6 (Or.inl ne9)).other W13 (Or.inl ne9))
  have f17 : Fld Z h12 tw "java/lang/String" "value" "[B" (.ref tb) := (((gw.ext E1).other W6 (Or.inl ne9)).other W13 (Or.inl ne9))
  have f18 : Arv Z h12 tb kb .byte (4 : Int32) [(.int x0), (.int x1), (.int x2), (.int x3)] (.int 0) := (((vw.ext E1).other W6 ne10).other W13 ne10)
  refine GoS.callS (cells' := 4) (slots' := 36) (pc' := 48) [(.ref tw), (.int (2 : Int32))] [(.int (2 : Int32)), (.ref b1)] (ww hw 13 rfl) (ww hw 14 rfl) (ww hw 2 rfl) (ww hw 15 rfl) (by decide) (Con.cold (c_at4_2 l Z a0 hw h12 tw tb kb x0 x1 x2 x3 cp wf hcp hwf scp sfm ((((xw.ext E1).wr W6).wr W13)) f16 f17 f18)) pd_22 rfl rfl rfl rfl rfl (nl rfl) (nl rfl) (nl rfl) (nl rfl) at_45 rfl ?_
  rintro _ _ _ ⟨⟨rfl, rfl⟩, rfl⟩
  show GoS _ _ _ _ _ _ _ _ _ _ _ _ _ _ 48 #[.val (.int p0), .val (.int p1), .val (.int p2), .val (.int p3), .val (.int p4), .val (.int p5), .val (.int kk), .val (.ref tw), .val (.ref b1), .unset, .unset, .unset, .unset] [(.int (x2 &&& (255 : Int32))), (.int (2 : Int32)), (.ref b1)]
  refine GoS.castore (pc' := 49) V14 ge1 at_48 (by decide) (by decide) (i := 2) rfl (nl rfl) rfl ?_
  intro h20 W21 V22
  have K23 : Keep hs h20 [] := K15.wr W21 (Or.inr sz2)
  rw [(show nar .char (x2 &&& (255 : Int32)) = (x2 &&& (255 : Int32)) from i2c_mask _)] at V22
  replace V22 : Arv Z h20 b1 kA1 .char (6 : Int32) [(.int (x0 &&& (255 : Int32))), (.int (x1 &&& (255 : Int32))), (.int (x2 &&& (255 : Int32))), (.int 0), (.int 0), (.int 0)] (.int 0) := V22
  refine GoS.aload (pc' := 51) at_49 rfl rfl rfl ?_
  refine GoS.iconst (pc' := 52) (v := (3 : Int32)) at_51 rfl rfl ?_
  refine GoS.aload (pc' := 54) at_52 rfl rfl rfl ?_
  refine GoS.iconst (pc' := 55) (v := (3 : Int32)) at_54 rfl rfl ?_
  refine GoS.callS (cells' := 4) (slots' := 36) (pc' := 58) [(.ref tw), (.int (3 : Int32))] [(.int (3 : Int32)), (.ref b1)] (ww hw 13 rfl) (ww hw 14 rfl) (ww hw 2 rfl) (ww hw 15 rfl) (by decide) (Con.cold (c_at4_3 l Z a0 hw h20 tw tb kb x0 x1 x2 x3 cp wf hcp hwf scp sfm (((((xw.ext E1).wr W6).wr W13).wr W21)) ((f16.other W21 (Or.inl ne9))) ((f17.other W21 (Or.inl ne9))) (f18.other W21 ne10))) pd_22 rfl rfl rfl rfl rfl (nl rfl) (nl rfl) (nl rfl) (nl rfl) at_55 rfl ?_
  rintro _ _ _ ⟨⟨rfl, rfl⟩, rfl⟩
  show GoS _ _ _ _ _ _ _ _ _ _ _ _ _ _ 58 #[.val (.int p0), .val (.int p1), .val (.int p2), .val (.int p3), .val (.int p4), .val (.int p5), .val (.int kk), .val (.ref tw), .val (.ref b1), .unset, .unset, .unset, .unset] [(.int (x3 &&& (255 : Int32))), (.int (3 : Int32)), (.ref b1)]
  refine GoS.castore (pc' := 59) V22 ge1 at_58 (by decide) (by decide) (i := 3) rfl (nl rfl) rfl ?_
  intro h25 W26 V27
  have K28 : Keep hs h25 [] := K23.wr W26 (Or.inr sz2)
  rw [(show nar .char (x3 &&& (255 : Int32)) = (x3 &&& (255 : Int32)) from i2c_mask _)] at V27
  replace V27 : Arv Z h25 b1 kA1 .char (6 : Int32) [(.int (x0 &&& (255 : Int32))), (.int (x1 &&& (255 : Int32))), (.int (x2 &&& (255 : Int32))), (.int (x3 &&& (255 : Int32))), (.int 0), (.int 0)] (.int 0) := V27
  refine GoS.aload (pc' := 61) at_59 rfl rfl rfl ?_
  refine GoS.iconst (pc' := 62) (v := (4 : Int32)) at_61 rfl rfl ?_
  refine GoS.aload (pc' := 64) at_62 rfl rfl rfl ?_
  refine GoS.iconst (pc' := 65) (v := (4 : Int32)) at_64 rfl rfl ?_
  have f29 : Exa Z h25 tw "java/lang/String" := (((((xw.ext E1).wr W6).wr W13).wr W21).wr W26)
  have f30 : Fld Z h25 tw "java/lang/String" "coder" "B" (.int (0 : Int32)) := ((f16.other W21 (Or.inl ne9)).other W26 (Or.inl ne9))
  have f31 : Fld Z h25 tw "java/lang/String" "value" "[B" (.ref tb) := ((f17.other W21 (Or.inl ne9)).other W26 (Or.inl ne9))
  refine GoS.callS (cells' := 4) (slots' := 36) (pc' := 68) [(.ref tw), (.int (4 : Int32))] [(.int (4 : Int32)), (.ref b1)] (ww hw 13 rfl) (ww hw 14 rfl) (ww hw 2 rfl) (ww hw 15 rfl) (by decide) (Con.cold (c_at4_4 l Z a0 hw h25 tw tb kb x0 x1 x2 x3 cp wf hcp hwf scp sfm f29 f30 f31 (((f18.other W21 ne10).other W26 ne10)))) pd_22 rfl rfl rfl rfl rfl (nl rfl) (nl rfl) (nl rfl) (nl rfl) at_65 rfl ?_
  rintro _ _ _ ⟨⟨rfl, rfl⟩, rfl⟩
  show GoS _ _ _ _ _ _ _ _ _ _ _ _ _ _ 68 #[.val (.int p0), .val (.int p1), .val (.int p2), .val (.int p3), .val (.int p4), .val (.int p5), .val (.int kk), .val (.ref tw), .val (.ref b1), .unset, .unset, .unset, .unset] [(.int (120 : Int32)), (.int (4 : Int32)), (.ref b1)]
  refine GoS.castore (pc' := 69) V27 ge1 at_68 (by decide) (by decide) (i := 4) rfl (nl rfl) rfl ?_
  intro h33 W34 V35
  have K36 : Keep hs h33 [] := K28.wr W34 (Or.inr sz2)
  replace V35 : Arv Z h33 b1 kA1 .char (6 : Int32) [(.int (x0 &&& (255 : Int32))), (.int (x1 &&& (255 : Int32))), (.int (x2 &&& (255 : Int32))), (.int (x3 &&& (255 : Int32))), (.int (120 : Int32)), (.int 0)] (.int 0) := V35
  refine GoS.aload (pc' := 71) at_69 rfl rfl rfl ?_
  refine GoS.iconst (pc' := 72) (v := (5 : Int32)) at_71 rfl rfl ?_
  refine GoS.aload (pc' := 74) at_72 rfl rfl rfl ?_
  refine GoS.iconst (pc' := 75) (v := (5 : Int32)) at_74 rfl rfl ?_
  have f37 : Arv Z h33 tb kb .byte (4 : Int32) [(.int x0), (.int x1), (.int x2), (.int x3)] (.int 0) := (((f18.other W21 ne10).other W26 ne10).other W34 ne10)
  refine GoS.callS (cells' := 4) (slots' := 36) (pc' := 78) [(.ref tw), (.int (5 : Int32))] [(.int (5 : Int32)), (.ref b1)] (ww hw 13 rfl) (ww hw 14 rfl) (ww hw 2 rfl) (ww hw 15 rfl) (by decide) (Con.cold (c_at4_5 l Z a0 hw h33 tw tb kb x0 x1 x2 x3 cp wf hcp hwf scp sfm (f29.wr W34) ((f30.other W34 (Or.inl ne9))) ((f31.other W34 (Or.inl ne9))) f37)) pd_22 rfl rfl rfl rfl rfl (nl rfl) (nl rfl) (nl rfl) (nl rfl) at_75 rfl ?_
  rintro _ _ _ ⟨⟨rfl, rfl⟩, rfl⟩
  show GoS _ _ _ _ _ _ _ _ _ _ _ _ _ _ 78 #[.val (.int p0), .val (.int p1), .val (.int p2), .val (.int p3), .val (.int p4), .val (.int p5), .val (.int kk), .val (.ref tw), .val (.ref b1), .unset, .unset, .unset, .unset] [(.int (120 : Int32)), (.int (5 : Int32)), (.ref b1)]
  refine GoS.castore (pc' := 79) V35 ge1 at_78 (by decide) (by decide) (i := 5) rfl (nl rfl) rfl ?_
  intro h39 W40 V41
  have K42 : Keep hs h39 [] := K36.wr W40 (Or.inr sz2)
  replace V41 : Arv Z h39 b1 kA1 .char (6 : Int32) [(.int (x0 &&& (255 : Int32))), (.int (x1 &&& (255 : Int32))), (.int (x2 &&& (255 : Int32))), (.int (x3 &&& (255 : Int32))), (.int (120 : Int32)), (.int (120 : Int32))] (.int 0) := V41
  have f43 : Exa Z h39 b1 "[C" := ((((((X1.wr W6).wr W13).wr W21).wr W26).wr W34).wr W40)
  have f44 : Hel Z h39 tw tb tt := (((((((HT.ext E1).other W6 ne9 ne10).other W13 ne9 ne10).other W21 ne9 ne10).other W26 ne9 ne10).other W34 ne9 ne10).other W40 ne9 ne10)
  have f45 : Exa Z h39 tb "[B" := (((((((xb.ext E1).wr W6).wr W13).wr W21).wr W26).wr W34).wr W40)
  exact GoS.more (c_rest1 l Z a0 hw hs h39 p0 p1 p2 p3 p4 p5 kk b1 kA1 ((x0 &&& (255 : Int32))) ((x1 &&& (255 : Int32))) ((x2 &&& (255 : Int32))) ((x3 &&& (255 : Int32))) (120 : Int32) (120 : Int32) tt tw tb to ti wV kV w0 s0 t0 kt0 w1 s1 t1 kt1 w2 s2 t2 kt2 w3 s3 t3 kt3 cp wf wo hKS hcp hcw hwf hch7 hch43 hch53 hch58 hch63 hch68 hch69 hch70 hch71 (OwnNum.le255 x0) (OwnNum.le255 x1) (OwnNum.le255 x2) (OwnNum.le255 x3) (by decide) (by decide) ((show nar .char (x0 &&& (255 : Int32)) = (x0 &&& (255 : Int32)) from i2c_mask _)) ((show nar .char (x1 &&& (255 : Int32)) = (x1 &&& (255 : Int32)) from i2c_mask _)) ((show nar .char (x2 &&& (255 : Int32)) = (x2 &&& (255 : Int32)) from i2c_mask _)) ((show nar .char (x3 &&& (255 : Int32)) = (x3 &&& (255 : Int32)) from i2c_mask _)) (by decide) (by decide) scp sfm so xo fo ge1 f43 V41 f44 (((f29.wr W34).wr W40)) f45 sz2 K42) (nl rfl) (nl rfl)
theorem c_rest0_5 (l : Launch) (Z : State) (a0 : Array Value) (hw : ∀ d ∈ tables_1, d.before a0 Z = true) {n0 : Nat} (hs h : Heap) (p0 : Int32) (p1 : Int32) (p2 : Int32) (p3 : Int32) (p4 : Int32) (p5 : Int32) (kk : Int32) (tt : String) (tw : Addr) (tb : Addr) (to : String) (ti : Nat) (kb : ClassId) (x0 : Int32) (x1 : Int32) (x2 : Int32) (x3 : Int32) (x4 : Int32) (wV : Addr) (kV : ClassId) (w0 : Addr) (s0 : Addr) (t0 : Addr) (kt0 : ClassId) (w1 : Addr) (s1 : Addr) (t1 : Addr) (kt1 : ClassId) (w2 : Addr) (s2 : Addr) (t2 : Addr) (kt2 : ClassId) (w3 : Addr) (s3 : Addr) (t3 : Addr) (kt3 : ClassId) (cp : Int32) (wf : Value) (wo : Addr) (hKS : KS Z wV kV w0 s0 t0 kt0 w1 s1 t1 kt1 w2 s2 t2 kt2 w3 s3 t3 kt3) (hcp : ¬ (cp = (0 : Int32))) (hcw : Jvm.Lit.compactW.before a0 Z = true) (hwf : wf.isRef = true) (hch7 : Jvm.Lit.constHeld Z "java/lang/String" 7) (hch43 : Jvm.Lit.constHeld Z "com/example/huron/huron/io/config/AuthenticatorKindNamedPinLaw" 43) (hch53 : Jvm.Lit.constHeld Z "com/example/huron/huron/io/config/AuthenticatorKindNamedPinLaw" 53) (hch58 : Jvm.Lit.constHeld Z "com/example/huron/huron/io/config/AuthenticatorKindNamedPinLaw" 58) (hch63 : Jvm.Lit.constHeld Z "com/example/huron/huron/io/config/AuthenticatorKindNamedPinLaw" 63) (hch68 : Jvm.Lit.constHeld Z "com/example/huron/huron/io/config/AuthenticatorKindNamedPinLaw" 68) (hch69 : Jvm.Lit.constHeld Z "com/example/huron/huron/io/config/AuthenticatorKindNamedPinLaw" 69) (hch70 : Jvm.Lit.constHeld Z "com/example/huron/huron/io/config/AuthenticatorKindNamedPinLaw" 70) (hch71 : Jvm.Lit.constHeld Z "com/example/huron/huron/io/config/AuthenticatorKindNamedPinLaw" 71) (scp : Sta Z Z.heap "java/lang/String" "COMPACT_STRINGS" "Z" (.int cp)) (sfm : Sta Z Z.heap "jdk/internal/util/Preconditions" "SIOOBE_FORMATTER" "Ljava/util/function/BiFunction;" wf) (so : Sta Z Z.heap "java/util/Optional" "EMPTY" "Ljava/util/Optional;" (.ref wo)) (xo : Exa Z Z.heap wo "java/util/Optional") (fo : Fld Z Z.heap wo "java/util/Optional" "value" "Ljava/lang/Object;" .null) (HT : Hel Z h tw tb tt) (xw : Exa Z h tw "java/lang/String") (cw : Fld Z h tw "java/lang/String" "coder" "B" (.int (0 : Int32))) (gw : Fld Z h tw "java/lang/String" "value" "[B" (.ref tb)) (vw : Arv Z h tb kb .byte (5 : Int32) [(.int x0), (.int x1), (.int x2), (.int x3), (.int x4)] (.int 0)) (xb : Exa Z h tb "[B") (Kp : Keep hs h []) :
    GoS l room_1 Z n0 x code maxLocals ret (fun v h' LL' => v = some (.int (1 : Int32)) ∧ Keep hs h' []) hs [(tt, tw, to, ti)] 3 30 h 13 #[.val (.int p0), .val (.int p1), .val (.int p2), .val (.int p3), .val (.int p4), .val (.int p5), .val (.int kk), .val (.ref tw), .unset, .unset, .unset, .unset, .unset] [] := by
  obtain ⟨sv, vv, xv, sk0, xk0, fk0, xs0, cs0, gs0, vs0, sk1, xk1, fk1, xs1, cs1, gs1, vs1, sk2, xk2, fk2, xs2, cs2, gs2, vs2, sk3, xk3, fk3, xs3, cs3, gs3, vs3⟩ := id hKS
  refine GoS.bipush (pc' := 15) (v := (6 : Int32)) at_13 rfl rfl ?_
  refine GoS.newarray (pc' := 17) (cells' := 4) (slots' := 36) (cap := 6) (ww hw 12 rfl) at_15 (ad := "[C") (by decide) (by decide) (by decide) rfl rfl (by decide) (by decide) (by decide) rfl ?_
  intro h1 b1 g1 E1 ge1 kA1 A1 X1
  have sz2 : hs.size ≤ b1 := Nat.le_trans Kp.1 (Nat.le_of_eq g1.symm)
  have K3 : Keep hs h1 [] := Kp.ext E1
  have V1 : Arv Z h1 b1 kA1 .char (6 : Int32) [(.int 0), (.int 0), (.int 0), (.int 0), (.int 0), (.int 0)] (.int 0) := Arv.pad A1 (pad_rep [] (.int 0) 6)
  refine GoS.astore (pc' := 19) (Ls' := #[.val (.int p0), .val (.int p1), .val (.int p2), .val (.int p3), .val (.int p4), .val (.int p5), .val (.int kk), .val (.ref tw), .val (.ref b1), .unset, .unset, .unset, .unset]) at_17 rfl rfl rfl ?_
  refine GoS.aload (pc' := 21) at_19 rfl rfl rfl ?_
  refine GoS.iconst (pc' := 22) (v := (0 : Int32)) at_21 rfl rfl ?_
  refine GoS.aload (pc' := 24) at_22 rfl rfl rfl ?_
  refine GoS.iconst (pc' := 25) (v := (0 : Int32)) at_24 rfl rfl ?_
  refine GoS.callS (cells' := 4) (slots' := 36) (pc' := 28) [(.ref tw), (.int (0 : Int32))] [(.int (0 : Int32)), (.ref b1)] (ww hw 13 rfl) (ww hw 14 rfl) (ww hw 2 rfl) (ww hw 15 rfl) (by decide) (Con.cold (c_at5_0 l Z a0 hw h1 tw tb kb x0 x1 x2 x3 x4 cp wf hcp hwf scp sfm (xw.ext E1) (cw.ext E1) (gw.ext E1) (vw.ext E1))) pd_22 rfl rfl rfl rfl rfl (nl rfl) (nl rfl) (nl rfl) (nl rfl) at_25 rfl ?_
  rintro _ _ _ ⟨⟨rfl, rfl⟩, rfl⟩
  show GoS _ _ _ _ _ _ _ _ _ _ _ _ _ _ 28 #[.val (.int p0), .val (.int p1), .val (.int p2), .val (.int p3), .val (.int p4), .val (.int p5), .val (.int kk), .val (.ref tw), .val (.ref b1), .unset, .unset, .unset, .unset] [(.int (x0 &&& (255 : Int32))), (.int (0 : Int32)), (.ref b1)]
  refine GoS.castore (pc' := 29) V1 ge1 at_28 (by decide) (by decide) (i := 0) rfl (nl rfl) rfl ?_
  intro h5 W6 V7
  have K8 : Keep hs h5 [] := K3.wr W6 (Or.inr sz2)
  rw [(show nar .char (x0 &&& (255 : Int32)) = (x0 &&& (255 : Int32)) from i2c_mask _)] at V7
  replace V7 : Arv Z h5 b1 kA1 .char (6 : Int32) [(.int (x0 &&& (255 : Int32))), (.int 0), (.int 0), (.int 0), (.int 0), (.int 0)] (.int 0) := V7
  refine GoS.aload (pc' := 31) at_29 rfl rfl rfl ?_
  refine GoS.iconst (pc' := 32) (v := (1 : Int32)) at_31 rfl rfl ?_
  refine GoS.aload (pc' := 34) at_32 rfl rfl rfl ?_
  refine GoS.iconst (pc' := 35) (v := (1 : Int32)) at_34 rfl rfl ?_
  have ne9 : tw ≠ b1 := (Nat.ne_of_lt (Nat.lt_of_lt_of_le HT.lt0 (Nat.le_of_eq g1.symm)))
  have ne10 : tb ≠ b1 := (Nat.ne_of_lt (Nat.lt_of_lt_of_le xb.lt (Nat.le_of_eq g1.symm)))
  refine GoS.callS (cells' := 4) (slots' := 36) (pc' := 38) [(.ref tw), (.int (1 : Int32))] [(.int (1 : Int32)), (.ref b1)] (ww hw 13 rfl) (ww hw 14 rfl) (ww hw 2 rfl) (ww hw 15 rfl) (by decide) (Con.cold (c_at5_1 l Z a0 hw h5 tw tb kb x0 x1 x2 x3 x4 cp wf hcp hwf scp sfm (((xw.ext E1).wr W6)) (((cw.ext E1).other W6 (Or.inl ne9))) (((gw.ext E1).other W6 (Or.inl ne9))) (((vw.ext E1).other W6 ne10)))) pd_22 rfl rfl rfl rfl rfl (nl rfl) (nl rfl) (nl rfl) (nl rfl) at_35 rfl ?_
  rintro _ _ _ ⟨⟨rfl, rfl⟩, rfl⟩
  show GoS _ _ _ _ _ _ _ _ _ _ _ _ _ _ 38 #[.val (.int p0), .val (.int p1), .val (.int p2), .val (.int p3), .val (.int p4), .val (.int p5), .val (.int kk), .val (.ref tw), .val (.ref b1), .unset, .unset, .unset, .unset] [(.int (x1 &&& (255 : Int32))), (.int (1 : Int32)), (.ref b1)]
  refine GoS.castore (pc' := 39) V7 ge1 at_38 (by decide) (by decide) (i := 1) rfl (nl rfl) rfl ?_
  intro h12 W13 V14
  have K15 : Keep hs h12 [] := K8.wr W13 (Or.inr sz2)
  rw [(show nar .char (x1 &&& (255 : Int32)) = (x1 &&& (255 : Int32)) from i2c_mask _)] at V14
  replace V14 : Arv Z h12 b1 kA1 .char (6 : Int32) [(.int (x0 &&& (255 : Int32))), (.int (x1 &&& (255 : Int32))), (.int 0), (.int 0), (.int 0), (.int 0)] (.int 0) := V14
  refine GoS.aload (pc' := 41) at_39 rfl rfl rfl ?_
  refine GoS.iconst (pc' := 42) (v := (2 : Int32)) at_41 rfl rfl ?_
  refine GoS.aload (pc' := 44) at_42 rfl rfl rfl ?_
  refine GoS.iconst (pc' := 45) (v := (2 : Int32)) at_44 rfl rfl ?_
  have f16 : Fld Z h12 tw "java/lang/String" "coder" "B" (.int (0 : Int32)) := (((cw.ext E1).other W6 (Or.inl ne9)).other W13 (Or.inl ne9))
  have f17 : Fld Z h12 tw "java/lang/String" "value" "[B" (.ref tb) := (((gw.ext E1).other W6 (Or.inl ne9)).other W13 (Or.inl ne9))
  have f18 : Arv Z h12 tb kb .byte (5 : Int32) [(.int x0), (.int x1), (.int x2), (.int x3), (.int x4)] (.int 0) := (((vw.ext E1).other W6 ne10).other W13 ne10)
  refine GoS.callS (cells' := 4) (slots' := 36) (pc' := 48) [(.ref tw), (.int (2 : Int32))] [(.int (2 : Int32)), (.ref b1)] (ww hw 13 rfl) (ww hw 14 rfl) (ww hw 2 rfl) (ww hw 15 rfl) (by decide) (Con.cold (c_at5_2 l Z a0 hw h12 tw tb kb x0 x1 x2 x3 x4 cp wf hcp hwf scp sfm ((((xw.ext E1).wr W6).wr W13)) f16 f17 f18)) pd_22 rfl rfl rfl rfl rfl (nl rfl) (nl rfl) (nl rfl) (nl rfl) at_45 rfl ?_
  rintro _ _ _ ⟨⟨rfl, rfl⟩, rfl⟩
  show GoS _ _ _ _ _ _ _ _ _ _ _ _ _ _ 48 #[.val (.int p0), .val (.int p1), .val (.int p2), .val (.int p3), .val (.int p4), .val (.int p5), .val (.int kk), .val (.ref tw), .val (.ref b1), .unset, .unset, .unset, .unset] [(.int (x2 &&& (255 : Int32))), (.int (2 : Int32)), (.ref b1)]
  refine GoS.castore (pc' := 49) V14 ge1 at_48 (by decide) (by decide) (i := 2) rfl (nl rfl) rfl ?_
  intro h20 W21 V22
  have K23 : Keep hs h20 [] := K15.wr W21 (Or.inr sz2)
  rw [(show nar .char (x2 &&& (255 : Int32)) = (x2 &&& (255 : Int32)) from i2c_mask _)] at V22
  replace V22 : Arv Z h20 b1 kA1 .char (6 : Int32) [(.int (x0 &&& (255 : Int32))), (.int (x1 &&& (255 : Int32))), (.int (x2 &&& (255 : Int32))), (.int 0), (.int 0), (.int 0)] (.int 0) := V22
  refine GoS.aload (pc' := 51) at_49 rfl rfl rfl ?_
  refine GoS.iconst (pc' := 52) (v := (3 : Int32)) at_51 rfl rfl ?_
  refine GoS.aload (pc' := 54) at_52 rfl rfl rfl ?_
  refine GoS.iconst (pc' := 55) (v := (3 : Int32)) at_54 rfl rfl ?_
  refine GoS.callS (cells' := 4) (slots' := 36) (pc' := 58) [(.ref tw), (.int (3 : Int32))] [(.int (3 : Int32)), (.ref b1)] (ww hw 13 rfl) (ww hw 14 rfl) (ww hw 2 rfl) (ww hw 15 rfl) (by decide) (Con.cold (c_at5_3 l Z a0 hw h20 tw tb kb x0 x1 x2 x3 x4 cp wf hcp hwf scp sfm (((((xw.ext E1).wr W6).wr W13).wr W21)) ((f16.other W21 (Or.inl ne9))) ((f17.other W21 (Or.inl ne9))) (f18.other W21 ne10))) pd_22 rfl rfl rfl rfl rfl (nl rfl) (nl rfl) (nl rfl) (nl rfl) at_55 rfl ?_
  rintro _ _ _ ⟨⟨rfl, rfl⟩, rfl⟩
  show GoS _ _ _ _ _ _ _ _ _ _ _ _ _ _ 58 #[.val (.int p0), .val (.int p1), .val (.int p2), .val (.int p3), .val (.int p4), .val (.int p5), .val (.int kk), .val (.ref tw), .val (.ref b1), .unset, .unset, .unset, .unset] [(.int (x3 &&& (255 : Int32))), (.int (3 : Int32)), (.ref b1)]
  refine GoS.castore (pc' := 59) V22 ge1 at_58 (by decide) (by decide) (i := 3) rfl (nl rfl) rfl ?_
  intro h25 W26 V27
  have K28 : Keep hs h25 [] := K23.wr W26 (Or.inr sz2)
  rw [(show nar .char (x3 &&& (255 : Int32)) = (x3 &&& (255 : Int32)) from i2c_mask _)] at V27
  replace V27 : Arv Z h25 b1 kA1 .char (6 : Int32) [(.int (x0 &&& (255 : Int32))), (.int (x1 &&& (255 : Int32))), (.int (x2 &&& (255 : Int32))), (.int (x3 &&& (255 : Int32))), (.int 0), (.int 0)] (.int 0) := V27
  refine GoS.aload (pc' := 61) at_59 rfl rfl rfl ?_
  refine GoS.iconst (pc' := 62) (v := (4 : Int32)) at_61 rfl rfl ?_
  refine GoS.aload (pc' := 64) at_62 rfl rfl rfl ?_
  refine GoS.iconst (pc' := 65) (v := (4 : Int32)) at_64 rfl rfl ?_
  have f29 : Exa Z h25 tw "java/lang/String" := (((((xw.ext E1).wr W6).wr W13).wr W21).wr W26)
  have f30 : Fld Z h25 tw "java/lang/String" "coder" "B" (.int (0 : Int32)) := ((f16.other W21 (Or.inl ne9)).other W26 (Or.inl ne9))
  have f31 : Fld Z h25 tw "java/lang/String" "value" "[B" (.ref tb) := ((f17.other W21 (Or.inl ne9)).other W26 (Or.inl ne9))
  refine GoS.callS (cells' := 4) (slots' := 36) (pc' := 68) [(.ref tw), (.int (4 : Int32))] [(.int (4 : Int32)), (.ref b1)] (ww hw 13 rfl) (ww hw 14 rfl) (ww hw 2 rfl) (ww hw 15 rfl) (by decide) (Con.cold (c_at5_4 l Z a0 hw h25 tw tb kb x0 x1 x2 x3 x4 cp wf hcp hwf scp sfm f29 f30 f31 (((f18.other W21 ne10).other W26 ne10)))) pd_22 rfl rfl rfl rfl rfl (nl rfl) (nl rfl) (nl rfl) (nl rfl) at_65 rfl ?_
  rintro _ _ _ ⟨⟨rfl, rfl⟩, rfl⟩
  show GoS _ _ _ _ _ _ _ _ _ _ _ _ _ _ 68 #[.val (.int p0), .val (.int p1), .val (.int p2), .val (.int p3), .val (.int p4), .val (.int p5), .val (.int kk), .val (.ref tw), .val (.ref b1), .unset, .unset, .unset, .unset] [(.int (x4 &&& (255 : Int32))), (.int (4 : Int32)), (.ref b1)]
  refine GoS.castore (pc' := 69) V27 ge1 at_68 (by decide) (by decide) (i := 4) rfl (nl rfl) rfl ?_
  intro h33 W34 V35
  have K36 : Keep hs h33 [] := K28.wr W34 (Or.inr sz2)
  rw [(show nar .char (x4 &&& (255 : Int32)) = (x4 &&& (255 : Int32)) from i2c_mask _)] at V35
  replace V35 : Arv Z h33 b1 kA1 .char (6 : Int32) [(.int (x0 &&& (255 : Int32))), (.int (x1 &&& (255 : Int32))), (.int (x2 &&& (255 : Int32))), (.int (x3 &&& (255 : Int32))), (.int (x4 &&& (255 : Int32))), (.int 0)] (.int 0) := V35
  refine GoS.aload (pc' := 71) at_69 rfl rfl rfl ?_
  refine GoS.iconst (pc' := 72) (v := (5 : Int32)) at_71 rfl rfl ?_
  refine GoS.aload (pc' := 74) at_72 rfl rfl rfl ?_
  refine GoS.iconst (pc' := 75) (v := (5 : Int32)) at_74 rfl rfl ?_
  have f37 : Arv Z h33 tb kb .byte (5 : Int32) [(.int x0), (.int x1), (.int x2), (.int x3), (.int x4)] (.int 0) := (((f18.other W21 ne10).other W26 ne10).other W34 ne10)
  refine GoS.callS (cells' := 4) (slots' := 36) (pc' := 78) [(.ref tw), (.int (5 : Int32))] [(.int (5 : Int32)), (.ref b1)] (ww hw 13 rfl) (ww hw 14 rfl) (ww hw 2 rfl) (ww hw 15 rfl) (by decide) (Con.cold (c_at5_5 l Z a0 hw h33 tw tb kb x0 x1 x2 x3 x4 cp wf hcp hwf scp sfm (f29.wr W34) ((f30.other W34 (Or.inl ne9))) ((f31.other W34 (Or.inl ne9))) f37)) pd_22 rfl rfl rfl rfl rfl (nl rfl) (nl rfl) (nl rfl) (nl rfl) at_75 rfl ?_
  rintro _ _ _ ⟨⟨rfl, rfl⟩, rfl⟩
  show GoS _ _ _ _ _ _ _ _ _ _ _ _ _ _ 78 #[.val (.int p0), .val (.int p1), .val (.int p2), .val (.int p3), .val (.int p4), .val (.int p5), .val (.int kk), .val (.ref tw), .val (.ref b1), .unset, .unset, .unset, .unset] [(.int (120 : Int32)), (.int (5 : Int32)), (.ref b1)]
  refine GoS.castore (pc' := 79) V35 ge1 at_78 (by decide) (by decide) (i := 5) rfl (nl rfl) rfl ?_
  intro h39 W40 V41
  have K42 : Keep hs h39 [] := K36.wr W40 (Or.inr sz2)
  replace V41 : Arv Z h39 b1 kA1 .char (6 : Int32) [(.int (x0 &&& (255 : Int32))), (.int (x1 &&& (255 : Int32))), (.int (x2 &&& (255 : Int32))), (.int (x3 &&& (255 : Int32))), (.int (x4 &&& (255 : Int32))), (.int (120 : Int32))] (.int 0) := V41
  have f43 : Exa Z h39 b1 "[C" := ((((((X1.wr W6).wr W13).wr W21).wr W26).wr W34).wr W40)
  have f44 : Hel Z h39 tw tb tt := (((((((HT.ext E1).other W6 ne9 ne10).other W13 ne9 ne10).other W21 ne9 ne10).other W26 ne9 ne10).other W34 ne9 ne10).other W40 ne9 ne10)
  have f45 : Exa Z h39 tb "[B" := (((((((xb.ext E1).wr W6).wr W13).wr W21).wr W26).wr W34).wr W40)
  exact GoS.more (c_rest1 l Z a0 hw hs h39 p0 p1 p2 p3 p4 p5 kk b1 kA1 ((x0 &&& (255 : Int32))) ((x1 &&& (255 : Int32))) ((x2 &&& (255 : Int32))) ((x3 &&& (255 : Int32))) ((x4 &&& (255 : Int32))) (120 : Int32) tt tw tb to ti wV kV w0 s0 t0 kt0 w1 s1 t1 kt1 w2 s2 t2 kt2 w3 s3 t3 kt3 cp wf wo hKS hcp hcw hwf hch7 hch43 hch53 hch58 hch63 hch68 hch69 hch70 hch71 (OwnNum.le255 x0) (OwnNum.le255 x1) (OwnNum.le255 x2) (OwnNum.le255 x3) (OwnNum.le255 x4) (by decide) ((show nar .char (x0 &&& (255 : Int32)) = (x0 &&& (255 : Int32)) from i2c_mask _)) ((show nar .char (x1 &&& (255 : Int32)) = (x1 &&& (255 : Int32)) from i2c_mask _)) ((show nar .char (x2 &&& (255 : Int32)) = (x2 &&& (255 : Int32)) from i2c_mask _)) ((show nar .char (x3 &&& (255 : Int32)) = (x3 &&& (255 : Int32)) from i2c_mask _)) ((show nar .char (x4 &&& (255 : Int32)) = (x4 &&& (255 : Int32)) from i2c_mask _)) (by decide) scp sfm so xo fo ge1 f43 V41 f44 (((f29.wr W34).wr W40)) f45 sz2 K42) (nl rfl) (nl rfl)
theorem pd_23 : parseMethodDescriptor "(I)Ljava/lang/String;" = some ⟨[.int], some (.object "java/lang/String")⟩ := by decide +kernel
theorem c_law (l : Launch) (Z : State) (a0 : Array Value) (hw : ∀ d ∈ tables_1, d.before a0 Z = true) {n0 : Nat} (h : Heap) (p0 : Int32) (p1 : Int32) (p2 : Int32) (p3 : Int32) (p4 : Int32) (p5 : Int32) (wV : Addr) (kV : ClassId) (w0 : Addr) (s0 : Addr) (t0 : Addr) (kt0 : ClassId) (w1 : Addr) (s1 : Addr) (t1 : Addr) (kt1 : ClassId) (w2 : Addr) (s2 : Addr) (t2 : Addr) (kt2 : ClassId) (w3 : Addr) (s3 : Addr) (t3 : Addr) (kt3 : ClassId) (cp : Int32) (wf : Value) (wo : Addr) (hKS : KS Z wV kV w0 s0 t0 kt0 w1 s1 t1 kt1 w2 s2 t2 kt2 w3 s3 t3 kt3) (hcp : ¬ (cp = (0 : Int32))) (hcw : Jvm.Lit.compactW.before a0 Z = true) (hwf : wf.isRef = true) (hch7 : Jvm.Lit.constHeld Z "java/lang/String" 7) (hch43 : Jvm.Lit.constHeld Z "com/example/huron/huron/io/config/AuthenticatorKindNamedPinLaw" 43) (hch53 : Jvm.Lit.constHeld Z "com/example/huron/huron/io/config/AuthenticatorKindNamedPinLaw" 53) (hch58 : Jvm.Lit.constHeld Z "com/example/huron/huron/io/config/AuthenticatorKindNamedPinLaw" 58) (hch63 : Jvm.Lit.constHeld Z "com/example/huron/huron/io/config/AuthenticatorKindNamedPinLaw" 63) (hch68 : Jvm.Lit.constHeld Z "com/example/huron/huron/io/config/AuthenticatorKindNamedPinLaw" 68) (hch69 : Jvm.Lit.constHeld Z "com/example/huron/huron/io/config/AuthenticatorKindNamedPinLaw" 69) (hch70 : Jvm.Lit.constHeld Z "com/example/huron/huron/io/config/AuthenticatorKindNamedPinLaw" 70) (hch71 : Jvm.Lit.constHeld Z "com/example/huron/huron/io/config/AuthenticatorKindNamedPinLaw" 71) (scp : Sta Z Z.heap "java/lang/String" "COMPACT_STRINGS" "Z" (.int cp)) (sfm : Sta Z Z.heap "jdk/internal/util/Preconditions" "SIOOBE_FORMATTER" "Ljava/util/function/BiFunction;" wf) (so : Sta Z Z.heap "java/util/Optional" "EMPTY" "Ljava/util/Optional;" (.ref wo)) (xo : Exa Z Z.heap wo "java/util/Optional") (fo : Fld Z Z.heap wo "java/util/Optional" "value" "Ljava/lang/Object;" .null) :
    ConS l x code maxLocals ret room_1 Z n0 #[(.int p0), (.int p1), (.int p2), (.int p3), (.int p4), (.int p5)] h [] (fun v h' LL' => v = some (.int (1 : Int32)) ∧ Keep h h' []) := by
  obtain ⟨sv, vv, xv, sk0, xk0, fk0, xs0, cs0, gs0, vs0, sk1, xk1, fk1, xs1, cs1, gs1, vs1, sk2, xk2, fk2, xs2, cs2, gs2, vs2, sk3, xk3, fk3, xs3, cs3, gs3, vs3⟩ := id hKS
  refine ConS.of_go (plainFor_of_name pn_2) (Ls := #[.val (.int p0), .val (.int p1), .val (.int p2), .val (.int p3), .val (.int p4), .val (.int p5), .unset, .unset, .unset, .unset, .unset, .unset, .unset]) (fun m => by first | (simp [entryFrame, mkF, argsToLocals, Value.category, maxLocals]; done) | rfl) ?_
  refine GoS.iloadN (pc' := 1) at_0 rfl rfl ?_
  refine GoS.bipush (pc' := 3) (v := (7 : Int32)) at_1 rfl rfl ?_
  refine GoS.iand (pc' := 4) at_3 rfl ?_
  obtain hspl1 | hspl1 | hspl1 | hspl1 | hspl1 | hspl1 | hspl1 | hspl1 := own_and7 p0
  ·
    rw [hspl1]
    refine GoS.istore (pc' := 6) (Ls' := #[.val (.int p0), .val (.int p1), .val (.int p2), .val (.int p3), .val (.int p4), .val (.int p5), .val (.int (0 : Int32)), .unset, .unset, .unset, .unset, .unset, .unset]) at_4 rfl rfl ?_
    refine GoS.iload (pc' := 8) at_6 rfl rfl ?_
    refine GoS.callS (cells' := 2) (slots' := 24) (pc' := 11) [(.int (0 : Int32))] [] (ww hw 0 rfl) (ww hw 1 rfl) (ww hw 2 rfl) (ww hw 3 rfl) (by decide) (c_word0 l Z a0 hw h hcw hch43) pd_23 rfl rfl rfl rfl rfl (nl rfl) (nl rfl) (nl rfl) (nl rfl) at_8 rfl ?_
    rintro _ h2 _ ⟨sa_2, sb_2, ks_2, rfl, K2, F2_0, F2_1, F2_2, F2_3, F2_4, F2_5, rfl⟩
    have K3 : Keep h h2 [] := (Keep.refl h []).trans K2 all0
    show GoS _ _ _ _ _ _ _ _ _ _ _ _ _ _ 11 #[.val (.int p0), .val (.int p1), .val (.int p2), .val (.int p3), .val (.int p4), .val (.int p5), .val (.int (0 : Int32)), .unset, .unset, .unset, .unset, .unset, .unset] [(.ref sa_2)]
    refine GoS.astore (pc' := 13) (Ls' := #[.val (.int p0), .val (.int p1), .val (.int p2), .val (.int p3), .val (.int p4), .val (.int p5), .val (.int (0 : Int32)), .val (.ref sa_2), .unset, .unset, .unset, .unset, .unset]) at_11 rfl rfl rfl ?_
    exact GoS.more (c_rest0_5 l Z a0 hw h h2 p0 p1 p2 p3 p4 p5 (0 : Int32) ("local") sa_2 sb_2 ("com/example/huron/huron/io/config/AuthenticatorKindNamedPinLaw") 43 ks_2 (108 : Int32) (111 : Int32) (99 : Int32) (97 : Int32) (108 : Int32) wV kV w0 s0 t0 kt0 w1 s1 t1 kt1 w2 s2 t2 kt2 w3 s3 t3 kt3 cp wf wo hKS hcp hcw hwf hch7 hch43 hch53 hch58 hch63 hch68 hch69 hch70 hch71 scp sfm so xo fo F2_5 F2_0 F2_1 F2_2 F2_3 F2_4 K3) (nl rfl) (nl rfl)
  ·
    rw [hspl1]
    refine GoS.istore (pc' := 6) (Ls' := #[.val (.int p0), .val (.int p1), .val (.int p2), .val (.int p3), .val (.int p4), .val (.int p5), .val (.int (1 : Int32)), .unset, .unset, .unset, .unset, .unset, .unset]) at_4 rfl rfl ?_
    refine GoS.iload (pc' := 8) at_6 rfl rfl ?_
    refine GoS.callS (cells' := 2) (slots' := 20) (pc' := 11) [(.int (1 : Int32))] [] (ww hw 0 rfl) (ww hw 1 rfl) (ww hw 2 rfl) (ww hw 3 rfl) (by decide) (c_word1 l Z a0 hw h hcw hch53) pd_23 rfl rfl rfl rfl rfl (nl rfl) (nl rfl) (nl rfl) (nl rfl) at_8 rfl ?_
    rintro _ h4 _ ⟨sa_4, sb_4, ks_4, rfl, K4, F4_0, F4_1, F4_2, F4_3, F4_4, F4_5, rfl⟩
    have K5 : Keep h h4 [] := (Keep.refl h []).trans K4 all0
    show GoS _ _ _ _ _ _ _ _ _ _ _ _ _ _ 11 #[.val (.int p0), .val (.int p1), .val (.int p2), .val (.int p3), .val (.int p4), .val (.int p5), .val (.int (1 : Int32)), .unset, .unset, .unset, .unset, .unset, .unset] [(.ref sa_4)]
    refine GoS.astore (pc' := 13) (Ls' := #[.val (.int p0), .val (.int p1), .val (.int p2), .val (.int p3), .val (.int p4), .val (.int p5), .val (.int (1 : Int32)), .val (.ref sa_4), .unset, .unset, .unset, .unset, .unset]) at_11 rfl rfl rfl ?_
    exact GoS.more (c_rest0_4 l Z a0 hw h h4 p0 p1 p2 p3 p4 p5 (1 : Int32) ("ldap") sa_4 sb_4 ("com/example/huron/huron/io/config/AuthenticatorKindNamedPinLaw") 53 ks_4 (108 : Int32) (100 : Int32) (97 : Int32) (112 : Int32) wV kV w0 s0 t0 kt0 w1 s1 t1 kt1 w2 s2 t2 kt2 w3 s3 t3 kt3 cp wf wo hKS hcp hcw hwf hch7 hch43 hch53 hch58 hch63 hch68 hch69 hch70 hch71 scp sfm so xo fo F4_5 F4_0 F4_1 F4_2 F4_3 F4_4 K5) (nl rfl) (nl rfl)
  ·
    rw [hspl1]
    refine GoS.istore (pc' := 6) (Ls' := #[.val (.int p0), .val (.int p1), .val (.int p2), .val (.int p3), .val (.int p4), .val (.int p5), .val (.int (2 : Int32)), .unset, .unset, .unset, .unset, .unset, .unset]) at_4 rfl rfl ?_
    refine GoS.iload (pc' := 8) at_6 rfl rfl ?_
    refine GoS.callS (cells' := 2) (slots' := 20) (pc' := 11) [(.int (2 : Int32))] [] (ww hw 0 rfl) (ww hw 1 rfl) (ww hw 2 rfl) (ww hw 3 rfl) (by decide) (c_word2 l Z a0 hw h hcw hch58) pd_23 rfl rfl rfl rfl rfl (nl rfl) (nl rfl) (nl rfl) (nl rfl) at_8 rfl ?_
    rintro _ h6 _ ⟨sa_6, sb_6, ks_6, rfl, K6, F6_0, F6_1, F6_2, F6_3, F6_4, F6_5, rfl⟩
    have K7 : Keep h h6 [] := (Keep.refl h []).trans K6 all0
    show GoS _ _ _ _ _ _ _ _ _ _ _ _ _ _ 11 #[.val (.int p0), .val (.int p1), .val (.int p2), .val (.int p3), .val (.int p4), .val (.int p5), .val (.int (2 : Int32)), .unset, .unset, .unset, .unset, .unset, .unset] [(.ref sa_6)]
    refine GoS.astore (pc' := 13) (Ls' := #[.val (.int p0), .val (.int p1), .val (.int p2), .val (.int p3), .val (.int p4), .val (.int p5), .val (.int (2 : Int32)), .val (.ref sa_6), .unset, .unset, .unset, .unset, .unset]) at_11 rfl rfl rfl ?_
    exact GoS.more (c_rest0_4 l Z a0 hw h h6 p0 p1 p2 p3 p4 p5 (2 : Int32) ("oidc") sa_6 sb_6 ("com/example/huron/huron/io/config/AuthenticatorKindNamedPinLaw") 58 ks_6 (111 : Int32) (105 : Int32) (100 : Int32) (99 : Int32) wV kV w0 s0 t0 kt0 w1 s1 t1 kt1 w2 s2 t2 kt2 w3 s3 t3 kt3 cp wf wo hKS hcp hcw hwf hch7 hch43 hch53 hch58 hch63 hch68 hch69 hch70 hch71 scp sfm so xo fo F6_5 F6_0 F6_1 F6_2 F6_3 F6_4 K7) (nl rfl) (nl rfl)
  ·
    rw [hspl1]
    refine GoS.istore (pc' := 6) (Ls' := #[.val (.int p0), .val (.int p1), .val (.int p2), .val (.int p3), .val (.int p4), .val (.int p5), .val (.int (3 : Int32)), .unset, .unset, .unset, .unset, .unset, .unset]) at_4 rfl rfl ?_
    refine GoS.iload (pc' := 8) at_6 rfl rfl ?_
    refine GoS.callS (cells' := 2) (slots' := 20) (pc' := 11) [(.int (3 : Int32))] [] (ww hw 0 rfl) (ww hw 1 rfl) (ww hw 2 rfl) (ww hw 3 rfl) (by decide) (c_word3 l Z a0 hw h hcw hch63) pd_23 rfl rfl rfl rfl rfl (nl rfl) (nl rfl) (nl rfl) (nl rfl) at_8 rfl ?_
    rintro _ h8 _ ⟨sa_8, sb_8, ks_8, rfl, K8, F8_0, F8_1, F8_2, F8_3, F8_4, F8_5, rfl⟩
    have K9 : Keep h h8 [] := (Keep.refl h []).trans K8 all0
    show GoS _ _ _ _ _ _ _ _ _ _ _ _ _ _ 11 #[.val (.int p0), .val (.int p1), .val (.int p2), .val (.int p3), .val (.int p4), .val (.int p5), .val (.int (3 : Int32)), .unset, .unset, .unset, .unset, .unset, .unset] [(.ref sa_8)]
    refine GoS.astore (pc' := 13) (Ls' := #[.val (.int p0), .val (.int p1), .val (.int p2), .val (.int p3), .val (.int p4), .val (.int p5), .val (.int (3 : Int32)), .val (.ref sa_8), .unset, .unset, .unset, .unset, .unset]) at_11 rfl rfl rfl ?_
    exact GoS.more (c_rest0_4 l Z a0 hw h h8 p0 p1 p2 p3 p4 p5 (3 : Int32) ("saml") sa_8 sb_8 ("com/example/huron/huron/io/config/AuthenticatorKindNamedPinLaw") 63 ks_8 (115 : Int32) (97 : Int32) (109 : Int32) (108 : Int32) wV kV w0 s0 t0 kt0 w1 s1 t1 kt1 w2 s2 t2 kt2 w3 s3 t3 kt3 cp wf wo hKS hcp hcw hwf hch7 hch43 hch53 hch58 hch63 hch68 hch69 hch70 hch71 scp sfm so xo fo F8_5 F8_0 F8_1 F8_2 F8_3 F8_4 K9) (nl rfl) (nl rfl)
  ·
    rw [hspl1]
    refine GoS.istore (pc' := 6) (Ls' := #[.val (.int p0), .val (.int p1), .val (.int p2), .val (.int p3), .val (.int p4), .val (.int p5), .val (.int (4 : Int32)), .unset, .unset, .unset, .unset, .unset, .unset]) at_4 rfl rfl ?_
    refine GoS.iload (pc' := 8) at_6 rfl rfl ?_
    refine GoS.callS (cells' := 2) (slots' := 24) (pc' := 11) [(.int (4 : Int32))] [] (ww hw 0 rfl) (ww hw 1 rfl) (ww hw 2 rfl) (ww hw 3 rfl) (by decide) (c_word4 l Z a0 hw h hcw hch68) pd_23 rfl rfl rfl rfl rfl (nl rfl) (nl rfl) (nl rfl) (nl rfl) at_8 rfl ?_
    rintro _ h10 _ ⟨sa_10, sb_10, ks_10, rfl, K10, F10_0, F10_1, F10_2, F10_3, F10_4, F10_5, rfl⟩
    have K11 : Keep h h10 [] := (Keep.refl h []).trans K10 all0
    show GoS _ _ _ _ _ _ _ _ _ _ _ _ _ _ 11 #[.val (.int p0), .val (.int p1), .val (.int p2), .val (.int p3), .val (.int p4), .val (.int p5), .val (.int (4 : Int32)), .unset, .unset, .unset, .unset, .unset, .unset] [(.ref sa_10)]
    refine GoS.astore (pc' := 13) (Ls' := #[.val (.int p0), .val (.int p1), .val (.int p2), .val (.int p3), .val (.int p4), .val (.int p5), .val (.int (4 : Int32)), .val (.ref sa_10), .unset, .unset, .unset, .unset, .unset]) at_11 rfl rfl rfl ?_
    exact GoS.more (c_rest0_5 l Z a0 hw h h10 p0 p1 p2 p3 p4 p5 (4 : Int32) ("LOCAL") sa_10 sb_10 ("com/example/huron/huron/io/config/AuthenticatorKindNamedPinLaw") 68 ks_10 (76 : Int32) (79 : Int32) (67 : Int32) (65 : Int32) (76 : Int32) wV kV w0 s0 t0 kt0 w1 s1 t1 kt1 w2 s2 t2 kt2 w3 s3 t3 kt3 cp wf wo hKS hcp hcw hwf hch7 hch43 hch53 hch58 hch63 hch68 hch69 hch70 hch71 scp sfm so xo fo F10_5 F10_0 F10_1 F10_2 F10_3 F10_4 K11) (nl rfl) (nl rfl)
  ·
    rw [hspl1]
    refine GoS.istore (pc' := 6) (Ls' := #[.val (.int p0), .val (.int p1), .val (.int p2), .val (.int p3), .val (.int p4), .val (.int p5), .val (.int (5 : Int32)), .unset, .unset, .unset, .unset, .unset, .unset]) at_4 rfl rfl ?_
    refine GoS.iload (pc' := 8) at_6 rfl rfl ?_
    refine GoS.callS (cells' := 2) (slots' := 20) (pc' := 11) [(.int (5 : Int32))] [] (ww hw 0 rfl) (ww hw 1 rfl) (ww hw 2 rfl) (ww hw 3 rfl) (by decide) (c_word5 l Z a0 hw h hcw hch69) pd_23 rfl rfl rfl rfl rfl (nl rfl) (nl rfl) (nl rfl) (nl rfl) at_8 rfl ?_
    rintro _ h12 _ ⟨sa_12, sb_12, ks_12, rfl, K12, F12_0, F12_1, F12_2, F12_3, F12_4, F12_5, rfl⟩
    have K13 : Keep h h12 [] := (Keep.refl h []).trans K12 all0
    show GoS _ _ _ _ _ _ _ _ _ _ _ _ _ _ 11 #[.val (.int p0), .val (.int p1), .val (.int p2), .val (.int p3), .val (.int p4), .val (.int p5), .val (.int (5 : Int32)), .unset, .unset, .unset, .unset, .unset, .unset] [(.ref sa_12)]
    refine GoS.astore (pc' := 13) (Ls' := #[.val (.int p0), .val (.int p1), .val (.int p2), .val (.int p3), .val (.int p4), .val (.int p5), .val (.int (5 : Int32)), .val (.ref sa_12), .unset, .unset, .unset, .unset, .unset]) at_11 rfl rfl rfl ?_
    exact GoS.more (c_rest0_4 l Z a0 hw h h12 p0 p1 p2 p3 p4 p5 (5 : Int32) ("LDAP") sa_12 sb_12 ("com/example/huron/huron/io/config/AuthenticatorKindNamedPinLaw") 69 ks_12 (76 : Int32) (68 : Int32) (65 : Int32) (80 : Int32) wV kV w0 s0 t0 kt0 w1 s1 t1 kt1 w2 s2 t2 kt2 w3 s3 t3 kt3 cp wf wo hKS hcp hcw hwf hch7 hch43 hch53 hch58 hch63 hch68 hch69 hch70 hch71 scp sfm so xo fo F12_5 F12_0 F12_1 F12_2 F12_3 F12_4 K13) (nl rfl) (nl rfl)
  ·
    rw [hspl1]
    refine GoS.istore (pc' := 6) (Ls' := #[.val (.int p0), .val (.int p1), .val (.int p2), .val (.int p3), .val (.int p4), .val (.int p5), .val (.int (6 : Int32)), .unset, .unset, .unset, .unset, .unset, .unset]) at_4 rfl rfl ?_
    refine GoS.iload (pc' := 8) at_6 rfl rfl ?_
    refine GoS.callS (cells' := 2) (slots' := 20) (pc' := 11) [(.int (6 : Int32))] [] (ww hw 0 rfl) (ww hw 1 rfl) (ww hw 2 rfl) (ww hw 3 rfl) (by decide) (c_word6 l Z a0 hw h hcw hch70) pd_23 rfl rfl rfl rfl rfl (nl rfl) (nl rfl) (nl rfl) (nl rfl) at_8 rfl ?_
    rintro _ h14 _ ⟨sa_14, sb_14, ks_14, rfl, K14, F14_0, F14_1, F14_2, F14_3, F14_4, F14_5, rfl⟩
    have K15 : Keep h h14 [] := (Keep.refl h []).trans K14 all0
    show GoS _ _ _ _ _ _ _ _ _ _ _ _ _ _ 11 #[.val (.int p0), .val (.int p1), .val (.int p2), .val (.int p3), .val (.int p4), .val (.int p5), .val (.int (6 : Int32)), .unset, .unset, .unset, .unset, .unset, .unset] [(.ref sa_14)]
    refine GoS.astore (pc' := 13) (Ls' := #[.val (.int p0), .val (.int p1), .val (.int p2), .val (.int p3), .val (.int p4), .val (.int p5), .val (.int (6 : Int32)), .val (.ref sa_14), .unset, .unset, .unset, .unset, .unset]) at_11 rfl rfl rfl ?_
    exact GoS.more (c_rest0_4 l Z a0 hw h h14 p0 p1 p2 p3 p4 p5 (6 : Int32) ("OIDC") sa_14 sb_14 ("com/example/huron/huron/io/config/AuthenticatorKindNamedPinLaw") 70 ks_14 (79 : Int32) (73 : Int32) (68 : Int32) (67 : Int32) wV kV w0 s0 t0 kt0 w1 s1 t1 kt1 w2 s2 t2 kt2 w3 s3 t3 kt3 cp wf wo hKS hcp hcw hwf hch7 hch43 hch53 hch58 hch63 hch68 hch69 hch70 hch71 scp sfm so xo fo F14_5 F14_0 F14_1 F14_2 F14_3 F14_4 K15) (nl rfl) (nl rfl)
  ·
    rw [hspl1]
    refine GoS.istore (pc' := 6) (Ls' := #[.val (.int p0), .val (.int p1), .val (.int p2), .val (.int p3), .val (.int p4), .val (.int p5), .val (.int (7 : Int32)), .unset, .unset, .unset, .unset, .unset, .unset]) at_4 rfl rfl ?_
    refine GoS.iload (pc' := 8) at_6 rfl rfl ?_
    refine GoS.callS (cells' := 2) (slots' := 20) (pc' := 11) [(.int (7 : Int32))] [] (ww hw 0 rfl) (ww hw 1 rfl) (ww hw 2 rfl) (ww hw 3 rfl) (by decide) (c_word7 l Z a0 hw h hcw hch71) pd_23 rfl rfl rfl rfl rfl (nl rfl) (nl rfl) (nl rfl) (nl rfl) at_8 rfl ?_
    rintro _ h16 _ ⟨sa_16, sb_16, ks_16, rfl, K16, F16_0, F16_1, F16_2, F16_3, F16_4, F16_5, rfl⟩
    have K17 : Keep h h16 [] := (Keep.refl h []).trans K16 all0
    show GoS _ _ _ _ _ _ _ _ _ _ _ _ _ _ 11 #[.val (.int p0), .val (.int p1), .val (.int p2), .val (.int p3), .val (.int p4), .val (.int p5), .val (.int (7 : Int32)), .unset, .unset, .unset, .unset, .unset, .unset] [(.ref sa_16)]
    refine GoS.astore (pc' := 13) (Ls' := #[.val (.int p0), .val (.int p1), .val (.int p2), .val (.int p3), .val (.int p4), .val (.int p5), .val (.int (7 : Int32)), .val (.ref sa_16), .unset, .unset, .unset, .unset, .unset]) at_11 rfl rfl rfl ?_
    exact GoS.more (c_rest0_4 l Z a0 hw h h16 p0 p1 p2 p3 p4 p5 (7 : Int32) ("Saml") sa_16 sb_16 ("com/example/huron/huron/io/config/AuthenticatorKindNamedPinLaw") 71 ks_16 (83 : Int32) (97 : Int32) (109 : Int32) (108 : Int32) wV kV w0 s0 t0 kt0 w1 s1 t1 kt1 w2 s2 t2 kt2 w3 s3 t3 kt3 cp wf wo hKS hcp hcw hwf hch7 hch43 hch53 hch58 hch63 hch68 hch69 hch70 hch71 scp sfm so xo fo F16_5 F16_0 F16_1 F16_2 F16_3 F16_4 K17) (nl rfl) (nl rfl)
theorem comes_1 {Post : Tables → Env → Array Value → State → Outcome → State → Prop} (hpost : ∀ tb e args s v u, (limb_1_1.after args s (.returned v) u = true ∧ limb_1_2.after args s (.returned v) u = true ∧ True) → Jvm.D.FramedW s (.returned v) u (Jvm.fieldLocs frame_1_writes args s ++ Jvm.arrayLocs frame_1_arrays args s ++ Jvm.staticLocs frame_1_statics s) 40 9408 → Post tb e args s (.returned v) u) :
    ArmFor flags0 classFile x code maxLocals ret World_1 tables_1 room_1 Calls_1 rest_1 Pre_1 Post := by
  intro l hfl _ _ p e ha hc hk s m args below hf hA hF happ hP
  obtain ⟨hcalls, hrest, hpre⟩ := hP
  obtain ⟨-, -, -, hnamed, -, -, -, hat⟩ := (Spec.applies_iff hf).mp happ
  obtain ⟨hg, hn⟩ := and_e (Cond.before_iff.mp (show (Jvm.Cond.and given_1 narrow_1).before args s = true from hpre))
  obtain ⟨g1, g2⟩ := and_e hg
  obtain ⟨g3, g4⟩ := and_e g2
  obtain ⟨g5, g6⟩ := and_e g4
  obtain ⟨g7, g8⟩ := and_e g6
  obtain ⟨g9, g10⟩ := and_e g8
  obtain ⟨g11, g12⟩ := and_e g10
  obtain ⟨w0, w1, w2, w3, w4, w5, rfl⟩ : ∃ w0 w1 w2 w3 w4 w5 : Value, args = #[w0, w1, w2, w3, w4, w5] := by
    have hs : args.size = 6 := by simpa [Cond.value, given_1] using g1
    obtain ⟨L⟩ := args
    match L, hs with
    | [w0, w1, w2, w3, w4, w5], _ => exact ⟨w0, w1, w2, w3, w4, w5, rfl⟩
  have hw := fun d (hd : d ∈ tables_1) => atoms_spec (ws := Jvm.Cond.code x code maxLocals ret :: tables_1) hat d (List.mem_cons_of_mem _ hd)
  have hfit : Fit s := fun {y c} hc i hi => by
    obtain ⟨ha, rfl⟩ := Array.getElem?_eq_some_iff.mp hc
    have q := List.all_eq_true.mp ((Array.all_eq_true_iff_forall_mem.mp hF) _ (Array.getElem_mem ha)) i (List.mem_range.mpr hi)
    simpa [Array.getElem?_eq_getElem hi] using q
  obtain ⟨hsets, hown0⟩ := atoms_of _ (rest_1_c_eq ▸ (show rest_1_c.before _ s = true from hrest))
  have hr0 := Cond.before_iff.mp hown0
  obtain ⟨i0, ei0⟩ := is_v g3
  obtain rfl : w0 = (.int i0) := Option.some.inj ei0
  obtain ⟨i1, ei1⟩ := is_v g5
  obtain rfl : w1 = (.int i1) := Option.some.inj ei1
  obtain ⟨i2, ei2⟩ := is_v g7
  obtain rfl : w2 = (.int i2) := Option.some.inj ei2
  obtain ⟨i3, ei3⟩ := is_v g9
  obtain rfl : w3 = (.int i3) := Option.some.inj ei3
  obtain ⟨i4, ei4⟩ := is_v g11
  obtain rfl : w4 = (.int i4) := Option.some.inj ei4
  obtain ⟨i5, ei5⟩ := is_v g12
  obtain rfl : w5 = (.int i5) := Option.some.inj ei5
  obtain ⟨c0, cr0⟩ := and_e hn
  obtain ⟨c1, cr1⟩ := and_e cr0
  obtain ⟨c2, cr2⟩ := and_e cr1
  obtain ⟨c3, cr3⟩ := and_e cr2
  obtain ⟨c4, cr4⟩ := and_e cr3
  obtain ⟨c5, cr5⟩ := and_e cr4
  obtain ⟨c6, cr6⟩ := and_e cr5
  obtain ⟨c7, cr7⟩ := and_e cr6
  obtain ⟨c8, cr8⟩ := and_e cr7
  obtain ⟨c9, cr9⟩ := and_e cr8
  obtain ⟨c10, cr10⟩ := and_e cr9
  obtain ⟨c11, cr11⟩ := and_e cr10
  obtain ⟨c12, cr12⟩ := and_e cr11
  obtain ⟨c13, cr13⟩ := and_e cr12
  obtain ⟨c14, cr14⟩ := and_e cr13
  obtain ⟨c15, cr15⟩ := and_e cr14
  obtain ⟨c16, cr16⟩ := and_e cr15
  obtain ⟨c17, cr17⟩ := and_e cr16
  obtain ⟨c18, cr18⟩ := and_e cr17
  obtain ⟨c19, cr19⟩ := and_e cr18
  obtain ⟨c20, cr20⟩ := and_e cr19
  obtain ⟨c21, cr21⟩ := and_e cr20
  obtain ⟨c22, cr22⟩ := and_e cr21
  obtain ⟨c23, cr23⟩ := and_e cr22
  obtain ⟨c24, cr24⟩ := and_e cr23
  obtain ⟨c25, cr25⟩ := and_e cr24
  obtain ⟨c26, cr26⟩ := and_e cr25
  obtain ⟨c27, cr27⟩ := and_e cr26
  obtain ⟨c28, cr28⟩ := and_e cr27
  obtain ⟨c29, cr29⟩ := and_e cr28
  obtain ⟨c30, cr30⟩ := and_e cr29
  obtain ⟨c31, cr31⟩ := and_e cr30
  obtain ⟨c32, cr32⟩ := and_e cr31
  obtain ⟨c33, cr33⟩ := and_e cr32
  obtain ⟨c34, cr34⟩ := and_e cr33
  obtain ⟨c35, cr35⟩ := and_e cr34
  obtain ⟨c36, cr36⟩ := and_e cr35
  obtain ⟨c37, cr37⟩ := and_e cr36
  obtain ⟨c38, cr38⟩ := and_e cr37
  obtain ⟨c39, cr39⟩ := and_e cr38
  obtain ⟨c40, cr40⟩ := and_e cr39
  obtain ⟨c41, cr41⟩ := and_e cr40
  obtain ⟨c42, cr42⟩ := and_e cr41
  obtain ⟨wV, ev_wV⟩ := arr_v c0
  obtain ⟨cV, A_V, g1_V, g2_V⟩ := own_arr ev_wV c0 (own_eqI c2)
  have exa_wV := Exa.start ev_wV c1
  have sta_wV := Sta.start ev_wV (Or.inr ⟨(ww hw 93 rfl), (ww hw 99 rfl)⟩)
  obtain ⟨w0, ev_w0⟩ := exa_v c3
  have exa_w0 := Exa.start ev_w0 c3
  have sta_w0 := Sta.start ev_w0 (Or.inr ⟨(ww hw 93 rfl), (ww hw 107 rfl)⟩)
  obtain ⟨s0, ev_s0⟩ := exa_v c11
  have exa_s0 := Exa.start ev_s0 c11
  have cod_s0 := own_fld ev_s0 (own_eqI c12)
  obtain ⟨t0, ev_t0⟩ := arr_v c13
  have val_s0 := own_fld ev_s0 ev_t0
  obtain ⟨c_t0, A_t0, g1_t0, g2_t0⟩ := own_arr ev_t0 c13 (own_eqI c14)
  have arv_t0 : Arv s s.heap t0 c_t0.cls .byte (5 : Int32) [(.int (108 : Int32)), (.int (111 : Int32)), (.int (99 : Int32)), (.int (97 : Int32)), (.int (108 : Int32))] (.int 0) := Arv.start hfit A_t0 g1_t0 g2_t0 (by decide) rfl ⟨own_elem ev_t0 A_t0 (by decide) (own_eqI c39), own_elem ev_t0 A_t0 (by decide) (own_eqI c40), own_elem ev_t0 A_t0 (by decide) (own_eqI c41), own_elem ev_t0 A_t0 (by decide) (own_eqI c42), own_elem ev_t0 A_t0 (by decide) (own_eqI cr42), trivial⟩
  have fk0 := own_fld ev_w0 ev_s0
  obtain ⟨w1, ev_w1⟩ := exa_v c5
  have exa_w1 := Exa.start ev_w1 c5
  have sta_w1 := Sta.start ev_w1 (Or.inr ⟨(ww hw 93 rfl), (ww hw 108 rfl)⟩)
  obtain ⟨s1, ev_s1⟩ := exa_v c15
  have exa_s1 := Exa.start ev_s1 c15
  have cod_s1 := own_fld ev_s1 (own_eqI c16)
  obtain ⟨t1, ev_t1⟩ := arr_v c17
  have val_s1 := own_fld ev_s1 ev_t1
  obtain ⟨c_t1, A_t1, g1_t1, g2_t1⟩ := own_arr ev_t1 c17 (own_eqI c18)
  have arv_t1 : Arv s s.heap t1 c_t1.cls .byte (4 : Int32) [(.int (108 : Int32)), (.int (100 : Int32)), (.int (97 : Int32)), (.int (112 : Int32))] (.int 0) := Arv.start hfit A_t1 g1_t1 g2_t1 (by decide) rfl ⟨own_elem ev_t1 A_t1 (by decide) (own_eqI c27), own_elem ev_t1 A_t1 (by decide) (own_eqI c28), own_elem ev_t1 A_t1 (by decide) (own_eqI c31), own_elem ev_t1 A_t1 (by decide) (own_eqI c32), trivial⟩
  have fk1 := own_fld ev_w1 ev_s1
  obtain ⟨w2, ev_w2⟩ := exa_v c7
  have exa_w2 := Exa.start ev_w2 c7
  have sta_w2 := Sta.start ev_w2 (Or.inr ⟨(ww hw 93 rfl), (ww hw 109 rfl)⟩)
  obtain ⟨s2, ev_s2⟩ := exa_v c19
  have exa_s2 := Exa.start ev_s2 c19
  have cod_s2 := own_fld ev_s2 (own_eqI c20)
  obtain ⟨t2, ev_t2⟩ := arr_v c21
  have val_s2 := own_fld ev_s2 ev_t2
  obtain ⟨c_t2, A_t2, g1_t2, g2_t2⟩ := own_arr ev_t2 c21 (own_eqI c22)
  have arv_t2 : Arv s s.heap t2 c_t2.cls .byte (4 : Int32) [(.int (111 : Int32)), (.int (105 : Int32)), (.int (100 : Int32)), (.int (99 : Int32))] (.int 0) := Arv.start hfit A_t2 g1_t2 g2_t2 (by decide) rfl ⟨own_elem ev_t2 A_t2 (by decide) (own_eqI c29), own_elem ev_t2 A_t2 (by decide) (own_eqI c36), own_elem ev_t2 A_t2 (by decide) (own_eqI c37), own_elem ev_t2 A_t2 (by decide) (own_eqI c38), trivial⟩
  have fk2 := own_fld ev_w2 ev_s2
  obtain ⟨w3, ev_w3⟩ := exa_v c9
  have exa_w3 := Exa.start ev_w3 c9
  have sta_w3 := Sta.start ev_w3 (Or.inr ⟨(ww hw 93 rfl), (ww hw 110 rfl)⟩)
  obtain ⟨s3, ev_s3⟩ := exa_v c23
  have exa_s3 := Exa.start ev_s3 c23
  have cod_s3 := own_fld ev_s3 (own_eqI c24)
  obtain ⟨t3, ev_t3⟩ := arr_v c25
  have val_s3 := own_fld ev_s3 ev_t3
  obtain ⟨c_t3, A_t3, g1_t3, g2_t3⟩ := own_arr ev_t3 c25 (own_eqI c26)
  have arv_t3 : Arv s s.heap t3 c_t3.cls .byte (4 : Int32) [(.int (115 : Int32)), (.int (97 : Int32)), (.int (109 : Int32)), (.int (108 : Int32))] (.int 0) := Arv.start hfit A_t3 g1_t3 g2_t3 (by decide) rfl ⟨own_elem ev_t3 A_t3 (by decide) (own_eqI c30), own_elem ev_t3 A_t3 (by decide) (own_eqI c33), own_elem ev_t3 A_t3 (by decide) (own_eqI c34), own_elem ev_t3 A_t3 (by decide) (own_eqI c35), trivial⟩
  have fk3 := own_fld ev_w3 ev_s3
  have arv_wV : Arv s s.heap wV cV.cls (.object "com/example/huron/huron/io/config/AuthenticatorKind") (4 : Int32) [(.ref w0), (.ref w1), (.ref w2), (.ref w3)] .null := Arv.start hfit A_V g1_V g2_V (by decide) rfl ⟨own_elem ev_wV A_V (by decide) (own_eqR ev_w0 c4), own_elem ev_wV A_V (by decide) (own_eqR ev_w1 c6), own_elem ev_wV A_V (by decide) (own_eqR ev_w2 c8), own_elem ev_wV A_V (by decide) (own_eqR ev_w3 c10), trivial⟩
  have hKS : KS s wV cV.cls w0 s0 t0 c_t0.cls w1 s1 t1 c_t1.cls w2 s2 t2 c_t2.cls w3 s3 t3 c_t3.cls := ⟨sta_wV, arv_wV, exa_wV, sta_w0, exa_w0, fk0, exa_s0, cod_s0, val_s0, arv_t0, sta_w1, exa_w1, fk1, exa_s1, cod_s1, val_s1, arv_t1, sta_w2, exa_w2, fk2, exa_s2, cod_s2, val_s2, arv_t2, sta_w3, exa_w3, fk3, exa_s3, cod_s3, val_s3, arv_t3⟩
  obtain ⟨cp, ev_cp⟩ := is_v (Cond.before_iff.mp (hsets _ (List.mem_of_getElem? (i := 1) rfl)))
  have sta_cp := Sta.start ev_cp (Or.inl (hsets _ (List.mem_of_getElem? (i := 0) rfl)))
  have hcp : ¬ (cp = (0 : Int32)) := fun q => by
    have w := not_v (Cond.before_iff.mp (hsets _ (List.mem_of_getElem? (i := 2) rfl)))
    rw [eq_i ev_cp (Term.int_eval 0) (by rw [q])] at w
    cases w
  obtain ⟨wf, ev_wf, hwf⟩ := isR_v (Cond.before_iff.mp (hsets _ (List.mem_of_getElem? (i := 8) rfl)))
  have sta_wf := Sta.start ev_wf (Or.inl (hsets _ (List.mem_of_getElem? (i := 7) rfl)))
  obtain ⟨wo, ev_wo⟩ := exa_v (Cond.before_iff.mp (hsets _ (List.mem_of_getElem? (i := 11) rfl)))
  have exa_wo := Exa.start ev_wo (Cond.before_iff.mp (hsets _ (List.mem_of_getElem? (i := 11) rfl)))
  have sta_wo := Sta.start ev_wo (Or.inl (hsets _ (List.mem_of_getElem? (i := 10) rfl)))
  have fld_wo := own_fld ev_wo (null_v (Cond.before_iff.mp (hsets _ (List.mem_of_getElem? (i := 12) rfl))))
  have hcw : Jvm.Lit.compactW.before _ s = true := (hsets _ (List.mem_of_getElem? (i := 2) rfl))
  have hch43 : Jvm.Lit.constHeld s "com/example/huron/huron/io/config/AuthenticatorKindNamedPinLaw" 43 := fun c k cf j u a g1 g2 g3 g4 g5 g6 g7 g8 => hcalls.1 ("com/example/huron/huron/io/config/AuthenticatorKindNamedPinLaw", 43) (List.mem_of_getElem? (i := 0) rfl) c k cf j u a g1 g2 g3 g4 g5 g6 g7 g8
  have hch53 : Jvm.Lit.constHeld s "com/example/huron/huron/io/config/AuthenticatorKindNamedPinLaw" 53 := fun c k cf j u a g1 g2 g3 g4 g5 g6 g7 g8 => hcalls.1 ("com/example/huron/huron/io/config/AuthenticatorKindNamedPinLaw", 53) (List.mem_of_getElem? (i := 1) rfl) c k cf j u a g1 g2 g3 g4 g5 g6 g7 g8
  have hch58 : Jvm.Lit.constHeld s "com/example/huron/huron/io/config/AuthenticatorKindNamedPinLaw" 58 := fun c k cf j u a g1 g2 g3 g4 g5 g6 g7 g8 => hcalls.1 ("com/example/huron/huron/io/config/AuthenticatorKindNamedPinLaw", 58) (List.mem_of_getElem? (i := 2) rfl) c k cf j u a g1 g2 g3 g4 g5 g6 g7 g8
  have hch63 : Jvm.Lit.constHeld s "com/example/huron/huron/io/config/AuthenticatorKindNamedPinLaw" 63 := fun c k cf j u a g1 g2 g3 g4 g5 g6 g7 g8 => hcalls.1 ("com/example/huron/huron/io/config/AuthenticatorKindNamedPinLaw", 63) (List.mem_of_getElem? (i := 3) rfl) c k cf j u a g1 g2 g3 g4 g5 g6 g7 g8
  have hch68 : Jvm.Lit.constHeld s "com/example/huron/huron/io/config/AuthenticatorKindNamedPinLaw" 68 := fun c k cf j u a g1 g2 g3 g4 g5 g6 g7 g8 => hcalls.1 ("com/example/huron/huron/io/config/AuthenticatorKindNamedPinLaw", 68) (List.mem_of_getElem? (i := 4) rfl) c k cf j u a g1 g2 g3 g4 g5 g6 g7 g8
  have hch69 : Jvm.Lit.constHeld s "com/example/huron/huron/io/config/AuthenticatorKindNamedPinLaw" 69 := fun c k cf j u a g1 g2 g3 g4 g5 g6 g7 g8 => hcalls.1 ("com/example/huron/huron/io/config/AuthenticatorKindNamedPinLaw", 69) (List.mem_of_getElem? (i := 5) rfl) c k cf j u a g1 g2 g3 g4 g5 g6 g7 g8
  have hch70 : Jvm.Lit.constHeld s "com/example/huron/huron/io/config/AuthenticatorKindNamedPinLaw" 70 := fun c k cf j u a g1 g2 g3 g4 g5 g6 g7 g8 => hcalls.1 ("com/example/huron/huron/io/config/AuthenticatorKindNamedPinLaw", 70) (List.mem_of_getElem? (i := 6) rfl) c k cf j u a g1 g2 g3 g4 g5 g6 g7 g8
  have hch71 : Jvm.Lit.constHeld s "com/example/huron/huron/io/config/AuthenticatorKindNamedPinLaw" 71 := fun c k cf j u a g1 g2 g3 g4 g5 g6 g7 g8 => hcalls.1 ("com/example/huron/huron/io/config/AuthenticatorKindNamedPinLaw", 71) (List.mem_of_getElem? (i := 7) rfl) c k cf j u a g1 g2 g3 g4 g5 g6 g7 g8
  have hch7 : Jvm.Lit.constHeld s "java/lang/String" 7 := fun c k cf j u a g1 g2 g3 g4 g5 g6 g7 g8 => hcalls.1 ("java/lang/String", 7) (List.mem_of_getElem? (i := 8) rfl) c k cf j u a g1 g2 g3 g4 g5 g6 g7 g8
  obtain ⟨n, o, h1, h2, h3, _, L, _, rfl, ⟨hQ, -, N⟩, hq⟩ := c_law l s _ hw s.heap i0 i1 i2 i3 i4 i5 wV cV.cls w0 s0 t0 c_t0.cls w1 s1 t1 c_t1.cls w2 s2 t2 c_t2.cls w3 s3 t3 c_t3.cls cp wf wo hKS hcp hcw hwf hch7 hch43 hch53 hch58 hch63 hch68 hch69 hch70 hch71 sta_cp sta_wf sta_wo exa_wo fld_wo (Old.start s) tables_1 p e ha hc hk s m _ below hf ((Spec.applies_iff_loose hf).mp happ).1 ⟨rfl, State.Warmed39.refl s, rfl, IB4.start⟩ trivial
  obtain rfl := hQ.1
  refine ⟨n, _, h1, h2, h3, hpost _ _ _ _ _ _ ⟨Cond.after_iff.mpr rfl, Cond.after_iff.mpr (eq_i res_at (Term.int_eval (1)) rfl), trivial⟩ ⟨hq.1, hq.2.1, hq.2.2.1, (hq.2.2.2.sift fun y hy => Or.inr (N y hy)).mono (by decide) (by decide)⟩⟩
theorem main_1_1 : Claimed_1_1 := comes_1 fun _ _ _ _ _ _ h hF => ⟨h.1, hF⟩
theorem main_1_2 : Claimed_1_2 := comes_1 fun _ _ _ _ _ _ h hF => ⟨h.2.1, hF⟩

end Jvm.Pilot.@@N@@
namespace Jvm.Pilot.@@N@@
open Jvm Jvm.ClassFile Sem Op Lib Jvm.Free Jvm.Stand Jvm.Pilot.@@N@@.Jvm.D
/-! MADE BY PROGRAM (witnessworld.py) out of the Statement's table words and the real class files: 24 classes; the members and pool entries that the words name. The judged class is class 1, her method 1. -/
namespace start1
open Jvm.ClassFile
def u (s : String) : CpInfo := .utf8 (stringToUtf16 s)
/-- a pool by its gaps: so many unusable entries, then the entry; so many at the end -/
def gap : Nat → List CpInfo → List CpInfo
  | 0, r => r
  | n + 1, r => .unusable :: gap n r
def poolList (es : List (Nat × CpInfo)) (last : Nat) : List CpInfo := es.foldr (fun e r => gap e.1 (e.2 :: r)) (gap last [])
def pool (es : List (Nat × CpInfo)) (last : Nat) : Array CpInfo := ⟨poolList es last⟩
def fileOf (pool : Array CpInfo) (this : Nat) (attrs : Array Attribute := #[]) (ms : Array MethodInfo := #[]) (fl : Nat := 33) (sup : Nat := 0) (ifs : Array Nat := #[]) (fds : Array FieldInfo := #[]) : ClassFile where
  minorVersion := 0
  majorVersion := 65
  constantPool := pool
  accessFlags := fl
  thisClass := this
  superClass := sup
  interfaces := ifs
  fields := fds
  methods := ms
  attributes := attrs
def plain (name : String) (sup : Option ClassId) : Class where
  name := name
  kind := .ordinary
  loader := none
  accessFlags := 33
  super := sup
  interfaces := #[]
  cf := none
  fields := #[]
  methods := #[]
  instanceTypes := #[]
  staticTypes := #[]
  resolved := #[]
  callSites := []
  init := .initialized
  statics := none
  mirror := none

def pool0 : Array CpInfo := pool [(5, u "<init>"), (0, u "()V"), (1, .class_ 10), (1, u "java/lang/Object"), (85, u "clone"), (0, u "()Ljava/lang/Object;")] 26

def k0c0 : Code := { maxStack := 0, maxLocals := 1, code := object_method_1_code, exceptionTable := #[], attributes := #[] }
def k0m0 : Method := { name := "<init>", desc := "()V", sig := { parameters := [], returnType := none }, accessFlags := 1, code := some k0c0 }
def k0m1 : Method := { name := "clone", desc := "()Ljava/lang/Object;", sig := { parameters := [], returnType := some (.object "java/lang/Object") }, accessFlags := 260, code := none }
/-- java/lang/Object -/
def k0 : Class := { plain "java/lang/Object" none with
  accessFlags := 33
  interfaces := #[]
  cf := some (fileOf pool0 8 #[] #[{ accessFlags := 1, nameIndex := 5, descriptorIndex := 6, attributes := #[] }, { accessFlags := 260, nameIndex := 96, descriptorIndex := 97, attributes := #[] }] 33 0 #[] #[])
  fields := #[]
  methods := #[k0m0, k0m1]
  instanceTypes := #[]
  staticTypes := #[]
  resolved := Array.replicate 124 none
  statics := none }

def pool1 : Array CpInfo := pool [(2, .class_ 4), (1, u "java/lang/Object"), (0, u "<init>"), (0, u "()V"), (0, .methodref 8 9), (0, .class_ 10), (0, .nameAndType 11 12), (0, u "com/example/huron/huron/io/config/AuthenticatorKindNamedPinLaw"), (0, u "word"), (0, u "(I)Ljava/lang/String;"), (0, .methodref 8 14), (0, .nameAndType 15 16), (0, u "at"), (0, u "(Ljava/lang/String;I)C"), (0, .integer 2147483647), (0, .class_ 19), (0, u "java/lang/String"), (0, .methodref 8 21), (0, .nameAndType 22 23), (0, u "take"), (0, u "([CI)[C"), (0, .methodref 18 25), (0, .nameAndType 5 26), (0, u "([C)V"), (0, .methodref 8 28), (0, .nameAndType 29 30), (0, u "expected"), (0, u "(Ljava/lang/String;)Lcom/example/huron/huron/io/config/AuthenticatorKind;"), (0, .methodref 32 33), (0, .class_ 34), (0, .nameAndType 35 36), (0, u "com/example/huron/huron/io/config/AuthenticatorKind"), (0, u "named"), (0, u "(Ljava/lang/String;)Ljava/util/Optional;"), (0, .methodref 38 39), (0, .class_ 40), (0, .nameAndType 41 42), (0, u "java/util/Optional"), (0, u "orElse"), (0, u "(Ljava/lang/Object;)Ljava/lang/Object;"), (0, .string 44), (0, u "local"), (0, .methodref 18 46), (0, .nameAndType 47 48), (0, u "equals"), (0, u "(Ljava/lang/Object;)Z"), (0, .fieldref 32 50), (0, .nameAndType 51 52), (0, u "LOCAL"), (0, u "Lcom/example/huron/huron/io/config/AuthenticatorKind;"), (0, .string 54), (0, u "ldap"), (0, .fieldref 32 56), (0, .nameAndType 57 52), (0, u "LDAP"), (0, .string 59), (0, u "oidc"), (0, .fieldref 32 61), (0, .nameAndType 62 52), (0, u "OIDC"), (0, .string 64), (0, u "saml"), (0, .fieldref 32 66), (0, .nameAndType 67 52), (0, u "SAML"), (0, .string 51), (0, .string 57), (0, .string 62), (0, .string 72), (0, u "Saml"), (0, .methodref 18 74), (0, .nameAndType 75 76), (0, u "length"), (0, u "()I"), (0, .methodref 18 78), (0, .nameAndType 79 80), (0, u "charAt"), (0, u "(I)C"), (2, u "law"), (0, u "(IIIIII)Z")] 5

def k1m0 : Method := { name := "<init>", desc := "()V", sig := { parameters := [], returnType := none }, accessFlags := 1, code := none }
def k1c1 : Code := { maxStack := 4, maxLocals := 13, code := code, exceptionTable := #[], attributes := #[] }
def k1m1 : Method := { name := "law", desc := "(IIIIII)Z", sig := { parameters := [.int, .int, .int, .int, .int, .int], returnType := some .boolean }, accessFlags := 9, code := some k1c1 }
def k1c2 : Code := { maxStack := 2, maxLocals := 1, code := method_3_code, exceptionTable := #[], attributes := #[] }
def k1m2 : Method := { name := "expected", desc := "(Ljava/lang/String;)Lcom/example/huron/huron/io/config/AuthenticatorKind;", sig := { parameters := [(.object "java/lang/String")], returnType := some (.object "com/example/huron/huron/io/config/AuthenticatorKind") }, accessFlags := 10, code := some k1c2 }
def k1c3 : Code := { maxStack := 2, maxLocals := 1, code := method_4_code, exceptionTable := #[], attributes := #[] }
def k1m3 : Method := { name := "word", desc := "(I)Ljava/lang/String;", sig := { parameters := [.int], returnType := some (.object "java/lang/String") }, accessFlags := 10, code := some k1c3 }
def k1c4 : Code := { maxStack := 2, maxLocals := 2, code := method_5_code, exceptionTable := #[], attributes := #[] }
def k1m4 : Method := { name := "at", desc := "(Ljava/lang/String;I)C", sig := { parameters := [(.object "java/lang/String"), .int], returnType := some .char }, accessFlags := 10, code := some k1c4 }
def k1c5 : Code := { maxStack := 5, maxLocals := 2, code := method_6_code, exceptionTable := #[], attributes := #[] }
def k1m5 : Method := { name := "take", desc := "([CI)[C", sig := { parameters := [(.array .char), .int], returnType := some (.array .char) }, accessFlags := 10, code := some k1c5 }
/-- com/example/huron/huron/io/config/AuthenticatorKindNamedPinLaw -/
def k1 : Class := { plain "com/example/huron/huron/io/config/AuthenticatorKindNamedPinLaw" (some 0) with
  accessFlags := 49
  interfaces := #[]
  cf := some (fileOf pool1 8 #[] #[{ accessFlags := 1, nameIndex := 5, descriptorIndex := 6, attributes := #[] }, { accessFlags := 9, nameIndex := 83, descriptorIndex := 84, attributes := #[] }, { accessFlags := 10, nameIndex := 29, descriptorIndex := 30, attributes := #[] }, { accessFlags := 10, nameIndex := 11, descriptorIndex := 12, attributes := #[] }, { accessFlags := 10, nameIndex := 15, descriptorIndex := 16, attributes := #[] }, { accessFlags := 10, nameIndex := 22, descriptorIndex := 23, attributes := #[] }] 49 2 #[] #[])
  fields := #[]
  methods := #[k1m0, k1m1, k1m2, k1m3, k1m4, k1m5]
  instanceTypes := #[]
  staticTypes := #[]
  resolved := Array.replicate 90 none
  statics := none }

def pool2 : Array CpInfo := pool [(1, .class_ 2), (0, u "java/io/Serializable"), (0, .class_ 4), (0, u "java/lang/Object")] 2

/-- java/io/Serializable -/
def k2 : Class := { plain "java/io/Serializable" (some 0) with
  accessFlags := 1537
  interfaces := #[]
  cf := some (fileOf pool2 1 #[] #[] 1537 3 #[] #[])
  fields := #[]
  methods := #[]
  instanceTypes := #[]
  staticTypes := #[]
  resolved := Array.replicate 7 none
  statics := none }

def pool3 : Array CpInfo := pool [(1, .class_ 2), (0, u "java/lang/Comparable"), (0, .class_ 4), (0, u "java/lang/Object")] 7

/-- java/lang/Comparable -/
def k3 : Class := { plain "java/lang/Comparable" (some 0) with
  accessFlags := 1537
  interfaces := #[]
  cf := some (fileOf pool3 1 #[] #[] 1537 3 #[] #[])
  fields := #[]
  methods := #[]
  instanceTypes := #[]
  staticTypes := #[]
  resolved := Array.replicate 12 none
  statics := none }

def pool4 : Array CpInfo := pool [(2, .class_ 4), (1, u "java/lang/CharSequence"), (42, .class_ 48), (0, u "java/lang/CharSequence$1CodePointIterator"), (10, .class_ 60), (0, u "java/lang/CharSequence$1CharIterator"), (5, .class_ 67), (0, u "java/lang/Object")] 63

/-- java/lang/CharSequence -/
def k4 : Class := { plain "java/lang/CharSequence" (some 0) with
  accessFlags := 1537
  interfaces := #[]
  cf := some (fileOf pool4 2 #[.nestMembers #[47, 59]] #[] 1537 66 #[] #[])
  fields := #[]
  methods := #[]
  instanceTypes := #[]
  staticTypes := #[]
  resolved := Array.replicate 131 none
  statics := none }

def pool5 : Array CpInfo := pool [(1, .class_ 2), (0, u "java/lang/constant/Constable"), (0, .class_ 4), (0, u "java/lang/Object")] 6

/-- java/lang/constant/Constable -/
def k5 : Class := { plain "java/lang/constant/Constable" (some 0) with
  accessFlags := 1537
  interfaces := #[]
  cf := some (fileOf pool5 1 #[] #[] 1537 3 #[] #[])
  fields := #[]
  methods := #[]
  instanceTypes := #[]
  staticTypes := #[]
  resolved := Array.replicate 11 none
  statics := none }

def pool6 : Array CpInfo := pool [(1, .class_ 2), (0, u "java/lang/constant/ConstantDesc"), (0, .class_ 4), (0, u "java/lang/Object")] 32

/-- java/lang/constant/ConstantDesc -/
def k6 : Class := { plain "java/lang/constant/ConstantDesc" (some 0) with
  accessFlags := 1537
  interfaces := #[]
  cf := some (fileOf pool6 1 #[] #[] 1537 3 #[] #[])
  fields := #[]
  methods := #[]
  instanceTypes := #[]
  staticTypes := #[]
  resolved := Array.replicate 37 none
  statics := none }

def pool7 : Array CpInfo := pool [(1, .methodref 2 3), (0, .class_ 4), (0, .nameAndType 5 6), (0, u "java/lang/Object"), (0, u "<init>"), (0, u "()V"), (0, .string 8), (0, u ""), (0, .fieldref 10 11), (0, .class_ 12), (0, .nameAndType 13 14), (0, u "java/lang/String"), (0, u "value"), (0, u "[B"), (0, .fieldref 10 16), (0, .nameAndType 17 18), (0, u "coder"), (0, u "B"), (2, u "hash"), (0, u "I"), (2, u "hashIsZero"), (0, u "Z"), (0, .methodref 10 28), (0, .nameAndType 5 29), (0, u "([CIILjava/lang/Void;)V"), (8, .fieldref 10 39), (0, .nameAndType 40 26), (0, u "COMPACT_STRINGS"), (1, .class_ 44), (1, u "java/lang/StringUTF16"), (0, u "compress"), (1, .methodref 42 48), (0, .nameAndType 49 50), (0, u "coderFromArrayLen"), (0, u "([BI)B"), (56, .class_ 109), (1, u "java/lang/StringLatin1"), (32, u "()Z"), (34, .methodref 42 178), (0, .nameAndType 45 179), (0, u "([CII)[B"), (154, u "()I"), (0, .methodref 10 336), (0, .nameAndType 17 337), (0, u "()B"), (25, u "([BI)C"), (27, u "(II)V"), (35, u "(I)C"), (64, .methodref 10 493), (0, .nameAndType 494 142), (0, u "isLatin1"), (0, .methodref 107 496), (0, .nameAndType 497 363), (0, u "charAt"), (3, u "checkIndex"), (5, u "length"), (33, .methodref 107 542), (0, .nameAndType 543 544), (0, u "equals"), (0, u "([B[B)Z"), (28, u "(Ljava/lang/Object;)Z"), (1, .class_ 576), (0, u "java/lang/CharSequence"), (22, u "CASE_INSENSITIVE_ORDER"), (0, u "Ljava/util/Comparator;"), (409, u "([C)V"), (42, .fieldref 1054 1055), (0, .class_ 1056), (0, .nameAndType 1057 1058), (0, u "jdk/internal/util/Preconditions"), (0, u "SIOOBE_FORMATTER"), (0, u "Ljava/util/function/BiFunction;"), (0, .methodref 1054 1060), (0, .nameAndType 501 1061), (0, u "(IILjava/util/function/BiFunction;)I"), (39, u "serialPersistentFields"), (0, u "[Ljava/io/ObjectStreamField;"), (0, .class_ 1104), (0, u "java/lang/String$CaseInsensitiveComparator"), (1, .class_ 1107), (0, u "java/io/Serializable"), (0, .class_ 1109), (0, u "java/lang/Comparable"), (0, .class_ 1111), (0, u "java/lang/constant/Constable"), (0, .class_ 1113), (0, u "java/lang/constant/ConstantDesc"), (2, u "serialVersionUID"), (0, u "J"), (3, u "REPL"), (0, u "C"), (2, u "LATIN1"), (1, u "UTF16")] 323

def k7m0 : Method := { name := "<init>", desc := "()V", sig := { parameters := [], returnType := none }, accessFlags := 1, code := none }
def k7c1 : Code := { maxStack := 5, maxLocals := 2, code := jdk_42_method_3_code, exceptionTable := #[], attributes := #[] }
def k7m1 : Method := { name := "<init>", desc := "([C)V", sig := { parameters := [(.array .char)], returnType := none }, accessFlags := 1, code := some k7c1 }
def k7c2 : Code := { maxStack := 2, maxLocals := 1, code := jdk_42_method_54_code, exceptionTable := #[], attributes := #[] }
def k7m2 : Method := { name := "length", desc := "()I", sig := { parameters := [], returnType := some .int }, accessFlags := 1, code := some k7c2 }
def k7c3 : Code := { maxStack := 2, maxLocals := 2, code := jdk_42_method_56_code, exceptionTable := #[], attributes := #[] }
def k7m3 : Method := { name := "charAt", desc := "(I)C", sig := { parameters := [.int], returnType := some .char }, accessFlags := 1, code := some k7c3 }
def k7c4 : Code := { maxStack := 2, maxLocals := 3, code := jdk_42_method_66_code, exceptionTable := #[], attributes := #[] }
def k7m4 : Method := { name := "equals", desc := "(Ljava/lang/Object;)Z", sig := { parameters := [(.object "java/lang/Object")], returnType := some .boolean }, accessFlags := 1, code := some k7c4 }
def k7c5 : Code := { maxStack := 4, maxLocals := 6, code := jdk_42_method_149_code, exceptionTable := #[], attributes := #[] }
def k7m5 : Method := { name := "<init>", desc := "([CIILjava/lang/Void;)V", sig := { parameters := [(.array .char), .int, .int, (.object "java/lang/Void")], returnType := none }, accessFlags := 2, code := some k7c5 }
def k7c6 : Code := { maxStack := 1, maxLocals := 1, code := jdk_42_method_152_code, exceptionTable := #[], attributes := #[] }
def k7m6 : Method := { name := "coder", desc := "()B", sig := { parameters := [], returnType := some .byte }, accessFlags := 0, code := some k7c6 }
def k7c7 : Code := { maxStack := 1, maxLocals := 1, code := jdk_42_method_154_code, exceptionTable := #[], attributes := #[] }
def k7m7 : Method := { name := "isLatin1", desc := "()Z", sig := { parameters := [], returnType := some .boolean }, accessFlags := 0, code := some k7c7 }
def k7c8 : Code := { maxStack := 3, maxLocals := 2, code := jdk_42_method_155_code, exceptionTable := #[], attributes := #[] }
def k7m8 : Method := { name := "checkIndex", desc := "(II)V", sig := { parameters := [.int, .int], returnType := none }, accessFlags := 8, code := some k7c8 }
/-- java/lang/String -/
def k7 : Class := { plain "java/lang/String" (some 0) with
  accessFlags := 49
  interfaces := #[2, 3, 4, 5, 6]
  cf := some (fileOf pool7 10 #[.nestMembers #[1103]] #[{ accessFlags := 1, nameIndex := 5, descriptorIndex := 6, attributes := #[] }, { accessFlags := 1, nameIndex := 5, descriptorIndex := 1010, attributes := #[] }, { accessFlags := 1, nameIndex := 507, descriptorIndex := 334, attributes := #[] }, { accessFlags := 1, nameIndex := 497, descriptorIndex := 427, attributes := #[] }, { accessFlags := 1, nameIndex := 543, descriptorIndex := 573, attributes := #[] }, { accessFlags := 2, nameIndex := 5, descriptorIndex := 29, attributes := #[] }, { accessFlags := 0, nameIndex := 17, descriptorIndex := 337, attributes := #[] }, { accessFlags := 0, nameIndex := 494, descriptorIndex := 142, attributes := #[] }, { accessFlags := 8, nameIndex := 501, descriptorIndex := 391, attributes := #[] }] 49 2 #[1106, 1108, 575, 1110, 1112] #[{ accessFlags := 18, nameIndex := 13, descriptorIndex := 14, attributes := #[] }, { accessFlags := 18, nameIndex := 17, descriptorIndex := 18, attributes := #[] }, { accessFlags := 2, nameIndex := 21, descriptorIndex := 22, attributes := #[] }, { accessFlags := 2, nameIndex := 25, descriptorIndex := 26, attributes := #[] }, { accessFlags := 26, nameIndex := 1116, descriptorIndex := 1117, attributes := #[] }, { accessFlags := 24, nameIndex := 40, descriptorIndex := 26, attributes := #[] }, { accessFlags := 26, nameIndex := 1101, descriptorIndex := 1102, attributes := #[] }, { accessFlags := 26, nameIndex := 1121, descriptorIndex := 1122, attributes := #[] }, { accessFlags := 25, nameIndex := 599, descriptorIndex := 600, attributes := #[] }, { accessFlags := 24, nameIndex := 1125, descriptorIndex := 18, attributes := #[] }, { accessFlags := 24, nameIndex := 1127, descriptorIndex := 18, attributes := #[] }])
  fields := #[{ name := "value", type := (.array .byte), accessFlags := 18, slot := 0, constantValue := 0 }, { name := "coder", type := .byte, accessFlags := 18, slot := 1, constantValue := 0 }, { name := "hash", type := .int, accessFlags := 2, slot := 2, constantValue := 0 }, { name := "hashIsZero", type := .boolean, accessFlags := 2, slot := 3, constantValue := 0 }, { name := "serialVersionUID", type := .long, accessFlags := 26, slot := 0, constantValue := 0 }, { name := "COMPACT_STRINGS", type := .boolean, accessFlags := 24, slot := 1, constantValue := 0 }, { name := "serialPersistentFields", type := (.array (.object "java/io/ObjectStreamField")), accessFlags := 26, slot := 2, constantValue := 0 }, { name := "REPL", type := .char, accessFlags := 26, slot := 3, constantValue := 0 }, { name := "CASE_INSENSITIVE_ORDER", type := (.object "java/util/Comparator"), accessFlags := 25, slot := 4, constantValue := 0 }, { name := "LATIN1", type := .byte, accessFlags := 24, slot := 5, constantValue := 0 }, { name := "UTF16", type := .byte, accessFlags := 24, slot := 6, constantValue := 0 }]
  methods := #[k7m0, k7m1, k7m2, k7m3, k7m4, k7m5, k7m6, k7m7, k7m8]
  instanceTypes := #[(.array .byte), .byte, .int, .boolean]
  staticTypes := #[.long, .boolean, (.array (.object "java/io/ObjectStreamField")), .char, (.object "java/util/Comparator"), .byte, .byte]
  resolved := Array.replicate 1451 none
  statics := some 0 }

def pool8 : Array CpInfo := pool [(1, .class_ 2), (0, u "java/lang/String"), (1, .class_ 6), (1, u "java/lang/Object"), (0, u "<init>"), (0, u "()V"), (0, .methodref 1 10), (0, .nameAndType 11 12), (0, u "checkIndex"), (0, u "(II)V"), (1, .class_ 16), (1, u "java/lang/StringLatin1"), (36, u "([BI)C"), (67, u "$assertionsDisabled"), (0, u "Z"), (98, .class_ 223), (1, u "java/lang/StringLatin1$LinesSpliterator"), (28, u "charAt"), (28, u "equals"), (0, u "([B[B)Z"), (107, .class_ 391), (0, u "java/lang/StringLatin1$CharsSpliterator")] 3

def k8m0 : Method := { name := "<init>", desc := "()V", sig := { parameters := [], returnType := none }, accessFlags := 0, code := none }
def k8c1 : Code := { maxStack := 2, maxLocals := 2, code := jdk_43_method_2_code, exceptionTable := #[], attributes := #[] }
def k8m1 : Method := { name := "charAt", desc := "([BI)C", sig := { parameters := [(.array .byte), .int], returnType := some .char }, accessFlags := 9, code := some k8c1 }
def k8c2 : Code := { maxStack := 3, maxLocals := 3, code := jdk_43_method_13_code, exceptionTable := #[], attributes := #[] }
def k8m2 : Method := { name := "equals", desc := "([B[B)Z", sig := { parameters := [(.array .byte), (.array .byte)], returnType := some .boolean }, accessFlags := 9, code := some k8c2 }
/-- java/lang/StringLatin1 -/
def k8 : Class := { plain "java/lang/StringLatin1" (some 0) with
  accessFlags := 48
  interfaces := #[]
  cf := some (fileOf pool8 14 #[.nestMembers #[390, 221]] #[{ accessFlags := 0, nameIndex := 7, descriptorIndex := 8, attributes := #[] }, { accessFlags := 9, nameIndex := 252, descriptorIndex := 53, attributes := #[] }, { accessFlags := 9, nameIndex := 281, descriptorIndex := 282, attributes := #[] }] 48 4 #[] #[{ accessFlags := 4120, nameIndex := 121, descriptorIndex := 122, attributes := #[] }])
  fields := #[{ name := "$assertionsDisabled", type := .boolean, accessFlags := 4120, slot := 0, constantValue := 0 }]
  methods := #[k8m0, k8m1, k8m2]
  instanceTypes := #[]
  staticTypes := #[.boolean]
  resolved := Array.replicate 395 none
  statics := none }

def pool9 : Array CpInfo := pool [(2, .class_ 4), (1, u "java/lang/Object"), (0, u "<init>"), (0, u "()V"), (17, .class_ 26), (1, u "jdk/internal/util/Preconditions"), (6, u "checkIndex"), (21, .class_ 56), (0, u "jdk/internal/util/Preconditions$4"), (57, .class_ 115), (0, u "jdk/internal/util/Preconditions$1"), (7, u "SIOOBE_FORMATTER"), (0, u "Ljava/util/function/BiFunction;"), (0, .class_ 126), (0, u "jdk/internal/util/Preconditions$2"), (3, u "AIOOBE_FORMATTER"), (0, .class_ 132), (0, u "jdk/internal/util/Preconditions$3"), (3, u "IOOBE_FORMATTER"), (41, u "(IILjava/util/function/BiFunction;)I")] 15

def k9m0 : Method := { name := "<init>", desc := "()V", sig := { parameters := [], returnType := none }, accessFlags := 1, code := none }
def k9c1 : Code := { maxStack := 3, maxLocals := 3, code := jdk_41_method_11_code, exceptionTable := #[], attributes := #[] }
def k9m1 : Method := { name := "checkIndex", desc := "(IILjava/util/function/BiFunction;)I", sig := { parameters := [.int, .int, (.object "java/util/function/BiFunction")], returnType := some .int }, accessFlags := 9, code := some k9c1 }
/-- jdk/internal/util/Preconditions -/
def k9 : Class := { plain "jdk/internal/util/Preconditions" (some 0) with
  accessFlags := 33
  interfaces := #[]
  cf := some (fileOf pool9 24 #[.nestMembers #[55, 131, 125, 114]] #[{ accessFlags := 1, nameIndex := 5, descriptorIndex := 6, attributes := #[] }, { accessFlags := 9, nameIndex := 33, descriptorIndex := 178, attributes := #[] }] 33 2 #[] #[{ accessFlags := 25, nameIndex := 123, descriptorIndex := 124, attributes := #[] }, { accessFlags := 25, nameIndex := 130, descriptorIndex := 124, attributes := #[] }, { accessFlags := 25, nameIndex := 136, descriptorIndex := 124, attributes := #[] }])
  fields := #[{ name := "SIOOBE_FORMATTER", type := (.object "java/util/function/BiFunction"), accessFlags := 25, slot := 0, constantValue := 0 }, { name := "AIOOBE_FORMATTER", type := (.object "java/util/function/BiFunction"), accessFlags := 25, slot := 1, constantValue := 0 }, { name := "IOOBE_FORMATTER", type := (.object "java/util/function/BiFunction"), accessFlags := 25, slot := 2, constantValue := 0 }]
  methods := #[k9m0, k9m1]
  instanceTypes := #[]
  staticTypes := #[(.object "java/util/function/BiFunction"), (.object "java/util/function/BiFunction"), (.object "java/util/function/BiFunction")]
  resolved := Array.replicate 194 none
  statics := some 1 }

def pool10 : Array CpInfo := pool [(6, .class_ 8), (1, u "java/lang/Object"), (0, u "<init>"), (0, u "()V"), (1, .class_ 14), (1, u "java/lang/StringUTF16"), (31, u "$assertionsDisabled"), (0, u "Z"), (13, u "HI_BYTE_SHIFT"), (0, u "I"), (2, u "LO_BYTE_SHIFT"), (49, .methodref 12 116), (0, .nameAndType 117 118), (0, u "compress"), (0, u "([CI[BII)I"), (3, u "([CII)[B"), (138, u "coderFromArrayLen"), (0, u "([BI)B"), (106, .class_ 371), (1, u "java/lang/StringUTF16$LinesSpliterator"), (58, u "MAX_LENGTH"), (196, .class_ 628), (0, u "java/lang/StringUTF16$CodePointsSpliterator"), (0, .class_ 630), (0, u "java/lang/StringUTF16$CharsSpliterator")] 4

def k10m0 : Method := { name := "<init>", desc := "()V", sig := { parameters := [], returnType := none }, accessFlags := 0, code := none }
def k10c1 : Code := { maxStack := 2, maxLocals := 2, code := jdk_52_method_15_code, exceptionTable := #[], attributes := #[] }
def k10m1 : Method := { name := "coderFromArrayLen", desc := "([BI)B", sig := { parameters := [(.array .byte), .int], returnType := some .byte }, accessFlags := 8, code := some k10c1 }
def k10c2 : Code := { maxStack := 5, maxLocals := 6, code := jdk_52_method_16_code, exceptionTable := #[], attributes := #[] }
def k10m2 : Method := { name := "compress", desc := "([CII)[B", sig := { parameters := [(.array .char), .int, .int], returnType := some (.array .byte) }, accessFlags := 9, code := some k10c2 }
def k10c3 : Code := { maxStack := 3, maxLocals := 7, code := jdk_52_method_21_code, exceptionTable := #[], attributes := #[] }
def k10m3 : Method := { name := "compress", desc := "([CI[BII)I", sig := { parameters := [(.array .char), .int, (.array .byte), .int, .int], returnType := some .int }, accessFlags := 9, code := some k10c3 }
/-- java/lang/StringUTF16 -/
def k10 : Class := { plain "java/lang/StringUTF16" (some 0) with
  accessFlags := 48
  interfaces := #[]
  cf := some (fileOf pool10 12 #[.nestMembers #[627, 629, 369]] #[{ accessFlags := 0, nameIndex := 9, descriptorIndex := 10, attributes := #[] }, { accessFlags := 8, nameIndex := 261, descriptorIndex := 262, attributes := #[] }, { accessFlags := 9, nameIndex := 117, descriptorIndex := 122, attributes := #[] }, { accessFlags := 9, nameIndex := 117, descriptorIndex := 118, attributes := #[] }] 48 6 #[] #[{ accessFlags := 26, nameIndex := 61, descriptorIndex := 62, attributes := #[] }, { accessFlags := 26, nameIndex := 65, descriptorIndex := 62, attributes := #[] }, { accessFlags := 24, nameIndex := 430, descriptorIndex := 62, attributes := #[] }, { accessFlags := 4120, nameIndex := 46, descriptorIndex := 47, attributes := #[] }])
  fields := #[{ name := "HI_BYTE_SHIFT", type := .int, accessFlags := 26, slot := 0, constantValue := 0 }, { name := "LO_BYTE_SHIFT", type := .int, accessFlags := 26, slot := 1, constantValue := 0 }, { name := "MAX_LENGTH", type := .int, accessFlags := 24, slot := 2, constantValue := 0 }, { name := "$assertionsDisabled", type := .boolean, accessFlags := 4120, slot := 3, constantValue := 0 }]
  methods := #[k10m0, k10m1, k10m2, k10m3]
  instanceTypes := #[]
  staticTypes := #[.int, .int, .int, .boolean]
  resolved := Array.replicate 635 none
  statics := none }

def pool11 : Array CpInfo := pool [(2, .class_ 4), (1, u "java/lang/Enum"), (0, u "name"), (0, u "Ljava/lang/String;"), (2, u "ordinal"), (0, u "I"), (1, .class_ 14), (1, u "java/lang/Object"), (4, u "hash"), (86, .class_ 108), (1, u "java/lang/Enum$EnumDesc"), (2, .class_ 112), (0, u "java/lang/constant/Constable"), (0, .class_ 114), (0, u "java/lang/Comparable"), (0, .class_ 116), (0, u "java/io/Serializable")] 87

/-- java/lang/Enum -/
def k11 : Class := { plain "java/lang/Enum" (some 0) with
  accessFlags := 1057
  interfaces := #[5, 3, 2]
  cf := some (fileOf pool11 2 #[.nestMembers #[106]] #[] 1057 12 #[111, 113, 115] #[{ accessFlags := 18, nameIndex := 5, descriptorIndex := 6, attributes := #[] }, { accessFlags := 18, nameIndex := 9, descriptorIndex := 10, attributes := #[] }, { accessFlags := 2, nameIndex := 19, descriptorIndex := 10, attributes := #[] }])
  fields := #[{ name := "name", type := (.object "java/lang/String"), accessFlags := 18, slot := 0, constantValue := 0 }, { name := "ordinal", type := .int, accessFlags := 18, slot := 1, constantValue := 0 }, { name := "hash", type := .int, accessFlags := 2, slot := 2, constantValue := 0 }]
  methods := #[]
  instanceTypes := #[(.object "java/lang/String"), .int, .int]
  staticTypes := #[]
  resolved := Array.replicate 204 none
  statics := none }

def pool12 : Array CpInfo := pool [(1, .class_ 2), (0, u "com/example/huron/huron/io/config/AuthenticatorKind"), (2, u "LOCAL"), (0, u "Lcom/example/huron/huron/io/config/AuthenticatorKind;"), (2, u "LDAP"), (2, u "OIDC"), (2, u "SAML"), (0, .fieldref 1 17), (0, .nameAndType 18 19), (0, u "$VALUES"), (0, u "[Lcom/example/huron/huron/io/config/AuthenticatorKind;"), (0, .methodref 21 22), (0, .class_ 19), (0, .nameAndType 23 24), (0, u "clone"), (0, u "()Ljava/lang/Object;"), (1, .class_ 28), (1, u "java/lang/Enum"), (6, .fieldref 1 36), (0, .nameAndType 37 38), (0, u "word"), (0, u "Ljava/lang/String;"), (0, .methodref 1 40), (0, .nameAndType 41 42), (0, u "values"), (0, u "()[Lcom/example/huron/huron/io/config/AuthenticatorKind;"), (0, .methodref 44 45), (0, .class_ 46), (0, .nameAndType 47 48), (0, u "java/lang/String"), (0, u "equals"), (0, u "(Ljava/lang/Object;)Z"), (0, .methodref 50 51), (0, .class_ 52), (0, .nameAndType 53 54), (0, u "java/util/Optional"), (0, u "of"), (0, u "(Ljava/lang/Object;)Ljava/util/Optional;"), (0, .methodref 50 56), (0, .nameAndType 57 58), (0, u "empty"), (0, u "()Ljava/util/Optional;"), (24, u "named"), (0, u "(Ljava/lang/String;)Ljava/util/Optional;")] 7

def k12c0 : Code := { maxStack := 1, maxLocals := 0, code := prog_8_method_1_code, exceptionTable := #[], attributes := #[] }
def k12m0 : Method := { name := "values", desc := "()[Lcom/example/huron/huron/io/config/AuthenticatorKind;", sig := { parameters := [], returnType := some (.array (.object "com/example/huron/huron/io/config/AuthenticatorKind")) }, accessFlags := 9, code := some k12c0 }
def k12c1 : Code := { maxStack := 2, maxLocals := 5, code := prog_8_method_4_code, exceptionTable := #[], attributes := #[] }
def k12m1 : Method := { name := "named", desc := "(Ljava/lang/String;)Ljava/util/Optional;", sig := { parameters := [(.object "java/lang/String")], returnType := some (.object "java/util/Optional") }, accessFlags := 9, code := some k12c1 }
/-- com/example/huron/huron/io/config/AuthenticatorKind -/
def k12 : Class := { plain "com/example/huron/huron/io/config/AuthenticatorKind" (some 11) with
  accessFlags := 16433
  interfaces := #[]
  cf := some (fileOf pool12 1 #[] #[{ accessFlags := 9, nameIndex := 41, descriptorIndex := 42, attributes := #[] }, { accessFlags := 9, nameIndex := 83, descriptorIndex := 84, attributes := #[] }] 16433 26 #[] #[{ accessFlags := 16409, nameIndex := 5, descriptorIndex := 6, attributes := #[] }, { accessFlags := 16409, nameIndex := 9, descriptorIndex := 6, attributes := #[] }, { accessFlags := 16409, nameIndex := 12, descriptorIndex := 6, attributes := #[] }, { accessFlags := 16409, nameIndex := 15, descriptorIndex := 6, attributes := #[] }, { accessFlags := 18, nameIndex := 37, descriptorIndex := 38, attributes := #[] }, { accessFlags := 4122, nameIndex := 18, descriptorIndex := 19, attributes := #[] }])
  fields := #[{ name := "LOCAL", type := (.object "com/example/huron/huron/io/config/AuthenticatorKind"), accessFlags := 16409, slot := 0, constantValue := 0 }, { name := "LDAP", type := (.object "com/example/huron/huron/io/config/AuthenticatorKind"), accessFlags := 16409, slot := 1, constantValue := 0 }, { name := "OIDC", type := (.object "com/example/huron/huron/io/config/AuthenticatorKind"), accessFlags := 16409, slot := 2, constantValue := 0 }, { name := "SAML", type := (.object "com/example/huron/huron/io/config/AuthenticatorKind"), accessFlags := 16409, slot := 3, constantValue := 0 }, { name := "word", type := (.object "java/lang/String"), accessFlags := 18, slot := 3, constantValue := 0 }, { name := "$VALUES", type := (.array (.object "com/example/huron/huron/io/config/AuthenticatorKind")), accessFlags := 4122, slot := 4, constantValue := 0 }]
  methods := #[k12m0, k12m1]
  instanceTypes := #[(.object "java/lang/String"), .int, .int, (.object "java/lang/String")]
  staticTypes := #[(.object "com/example/huron/huron/io/config/AuthenticatorKind"), (.object "com/example/huron/huron/io/config/AuthenticatorKind"), (.object "com/example/huron/huron/io/config/AuthenticatorKind"), (.object "com/example/huron/huron/io/config/AuthenticatorKind"), (.array (.object "com/example/huron/huron/io/config/AuthenticatorKind"))]
  resolved := Array.replicate 92 none
  statics := some 2 }

def pool13 : Array CpInfo := pool [(1, .class_ 2), (0, u "java/lang/Cloneable"), (0, .class_ 4), (0, u "java/lang/Object")] 2

/-- java/lang/Cloneable -/
def k13 : Class := { plain "java/lang/Cloneable" (some 0) with
  accessFlags := 1537
  interfaces := #[]
  cf := some (fileOf pool13 1 #[] #[] 1537 3 #[] #[])
  fields := #[]
  methods := #[]
  instanceTypes := #[]
  staticTypes := #[]
  resolved := Array.replicate 7 none
  statics := none }

def pool14 : Array CpInfo := pool [(1, .fieldref 2 3), (0, .class_ 4), (0, .nameAndType 5 6), (0, u "java/util/Optional"), (0, u "EMPTY"), (0, u "Ljava/util/Optional;"), (0, .methodref 8 9), (0, .class_ 10), (0, .nameAndType 11 12), (0, u "java/lang/Object"), (0, u "<init>"), (0, u "()V"), (0, .fieldref 2 14), (0, .nameAndType 15 16), (0, u "value"), (0, u "Ljava/lang/Object;"), (0, .methodref 18 19), (0, .class_ 20), (0, .nameAndType 21 22), (0, u "java/util/Objects"), (0, u "requireNonNull"), (0, u "(Ljava/lang/Object;)Ljava/lang/Object;"), (0, .methodref 2 24), (0, .nameAndType 11 25), (0, u "(Ljava/lang/Object;)V"), (29, u "empty"), (0, u "()Ljava/util/Optional;"), (8, u "(Ljava/lang/Object;)Ljava/util/Optional;"), (16, u "of"), (82, u "orElse")] 21

def k14c0 : Code := { maxStack := 1, maxLocals := 1, code := jdk_32_method_1_code, exceptionTable := #[], attributes := #[] }
def k14m0 : Method := { name := "empty", desc := "()Ljava/util/Optional;", sig := { parameters := [], returnType := some (.object "java/util/Optional") }, accessFlags := 9, code := some k14c0 }
def k14c1 : Code := { maxStack := 2, maxLocals := 2, code := jdk_32_method_2_code, exceptionTable := #[], attributes := #[] }
def k14m1 : Method := { name := "<init>", desc := "(Ljava/lang/Object;)V", sig := { parameters := [(.object "java/lang/Object")], returnType := none }, accessFlags := 2, code := some k14c1 }
def k14c2 : Code := { maxStack := 3, maxLocals := 1, code := jdk_32_method_3_code, exceptionTable := #[], attributes := #[] }
def k14m2 : Method := { name := "of", desc := "(Ljava/lang/Object;)Ljava/util/Optional;", sig := { parameters := [(.object "java/lang/Object")], returnType := some (.object "java/util/Optional") }, accessFlags := 9, code := some k14c2 }
def k14c3 : Code := { maxStack := 1, maxLocals := 2, code := jdk_32_method_15_code, exceptionTable := #[], attributes := #[] }
def k14m3 : Method := { name := "orElse", desc := "(Ljava/lang/Object;)Ljava/lang/Object;", sig := { parameters := [(.object "java/lang/Object")], returnType := some (.object "java/lang/Object") }, accessFlags := 1, code := some k14c3 }
/-- java/util/Optional -/
def k14 : Class := { plain "java/util/Optional" (some 0) with
  accessFlags := 49
  interfaces := #[]
  cf := some (fileOf pool14 2 #[] #[{ accessFlags := 9, nameIndex := 55, descriptorIndex := 56, attributes := #[] }, { accessFlags := 2, nameIndex := 11, descriptorIndex := 25, attributes := #[] }, { accessFlags := 9, nameIndex := 82, descriptorIndex := 65, attributes := #[] }, { accessFlags := 1, nameIndex := 165, descriptorIndex := 22, attributes := #[] }] 49 8 #[] #[{ accessFlags := 26, nameIndex := 5, descriptorIndex := 6, attributes := #[] }, { accessFlags := 18, nameIndex := 15, descriptorIndex := 16, attributes := #[] }])
  fields := #[{ name := "EMPTY", type := (.object "java/util/Optional"), accessFlags := 26, slot := 0, constantValue := 0 }, { name := "value", type := (.object "java/lang/Object"), accessFlags := 18, slot := 0, constantValue := 0 }]
  methods := #[k14m0, k14m1, k14m2, k14m3]
  instanceTypes := #[(.object "java/lang/Object")]
  staticTypes := #[(.object "java/util/Optional")]
  resolved := Array.replicate 187 none
  statics := some 3 }

def pool15 : Array CpInfo := pool [(2, .class_ 4), (1, u "java/lang/Object"), (0, u "<init>"), (0, u "()V"), (35, .class_ 44), (1, u "java/util/Objects"), (0, u "requireNonNull"), (0, u "(Ljava/lang/Object;)Ljava/lang/Object;")] 137

def k15m0 : Method := { name := "<init>", desc := "()V", sig := { parameters := [], returnType := none }, accessFlags := 2, code := none }
def k15c1 : Code := { maxStack := 2, maxLocals := 1, code := jdk_31_method_10_code, exceptionTable := #[], attributes := #[] }
def k15m1 : Method := { name := "requireNonNull", desc := "(Ljava/lang/Object;)Ljava/lang/Object;", sig := { parameters := [(.object "java/lang/Object")], returnType := some (.object "java/lang/Object") }, accessFlags := 9, code := some k15c1 }
/-- java/util/Objects -/
def k15 : Class := { plain "java/util/Objects" (some 0) with
  accessFlags := 49
  interfaces := #[]
  cf := some (fileOf pool15 42 #[] #[{ accessFlags := 2, nameIndex := 5, descriptorIndex := 6, attributes := #[] }, { accessFlags := 9, nameIndex := 45, descriptorIndex := 46, attributes := #[] }] 49 2 #[] #[])
  fields := #[]
  methods := #[k15m0, k15m1]
  instanceTypes := #[]
  staticTypes := #[]
  resolved := Array.replicate 184 none
  statics := none }

def pool16 : Array CpInfo := pool [(9, u "<init>"), (6, .class_ 18), (1, u "java/lang/Object"), (0, u "()V"), (1, .class_ 23), (1, u "jdk/internal/util/ArraysSupport"), (0, u "LOG2_ARRAY_LONG_INDEX_SCALE"), (0, u "I"), (2, u "U"), (0, u "Ljdk/internal/misc/Unsafe;"), (8, u "BIG_ENDIAN"), (0, u "Z"), (8, u "LOG2_BYTE_BIT_SIZE"), (4, u "LOG2_ARRAY_INT_INDEX_SCALE"), (54, u "JLA"), (0, u "Ljdk/internal/access/JavaLangAccess;"), (11, u "LOG2_ARRAY_BOOLEAN_INDEX_SCALE"), (9, u "LOG2_ARRAY_BYTE_INDEX_SCALE"), (5, u "LOG2_ARRAY_CHAR_INDEX_SCALE"), (5, u "LOG2_ARRAY_SHORT_INDEX_SCALE"), (18, u "LOG2_ARRAY_FLOAT_INDEX_SCALE"), (24, u "LOG2_ARRAY_DOUBLE_INDEX_SCALE"), (89, u "T_BOOLEAN"), (2, u "T_CHAR"), (1, u "T_FLOAT"), (1, u "T_DOUBLE"), (1, u "T_BYTE"), (1, u "T_SHORT"), (1, u "T_INT"), (1, u "T_LONG"), (1, u "SOFT_MAX_ARRAY_LENGTH")] 83

def k16m0 : Method := { name := "<init>", desc := "()V", sig := { parameters := [], returnType := none }, accessFlags := 2, code := none }
/-- jdk/internal/util/ArraysSupport -/
def k16 : Class := { plain "jdk/internal/util/ArraysSupport" (some 0) with
  accessFlags := 33
  interfaces := #[]
  cf := some (fileOf pool16 21 #[] #[{ accessFlags := 2, nameIndex := 9, descriptorIndex := 19, attributes := #[] }] 33 16 #[] #[{ accessFlags := 24, nameIndex := 28, descriptorIndex := 29, attributes := #[] }, { accessFlags := 26, nameIndex := 38, descriptorIndex := 39, attributes := #[] }, { accessFlags := 25, nameIndex := 121, descriptorIndex := 25, attributes := #[] }, { accessFlags := 25, nameIndex := 131, descriptorIndex := 25, attributes := #[] }, { accessFlags := 25, nameIndex := 137, descriptorIndex := 25, attributes := #[] }, { accessFlags := 25, nameIndex := 143, descriptorIndex := 25, attributes := #[] }, { accessFlags := 25, nameIndex := 53, descriptorIndex := 25, attributes := #[] }, { accessFlags := 25, nameIndex := 24, descriptorIndex := 25, attributes := #[] }, { accessFlags := 25, nameIndex := 162, descriptorIndex := 25, attributes := #[] }, { accessFlags := 25, nameIndex := 187, descriptorIndex := 25, attributes := #[] }, { accessFlags := 26, nameIndex := 48, descriptorIndex := 25, attributes := #[] }, { accessFlags := 25, nameIndex := 277, descriptorIndex := 25, attributes := #[] }, { accessFlags := 25, nameIndex := 280, descriptorIndex := 25, attributes := #[] }, { accessFlags := 25, nameIndex := 282, descriptorIndex := 25, attributes := #[] }, { accessFlags := 25, nameIndex := 284, descriptorIndex := 25, attributes := #[] }, { accessFlags := 25, nameIndex := 286, descriptorIndex := 25, attributes := #[] }, { accessFlags := 25, nameIndex := 288, descriptorIndex := 25, attributes := #[] }, { accessFlags := 25, nameIndex := 290, descriptorIndex := 25, attributes := #[] }, { accessFlags := 25, nameIndex := 292, descriptorIndex := 25, attributes := #[] }, { accessFlags := 26, nameIndex := 108, descriptorIndex := 109, attributes := #[] }, { accessFlags := 25, nameIndex := 294, descriptorIndex := 25, attributes := #[] }])
  fields := #[{ name := "U", type := (.object "jdk/internal/misc/Unsafe"), accessFlags := 24, slot := 0, constantValue := 0 }, { name := "BIG_ENDIAN", type := .boolean, accessFlags := 26, slot := 1, constantValue := 0 }, { name := "LOG2_ARRAY_BOOLEAN_INDEX_SCALE", type := .int, accessFlags := 25, slot := 2, constantValue := 0 }, { name := "LOG2_ARRAY_BYTE_INDEX_SCALE", type := .int, accessFlags := 25, slot := 3, constantValue := 0 }, { name := "LOG2_ARRAY_CHAR_INDEX_SCALE", type := .int, accessFlags := 25, slot := 4, constantValue := 0 }, { name := "LOG2_ARRAY_SHORT_INDEX_SCALE", type := .int, accessFlags := 25, slot := 5, constantValue := 0 }, { name := "LOG2_ARRAY_INT_INDEX_SCALE", type := .int, accessFlags := 25, slot := 6, constantValue := 0 }, { name := "LOG2_ARRAY_LONG_INDEX_SCALE", type := .int, accessFlags := 25, slot := 7, constantValue := 0 }, { name := "LOG2_ARRAY_FLOAT_INDEX_SCALE", type := .int, accessFlags := 25, slot := 8, constantValue := 0 }, { name := "LOG2_ARRAY_DOUBLE_INDEX_SCALE", type := .int, accessFlags := 25, slot := 9, constantValue := 0 }, { name := "LOG2_BYTE_BIT_SIZE", type := .int, accessFlags := 26, slot := 10, constantValue := 0 }, { name := "T_BOOLEAN", type := .int, accessFlags := 25, slot := 11, constantValue := 0 }, { name := "T_CHAR", type := .int, accessFlags := 25, slot := 12, constantValue := 0 }, { name := "T_FLOAT", type := .int, accessFlags := 25, slot := 13, constantValue := 0 }, { name := "T_DOUBLE", type := .int, accessFlags := 25, slot := 14, constantValue := 0 }, { name := "T_BYTE", type := .int, accessFlags := 25, slot := 15, constantValue := 0 }, { name := "T_SHORT", type := .int, accessFlags := 25, slot := 16, constantValue := 0 }, { name := "T_INT", type := .int, accessFlags := 25, slot := 17, constantValue := 0 }, { name := "T_LONG", type := .int, accessFlags := 25, slot := 18, constantValue := 0 }, { name := "JLA", type := (.object "jdk/internal/access/JavaLangAccess"), accessFlags := 26, slot := 19, constantValue := 0 }, { name := "SOFT_MAX_ARRAY_LENGTH", type := .int, accessFlags := 25, slot := 20, constantValue := 0 }]
  methods := #[k16m0]
  instanceTypes := #[]
  staticTypes := #[(.object "jdk/internal/misc/Unsafe"), .boolean, .int, .int, .int, .int, .int, .int, .int, .int, .int, .int, .int, .int, .int, .int, .int, .int, .int, (.object "jdk/internal/access/JavaLangAccess"), .int]
  resolved := Array.replicate 378 none
  statics := none }

/-- the primitive byte -/
def k17 : Class := { plain "byte" none with kind := .primitive 'B', accessFlags := 0x411 }
/-- [B -/
def k18 : Class := { plain "[B" (some 0) with kind := .array 17 .byte, interfaces := #[13, 2], accessFlags := 1041 }

/-- the primitive char -/
def k19 : Class := { plain "char" none with kind := .primitive 'C', accessFlags := 0x411 }
/-- [C -/
def k20 : Class := { plain "[C" (some 0) with kind := .array 19 .char, interfaces := #[13, 2], accessFlags := 1041 }

/-- the primitive int -/
def k21 : Class := { plain "int" none with kind := .primitive 'I', accessFlags := 0x411 }
/-- [I -/
def k22 : Class := { plain "[I" (some 0) with kind := .array 21 .int, interfaces := #[13, 2], accessFlags := 1041 }

/-- [Lcom/example/huron/huron/io/config/AuthenticatorKind; -/
def k23 : Class := { plain "[Lcom/example/huron/huron/io/config/AuthenticatorKind;" (some 0) with kind := .array 12 (.object "com/example/huron/huron/io/config/AuthenticatorKind"), interfaces := #[13, 2], accessFlags := 1041 }

def heap : Heap := #[{ cls := 7, slots := #[.long 0, .int 1, .null, .int 0, .null, .int 0, .int 0], vm := .statics 7 },
  { cls := 9, slots := #[.null, .null, .null], vm := .statics 9 },
  { cls := 12, slots := #[.ref 5, .ref 6, .ref 7, .ref 8, .ref 4], vm := .statics 12 },
  { cls := 14, slots := #[.ref 17], vm := .statics 14 },
  { cls := 23, slots := #[.ref 5, .ref 6, .ref 7, .ref 8], vm := .none },
  { cls := 12, slots := #[.null, .int 0, .int 0, .ref 9], vm := .none },
  { cls := 12, slots := #[.null, .int 1, .int 0, .ref 10], vm := .none },
  { cls := 12, slots := #[.null, .int 2, .int 0, .ref 11], vm := .none },
  { cls := 12, slots := #[.null, .int 3, .int 0, .ref 12], vm := .none },
  { cls := 7, slots := #[.ref 13, .int 0, .int 0, .int 0], vm := .none },
  { cls := 7, slots := #[.ref 14, .int 0, .int 0, .int 0], vm := .none },
  { cls := 7, slots := #[.ref 15, .int 0, .int 0, .int 0], vm := .none },
  { cls := 7, slots := #[.ref 16, .int 0, .int 0, .int 0], vm := .none },
  { cls := 18, slots := #[.int 108, .int 111, .int 99, .int 97, .int 108], vm := .none },
  { cls := 18, slots := #[.int 108, .int 100, .int 97, .int 112], vm := .none },
  { cls := 18, slots := #[.int 111, .int 105, .int 100, .int 99], vm := .none },
  { cls := 18, slots := #[.int 115, .int 97, .int 109, .int 108], vm := .none },
  { cls := 14, slots := #[.null], vm := .none }]
def classes : Array Class := #[k0, k1, k2, k3, k4, k5, k6, k7, k8, k9, k10, k11, k12, k13, k14, k15, k16, k17, k18, k19, k20, k21, k22, k23]
def interned : List (Array UInt16 × Addr) := []
def slotsUsed : Nat := 70
def theMethod : MethodId := ⟨1, 1⟩
def args0 : Array Value := #[.int 2, .int 4, .int 5, .int 300, .int 9, .int 77]
def aboutOver (below : List Frame) : State where
  vm := { classes := classes, interned := interned.toArray }
  heap := heap
  slotsUsed := slotsUsed
  threads := #[{ frames := .invoking theMethod args0 :: below }]
def below0 : List Frame := [.native { method := ⟨0, 0⟩, args := #[] }]
def about1 : State := aboutOver below0
def p0 : Program := .bare "" "" ""
def e0 : Env := launch0.env 0 0 0
theorem w_frames : about1.frames = Frame.invoking theMethod args0 :: below0 := rfl
set_option maxRecDepth 65536 in
theorem w_args : argsFit about1.vm theMethod args0 = true := by decide +kernel
set_option maxRecDepth 65536 in
theorem w_heap : heapFits about1 = true := by decide +kernel
set_option maxRecDepth 65536 in
theorem w_runnable : about1.curStatus? = some .runnable := by decide +kernel
set_option maxRecDepth 65536 in
theorem w_alone : about1.alone = true := by decide +kernel
set_option maxRecDepth 65536 in
theorem w_named : about1.methodNamed? x = some theMethod := by decide +kernel
set_option maxRecDepth 65536 in
theorem w_hears : about1.hears theMethod below0 = true := by decide +kernel
set_option maxRecDepth 65536 in
theorem w_ripe : about1.ripe theMethod args0 below0 = true := by decide +kernel
theorem w_running : about1.status = .running := rfl
set_option maxRecDepth 65536 in
theorem w_room : about1.hasRoom e0.platform room_1 = true :=
  launch0.hasRoom_least _ room_1 (by decide +kernel) (by decide +kernel) (by decide +kernel) (by decide +kernel) (by decide +kernel) (by decide +kernel)
theorem allAtoms_all (ts : List Jvm.Cond) (a : Array Jvm.Value) (st : Jvm.State) : (allAtoms ts).before a st = ts.all (fun c => c.before a st) := by
  induction ts with
  | nil => rfl
  | cons c t ih =>
    show (Jvm.Cond.and c (allAtoms t)).before a st = _
    rw [Jvm.Cond.before_and, ih, List.all_cons]
def words1 : List Jvm.Cond := Jvm.Cond.code x code maxLocals ret :: tables_1
/-- a 'code' word, met by the world's own term for the bytes: nothing is compared byte by byte -/
theorem code_word {y : MethodName} {bytes : ByteArray} {mx : Nat} {rt : Option FieldType} {a : Array Value} {s : State} {m : MethodId} {meth : Method} {c : Code} (h1 : s.methodNamed? y = some m) (h2 : s.vm.method? m = some meth) (h3 : meth.code = some c) (h4 : c.code = bytes)
    (h5 : (c.maxLocals == mx && c.exceptionTable.isEmpty && decide (c.maxStack ≤ mostOperands) && decide (meth.sig.returnType = rt) && !meth.locks && decide (parseMethodDescriptor y.desc = some meth.sig)) = true) : (Jvm.Cond.code y bytes mx rt).before a s = true := by
  simp only [Bool.and_eq_true, beq_iff_eq, Bool.not_eq_true', decide_eq_true_eq] at h5
  obtain ⟨⟨⟨⟨⟨g1, g2⟩, g3⟩, g4⟩, g5⟩, g6⟩ := h5
  simp [Cond.before, Cond.holds, Cond.value, h1, h2, h3, h4, g1, g2, g3, g4, g5, g6]
def isCode : Jvm.Cond → Bool
  | .code _ _ _ _ => true
  | _ => false
theorem all_split {L : List Jvm.Cond} {P : Jvm.Cond → Bool} (h1 : L.all (fun c => isCode c || P c) = true) (h2 : ∀ c ∈ L.filter isCode, P c = true) : L.all P = true := by
  refine List.all_eq_true.mpr fun c hc => ?_
  have h := List.all_eq_true.mp h1 c hc
  rcases Bool.eq_false_or_eq_true (isCode c) with hi | hi
  · exact h2 c (List.mem_filter.mpr ⟨hc, hi⟩)
  · simpa [hi] using h
set_option maxRecDepth 65536 in
theorem w_c0 : (Jvm.Cond.code x code maxLocals ret).before args0 about1 = true := code_word (m := ⟨1, 1⟩) (meth := k1m1) (c := k1c1) (by decide +kernel) rfl rfl rfl (by decide +kernel)
set_option maxRecDepth 65536 in
theorem w_c1 : (Jvm.Cond.code ({ cls := "com/example/huron/huron/io/config/AuthenticatorKindNamedPinLaw", name := "word", desc := "(I)Ljava/lang/String;" } : Jvm.MethodName) method_4_code (1 : Nat) (Option.some (Jvm.ClassFile.FieldType.object "java/lang/String"))).before args0 about1 = true := code_word (m := ⟨1, 3⟩) (meth := k1m3) (c := k1c3) (by decide +kernel) rfl rfl rfl (by decide +kernel)
set_option maxRecDepth 65536 in
theorem w_c2 : (Jvm.Cond.code ({ cls := "com/example/huron/huron/io/config/AuthenticatorKindNamedPinLaw", name := "at", desc := "(Ljava/lang/String;I)C" } : Jvm.MethodName) method_5_code (2 : Nat) (Option.some Jvm.ClassFile.FieldType.char)).before args0 about1 = true := code_word (m := ⟨1, 4⟩) (meth := k1m4) (c := k1c4) (by decide +kernel) rfl rfl rfl (by decide +kernel)
set_option maxRecDepth 65536 in
theorem w_c3 : (Jvm.Cond.code ({ cls := "java/lang/String", name := "length", desc := "()I" } : Jvm.MethodName) jdk_42_method_54_code (1 : Nat) (Option.some Jvm.ClassFile.FieldType.int)).before args0 about1 = true := code_word (m := ⟨7, 2⟩) (meth := k7m2) (c := k7c2) (by decide +kernel) rfl rfl rfl (by decide +kernel)
set_option maxRecDepth 65536 in
theorem w_c4 : (Jvm.Cond.code ({ cls := "java/lang/String", name := "coder", desc := "()B" } : Jvm.MethodName) jdk_42_method_152_code (1 : Nat) (Option.some Jvm.ClassFile.FieldType.byte)).before args0 about1 = true := code_word (m := ⟨7, 6⟩) (meth := k7m6) (c := k7c6) (by decide +kernel) rfl rfl rfl (by decide +kernel)
set_option maxRecDepth 65536 in
theorem w_c5 : (Jvm.Cond.code ({ cls := "java/lang/String", name := "charAt", desc := "(I)C" } : Jvm.MethodName) jdk_42_method_56_code (2 : Nat) (Option.some Jvm.ClassFile.FieldType.char)).before args0 about1 = true := code_word (m := ⟨7, 3⟩) (meth := k7m3) (c := k7c3) (by decide +kernel) rfl rfl rfl (by decide +kernel)
set_option maxRecDepth 65536 in
theorem w_c6 : (Jvm.Cond.code ({ cls := "java/lang/String", name := "isLatin1", desc := "()Z" } : Jvm.MethodName) jdk_42_method_154_code (1 : Nat) (Option.some Jvm.ClassFile.FieldType.boolean)).before args0 about1 = true := code_word (m := ⟨7, 7⟩) (meth := k7m7) (c := k7c7) (by decide +kernel) rfl rfl rfl (by decide +kernel)
set_option maxRecDepth 65536 in
theorem w_c7 : (Jvm.Cond.code ({ cls := "java/lang/StringLatin1", name := "charAt", desc := "([BI)C" } : Jvm.MethodName) jdk_43_method_2_code (2 : Nat) (Option.some Jvm.ClassFile.FieldType.char)).before args0 about1 = true := code_word (m := ⟨8, 1⟩) (meth := k8m1) (c := k8c1) (by decide +kernel) rfl rfl rfl (by decide +kernel)
set_option maxRecDepth 65536 in
theorem w_c8 : (Jvm.Cond.code ({ cls := "java/lang/String", name := "checkIndex", desc := "(II)V" } : Jvm.MethodName) jdk_42_method_155_code (2 : Nat) (Option.none : Option Jvm.ClassFile.FieldType)).before args0 about1 = true := code_word (m := ⟨7, 8⟩) (meth := k7m8) (c := k7c8) (by decide +kernel) rfl rfl rfl (by decide +kernel)
set_option maxRecDepth 65536 in
theorem w_c9 : (Jvm.Cond.code ({ cls := "jdk/internal/util/Preconditions", name := "checkIndex", desc := "(IILjava/util/function/BiFunction;)I" } : Jvm.MethodName) jdk_41_method_11_code (3 : Nat) (Option.some Jvm.ClassFile.FieldType.int)).before args0 about1 = true := code_word (m := ⟨9, 1⟩) (meth := k9m1) (c := k9c1) (by decide +kernel) rfl rfl rfl (by decide +kernel)
set_option maxRecDepth 65536 in
theorem w_c10 : (Jvm.Cond.code ({ cls := "com/example/huron/huron/io/config/AuthenticatorKindNamedPinLaw", name := "take", desc := "([CI)[C" } : Jvm.MethodName) method_6_code (2 : Nat) (Option.some (Jvm.ClassFile.FieldType.array Jvm.ClassFile.FieldType.char))).before args0 about1 = true := code_word (m := ⟨1, 5⟩) (meth := k1m5) (c := k1c5) (by decide +kernel) rfl rfl rfl (by decide +kernel)
set_option maxRecDepth 65536 in
theorem w_c11 : (Jvm.Cond.code ({ cls := "java/lang/String", name := "<init>", desc := "([C)V" } : Jvm.MethodName) jdk_42_method_3_code (2 : Nat) (Option.none : Option Jvm.ClassFile.FieldType)).before args0 about1 = true := code_word (m := ⟨7, 1⟩) (meth := k7m1) (c := k7c1) (by decide +kernel) rfl rfl rfl (by decide +kernel)
set_option maxRecDepth 65536 in
theorem w_c12 : (Jvm.Cond.code ({ cls := "java/lang/String", name := "<init>", desc := "([CIILjava/lang/Void;)V" } : Jvm.MethodName) jdk_42_method_149_code (6 : Nat) (Option.none : Option Jvm.ClassFile.FieldType)).before args0 about1 = true := code_word (m := ⟨7, 5⟩) (meth := k7m5) (c := k7c5) (by decide +kernel) rfl rfl rfl (by decide +kernel)
set_option maxRecDepth 65536 in
theorem w_c13 : (Jvm.Cond.code ({ cls := "java/lang/Object", name := "<init>", desc := "()V" } : Jvm.MethodName) object_method_1_code (1 : Nat) (Option.none : Option Jvm.ClassFile.FieldType)).before args0 about1 = true := code_word (m := ⟨0, 0⟩) (meth := k0m0) (c := k0c0) (by decide +kernel) rfl rfl rfl (by decide +kernel)
set_option maxRecDepth 65536 in
theorem w_c14 : (Jvm.Cond.code ({ cls := "java/lang/StringUTF16", name := "compress", desc := "([CII)[B" } : Jvm.MethodName) jdk_52_method_16_code (6 : Nat) (Option.some (Jvm.ClassFile.FieldType.array Jvm.ClassFile.FieldType.byte))).before args0 about1 = true := code_word (m := ⟨10, 2⟩) (meth := k10m2) (c := k10c2) (by decide +kernel) rfl rfl rfl (by decide +kernel)
set_option maxRecDepth 65536 in
theorem w_c15 : (Jvm.Cond.code ({ cls := "java/lang/StringUTF16", name := "compress", desc := "([CI[BII)I" } : Jvm.MethodName) jdk_52_method_21_code (7 : Nat) (Option.some Jvm.ClassFile.FieldType.int)).before args0 about1 = true := code_word (m := ⟨10, 3⟩) (meth := k10m3) (c := k10c3) (by decide +kernel) rfl rfl rfl (by decide +kernel)
set_option maxRecDepth 65536 in
theorem w_c16 : (Jvm.Cond.code ({ cls := "java/lang/StringUTF16", name := "coderFromArrayLen", desc := "([BI)B" } : Jvm.MethodName) jdk_52_method_15_code (2 : Nat) (Option.some Jvm.ClassFile.FieldType.byte)).before args0 about1 = true := code_word (m := ⟨10, 1⟩) (meth := k10m1) (c := k10c1) (by decide +kernel) rfl rfl rfl (by decide +kernel)
set_option maxRecDepth 65536 in
theorem w_c17 : (Jvm.Cond.code ({ cls := "com/example/huron/huron/io/config/AuthenticatorKindNamedPinLaw", name := "expected", desc := "(Ljava/lang/String;)Lcom/example/huron/huron/io/config/AuthenticatorKind;" } : Jvm.MethodName) method_3_code (1 : Nat) (Option.some (Jvm.ClassFile.FieldType.object "com/example/huron/huron/io/config/AuthenticatorKind"))).before args0 about1 = true := code_word (m := ⟨1, 2⟩) (meth := k1m2) (c := k1c2) (by decide +kernel) rfl rfl rfl (by decide +kernel)
set_option maxRecDepth 65536 in
theorem w_c18 : (Jvm.Cond.code ({ cls := "java/lang/String", name := "equals", desc := "(Ljava/lang/Object;)Z" } : Jvm.MethodName) jdk_42_method_66_code (3 : Nat) (Option.some Jvm.ClassFile.FieldType.boolean)).before args0 about1 = true := code_word (m := ⟨7, 4⟩) (meth := k7m4) (c := k7c4) (by decide +kernel) rfl rfl rfl (by decide +kernel)
set_option maxRecDepth 65536 in
theorem w_c19 : (Jvm.Cond.code ({ cls := "java/lang/StringLatin1", name := "equals", desc := "([B[B)Z" } : Jvm.MethodName) jdk_43_method_13_code (3 : Nat) (Option.some Jvm.ClassFile.FieldType.boolean)).before args0 about1 = true := code_word (m := ⟨8, 2⟩) (meth := k8m2) (c := k8c2) (by decide +kernel) rfl rfl rfl (by decide +kernel)
set_option maxRecDepth 65536 in
theorem w_c20 : (Jvm.Cond.code ({ cls := "com/example/huron/huron/io/config/AuthenticatorKind", name := "named", desc := "(Ljava/lang/String;)Ljava/util/Optional;" } : Jvm.MethodName) prog_8_method_4_code (5 : Nat) (Option.some (Jvm.ClassFile.FieldType.object "java/util/Optional"))).before args0 about1 = true := code_word (m := ⟨12, 1⟩) (meth := k12m1) (c := k12c1) (by decide +kernel) rfl rfl rfl (by decide +kernel)
set_option maxRecDepth 65536 in
theorem w_c21 : (Jvm.Cond.code ({ cls := "com/example/huron/huron/io/config/AuthenticatorKind", name := "values", desc := "()[Lcom/example/huron/huron/io/config/AuthenticatorKind;" } : Jvm.MethodName) prog_8_method_1_code (0 : Nat) (Option.some (Jvm.ClassFile.FieldType.array (Jvm.ClassFile.FieldType.object "com/example/huron/huron/io/config/AuthenticatorKind")))).before args0 about1 = true := code_word (m := ⟨12, 0⟩) (meth := k12m0) (c := k12c0) (by decide +kernel) rfl rfl rfl (by decide +kernel)
set_option maxRecDepth 65536 in
theorem w_c22 : (Jvm.Cond.code ({ cls := "java/util/Optional", name := "empty", desc := "()Ljava/util/Optional;" } : Jvm.MethodName) jdk_32_method_1_code (1 : Nat) (Option.some (Jvm.ClassFile.FieldType.object "java/util/Optional"))).before args0 about1 = true := code_word (m := ⟨14, 0⟩) (meth := k14m0) (c := k14c0) (by decide +kernel) rfl rfl rfl (by decide +kernel)
set_option maxRecDepth 65536 in
theorem w_c23 : (Jvm.Cond.code ({ cls := "java/util/Optional", name := "orElse", desc := "(Ljava/lang/Object;)Ljava/lang/Object;" } : Jvm.MethodName) jdk_32_method_15_code (2 : Nat) (Option.some (Jvm.ClassFile.FieldType.object "java/lang/Object"))).before args0 about1 = true := code_word (m := ⟨14, 3⟩) (meth := k14m3) (c := k14c3) (by decide +kernel) rfl rfl rfl (by decide +kernel)
set_option maxRecDepth 65536 in
theorem w_c24 : (Jvm.Cond.code ({ cls := "java/util/Optional", name := "of", desc := "(Ljava/lang/Object;)Ljava/util/Optional;" } : Jvm.MethodName) jdk_32_method_3_code (1 : Nat) (Option.some (Jvm.ClassFile.FieldType.object "java/util/Optional"))).before args0 about1 = true := code_word (m := ⟨14, 2⟩) (meth := k14m2) (c := k14c2) (by decide +kernel) rfl rfl rfl (by decide +kernel)
set_option maxRecDepth 65536 in
theorem w_c25 : (Jvm.Cond.code ({ cls := "java/util/Objects", name := "requireNonNull", desc := "(Ljava/lang/Object;)Ljava/lang/Object;" } : Jvm.MethodName) jdk_31_method_10_code (1 : Nat) (Option.some (Jvm.ClassFile.FieldType.object "java/lang/Object"))).before args0 about1 = true := code_word (m := ⟨15, 1⟩) (meth := k15m1) (c := k15c1) (by decide +kernel) rfl rfl rfl (by decide +kernel)
set_option maxRecDepth 65536 in
theorem w_c26 : (Jvm.Cond.code ({ cls := "java/util/Optional", name := "<init>", desc := "(Ljava/lang/Object;)V" } : Jvm.MethodName) jdk_32_method_2_code (2 : Nat) (Option.none : Option Jvm.ClassFile.FieldType)).before args0 about1 = true := code_word (m := ⟨14, 1⟩) (meth := k14m1) (c := k14c1) (by decide +kernel) rfl rfl rfl (by decide +kernel)
def codes1 : List Jvm.Cond := [Jvm.Cond.code x code maxLocals ret, Jvm.Cond.code ({ cls := "com/example/huron/huron/io/config/AuthenticatorKindNamedPinLaw", name := "word", desc := "(I)Ljava/lang/String;" } : Jvm.MethodName) method_4_code (1 : Nat) (Option.some (Jvm.ClassFile.FieldType.object "java/lang/String")), Jvm.Cond.code ({ cls := "com/example/huron/huron/io/config/AuthenticatorKindNamedPinLaw", name := "at", desc := "(Ljava/lang/String;I)C" } : Jvm.MethodName) method_5_code (2 : Nat) (Option.some Jvm.ClassFile.FieldType.char), Jvm.Cond.code ({ cls := "java/lang/String", name := "length", desc := "()I" } : Jvm.MethodName) jdk_42_method_54_code (1 : Nat) (Option.some Jvm.ClassFile.FieldType.int), Jvm.Cond.code ({ cls := "java/lang/String", name := "coder", desc := "()B" } : Jvm.MethodName) jdk_42_method_152_code (1 : Nat) (Option.some Jvm.ClassFile.FieldType.byte), Jvm.Cond.code ({ cls := "java/lang/String", name := "charAt", desc := "(I)C" } : Jvm.MethodName) jdk_42_method_56_code (2 : Nat) (Option.some Jvm.ClassFile.FieldType.char), Jvm.Cond.code ({ cls := "java/lang/String", name := "isLatin1", desc := "()Z" } : Jvm.MethodName) jdk_42_method_154_code (1 : Nat) (Option.some Jvm.ClassFile.FieldType.boolean), Jvm.Cond.code ({ cls := "java/lang/StringLatin1", name := "charAt", desc := "([BI)C" } : Jvm.MethodName) jdk_43_method_2_code (2 : Nat) (Option.some Jvm.ClassFile.FieldType.char), Jvm.Cond.code ({ cls := "java/lang/String", name := "checkIndex", desc := "(II)V" } : Jvm.MethodName) jdk_42_method_155_code (2 : Nat) (Option.none : Option Jvm.ClassFile.FieldType), Jvm.Cond.code ({ cls := "jdk/internal/util/Preconditions", name := "checkIndex", desc := "(IILjava/util/function/BiFunction;)I" } : Jvm.MethodName) jdk_41_method_11_code (3 : Nat) (Option.some Jvm.ClassFile.FieldType.int), Jvm.Cond.code ({ cls := "com/example/huron/huron/io/config/AuthenticatorKindNamedPinLaw", name := "take", desc := "([CI)[C" } : Jvm.MethodName) method_6_code (2 : Nat) (Option.some (Jvm.ClassFile.FieldType.array Jvm.ClassFile.FieldType.char)), Jvm.Cond.code ({ cls := "java/lang/String", name := "<init>", desc := "([C)V" } : Jvm.MethodName) jdk_42_method_3_code (2 : Nat) (Option.none : Option Jvm.ClassFile.FieldType), Jvm.Cond.code ({ cls := "java/lang/String", name := "<init>", desc := "([CIILjava/lang/Void;)V" } : Jvm.MethodName) jdk_42_method_149_code (6 : Nat) (Option.none : Option Jvm.ClassFile.FieldType), Jvm.Cond.code ({ cls := "java/lang/Object", name := "<init>", desc := "()V" } : Jvm.MethodName) object_method_1_code (1 : Nat) (Option.none : Option Jvm.ClassFile.FieldType), Jvm.Cond.code ({ cls := "java/lang/StringUTF16", name := "compress", desc := "([CII)[B" } : Jvm.MethodName) jdk_52_method_16_code (6 : Nat) (Option.some (Jvm.ClassFile.FieldType.array Jvm.ClassFile.FieldType.byte)), Jvm.Cond.code ({ cls := "java/lang/StringUTF16", name := "compress", desc := "([CI[BII)I" } : Jvm.MethodName) jdk_52_method_21_code (7 : Nat) (Option.some Jvm.ClassFile.FieldType.int), Jvm.Cond.code ({ cls := "java/lang/StringUTF16", name := "coderFromArrayLen", desc := "([BI)B" } : Jvm.MethodName) jdk_52_method_15_code (2 : Nat) (Option.some Jvm.ClassFile.FieldType.byte), Jvm.Cond.code ({ cls := "com/example/huron/huron/io/config/AuthenticatorKindNamedPinLaw", name := "expected", desc := "(Ljava/lang/String;)Lcom/example/huron/huron/io/config/AuthenticatorKind;" } : Jvm.MethodName) method_3_code (1 : Nat) (Option.some (Jvm.ClassFile.FieldType.object "com/example/huron/huron/io/config/AuthenticatorKind")), Jvm.Cond.code ({ cls := "java/lang/String", name := "equals", desc := "(Ljava/lang/Object;)Z" } : Jvm.MethodName) jdk_42_method_66_code (3 : Nat) (Option.some Jvm.ClassFile.FieldType.boolean), Jvm.Cond.code ({ cls := "java/lang/StringLatin1", name := "equals", desc := "([B[B)Z" } : Jvm.MethodName) jdk_43_method_13_code (3 : Nat) (Option.some Jvm.ClassFile.FieldType.boolean), Jvm.Cond.code ({ cls := "com/example/huron/huron/io/config/AuthenticatorKind", name := "named", desc := "(Ljava/lang/String;)Ljava/util/Optional;" } : Jvm.MethodName) prog_8_method_4_code (5 : Nat) (Option.some (Jvm.ClassFile.FieldType.object "java/util/Optional")), Jvm.Cond.code ({ cls := "com/example/huron/huron/io/config/AuthenticatorKind", name := "values", desc := "()[Lcom/example/huron/huron/io/config/AuthenticatorKind;" } : Jvm.MethodName) prog_8_method_1_code (0 : Nat) (Option.some (Jvm.ClassFile.FieldType.array (Jvm.ClassFile.FieldType.object "com/example/huron/huron/io/config/AuthenticatorKind"))), Jvm.Cond.code ({ cls := "java/util/Optional", name := "empty", desc := "()Ljava/util/Optional;" } : Jvm.MethodName) jdk_32_method_1_code (1 : Nat) (Option.some (Jvm.ClassFile.FieldType.object "java/util/Optional")), Jvm.Cond.code ({ cls := "java/util/Optional", name := "orElse", desc := "(Ljava/lang/Object;)Ljava/lang/Object;" } : Jvm.MethodName) jdk_32_method_15_code (2 : Nat) (Option.some (Jvm.ClassFile.FieldType.object "java/lang/Object")), Jvm.Cond.code ({ cls := "java/util/Optional", name := "of", desc := "(Ljava/lang/Object;)Ljava/util/Optional;" } : Jvm.MethodName) jdk_32_method_3_code (1 : Nat) (Option.some (Jvm.ClassFile.FieldType.object "java/util/Optional")), Jvm.Cond.code ({ cls := "java/util/Objects", name := "requireNonNull", desc := "(Ljava/lang/Object;)Ljava/lang/Object;" } : Jvm.MethodName) jdk_31_method_10_code (1 : Nat) (Option.some (Jvm.ClassFile.FieldType.object "java/lang/Object")), Jvm.Cond.code ({ cls := "java/util/Optional", name := "<init>", desc := "(Ljava/lang/Object;)V" } : Jvm.MethodName) jdk_32_method_2_code (2 : Nat) (Option.none : Option Jvm.ClassFile.FieldType)]
set_option maxRecDepth 65536 in
theorem codes_eq : words1.filter isCode = codes1 := rfl
theorem w_codes : ∀ c ∈ words1.filter isCode, c.before args0 about1 = true := by
  rw [codes_eq]
  intro c hc
  simp only [codes1, List.mem_cons, List.not_mem_nil, or_false] at hc
  rcases hc with rfl | rfl | rfl | rfl | rfl | rfl | rfl | rfl | rfl | rfl | rfl | rfl | rfl | rfl | rfl | rfl | rfl | rfl | rfl | rfl | rfl | rfl | rfl | rfl | rfl | rfl | rfl
  · exact w_c0
  · exact w_c1
  · exact w_c2
  · exact w_c3
  · exact w_c4
  · exact w_c5
  · exact w_c6
  · exact w_c7
  · exact w_c8
  · exact w_c9
  · exact w_c10
  · exact w_c11
  · exact w_c12
  · exact w_c13
  · exact w_c14
  · exact w_c15
  · exact w_c16
  · exact w_c17
  · exact w_c18
  · exact w_c19
  · exact w_c20
  · exact w_c21
  · exact w_c22
  · exact w_c23
  · exact w_c24
  · exact w_c25
  · exact w_c26
set_option maxRecDepth 65536 in
theorem w_t1 : (words1.take 24).all (fun c => isCode c || c.before args0 about1) = true := by decide +kernel
set_option maxRecDepth 65536 in
theorem w_t2 : ((words1.drop 24).take 24).all (fun c => isCode c || c.before args0 about1) = true := by decide +kernel
set_option maxRecDepth 65536 in
theorem w_t3 : (((words1.drop 24).drop 24).take 24).all (fun c => isCode c || c.before args0 about1) = true := by decide +kernel
set_option maxRecDepth 65536 in
theorem w_t4 : ((((words1.drop 24).drop 24).drop 24).take 24).all (fun c => isCode c || c.before args0 about1) = true := by decide +kernel
set_option maxRecDepth 65536 in
theorem w_t5 : (((((words1.drop 24).drop 24).drop 24).drop 24).take 24).all (fun c => isCode c || c.before args0 about1) = true := by decide +kernel
set_option maxRecDepth 65536 in
theorem w_t6 : ((((((words1.drop 24).drop 24).drop 24).drop 24).drop 24).take 24).all (fun c => isCode c || c.before args0 about1) = true := by decide +kernel
set_option maxRecDepth 65536 in
theorem w_t7 : ((((((words1.drop 24).drop 24).drop 24).drop 24).drop 24).drop 24).all (fun c => isCode c || c.before args0 about1) = true := by decide +kernel
theorem w_tables : (allAtoms (Jvm.Cond.code x code maxLocals ret :: tables_1)).before args0 about1 = true := by
  rw [allAtoms_all]
  show words1.all (fun c => c.before args0 about1) = true
  refine all_split ?_ w_codes
  rw [← List.take_append_drop 24 words1, List.all_append, w_t1, ← List.take_append_drop 24 (words1.drop 24), List.all_append, w_t2, ← List.take_append_drop 24 ((words1.drop 24).drop 24), List.all_append, w_t3, ← List.take_append_drop 24 (((words1.drop 24).drop 24).drop 24), List.all_append, w_t4, ← List.take_append_drop 24 ((((words1.drop 24).drop 24).drop 24).drop 24), List.all_append, w_t5, ← List.take_append_drop 24 (((((words1.drop 24).drop 24).drop 24).drop 24).drop 24), List.all_append, w_t6, w_t7]
  rfl
set_option maxRecDepth 65536 in
theorem w_rest : rest_1_c.before args0 about1 = true := by decide +kernel
set_option maxRecDepth 65536 in
theorem w_case : (Jvm.Cond.and given_1 narrow_1).before args0 about1 = true := by decide +kernel
set_option maxRecDepth 65536 in
theorem w_consts : constsHeld consts_1 about1 := Jvm.Lit.constsHeldB_iff.mp (by decide +kernel)
theorem w_applies : (headSpec (Jvm.Cond.code x code maxLocals ret :: tables_1) room_1).applies x e0.platform about1 = true :=
  (Spec.applies_iff w_frames).mpr ⟨w_running, w_runnable, w_alone, w_named, w_hears, w_ripe, w_room, w_tables⟩
set_option maxRecDepth 65536 in
theorem atStart : AtStart classFile x code maxLocals ret World_1 tables_1 room_1 Calls_1 rest_1 Pre_1 launch0 p0 e0 about1 theMethod args0 below0 :=
  ⟨lists_1, trivial, launch0.admits_env _ _ _, launch0.least_env, fairChoices_fair.cas, fairChoices_fair.clock, w_frames, w_args, w_heap, w_applies, ⟨w_consts, trivial⟩, w_rest, w_case⟩
end start1
theorem witness_1 : WitnessClaimed_1 := ⟨start1.p0, start1.e0, start1.about1, start1.theMethod, start1.args0, start1.below0, start1.atStart⟩
end Jvm.Pilot.@@N@@
