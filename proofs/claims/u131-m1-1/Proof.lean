import JvmDerived
import JvmDerived.Pilot.@@N@@Statement
import JvmDerived.Pilot.@@N@@Code
set_option linter.unusedVariables false
set_option linter.unusedSimpArgs false
namespace Jvm.OwnGo
open Jvm Jvm.ClassFile Sem Op Lib Jvm.Free Jvm.Stand Jvm.LawKit Jvm.RoadKit
/-- the setting of one body's run -/
def Cx (p : Program) (l : Launch) (e : Env) (R : Room) (s : State) (m : MethodId) (meth : Method) (c : Code) (Z : State) (n0 : Nat) (y : MethodName) (code : ByteArray) (ml : Nat) (ret : Option FieldType) : Prop :=
  p.tables.exec = Jvm.exec ∧ Z.Warmed39 s.vm ∧ s.vm.findClass y.cls = some m.cls ∧ c.code = code ∧ c.maxLocals = ml ∧ meth.sig.returnType = ret ∧ meth.locks = false ∧ meth.name = y.name ∧ Old Z n0 s.heap
/-- from pc, with these locals, this stack and this heap, the body of y returns, Q holds of what it returns and leaves, and it has written in cells at or above n0 alone -/
def Go (l : Launch) (R : Room) (Z : State) (n0 : Nat) (y : MethodName) (code : ByteArray) (ml : Nat) (ret : Option FieldType) (Q : Option Value → Heap → Prop) (cells slots : Nat) (h : Heap) (pc : Nat) (Ls : Array Slot) (st : List Value) : Prop :=
  ∀ (p : Program) (e : Env) (s : State) (m : MethodId) (args : Array Value) (below : List Frame) (meth : Method) (c : Code) (T : State) (locs : List Loc),
    Cx p l e R s m meth c Z n0 y code ml ret → Stand p l e R s m args below meth c T locs cells slots → Fr n0 locs → T.heap = h →
    ∃ s₂ o, Steps p.tables e below (T.setTop (mkF m pc Ls st)) s₂ ∧ s₂.status = .running ∧ Ended s₂ below o ∧ ∃ v L, o = .returned v ∧ (Q v s₂.heap ∧ Fr n0 L) ∧ FrameEnd s o s₂ L R.cells R.slots
/-- what a body called with these arguments at the heap h does -/
def Con (l : Launch) (y : MethodName) (code : ByteArray) (ml : Nat) (ret : Option FieldType) (R : Room) (Z : State) (n0 : Nat) (as : Array Value) (h : Heap) (Q : Option Value → Heap → Prop) : Prop :=
  Old Z n0 h → ∀ ws, MetFree l y (head1 (Jvm.Cond.code y code ml ret :: ws) R) (fun a U => a = as ∧ Z.Warmed39 U.vm ∧ U.heap = h) (fun _ _ _ _ _ => True)
    (fun _ U o U' => ∃ v L, o = .returned v ∧ (Q v U'.heap ∧ Fr n0 L) ∧ FrameEnd U o U' L R.cells R.slots)
def Mi (Z : State) (C : String) (mr : Addr) : Prop := ∃ (c : ClassId) (k : Class), Z.vm.findClass C = some c ∧ Z.vm.classes[c]? = some k ∧ k.mirror = some mr
theorem Mi.at {Z s : State} {C : String} {mr : Addr} (M : Mi Z C mr) (hZ : Z.Warmed39 s.vm) : ∃ (c : ClassId) (k : Class), s.vm.findClass C = some c ∧ s.vm.classes[c]? = some k ∧ k.mirror = some mr := by
  obtain ⟨c, k, m1, m2, m3⟩ := M
  obtain ⟨k', q, ek⟩ := hZ.alike.2.2 _ _ m2
  exact ⟨c, k', by rw [hZ.alike.findClass]; exact m1, q, by rw [ek]; exact m3⟩
theorem own_sto {Z : State} {h : Heap} {a b : Addr} {kA : ClassId} {ty : FieldType} {z : Int32} {vs : List Value} {dv : Value} {C : String} (F : Arv Z h a kA ty z vs dv) (O : Ovr Z kA C) (I : Ins Z h b C true) : Sto Z h a (.ref b) := by
  obtain ⟨c, A, q, -⟩ := F; exact Sto.ofV A q O I
theorem own_nar (t : FieldType) {v : Value} (h : v.isRef = true) : narrow t v = v := by cases v <;> first | rfl | (cases t <;> rfl) | (simp [Value.isRef] at h)
theorem own_fits {t : FieldType} {v : Value} (ht : t.isReference = true) (h : v.isRef = true) : fits t v = true := by cases t <;> first | (cases ht; done) | (cases v <;> first | rfl | (simp [Value.isRef] at h))
theorem own_old {p : Program} {l : Launch} {e : Env} {R : Room} {s : State} {m : MethodId} {args : Array Value} {below : List Frame} {meth : Method} {c : Code} {T : State} {locs : List Loc} {cells slots n0 : Nat} {Z : State} {h : Heap} (O : Old Z n0 s.heap) (X : Stand p l e R s m args below meth c T locs cells slots) (N : Fr n0 locs) (eT : T.heap = h) : Old Z n0 h := by
  subst eT
  obtain ⟨-, g1, -, -, -, g2⟩ := X.same
  refine ⟨O.1, Nat.le_trans O.2.1 g1, fun a c ha => ?_⟩
  obtain ⟨c', q1, q2, q3, q4⟩ := g2 a c (O.2.2 a c ha)
  have hlt : a < n0 := O.1 ▸ (Array.getElem?_eq_some_iff.mp ha).1
  have e1 : c'.slots = c.slots := Array.ext_getElem? fun i => q4 i fun hm => absurd (N _ hm) (Nat.not_le.mpr hlt)
  have e2 : c' = c := by rw [q2, e1]
  rw [← e2]; exact q1
section Rules
variable {l : Launch} {R : Room} {Z : State} {n0 : Nat} {y : MethodName} {code : ByteArray} {ml : Nat} {ret : Option FieldType} {Q : Option Value → Heap → Prop} {cells slots : Nat} {h : Heap} {pc pc' : Nat} {Ls Ls' : Array Slot} {st st' rest : List Value} {a0 : Array Value}
theorem Con.of_go {as : Array Value} (hp : plainFor y = true) (he : ∀ m, entryFrame m as ml = mkF m 0 Ls []) (k : Go l R Z n0 y code ml ret Q 0 0 h 0 Ls []) : Con l y code ml ret R Z n0 as h Q := by
  intro hn ws
  refine MetFree.of_bodySF hp hisR ?_
  intro p e s m args below meth c s₁ Bd hml0 hP hK
  obtain ⟨rfl, hZ, hh⟩ := hP
  have e0 : s₁.heap = h := by rw [← hh, Bd.state]; rfl
  have X0 : Stand p l e R s m args below meth c s₁ [] 0 0 := Stand.of_body Bd
  obtain ⟨s₂, o, h1, h2, h3, h4⟩ := k p e s m args below meth c s₁ [] ⟨Bd.exec, hZ, findClass_of_methodNamed Bd.named, Bd.bytes, hml0, Bd.returns, Bd.notSynchronized, (name_of_methodNamed Bd.named Bd.method).1, by rw [hh]; exact hn⟩ X0 (Fr.nil n0) e0
  exact ⟨s₂, o, castTop (he m) h1, h2, h3, h4⟩
theorem Con.mono {as : Array Value} {Q' : Option Value → Heap → Prop} (k : Con l y code ml ret R Z n0 as h Q) (hq : ∀ v h', Q v h' → Q' v h') : Con l y code ml ret R Z n0 as h Q' := by
  intro hn ws
  refine (k hn ws).mono (fun _ _ q => q) (fun _ _ _ _ _ q => q) ?_
  rintro a U o U' hP ⟨v, L, e, ⟨q, N⟩, r⟩
  exact ⟨v, L, e, ⟨hq _ _ q, N⟩, r⟩
theorem Go.mono {Q' : Option Value → Heap → Prop} (k : Go l R Z n0 y code ml ret Q' cells slots h pc Ls st) (hq : ∀ v h', Q' v h' → Q v h') : Go l R Z n0 y code ml ret Q cells slots h pc Ls st := by
  intro p e s m args below meth c T locs C X N eT
  obtain ⟨s₂, o, h1, h2, h3, v, L, h4, ⟨h5, h6⟩, h7⟩ := k p e s m args below meth c T locs C X N eT
  exact ⟨s₂, o, h1, h2, h3, v, L, h4, ⟨hq _ _ h5, h6⟩, h7⟩
theorem Go.more {cells' slots' : Nat} (k : Go l R Z n0 y code ml ret Q cells' slots' h pc Ls st) (hc : cells ≤ cells') (hs : slots ≤ slots') : Go l R Z n0 y code ml ret Q cells slots h pc Ls st := by
  intro p e s m args below meth c T locs C X N eT
  exact k p e s m args below meth c T locs C (X.more hc hs) N eT
theorem Go.old (k : Old Z n0 h → Go l R Z n0 y code ml ret Q cells slots h pc Ls st) : Go l R Z n0 y code ml ret Q cells slots h pc Ls st := by
  intro p e s m args below meth c T locs C X N eT
  exact k (own_old C.2.2.2.2.2.2.2.2 X N eT) p e s m args below meth c T locs C X N eT
theorem Go.step (hst : ∀ {p : Program} {e : Env} {s : State} {m : MethodId} {args : Array Value} {below : List Frame} {meth : Method} {c : Code} {T : State} {locs : List Loc} {target : State},
      Cx p l e R s m meth c Z n0 y code ml ret → Stand p l e R s m args below meth c T locs cells slots → T.heap = h → Steps p.tables e below (T.setTop (mkF m pc' Ls' st')) target → Steps p.tables e below (T.setTop (mkF m pc Ls st)) target)
    (k : Go l R Z n0 y code ml ret Q cells slots h pc' Ls' st') : Go l R Z n0 y code ml ret Q cells slots h pc Ls st := by
  intro p e s m args below meth c T locs C X N eT
  obtain ⟨s₂, o, h1, h2⟩ := k p e s m args below meth c T locs C X N eT
  exact ⟨s₂, o, hst C X eT h1, h2⟩
theorem Go.law {cells' slots' : Nat} {P : Heap → Prop} (hst : ∀ {p : Program} {e : Env} {s : State} {m : MethodId} {args : Array Value} {below : List Frame} {meth : Method} {c : Code} {T : State} {locs : List Loc},
      Cx p l e R s m meth c Z n0 y code ml ret → Stand p l e R s m args below meth c T locs cells slots → Fr n0 locs → T.heap = h → n0 ≤ h.size →
      ∃ T' locs' h', Stand p l e R s m args below meth c T' locs' cells' slots' ∧ Fr n0 locs' ∧ T'.heap = h' ∧ P h' ∧ ∀ target, Steps p.tables e below (T'.setTop (mkF m pc' Ls' st')) target → Steps p.tables e below (T.setTop (mkF m pc Ls st)) target)
    (k : ∀ h', P h' → Go l R Z n0 y code ml ret Q cells' slots' h' pc' Ls' st') : Go l R Z n0 y code ml ret Q cells slots h pc Ls st := by
  intro p e s m args below meth c T locs C X N eT
  have hold : Old Z n0 h := own_old C.2.2.2.2.2.2.2.2 X N eT
  obtain ⟨T', locs', h', X', N', e', hP, st⟩ := hst C X N eT (hold.1 ▸ hold.2.1)
  obtain ⟨s₂, o, h1, h2⟩ := k h' hP p e s m args below meth c T' locs' C X' N' e'
  exact ⟨s₂, o, st _ h1, h2⟩
theorem Go.iloadN {k : Fin 4} {v : Int32} (hd : decode code pc = .ok (.iload_n k, 1)) (hl : Ls[k.val]? = some (.val (.int v))) (hp : pc + 1 = pc') (k : Go l R Z n0 y code ml ret Q cells slots h pc' Ls (.int v :: st)) : Go l R Z n0 y code ml ret Q cells slots h pc Ls st := Go.step (fun C X _ q => by subst hp; exact XS.iloadN X.here C.1 rfl (hb C.2.2.2.1 hd) hl q) k
theorem Go.iload {k : Nat} {v : Int32} (hd : decode code pc = .ok (.iload k, 2)) (hl : Ls[k]? = some (.val (.int v))) (hp : pc + 2 = pc') (k : Go l R Z n0 y code ml ret Q cells slots h pc' Ls (.int v :: st)) : Go l R Z n0 y code ml ret Q cells slots h pc Ls st := Go.step (fun C X _ q => by subst hp; exact XS.iload X.here C.1 rfl (hb C.2.2.2.1 hd) hl q) k
theorem Go.lloadN {k : Fin 4} {v : Int64} (hd : decode code pc = .ok (.lload_n k, 1)) (hl : Ls[k.val]? = some (.val (.long v))) (hp : pc + 1 = pc') (k : Go l R Z n0 y code ml ret Q cells slots h pc' Ls (.long v :: st)) : Go l R Z n0 y code ml ret Q cells slots h pc Ls st := Go.step (fun C X _ q => by subst hp; exact XT.lloadN X.here C.1 rfl (hb C.2.2.2.1 hd) hl q) k
theorem Go.lload {k : Nat} {v : Int64} (hd : decode code pc = .ok (.lload k, 2)) (hl : Ls[k]? = some (.val (.long v))) (hp : pc + 2 = pc') (k : Go l R Z n0 y code ml ret Q cells slots h pc' Ls (.long v :: st)) : Go l R Z n0 y code ml ret Q cells slots h pc Ls st := Go.step (fun C X _ q => by subst hp; exact XT.lload X.here C.1 rfl (hb C.2.2.2.1 hd) hl q) k
theorem Go.aloadN {k : Fin 4} {v : Value} (hd : decode code pc = .ok (.aload_n k, 1)) (hl : Ls[k.val]? = some (.val v)) (hv : v.isRef = true) (hp : pc + 1 = pc') (k : Go l R Z n0 y code ml ret Q cells slots h pc' Ls (v :: st)) : Go l R Z n0 y code ml ret Q cells slots h pc Ls st := Go.step (fun C X _ q => by subst hp; exact XS.aloadN X.here C.1 rfl (hb C.2.2.2.1 hd) hl hv q) k
theorem Go.aload {k : Nat} {v : Value} (hd : decode code pc = .ok (.aload k, 2)) (hl : Ls[k]? = some (.val v)) (hv : v.isRef = true) (hp : pc + 2 = pc') (k : Go l R Z n0 y code ml ret Q cells slots h pc' Ls (v :: st)) : Go l R Z n0 y code ml ret Q cells slots h pc Ls st := Go.step (fun C X _ q => by subst hp; exact XS.aload X.here C.1 rfl (hb C.2.2.2.1 hd) hl hv q) k
theorem Go.istoreN {k : Fin 4} {v : Int32} (hd : decode code pc = .ok (.istore_n k, 1)) (hl : storeLocals Ls k.val (.int v) = some Ls') (hp : pc + 1 = pc') (k : Go l R Z n0 y code ml ret Q cells slots h pc' Ls' st) : Go l R Z n0 y code ml ret Q cells slots h pc Ls (.int v :: st) := Go.step (fun C X _ q => by subst hp; exact XS.istoreN X.here C.1 rfl (hb C.2.2.2.1 hd) rfl hl q) k
theorem Go.istore {k : Nat} {v : Int32} (hd : decode code pc = .ok (.istore k, 2)) (hl : storeLocals Ls k (.int v) = some Ls') (hp : pc + 2 = pc') (k : Go l R Z n0 y code ml ret Q cells slots h pc' Ls' st) : Go l R Z n0 y code ml ret Q cells slots h pc Ls (.int v :: st) := Go.step (fun C X _ q => by subst hp; exact XS.istore X.here C.1 rfl (hb C.2.2.2.1 hd) rfl hl q) k
theorem Go.lstoreN {k : Fin 4} {v : Int64} (hd : decode code pc = .ok (.lstore_n k, 1)) (hl : storeLocals Ls k.val (.long v) = some Ls') (hp : pc + 1 = pc') (k : Go l R Z n0 y code ml ret Q cells slots h pc' Ls' st) : Go l R Z n0 y code ml ret Q cells slots h pc Ls (.long v :: st) := Go.step (fun C X _ q => by subst hp; exact XT.lstoreN X.here C.1 rfl (hb C.2.2.2.1 hd) rfl hl q) k
theorem Go.lstore {k : Nat} {v : Int64} (hd : decode code pc = .ok (.lstore k, 2)) (hl : storeLocals Ls k (.long v) = some Ls') (hp : pc + 2 = pc') (k : Go l R Z n0 y code ml ret Q cells slots h pc' Ls' st) : Go l R Z n0 y code ml ret Q cells slots h pc Ls (.long v :: st) := Go.step (fun C X _ q => by subst hp; exact XT.lstore X.here C.1 rfl (hb C.2.2.2.1 hd) rfl hl q) k
theorem Go.astoreN {k : Fin 4} {v : Value} (hd : decode code pc = .ok (.astore_n k, 1)) (hv : v.isRef = true) (hl : storeLocals Ls k.val v = some Ls') (hp : pc + 1 = pc') (k : Go l R Z n0 y code ml ret Q cells slots h pc' Ls' st) : Go l R Z n0 y code ml ret Q cells slots h pc Ls (v :: st) := Go.step (fun C X _ q => by subst hp; exact XS.astoreN X.here C.1 rfl (hb C.2.2.2.1 hd) rfl hv hl q) k
theorem Go.astore {k : Nat} {v : Value} (hd : decode code pc = .ok (.astore k, 2)) (hv : v.isRef = true) (hl : storeLocals Ls k v = some Ls') (hp : pc + 2 = pc') (k : Go l R Z n0 y code ml ret Q cells slots h pc' Ls' st) : Go l R Z n0 y code ml ret Q cells slots h pc Ls (v :: st) := Go.step (fun C X _ q => by subst hp; exact XS.astore X.here C.1 rfl (hb C.2.2.2.1 hd) rfl hv hl q) k
theorem Go.iconst {i : Int} {v : Int32} (hd : decode code pc = .ok (.iconst i, 1)) (hv : Int32.ofInt i = v) (hp : pc + 1 = pc') (k : Go l R Z n0 y code ml ret Q cells slots h pc' Ls (.int v :: st)) : Go l R Z n0 y code ml ret Q cells slots h pc Ls st := Go.step (fun C X _ q => by subst hp; exact (by subst hv; exact XS.iconst X.here C.1 rfl (hb C.2.2.2.1 hd) q)) k
theorem Go.bipush {i : Int} {v : Int32} (hd : decode code pc = .ok (.bipush i, 2)) (hv : (Int8.ofInt i).toInt32 = v) (hp : pc + 2 = pc') (k : Go l R Z n0 y code ml ret Q cells slots h pc' Ls (.int v :: st)) : Go l R Z n0 y code ml ret Q cells slots h pc Ls st := Go.step (fun C X _ q => by subst hp; exact (by subst hv; exact XS.bipush X.here C.1 rfl (hb C.2.2.2.1 hd) q)) k
theorem Go.sipush {i : Int} {v : Int32} (hd : decode code pc = .ok (.sipush i, 3)) (hv : (Int16.ofInt i).toInt32 = v) (hp : pc + 3 = pc') (k : Go l R Z n0 y code ml ret Q cells slots h pc' Ls (.int v :: st)) : Go l R Z n0 y code ml ret Q cells slots h pc Ls st := Go.step (fun C X _ q => by subst hp; exact (by subst hv; exact XS.sipush X.here C.1 rfl (hb C.2.2.2.1 hd) q)) k
theorem Go.lconst {i : Fin 2} {v : Int64} (hd : decode code pc = .ok (.lconst i, 1)) (hv : Int64.ofNat i = v) (hp : pc + 1 = pc') (k : Go l R Z n0 y code ml ret Q cells slots h pc' Ls (.long v :: st)) : Go l R Z n0 y code ml ret Q cells slots h pc Ls st := Go.step (fun C X _ q => by subst hp; exact XT.lconstV X.here C.1 rfl v (hb C.2.2.2.1 hd) hv q) k
theorem Go.aconstNull (hd : decode code pc = .ok (.aconst_null, 1)) (hp : pc + 1 = pc') (k : Go l R Z n0 y code ml ret Q cells slots h pc' Ls (.null :: st)) : Go l R Z n0 y code ml ret Q cells slots h pc Ls st := Go.step (fun C X _ q => by subst hp; exact XS.aconstNull X.here C.1 rfl (hb C.2.2.2.1 hd) q) k
theorem Go.ldcI {i : Nat} {v : Int32} (w : (Jvm.Cond.constant y.cls i v).before a0 Z = true) (hd : decode code pc = .ok (.ldc i, 2)) (hp : pc + 2 = pc') (k : Go l R Z n0 y code ml ret Q cells slots h pc' Ls (.int v :: st)) : Go l R Z n0 y code ml ret Q cells slots h pc Ls st := Go.step (fun C X _ q => by subst hp; exact Jvm.Stand.ldcI X C.1 C.2.2.1 (mvT C.2.1 w) rfl (hb C.2.2.2.1 hd) q) k
theorem Go.ldcWI {i : Nat} {v : Int32} (w : (Jvm.Cond.constant y.cls i v).before a0 Z = true) (hd : decode code pc = .ok (.ldc_w i, 3)) (hp : pc + 3 = pc') (k : Go l R Z n0 y code ml ret Q cells slots h pc' Ls (.int v :: st)) : Go l R Z n0 y code ml ret Q cells slots h pc Ls st := Go.step (fun C X _ q => by subst hp; exact Jvm.Stand.ldcWI X C.1 C.2.2.1 (mvT C.2.1 w) rfl (hb C.2.2.2.1 hd) q) k
theorem Go.ldc2J {i : Nat} {v : Int64} (w : (Jvm.Cond.constantLong y.cls i v).before a0 Z = true) (hd : decode code pc = .ok (.ldc2_w i, 3)) (hp : pc + 3 = pc') (k : Go l R Z n0 y code ml ret Q cells slots h pc' Ls (.long v :: st)) : Go l R Z n0 y code ml ret Q cells slots h pc Ls st := Go.step (fun C X _ q => by subst hp; exact Jvm.Stand.ldc2J X C.1 C.2.2.1 (mvT C.2.1 w) rfl (hb C.2.2.2.1 hd) q) k
theorem Go.iadd {a b : Int32} (hd : decode code pc = .ok (.iadd, 1)) (hp : pc + 1 = pc') (k : Go l R Z n0 y code ml ret Q cells slots h pc' Ls (.int (a + b) :: st)) : Go l R Z n0 y code ml ret Q cells slots h pc Ls (.int b :: .int a :: st) := Go.step (fun C X _ q => by subst hp; exact XS.iadd X.here C.1 rfl (hb C.2.2.2.1 hd) rfl q) k
theorem Go.isub {a b : Int32} (hd : decode code pc = .ok (.isub, 1)) (hp : pc + 1 = pc') (k : Go l R Z n0 y code ml ret Q cells slots h pc' Ls (.int (a - b) :: st)) : Go l R Z n0 y code ml ret Q cells slots h pc Ls (.int b :: .int a :: st) := Go.step (fun C X _ q => by subst hp; exact XS.isub X.here C.1 rfl (hb C.2.2.2.1 hd) rfl q) k
theorem Go.imul {a b : Int32} (hd : decode code pc = .ok (.imul, 1)) (hp : pc + 1 = pc') (k : Go l R Z n0 y code ml ret Q cells slots h pc' Ls (.int (a * b) :: st)) : Go l R Z n0 y code ml ret Q cells slots h pc Ls (.int b :: .int a :: st) := Go.step (fun C X _ q => by subst hp; exact XS.imul X.here C.1 rfl (hb C.2.2.2.1 hd) rfl q) k
theorem Go.iand {a b : Int32} (hd : decode code pc = .ok (.iand, 1)) (hp : pc + 1 = pc') (k : Go l R Z n0 y code ml ret Q cells slots h pc' Ls (.int (a &&& b) :: st)) : Go l R Z n0 y code ml ret Q cells slots h pc Ls (.int b :: .int a :: st) := Go.step (fun C X _ q => by subst hp; exact XS.iand X.here C.1 rfl (hb C.2.2.2.1 hd) rfl q) k
theorem Go.ior {a b : Int32} (hd : decode code pc = .ok (.ior, 1)) (hp : pc + 1 = pc') (k : Go l R Z n0 y code ml ret Q cells slots h pc' Ls (.int (a ||| b) :: st)) : Go l R Z n0 y code ml ret Q cells slots h pc Ls (.int b :: .int a :: st) := Go.step (fun C X _ q => by subst hp; exact XT.ior X.here C.1 rfl (hb C.2.2.2.1 hd) rfl q) k
theorem Go.ixor {a b : Int32} (hd : decode code pc = .ok (.ixor, 1)) (hp : pc + 1 = pc') (k : Go l R Z n0 y code ml ret Q cells slots h pc' Ls (.int (a ^^^ b) :: st)) : Go l R Z n0 y code ml ret Q cells slots h pc Ls (.int b :: .int a :: st) := Go.step (fun C X _ q => by subst hp; exact XT.ixor X.here C.1 rfl (hb C.2.2.2.1 hd) rfl q) k
theorem Go.ladd {a b : Int64} (hd : decode code pc = .ok (.ladd, 1)) (hp : pc + 1 = pc') (k : Go l R Z n0 y code ml ret Q cells slots h pc' Ls (.long (a + b) :: st)) : Go l R Z n0 y code ml ret Q cells slots h pc Ls (.long b :: .long a :: st) := Go.step (fun C X _ q => by subst hp; exact XT.ladd X.here C.1 rfl (hb C.2.2.2.1 hd) rfl q) k
theorem Go.lsub {a b : Int64} (hd : decode code pc = .ok (.lsub, 1)) (hp : pc + 1 = pc') (k : Go l R Z n0 y code ml ret Q cells slots h pc' Ls (.long (a - b) :: st)) : Go l R Z n0 y code ml ret Q cells slots h pc Ls (.long b :: .long a :: st) := Go.step (fun C X _ q => by subst hp; exact XT.lsub X.here C.1 rfl (hb C.2.2.2.1 hd) rfl q) k
theorem Go.lmul {a b : Int64} (hd : decode code pc = .ok (.lmul, 1)) (hp : pc + 1 = pc') (k : Go l R Z n0 y code ml ret Q cells slots h pc' Ls (.long (a * b) :: st)) : Go l R Z n0 y code ml ret Q cells slots h pc Ls (.long b :: .long a :: st) := Go.step (fun C X _ q => by subst hp; exact XT.lmul X.here C.1 rfl (hb C.2.2.2.1 hd) rfl q) k
theorem Go.land {a b : Int64} (hd : decode code pc = .ok (.land, 1)) (hp : pc + 1 = pc') (k : Go l R Z n0 y code ml ret Q cells slots h pc' Ls (.long (a &&& b) :: st)) : Go l R Z n0 y code ml ret Q cells slots h pc Ls (.long b :: .long a :: st) := Go.step (fun C X _ q => by subst hp; exact XT.land X.here C.1 rfl (hb C.2.2.2.1 hd) rfl q) k
theorem Go.lor {a b : Int64} (hd : decode code pc = .ok (.lor, 1)) (hp : pc + 1 = pc') (k : Go l R Z n0 y code ml ret Q cells slots h pc' Ls (.long (a ||| b) :: st)) : Go l R Z n0 y code ml ret Q cells slots h pc Ls (.long b :: .long a :: st) := Go.step (fun C X _ q => by subst hp; exact XT.lor X.here C.1 rfl (hb C.2.2.2.1 hd) rfl q) k
theorem Go.lxor {a b : Int64} (hd : decode code pc = .ok (.lxor, 1)) (hp : pc + 1 = pc') (k : Go l R Z n0 y code ml ret Q cells slots h pc' Ls (.long (a ^^^ b) :: st)) : Go l R Z n0 y code ml ret Q cells slots h pc Ls (.long b :: .long a :: st) := Go.step (fun C X _ q => by subst hp; exact XT.lxor X.here C.1 rfl (hb C.2.2.2.1 hd) rfl q) k
theorem Go.ishl {a b : Int32} (hd : decode code pc = .ok (.ishl, 1)) (hp : pc + 1 = pc') (k : Go l R Z n0 y code ml ret Q cells slots h pc' Ls (.int (a <<< (b &&& 31)) :: st)) : Go l R Z n0 y code ml ret Q cells slots h pc Ls (.int b :: .int a :: st) := Go.step (fun C X _ q => by subst hp; exact XT.ishl X.here C.1 rfl (hb C.2.2.2.1 hd) rfl q) k
theorem Go.ishr {a b : Int32} (hd : decode code pc = .ok (.ishr, 1)) (hp : pc + 1 = pc') (k : Go l R Z n0 y code ml ret Q cells slots h pc' Ls (.int (a >>> (b &&& 31)) :: st)) : Go l R Z n0 y code ml ret Q cells slots h pc Ls (.int b :: .int a :: st) := Go.step (fun C X _ q => by subst hp; exact XT.ishr X.here C.1 rfl (hb C.2.2.2.1 hd) rfl q) k
theorem Go.iushr {a b : Int32} (hd : decode code pc = .ok (.iushr, 1)) (hp : pc + 1 = pc') (k : Go l R Z n0 y code ml ret Q cells slots h pc' Ls (.int (XT.ushr a b) :: st)) : Go l R Z n0 y code ml ret Q cells slots h pc Ls (.int b :: .int a :: st) := Go.step (fun C X _ q => by subst hp; exact XT.iushr X.here C.1 rfl (hb C.2.2.2.1 hd) rfl q) k
theorem Go.lshr {a : Int64} {b : Int32} (hd : decode code pc = .ok (.lshr, 1)) (hp : pc + 1 = pc') (k : Go l R Z n0 y code ml ret Q cells slots h pc' Ls (.long (a >>> (b.toInt64 &&& 63)) :: st)) : Go l R Z n0 y code ml ret Q cells slots h pc Ls (.int b :: .long a :: st) := Go.step (fun C X _ q => by subst hp; exact XT.lshr X.here C.1 rfl (hb C.2.2.2.1 hd) rfl q) k
theorem Go.lshl {a : Int64} {b : Int32} (hd : decode code pc = .ok (.lshl, 1)) (hp : pc + 1 = pc') (k : Go l R Z n0 y code ml ret Q cells slots h pc' Ls (.long (a <<< (b.toInt64 &&& 63)) :: st)) : Go l R Z n0 y code ml ret Q cells slots h pc Ls (.int b :: .long a :: st) := Go.step (fun C X _ q => by subst hp; exact XT.lshl X.here C.1 rfl (hb C.2.2.2.1 hd) rfl q) k
theorem Go.lushr {a : Int64} {b : Int32} (hd : decode code pc = .ok (.lushr, 1)) (hp : pc + 1 = pc') (k : Go l R Z n0 y code ml ret Q cells slots h pc' Ls (.long (XT.ushrL a b) :: st)) : Go l R Z n0 y code ml ret Q cells slots h pc Ls (.int b :: .long a :: st) := Go.step (fun C X _ q => by subst hp; exact XT.lushr X.here C.1 rfl (hb C.2.2.2.1 hd) rfl q) k
theorem Go.irem {a b : Int32} (hd : decode code pc = .ok (.irem, 1)) (hz : b ≠ 0) (hp : pc + 1 = pc') (k : Go l R Z n0 y code ml ret Q cells slots h pc' Ls (.int (a % b) :: st)) : Go l R Z n0 y code ml ret Q cells slots h pc Ls (.int b :: .int a :: st) := Go.step (fun C X _ q => by subst hp; exact iremM X C.1 rfl (hb C.2.2.2.1 hd) rfl hz q) k
theorem Go.idiv {a b : Int32} (hd : decode code pc = .ok (.idiv, 1)) (hz : b ≠ 0) (hp : pc + 1 = pc') (k : Go l R Z n0 y code ml ret Q cells slots h pc' Ls (.int (a / b) :: st)) : Go l R Z n0 y code ml ret Q cells slots h pc Ls (.int b :: .int a :: st) := Go.step (fun C X _ q => by subst hp; exact XS.idiv X.here C.1 rfl (hb C.2.2.2.1 hd) rfl hz q) k
theorem Go.ldiv {a b : Int64} (hd : decode code pc = .ok (.ldiv, 1)) (hz : b ≠ 0) (hp : pc + 1 = pc') (k : Go l R Z n0 y code ml ret Q cells slots h pc' Ls (.long (a / b) :: st)) : Go l R Z n0 y code ml ret Q cells slots h pc Ls (.long b :: .long a :: st) := Go.step (fun C X _ q => by subst hp; exact XT.ldiv X.here C.1 rfl (hb C.2.2.2.1 hd) rfl hz q) k
theorem Go.lrem {a b : Int64} (hd : decode code pc = .ok (.lrem, 1)) (hz : b ≠ 0) (hp : pc + 1 = pc') (k : Go l R Z n0 y code ml ret Q cells slots h pc' Ls (.long (a - (a / b) * b) :: st)) : Go l R Z n0 y code ml ret Q cells slots h pc Ls (.long b :: .long a :: st) := Go.step (fun C X _ q => by subst hp; exact XT.lrem X.here C.1 rfl (hb C.2.2.2.1 hd) rfl hz q) k
theorem Go.ineg {a : Int32} (hd : decode code pc = .ok (.ineg, 1)) (hp : pc + 1 = pc') (k : Go l R Z n0 y code ml ret Q cells slots h pc' Ls (.int (-a) :: st)) : Go l R Z n0 y code ml ret Q cells slots h pc Ls (.int a :: st) := Go.step (fun C X _ q => by subst hp; exact XS.ineg X.here C.1 rfl (hb C.2.2.2.1 hd) rfl q) k
theorem Go.lneg {a : Int64} (hd : decode code pc = .ok (.lneg, 1)) (hp : pc + 1 = pc') (k : Go l R Z n0 y code ml ret Q cells slots h pc' Ls (.long (-a) :: st)) : Go l R Z n0 y code ml ret Q cells slots h pc Ls (.long a :: st) := Go.step (fun C X _ q => by subst hp; exact XT.lneg X.here C.1 rfl (hb C.2.2.2.1 hd) rfl q) k
theorem Go.i2l {a : Int32} (hd : decode code pc = .ok (.i2l, 1)) (hp : pc + 1 = pc') (k : Go l R Z n0 y code ml ret Q cells slots h pc' Ls (.long a.toInt64 :: st)) : Go l R Z n0 y code ml ret Q cells slots h pc Ls (.int a :: st) := Go.step (fun C X _ q => by subst hp; exact XT.i2l X.here C.1 rfl (hb C.2.2.2.1 hd) rfl q) k
theorem Go.l2i {a : Int64} (hd : decode code pc = .ok (.l2i, 1)) (hp : pc + 1 = pc') (k : Go l R Z n0 y code ml ret Q cells slots h pc' Ls (.int a.toInt32 :: st)) : Go l R Z n0 y code ml ret Q cells slots h pc Ls (.long a :: st) := Go.step (fun C X _ q => by subst hp; exact XT.l2i X.here C.1 rfl (hb C.2.2.2.1 hd) rfl q) k
theorem Go.i2b {a : Int32} (hd : decode code pc = .ok (.i2b, 1)) (hp : pc + 1 = pc') (k : Go l R Z n0 y code ml ret Q cells slots h pc' Ls (.int a.toInt8.toInt32 :: st)) : Go l R Z n0 y code ml ret Q cells slots h pc Ls (.int a :: st) := Go.step (fun C X _ q => by subst hp; exact XT.i2b X.here C.1 rfl (hb C.2.2.2.1 hd) rfl q) k
theorem Go.i2c {a : Int32} (hd : decode code pc = .ok (.i2c, 1)) (hp : pc + 1 = pc') (k : Go l R Z n0 y code ml ret Q cells slots h pc' Ls (.int a.toUInt32.toUInt16.toUInt32.toInt32 :: st)) : Go l R Z n0 y code ml ret Q cells slots h pc Ls (.int a :: st) := Go.step (fun C X _ q => by subst hp; exact XT.i2c X.here C.1 rfl (hb C.2.2.2.1 hd) rfl q) k
theorem Go.lcmp {a b : Int64} (hd : decode code pc = .ok (.lcmp, 1)) (hp : pc + 1 = pc') (k : Go l R Z n0 y code ml ret Q cells slots h pc' Ls (.int (XT.cmpL a b) :: st)) : Go l R Z n0 y code ml ret Q cells slots h pc Ls (.long b :: .long a :: st) := Go.step (fun C X _ q => by subst hp; exact XT.lcmp X.here C.1 rfl (hb C.2.2.2.1 hd) rfl q) k
theorem Go.iinc {k : Nat} {i : Int} {v w : Int32} (hd : decode code pc = .ok (.iinc k i, 3)) (hv : Int32.ofInt i = w) (hl : Ls[k]? = some (.val (.int v))) (hl' : storeLocals Ls k (.int (v + w)) = some Ls') (hp : pc + 3 = pc') (k : Go l R Z n0 y code ml ret Q cells slots h pc' Ls' st) : Go l R Z n0 y code ml ret Q cells slots h pc Ls st := Go.step (fun C X _ q => by subst hp; exact XT.iincV X.here C.1 rfl w (hb C.2.2.2.1 hd) hv hl hl' q) k
theorem Go.dup {v : Value} (hd : decode code pc = .ok (.dup, 1)) (hc : v.category = 1) (hp : pc + 1 = pc') (k : Go l R Z n0 y code ml ret Q cells slots h pc' Ls (v :: v :: st)) : Go l R Z n0 y code ml ret Q cells slots h pc Ls (v :: st) := Go.step (fun C X _ q => by subst hp; exact XS.dup X.here C.1 rfl (hb C.2.2.2.1 hd) rfl hc q) k
theorem Go.pop {v : Value} (hd : decode code pc = .ok (.pop, 1)) (hc : v.category = 1) (hp : pc + 1 = pc') (k : Go l R Z n0 y code ml ret Q cells slots h pc' Ls st) : Go l R Z n0 y code ml ret Q cells slots h pc Ls (v :: st) := Go.step (fun C X _ q => by subst hp; exact XT.pop X.here C.1 rfl (hb C.2.2.2.1 hd) rfl hc q) k
theorem Go.dupX1 {v w : Value} (hd : decode code pc = .ok (.dup_x1, 1)) (hc : v.category = 1) (hc' : w.category = 1) (hp : pc + 1 = pc') (k : Go l R Z n0 y code ml ret Q cells slots h pc' Ls (v :: w :: v :: st)) : Go l R Z n0 y code ml ret Q cells slots h pc Ls (v :: w :: st) := Go.step (fun C X _ q => by subst hp; exact XT.dupX1 X.here C.1 rfl (hb C.2.2.2.1 hd) rfl hc hc' q) k
theorem Go.dup2 {v w : Value} (hd : decode code pc = .ok (.dup2, 1)) (hc : v.category = 1) (hc' : w.category = 1) (hp : pc + 1 = pc') (k : Go l R Z n0 y code ml ret Q cells slots h pc' Ls (v :: w :: v :: w :: st)) : Go l R Z n0 y code ml ret Q cells slots h pc Ls (v :: w :: st) := Go.step (fun C X _ q => by subst hp; exact XT.dup2 X.here C.1 rfl (hb C.2.2.2.1 hd) rfl hc hc' q) k
theorem Go.dup2L {a : Int64} (hd : decode code pc = .ok (.dup2, 1)) (hp : pc + 1 = pc') (k : Go l R Z n0 y code ml ret Q cells slots h pc' Ls (.long a :: .long a :: st)) : Go l R Z n0 y code ml ret Q cells slots h pc Ls (.long a :: st) := Go.step (fun C X _ q => by subst hp; exact XT.dup2L X.here C.1 rfl (hb C.2.2.2.1 hd) rfl q) k
theorem Go.goto {o : Int} (hd : decode code pc = .ok (.goto o, 3)) (ho : 0 ≤ (pc : Int) + o := by decide) (hp : ((pc : Int) + o).toNat = pc' := by decide) (k : Go l R Z n0 y code ml ret Q cells slots h pc' Ls st) : Go l R Z n0 y code ml ret Q cells slots h pc Ls st := Go.step (fun C X _ q => XS.goto X.here C.1 rfl rfl (hb C.2.2.2.1 hd) ho hp q) k
theorem Go.ifYes {o : Int} {cd : ClassFile.Cond} {a : Int32} (hd : decode code pc = .ok (.ifCond cd o, 3)) (hc : ifCond.holds cd a = true) (ho : 0 ≤ (pc : Int) + o := by decide) (hp : ((pc : Int) + o).toNat = pc' := by decide) (k : Go l R Z n0 y code ml ret Q cells slots h pc' Ls st) : Go l R Z n0 y code ml ret Q cells slots h pc Ls (.int a :: st) := Go.step (fun C X _ q => XS.ifYes X.here C.1 rfl rfl (hb C.2.2.2.1 hd) rfl hc ho hp q) k
theorem Go.icmpYes {o : Int} {cd : ClassFile.Cond} {a b : Int32} (hd : decode code pc = .ok (.if_icmp cd o, 3)) (hc : if_icmp.holds cd a b = true) (ho : 0 ≤ (pc : Int) + o := by decide) (hp : ((pc : Int) + o).toNat = pc' := by decide) (k : Go l R Z n0 y code ml ret Q cells slots h pc' Ls st) : Go l R Z n0 y code ml ret Q cells slots h pc Ls (.int b :: .int a :: st) := Go.step (fun C X _ q => XS.icmpYes X.here C.1 rfl rfl (hb C.2.2.2.1 hd) rfl hc ho hp q) k
theorem Go.acmpYes {o : Int} {cd : ClassFile.ACond} {a b : Value} (hd : decode code pc = .ok (.if_acmp cd o, 3)) (ha : a.isRef = true) (hb' : b.isRef = true) (hc : XT.acmp cd a b = true) (ho : 0 ≤ (pc : Int) + o := by decide) (hp : ((pc : Int) + o).toNat = pc' := by decide) (k : Go l R Z n0 y code ml ret Q cells slots h pc' Ls st) : Go l R Z n0 y code ml ret Q cells slots h pc Ls (b :: a :: st) := Go.step (fun C X _ q => XT.acmpYes X.here C.1 rfl rfl (hb C.2.2.2.1 hd) rfl ha hb' hc ho hp q) k
theorem Go.nullYes {o : Int} {a : Value} (hd : decode code pc = .ok (.ifnull o, 3)) (hv : a = .null) (ho : 0 ≤ (pc : Int) + o := by decide) (hp : ((pc : Int) + o).toNat = pc' := by decide) (k : Go l R Z n0 y code ml ret Q cells slots h pc' Ls st) : Go l R Z n0 y code ml ret Q cells slots h pc Ls (a :: st) := Go.step (fun C X _ q => XT.nullYes X.here C.1 rfl rfl (hb C.2.2.2.1 hd) rfl hv ho hp q) k
theorem Go.nonnullYes {o : Int} {a : Value} (hd : decode code pc = .ok (.ifnonnull o, 3)) (ha : a.isRef = true) (hv : ¬ a = .null) (ho : 0 ≤ (pc : Int) + o := by decide) (hp : ((pc : Int) + o).toNat = pc' := by decide) (k : Go l R Z n0 y code ml ret Q cells slots h pc' Ls st) : Go l R Z n0 y code ml ret Q cells slots h pc Ls (a :: st) := Go.step (fun C X _ q => XT.nonnullYes X.here C.1 rfl rfl (hb C.2.2.2.1 hd) rfl ha hv ho hp q) k
theorem Go.ifNo {o : Int} {cd : ClassFile.Cond} {a : Int32} (hd : decode code pc = .ok (.ifCond cd o, 3)) (hc : ifCond.holds cd a = false) (hp : pc + 3 = pc') (k : Go l R Z n0 y code ml ret Q cells slots h pc' Ls st) : Go l R Z n0 y code ml ret Q cells slots h pc Ls (.int a :: st) := Go.step (fun C X _ q => by subst hp; exact XS.ifNo X.here C.1 rfl (hb C.2.2.2.1 hd) rfl hc q) k
theorem Go.icmpNo {o : Int} {cd : ClassFile.Cond} {a b : Int32} (hd : decode code pc = .ok (.if_icmp cd o, 3)) (hc : if_icmp.holds cd a b = false) (hp : pc + 3 = pc') (k : Go l R Z n0 y code ml ret Q cells slots h pc' Ls st) : Go l R Z n0 y code ml ret Q cells slots h pc Ls (.int b :: .int a :: st) := Go.step (fun C X _ q => by subst hp; exact XS.icmpNo X.here C.1 rfl (hb C.2.2.2.1 hd) rfl hc q) k
theorem Go.acmpNo {o : Int} {cd : ClassFile.ACond} {a b : Value} (hd : decode code pc = .ok (.if_acmp cd o, 3)) (ha : a.isRef = true) (hb' : b.isRef = true) (hc : XT.acmp cd a b = false) (hp : pc + 3 = pc') (k : Go l R Z n0 y code ml ret Q cells slots h pc' Ls st) : Go l R Z n0 y code ml ret Q cells slots h pc Ls (b :: a :: st) := Go.step (fun C X _ q => by subst hp; exact XT.acmpNo X.here C.1 rfl (hb C.2.2.2.1 hd) rfl ha hb' hc q) k
theorem Go.nullNo {o : Int} {a : Value} (hd : decode code pc = .ok (.ifnull o, 3)) (ha : a.isRef = true) (hv : ¬ a = .null) (hp : pc + 3 = pc') (k : Go l R Z n0 y code ml ret Q cells slots h pc' Ls st) : Go l R Z n0 y code ml ret Q cells slots h pc Ls (a :: st) := Go.step (fun C X _ q => by subst hp; exact XT.nullNo X.here C.1 rfl (hb C.2.2.2.1 hd) rfl ha hv q) k
theorem Go.nonnullNo {o : Int} {a : Value} (hd : decode code pc = .ok (.ifnonnull o, 3)) (hv : a = .null) (hp : pc + 3 = pc') (k : Go l R Z n0 y code ml ret Q cells slots h pc' Ls st) : Go l R Z n0 y code ml ret Q cells slots h pc Ls (a :: st) := Go.step (fun C X _ q => by subst hp; exact XT.nonnullNo X.here C.1 rfl (hb C.2.2.2.1 hd) rfl hv q) k
theorem Go.tsw {a : Int32} {dflt low high o : Int} {offs : Array Int} {len : Nat} (hd : decode code pc = .ok (.tableswitch dflt low high offs, len)) (hin : ¬ (a.toInt < low ∨ a.toInt > high)) (hoff : offs[(a.toInt - low).toNat]? = some o) (ho : 0 ≤ (pc : Int) + o) (hp : ((pc : Int) + o).toNat = pc') (k : Go l R Z n0 y code ml ret Q cells slots h pc' Ls st) : Go l R Z n0 y code ml ret Q cells slots h pc Ls (.int a :: st) := Go.step (fun C X _ q => XS.tswIn X.here C.1 rfl rfl (hb C.2.2.2.1 hd) rfl hin hoff ho hp q) k
theorem Go.tswOut {a : Int32} {dflt low high : Int} {offs : Array Int} {len : Nat} (hd : decode code pc = .ok (.tableswitch dflt low high offs, len)) (hout : a.toInt < low ∨ a.toInt > high) (ho : 0 ≤ (pc : Int) + dflt) (hp : ((pc : Int) + dflt).toNat = pc') (k : Go l R Z n0 y code ml ret Q cells slots h pc' Ls st) : Go l R Z n0 y code ml ret Q cells slots h pc Ls (.int a :: st) := Go.step (fun C X _ q => XS.tswOut X.here C.1 rfl rfl (hb C.2.2.2.1 hd) rfl hout ho hp q) k
theorem Go.getstatic {host : String} {R0 O n d : String} {i : Nat} (w : (Jvm.Cond.fieldLink y.cls i R0 n d).before a0 Z = true ∨ (Jvm.Cond.fieldLinkNest y.cls i R0 n d host).before a0 Z = true) (via : Via Z R0 O n d) {v : Value} (F : Sta Z h O n d v) (hd : decode code pc = .ok (.getstatic i, 3)) (hp : pc + 3 = pc') (k : Go l R Z n0 y code ml ret Q cells slots h pc' Ls (v :: st)) : Go l R Z n0 y code ml ret Q cells slots h pc Ls st := by
  refine Go.law (P := fun h' => h' = h) (fun C X N eT _ => ?_) (fun h' e => e ▸ k)
  subst hp
  obtain ⟨T', X', e', st⟩ := getS2 X C.1 C.2.1 C.2.2.1 w via eT F (g := mkF _ pc Ls st) rfl (hb C.2.2.2.1 hd)
  exact ⟨T', _, h, X', N, e', rfl, st⟩
theorem Go.getfield {host : String} {R0 O n d : String} {i : Nat} (w : (Jvm.Cond.fieldLink y.cls i R0 n d).before a0 Z = true ∨ (Jvm.Cond.fieldLinkNest y.cls i R0 n d host).before a0 Z = true) (via : Via Z R0 O n d) {v : Value} {a : Addr} (F : Fld Z h a O n d v) (hd : decode code pc = .ok (.getfield i, 3)) (hp : pc + 3 = pc') (k : Go l R Z n0 y code ml ret Q cells slots h pc' Ls (v :: st)) : Go l R Z n0 y code ml ret Q cells slots h pc Ls (.ref a :: st) := by
  refine Go.law (P := fun h' => h' = h) (fun C X N eT _ => ?_) (fun h' e => e ▸ k)
  subst hp
  obtain ⟨T', X', e', st⟩ := getF X C.1 C.2.1 C.2.2.1 w via eT F (g := mkF _ pc Ls (.ref a :: st)) rfl rfl (hb C.2.2.2.1 hd)
  exact ⟨T', _, h, X', N, e', rfl, st⟩
theorem Go.castY {K : String} {i : Nat} {a : Addr} (w : (Jvm.Cond.classLink y.cls i K).before a0 Z = true) (F : Ins Z h a K true) (hd : decode code pc = .ok (.checkcast i, 3)) (hp : pc + 3 = pc') (k : Go l R Z n0 y code ml ret Q cells slots h pc' Ls (.ref a :: st)) : Go l R Z n0 y code ml ret Q cells slots h pc Ls (.ref a :: st) := by
  refine Go.law (P := fun h' => h' = h) (fun C X N eT _ => ?_) (fun h' e => e ▸ k)
  subst hp
  obtain ⟨T', X', e', st⟩ := castY X C.1 C.2.1 C.2.2.1 w eT F (g := mkF _ pc Ls (.ref a :: st)) rfl rfl (hb C.2.2.2.1 hd)
  exact ⟨T', _, h, X', N, e', rfl, st⟩
theorem Go.instY {K : String} {i : Nat} {a : Addr} (w : (Jvm.Cond.classLink y.cls i K).before a0 Z = true) (F : Ins Z h a K true) (hd : decode code pc = .ok (.instanceof i, 3)) (hp : pc + 3 = pc') (k : Go l R Z n0 y code ml ret Q cells slots h pc' Ls (.int 1 :: st)) : Go l R Z n0 y code ml ret Q cells slots h pc Ls (.ref a :: st) := by
  refine Go.law (P := fun h' => h' = h) (fun C X N eT _ => ?_) (fun h' e => e ▸ k)
  subst hp
  obtain ⟨T', X', e', st⟩ := instY X C.1 C.2.1 C.2.2.1 w eT F (g := mkF _ pc Ls (.ref a :: st)) rfl rfl (hb C.2.2.2.1 hd)
  exact ⟨T', _, h, X', N, e', rfl, st⟩
theorem Go.instNo {K C' : String} {i : Nat} {a : Addr} (w : (Jvm.Cond.classLink y.cls i K).before a0 Z = true) (E : Exa Z h a C') (F : ∃ c t, Z.vm.findClass C' = some c ∧ Z.vm.findClass K = some t ∧ Z.vm.assignable c t = false) (hd : decode code pc = .ok (.instanceof i, 3)) (hp : pc + 3 = pc') (k : Go l R Z n0 y code ml ret Q cells slots h pc' Ls (.int 0 :: st)) : Go l R Z n0 y code ml ret Q cells slots h pc Ls (.ref a :: st) := by
  refine Go.law (P := fun h' => h' = h) (fun C X N eT _ => ?_) (fun h' e => e ▸ k)
  subst hp
  obtain ⟨T', X', e', st⟩ := instNo X C.1 C.2.1 C.2.2.1 w eT E F (g := mkF _ pc Ls (.ref a :: st)) rfl rfl (hb C.2.2.2.1 hd)
  exact ⟨T', _, h, X', N, e', rfl, st⟩
theorem Go.castNull {i : Nat} (hd : decode code pc = .ok (.checkcast i, 3)) (hp : pc + 3 = pc') (k : Go l R Z n0 y code ml ret Q cells slots h pc' Ls (.null :: st)) : Go l R Z n0 y code ml ret Q cells slots h pc Ls (.null :: st) := Go.step (fun C X _ q => by subst hp; exact (X.checkcastNull C.1 (g := mkF _ pc Ls (.null :: st)) rfl rfl (hb C.2.2.2.1 hd) _ q)) k
theorem Go.initO {i : Nat} {a : Addr} (w1 : (Jvm.Cond.methodLink y.cls i Lib.objectInit).before a0 Z = true) (w2 : (Jvm.Cond.instanceMethod Lib.objectInit).before a0 Z = true) (w3 : (Jvm.Cond.code Lib.objectInit ⟨#[0xb1]⟩ 1 none).before a0 Z = true) (hd : decode code pc = .ok (.invokespecial i, 3)) (hz : Ls.size = ml) (hf : 1 ≤ R.frames := by decide) (hl : (st.map fun v => v.category).sum + 12 ≤ R.locals := by decide) (hp : pc + 3 = pc') (k : Go l R Z n0 y code ml ret Q cells slots h pc' Ls st) : Go l R Z n0 y code ml ret Q cells slots h pc Ls (.ref a :: st) := by
  refine Go.law (P := fun h' => h' = h) (fun C X N eT _ => ?_) (fun h' e => e ▸ k)
  subst hp
  obtain ⟨T', X', e', st⟩ := initO X C.1 C.2.1 C.2.2.1 w1 w2 w3 eT (g := mkF _ pc Ls (.ref a :: st)) rfl (by rw [C.2.2.2.2.1]; exact hz) rfl (hb C.2.2.2.1 hd) hf (W := (st.map fun v => v.category).sum) (by simp) hl
  exact ⟨T', _, h, X', N, e', rfl, st⟩
theorem Go.getClass {i : Nat} {a mr : Addr} {C' : String} (w1 : (Jvm.Cond.methodLink y.cls i ⟨"java/lang/Object", "getClass", "()Ljava/lang/Class;"⟩).before a0 Z = true) (w2 : (Jvm.Cond.declares ⟨"java/lang/Object", "getClass", "()Ljava/lang/Class;"⟩).before a0 Z = true) (w3 : (Jvm.Cond.noSuperclass "java/lang/Object").before a0 Z = true) (w4 : (Jvm.Cond.selects C' ⟨"java/lang/Object", "getClass", "()Ljava/lang/Class;"⟩ ⟨"java/lang/Object", "getClass", "()Ljava/lang/Class;"⟩).before a0 Z = true) (w5 : (Jvm.Cond.instanceMethod ⟨"java/lang/Object", "getClass", "()Ljava/lang/Class;"⟩).before a0 Z = true) (w6 : (Jvm.Cond.native ⟨"java/lang/Object", "getClass", "()Ljava/lang/Class;"⟩).before a0 Z = true) (E : Exa Z h a C') (M : Mi Z C' mr) (hd : decode code pc = .ok (.invokevirtual i, 3)) (hz : Ls.size = ml) (hf : 1 ≤ R.frames := by decide) (hl : (st.map fun v => v.category).sum + (nativeFrameWords "java/lang/Object" "getClass" 1 + 11) ≤ R.locals := by decide) (hp : pc + 3 = pc') (k : Go l R Z n0 y code ml ret Q cells slots h pc' Ls (.ref mr :: st)) : Go l R Z n0 y code ml ret Q cells slots h pc Ls (.ref a :: st) := by
  refine Go.law (P := fun h' => h' = h) (fun C X N eT _ => ?_) (fun h' e => e ▸ k)
  subst hp
  obtain ⟨cB, kB, i1, i2, i3⟩ := isOf C.2.1 eT E
  obtain ⟨cc, kc, m1, m2, m3⟩ := M.at C.2.1
  cases i1.symm.trans m1
  obtain ⟨vm', X', st⟩ := X.getClassOf C.1 C.2.2.1 (mvT C.2.1 w1) (mvT C.2.1 w2) (nf_top (args := #[]) (mvT C.2.1 w3)) (mvT C.2.1 w4) (mvT C.2.1 w5) (mvT C.2.1 w6) m1 i3 m2 m3 (g := mkF _ pc Ls (.ref a :: st)) rfl (by rw [C.2.2.2.2.1]; exact hz) rfl (hb C.2.2.2.1 hd) hf (by simpa using hl)
  exact ⟨_, _, h, X', N, eT, rfl, st⟩
theorem Go.ldcMirror {i : Nat} {mr : Addr} {C' : String} (w : (Jvm.Cond.classLink y.cls i C').before a0 Z = true) (M : Mi Z C' mr) (hd : decode code pc = .ok (.ldc i, 2)) (hp : pc + 2 = pc') (k : Go l R Z n0 y code ml ret Q cells slots h pc' Ls (.ref mr :: st)) : Go l R Z n0 y code ml ret Q cells slots h pc Ls st := by
  refine Go.law (P := fun h' => h' = h) (fun C X N eT _ => ?_) (fun h' e => e ▸ k)
  subst hp
  obtain ⟨cc, kc, m1, m2, m3⟩ := M.at C.2.1
  obtain ⟨vm', X', st⟩ := X.ldcMirror C.1 C.2.2.1 (mvT C.2.1 w) (a := mr) (by simp [Term.eval, m1, m2, m3]) (g := mkF _ pc Ls st) rfl (hb C.2.2.2.1 hd)
  exact ⟨_, _, h, X', N, eT, rfl, st⟩
theorem Go.putfield {host : String} {R0 O n d : String} {i : Nat} (w : (Jvm.Cond.fieldLink y.cls i R0 n d).before a0 Z = true ∨ (Jvm.Cond.fieldLinkNest y.cls i R0 n d host).before a0 Z = true) {ty : FieldType} {C' : String} {kk : Nat} (via : Via Z R0 O n d) {v old : Value} {a : Addr} (F : Fld Z h a O n d old) (E : Exa Z h a C') (L : (Jvm.Cond.lays C' O n d).before a0 Z = true ∨ ((Jvm.Cond.laysFinal C' O n d).before a0 Z = true ∧ y.cls = O ∧ y.name = "<init>")) (wi : (Jvm.Cond.instantiable C' kk).before a0 Z = true) (hty : parseFieldDescriptor d = some ty) (hn : narrow ty v = v) (hf : fits ty v = true) (ha : n0 ≤ a) (hd : decode code pc = .ok (.putfield i, 3)) (hp : pc + 3 = pc') (k : ∀ h', Wr h h' a (Jvm.RoadKit.slotOf Z O n d) v → Go l R Z n0 y code ml ret Q cells slots h' pc' Ls st) : Go l R Z n0 y code ml ret Q cells slots h pc Ls (v :: .ref a :: st) := by
  refine Go.law (P := fun h' => Wr h h' a (Jvm.RoadKit.slotOf Z O n d) v) (fun C X N eT hn => ?_) (k)
  subst hp
  obtain ⟨T', h', X', e', W, st⟩ := putF X C.1 C.2.1 C.2.2.1 w via eT F E (L.imp id fun q => ⟨q.1, q.2.1, C.2.2.2.2.2.2.2.1.trans q.2.2⟩) wi hty ‹narrow ty v = v› hf (g := mkF _ pc Ls (v :: .ref a :: st)) rfl rfl (hb C.2.2.2.1 hd)
  exact ⟨T', _, h', X', Fr.snoc X' N ha, e', W, st⟩
theorem Go.putfieldN {R0 O n d : String} {i : Nat} (w : (Jvm.Cond.fieldLink y.cls i R0 n d).before a0 Z = true) {ty : FieldType} {C' : String} {kk : Nat} (via : Via Z R0 O n d) {v v' : Int32} {old : Value} {a : Addr} (F : Fld Z h a O n d old) (E : Exa Z h a C') (L : (Jvm.Cond.lays C' O n d).before a0 Z = true ∨ ((Jvm.Cond.laysFinal C' O n d).before a0 Z = true ∧ y.cls = O ∧ y.name = "<init>")) (wi : (Jvm.Cond.instantiable C' kk).before a0 Z = true) (hty : parseFieldDescriptor d = some ty) (hn : narrow ty (.int v) = .int v') (hf : fits ty (.int v') = true) (ha : n0 ≤ a) (hd : decode code pc = .ok (.putfield i, 3)) (hp : pc + 3 = pc') (k : ∀ h', Wr h h' a (Jvm.RoadKit.slotOf Z O n d) (.int v') → Go l R Z n0 y code ml ret Q cells slots h' pc' Ls st) : Go l R Z n0 y code ml ret Q cells slots h pc Ls (.int v :: .ref a :: st) := by
  refine Go.law (P := fun h' => Wr h h' a (Jvm.RoadKit.slotOf Z O n d) (.int v')) (fun C X N eT hn => ?_) (k)
  subst hp
  obtain ⟨T', h', X', e', W, st⟩ := putFN X C.1 C.2.1 C.2.2.1 w via eT F E (L.imp id fun q => ⟨q.1, q.2.1, C.2.2.2.2.2.2.2.1.trans q.2.2⟩) wi hty ‹narrow ty (.int v) = .int v'› hf (g := mkF _ pc Ls (.int v :: .ref a :: st)) rfl rfl (hb C.2.2.2.1 hd)
  exact ⟨T', _, h', X', Fr.snoc X' N ha, e', W, st⟩
theorem Go.new {C' : String} {i n cells' slots' : Nat} (w : (Jvm.Cond.classLink y.cls i C').before a0 Z = true) (wi : (Jvm.Cond.instantiable C' n).before a0 Z = true) (wz : (Jvm.Cond.initialized C').before a0 Z = true) (hd : decode code pc = .ok (.new i, 3)) (hc' : cells + 1 = cells') (hs' : slots + n = slots') (hc : cells' ≤ R.cells := by decide) (hl : slots' ≤ R.slots := by decide) (hp : pc + 3 = pc') (k : ∀ (h' : Heap) (b : Addr), b = h.size → Ext h h' → n0 ≤ b → Exa Z h' b C' → (∀ {O nm d : String} {ty : FieldType}, Laid Z a0 C' O nm d → parseFieldDescriptor d = some ty → Fld Z h' b O nm d (defaultValue ty)) → Go l R Z n0 y code ml ret Q cells' slots' h' pc' Ls (.ref b :: st)) : Go l R Z n0 y code ml ret Q cells slots h pc Ls st := by
  refine Go.law (P := fun h' => (Ext h h' ∧ n0 ≤ h.size ∧ Exa Z h' h.size C' ∧ ∀ {O nm d : String} {ty : FieldType}, Laid Z a0 C' O nm d → parseFieldDescriptor d = some ty → Fld Z h' h.size O nm d (defaultValue ty))) (fun C X N eT hn => ?_) (fun h' q => k h' h.size rfl q.1 q.2.1 q.2.2.1 q.2.2.2)
  subst hp
  subst hc' hs'
  obtain ⟨T', h', X', e', E, A, D, -, st⟩ := newO X C.1 C.2.1 C.2.2.1 w wi wz eT (g := mkF _ pc Ls st) rfl (hb C.2.2.2.1 hd) hc hl
  exact ⟨T', _, h', X', N, e', ⟨E, hn, A, D⟩, st⟩
theorem Go.newarray {aty : ArrayType} {ad : String} {n : Int32} {cap cells' slots' : Nat} (w : (Jvm.Cond.arrayClass (newarray.typeOf aty)).before a0 Z = true) (hd : decode code pc = .ok (.newarray aty, 2)) (had : "[" ++ (newarray.typeOf aty).toString = ad) (hn' : ¬ n < 0) (hcap : n.toNatClampNeg ≤ cap) (hc' : cells + 1 = cells') (hs' : slots + cap = slots') (hb8 : cap * 8 ≤ 536870912 := by decide) (hc : cells' ≤ R.cells := by decide) (hl : slots' ≤ R.slots := by decide) (hp : pc + 2 = pc') (k : ∀ (h' : Heap) (b : Addr), b = h.size → Ext h h' → n0 ≤ b → ∀ cA, Arv Z h' b cA (newarray.typeOf aty) n [] (defaultValue (newarray.typeOf aty)) → Exa Z h' b ad → Go l R Z n0 y code ml ret Q cells' slots' h' pc' Ls (.ref b :: st)) : Go l R Z n0 y code ml ret Q cells slots h pc Ls (.int n :: st) := by
  refine Go.law (P := fun h' => (Ext h h' ∧ n0 ≤ h.size ∧ ∃ cA, Arv Z h' h.size cA (newarray.typeOf aty) n [] (defaultValue (newarray.typeOf aty)) ∧ Exa Z h' h.size ad)) (fun C X N eT hn => ?_) (fun h' q => q.2.2.elim fun cA u => k h' h.size rfl q.1 q.2.1 cA u.1 u.2)
  subst hp
  subst hc' hs'
  obtain ⟨T', h', cA, X', e', E, A, A2, st⟩ := newPE X C.1 C.2.1 w eT (g := mkF _ pc Ls (.int n :: st)) rfl (hb C.2.2.2.1 hd) rfl hn' hcap hb8 hc hl had
  exact ⟨T', _, h', X', N, e', ⟨E, hn, cA, Arv.new A hn', A2⟩, st⟩
theorem Go.anewarray {C' ad : String} {i : Nat} {n : Int32} {cap cells' slots' : Nat} (w : (Jvm.Cond.classLink y.cls i C').before a0 Z = true) (w2 : (Jvm.Cond.arrayOver (.object C')).before a0 Z = true) (hd : decode code pc = .ok (.anewarray i, 3)) (had : "[" ++ (FieldType.object C').toString = ad) (hn' : ¬ n < 0) (hcap : n.toNatClampNeg ≤ cap) (hc' : cells + 1 = cells') (hs' : slots + cap = slots') (hb8 : cap * 8 ≤ 536870912 := by decide) (hc : cells' ≤ R.cells := by decide) (hl : slots' ≤ R.slots := by decide) (hp : pc + 3 = pc') (k : ∀ (h' : Heap) (b : Addr), b = h.size → Ext h h' → n0 ≤ b → ∀ cA, Arv Z h' b cA (.object C') n [] .null → Exa Z h' b ad → Ovr Z cA C' → Go l R Z n0 y code ml ret Q cells' slots' h' pc' Ls (.ref b :: st)) : Go l R Z n0 y code ml ret Q cells slots h pc Ls (.int n :: st) := by
  refine Go.law (P := fun h' => (Ext h h' ∧ n0 ≤ h.size ∧ ∃ cA, Arv Z h' h.size cA (.object C') n [] .null ∧ Exa Z h' h.size ad ∧ Ovr Z cA C')) (fun C X N eT hn => ?_) (fun h' q => q.2.2.elim fun cA u => k h' h.size rfl q.1 q.2.1 cA u.1 u.2.1 u.2.2)
  subst hp
  subst hc' hs'
  obtain ⟨T', h', cA, X', e', E, A, A2, O, st⟩ := newRE X C.1 C.2.1 C.2.2.1 w w2 eT (g := mkF _ pc Ls (.int n :: st)) rfl (hb C.2.2.2.1 hd) rfl hn' hcap hb8 hc hl had
  exact ⟨T', _, h', X', N, e', ⟨E, hn, cA, Arv.new A hn', A2, O⟩, st⟩
theorem Go.arraycopy {i : Nat} {a b : Addr} {kA kB : ClassId} {ty ty' : FieldType} {z z' sp dp nn : Int32} {vs vd us vd' : List Value} {dv dd : Value} (w1 : (Jvm.Cond.methodLink y.cls i Jvm.Stand.acN).before a0 Z = true) (w2 : (Jvm.Cond.native Jvm.Stand.acN).before a0 Z = true) (w3 : (Jvm.Cond.static Jvm.Stand.acN).before a0 Z = true) (w4 : (Jvm.Cond.initialized "java/lang/System").before a0 Z = true)
    (A : Arv Z h a kA ty z vs dv) (B : Arv Z h b kB ty' z' vd dd) (hty : (ty = ty' ∧ refKind ty = false) ∨ (refKind ty = true ∧ refKind ty' = true ∧ StoL Z h b us)) (h1 : ¬ sp < 0) (h2 : ¬ dp < 0) (h3 : ¬ nn < 0) (h4 : sp.toNatClampNeg + nn.toNatClampNeg ≤ z.toNatClampNeg) (h5 : dp.toNatClampNeg + nn.toNatClampNeg ≤ z'.toNatClampNeg)
    (hus : us = (List.range nn.toNatClampNeg).map fun i => vs.getD (sp.toNatClampNeg + i) dv) (hl : dp.toNatClampNeg + nn.toNatClampNeg ≤ vd.length) (hvd : vd.take dp.toNatClampNeg ++ us ++ vd.drop (dp.toNatClampNeg + nn.toNatClampNeg) = vd') (ge : n0 ≤ b) (hd : decode code pc = .ok (.invokestatic i, 3)) (hz : Ls.size = ml) (hf : 1 ≤ R.frames := by decide) (hlo : (st.map fun v => v.category).sum + (nativeFrameWords "java/lang/System" "arraycopy" 5 + 11) ≤ R.locals := by decide) (hp : pc + 3 = pc')
    (k : ∀ h', Keep h h' [b] → Arv Z h' b kB ty' z' vd' dd → Go l R Z n0 y code ml ret Q cells slots h' pc' Ls st) : Go l R Z n0 y code ml ret Q cells slots h pc Ls (.int nn :: .int dp :: .ref b :: .int sp :: .ref a :: st) := by
  refine Go.law (P := fun h' => Keep h h' [b] ∧ Arv Z h' b kB ty' z' vd' dd) (fun C X N eT hn => ?_) (fun h' q => k h' q.1 q.2)
  subst hp hvd
  obtain ⟨T', h', L, X', e', N', K, V, st⟩ := cpA X C.1 C.2.1 C.2.2.1 w1 w2 w3 w4 eT A B hty h1 h2 h3 h4 h5 hus hl N ge (g := mkF _ pc Ls (.int nn :: .int dp :: .ref b :: .int sp :: .ref a :: st)) rfl (by rw [C.2.2.2.2.1]; exact hz) rfl (hb C.2.2.2.1 hd) hf (W := (st.map fun v => v.category).sum) (by simp) hlo
  exact ⟨T', L, h', X', N', e', ⟨K, V⟩, st⟩
theorem Go.iastore {a : Addr} {kA : ClassId} {z j : Int32} {vs : List Value} {dv : Value} {v : Int32} {i : Nat} (F : Arv Z h a kA .int z vs dv) (ha : n0 ≤ a) (hd : decode code pc = .ok (.iastore, 1)) (hj : ¬ j < 0) (hjz : j < z) (hi : j.toNatClampNeg = i) (hil : i < vs.length) (hp : pc + 1 = pc') (k : ∀ h', Wr h h' a i (.int v) → Arv Z h' a kA .int z (vs.set i (.int v)) dv → Go l R Z n0 y code ml ret Q cells slots h' pc' Ls st) : Go l R Z n0 y code ml ret Q cells slots h pc Ls (.int v :: .int j :: .ref a :: st) := by
  refine Go.law (P := fun h' => (Wr h h' a i (.int v) ∧ Arv Z h' a kA .int z (vs.set i (.int v)) dv)) (fun C X N eT hn => ?_) (fun h' q => k h' q.1 q.2)
  subst hp
  obtain ⟨cl, A, q1, S, q3, H, G⟩ := F
  obtain ⟨T', h', X', e', W, st⟩ := stI X C.1 C.2.1 eT A (j := j) (inb_of S ⟨hj, hjz⟩) (g := mkF _ pc Ls (.int v :: .int j :: .ref a :: st)) rfl rfl (hb C.2.2.2.1 hd)
  have V := Arv.set A q1 S q3 H G rfl W i hi hil
  subst hi
  exact ⟨T', _, h', X', Fr.snoc X' N ha, e', ⟨W, V⟩, st⟩
theorem Go.lastore {a : Addr} {kA : ClassId} {z j : Int32} {vs : List Value} {dv : Value} {v : Int64} {i : Nat} (F : Arv Z h a kA .long z vs dv) (ha : n0 ≤ a) (hd : decode code pc = .ok (.lastore, 1)) (hj : ¬ j < 0) (hjz : j < z) (hi : j.toNatClampNeg = i) (hil : i < vs.length) (hp : pc + 1 = pc') (k : ∀ h', Wr h h' a i (.long v) → Arv Z h' a kA .long z (vs.set i (.long v)) dv → Go l R Z n0 y code ml ret Q cells slots h' pc' Ls st) : Go l R Z n0 y code ml ret Q cells slots h pc Ls (.long v :: .int j :: .ref a :: st) := by
  refine Go.law (P := fun h' => (Wr h h' a i (.long v) ∧ Arv Z h' a kA .long z (vs.set i (.long v)) dv)) (fun C X N eT hn => ?_) (fun h' q => k h' q.1 q.2)
  subst hp
  obtain ⟨cl, A, q1, S, q3, H, G⟩ := F
  obtain ⟨T', h', X', e', W, st⟩ := stJ X C.1 C.2.1 eT A (j := j) (inb_of S ⟨hj, hjz⟩) (g := mkF _ pc Ls (.long v :: .int j :: .ref a :: st)) rfl rfl (hb C.2.2.2.1 hd)
  have V := Arv.set A q1 S q3 H G rfl W i hi hil
  subst hi
  exact ⟨T', _, h', X', Fr.snoc X' N ha, e', ⟨W, V⟩, st⟩
theorem Go.castore {a : Addr} {kA : ClassId} {z j : Int32} {vs : List Value} {dv : Value} {v : Int32} {i : Nat} (F : Arv Z h a kA .char z vs dv) (ha : n0 ≤ a) (hd : decode code pc = .ok (.castore, 1)) (hj : ¬ j < 0) (hjz : j < z) (hi : j.toNatClampNeg = i) (hil : i < vs.length) (hp : pc + 1 = pc') (k : ∀ h', Wr h h' a i (.int (nar .char v)) → Arv Z h' a kA .char z (vs.set i (.int (nar .char v))) dv → Go l R Z n0 y code ml ret Q cells slots h' pc' Ls st) : Go l R Z n0 y code ml ret Q cells slots h pc Ls (.int v :: .int j :: .ref a :: st) := by
  refine Go.law (P := fun h' => (Wr h h' a i (.int (nar .char v)) ∧ Arv Z h' a kA .char z (vs.set i (.int (nar .char v))) dv)) (fun C X N eT hn => ?_) (fun h' q => k h' q.1 q.2)
  subst hp
  obtain ⟨cl, A, q1, S, q3, H, G⟩ := F
  obtain ⟨T', h', X', e', W, st⟩ := stC X C.1 C.2.1 eT A (j := j) (inb_of S ⟨hj, hjz⟩) (g := mkF _ pc Ls (.int v :: .int j :: .ref a :: st)) rfl rfl (hb C.2.2.2.1 hd)
  have V := Arv.set A q1 S q3 H G (fits_nar_char v) W i hi hil
  subst hi
  exact ⟨T', _, h', X', Fr.snoc X' N ha, e', ⟨W, V⟩, st⟩
theorem Go.bastore {a : Addr} {kA : ClassId} {z j : Int32} {vs : List Value} {dv : Value} {v : Int32} {i : Nat} (F : Arv Z h a kA .byte z vs dv) (ha : n0 ≤ a) (hd : decode code pc = .ok (.bastore, 1)) (hj : ¬ j < 0) (hjz : j < z) (hi : j.toNatClampNeg = i) (hil : i < vs.length) (hp : pc + 1 = pc') (k : ∀ h', Wr h h' a i (.int v.toInt8.toInt32) → Arv Z h' a kA .byte z (vs.set i (.int v.toInt8.toInt32)) dv → Go l R Z n0 y code ml ret Q cells slots h' pc' Ls st) : Go l R Z n0 y code ml ret Q cells slots h pc Ls (.int v :: .int j :: .ref a :: st) := by
  refine Go.law (P := fun h' => (Wr h h' a i (.int v.toInt8.toInt32) ∧ Arv Z h' a kA .byte z (vs.set i (.int v.toInt8.toInt32)) dv)) (fun C X N eT hn => ?_) (fun h' q => k h' q.1 q.2)
  subst hp
  obtain ⟨cl, A, q1, S, q3, H, G⟩ := F
  obtain ⟨T', h', X', e', W, st⟩ := stB X C.1 C.2.1 eT A (j := j) (inb_of S ⟨hj, hjz⟩) (g := mkF _ pc Ls (.int v :: .int j :: .ref a :: st)) rfl rfl (hb C.2.2.2.1 hd)
  have V := Arv.set A q1 S q3 H G (fits_nar_byte v) W i hi hil
  subst hi
  exact ⟨T', _, h', X', Fr.snoc X' N ha, e', ⟨W, V⟩, st⟩
theorem Go.aastore {a : Addr} {kA : ClassId} {ty : FieldType} {z j : Int32} {vs : List Value} {dv v : Value} {i : Nat} (F : Arv Z h a kA ty z vs dv) (ha : n0 ≤ a) (hty : ty.isReference = true) (hfit : fits ty v = true) (Fs : Sto Z h a v) (hd : decode code pc = .ok (.aastore, 1)) (hj : ¬ j < 0) (hjz : j < z) (hi : j.toNatClampNeg = i) (hil : i < vs.length) (hp : pc + 1 = pc') (k : ∀ h', Wr h h' a i v → Arv Z h' a kA ty z (vs.set i v) dv → Go l R Z n0 y code ml ret Q cells slots h' pc' Ls st) : Go l R Z n0 y code ml ret Q cells slots h pc Ls (v :: .int j :: .ref a :: st) := by
  refine Go.law (P := fun h' => (Wr h h' a i v ∧ Arv Z h' a kA ty z (vs.set i v) dv)) (fun C X N eT hn => ?_) (fun h' q => k h' q.1 q.2)
  subst hp
  obtain ⟨cl, A, q1, S, q3, H, G⟩ := F
  obtain ⟨T', h', X', e', W, st⟩ := stR X C.1 C.2.1 eT A (j := j) (inb_of S ⟨hj, hjz⟩) hty Fs (g := mkF _ pc Ls (v :: .int j :: .ref a :: st)) rfl rfl (hb C.2.2.2.1 hd)
  have V := Arv.set A q1 S q3 H G hfit W i hi hil
  subst hi
  exact ⟨T', _, h', X', Fr.snoc X' N ha, e', ⟨W, V⟩, st⟩
theorem Go.iaload {a : Addr} {kA : ClassId} {z j : Int32} {vs : List Value} {dv : Value} {v : Int32} (F : Arv Z h a kA .int z vs dv) (hd : decode code pc = .ok (.iaload, 1)) (hj : ¬ j < 0) (hjz : j < z) (hv : vs.getD j.toNatClampNeg dv = .int v) (hp : pc + 1 = pc') (k : Go l R Z n0 y code ml ret Q cells slots h pc' Ls (.int v :: st)) : Go l R Z n0 y code ml ret Q cells slots h pc Ls (.int j :: .ref a :: st) := by
  refine Go.step (fun C X eT q => ?_) k
  subst hp
  obtain ⟨cl, A, q1, S, q3, H, G⟩ := F
  have hin := inb_of S ⟨hj, hjz⟩
  exact X.iaload C.1 (j := j) (v := .int v) (by rw [eT]; exact A.1) (State.isArrayOf_alike C.2.1.alike A.2.1) A.2.2 hin (Has.at H hin hv) (g := mkF _ pc Ls (.int j :: .ref a :: st)) rfl rfl (hb C.2.2.2.1 hd) _ q
theorem Go.laload {a : Addr} {kA : ClassId} {z j : Int32} {vs : List Value} {dv : Value} {v : Int64} (F : Arv Z h a kA .long z vs dv) (hd : decode code pc = .ok (.laload, 1)) (hj : ¬ j < 0) (hjz : j < z) (hv : vs.getD j.toNatClampNeg dv = .long v) (hp : pc + 1 = pc') (k : Go l R Z n0 y code ml ret Q cells slots h pc' Ls (.long v :: st)) : Go l R Z n0 y code ml ret Q cells slots h pc Ls (.int j :: .ref a :: st) := by
  refine Go.step (fun C X eT q => ?_) k
  subst hp
  obtain ⟨cl, A, q1, S, q3, H, G⟩ := F
  have hin := inb_of S ⟨hj, hjz⟩
  exact X.laload C.1 (j := j) (v := .long v) (by rw [eT]; exact A.1) (State.isArrayOf_alike C.2.1.alike A.2.1) A.2.2 hin (Has.at H hin hv) (g := mkF _ pc Ls (.int j :: .ref a :: st)) rfl rfl (hb C.2.2.2.1 hd) _ q
theorem Go.caload {a : Addr} {kA : ClassId} {z j : Int32} {vs : List Value} {dv : Value} {v : Int32} (F : Arv Z h a kA .char z vs dv) (hd : decode code pc = .ok (.caload, 1)) (hj : ¬ j < 0) (hjz : j < z) (hv : vs.getD j.toNatClampNeg dv = .int v) (hp : pc + 1 = pc') (k : Go l R Z n0 y code ml ret Q cells slots h pc' Ls (.int v :: st)) : Go l R Z n0 y code ml ret Q cells slots h pc Ls (.int j :: .ref a :: st) := by
  refine Go.step (fun C X eT q => ?_) k
  subst hp
  obtain ⟨cl, A, q1, S, q3, H, G⟩ := F
  have hin := inb_of S ⟨hj, hjz⟩
  exact X.caload C.1 (j := j) (v := .int v) (by rw [eT]; exact A.1) (State.isArrayOf_alike C.2.1.alike A.2.1) A.2.2 hin (Has.at H hin hv) (g := mkF _ pc Ls (.int j :: .ref a :: st)) rfl rfl (hb C.2.2.2.1 hd) _ q
theorem Go.baload {a : Addr} {kA : ClassId} {z j : Int32} {vs : List Value} {dv : Value} {v : Int32} (F : Arv Z h a kA .byte z vs dv) (hd : decode code pc = .ok (.baload, 1)) (hj : ¬ j < 0) (hjz : j < z) (hv : vs.getD j.toNatClampNeg dv = .int v) (hp : pc + 1 = pc') (k : Go l R Z n0 y code ml ret Q cells slots h pc' Ls (.int v :: st)) : Go l R Z n0 y code ml ret Q cells slots h pc Ls (.int j :: .ref a :: st) := by
  refine Go.step (fun C X eT q => ?_) k
  subst hp
  obtain ⟨cl, A, q1, S, q3, H, G⟩ := F
  have hin := inb_of S ⟨hj, hjz⟩
  exact X.baloadBytes C.1 (j := j) (v := .int v) (by rw [eT]; exact A.1) (State.isArrayOf_alike C.2.1.alike A.2.1) A.2.2 hin (Has.at H hin hv) (g := mkF _ pc Ls (.int j :: .ref a :: st)) rfl rfl (hb C.2.2.2.1 hd) _ q
theorem Go.aaload {a : Addr} {kA : ClassId} {z j : Int32} {vs : List Value} {dv : Value} {v : Value} {ty : FieldType} (F : Arv Z h a kA ty z vs dv) (hty : ty.isReference = true) (hd : decode code pc = .ok (.aaload, 1)) (hj : ¬ j < 0) (hjz : j < z) (hv : vs.getD j.toNatClampNeg dv = v) (hp : pc + 1 = pc') (k : Go l R Z n0 y code ml ret Q cells slots h pc' Ls (v :: st)) : Go l R Z n0 y code ml ret Q cells slots h pc Ls (.int j :: .ref a :: st) := by
  refine Go.step (fun C X eT q => ?_) k
  subst hp
  obtain ⟨cl, A, q1, S, q3, H, G⟩ := F
  have hin := inb_of S ⟨hj, hjz⟩
  exact X.aaload C.1 (j := j) (v := v) (by rw [eT]; exact A.1) (State.isArrayOf_alike C.2.1.alike A.2.1) hty A.2.2 hin (Has.at H hin hv) (g := mkF _ pc Ls (.int j :: .ref a :: st)) rfl rfl (hb C.2.2.2.1 hd) _ q
theorem Go.arraylength {a : Addr} {kA : ClassId} {ty : FieldType} {z : Int32} {vs : List Value} {dv : Value} (F : Arv Z h a kA ty z vs dv) (hd : decode code pc = .ok (.arraylength, 1)) (hp : pc + 1 = pc') (k : Go l R Z n0 y code ml ret Q cells slots h pc' Ls (.int z :: st)) : Go l R Z n0 y code ml ret Q cells slots h pc Ls (.ref a :: st) := by
  refine Go.step (fun C X eT q => ?_) k
  subst hp
  obtain ⟨cl, A, q1, S, q3, H, G⟩ := F
  refine X.arraylength C.1 (by rw [eT]; exact A.1) (State.isArrayOf_alike C.2.1.alike A.2.1) (g := mkF _ pc Ls (.ref a :: st)) rfl rfl (hb C.2.2.2.1 hd) _ ?_
  rw [len_of S q3]
  exact q
theorem Go.retV (hr : ret = none) (hd : decode code pc = .ok (.return_, 1)) (hq : Q none h) (hc : cells ≤ R.cells := by decide) (hs : slots ≤ R.slots := by decide) : Go l R Z n0 y code ml ret Q cells slots h pc Ls [] := by
  intro p e s m args below meth c T locs C X N eT
  obtain ⟨fs, hr', hrun, hended, hW, hsame⟩ := X.leave (v := none) (fun _ => rfl) C.2.2.2.2.2.2.1
  refine ⟨_, _, X.returnOut C.1 (C.2.2.2.2.2.1.trans hr) (hb C.2.2.2.1 hd) hr', hrun, hended, _, locs, rfl, ⟨?_, N⟩, ⟨_, rfl⟩, hW, hsame.mono hc hs⟩
  show Q _ T.heap
  rw [eT]; exact hq
theorem Go.retN {t : FieldType} {v : Int32} (hr : ret = some t) (ht : t = .boolean ∨ t = .byte ∨ t = .char ∨ t = .short) (hd : decode code pc = .ok (.ireturn, 1)) (hq : Q (some (.int (nar t v))) h) (hc : cells ≤ R.cells := by decide) (hs : slots ≤ R.slots := by decide) : Go l R Z n0 y code ml ret Q cells slots h pc Ls (.int v :: st) := by
  intro p e s m args below meth c T locs C X N eT
  obtain ⟨fs, hr', hrun, hended, hW, hsame⟩ := X.leave (v := some (.int (nar t v))) (fun q => by rw [C.2.2.2.2.2.1, hr] at q; cases q) C.2.2.2.2.2.2.1
  refine ⟨_, _, Jvm.RoadKit.retN X C.1 (C.2.2.2.2.2.1.trans hr) ht (hb C.2.2.2.1 hd) hr', hrun, hended, _, locs, rfl, ⟨?_, N⟩, ⟨_, rfl⟩, hW, hsame.mono hc hs⟩
  show Q _ T.heap
  rw [eT]; exact hq
theorem Go.retI {v : Int32} (hr : ret = some .int) (hd : decode code pc = .ok (.ireturn, 1)) (hq : Q (some (.int v)) h) (hc : cells ≤ R.cells := by decide) (hs : slots ≤ R.slots := by decide) : Go l R Z n0 y code ml ret Q cells slots h pc Ls (.int v :: st) := by
  intro p e s m args below meth c T locs C X N eT
  obtain ⟨fs, hr', hrun, hended, hW, hsame⟩ := X.leave (v := some (.int v)) (fun q => by rw [C.2.2.2.2.2.1, hr] at q; cases q) C.2.2.2.2.2.2.1
  refine ⟨_, _, retOut X C.1 (C.2.2.2.2.2.1.trans hr) rfl (Or.inl ⟨rfl, Or.inl rfl, _, rfl⟩) (hb C.2.2.2.1 hd) hr', hrun, hended, _, locs, rfl, ⟨?_, N⟩, ⟨_, rfl⟩, hW, hsame.mono hc hs⟩
  show Q _ T.heap
  rw [eT]; exact hq
theorem Go.retJ {v : Int64} (hr : ret = some .long) (hd : decode code pc = .ok (.lreturn, 1)) (hq : Q (some (.long v)) h) (hc : cells ≤ R.cells := by decide) (hs : slots ≤ R.slots := by decide) : Go l R Z n0 y code ml ret Q cells slots h pc Ls (.long v :: st) := by
  intro p e s m args below meth c T locs C X N eT
  obtain ⟨fs, hr', hrun, hended, hW, hsame⟩ := X.leave (v := some (.long v)) (fun q => by rw [C.2.2.2.2.2.1, hr] at q; cases q) C.2.2.2.2.2.2.1
  refine ⟨_, _, retOut X C.1 (C.2.2.2.2.2.1.trans hr) rfl (Or.inr (Or.inl ⟨rfl, rfl, _, rfl⟩)) (hb C.2.2.2.1 hd) hr', hrun, hended, _, locs, rfl, ⟨?_, N⟩, ⟨_, rfl⟩, hW, hsame.mono hc hs⟩
  show Q _ T.heap
  rw [eT]; exact hq
theorem Go.retR {t : FieldType} {v : Value} (hr : ret = some t) (ht : t.isReference = true) (hv : v.isRef = true) (hn : narrow t v = v) (hd : decode code pc = .ok (.areturn, 1)) (hq : Q (some v) h) (hc : cells ≤ R.cells := by decide) (hs : slots ≤ R.slots := by decide) : Go l R Z n0 y code ml ret Q cells slots h pc Ls (v :: st) := by
  intro p e s m args below meth c T locs C X N eT
  obtain ⟨fs, hr', hrun, hended, hW, hsame⟩ := X.leave (v := some v) (fun q => by rw [C.2.2.2.2.2.1, hr] at q; cases q) C.2.2.2.2.2.2.1
  refine ⟨_, _, retOut X C.1 (C.2.2.2.2.2.1.trans hr) hn (Or.inr (Or.inr (Or.inr (Or.inr ⟨rfl, ht, hv⟩)))) (hb C.2.2.2.1 hd) hr', hrun, hended, _, locs, rfl, ⟨?_, N⟩, ⟨_, rfl⟩, hW, hsame.mono hc hs⟩
  show Q _ T.heap
  rw [eT]; exact hq
theorem Go.callS {z : MethodName} {zc : ByteArray} {zm : Nat} {zr : Option FieldType} {rm : Room} {Q' : Option Value → Heap → Prop} {cells' slots' i : Nat} (argsL rest : List Value) {ps : List FieldType} {r : Option FieldType} (w1 : (Jvm.Cond.methodLink y.cls i z).before a0 Z = true) (w2 : (Jvm.Cond.static z).before a0 Z = true) (wi : (Jvm.Cond.initialized z.cls).before a0 Z = true) (wc : (Jvm.Cond.code z zc zm zr).before a0 Z = true) (hy : z.cls ≠ "java/lang/invoke/MethodHandle" ∧ z.cls ≠ "java/lang/invoke/VarHandle") (hK : Con l z zc zm zr rm Z n0 argsL.toArray h Q') (hpd : parseMethodDescriptor z.desc = some ⟨ps, r⟩) (hlen : argsL.length = ps.length) (hst : st = argsL.reverse ++ rest) (hz : Ls.size = ml) (hc' : cells + rm.cells = cells') (hs' : slots + rm.slots = slots') (hfr : rm.frames + 1 ≤ R.frames := by decide) (hlo : (rest.map fun v => v.category).sum + (zm + 11) + rm.locals ≤ R.locals := by decide) (hc : cells' ≤ R.cells := by decide) (hs : slots' ≤ R.slots := by decide) (hd : decode code pc = .ok (.invokestatic i, 3)) (hp : pc + 3 = pc')
    (k : ∀ v h', Q' v h' → Go l R Z n0 y code ml ret Q cells' slots' h' pc' Ls (v.toList ++ rest)) : Go l R Z n0 y code ml ret Q cells slots h pc Ls st := by
  intro p e s m args below meth c T locs C X N eT
  subst hc' hs' hp hst
  have hold : Old Z n0 h := own_old C.2.2.2.2.2.2.2.2 X N eT
  obtain ⟨v, _, ⟨T', L', k', n'⟩, -, X', ⟨Lc, hQ, l', y', z'⟩, st⟩ := Jvm.LawKit.callS X C.1 (y := z) C.2.2.1 (mvT C.2.1 w1) (mvT C.2.1 w2) (mvT C.2.1 wi) (mvT C.2.1 wc) hy (backOf (W := (rest.map fun v => v.category).sum) (Q := fun v h L => Q' v h ∧ Fr n0 L) (hK hold []) C.2.1 wc wi hfr hlo) (g := mkF m pc Ls (argsL.reverse ++ rest)) rfl (by rw [C.2.2.2.2.1]; exact hz) (argsL := argsL) (rest := rest) (lenOf hpd hlen) rfl (by simp) (hb C.2.2.2.1 hd) (fun _ _ => ⟨rfl, eT, hc, hs⟩)
  dsimp only [Pt.U, Pt.locs, Pt.cells, Pt.slots] at X' l' y' z' st hQ
  subst l' y' z'
  obtain ⟨s₂, o, h1, h2⟩ := k v _ hQ.1 p e s m args below meth c T' _ C X' (Fr.app N hQ.2) rfl
  exact ⟨s₂, o, st _ h1, h2⟩
theorem Go.callC {z : MethodName} {zc : ByteArray} {zm : Nat} {zr : Option FieldType} {rm : Room} {Q' : Option Value → Heap → Prop} {cells' slots' i : Nat} (argsL rest : List Value) {ps : List FieldType} {r : Option FieldType} {a : Addr} (hzi : z.name = "<init>") (hzr : zr = none) (w1 : (Jvm.Cond.methodLink y.cls i z).before a0 Z = true) (w2 : (Jvm.Cond.instanceMethod z).before a0 Z = true) (wi : (Jvm.Cond.initialized z.cls).before a0 Z = true) (wc : (Jvm.Cond.code z zc zm zr).before a0 Z = true) (hy : z.cls ≠ "java/lang/invoke/MethodHandle" ∧ z.cls ≠ "java/lang/invoke/VarHandle") (hK : Con l z zc zm zr rm Z n0 (.ref a :: argsL).toArray h Q') (hpd : parseMethodDescriptor z.desc = some ⟨ps, r⟩) (hlen : argsL.length = ps.length) (hst : st = argsL.reverse ++ .ref a :: rest) (hz : Ls.size = ml) (hc' : cells + rm.cells = cells') (hs' : slots + rm.slots = slots') (hfr : rm.frames + 1 ≤ R.frames := by decide) (hlo : (rest.map fun v => v.category).sum + (zm + 11) + rm.locals ≤ R.locals := by decide) (hc : cells' ≤ R.cells := by decide) (hs : slots' ≤ R.slots := by decide) (hd : decode code pc = .ok (.invokespecial i, 3)) (hp : pc + 3 = pc')
    (k : ∀ v h', Q' v h' → Go l R Z n0 y code ml ret Q cells' slots' h' pc' Ls (v.toList ++ rest)) : Go l R Z n0 y code ml ret Q cells slots h pc Ls st := by
  intro p e s m args below meth c T locs C X N eT
  subst hc' hs' hp hst
  have hold : Old Z n0 h := own_old C.2.2.2.2.2.2.2.2 X N eT
  subst hzr
  obtain ⟨v, _, ⟨T', L', k', n'⟩, -, X', ⟨Lc, hQ, l', y', z'⟩, st⟩ := X.specialBack C.1 (y := z) hzi C.2.2.1 (mvT C.2.1 w1) (mvT C.2.1 w2) (mvT C.2.1 wc) hy (backOf (W := (rest.map fun v => v.category).sum) (Q := fun v h L => Q' v h ∧ Fr n0 L) (hK hold []) C.2.1 wc wi hfr hlo) (g := mkF m pc Ls (argsL.reverse ++ .ref a :: rest)) rfl (by rw [C.2.2.2.2.1]; exact hz) (Steps.refl _) (a := a) (argsL := argsL) (rest := rest) (lenOf hpd hlen) rfl (by simp) (hb C.2.2.2.1 hd) (fun _ _ => ⟨rfl, eT, hc, hs⟩)
  dsimp only [Pt.U, Pt.locs, Pt.cells, Pt.slots] at X' l' y' z' st hQ
  subst l' y' z'
  obtain ⟨s₂, o, h1, h2⟩ := k v _ hQ.1 p e s m args below meth c T' _ C X' (Fr.app N hQ.2) rfl
  exact ⟨s₂, o, st.trans h1, h2⟩
theorem Go.callCN {z : MethodName} {zc : ByteArray} {zm : Nat} {zr : Option FieldType} {rm : Room} {Q' : Option Value → Heap → Prop} {cells' slots' i : Nat} (argsL rest : List Value) {ps : List FieldType} {r : Option FieldType} {a : Addr} {host : String} (hzi : z.name = "<init>") (hzr : zr = none) (w1 : (Jvm.Cond.methodLinkNest y.cls i z host).before a0 Z = true) (w2 : (Jvm.Cond.instanceMethod z).before a0 Z = true) (wi : (Jvm.Cond.initialized z.cls).before a0 Z = true) (wc : (Jvm.Cond.code z zc zm zr).before a0 Z = true) (hy : z.cls ≠ "java/lang/invoke/MethodHandle" ∧ z.cls ≠ "java/lang/invoke/VarHandle") (hK : Con l z zc zm zr rm Z n0 (.ref a :: argsL).toArray h Q') (hpd : parseMethodDescriptor z.desc = some ⟨ps, r⟩) (hlen : argsL.length = ps.length) (hst : st = argsL.reverse ++ .ref a :: rest) (hz : Ls.size = ml) (hc' : cells + rm.cells = cells') (hs' : slots + rm.slots = slots') (hfr : rm.frames + 1 ≤ R.frames := by decide) (hlo : (rest.map fun v => v.category).sum + (zm + 11) + rm.locals ≤ R.locals := by decide) (hc : cells' ≤ R.cells := by decide) (hs : slots' ≤ R.slots := by decide) (hd : decode code pc = .ok (.invokespecial i, 3)) (hp : pc + 3 = pc')
    (k : ∀ v h', Q' v h' → Go l R Z n0 y code ml ret Q cells' slots' h' pc' Ls (v.toList ++ rest)) : Go l R Z n0 y code ml ret Q cells slots h pc Ls st := by
  intro p e s m args below meth c T locs C X N eT
  subst hc' hs' hp hst
  have hold : Old Z n0 h := own_old C.2.2.2.2.2.2.2.2 X N eT
  subst hzr
  obtain ⟨v, _, ⟨T', L', k', n'⟩, -, X', ⟨Lc, hQ, l', y', z'⟩, st⟩ := X.specialBackNest C.1 (y := z) hzi C.2.2.1 ((Cond.methodLinkNest_wide C.2.1 w1 :)) (mvT C.2.1 w2) (mvT C.2.1 wc) hy (backOf (W := (rest.map fun v => v.category).sum) (Q := fun v h L => Q' v h ∧ Fr n0 L) (hK hold []) C.2.1 wc wi hfr hlo) (g := mkF m pc Ls (argsL.reverse ++ .ref a :: rest)) rfl (by rw [C.2.2.2.2.1]; exact hz) (Steps.refl _) (a := a) (argsL := argsL) (rest := rest) (lenOf hpd hlen) rfl (by simp) (hb C.2.2.2.1 hd) (fun _ _ => ⟨rfl, eT, hc, hs⟩)
  dsimp only [Pt.U, Pt.locs, Pt.cells, Pt.slots] at X' l' y' z' st hQ
  subst l' y' z'
  obtain ⟨s₂, o, h1, h2⟩ := k v _ hQ.1 p e s m args below meth c T' _ C X' (Fr.app N hQ.2) rfl
  exact ⟨s₂, o, st.trans h1, h2⟩
theorem Go.callV {z : MethodName} {zc : ByteArray} {zm : Nat} {zr : Option FieldType} {rm : Room} {Q' : Option Value → Heap → Prop} {cells' slots' i : Nat} (argsL rest : List Value) {ps : List FieldType} {r : Option FieldType} {a : Addr} {x' : MethodName} {C' : String} (E : Exa Z h a C') (w1 : (Jvm.Cond.methodLink y.cls i x').before a0 Z = true) (w2 : (Jvm.Cond.declares x').before a0 Z = true) (nf : ∀ s' : State, Z.Warmed39 s'.vm → NotFace s' x') (w3 : (Jvm.Cond.selects C' x' z).before a0 Z = true) (w4 : (Jvm.Cond.instanceMethod z).before a0 Z = true) (wi : (Jvm.Cond.initialized z.cls).before a0 Z = true) (wc : (Jvm.Cond.code z zc zm zr).before a0 Z = true) (hy : x'.cls ≠ "java/lang/invoke/MethodHandle" ∧ x'.cls ≠ "java/lang/invoke/VarHandle") (hK : Con l z zc zm zr rm Z n0 (.ref a :: argsL).toArray h Q') (hpd : parseMethodDescriptor x'.desc = some ⟨ps, r⟩) (hlen : argsL.length = ps.length) (hst : st = argsL.reverse ++ .ref a :: rest) (hz : Ls.size = ml) (hc' : cells + rm.cells = cells') (hs' : slots + rm.slots = slots') (hfr : rm.frames + 1 ≤ R.frames := by decide) (hlo : (rest.map fun v => v.category).sum + (zm + 11) + rm.locals ≤ R.locals := by decide) (hc : cells' ≤ R.cells := by decide) (hs : slots' ≤ R.slots := by decide) (hd : decode code pc = .ok (.invokevirtual i, 3)) (hp : pc + 3 = pc')
    (k : ∀ v h', Q' v h' → Go l R Z n0 y code ml ret Q cells' slots' h' pc' Ls (v.toList ++ rest)) : Go l R Z n0 y code ml ret Q cells slots h pc Ls st := by
  intro p e s m args below meth c T locs C X N eT
  subst hc' hs' hp hst
  have hold : Old Z n0 h := own_old C.2.2.2.2.2.2.2.2 X N eT
  obtain ⟨cq, kq, qa, qb, qc⟩ := isOf C.2.1 eT E
  obtain ⟨v, _, ⟨T', L', k', n'⟩, -, X', ⟨Lc, hQ, l', y', z'⟩, st⟩ := X.virtualBack C.1 (y := x') (z := z) C.2.2.1 (mvT C.2.1 w1) (mvT C.2.1 w2) (nf s C.2.1) (mvT C.2.1 w3) (mvT C.2.1 w4) hy (backOf (W := (rest.map fun v => v.category).sum) (Q := fun v h L => Q' v h ∧ Fr n0 L) (hK hold []) C.2.1 wc wi hfr hlo) qa qc (g := mkF m pc Ls (argsL.reverse ++ .ref a :: rest)) rfl (by rw [C.2.2.2.2.1]; exact hz) (Steps.refl _) (argsL := argsL) (rest := rest) (lenOf hpd hlen) rfl (by simp) (hb C.2.2.2.1 hd) (fun _ _ => ⟨rfl, eT, hc, hs⟩)
  dsimp only [Pt.U, Pt.locs, Pt.cells, Pt.slots] at X' l' y' z' st hQ
  subst l' y' z'
  obtain ⟨s₂, o, h1, h2⟩ := k v _ hQ.1 p e s m args below meth c T' _ C X' (Fr.app N hQ.2) rfl
  exact ⟨s₂, o, st.trans h1, h2⟩
theorem Go.callU {z : MethodName} {zc : ByteArray} {zm : Nat} {zr : Option FieldType} {rm : Room} {Q' : Option Value → Heap → Prop} {cells' slots' i : Nat} (argsL rest : List Value) {ps : List FieldType} {r : Option FieldType} {a : Addr} {x' : MethodName} {C' owner : String} (E : Exa Z h a C') (w1 : (Jvm.Cond.methodLink y.cls i x').before a0 Z = true) (w2 : (Jvm.Cond.sameMethod x'.cls owner x'.name x'.desc).before a0 Z = true) (w5 : (Jvm.Cond.declares ⟨owner, x'.name, x'.desc⟩).before a0 Z = true) (w3 : (Jvm.Cond.selects C' x' z).before a0 Z = true) (w4 : (Jvm.Cond.instanceMethod z).before a0 Z = true) (wi : (Jvm.Cond.initialized z.cls).before a0 Z = true) (wc : (Jvm.Cond.code z zc zm zr).before a0 Z = true) (hy : owner ≠ "java/lang/invoke/MethodHandle" ∧ owner ≠ "java/lang/invoke/VarHandle") (hK : Con l z zc zm zr rm Z n0 (.ref a :: argsL).toArray h Q') (hpd : parseMethodDescriptor x'.desc = some ⟨ps, r⟩) (hlen : argsL.length = ps.length) (hst : st = argsL.reverse ++ .ref a :: rest) (hz : Ls.size = ml) (hc' : cells + rm.cells = cells') (hs' : slots + rm.slots = slots') (hfr : rm.frames + 1 ≤ R.frames := by decide) (hlo : (rest.map fun v => v.category).sum + (zm + 11) + rm.locals ≤ R.locals := by decide) (hc : cells' ≤ R.cells := by decide) (hs : slots' ≤ R.slots := by decide) (hd : decode code pc = .ok (.invokevirtual i, 3)) (hp : pc + 3 = pc')
    (k : ∀ v h', Q' v h' → Go l R Z n0 y code ml ret Q cells' slots' h' pc' Ls (v.toList ++ rest)) : Go l R Z n0 y code ml ret Q cells slots h pc Ls st := by
  intro p e s m args below meth c T locs C X N eT
  subst hc' hs' hp hst
  have hold : Old Z n0 h := own_old C.2.2.2.2.2.2.2.2 X N eT
  obtain ⟨cq, kq, qa, qb, qc⟩ := isOf C.2.1 eT E
  obtain ⟨v, _, ⟨T', L', k', n'⟩, -, X', ⟨Lc, hQ, l', y', z'⟩, st⟩ := X.virtualBackUp C.1 (x := x') (y := z) C.2.2.1 (mvT C.2.1 w1) (mvT C.2.1 w2) (mvT C.2.1 w5) hy (mvT C.2.1 w3) (mvT C.2.1 w4) (backOf (W := (rest.map fun v => v.category).sum) (Q := fun v h L => Q' v h ∧ Fr n0 L) (hK hold []) C.2.1 wc wi hfr hlo) qa qc (g := mkF m pc Ls (argsL.reverse ++ .ref a :: rest)) rfl (by rw [C.2.2.2.2.1]; exact hz) (Steps.refl _) (argsL := argsL) (rest := rest) (lenOf hpd hlen) rfl (by simp) (hb C.2.2.2.1 hd) (fun _ _ => ⟨rfl, eT, hc, hs⟩)
  dsimp only [Pt.U, Pt.locs, Pt.cells, Pt.slots] at X' l' y' z' st hQ
  subst l' y' z'
  obtain ⟨s₂, o, h1, h2⟩ := k v _ hQ.1 p e s m args below meth c T' _ C X' (Fr.app N hQ.2) rfl
  exact ⟨s₂, o, st.trans h1, h2⟩
theorem Go.callP {z : MethodName} {zc : ByteArray} {zm : Nat} {zr : Option FieldType} {rm : Room} {Q' : Option Value → Heap → Prop} {cells' slots' i : Nat} (argsL rest : List Value) {ps : List FieldType} {r : Option FieldType} {a : Addr} {C' : String} (E : Exa Z h a C') (w1 : (Jvm.Cond.methodLink y.cls i z).before a0 Z = true) (w2 : (Jvm.Cond.instanceMethod z).before a0 Z = true) (w3 : (Jvm.Cond.selects z.cls z z).before a0 Z = true) (w4 : (Jvm.Cond.privateMethod z).before a0 Z = true) (wi : (Jvm.Cond.initialized z.cls).before a0 Z = true) (wc : (Jvm.Cond.code z zc zm zr).before a0 Z = true) (hy : z.cls ≠ "java/lang/invoke/MethodHandle" ∧ z.cls ≠ "java/lang/invoke/VarHandle") (hK : Con l z zc zm zr rm Z n0 (.ref a :: argsL).toArray h Q') (hpd : parseMethodDescriptor z.desc = some ⟨ps, r⟩) (hlen : argsL.length = ps.length) (hst : st = argsL.reverse ++ .ref a :: rest) (hz : Ls.size = ml) (hc' : cells + rm.cells = cells') (hs' : slots + rm.slots = slots') (hfr : rm.frames + 1 ≤ R.frames := by decide) (hlo : (rest.map fun v => v.category).sum + (zm + 11) + rm.locals ≤ R.locals := by decide) (hc : cells' ≤ R.cells := by decide) (hs : slots' ≤ R.slots := by decide) (hd : decode code pc = .ok (.invokevirtual i, 3)) (hp : pc + 3 = pc')
    (k : ∀ v h', Q' v h' → Go l R Z n0 y code ml ret Q cells' slots' h' pc' Ls (v.toList ++ rest)) : Go l R Z n0 y code ml ret Q cells slots h pc Ls st := by
  intro p e s m args below meth c T locs C X N eT
  subst hc' hs' hp hst
  have hold : Old Z n0 h := own_old C.2.2.2.2.2.2.2.2 X N eT
  obtain ⟨cq, qa, qb⟩ := E.cell
  obtain ⟨v, _, ⟨T', L', k', n'⟩, -, X', ⟨Lc, hQ, l', y', z'⟩, st⟩ := X.privateBack C.1 (y := z) C.2.2.1 (mvT C.2.1 w1) (mvT C.2.1 w2) (mvT C.2.1 w3) (Cond.privateMethod_at (mvP C.2.1 w4 (args := #[]))) (mvT C.2.1 wc) hy (backOf (W := (rest.map fun v => v.category).sum) (Q := fun v h L => Q' v h ∧ Fr n0 L) (hK hold []) C.2.1 wc wi hfr hlo) (g := mkF m pc Ls (argsL.reverse ++ .ref a :: rest)) rfl (by rw [C.2.2.2.2.1]; exact hz) (Steps.refl _) (a := a) (by rw [eT]; exact qa) qb (argsL := argsL) (rest := rest) (lenOf hpd hlen) rfl (by simp) (hb C.2.2.2.1 hd) (fun _ _ => ⟨rfl, eT, hc, hs⟩)
  dsimp only [Pt.U, Pt.locs, Pt.cells, Pt.slots] at X' l' y' z' st hQ
  subst l' y' z'
  obtain ⟨s₂, o, h1, h2⟩ := k v _ hQ.1 p e s m args below meth c T' _ C X' (Fr.app N hQ.2) rfl
  exact ⟨s₂, o, st.trans h1, h2⟩
theorem Go.callI {z : MethodName} {zc : ByteArray} {zm : Nat} {zr : Option FieldType} {rm : Room} {Q' : Option Value → Heap → Prop} {cells' slots' i : Nat} (argsL rest : List Value) {ps : List FieldType} {r : Option FieldType} {a : Addr} {x' : MethodName} {C' : String} {cnt : Nat} (E : Exa Z h a C') (w1 : (Jvm.Cond.methodLink y.cls i x').before a0 Z = true) (w2 : (Jvm.Cond.declares x').before a0 Z = true) (w3 : (Jvm.Cond.interfaceMethod x'.cls x'.cls x'.name x'.desc).before a0 Z = true) (w4 : (Jvm.Cond.selects C' x' z).before a0 Z = true) (w5 : (Jvm.Cond.instanceMethod z).before a0 Z = true) (w6 : (Jvm.Cond.publicMethod z).before a0 Z = true) (w7 : (Jvm.Cond.unhidden C' x'.name x'.desc).before a0 Z = true) (w8 : (Jvm.Cond.castable C' x'.cls).before a0 Z = true) (wi : (Jvm.Cond.initialized z.cls).before a0 Z = true) (wc : (Jvm.Cond.code z zc zm zr).before a0 Z = true) (hy : x'.cls ≠ "java/lang/invoke/MethodHandle" ∧ x'.cls ≠ "java/lang/invoke/VarHandle") (hK : Con l z zc zm zr rm Z n0 (.ref a :: argsL).toArray h Q') (hpd : parseMethodDescriptor x'.desc = some ⟨ps, r⟩) (hlen : argsL.length = ps.length) (hst : st = argsL.reverse ++ .ref a :: rest) (hz : Ls.size = ml) (hc' : cells + rm.cells = cells') (hs' : slots + rm.slots = slots') (hfr : rm.frames + 1 ≤ R.frames := by decide) (hlo : (rest.map fun v => v.category).sum + (zm + 11) + rm.locals ≤ R.locals := by decide) (hc : cells' ≤ R.cells := by decide) (hs : slots' ≤ R.slots := by decide) (hd : decode code pc = .ok (.invokeinterface i cnt, 5)) (hp : pc + 5 = pc')
    (k : ∀ v h', Q' v h' → Go l R Z n0 y code ml ret Q cells' slots' h' pc' Ls (v.toList ++ rest)) : Go l R Z n0 y code ml ret Q cells slots h pc Ls st := by
  intro p e s m args below meth c T locs C X N eT
  subst hc' hs' hp hst
  have hold : Old Z n0 h := own_old C.2.2.2.2.2.2.2.2 X N eT
  obtain ⟨cq, kq, qa, qb, qc⟩ := isOf C.2.1 eT E
  obtain ⟨v, _, ⟨T', L', k', n'⟩, -, X', ⟨Lc, hQ, l', y', z'⟩, st⟩ := X.interfaceBack C.1 (xi := x') (y := z) C.2.2.1 (mvT C.2.1 w1) (mvT C.2.1 w2) (mvT C.2.1 w3 (hd := by simp [Cond.onTables, Cond.keepsFace, Cond.keeps, Cond.steady, Cond.faceAtom]; exact hy)) (mvT C.2.1 w4) (mvT C.2.1 w5) (mvT C.2.1 w6) (mvT C.2.1 w7) (mvT C.2.1 w8) hy (backOf (W := (rest.map fun v => v.category).sum) (Q := fun v h L => Q' v h ∧ Fr n0 L) (hK hold []) C.2.1 wc wi hfr hlo) qa qb qc (g := mkF m pc Ls (argsL.reverse ++ .ref a :: rest)) rfl (by rw [C.2.2.2.2.1]; exact hz) (Steps.refl _) (argsL := argsL) (rest := rest) (lenOf hpd hlen) rfl (by simp) (hb C.2.2.2.1 hd) (fun _ _ => ⟨rfl, eT, hc, hs⟩)
  dsimp only [Pt.U, Pt.locs, Pt.cells, Pt.slots] at X' l' y' z' st hQ
  subst l' y' z'
  obtain ⟨s₂, o, h1, h2⟩ := k v _ hQ.1 p e s m args below meth c T' _ C X' (Fr.app N hQ.2) rfl
  exact ⟨s₂, o, st.trans h1, h2⟩
end Rules
end Jvm.OwnGo
namespace Jvm.OwnNum
theorem mask (x m : Int32) (hm : 0 ≤ m.toInt) : 0 ≤ (x &&& m).toInt ∧ (x &&& m).toInt ≤ m.toInt := by
  have e : ∀ z : Int32, z.toInt = z.toBitVec.toInt := fun _ => rfl
  have hb : (x &&& m).toBitVec = x.toBitVec &&& m.toBitVec := rfl
  rw [e] at hm
  rw [e (x &&& m), e m, hb]
  have h1 : 2 * m.toBitVec.toNat < 2 ^ 32 := by
    rw [BitVec.toInt_eq_toNat_cond] at hm
    split at hm
    · assumption
    · have := m.toBitVec.isLt; omega
  have h2 : (x.toBitVec &&& m.toBitVec).toNat ≤ m.toBitVec.toNat := by
    rw [BitVec.toNat_and]; exact Nat.and_le_right
  rw [BitVec.toInt_eq_toNat_of_lt (x := m.toBitVec) h1, BitVec.toInt_eq_toNat_of_lt (x := x.toBitVec &&& m.toBitVec) (by omega)]
  omega
theorem modr (y k : Int32) (hy : 0 ≤ y.toInt) (hk : 0 < k.toInt) : 0 ≤ (y % k).toInt ∧ (y % k).toInt < k.toInt := by
  rw [Int32.toInt_mod]
  exact ⟨Int.tmod_nonneg _ hy, Int.tmod_lt_of_pos _ hk⟩
theorem maskmod (x k : Int32) (hk : 0 < k.toInt) : 0 ≤ ((x &&& 2147483647) % k).toInt ∧ ((x &&& 2147483647) % k).toInt < k.toInt := modr _ k (mask x 2147483647 (by decide)).1 hk
theorem eqI {a k : Int32} (h : a.toInt = k.toInt) : a = k := Int32.toInt_inj.mp h
end Jvm.OwnNum
namespace Jvm.OwnNum
theorem lremE (x y : Int64) : x - (x / y) * y = x % y := by
  apply Int64.toInt_inj.mp
  rw [Int64.toInt_mod, Int64.toInt_sub, Int64.toInt_mul, Int64.toInt_div]
  have h := Int.mul_tdiv_add_tmod x.toInt y.toInt
  have e : (x.toInt - ((x.toInt.tdiv y.toInt).bmod (2^64) * y.toInt).bmod (2^64)).bmod (2^64) = (x.toInt - (x.toInt.tdiv y.toInt * y.toInt)).bmod (2^64) := by
    simp
  rw [e]
  have q : x.toInt - x.toInt.tdiv y.toInt * y.toInt = x.toInt.tmod y.toInt := by
    rw [Int.mul_comm]; omega
  rw [q]
  have h1 := Int64.le_toInt (x % y)
  have h2 := Int64.toInt_lt (x % y)
  rw [Int64.toInt_mod] at h1 h2
  exact Int.bmod_eq_of_le_mul_two (by omega) (by omega)
theorem mask64 (x m : Int64) (hm : 0 ≤ m.toInt) : 0 ≤ (x &&& m).toInt ∧ (x &&& m).toInt ≤ m.toInt := by
  have e : ∀ z : Int64, z.toInt = z.toBitVec.toInt := fun _ => rfl
  have hb : (x &&& m).toBitVec = x.toBitVec &&& m.toBitVec := rfl
  rw [e] at hm
  rw [e (x &&& m), e m, hb]
  have h1 : 2 * m.toBitVec.toNat < 2 ^ 64 := by
    rw [BitVec.toInt_eq_toNat_cond] at hm
    split at hm
    · assumption
    · have := m.toBitVec.isLt; omega
  have h2 : (x.toBitVec &&& m.toBitVec).toNat ≤ m.toBitVec.toNat := by
    rw [BitVec.toNat_and]; exact Nat.and_le_right
  rw [BitVec.toInt_eq_toNat_of_lt (x := m.toBitVec) h1, BitVec.toInt_eq_toNat_of_lt (x := x.toBitVec &&& m.toBitVec) (by omega)]
  omega
theorem maskmod64 (x m k : Int64) (hm : 0 ≤ m.toInt) (hk : 0 < k.toInt) : 0 ≤ ((x &&& m) - ((x &&& m) / k) * k).toInt ∧ ((x &&& m) - ((x &&& m) / k) * k).toInt < k.toInt := by
  rw [lremE, Int64.toInt_mod]
  exact ⟨Int.tmod_nonneg _ (mask64 x m hm).1, Int.tmod_lt_of_pos _ hk⟩
theorem narrowI (x : Int64) (h1 : 0 ≤ x.toInt) (h2 : x.toInt < 2147483648) : x.toInt32.toInt = x.toInt := by
  rw [Int64.toInt_toInt32]
  exact Int.bmod_eq_of_le_mul_two (by omega) (by omega)
theorem lmod5 (x : Int64) : 0 ≤ (((x &&& (9223372036854775807 : Int64)) - ((x &&& (9223372036854775807 : Int64)) / (5 : Int64)) * (5 : Int64)).toInt32).toInt ∧ (((x &&& (9223372036854775807 : Int64)) - ((x &&& (9223372036854775807 : Int64)) / (5 : Int64)) * (5 : Int64)).toInt32).toInt < 5 := by
  have h := maskmod64 x 9223372036854775807 5 (by decide) (by decide)
  have e5 : (5 : Int64).toInt = 5 := by decide
  rw [e5] at h
  rw [narrowI _ h.1 (by omega)]
  exact h
end Jvm.OwnNum
namespace Jvm.OwnNum
theorem b8 (x : Int32) : x.toInt8.toInt32.toInt8.toInt32 = x.toInt8.toInt32 := by simp
theorem c16 (x : Int32) : x.toUInt32.toUInt16.toUInt32.toInt32.toUInt32.toUInt16.toUInt32.toInt32 = x.toUInt32.toUInt16.toUInt32.toInt32 := by simp only [UInt32.toUInt32_toInt32, UInt16.toUInt16_toUInt32]
theorem le255 (x : Int32) : ¬ (255 : Int32) < x &&& 255 := by
  have h := mask x 255 (by decide)
  have e : (255 : Int32).toInt = 255 := by decide
  rw [Int32.lt_iff_toInt_lt]; omega
end Jvm.OwnNum
namespace Jvm.OwnGo
open Jvm Jvm.ClassFile Sem Op Lib Jvm.Free Jvm.Stand Jvm.LawKit Jvm.RoadKit
section Sheet
variable {args : Array Value} {s : State} {t : Term} {a : Addr}
theorem own_eqI {k : Int32} (h : (Jvm.Cond.eq t (.int k)).value args s none s [] = some true) : t.eval args s none [] s = some (.int k) := by
  simp only [Cond.value, Term.eval] at h
  cases ht : t.eval args s none [] s with
  | none => simp [ht] at h
  | some x => cases x <;> simp [ht] at h ⊢; exact h
theorem own_eqJ {k : Int64} (h : (Jvm.Cond.eq t (.long k)).value args s none s [] = some true) : t.eval args s none [] s = some (.long k) := by
  simp only [Cond.value, Term.eval] at h
  cases ht : t.eval args s none [] s with
  | none => simp [ht] at h
  | some x => cases x <;> simp [ht] at h ⊢; exact h
theorem own_eqR {u : Term} {b : Addr} (hu : u.eval args s none [] s = some (.ref b)) (h : (Jvm.Cond.eq t u).value args s none s [] = some true) : t.eval args s none [] s = some (.ref b) := by
  simp only [Cond.value, hu] at h
  cases ht : t.eval args s none [] s with
  | none => simp [ht] at h
  | some x => cases x <;> simp [ht] at h ⊢; exact h
theorem own_fld {C n d : String} {v : Value} (ht : t.eval args s none [] s = some (.ref a)) (h : (Term.field t C n d).eval args s none [] s = some v) : Jvm.RoadKit.Fld s s.heap a C n d v :=
  Fld.start (by rw [← fld_at (C := C) (n := n) (dd := d) ht]; exact h)
theorem own_arr {ty : FieldType} {n : Int32} (ev : t.eval args s none [] s = some (.ref a)) (hx : (Jvm.Cond.arrayOf t ty).value args s none s [] = some true) (hl : (Term.length t).eval args s none [] s = some (.int n)) :
    ∃ c, Arr s s.heap a c ty ∧ c.slots.size < 2 ^ 31 ∧ c.slots.size.toInt32 = n := by
  obtain ⟨c, A⟩ := Arr.start ev hx
  have e := A.fin (Vm.Alike.refl _)
  refine ⟨c, A, ?_⟩
  simp only [Term.eval, ev, Option.bind_eq_bind, Option.bind_some, e] at hl
  split at hl
  · rename_i q; exact ⟨q, by simpa using hl⟩
  · cases hl
theorem own_elem {ty : FieldType} {j : Int32} {c : Cell} {v : Value} (ev : t.eval args s none [] s = some (.ref a)) (A : Arr s s.heap a c ty) (hj : ¬ j < 0) (h : (Term.elem t (.int j)).eval args s none [] s = some v) : c.slots[j.toNatClampNeg]? = some v := by
  rw [elem_f ev (Term.int_eval j) (A.fin (Vm.Alike.refl _)) hj] at h; exact h
end Sheet
end Jvm.OwnGo
namespace Jvm.OwnGo
open Jvm Jvm.ClassFile Sem Op Lib Jvm.Free Jvm.Stand Jvm.LawKit Jvm.RoadKit
theorem own_arvAny {s : State} {a : Addr} {c : Cell} {ty : FieldType} {n : Int32} {dv : Value} (hf : Fit s) (A : Arr s s.heap a c ty) (q : c.slots.size < 2 ^ 31) (e : c.slots.size.toInt32 = n) (hn : ¬ n < 0) : Jvm.RoadKit.Arv s s.heap a c.cls ty n c.slots.toList dv := by
  have S : c.slots.size = n.toNatClampNeg := by rw [← e]; simp only [Int32.toNatClampNeg, len_toInt q]; rfl
  have H : Has c c.slots.toList dv := fun k hk => by simp [List.getD_eq_getElem?_getD, hk]
  refine ⟨c, A, rfl, S, hn, H, fun j hj => ?_⟩
  have hi := idx_in hj q
  obtain ⟨v, h1, h2⟩ := elem_fit hf A hi
  have ej : (j.toInt32).toNatClampNeg = j := by
    simp only [Int32.toNatClampNeg, len_toInt (Nat.lt_trans hj q)]; rfl
  rw [ej, H j hj] at h1
  cases h1
  exact h2
end Jvm.OwnGo
namespace Jvm.OwnGo
open Jvm Jvm.ClassFile Sem Op Lib Jvm.Free Jvm.Stand Jvm.LawKit Jvm.RoadKit
theorem own_eqV {args : Array Value} {s : State} {t u : Term} {idx : List Nat} {k : Int32} (hu : u.eval args s none idx s = some (.int k)) (h : (Jvm.Cond.eq t u).value args s none s idx = some true) : t.eval args s none idx s = some (.int k) := by
  simp only [Cond.value, hu] at h
  cases ht : t.eval args s none idx s with
  | none => simp [ht] at h
  | some x => cases x <;> simp [ht] at h ⊢; exact h
theorem own_static_idx {args : Array Value} {s : State} {C n d : String} {v : Value} (h : (Term.static C n d).eval args s none [] s = some v) (idx : List Nat) : (Term.static C n d).eval args s none idx s = some v := by
  simp only [Term.eval] at h ⊢; exact h
theorem own_i128 (i : Int32) (h1 : ¬ i < -128) (h2 : ¬ 127 < i) : ¬ i + 128 < 0 ∧ i + 128 < 256 ∧ (i + 128).toNatClampNeg < 256 := by
  rw [Int32.lt_iff_toInt_lt] at h1 h2
  have e1 : (-128 : Int32).toInt = -128 := by decide
  have e2 : (127 : Int32).toInt = 127 := by decide
  have e3 : (128 : Int32).toInt = 128 := by decide
  rw [e1] at h1; rw [e2] at h2
  have e : (i + 128).toInt = i.toInt + 128 := by
    rw [Int32.toInt_add, e3]; exact Int.bmod_eq_of_le_mul_two (by omega) (by omega)
  refine ⟨?_, ?_, ?_⟩
  · rw [Int32.lt_iff_toInt_lt, e]; have : (0 : Int32).toInt = 0 := by decide
    omega
  · rw [Int32.lt_iff_toInt_lt, e]; have : (256 : Int32).toInt = 256 := by decide
    omega
  · simp only [Int32.toNatClampNeg, e]; omega
theorem own_cache {args : Array Value} {s : State} {a : Addr} {c : Cell} {ct : Term} (ev : ∀ idx, ct.eval args s none idx s = some (.ref a)) (A : Arr s s.heap a c (.object "java/lang/Integer")) (hsz : c.slots.size < 2 ^ 31) (hn : c.slots.size.toInt32 = 256)
    (hall : (Jvm.Cond.all ct (.and (.exactly (.elem ct (.index 0)) "java/lang/Integer") (.eq (.field (.elem ct (.index 0)) "java/lang/Integer" "value" "I") (.sub (.index 0) (.int 128))))).value args s none s [] = some true) :
    ∀ i : Int32, ¬ i < -128 → ¬ 127 < i → ∃ w, c.slots.toList.getD (i + 128).toNatClampNeg .null = .ref w ∧ Jvm.RoadKit.Exa s s.heap w "java/lang/Integer" ∧ Jvm.RoadKit.Fld s s.heap w "java/lang/Integer" "value" "I" (.int i) := by
  intro i h1 h2
  obtain ⟨b1, b2, b3⟩ := own_i128 i h1 h2
  have hat := A.fin (Vm.Alike.refl _)
  have S : c.slots.size = 256 := by
    have : c.slots.size = (256 : Int32).toNatClampNeg := by rw [← hn]; simp only [Int32.toNatClampNeg, len_toInt hsz]; rfl
    rw [this]; decide
  have q := Cond.all_elim (ev []) hat hall (i + 128).toNatClampNeg (by rw [S]; exact b3)
  obtain ⟨q1, q2⟩ := and_e q
  have ei : (Term.index 0).eval args s none [(i + 128).toNatClampNeg] s = some (.int (i + 128)) := idx_at b1
  obtain ⟨w, ew⟩ := exa_v q1
  have ew' := ew
  rw [elem_f (ev _) ei hat b1] at ew'
  have es : (Term.sub (.index 0) (.int 128)).eval args s none [(i + 128).toNatClampNeg] s = some (.int i) := by
    have e0 : i + 128 - 128 = i := by
      rw [Int32.sub_eq_add_neg, Int32.add_assoc]; simp
    have e1 := (back32 b1).1
    simp [Term.eval, e1, e0]
  have ef := own_eqV es q2
  refine ⟨w, ?_, exa_at ew q1, Fld.start ?_⟩
  · rw [List.getD_eq_getElem?_getD, Array.getElem?_toList, ew']; rfl
  · rw [← fld_at (C := "java/lang/Integer") (n := "value") (dd := "I") ew]; exact ef
end Jvm.OwnGo
namespace Jvm.OwnGo
open Jvm Jvm.ClassFile Sem Op Lib Jvm.Free Jvm.Stand Jvm.LawKit Jvm.RoadKit
theorem own_nroot {Z : State} {a0 : Array Value} {O K : String} {n : Nat} (w : (Jvm.Cond.noSuperclass O).before a0 Z = true) (wk : (Jvm.Cond.instantiable K n).before a0 Z = true) (hn : O ≠ K) : NS Z O K := by
  obtain ⟨c, k, h1, h2, h3, -, -⟩ := Cond.noSuperclass_spec w
  obtain ⟨t, kt, g1, -⟩ := Cond.instantiable_spec wk
  have ne := ids_ne h1 g1 hn
  refine ⟨c, t, h1, g1, fun fuel => ?_⟩
  cases fuel with
  | zero => rfl
  | succ f => simp [Vm.isSubclassAux, ne, h2, h3]
theorem own_nno {Z : State} {a0 : Array Value} {C S K : String} {n : Nat} (w : (Jvm.Cond.superclass C S).before a0 Z = true) (wk : (Jvm.Cond.instantiable K n).before a0 Z = true) (nn : NS Z C K) (hn : C ≠ K) : ∃ c t, Z.vm.findClass C = some c ∧ Z.vm.findClass K = some t ∧ Z.vm.assignable c t = false := by
  obtain ⟨c, t, h0, g0, n3⟩ := nn
  obtain ⟨p, k, kp, h1, h2, h3, h4, h5, -, h7⟩ := Cond.superclass_spec h0 w
  obtain ⟨t', kt, g1, g2, g3, g4, -⟩ := Cond.instantiable_spec wk
  cases g0.symm.trans g1
  have gi : kt.isInterface = false := by
    cases q : kt.isInterface with
    | false => rfl
    | true => simp [q] at g4
  have ne := ids_ne h0 g0 hn
  refine ⟨c, t, h0, g0, ?_⟩
  show Z.vm.assignableAux (255 + 1) c t = false
  simp [Vm.assignableAux, ne, h2, g2, h5, g3, gi, Vm.isSubclass, n3]
end Jvm.OwnGo
@@BLOCK:HandJ.lean.txt@@
@@BLOCK:SymMore.lean.txt@@
namespace Jvm.Pilot.@@N@@
open Jvm Jvm.ClassFile Sem Op Lib Jvm.Free Jvm.Stand Jvm.LawKit Jvm.RoadKit Bundle Jvm.OwnGo Jvm.Pilot.@@N@@.Jvm.D
theorem ww {Z : State} {a0 : Array Value} (hw : ∀ d ∈ tables_1, d.before a0 Z = true) (i : Nat) {d : Jvm.Cond} (h : tables_1[i]? = some d) : d.before a0 Z = true := hw d (List.mem_of_getElem? h)
theorem nl {n m : Nat} (h : Nat.ble n m = true) : n ≤ m := Nat.le_of_ble_eq_true h
theorem own_shr3 (x : Int64) : -1152921504606846976 ≤ (x >>> ((3 : Int32).toInt64 &&& 63)).toInt ∧ (x >>> ((3 : Int32).toInt64 &&& 63)).toInt < 1152921504606846976 := by
  have e : ((3 : Int32).toInt64 &&& 63) = (3 : Int64) := by decide
  rw [e]
  have h1 := Int64.le_toInt x
  have h2 := Int64.toInt_lt x
  have q : (x >>> (3 : Int64)).toInt = x.toInt >>> 3 := by
    rw [← Int64.toInt_toBitVec, Int64.toBitVec_shiftRight, BitVec.sshiftRight_eq', BitVec.toInt_sshiftRight]
    rfl
  rw [q, Int.shiftRight_eq_div_pow]
  omega
theorem own_fi (f : Int64) (hb : -1152921504606846976 ≤ f.toInt ∧ f.toInt < 1152921504606846976) (i : Int64) (hi : 0 ≤ i.toInt ∧ i.toInt ≤ 8) : (f + i).toInt = f.toInt + i.toInt := by
  rw [Int64.toInt_add]; exact Int.bmod_eq_of_le_mul_two (by omega) (by omega)
theorem own_cut1 (f d : Int64) (hb : -1152921504606846976 ≤ f.toInt ∧ f.toInt < 1152921504606846976) : (¬ (f < d)) ∨ (f < d ∧ ¬ (d < (f + (1 : Int64)))) := by
  have en1 : (f + (1 : Int64)).toInt = f.toInt + 1 := by rw [own_fi f hb 1 (by decide)]; rfl
  have q : d.toInt ≤ f.toInt ∨ f.toInt + 0 < d.toInt := by omega
  rcases q with q | q
  · exact Or.inl (by rw [Int64.lt_iff_toInt_lt]; omega)
  · exact Or.inr ((⟨by rw [Int64.lt_iff_toInt_lt]; omega, by rw [Int64.lt_iff_toInt_lt]; omega⟩))
theorem own_cut2 (f d : Int64) (hb : -1152921504606846976 ≤ f.toInt ∧ f.toInt < 1152921504606846976) : (¬ (f < d)) ∨ (f < d ∧ ¬ ((f + (1 : Int64)) < d) ∧ d < (f + (2 : Int64)) ∧ d = (f + (1 : Int64))) ∨ (f < d ∧ (f + (1 : Int64)) < d ∧ ¬ (d < (f + (2 : Int64)))) := by
  have e1 : (f + (1 : Int64)).toInt = f.toInt + 1 := by rw [show (f + (1 : Int64)) = f + (1 : Int64) by grind, own_fi f hb 1 (by decide)]; rfl
  have en1 : (f + (1 : Int64)).toInt = f.toInt + 1 := by rw [own_fi f hb 1 (by decide)]; rfl
  have en2 : (f + (2 : Int64)).toInt = f.toInt + 2 := by rw [own_fi f hb 2 (by decide)]; rfl
  have q : d.toInt ≤ f.toInt ∨ d.toInt = f.toInt + 1 ∨ f.toInt + 1 < d.toInt := by omega
  rcases q with q | q | q
  · exact Or.inl (by rw [Int64.lt_iff_toInt_lt]; omega)
  · exact Or.inr (Or.inl (⟨by rw [Int64.lt_iff_toInt_lt]; omega, by rw [Int64.lt_iff_toInt_lt]; omega, by rw [Int64.lt_iff_toInt_lt]; omega, Int64.toInt_inj.mp (by omega)⟩))
  · exact Or.inr (Or.inr ((⟨by rw [Int64.lt_iff_toInt_lt]; omega, by rw [Int64.lt_iff_toInt_lt]; omega, by rw [Int64.lt_iff_toInt_lt]; omega⟩)))
theorem own_cut3 (f d : Int64) (hb : -1152921504606846976 ≤ f.toInt ∧ f.toInt < 1152921504606846976) : (¬ (f < d)) ∨ (f < d ∧ ¬ ((f + (1 : Int64)) < d) ∧ d < (f + (3 : Int64)) ∧ d = (f + (1 : Int64))) ∨ (f < d ∧ (f + (1 : Int64)) < d ∧ ¬ (((f + (1 : Int64)) + (1 : Int64)) < d) ∧ d < (f + (3 : Int64)) ∧ d = (f + (2 : Int64))) ∨ (f < d ∧ (f + (1 : Int64)) < d ∧ ((f + (1 : Int64)) + (1 : Int64)) < d ∧ ¬ (d < (f + (3 : Int64)))) := by
  have e1 : (f + (1 : Int64)).toInt = f.toInt + 1 := by rw [show (f + (1 : Int64)) = f + (1 : Int64) by grind, own_fi f hb 1 (by decide)]; rfl
  have e2 : ((f + (1 : Int64)) + (1 : Int64)).toInt = f.toInt + 2 := by rw [show ((f + (1 : Int64)) + (1 : Int64)) = f + (2 : Int64) by grind, own_fi f hb 2 (by decide)]; rfl
  have en1 : (f + (1 : Int64)).toInt = f.toInt + 1 := by rw [own_fi f hb 1 (by decide)]; rfl
  have en2 : (f + (2 : Int64)).toInt = f.toInt + 2 := by rw [own_fi f hb 2 (by decide)]; rfl
  have en3 : (f + (3 : Int64)).toInt = f.toInt + 3 := by rw [own_fi f hb 3 (by decide)]; rfl
  have q : d.toInt ≤ f.toInt ∨ d.toInt = f.toInt + 1 ∨ d.toInt = f.toInt + 2 ∨ f.toInt + 2 < d.toInt := by omega
  rcases q with q | q | q | q
  · exact Or.inl (by rw [Int64.lt_iff_toInt_lt]; omega)
  · exact Or.inr (Or.inl (⟨by rw [Int64.lt_iff_toInt_lt]; omega, by rw [Int64.lt_iff_toInt_lt]; omega, by rw [Int64.lt_iff_toInt_lt]; omega, Int64.toInt_inj.mp (by omega)⟩))
  · exact Or.inr (Or.inr (Or.inl (⟨by rw [Int64.lt_iff_toInt_lt]; omega, by rw [Int64.lt_iff_toInt_lt]; omega, by rw [Int64.lt_iff_toInt_lt]; omega, by rw [Int64.lt_iff_toInt_lt]; omega, Int64.toInt_inj.mp (by omega)⟩)))
  · exact Or.inr (Or.inr (Or.inr ((⟨by rw [Int64.lt_iff_toInt_lt]; omega, by rw [Int64.lt_iff_toInt_lt]; omega, by rw [Int64.lt_iff_toInt_lt]; omega, by rw [Int64.lt_iff_toInt_lt]; omega⟩))))
theorem own_cut4 (f d : Int64) (hb : -1152921504606846976 ≤ f.toInt ∧ f.toInt < 1152921504606846976) : (¬ (f < d)) ∨ (f < d ∧ ¬ ((f + (1 : Int64)) < d) ∧ d < (f + (4 : Int64)) ∧ d = (f + (1 : Int64))) ∨ (f < d ∧ (f + (1 : Int64)) < d ∧ ¬ (((f + (1 : Int64)) + (1 : Int64)) < d) ∧ d < (f + (4 : Int64)) ∧ d = (f + (2 : Int64))) ∨ (f < d ∧ (f + (1 : Int64)) < d ∧ ((f + (1 : Int64)) + (1 : Int64)) < d ∧ ¬ ((((f + (1 : Int64)) + (1 : Int64)) + (1 : Int64)) < d) ∧ d < (f + (4 : Int64)) ∧ d = (f + (3 : Int64))) ∨ (f < d ∧ (f + (1 : Int64)) < d ∧ ((f + (1 : Int64)) + (1 : Int64)) < d ∧ (((f + (1 : Int64)) + (1 : Int64)) + (1 : Int64)) < d ∧ ¬ (d < (f + (4 : Int64)))) := by
  have e1 : (f + (1 : Int64)).toInt = f.toInt + 1 := by rw [show (f + (1 : Int64)) = f + (1 : Int64) by grind, own_fi f hb 1 (by decide)]; rfl
  have e2 : ((f + (1 : Int64)) + (1 : Int64)).toInt = f.toInt + 2 := by rw [show ((f + (1 : Int64)) + (1 : Int64)) = f + (2 : Int64) by grind, own_fi f hb 2 (by decide)]; rfl
  have e3 : (((f + (1 : Int64)) + (1 : Int64)) + (1 : Int64)).toInt = f.toInt + 3 := by rw [show (((f + (1 : Int64)) + (1 : Int64)) + (1 : Int64)) = f + (3 : Int64) by grind, own_fi f hb 3 (by decide)]; rfl
  have en1 : (f + (1 : Int64)).toInt = f.toInt + 1 := by rw [own_fi f hb 1 (by decide)]; rfl
  have en2 : (f + (2 : Int64)).toInt = f.toInt + 2 := by rw [own_fi f hb 2 (by decide)]; rfl
  have en3 : (f + (3 : Int64)).toInt = f.toInt + 3 := by rw [own_fi f hb 3 (by decide)]; rfl
  have en4 : (f + (4 : Int64)).toInt = f.toInt + 4 := by rw [own_fi f hb 4 (by decide)]; rfl
  have q : d.toInt ≤ f.toInt ∨ d.toInt = f.toInt + 1 ∨ d.toInt = f.toInt + 2 ∨ d.toInt = f.toInt + 3 ∨ f.toInt + 3 < d.toInt := by omega
  rcases q with q | q | q | q | q
  · exact Or.inl (by rw [Int64.lt_iff_toInt_lt]; omega)
  · exact Or.inr (Or.inl (⟨by rw [Int64.lt_iff_toInt_lt]; omega, by rw [Int64.lt_iff_toInt_lt]; omega, by rw [Int64.lt_iff_toInt_lt]; omega, Int64.toInt_inj.mp (by omega)⟩))
  · exact Or.inr (Or.inr (Or.inl (⟨by rw [Int64.lt_iff_toInt_lt]; omega, by rw [Int64.lt_iff_toInt_lt]; omega, by rw [Int64.lt_iff_toInt_lt]; omega, by rw [Int64.lt_iff_toInt_lt]; omega, Int64.toInt_inj.mp (by omega)⟩)))
  · exact Or.inr (Or.inr (Or.inr (Or.inl (⟨by rw [Int64.lt_iff_toInt_lt]; omega, by rw [Int64.lt_iff_toInt_lt]; omega, by rw [Int64.lt_iff_toInt_lt]; omega, by rw [Int64.lt_iff_toInt_lt]; omega, by rw [Int64.lt_iff_toInt_lt]; omega, Int64.toInt_inj.mp (by omega)⟩))))
  · exact Or.inr (Or.inr (Or.inr (Or.inr ((⟨by rw [Int64.lt_iff_toInt_lt]; omega, by rw [Int64.lt_iff_toInt_lt]; omega, by rw [Int64.lt_iff_toInt_lt]; omega, by rw [Int64.lt_iff_toInt_lt]; omega, by rw [Int64.lt_iff_toInt_lt]; omega⟩)))))
theorem own_mod5 (x : Int32) : (x &&& (2147483647 : Int32)) % (5 : Int32) = (0 : Int32) ∨ (x &&& (2147483647 : Int32)) % (5 : Int32) = (1 : Int32) ∨ (x &&& (2147483647 : Int32)) % (5 : Int32) = (2 : Int32) ∨ (x &&& (2147483647 : Int32)) % (5 : Int32) = (3 : Int32) ∨ (x &&& (2147483647 : Int32)) % (5 : Int32) = (4 : Int32) := by
  obtain ⟨h1, h2⟩ := OwnNum.maskmod x 5 (by decide)
  have e : (5 : Int32).toInt = 5 := by decide
  have e' : (4 : Int32).toInt = 4 := by decide
  generalize (x &&& (2147483647 : Int32)) % (5 : Int32) = z at h1 h2 ⊢
  have q : z.toInt = 0 ∨ z.toInt = 1 ∨ z.toInt = 2 ∨ z.toInt = 3 ∨ z.toInt = 4 := by omega
  rcases q with q | q | q | q | q
  · exact Or.inl (OwnNum.eqI (q.trans (by decide)))
  · exact Or.inr (Or.inl (OwnNum.eqI (q.trans (by decide))))
  · exact Or.inr (Or.inr (Or.inl (OwnNum.eqI (q.trans (by decide)))))
  · exact Or.inr (Or.inr (Or.inr (Or.inl (OwnNum.eqI (q.trans (by decide))))))
  · exact Or.inr (Or.inr (Or.inr (Or.inr ((OwnNum.eqI (q.trans (by decide)))))))
theorem d9_0 : decode jdk_2320_method_9_code 0 = .ok (.aload_n 0, 1) := by decide +kernel
theorem d9_1 : decode jdk_2320_method_9_code 1 = .ok (.invokespecial 137, 3) := by decide +kernel
theorem d9_4 : decode jdk_2320_method_9_code 4 = .ok (.aload_n 0, 1) := by decide +kernel
theorem d9_5 : decode jdk_2320_method_9_code 5 = .ok (.lload_n 1, 1) := by decide +kernel
theorem d9_6 : decode jdk_2320_method_9_code 6 = .ok (.putfield 140, 3) := by decide +kernel
theorem d9_9 : decode jdk_2320_method_9_code 9 = .ok (.aload_n 0, 1) := by decide +kernel
theorem d9_10 : decode jdk_2320_method_9_code 10 = .ok (.iload_n 3, 1) := by decide +kernel
theorem d9_11 : decode jdk_2320_method_9_code 11 = .ok (.putfield 144, 3) := by decide +kernel
theorem d9_14 : decode jdk_2320_method_9_code 14 = .ok (.return_, 1) := by decide +kernel
theorem pn_0 : plainName "java/time/Instant" = true := by first | (simp [plainName, overriddenIn]; done) | decide +kernel
set_option maxRecDepth 65536 in
set_option maxHeartbeats 4000000 in
theorem c_insInit (l : Launch) (Z : State) (a0 : Array Value) (hw : ∀ d ∈ tables_1, d.before a0 Z = true) {n0 : Nat} (h : Heap) (a : Addr) (s : Int64) (n : Int32) (ge_a : n0 ≤ a) (x : Exa Z h a "java/time/Instant") (f : Fld Z h a "java/time/Instant" "seconds" "J" (.long (0 : Int64))) (g : Fld Z h a "java/time/Instant" "nanos" "I" (.int (0 : Int32))) :
    Con l (⟨"java/time/Instant", "<init>", "(JI)V"⟩ : MethodName) jdk_2320_method_9_code 4 none ({ frames := 1, cells := 0, slots := 0, locals := 12 } : Room) Z n0 #[(.ref a), (.long s), (.int n)] h (fun v h' => v = none ∧ Keep h h' [a] ∧ Fld Z h' a "java/time/Instant" "seconds" "J" (.long s) ∧ Fld Z h' a "java/time/Instant" "nanos" "I" (.int n)) := by
  refine Con.of_go (plainFor_of_name pn_0) (Ls := #[.val (.ref a), .val (.long s), .second, .val (.int n)]) (fun m => by first | (simp [entryFrame, mkF, argsToLocals, Value.category]; done) | rfl) ?_
  refine Go.aloadN (pc' := 1) d9_0 rfl rfl rfl ?_
  refine Go.initO (pc' := 4) (ww hw 61 rfl) (ww hw 8 rfl) (ww hw 9 rfl) d9_1 rfl (nl rfl) (nl rfl) rfl ?_
  refine Go.aloadN (pc' := 5) d9_4 rfl rfl rfl ?_
  refine Go.lloadN (pc' := 6) d9_5 rfl rfl ?_
  refine Go.putfield (pc' := 9) (host := "") (Or.inl (ww hw 44 rfl)) Via.refl f x (Or.inr ⟨(ww hw 45 rfl), rfl, rfl⟩) (ww hw 56 rfl) (ty := .long) (by decide) rfl rfl ge_a d9_6 rfl ?_
  intro h1 W2
  have K3 : Keep h h1 [a] := (Keep.refl h [a]).wr W2 (Or.inl (List.mem_of_getElem? (i := 0) rfl))
  have f4 := f.same W2
  refine Go.aloadN (pc' := 10) d9_9 rfl rfl rfl ?_
  refine Go.iloadN (pc' := 11) d9_10 rfl rfl ?_
  have f5 : Fld Z h1 a "java/time/Instant" "nanos" "I" (.int (0 : Int32)) := (g.other W2 (Or.inr (slot_ne (Or.inr (ww hw 52 rfl)) (Or.inr (ww hw 45 rfl)) (by decide) (t := .int) (t' := .long) (by decide) (by decide))))
  refine Go.putfield (pc' := 14) (host := "") (Or.inl (ww hw 51 rfl)) Via.refl f5 (x.wr W2) (Or.inr ⟨(ww hw 52 rfl), rfl, rfl⟩) (ww hw 56 rfl) (ty := .int) (by decide) rfl rfl ge_a d9_11 rfl ?_
  intro h6 W7
  have K8 : Keep h h6 [a] := K3.wr W7 (Or.inl (List.mem_of_getElem? (i := 0) rfl))
  have f9 := f5.same W7
  have f10 : Fld Z h6 a "java/time/Instant" "seconds" "J" (.long s) := (f4.other W7 (Or.inr (slot_ne (Or.inr (ww hw 45 rfl)) (Or.inr (ww hw 52 rfl)) (by decide) (t := .long) (t' := .int) (by decide) (by decide))))
  exact Go.retV rfl d9_14 ⟨rfl, K8, f10, f9⟩ (by decide) (by decide)
theorem d16_0 : decode jdk_29_method_49_code 0 = .ok (.lload_n 0, 1) := by decide +kernel
theorem d16_1 : decode jdk_29_method_49_code 1 = .ok (.lload_n 2, 1) := by decide +kernel
theorem d16_2 : decode jdk_29_method_49_code 2 = .ok (.ldiv, 1) := by decide +kernel
theorem d16_3 : decode jdk_29_method_49_code 3 = .ok (.lstore 4, 2) := by decide +kernel
theorem d16_5 : decode jdk_29_method_49_code 5 = .ok (.lload_n 0, 1) := by decide +kernel
theorem d16_6 : decode jdk_29_method_49_code 6 = .ok (.lload_n 2, 1) := by decide +kernel
theorem d16_7 : decode jdk_29_method_49_code 7 = .ok (.lxor, 1) := by decide +kernel
theorem d16_8 : decode jdk_29_method_49_code 8 = .ok (.lconst 0, 1) := by decide +kernel
theorem d16_9 : decode jdk_29_method_49_code 9 = .ok (.lcmp, 1) := by decide +kernel
theorem d16_10 : decode jdk_29_method_49_code 10 = .ok (.ifCond .ge 17, 3) := by decide +kernel
theorem d16_27 : decode jdk_29_method_49_code 27 = .ok (.lload 4, 2) := by decide +kernel
theorem d16_29 : decode jdk_29_method_49_code 29 = .ok (.lreturn, 1) := by decide +kernel
set_option maxRecDepth 65536 in
set_option maxHeartbeats 4000000 in
theorem c_floorDiv (l : Launch) (Z : State) (a0 : Array Value) (hw : ∀ d ∈ tables_1, d.before a0 Z = true) {n0 : Nat} (h : Heap) :
    Con l (⟨"java/lang/Math", "floorDiv", "(JJ)J"⟩ : MethodName) jdk_29_method_49_code 6 (some .long) ({ frames := 0, cells := 0, slots := 0, locals := 0 } : Room) Z n0 #[(.long (0 : Int64)), (.long (1000000000 : Int64))] h (fun v h' => v = some (.long (0 : Int64)) ∧ h = h') := by
  refine Con.of_go (Jvm.Free.JP.mathPlain rfl (by decide +kernel)) (Ls := #[.val (.long (0 : Int64)), .second, .val (.long (1000000000 : Int64)), .second, .unset, .unset]) (fun m => by first | (simp [entryFrame, mkF, argsToLocals, Value.category]; done) | rfl) ?_
  refine Go.lloadN (pc' := 1) d16_0 rfl rfl ?_
  refine Go.lloadN (pc' := 2) d16_1 rfl rfl ?_
  refine Go.ldiv (pc' := 3) d16_2 (by decide) rfl ?_
  show Go _ _ _ _ _ _ _ _ _ _ _ _ 3 #[.val (.long (0 : Int64)), .second, .val (.long (1000000000 : Int64)), .second, .unset, .unset] [(.long (0 : Int64))]
  refine Go.lstore (pc' := 5) (Ls' := #[.val (.long (0 : Int64)), .second, .val (.long (1000000000 : Int64)), .second, .val (.long (0 : Int64)), .second]) d16_3 rfl rfl ?_
  refine Go.lloadN (pc' := 6) d16_5 rfl rfl ?_
  refine Go.lloadN (pc' := 7) d16_6 rfl rfl ?_
  refine Go.lxor (pc' := 8) d16_7 rfl ?_
  show Go _ _ _ _ _ _ _ _ _ _ _ _ 8 #[.val (.long (0 : Int64)), .second, .val (.long (1000000000 : Int64)), .second, .val (.long (0 : Int64)), .second] [(.long (1000000000 : Int64))]
  refine Go.lconst (pc' := 9) (v := (0 : Int64)) d16_8 rfl rfl ?_
  refine Go.lcmp (pc' := 10) d16_9 rfl ?_
  refine Go.ifYes (pc' := 27) d16_10 (XT.ll_ge_t (by decide)) (by decide) (by decide) ?_
  refine Go.lload (pc' := 29) d16_27 rfl rfl ?_
  exact Go.retJ rfl d16_29 ⟨rfl, rfl⟩ (by decide) (by decide)
theorem d18_0 : decode jdk_29_method_52_code 0 = .ok (.lload_n 0, 1) := by decide +kernel
theorem d18_1 : decode jdk_29_method_52_code 1 = .ok (.lload_n 2, 1) := by decide +kernel
theorem d18_2 : decode jdk_29_method_52_code 2 = .ok (.lrem, 1) := by decide +kernel
theorem d18_3 : decode jdk_29_method_52_code 3 = .ok (.lstore 4, 2) := by decide +kernel
theorem d18_5 : decode jdk_29_method_52_code 5 = .ok (.lload_n 0, 1) := by decide +kernel
theorem d18_6 : decode jdk_29_method_52_code 6 = .ok (.lload_n 2, 1) := by decide +kernel
theorem d18_7 : decode jdk_29_method_52_code 7 = .ok (.lxor, 1) := by decide +kernel
theorem d18_8 : decode jdk_29_method_52_code 8 = .ok (.lconst 0, 1) := by decide +kernel
theorem d18_9 : decode jdk_29_method_52_code 9 = .ok (.lcmp, 1) := by decide +kernel
theorem d18_10 : decode jdk_29_method_52_code 10 = .ok (.ifCond .ge 15, 3) := by decide +kernel
theorem d18_25 : decode jdk_29_method_52_code 25 = .ok (.lload 4, 2) := by decide +kernel
theorem d18_27 : decode jdk_29_method_52_code 27 = .ok (.lreturn, 1) := by decide +kernel
set_option maxRecDepth 65536 in
set_option maxHeartbeats 4000000 in
theorem c_floorMod (l : Launch) (Z : State) (a0 : Array Value) (hw : ∀ d ∈ tables_1, d.before a0 Z = true) {n0 : Nat} (h : Heap) :
    Con l (⟨"java/lang/Math", "floorMod", "(JJ)J"⟩ : MethodName) jdk_29_method_52_code 6 (some .long) ({ frames := 0, cells := 0, slots := 0, locals := 0 } : Room) Z n0 #[(.long (0 : Int64)), (.long (1000000000 : Int64))] h (fun v h' => v = some (.long (0 : Int64)) ∧ h = h') := by
  refine Con.of_go (Jvm.Free.JP.mathPlain rfl (by decide +kernel)) (Ls := #[.val (.long (0 : Int64)), .second, .val (.long (1000000000 : Int64)), .second, .unset, .unset]) (fun m => by first | (simp [entryFrame, mkF, argsToLocals, Value.category]; done) | rfl) ?_
  refine Go.lloadN (pc' := 1) d18_0 rfl rfl ?_
  refine Go.lloadN (pc' := 2) d18_1 rfl rfl ?_
  refine Go.lrem (pc' := 3) d18_2 (by decide) rfl ?_
  show Go _ _ _ _ _ _ _ _ _ _ _ _ 3 #[.val (.long (0 : Int64)), .second, .val (.long (1000000000 : Int64)), .second, .unset, .unset] [(.long (0 : Int64))]
  refine Go.lstore (pc' := 5) (Ls' := #[.val (.long (0 : Int64)), .second, .val (.long (1000000000 : Int64)), .second, .val (.long (0 : Int64)), .second]) d18_3 rfl rfl ?_
  refine Go.lloadN (pc' := 6) d18_5 rfl rfl ?_
  refine Go.lloadN (pc' := 7) d18_6 rfl rfl ?_
  refine Go.lxor (pc' := 8) d18_7 rfl ?_
  show Go _ _ _ _ _ _ _ _ _ _ _ _ 8 #[.val (.long (0 : Int64)), .second, .val (.long (1000000000 : Int64)), .second, .val (.long (0 : Int64)), .second] [(.long (1000000000 : Int64))]
  refine Go.lconst (pc' := 9) (v := (0 : Int64)) d18_8 rfl rfl ?_
  refine Go.lcmp (pc' := 10) d18_9 rfl ?_
  refine Go.ifYes (pc' := 25) d18_10 (XT.ll_ge_t (by decide)) (by decide) (by decide) ?_
  refine Go.lload (pc' := 27) d18_25 rfl rfl ?_
  exact Go.retJ rfl d18_27 ⟨rfl, rfl⟩ (by decide) (by decide)
theorem d17_0 : decode jdk_29_method_25_code 0 = .ok (.lload_n 0, 1) := by decide +kernel
theorem d17_1 : decode jdk_29_method_25_code 1 = .ok (.lload_n 2, 1) := by decide +kernel
theorem d17_2 : decode jdk_29_method_25_code 2 = .ok (.ladd, 1) := by decide +kernel
theorem d17_3 : decode jdk_29_method_25_code 3 = .ok (.lstore 4, 2) := by decide +kernel
theorem d17_5 : decode jdk_29_method_25_code 5 = .ok (.lload_n 0, 1) := by decide +kernel
theorem d17_6 : decode jdk_29_method_25_code 6 = .ok (.lload 4, 2) := by decide +kernel
theorem d17_8 : decode jdk_29_method_25_code 8 = .ok (.lxor, 1) := by decide +kernel
theorem d17_9 : decode jdk_29_method_25_code 9 = .ok (.lload_n 2, 1) := by decide +kernel
theorem d17_10 : decode jdk_29_method_25_code 10 = .ok (.lload 4, 2) := by decide +kernel
theorem d17_12 : decode jdk_29_method_25_code 12 = .ok (.lxor, 1) := by decide +kernel
theorem d17_13 : decode jdk_29_method_25_code 13 = .ok (.land, 1) := by decide +kernel
theorem d17_14 : decode jdk_29_method_25_code 14 = .ok (.lconst 0, 1) := by decide +kernel
theorem d17_15 : decode jdk_29_method_25_code 15 = .ok (.lcmp, 1) := by decide +kernel
theorem d17_16 : decode jdk_29_method_25_code 16 = .ok (.ifCond .ge 13, 3) := by decide +kernel
theorem d17_29 : decode jdk_29_method_25_code 29 = .ok (.lload 4, 2) := by decide +kernel
theorem d17_31 : decode jdk_29_method_25_code 31 = .ok (.lreturn, 1) := by decide +kernel
set_option maxRecDepth 65536 in
set_option maxHeartbeats 4000000 in
theorem c_addExact0 (l : Launch) (Z : State) (a0 : Array Value) (hw : ∀ d ∈ tables_1, d.before a0 Z = true) {n0 : Nat} (h : Heap) :
    Con l (⟨"java/lang/Math", "addExact", "(JJ)J"⟩ : MethodName) jdk_29_method_25_code 6 (some .long) ({ frames := 0, cells := 0, slots := 0, locals := 0 } : Room) Z n0 #[(.long (0 : Int64)), (.long (0 : Int64))] h (fun v h' => v = some (.long (0 : Int64)) ∧ h = h') := by
  refine Con.of_go (Jvm.Free.JP.mathPlain rfl (by decide +kernel)) (Ls := #[.val (.long (0 : Int64)), .second, .val (.long (0 : Int64)), .second, .unset, .unset]) (fun m => by first | (simp [entryFrame, mkF, argsToLocals, Value.category]; done) | rfl) ?_
  refine Go.lloadN (pc' := 1) d17_0 rfl rfl ?_
  refine Go.lloadN (pc' := 2) d17_1 rfl rfl ?_
  refine Go.ladd (pc' := 3) d17_2 rfl ?_
  show Go _ _ _ _ _ _ _ _ _ _ _ _ 3 #[.val (.long (0 : Int64)), .second, .val (.long (0 : Int64)), .second, .unset, .unset] [(.long (0 : Int64))]
  refine Go.lstore (pc' := 5) (Ls' := #[.val (.long (0 : Int64)), .second, .val (.long (0 : Int64)), .second, .val (.long (0 : Int64)), .second]) d17_3 rfl rfl ?_
  refine Go.lloadN (pc' := 6) d17_5 rfl rfl ?_
  refine Go.lload (pc' := 8) d17_6 rfl rfl ?_
  refine Go.lxor (pc' := 9) d17_8 rfl ?_
  show Go _ _ _ _ _ _ _ _ _ _ _ _ 9 #[.val (.long (0 : Int64)), .second, .val (.long (0 : Int64)), .second, .val (.long (0 : Int64)), .second] [(.long (0 : Int64))]
  refine Go.lloadN (pc' := 10) d17_9 rfl rfl ?_
  refine Go.lload (pc' := 12) d17_10 rfl rfl ?_
  refine Go.lxor (pc' := 13) d17_12 rfl ?_
  show Go _ _ _ _ _ _ _ _ _ _ _ _ 13 #[.val (.long (0 : Int64)), .second, .val (.long (0 : Int64)), .second, .val (.long (0 : Int64)), .second] [(.long (0 : Int64)), (.long (0 : Int64))]
  refine Go.land (pc' := 14) d17_13 rfl ?_
  show Go _ _ _ _ _ _ _ _ _ _ _ _ 14 #[.val (.long (0 : Int64)), .second, .val (.long (0 : Int64)), .second, .val (.long (0 : Int64)), .second] [(.long (0 : Int64))]
  refine Go.lconst (pc' := 15) (v := (0 : Int64)) d17_14 rfl rfl ?_
  refine Go.lcmp (pc' := 16) d17_15 rfl ?_
  refine Go.ifYes (pc' := 29) d17_16 (XT.ll_ge_t (by decide)) (by decide) (by decide) ?_
  refine Go.lload (pc' := 31) d17_29 rfl rfl ?_
  exact Go.retJ rfl d17_31 ⟨rfl, rfl⟩ (by decide) (by decide)
theorem d4_0 : decode jdk_2320_method_8_code 0 = .ok (.lload_n 0, 1) := by decide +kernel
theorem d4_1 : decode jdk_2320_method_8_code 1 = .ok (.iload_n 2, 1) := by decide +kernel
theorem d4_2 : decode jdk_2320_method_8_code 2 = .ok (.i2l, 1) := by decide +kernel
theorem d4_3 : decode jdk_2320_method_8_code 3 = .ok (.lor, 1) := by decide +kernel
theorem d4_4 : decode jdk_2320_method_8_code 4 = .ok (.lconst 0, 1) := by decide +kernel
theorem d4_5 : decode jdk_2320_method_8_code 5 = .ok (.lcmp, 1) := by decide +kernel
theorem d4_6 : decode jdk_2320_method_8_code 6 = .ok (.ifCond .ne 7, 3) := by decide +kernel
theorem d4_9 : decode jdk_2320_method_8_code 9 = .ok (.getstatic 121, 3) := by decide +kernel
theorem d4_12 : decode jdk_2320_method_8_code 12 = .ok (.areturn, 1) := by decide +kernel
set_option maxRecDepth 65536 in
set_option maxHeartbeats 4000000 in
theorem c_create0 (l : Launch) (Z : State) (a0 : Array Value) (hw : ∀ d ∈ tables_1, d.before a0 Z = true) {n0 : Nat} (h : Heap) (wp : Addr) (sp : Sta Z Z.heap "java/time/Instant" "EPOCH" "Ljava/time/Instant;" (.ref wp)) (xp : Exa Z Z.heap wp "java/time/Instant") (fp : Fld Z Z.heap wp "java/time/Instant" "seconds" "J" (.long (0 : Int64))) (gp : Fld Z Z.heap wp "java/time/Instant" "nanos" "I" (.int (0 : Int32))) :
    Con l (⟨"java/time/Instant", "create", "(JI)Ljava/time/Instant;"⟩ : MethodName) jdk_2320_method_8_code 3 (some (.object "java/time/Instant")) ({ frames := 0, cells := 0, slots := 0, locals := 0 } : Room) Z n0 #[(.long (0 : Int64)), (.int (0 : Int32))] h (fun v h' => v = some (.ref wp) ∧ h = h') := by
  refine Con.of_go (plainFor_of_name pn_0) (Ls := #[.val (.long (0 : Int64)), .second, .val (.int (0 : Int32))]) (fun m => by first | (simp [entryFrame, mkF, argsToLocals, Value.category]; done) | rfl) ?_
  refine Go.lloadN (pc' := 1) d4_0 rfl rfl ?_
  refine Go.iloadN (pc' := 2) d4_1 rfl rfl ?_
  refine Go.i2l (pc' := 3) d4_2 rfl ?_
  show Go _ _ _ _ _ _ _ _ _ _ _ _ 3 #[.val (.long (0 : Int64)), .second, .val (.int (0 : Int32))] [(.long (0 : Int64)), (.long (0 : Int64))]
  refine Go.lor (pc' := 4) d4_3 rfl ?_
  show Go _ _ _ _ _ _ _ _ _ _ _ _ 4 #[.val (.long (0 : Int64)), .second, .val (.int (0 : Int32))] [(.long (0 : Int64))]
  refine Go.lconst (pc' := 5) (v := (0 : Int64)) d4_4 rfl rfl ?_
  refine Go.lcmp (pc' := 6) d4_5 rfl ?_
  refine Go.ifNo (pc' := 9) d4_6 (XT.ll_ne_f (by decide)) rfl ?_
  refine Go.old (fun old1 => ?_)
  refine Go.getstatic (pc' := 12) (host := "") (Or.inl (ww hw 23 rfl)) Via.refl (sp.ext old1.2) d4_9 rfl ?_
  exact Go.retR rfl rfl rfl rfl d4_12 ⟨rfl, rfl⟩ (by decide) (by decide)
theorem d3_0 : decode jdk_2320_method_3_code 0 = .ok (.lload_n 0, 1) := by decide +kernel
theorem d3_1 : decode jdk_2320_method_3_code 1 = .ok (.iconst 0, 1) := by decide +kernel
theorem d3_2 : decode jdk_2320_method_3_code 2 = .ok (.invokestatic 20, 3) := by decide +kernel
theorem d3_5 : decode jdk_2320_method_3_code 5 = .ok (.areturn, 1) := by decide +kernel
theorem pd_0 : parseMethodDescriptor "(JI)Ljava/time/Instant;" = some ⟨[.long, .int], some (.object "java/time/Instant")⟩ := by decide +kernel
set_option maxRecDepth 65536 in
set_option maxHeartbeats 4000000 in
theorem c_ofSec0 (l : Launch) (Z : State) (a0 : Array Value) (hw : ∀ d ∈ tables_1, d.before a0 Z = true) {n0 : Nat} (h : Heap) (wp : Addr) (sp : Sta Z Z.heap "java/time/Instant" "EPOCH" "Ljava/time/Instant;" (.ref wp)) (xp : Exa Z Z.heap wp "java/time/Instant") (fp : Fld Z Z.heap wp "java/time/Instant" "seconds" "J" (.long (0 : Int64))) (gp : Fld Z Z.heap wp "java/time/Instant" "nanos" "I" (.int (0 : Int32))) :
    Con l (⟨"java/time/Instant", "ofEpochSecond", "(J)Ljava/time/Instant;"⟩ : MethodName) jdk_2320_method_3_code 2 (some (.object "java/time/Instant")) ({ frames := 1, cells := 0, slots := 0, locals := 14 } : Room) Z n0 #[(.long (0 : Int64))] h (fun v h' => v = some (.ref wp) ∧ h = h') := by
  refine Con.of_go (plainFor_of_name pn_0) (Ls := #[.val (.long (0 : Int64)), .second]) (fun m => by first | (simp [entryFrame, mkF, argsToLocals, Value.category]; done) | rfl) ?_
  refine Go.lloadN (pc' := 1) d3_0 rfl rfl ?_
  refine Go.iconst (pc' := 2) (v := (0 : Int32)) d3_1 rfl rfl ?_
  refine Go.callS (cells' := 0) (slots' := 0) (pc' := 5) [(.long (0 : Int64)), (.int (0 : Int32))] [] (ww hw 20 rfl) (ww hw 21 rfl) (ww hw 18 rfl) (ww hw 22 rfl) (by decide) (c_create0 l Z a0 hw h wp sp xp fp gp) pd_0 rfl rfl rfl rfl rfl (nl rfl) (nl rfl) (nl rfl) (nl rfl) d3_2 rfl ?_
  rintro _ _ ⟨rfl, rfl⟩
  show Go _ _ _ _ _ _ _ _ _ _ _ _ 5 #[.val (.long (0 : Int64)), .second] [(.ref wp)]
  exact Go.retR rfl rfl rfl rfl d3_5 ⟨rfl, rfl⟩ (by decide) (by decide)
theorem d15_0 : decode jdk_2320_method_4_code 0 = .ok (.lload_n 0, 1) := by decide +kernel
theorem d15_1 : decode jdk_2320_method_4_code 1 = .ok (.lload_n 2, 1) := by decide +kernel
theorem d15_2 : decode jdk_2320_method_4_code 2 = .ok (.ldc2_w 26, 3) := by decide +kernel
theorem d15_5 : decode jdk_2320_method_4_code 5 = .ok (.invokestatic 28, 3) := by decide +kernel
theorem d15_8 : decode jdk_2320_method_4_code 8 = .ok (.invokestatic 34, 3) := by decide +kernel
theorem d15_11 : decode jdk_2320_method_4_code 11 = .ok (.lstore 4, 2) := by decide +kernel
theorem d15_13 : decode jdk_2320_method_4_code 13 = .ok (.lload_n 2, 1) := by decide +kernel
theorem d15_14 : decode jdk_2320_method_4_code 14 = .ok (.ldc2_w 26, 3) := by decide +kernel
theorem d15_17 : decode jdk_2320_method_4_code 17 = .ok (.invokestatic 37, 3) := by decide +kernel
theorem d15_20 : decode jdk_2320_method_4_code 20 = .ok (.l2i, 1) := by decide +kernel
theorem d15_21 : decode jdk_2320_method_4_code 21 = .ok (.istore 6, 2) := by decide +kernel
theorem d15_23 : decode jdk_2320_method_4_code 23 = .ok (.lload 4, 2) := by decide +kernel
theorem d15_25 : decode jdk_2320_method_4_code 25 = .ok (.iload 6, 2) := by decide +kernel
theorem d15_27 : decode jdk_2320_method_4_code 27 = .ok (.invokestatic 20, 3) := by decide +kernel
theorem d15_30 : decode jdk_2320_method_4_code 30 = .ok (.areturn, 1) := by decide +kernel
theorem pd_1 : parseMethodDescriptor "(JJ)J" = some ⟨[.long, .long], some .long⟩ := by decide +kernel
set_option maxRecDepth 65536 in
set_option maxHeartbeats 4000000 in
theorem c_ofSecN0 (l : Launch) (Z : State) (a0 : Array Value) (hw : ∀ d ∈ tables_1, d.before a0 Z = true) {n0 : Nat} (h : Heap) (wp : Addr) (sp : Sta Z Z.heap "java/time/Instant" "EPOCH" "Ljava/time/Instant;" (.ref wp)) (xp : Exa Z Z.heap wp "java/time/Instant") (fp : Fld Z Z.heap wp "java/time/Instant" "seconds" "J" (.long (0 : Int64))) (gp : Fld Z Z.heap wp "java/time/Instant" "nanos" "I" (.int (0 : Int32))) :
    Con l (⟨"java/time/Instant", "ofEpochSecond", "(JJ)Ljava/time/Instant;"⟩ : MethodName) jdk_2320_method_4_code 7 (some (.object "java/time/Instant")) ({ frames := 1, cells := 0, slots := 0, locals := 19 } : Room) Z n0 #[(.long (0 : Int64)), (.long (0 : Int64))] h (fun v h' => v = some (.ref wp) ∧ h = h') := by
  refine Con.of_go (plainFor_of_name pn_0) (Ls := #[.val (.long (0 : Int64)), .second, .val (.long (0 : Int64)), .second, .unset, .unset, .unset]) (fun m => by first | (simp [entryFrame, mkF, argsToLocals, Value.category]; done) | rfl) ?_
  refine Go.lloadN (pc' := 1) d15_0 rfl rfl ?_
  refine Go.lloadN (pc' := 2) d15_1 rfl rfl ?_
  refine Go.ldc2J (pc' := 5) (ww hw 90 rfl) d15_2 rfl ?_
  refine Go.callS (cells' := 0) (slots' := 0) (pc' := 8) [(.long (0 : Int64)), (.long (1000000000 : Int64))] [(.long (0 : Int64))] (ww hw 91 rfl) (ww hw 92 rfl) (ww hw 93 rfl) (ww hw 94 rfl) (by decide) (c_floorDiv l Z a0 hw h) pd_1 rfl rfl rfl rfl rfl (nl rfl) (nl rfl) (nl rfl) (nl rfl) d15_5 rfl ?_
  rintro _ _ ⟨rfl, rfl⟩
  show Go _ _ _ _ _ _ _ _ _ _ _ _ 8 #[.val (.long (0 : Int64)), .second, .val (.long (0 : Int64)), .second, .unset, .unset, .unset] [(.long (0 : Int64)), (.long (0 : Int64))]
  refine Go.callS (cells' := 0) (slots' := 0) (pc' := 11) [(.long (0 : Int64)), (.long (0 : Int64))] [] (ww hw 95 rfl) (ww hw 96 rfl) (ww hw 93 rfl) (ww hw 97 rfl) (by decide) (c_addExact0 l Z a0 hw h) pd_1 rfl rfl rfl rfl rfl (nl rfl) (nl rfl) (nl rfl) (nl rfl) d15_8 rfl ?_
  rintro _ _ ⟨rfl, rfl⟩
  show Go _ _ _ _ _ _ _ _ _ _ _ _ 11 #[.val (.long (0 : Int64)), .second, .val (.long (0 : Int64)), .second, .unset, .unset, .unset] [(.long (0 : Int64))]
  refine Go.lstore (pc' := 13) (Ls' := #[.val (.long (0 : Int64)), .second, .val (.long (0 : Int64)), .second, .val (.long (0 : Int64)), .second, .unset]) d15_11 rfl rfl ?_
  refine Go.lloadN (pc' := 14) d15_13 rfl rfl ?_
  refine Go.ldc2J (pc' := 17) (ww hw 90 rfl) d15_14 rfl ?_
  refine Go.callS (cells' := 0) (slots' := 0) (pc' := 20) [(.long (0 : Int64)), (.long (1000000000 : Int64))] [] (ww hw 98 rfl) (ww hw 99 rfl) (ww hw 93 rfl) (ww hw 100 rfl) (by decide) (c_floorMod l Z a0 hw h) pd_1 rfl rfl rfl rfl rfl (nl rfl) (nl rfl) (nl rfl) (nl rfl) d15_17 rfl ?_
  rintro _ _ ⟨rfl, rfl⟩
  show Go _ _ _ _ _ _ _ _ _ _ _ _ 20 #[.val (.long (0 : Int64)), .second, .val (.long (0 : Int64)), .second, .val (.long (0 : Int64)), .second, .unset] [(.long (0 : Int64))]
  refine Go.l2i (pc' := 21) d15_20 rfl ?_
  show Go _ _ _ _ _ _ _ _ _ _ _ _ 21 #[.val (.long (0 : Int64)), .second, .val (.long (0 : Int64)), .second, .val (.long (0 : Int64)), .second, .unset] [(.int (0 : Int32))]
  refine Go.istore (pc' := 23) (Ls' := #[.val (.long (0 : Int64)), .second, .val (.long (0 : Int64)), .second, .val (.long (0 : Int64)), .second, .val (.int (0 : Int32))]) d15_21 rfl rfl ?_
  refine Go.lload (pc' := 25) d15_23 rfl rfl ?_
  refine Go.iload (pc' := 27) d15_25 rfl rfl ?_
  refine Go.callS (cells' := 0) (slots' := 0) (pc' := 30) [(.long (0 : Int64)), (.int (0 : Int32))] [] (ww hw 20 rfl) (ww hw 21 rfl) (ww hw 18 rfl) (ww hw 22 rfl) (by decide) (c_create0 l Z a0 hw h wp sp xp fp gp) pd_0 rfl rfl rfl rfl rfl (nl rfl) (nl rfl) (nl rfl) (nl rfl) d15_27 rfl ?_
  rintro _ _ ⟨rfl, rfl⟩
  show Go _ _ _ _ _ _ _ _ _ _ _ _ 30 #[.val (.long (0 : Int64)), .second, .val (.long (0 : Int64)), .second, .val (.long (0 : Int64)), .second, .val (.int (0 : Int32))] [(.ref wp)]
  exact Go.retR rfl rfl rfl rfl d15_30 ⟨rfl, rfl⟩ (by decide) (by decide)
set_option maxRecDepth 65536 in
set_option maxHeartbeats 4000000 in
theorem c_addExact1 (l : Launch) (Z : State) (a0 : Array Value) (hw : ∀ d ∈ tables_1, d.before a0 Z = true) {n0 : Nat} (h : Heap) :
    Con l (⟨"java/lang/Math", "addExact", "(JJ)J"⟩ : MethodName) jdk_29_method_25_code 6 (some .long) ({ frames := 0, cells := 0, slots := 0, locals := 0 } : Room) Z n0 #[(.long (1 : Int64)), (.long (0 : Int64))] h (fun v h' => v = some (.long (1 : Int64)) ∧ h = h') := by
  refine Con.of_go (Jvm.Free.JP.mathPlain rfl (by decide +kernel)) (Ls := #[.val (.long (1 : Int64)), .second, .val (.long (0 : Int64)), .second, .unset, .unset]) (fun m => by first | (simp [entryFrame, mkF, argsToLocals, Value.category]; done) | rfl) ?_
  refine Go.lloadN (pc' := 1) d17_0 rfl rfl ?_
  refine Go.lloadN (pc' := 2) d17_1 rfl rfl ?_
  refine Go.ladd (pc' := 3) d17_2 rfl ?_
  show Go _ _ _ _ _ _ _ _ _ _ _ _ 3 #[.val (.long (1 : Int64)), .second, .val (.long (0 : Int64)), .second, .unset, .unset] [(.long (1 : Int64))]
  refine Go.lstore (pc' := 5) (Ls' := #[.val (.long (1 : Int64)), .second, .val (.long (0 : Int64)), .second, .val (.long (1 : Int64)), .second]) d17_3 rfl rfl ?_
  refine Go.lloadN (pc' := 6) d17_5 rfl rfl ?_
  refine Go.lload (pc' := 8) d17_6 rfl rfl ?_
  refine Go.lxor (pc' := 9) d17_8 rfl ?_
  show Go _ _ _ _ _ _ _ _ _ _ _ _ 9 #[.val (.long (1 : Int64)), .second, .val (.long (0 : Int64)), .second, .val (.long (1 : Int64)), .second] [(.long (0 : Int64))]
  refine Go.lloadN (pc' := 10) d17_9 rfl rfl ?_
  refine Go.lload (pc' := 12) d17_10 rfl rfl ?_
  refine Go.lxor (pc' := 13) d17_12 rfl ?_
  show Go _ _ _ _ _ _ _ _ _ _ _ _ 13 #[.val (.long (1 : Int64)), .second, .val (.long (0 : Int64)), .second, .val (.long (1 : Int64)), .second] [(.long (1 : Int64)), (.long (0 : Int64))]
  refine Go.land (pc' := 14) d17_13 rfl ?_
  show Go _ _ _ _ _ _ _ _ _ _ _ _ 14 #[.val (.long (1 : Int64)), .second, .val (.long (0 : Int64)), .second, .val (.long (1 : Int64)), .second] [(.long (0 : Int64))]
  refine Go.lconst (pc' := 15) (v := (0 : Int64)) d17_14 rfl rfl ?_
  refine Go.lcmp (pc' := 16) d17_15 rfl ?_
  refine Go.ifYes (pc' := 29) d17_16 (XT.ll_ge_t (by decide)) (by decide) (by decide) ?_
  refine Go.lload (pc' := 31) d17_29 rfl rfl ?_
  exact Go.retJ rfl d17_31 ⟨rfl, rfl⟩ (by decide) (by decide)
theorem d4_13 : decode jdk_2320_method_8_code 13 = .ok (.lload_n 0, 1) := by decide +kernel
theorem d4_14 : decode jdk_2320_method_8_code 14 = .ok (.ldc2_w 125, 3) := by decide +kernel
theorem d4_17 : decode jdk_2320_method_8_code 17 = .ok (.lcmp, 1) := by decide +kernel
theorem d4_18 : decode jdk_2320_method_8_code 18 = .ok (.ifCond .lt 11, 3) := by decide +kernel
theorem d4_21 : decode jdk_2320_method_8_code 21 = .ok (.lload_n 0, 1) := by decide +kernel
theorem d4_22 : decode jdk_2320_method_8_code 22 = .ok (.ldc2_w 127, 3) := by decide +kernel
theorem d4_25 : decode jdk_2320_method_8_code 25 = .ok (.lcmp, 1) := by decide +kernel
theorem d4_26 : decode jdk_2320_method_8_code 26 = .ok (.ifCond .le 13, 3) := by decide +kernel
theorem d4_39 : decode jdk_2320_method_8_code 39 = .ok (.new 21, 3) := by decide +kernel
theorem d4_42 : decode jdk_2320_method_8_code 42 = .ok (.dup, 1) := by decide +kernel
theorem d4_43 : decode jdk_2320_method_8_code 43 = .ok (.lload_n 0, 1) := by decide +kernel
theorem d4_44 : decode jdk_2320_method_8_code 44 = .ok (.iload_n 2, 1) := by decide +kernel
theorem d4_45 : decode jdk_2320_method_8_code 45 = .ok (.invokespecial 134, 3) := by decide +kernel
theorem d4_48 : decode jdk_2320_method_8_code 48 = .ok (.areturn, 1) := by decide +kernel
theorem pd_2 : parseMethodDescriptor "(JI)V" = some ⟨[.long, .int], none⟩ := by decide +kernel
set_option maxRecDepth 65536 in
set_option maxHeartbeats 4000000 in
theorem c_create1 (l : Launch) (Z : State) (a0 : Array Value) (hw : ∀ d ∈ tables_1, d.before a0 Z = true) {n0 : Nat} (h : Heap) :
    Con l (⟨"java/time/Instant", "create", "(JI)Ljava/time/Instant;"⟩ : MethodName) jdk_2320_method_8_code 3 (some (.object "java/time/Instant")) ({ frames := 2, cells := 1, slots := 2, locals := 28 } : Room) Z n0 #[(.long (1 : Int64)), (.int (0 : Int32))] h (fun v h' => ∃ r : Addr, v = some (.ref r) ∧ Keep h h' [] ∧ n0 ≤ r ∧ h.size ≤ r ∧ Exa Z h' r "java/time/Instant" ∧ Fld Z h' r "java/time/Instant" "seconds" "J" (.long (1 : Int64)) ∧ Fld Z h' r "java/time/Instant" "nanos" "I" (.int (0 : Int32))) := by
  refine Con.of_go (plainFor_of_name pn_0) (Ls := #[.val (.long (1 : Int64)), .second, .val (.int (0 : Int32))]) (fun m => by first | (simp [entryFrame, mkF, argsToLocals, Value.category]; done) | rfl) ?_
  refine Go.lloadN (pc' := 1) d4_0 rfl rfl ?_
  refine Go.iloadN (pc' := 2) d4_1 rfl rfl ?_
  refine Go.i2l (pc' := 3) d4_2 rfl ?_
  show Go _ _ _ _ _ _ _ _ _ _ _ _ 3 #[.val (.long (1 : Int64)), .second, .val (.int (0 : Int32))] [(.long (0 : Int64)), (.long (1 : Int64))]
  refine Go.lor (pc' := 4) d4_3 rfl ?_
  show Go _ _ _ _ _ _ _ _ _ _ _ _ 4 #[.val (.long (1 : Int64)), .second, .val (.int (0 : Int32))] [(.long (1 : Int64))]
  refine Go.lconst (pc' := 5) (v := (0 : Int64)) d4_4 rfl rfl ?_
  refine Go.lcmp (pc' := 6) d4_5 rfl ?_
  refine Go.ifYes (pc' := 13) d4_6 (XT.ll_ne_t (by decide)) (by decide) (by decide) ?_
  refine Go.lloadN (pc' := 14) d4_13 rfl rfl ?_
  refine Go.ldc2J (pc' := 17) (ww hw 53 rfl) d4_14 rfl ?_
  refine Go.lcmp (pc' := 18) d4_17 rfl ?_
  refine Go.ifNo (pc' := 21) d4_18 (XT.ll_lt_f (by decide)) rfl ?_
  refine Go.lloadN (pc' := 22) d4_21 rfl rfl ?_
  refine Go.ldc2J (pc' := 25) (ww hw 54 rfl) d4_22 rfl ?_
  refine Go.lcmp (pc' := 26) d4_25 rfl ?_
  refine Go.ifYes (pc' := 39) d4_26 (XT.ll_le_t (by decide)) (by decide) (by decide) ?_
  refine Go.new (pc' := 42) (cells' := 1) (slots' := 2) (ww hw 55 rfl) (ww hw 56 rfl) (ww hw 18 rfl) d4_39 rfl rfl (by decide) (by decide) rfl ?_
  intro h1 b1 g1 E1 ge1 A1 D1
  have sz2 : h.size ≤ b1 := Nat.le_trans (Keep.refl h []).1 (Nat.le_of_eq g1.symm)
  have K3 : Keep h h1 [] := (Keep.refl h []).ext E1
  refine Go.dup (pc' := 43) d4_42 rfl rfl ?_
  refine Go.lloadN (pc' := 44) d4_43 rfl rfl ?_
  refine Go.iloadN (pc' := 45) d4_44 rfl rfl ?_
  refine Go.callC (cells' := 1) (slots' := 2) (pc' := 48) [(.long (1 : Int64)), (.int (0 : Int32))] [(.ref b1)] (a := b1) rfl rfl (ww hw 57 rfl) (ww hw 58 rfl) (ww hw 18 rfl) (ww hw 60 rfl) (by decide) (c_insInit l Z a0 hw h1 b1 (1 : Int64) (0 : Int32) ge1 A1 ((D1 (Or.inr (ww hw 45 rfl)) (ty := .long) (by decide) : Fld Z h1 b1 "java/time/Instant" "seconds" "J" (.long (0 : Int64)))) ((D1 (Or.inr (ww hw 52 rfl)) (ty := .int) (by decide) : Fld Z h1 b1 "java/time/Instant" "nanos" "I" (.int (0 : Int32))))) pd_2 rfl rfl rfl rfl rfl (nl rfl) (nl rfl) (nl rfl) (nl rfl) d4_45 rfl ?_
  rintro _ h4 ⟨rfl, K4, F4_0, F4_1⟩
  have K5 : Keep h h4 [] := K3.trans K4 (allS (Or.inr sz2) all0)
  show Go _ _ _ _ _ _ _ _ _ _ _ _ 48 #[.val (.long (1 : Int64)), .second, .val (.int (0 : Int32))] [(.ref b1)]
  exact Go.retR rfl rfl rfl rfl d4_48 ⟨b1, rfl, K5, ge1, sz2, (A1.keep K4), F4_0, F4_1⟩ (by decide) (by decide)
set_option maxRecDepth 65536 in
set_option maxHeartbeats 4000000 in
theorem c_ofSec1 (l : Launch) (Z : State) (a0 : Array Value) (hw : ∀ d ∈ tables_1, d.before a0 Z = true) {n0 : Nat} (h : Heap) :
    Con l (⟨"java/time/Instant", "ofEpochSecond", "(J)Ljava/time/Instant;"⟩ : MethodName) jdk_2320_method_3_code 2 (some (.object "java/time/Instant")) ({ frames := 3, cells := 1, slots := 2, locals := 42 } : Room) Z n0 #[(.long (1 : Int64))] h (fun v h' => ∃ r : Addr, v = some (.ref r) ∧ Keep h h' [] ∧ n0 ≤ r ∧ h.size ≤ r ∧ Exa Z h' r "java/time/Instant" ∧ Fld Z h' r "java/time/Instant" "seconds" "J" (.long (1 : Int64)) ∧ Fld Z h' r "java/time/Instant" "nanos" "I" (.int (0 : Int32))) := by
  refine Con.of_go (plainFor_of_name pn_0) (Ls := #[.val (.long (1 : Int64)), .second]) (fun m => by first | (simp [entryFrame, mkF, argsToLocals, Value.category]; done) | rfl) ?_
  refine Go.lloadN (pc' := 1) d3_0 rfl rfl ?_
  refine Go.iconst (pc' := 2) (v := (0 : Int32)) d3_1 rfl rfl ?_
  refine Go.callS (cells' := 1) (slots' := 2) (pc' := 5) [(.long (1 : Int64)), (.int (0 : Int32))] [] (ww hw 20 rfl) (ww hw 21 rfl) (ww hw 18 rfl) (ww hw 22 rfl) (by decide) (c_create1 l Z a0 hw h) pd_0 rfl rfl rfl rfl rfl (nl rfl) (nl rfl) (nl rfl) (nl rfl) d3_2 rfl ?_
  rintro _ h1 ⟨r_1, rfl, K1, ge_r_1, sz_r_1, F1_0, F1_1, F1_2⟩
  have sz2 : h.size ≤ r_1 := Nat.le_trans (Keep.refl h []).1 sz_r_1
  have K3 : Keep h h1 [] := (Keep.refl h []).trans K1 all0
  show Go _ _ _ _ _ _ _ _ _ _ _ _ 5 #[.val (.long (1 : Int64)), .second] [(.ref r_1)]
  exact Go.retR rfl rfl rfl rfl d3_5 ⟨r_1, rfl, K3, ge_r_1, sz2, F1_0, F1_1, F1_2⟩ (by decide) (by decide)
set_option maxRecDepth 65536 in
set_option maxHeartbeats 4000000 in
theorem c_ofSecN1 (l : Launch) (Z : State) (a0 : Array Value) (hw : ∀ d ∈ tables_1, d.before a0 Z = true) {n0 : Nat} (h : Heap) :
    Con l (⟨"java/time/Instant", "ofEpochSecond", "(JJ)Ljava/time/Instant;"⟩ : MethodName) jdk_2320_method_4_code 7 (some (.object "java/time/Instant")) ({ frames := 3, cells := 1, slots := 2, locals := 42 } : Room) Z n0 #[(.long (1 : Int64)), (.long (0 : Int64))] h (fun v h' => ∃ r : Addr, v = some (.ref r) ∧ Keep h h' [] ∧ n0 ≤ r ∧ h.size ≤ r ∧ Exa Z h' r "java/time/Instant" ∧ Fld Z h' r "java/time/Instant" "seconds" "J" (.long (1 : Int64)) ∧ Fld Z h' r "java/time/Instant" "nanos" "I" (.int (0 : Int32))) := by
  refine Con.of_go (plainFor_of_name pn_0) (Ls := #[.val (.long (1 : Int64)), .second, .val (.long (0 : Int64)), .second, .unset, .unset, .unset]) (fun m => by first | (simp [entryFrame, mkF, argsToLocals, Value.category]; done) | rfl) ?_
  refine Go.lloadN (pc' := 1) d15_0 rfl rfl ?_
  refine Go.lloadN (pc' := 2) d15_1 rfl rfl ?_
  refine Go.ldc2J (pc' := 5) (ww hw 90 rfl) d15_2 rfl ?_
  refine Go.callS (cells' := 0) (slots' := 0) (pc' := 8) [(.long (0 : Int64)), (.long (1000000000 : Int64))] [(.long (1 : Int64))] (ww hw 91 rfl) (ww hw 92 rfl) (ww hw 93 rfl) (ww hw 94 rfl) (by decide) (c_floorDiv l Z a0 hw h) pd_1 rfl rfl rfl rfl rfl (nl rfl) (nl rfl) (nl rfl) (nl rfl) d15_5 rfl ?_
  rintro _ _ ⟨rfl, rfl⟩
  show Go _ _ _ _ _ _ _ _ _ _ _ _ 8 #[.val (.long (1 : Int64)), .second, .val (.long (0 : Int64)), .second, .unset, .unset, .unset] [(.long (0 : Int64)), (.long (1 : Int64))]
  refine Go.callS (cells' := 0) (slots' := 0) (pc' := 11) [(.long (1 : Int64)), (.long (0 : Int64))] [] (ww hw 95 rfl) (ww hw 96 rfl) (ww hw 93 rfl) (ww hw 97 rfl) (by decide) (c_addExact1 l Z a0 hw h) pd_1 rfl rfl rfl rfl rfl (nl rfl) (nl rfl) (nl rfl) (nl rfl) d15_8 rfl ?_
  rintro _ _ ⟨rfl, rfl⟩
  show Go _ _ _ _ _ _ _ _ _ _ _ _ 11 #[.val (.long (1 : Int64)), .second, .val (.long (0 : Int64)), .second, .unset, .unset, .unset] [(.long (1 : Int64))]
  refine Go.lstore (pc' := 13) (Ls' := #[.val (.long (1 : Int64)), .second, .val (.long (0 : Int64)), .second, .val (.long (1 : Int64)), .second, .unset]) d15_11 rfl rfl ?_
  refine Go.lloadN (pc' := 14) d15_13 rfl rfl ?_
  refine Go.ldc2J (pc' := 17) (ww hw 90 rfl) d15_14 rfl ?_
  refine Go.callS (cells' := 0) (slots' := 0) (pc' := 20) [(.long (0 : Int64)), (.long (1000000000 : Int64))] [] (ww hw 98 rfl) (ww hw 99 rfl) (ww hw 93 rfl) (ww hw 100 rfl) (by decide) (c_floorMod l Z a0 hw h) pd_1 rfl rfl rfl rfl rfl (nl rfl) (nl rfl) (nl rfl) (nl rfl) d15_17 rfl ?_
  rintro _ _ ⟨rfl, rfl⟩
  show Go _ _ _ _ _ _ _ _ _ _ _ _ 20 #[.val (.long (1 : Int64)), .second, .val (.long (0 : Int64)), .second, .val (.long (1 : Int64)), .second, .unset] [(.long (0 : Int64))]
  refine Go.l2i (pc' := 21) d15_20 rfl ?_
  show Go _ _ _ _ _ _ _ _ _ _ _ _ 21 #[.val (.long (1 : Int64)), .second, .val (.long (0 : Int64)), .second, .val (.long (1 : Int64)), .second, .unset] [(.int (0 : Int32))]
  refine Go.istore (pc' := 23) (Ls' := #[.val (.long (1 : Int64)), .second, .val (.long (0 : Int64)), .second, .val (.long (1 : Int64)), .second, .val (.int (0 : Int32))]) d15_21 rfl rfl ?_
  refine Go.lload (pc' := 25) d15_23 rfl rfl ?_
  refine Go.iload (pc' := 27) d15_25 rfl rfl ?_
  refine Go.callS (cells' := 1) (slots' := 2) (pc' := 30) [(.long (1 : Int64)), (.int (0 : Int32))] [] (ww hw 20 rfl) (ww hw 21 rfl) (ww hw 18 rfl) (ww hw 22 rfl) (by decide) (c_create1 l Z a0 hw h) pd_0 rfl rfl rfl rfl rfl (nl rfl) (nl rfl) (nl rfl) (nl rfl) d15_27 rfl ?_
  rintro _ h4 ⟨r_4, rfl, K4, ge_r_4, sz_r_4, F4_0, F4_1, F4_2⟩
  have sz5 : h.size ≤ r_4 := Nat.le_trans (Keep.refl h []).1 sz_r_4
  have K6 : Keep h h4 [] := (Keep.refl h []).trans K4 all0
  show Go _ _ _ _ _ _ _ _ _ _ _ _ 30 #[.val (.long (1 : Int64)), .second, .val (.long (0 : Int64)), .second, .val (.long (1 : Int64)), .second, .val (.int (0 : Int32))] [(.ref r_4)]
  exact Go.retR rfl rfl rfl rfl d15_30 ⟨r_4, rfl, K6, ge_r_4, sz5, F4_0, F4_1, F4_2⟩ (by decide) (by decide)
set_option maxRecDepth 65536 in
set_option maxHeartbeats 4000000 in
theorem c_addExact2 (l : Launch) (Z : State) (a0 : Array Value) (hw : ∀ d ∈ tables_1, d.before a0 Z = true) {n0 : Nat} (h : Heap) :
    Con l (⟨"java/lang/Math", "addExact", "(JJ)J"⟩ : MethodName) jdk_29_method_25_code 6 (some .long) ({ frames := 0, cells := 0, slots := 0, locals := 0 } : Room) Z n0 #[(.long (2 : Int64)), (.long (0 : Int64))] h (fun v h' => v = some (.long (2 : Int64)) ∧ h = h') := by
  refine Con.of_go (Jvm.Free.JP.mathPlain rfl (by decide +kernel)) (Ls := #[.val (.long (2 : Int64)), .second, .val (.long (0 : Int64)), .second, .unset, .unset]) (fun m => by first | (simp [entryFrame, mkF, argsToLocals, Value.category]; done) | rfl) ?_
  refine Go.lloadN (pc' := 1) d17_0 rfl rfl ?_
  refine Go.lloadN (pc' := 2) d17_1 rfl rfl ?_
  refine Go.ladd (pc' := 3) d17_2 rfl ?_
  show Go _ _ _ _ _ _ _ _ _ _ _ _ 3 #[.val (.long (2 : Int64)), .second, .val (.long (0 : Int64)), .second, .unset, .unset] [(.long (2 : Int64))]
  refine Go.lstore (pc' := 5) (Ls' := #[.val (.long (2 : Int64)), .second, .val (.long (0 : Int64)), .second, .val (.long (2 : Int64)), .second]) d17_3 rfl rfl ?_
  refine Go.lloadN (pc' := 6) d17_5 rfl rfl ?_
  refine Go.lload (pc' := 8) d17_6 rfl rfl ?_
  refine Go.lxor (pc' := 9) d17_8 rfl ?_
  show Go _ _ _ _ _ _ _ _ _ _ _ _ 9 #[.val (.long (2 : Int64)), .second, .val (.long (0 : Int64)), .second, .val (.long (2 : Int64)), .second] [(.long (0 : Int64))]
  refine Go.lloadN (pc' := 10) d17_9 rfl rfl ?_
  refine Go.lload (pc' := 12) d17_10 rfl rfl ?_
  refine Go.lxor (pc' := 13) d17_12 rfl ?_
  show Go _ _ _ _ _ _ _ _ _ _ _ _ 13 #[.val (.long (2 : Int64)), .second, .val (.long (0 : Int64)), .second, .val (.long (2 : Int64)), .second] [(.long (2 : Int64)), (.long (0 : Int64))]
  refine Go.land (pc' := 14) d17_13 rfl ?_
  show Go _ _ _ _ _ _ _ _ _ _ _ _ 14 #[.val (.long (2 : Int64)), .second, .val (.long (0 : Int64)), .second, .val (.long (2 : Int64)), .second] [(.long (0 : Int64))]
  refine Go.lconst (pc' := 15) (v := (0 : Int64)) d17_14 rfl rfl ?_
  refine Go.lcmp (pc' := 16) d17_15 rfl ?_
  refine Go.ifYes (pc' := 29) d17_16 (XT.ll_ge_t (by decide)) (by decide) (by decide) ?_
  refine Go.lload (pc' := 31) d17_29 rfl rfl ?_
  exact Go.retJ rfl d17_31 ⟨rfl, rfl⟩ (by decide) (by decide)
set_option maxRecDepth 65536 in
set_option maxHeartbeats 4000000 in
theorem c_create2 (l : Launch) (Z : State) (a0 : Array Value) (hw : ∀ d ∈ tables_1, d.before a0 Z = true) {n0 : Nat} (h : Heap) :
    Con l (⟨"java/time/Instant", "create", "(JI)Ljava/time/Instant;"⟩ : MethodName) jdk_2320_method_8_code 3 (some (.object "java/time/Instant")) ({ frames := 2, cells := 1, slots := 2, locals := 28 } : Room) Z n0 #[(.long (2 : Int64)), (.int (0 : Int32))] h (fun v h' => ∃ r : Addr, v = some (.ref r) ∧ Keep h h' [] ∧ n0 ≤ r ∧ h.size ≤ r ∧ Exa Z h' r "java/time/Instant" ∧ Fld Z h' r "java/time/Instant" "seconds" "J" (.long (2 : Int64)) ∧ Fld Z h' r "java/time/Instant" "nanos" "I" (.int (0 : Int32))) := by
  refine Con.of_go (plainFor_of_name pn_0) (Ls := #[.val (.long (2 : Int64)), .second, .val (.int (0 : Int32))]) (fun m => by first | (simp [entryFrame, mkF, argsToLocals, Value.category]; done) | rfl) ?_
  refine Go.lloadN (pc' := 1) d4_0 rfl rfl ?_
  refine Go.iloadN (pc' := 2) d4_1 rfl rfl ?_
  refine Go.i2l (pc' := 3) d4_2 rfl ?_
  show Go _ _ _ _ _ _ _ _ _ _ _ _ 3 #[.val (.long (2 : Int64)), .second, .val (.int (0 : Int32))] [(.long (0 : Int64)), (.long (2 : Int64))]
  refine Go.lor (pc' := 4) d4_3 rfl ?_
  show Go _ _ _ _ _ _ _ _ _ _ _ _ 4 #[.val (.long (2 : Int64)), .second, .val (.int (0 : Int32))] [(.long (2 : Int64))]
  refine Go.lconst (pc' := 5) (v := (0 : Int64)) d4_4 rfl rfl ?_
  refine Go.lcmp (pc' := 6) d4_5 rfl ?_
  refine Go.ifYes (pc' := 13) d4_6 (XT.ll_ne_t (by decide)) (by decide) (by decide) ?_
  refine Go.lloadN (pc' := 14) d4_13 rfl rfl ?_
  refine Go.ldc2J (pc' := 17) (ww hw 53 rfl) d4_14 rfl ?_
  refine Go.lcmp (pc' := 18) d4_17 rfl ?_
  refine Go.ifNo (pc' := 21) d4_18 (XT.ll_lt_f (by decide)) rfl ?_
  refine Go.lloadN (pc' := 22) d4_21 rfl rfl ?_
  refine Go.ldc2J (pc' := 25) (ww hw 54 rfl) d4_22 rfl ?_
  refine Go.lcmp (pc' := 26) d4_25 rfl ?_
  refine Go.ifYes (pc' := 39) d4_26 (XT.ll_le_t (by decide)) (by decide) (by decide) ?_
  refine Go.new (pc' := 42) (cells' := 1) (slots' := 2) (ww hw 55 rfl) (ww hw 56 rfl) (ww hw 18 rfl) d4_39 rfl rfl (by decide) (by decide) rfl ?_
  intro h1 b1 g1 E1 ge1 A1 D1
  have sz2 : h.size ≤ b1 := Nat.le_trans (Keep.refl h []).1 (Nat.le_of_eq g1.symm)
  have K3 : Keep h h1 [] := (Keep.refl h []).ext E1
  refine Go.dup (pc' := 43) d4_42 rfl rfl ?_
  refine Go.lloadN (pc' := 44) d4_43 rfl rfl ?_
  refine Go.iloadN (pc' := 45) d4_44 rfl rfl ?_
  refine Go.callC (cells' := 1) (slots' := 2) (pc' := 48) [(.long (2 : Int64)), (.int (0 : Int32))] [(.ref b1)] (a := b1) rfl rfl (ww hw 57 rfl) (ww hw 58 rfl) (ww hw 18 rfl) (ww hw 60 rfl) (by decide) (c_insInit l Z a0 hw h1 b1 (2 : Int64) (0 : Int32) ge1 A1 ((D1 (Or.inr (ww hw 45 rfl)) (ty := .long) (by decide) : Fld Z h1 b1 "java/time/Instant" "seconds" "J" (.long (0 : Int64)))) ((D1 (Or.inr (ww hw 52 rfl)) (ty := .int) (by decide) : Fld Z h1 b1 "java/time/Instant" "nanos" "I" (.int (0 : Int32))))) pd_2 rfl rfl rfl rfl rfl (nl rfl) (nl rfl) (nl rfl) (nl rfl) d4_45 rfl ?_
  rintro _ h4 ⟨rfl, K4, F4_0, F4_1⟩
  have K5 : Keep h h4 [] := K3.trans K4 (allS (Or.inr sz2) all0)
  show Go _ _ _ _ _ _ _ _ _ _ _ _ 48 #[.val (.long (2 : Int64)), .second, .val (.int (0 : Int32))] [(.ref b1)]
  exact Go.retR rfl rfl rfl rfl d4_48 ⟨b1, rfl, K5, ge1, sz2, (A1.keep K4), F4_0, F4_1⟩ (by decide) (by decide)
set_option maxRecDepth 65536 in
set_option maxHeartbeats 4000000 in
theorem c_ofSec2 (l : Launch) (Z : State) (a0 : Array Value) (hw : ∀ d ∈ tables_1, d.before a0 Z = true) {n0 : Nat} (h : Heap) :
    Con l (⟨"java/time/Instant", "ofEpochSecond", "(J)Ljava/time/Instant;"⟩ : MethodName) jdk_2320_method_3_code 2 (some (.object "java/time/Instant")) ({ frames := 3, cells := 1, slots := 2, locals := 42 } : Room) Z n0 #[(.long (2 : Int64))] h (fun v h' => ∃ r : Addr, v = some (.ref r) ∧ Keep h h' [] ∧ n0 ≤ r ∧ h.size ≤ r ∧ Exa Z h' r "java/time/Instant" ∧ Fld Z h' r "java/time/Instant" "seconds" "J" (.long (2 : Int64)) ∧ Fld Z h' r "java/time/Instant" "nanos" "I" (.int (0 : Int32))) := by
  refine Con.of_go (plainFor_of_name pn_0) (Ls := #[.val (.long (2 : Int64)), .second]) (fun m => by first | (simp [entryFrame, mkF, argsToLocals, Value.category]; done) | rfl) ?_
  refine Go.lloadN (pc' := 1) d3_0 rfl rfl ?_
  refine Go.iconst (pc' := 2) (v := (0 : Int32)) d3_1 rfl rfl ?_
  refine Go.callS (cells' := 1) (slots' := 2) (pc' := 5) [(.long (2 : Int64)), (.int (0 : Int32))] [] (ww hw 20 rfl) (ww hw 21 rfl) (ww hw 18 rfl) (ww hw 22 rfl) (by decide) (c_create2 l Z a0 hw h) pd_0 rfl rfl rfl rfl rfl (nl rfl) (nl rfl) (nl rfl) (nl rfl) d3_2 rfl ?_
  rintro _ h1 ⟨r_1, rfl, K1, ge_r_1, sz_r_1, F1_0, F1_1, F1_2⟩
  have sz2 : h.size ≤ r_1 := Nat.le_trans (Keep.refl h []).1 sz_r_1
  have K3 : Keep h h1 [] := (Keep.refl h []).trans K1 all0
  show Go _ _ _ _ _ _ _ _ _ _ _ _ 5 #[.val (.long (2 : Int64)), .second] [(.ref r_1)]
  exact Go.retR rfl rfl rfl rfl d3_5 ⟨r_1, rfl, K3, ge_r_1, sz2, F1_0, F1_1, F1_2⟩ (by decide) (by decide)
set_option maxRecDepth 65536 in
set_option maxHeartbeats 4000000 in
theorem c_ofSecN2 (l : Launch) (Z : State) (a0 : Array Value) (hw : ∀ d ∈ tables_1, d.before a0 Z = true) {n0 : Nat} (h : Heap) :
    Con l (⟨"java/time/Instant", "ofEpochSecond", "(JJ)Ljava/time/Instant;"⟩ : MethodName) jdk_2320_method_4_code 7 (some (.object "java/time/Instant")) ({ frames := 3, cells := 1, slots := 2, locals := 42 } : Room) Z n0 #[(.long (2 : Int64)), (.long (0 : Int64))] h (fun v h' => ∃ r : Addr, v = some (.ref r) ∧ Keep h h' [] ∧ n0 ≤ r ∧ h.size ≤ r ∧ Exa Z h' r "java/time/Instant" ∧ Fld Z h' r "java/time/Instant" "seconds" "J" (.long (2 : Int64)) ∧ Fld Z h' r "java/time/Instant" "nanos" "I" (.int (0 : Int32))) := by
  refine Con.of_go (plainFor_of_name pn_0) (Ls := #[.val (.long (2 : Int64)), .second, .val (.long (0 : Int64)), .second, .unset, .unset, .unset]) (fun m => by first | (simp [entryFrame, mkF, argsToLocals, Value.category]; done) | rfl) ?_
  refine Go.lloadN (pc' := 1) d15_0 rfl rfl ?_
  refine Go.lloadN (pc' := 2) d15_1 rfl rfl ?_
  refine Go.ldc2J (pc' := 5) (ww hw 90 rfl) d15_2 rfl ?_
  refine Go.callS (cells' := 0) (slots' := 0) (pc' := 8) [(.long (0 : Int64)), (.long (1000000000 : Int64))] [(.long (2 : Int64))] (ww hw 91 rfl) (ww hw 92 rfl) (ww hw 93 rfl) (ww hw 94 rfl) (by decide) (c_floorDiv l Z a0 hw h) pd_1 rfl rfl rfl rfl rfl (nl rfl) (nl rfl) (nl rfl) (nl rfl) d15_5 rfl ?_
  rintro _ _ ⟨rfl, rfl⟩
  show Go _ _ _ _ _ _ _ _ _ _ _ _ 8 #[.val (.long (2 : Int64)), .second, .val (.long (0 : Int64)), .second, .unset, .unset, .unset] [(.long (0 : Int64)), (.long (2 : Int64))]
  refine Go.callS (cells' := 0) (slots' := 0) (pc' := 11) [(.long (2 : Int64)), (.long (0 : Int64))] [] (ww hw 95 rfl) (ww hw 96 rfl) (ww hw 93 rfl) (ww hw 97 rfl) (by decide) (c_addExact2 l Z a0 hw h) pd_1 rfl rfl rfl rfl rfl (nl rfl) (nl rfl) (nl rfl) (nl rfl) d15_8 rfl ?_
  rintro _ _ ⟨rfl, rfl⟩
  show Go _ _ _ _ _ _ _ _ _ _ _ _ 11 #[.val (.long (2 : Int64)), .second, .val (.long (0 : Int64)), .second, .unset, .unset, .unset] [(.long (2 : Int64))]
  refine Go.lstore (pc' := 13) (Ls' := #[.val (.long (2 : Int64)), .second, .val (.long (0 : Int64)), .second, .val (.long (2 : Int64)), .second, .unset]) d15_11 rfl rfl ?_
  refine Go.lloadN (pc' := 14) d15_13 rfl rfl ?_
  refine Go.ldc2J (pc' := 17) (ww hw 90 rfl) d15_14 rfl ?_
  refine Go.callS (cells' := 0) (slots' := 0) (pc' := 20) [(.long (0 : Int64)), (.long (1000000000 : Int64))] [] (ww hw 98 rfl) (ww hw 99 rfl) (ww hw 93 rfl) (ww hw 100 rfl) (by decide) (c_floorMod l Z a0 hw h) pd_1 rfl rfl rfl rfl rfl (nl rfl) (nl rfl) (nl rfl) (nl rfl) d15_17 rfl ?_
  rintro _ _ ⟨rfl, rfl⟩
  show Go _ _ _ _ _ _ _ _ _ _ _ _ 20 #[.val (.long (2 : Int64)), .second, .val (.long (0 : Int64)), .second, .val (.long (2 : Int64)), .second, .unset] [(.long (0 : Int64))]
  refine Go.l2i (pc' := 21) d15_20 rfl ?_
  show Go _ _ _ _ _ _ _ _ _ _ _ _ 21 #[.val (.long (2 : Int64)), .second, .val (.long (0 : Int64)), .second, .val (.long (2 : Int64)), .second, .unset] [(.int (0 : Int32))]
  refine Go.istore (pc' := 23) (Ls' := #[.val (.long (2 : Int64)), .second, .val (.long (0 : Int64)), .second, .val (.long (2 : Int64)), .second, .val (.int (0 : Int32))]) d15_21 rfl rfl ?_
  refine Go.lload (pc' := 25) d15_23 rfl rfl ?_
  refine Go.iload (pc' := 27) d15_25 rfl rfl ?_
  refine Go.callS (cells' := 1) (slots' := 2) (pc' := 30) [(.long (2 : Int64)), (.int (0 : Int32))] [] (ww hw 20 rfl) (ww hw 21 rfl) (ww hw 18 rfl) (ww hw 22 rfl) (by decide) (c_create2 l Z a0 hw h) pd_0 rfl rfl rfl rfl rfl (nl rfl) (nl rfl) (nl rfl) (nl rfl) d15_27 rfl ?_
  rintro _ h4 ⟨r_4, rfl, K4, ge_r_4, sz_r_4, F4_0, F4_1, F4_2⟩
  have sz5 : h.size ≤ r_4 := Nat.le_trans (Keep.refl h []).1 sz_r_4
  have K6 : Keep h h4 [] := (Keep.refl h []).trans K4 all0
  show Go _ _ _ _ _ _ _ _ _ _ _ _ 30 #[.val (.long (2 : Int64)), .second, .val (.long (0 : Int64)), .second, .val (.long (2 : Int64)), .second, .val (.int (0 : Int32))] [(.ref r_4)]
  exact Go.retR rfl rfl rfl rfl d15_30 ⟨r_4, rfl, K6, ge_r_4, sz5, F4_0, F4_1, F4_2⟩ (by decide) (by decide)
set_option maxRecDepth 65536 in
set_option maxHeartbeats 4000000 in
theorem c_addExact3 (l : Launch) (Z : State) (a0 : Array Value) (hw : ∀ d ∈ tables_1, d.before a0 Z = true) {n0 : Nat} (h : Heap) :
    Con l (⟨"java/lang/Math", "addExact", "(JJ)J"⟩ : MethodName) jdk_29_method_25_code 6 (some .long) ({ frames := 0, cells := 0, slots := 0, locals := 0 } : Room) Z n0 #[(.long (3 : Int64)), (.long (0 : Int64))] h (fun v h' => v = some (.long (3 : Int64)) ∧ h = h') := by
  refine Con.of_go (Jvm.Free.JP.mathPlain rfl (by decide +kernel)) (Ls := #[.val (.long (3 : Int64)), .second, .val (.long (0 : Int64)), .second, .unset, .unset]) (fun m => by first | (simp [entryFrame, mkF, argsToLocals, Value.category]; done) | rfl) ?_
  refine Go.lloadN (pc' := 1) d17_0 rfl rfl ?_
  refine Go.lloadN (pc' := 2) d17_1 rfl rfl ?_
  refine Go.ladd (pc' := 3) d17_2 rfl ?_
  show Go _ _ _ _ _ _ _ _ _ _ _ _ 3 #[.val (.long (3 : Int64)), .second, .val (.long (0 : Int64)), .second, .unset, .unset] [(.long (3 : Int64))]
  refine Go.lstore (pc' := 5) (Ls' := #[.val (.long (3 : Int64)), .second, .val (.long (0 : Int64)), .second, .val (.long (3 : Int64)), .second]) d17_3 rfl rfl ?_
  refine Go.lloadN (pc' := 6) d17_5 rfl rfl ?_
  refine Go.lload (pc' := 8) d17_6 rfl rfl ?_
  refine Go.lxor (pc' := 9) d17_8 rfl ?_
  show Go _ _ _ _ _ _ _ _ _ _ _ _ 9 #[.val (.long (3 : Int64)), .second, .val (.long (0 : Int64)), .second, .val (.long (3 : Int64)), .second] [(.long (0 : Int64))]
  refine Go.lloadN (pc' := 10) d17_9 rfl rfl ?_
  refine Go.lload (pc' := 12) d17_10 rfl rfl ?_
  refine Go.lxor (pc' := 13) d17_12 rfl ?_
  show Go _ _ _ _ _ _ _ _ _ _ _ _ 13 #[.val (.long (3 : Int64)), .second, .val (.long (0 : Int64)), .second, .val (.long (3 : Int64)), .second] [(.long (3 : Int64)), (.long (0 : Int64))]
  refine Go.land (pc' := 14) d17_13 rfl ?_
  show Go _ _ _ _ _ _ _ _ _ _ _ _ 14 #[.val (.long (3 : Int64)), .second, .val (.long (0 : Int64)), .second, .val (.long (3 : Int64)), .second] [(.long (0 : Int64))]
  refine Go.lconst (pc' := 15) (v := (0 : Int64)) d17_14 rfl rfl ?_
  refine Go.lcmp (pc' := 16) d17_15 rfl ?_
  refine Go.ifYes (pc' := 29) d17_16 (XT.ll_ge_t (by decide)) (by decide) (by decide) ?_
  refine Go.lload (pc' := 31) d17_29 rfl rfl ?_
  exact Go.retJ rfl d17_31 ⟨rfl, rfl⟩ (by decide) (by decide)
set_option maxRecDepth 65536 in
set_option maxHeartbeats 4000000 in
theorem c_create3 (l : Launch) (Z : State) (a0 : Array Value) (hw : ∀ d ∈ tables_1, d.before a0 Z = true) {n0 : Nat} (h : Heap) :
    Con l (⟨"java/time/Instant", "create", "(JI)Ljava/time/Instant;"⟩ : MethodName) jdk_2320_method_8_code 3 (some (.object "java/time/Instant")) ({ frames := 2, cells := 1, slots := 2, locals := 28 } : Room) Z n0 #[(.long (3 : Int64)), (.int (0 : Int32))] h (fun v h' => ∃ r : Addr, v = some (.ref r) ∧ Keep h h' [] ∧ n0 ≤ r ∧ h.size ≤ r ∧ Exa Z h' r "java/time/Instant" ∧ Fld Z h' r "java/time/Instant" "seconds" "J" (.long (3 : Int64)) ∧ Fld Z h' r "java/time/Instant" "nanos" "I" (.int (0 : Int32))) := by
  refine Con.of_go (plainFor_of_name pn_0) (Ls := #[.val (.long (3 : Int64)), .second, .val (.int (0 : Int32))]) (fun m => by first | (simp [entryFrame, mkF, argsToLocals, Value.category]; done) | rfl) ?_
  refine Go.lloadN (pc' := 1) d4_0 rfl rfl ?_
  refine Go.iloadN (pc' := 2) d4_1 rfl rfl ?_
  refine Go.i2l (pc' := 3) d4_2 rfl ?_
  show Go _ _ _ _ _ _ _ _ _ _ _ _ 3 #[.val (.long (3 : Int64)), .second, .val (.int (0 : Int32))] [(.long (0 : Int64)), (.long (3 : Int64))]
  refine Go.lor (pc' := 4) d4_3 rfl ?_
  show Go _ _ _ _ _ _ _ _ _ _ _ _ 4 #[.val (.long (3 : Int64)), .second, .val (.int (0 : Int32))] [(.long (3 : Int64))]
  refine Go.lconst (pc' := 5) (v := (0 : Int64)) d4_4 rfl rfl ?_
  refine Go.lcmp (pc' := 6) d4_5 rfl ?_
  refine Go.ifYes (pc' := 13) d4_6 (XT.ll_ne_t (by decide)) (by decide) (by decide) ?_
  refine Go.lloadN (pc' := 14) d4_13 rfl rfl ?_
  refine Go.ldc2J (pc' := 17) (ww hw 53 rfl) d4_14 rfl ?_
  refine Go.lcmp (pc' := 18) d4_17 rfl ?_
  refine Go.ifNo (pc' := 21) d4_18 (XT.ll_lt_f (by decide)) rfl ?_
  refine Go.lloadN (pc' := 22) d4_21 rfl rfl ?_
  refine Go.ldc2J (pc' := 25) (ww hw 54 rfl) d4_22 rfl ?_
  refine Go.lcmp (pc' := 26) d4_25 rfl ?_
  refine Go.ifYes (pc' := 39) d4_26 (XT.ll_le_t (by decide)) (by decide) (by decide) ?_
  refine Go.new (pc' := 42) (cells' := 1) (slots' := 2) (ww hw 55 rfl) (ww hw 56 rfl) (ww hw 18 rfl) d4_39 rfl rfl (by decide) (by decide) rfl ?_
  intro h1 b1 g1 E1 ge1 A1 D1
  have sz2 : h.size ≤ b1 := Nat.le_trans (Keep.refl h []).1 (Nat.le_of_eq g1.symm)
  have K3 : Keep h h1 [] := (Keep.refl h []).ext E1
  refine Go.dup (pc' := 43) d4_42 rfl rfl ?_
  refine Go.lloadN (pc' := 44) d4_43 rfl rfl ?_
  refine Go.iloadN (pc' := 45) d4_44 rfl rfl ?_
  refine Go.callC (cells' := 1) (slots' := 2) (pc' := 48) [(.long (3 : Int64)), (.int (0 : Int32))] [(.ref b1)] (a := b1) rfl rfl (ww hw 57 rfl) (ww hw 58 rfl) (ww hw 18 rfl) (ww hw 60 rfl) (by decide) (c_insInit l Z a0 hw h1 b1 (3 : Int64) (0 : Int32) ge1 A1 ((D1 (Or.inr (ww hw 45 rfl)) (ty := .long) (by decide) : Fld Z h1 b1 "java/time/Instant" "seconds" "J" (.long (0 : Int64)))) ((D1 (Or.inr (ww hw 52 rfl)) (ty := .int) (by decide) : Fld Z h1 b1 "java/time/Instant" "nanos" "I" (.int (0 : Int32))))) pd_2 rfl rfl rfl rfl rfl (nl rfl) (nl rfl) (nl rfl) (nl rfl) d4_45 rfl ?_
  rintro _ h4 ⟨rfl, K4, F4_0, F4_1⟩
  have K5 : Keep h h4 [] := K3.trans K4 (allS (Or.inr sz2) all0)
  show Go _ _ _ _ _ _ _ _ _ _ _ _ 48 #[.val (.long (3 : Int64)), .second, .val (.int (0 : Int32))] [(.ref b1)]
  exact Go.retR rfl rfl rfl rfl d4_48 ⟨b1, rfl, K5, ge1, sz2, (A1.keep K4), F4_0, F4_1⟩ (by decide) (by decide)
set_option maxRecDepth 65536 in
set_option maxHeartbeats 4000000 in
theorem c_ofSec3 (l : Launch) (Z : State) (a0 : Array Value) (hw : ∀ d ∈ tables_1, d.before a0 Z = true) {n0 : Nat} (h : Heap) :
    Con l (⟨"java/time/Instant", "ofEpochSecond", "(J)Ljava/time/Instant;"⟩ : MethodName) jdk_2320_method_3_code 2 (some (.object "java/time/Instant")) ({ frames := 3, cells := 1, slots := 2, locals := 42 } : Room) Z n0 #[(.long (3 : Int64))] h (fun v h' => ∃ r : Addr, v = some (.ref r) ∧ Keep h h' [] ∧ n0 ≤ r ∧ h.size ≤ r ∧ Exa Z h' r "java/time/Instant" ∧ Fld Z h' r "java/time/Instant" "seconds" "J" (.long (3 : Int64)) ∧ Fld Z h' r "java/time/Instant" "nanos" "I" (.int (0 : Int32))) := by
  refine Con.of_go (plainFor_of_name pn_0) (Ls := #[.val (.long (3 : Int64)), .second]) (fun m => by first | (simp [entryFrame, mkF, argsToLocals, Value.category]; done) | rfl) ?_
  refine Go.lloadN (pc' := 1) d3_0 rfl rfl ?_
  refine Go.iconst (pc' := 2) (v := (0 : Int32)) d3_1 rfl rfl ?_
  refine Go.callS (cells' := 1) (slots' := 2) (pc' := 5) [(.long (3 : Int64)), (.int (0 : Int32))] [] (ww hw 20 rfl) (ww hw 21 rfl) (ww hw 18 rfl) (ww hw 22 rfl) (by decide) (c_create3 l Z a0 hw h) pd_0 rfl rfl rfl rfl rfl (nl rfl) (nl rfl) (nl rfl) (nl rfl) d3_2 rfl ?_
  rintro _ h1 ⟨r_1, rfl, K1, ge_r_1, sz_r_1, F1_0, F1_1, F1_2⟩
  have sz2 : h.size ≤ r_1 := Nat.le_trans (Keep.refl h []).1 sz_r_1
  have K3 : Keep h h1 [] := (Keep.refl h []).trans K1 all0
  show Go _ _ _ _ _ _ _ _ _ _ _ _ 5 #[.val (.long (3 : Int64)), .second] [(.ref r_1)]
  exact Go.retR rfl rfl rfl rfl d3_5 ⟨r_1, rfl, K3, ge_r_1, sz2, F1_0, F1_1, F1_2⟩ (by decide) (by decide)
set_option maxRecDepth 65536 in
set_option maxHeartbeats 4000000 in
theorem c_ofSecN3 (l : Launch) (Z : State) (a0 : Array Value) (hw : ∀ d ∈ tables_1, d.before a0 Z = true) {n0 : Nat} (h : Heap) :
    Con l (⟨"java/time/Instant", "ofEpochSecond", "(JJ)Ljava/time/Instant;"⟩ : MethodName) jdk_2320_method_4_code 7 (some (.object "java/time/Instant")) ({ frames := 3, cells := 1, slots := 2, locals := 42 } : Room) Z n0 #[(.long (3 : Int64)), (.long (0 : Int64))] h (fun v h' => ∃ r : Addr, v = some (.ref r) ∧ Keep h h' [] ∧ n0 ≤ r ∧ h.size ≤ r ∧ Exa Z h' r "java/time/Instant" ∧ Fld Z h' r "java/time/Instant" "seconds" "J" (.long (3 : Int64)) ∧ Fld Z h' r "java/time/Instant" "nanos" "I" (.int (0 : Int32))) := by
  refine Con.of_go (plainFor_of_name pn_0) (Ls := #[.val (.long (3 : Int64)), .second, .val (.long (0 : Int64)), .second, .unset, .unset, .unset]) (fun m => by first | (simp [entryFrame, mkF, argsToLocals, Value.category]; done) | rfl) ?_
  refine Go.lloadN (pc' := 1) d15_0 rfl rfl ?_
  refine Go.lloadN (pc' := 2) d15_1 rfl rfl ?_
  refine Go.ldc2J (pc' := 5) (ww hw 90 rfl) d15_2 rfl ?_
  refine Go.callS (cells' := 0) (slots' := 0) (pc' := 8) [(.long (0 : Int64)), (.long (1000000000 : Int64))] [(.long (3 : Int64))] (ww hw 91 rfl) (ww hw 92 rfl) (ww hw 93 rfl) (ww hw 94 rfl) (by decide) (c_floorDiv l Z a0 hw h) pd_1 rfl rfl rfl rfl rfl (nl rfl) (nl rfl) (nl rfl) (nl rfl) d15_5 rfl ?_
  rintro _ _ ⟨rfl, rfl⟩
  show Go _ _ _ _ _ _ _ _ _ _ _ _ 8 #[.val (.long (3 : Int64)), .second, .val (.long (0 : Int64)), .second, .unset, .unset, .unset] [(.long (0 : Int64)), (.long (3 : Int64))]
  refine Go.callS (cells' := 0) (slots' := 0) (pc' := 11) [(.long (3 : Int64)), (.long (0 : Int64))] [] (ww hw 95 rfl) (ww hw 96 rfl) (ww hw 93 rfl) (ww hw 97 rfl) (by decide) (c_addExact3 l Z a0 hw h) pd_1 rfl rfl rfl rfl rfl (nl rfl) (nl rfl) (nl rfl) (nl rfl) d15_8 rfl ?_
  rintro _ _ ⟨rfl, rfl⟩
  show Go _ _ _ _ _ _ _ _ _ _ _ _ 11 #[.val (.long (3 : Int64)), .second, .val (.long (0 : Int64)), .second, .unset, .unset, .unset] [(.long (3 : Int64))]
  refine Go.lstore (pc' := 13) (Ls' := #[.val (.long (3 : Int64)), .second, .val (.long (0 : Int64)), .second, .val (.long (3 : Int64)), .second, .unset]) d15_11 rfl rfl ?_
  refine Go.lloadN (pc' := 14) d15_13 rfl rfl ?_
  refine Go.ldc2J (pc' := 17) (ww hw 90 rfl) d15_14 rfl ?_
  refine Go.callS (cells' := 0) (slots' := 0) (pc' := 20) [(.long (0 : Int64)), (.long (1000000000 : Int64))] [] (ww hw 98 rfl) (ww hw 99 rfl) (ww hw 93 rfl) (ww hw 100 rfl) (by decide) (c_floorMod l Z a0 hw h) pd_1 rfl rfl rfl rfl rfl (nl rfl) (nl rfl) (nl rfl) (nl rfl) d15_17 rfl ?_
  rintro _ _ ⟨rfl, rfl⟩
  show Go _ _ _ _ _ _ _ _ _ _ _ _ 20 #[.val (.long (3 : Int64)), .second, .val (.long (0 : Int64)), .second, .val (.long (3 : Int64)), .second, .unset] [(.long (0 : Int64))]
  refine Go.l2i (pc' := 21) d15_20 rfl ?_
  show Go _ _ _ _ _ _ _ _ _ _ _ _ 21 #[.val (.long (3 : Int64)), .second, .val (.long (0 : Int64)), .second, .val (.long (3 : Int64)), .second, .unset] [(.int (0 : Int32))]
  refine Go.istore (pc' := 23) (Ls' := #[.val (.long (3 : Int64)), .second, .val (.long (0 : Int64)), .second, .val (.long (3 : Int64)), .second, .val (.int (0 : Int32))]) d15_21 rfl rfl ?_
  refine Go.lload (pc' := 25) d15_23 rfl rfl ?_
  refine Go.iload (pc' := 27) d15_25 rfl rfl ?_
  refine Go.callS (cells' := 1) (slots' := 2) (pc' := 30) [(.long (3 : Int64)), (.int (0 : Int32))] [] (ww hw 20 rfl) (ww hw 21 rfl) (ww hw 18 rfl) (ww hw 22 rfl) (by decide) (c_create3 l Z a0 hw h) pd_0 rfl rfl rfl rfl rfl (nl rfl) (nl rfl) (nl rfl) (nl rfl) d15_27 rfl ?_
  rintro _ h4 ⟨r_4, rfl, K4, ge_r_4, sz_r_4, F4_0, F4_1, F4_2⟩
  have sz5 : h.size ≤ r_4 := Nat.le_trans (Keep.refl h []).1 sz_r_4
  have K6 : Keep h h4 [] := (Keep.refl h []).trans K4 all0
  show Go _ _ _ _ _ _ _ _ _ _ _ _ 30 #[.val (.long (3 : Int64)), .second, .val (.long (0 : Int64)), .second, .val (.long (3 : Int64)), .second, .val (.int (0 : Int32))] [(.ref r_4)]
  exact Go.retR rfl rfl rfl rfl d15_30 ⟨r_4, rfl, K6, ge_r_4, sz5, F4_0, F4_1, F4_2⟩ (by decide) (by decide)
theorem d7_0 : decode jdk_2320_method_15_code 0 = .ok (.aload_n 0, 1) := by decide +kernel
theorem d7_1 : decode jdk_2320_method_15_code 1 = .ok (.getfield 140, 3) := by decide +kernel
theorem d7_4 : decode jdk_2320_method_15_code 4 = .ok (.lreturn, 1) := by decide +kernel
set_option maxRecDepth 65536 in
set_option maxHeartbeats 4000000 in
theorem c_getSec (l : Launch) (Z : State) (a0 : Array Value) (hw : ∀ d ∈ tables_1, d.before a0 Z = true) {n0 : Nat} (h : Heap) (a : Addr) (s : Int64) (f : Fld Z h a "java/time/Instant" "seconds" "J" (.long s)) :
    Con l (⟨"java/time/Instant", "getEpochSecond", "()J"⟩ : MethodName) jdk_2320_method_15_code 1 (some .long) ({ frames := 0, cells := 0, slots := 0, locals := 0 } : Room) Z n0 #[(.ref a)] h (fun v h' => v = some (.long s) ∧ h = h') := by
  refine Con.of_go (plainFor_of_name pn_0) (Ls := #[.val (.ref a)]) (fun m => by first | (simp [entryFrame, mkF, argsToLocals, Value.category]; done) | rfl) ?_
  refine Go.aloadN (pc' := 1) d7_0 rfl rfl rfl ?_
  refine Go.getfield (pc' := 4) (host := "") (Or.inl (ww hw 44 rfl)) Via.refl f d7_1 rfl ?_
  exact Go.retJ rfl d7_4 ⟨rfl, rfl⟩ (by decide) (by decide)
theorem d8_0 : decode jdk_2320_method_16_code 0 = .ok (.aload_n 0, 1) := by decide +kernel
theorem d8_1 : decode jdk_2320_method_16_code 1 = .ok (.getfield 144, 3) := by decide +kernel
theorem d8_4 : decode jdk_2320_method_16_code 4 = .ok (.ireturn, 1) := by decide +kernel
set_option maxRecDepth 65536 in
set_option maxHeartbeats 4000000 in
theorem c_getNano (l : Launch) (Z : State) (a0 : Array Value) (hw : ∀ d ∈ tables_1, d.before a0 Z = true) {n0 : Nat} (h : Heap) (a : Addr) (n : Int32) (f : Fld Z h a "java/time/Instant" "nanos" "I" (.int n)) :
    Con l (⟨"java/time/Instant", "getNano", "()I"⟩ : MethodName) jdk_2320_method_16_code 1 (some .int) ({ frames := 0, cells := 0, slots := 0, locals := 0 } : Room) Z n0 #[(.ref a)] h (fun v h' => v = some (.int n) ∧ h = h') := by
  refine Con.of_go (plainFor_of_name pn_0) (Ls := #[.val (.ref a)]) (fun m => by first | (simp [entryFrame, mkF, argsToLocals, Value.category]; done) | rfl) ?_
  refine Go.aloadN (pc' := 1) d8_0 rfl rfl rfl ?_
  refine Go.getfield (pc' := 4) (host := "") (Or.inl (ww hw 51 rfl)) Via.refl f d8_1 rfl ?_
  exact Go.retI rfl d8_4 ⟨rfl, rfl⟩ (by decide) (by decide)
theorem d1_0 : decode prog_22_method_1_code 0 = .ok (.aload_n 0, 1) := by decide +kernel
theorem d1_1 : decode prog_22_method_1_code 1 = .ok (.invokespecial 1, 3) := by decide +kernel
theorem d1_4 : decode prog_22_method_1_code 4 = .ok (.aload_n 0, 1) := by decide +kernel
theorem d1_5 : decode prog_22_method_1_code 5 = .ok (.iconst 4, 1) := by decide +kernel
theorem d1_6 : decode prog_22_method_1_code 6 = .ok (.newarray .long, 2) := by decide +kernel
theorem d1_8 : decode prog_22_method_1_code 8 = .ok (.putfield 7, 3) := by decide +kernel
theorem d1_11 : decode prog_22_method_1_code 11 = .ok (.aload_n 0, 1) := by decide +kernel
theorem d1_12 : decode prog_22_method_1_code 12 = .ok (.iconst 4, 1) := by decide +kernel
theorem d1_13 : decode prog_22_method_1_code 13 = .ok (.newarray .int, 2) := by decide +kernel
theorem d1_15 : decode prog_22_method_1_code 15 = .ok (.putfield 13, 3) := by decide +kernel
theorem d1_18 : decode prog_22_method_1_code 18 = .ok (.return_, 1) := by decide +kernel
theorem pn_1 : plainName "com/example/rens/rens/TimeRing" = true := by first | (simp [plainName, overriddenIn]; done) | decide +kernel
set_option maxRecDepth 65536 in
set_option maxHeartbeats 4000000 in
theorem c_ringInit (l : Launch) (Z : State) (a0 : Array Value) (hw : ∀ d ∈ tables_1, d.before a0 Z = true) {n0 : Nat} (h : Heap) (a : Addr) (ge_a : n0 ≤ a) (x : Exa Z h a "com/example/rens/rens/TimeRing") (pf0 : Fld Z h a "com/example/rens/rens/TimeRing" "seconds" "[J" .null) (pf1 : Fld Z h a "com/example/rens/rens/TimeRing" "nanos" "[I" .null) (pf2 : Fld Z h a "com/example/rens/rens/TimeRing" "head" "I" (.int (0 : Int32))) (pf3 : Fld Z h a "com/example/rens/rens/TimeRing" "size" "I" (.int (0 : Int32))) (pf4 : Fld Z h a "com/example/rens/rens/TimeRing" "first" "J" (.long (0 : Int64))) :
    Con l (⟨"com/example/rens/rens/TimeRing", "<init>", "()V"⟩ : MethodName) prog_22_method_1_code 1 none ({ frames := 1, cells := 2, slots := 8, locals := 12 } : Room) Z n0 #[(.ref a)] h (fun v h' => ∃ sa : Addr, ∃ ks : ClassId, ∃ na : Addr, ∃ kn : ClassId, v = none ∧ Keep h h' [a] ∧ n0 ≤ sa ∧ h.size ≤ sa ∧ n0 ≤ na ∧ h.size ≤ na ∧ sa ≠ na ∧ Fld Z h' a "com/example/rens/rens/TimeRing" "seconds" "[J" (.ref sa) ∧ Fld Z h' a "com/example/rens/rens/TimeRing" "nanos" "[I" (.ref na) ∧ Fld Z h' a "com/example/rens/rens/TimeRing" "head" "I" (.int (0 : Int32)) ∧ Fld Z h' a "com/example/rens/rens/TimeRing" "size" "I" (.int (0 : Int32)) ∧ Fld Z h' a "com/example/rens/rens/TimeRing" "first" "J" (.long (0 : Int64)) ∧ Arv Z h' sa ks .long (4 : Int32) [(.long 0), (.long 0), (.long 0), (.long 0)] (.long 0) ∧ Arv Z h' na kn .int (4 : Int32) [(.int 0), (.int 0), (.int 0), (.int 0)] (.int 0)) := by
  refine Con.of_go (plainFor_of_name pn_1) (Ls := #[.val (.ref a)]) (fun m => by first | (simp [entryFrame, mkF, argsToLocals, Value.category]; done) | rfl) ?_
  refine Go.aloadN (pc' := 1) d1_0 rfl rfl rfl ?_
  refine Go.initO (pc' := 4) (ww hw 7 rfl) (ww hw 8 rfl) (ww hw 9 rfl) d1_1 rfl (nl rfl) (nl rfl) rfl ?_
  refine Go.aloadN (pc' := 5) d1_4 rfl rfl rfl ?_
  refine Go.iconst (pc' := 6) (v := (4 : Int32)) d1_5 rfl rfl ?_
  refine Go.newarray (pc' := 8) (cells' := 1) (slots' := 4) (cap := 4) (ww hw 10 rfl) d1_6 (ad := "[J") (by decide) (by decide) (by decide) rfl rfl (by decide) (by decide) (by decide) rfl ?_
  intro h1 b1 g1 E1 ge1 kA1 A1 X1
  have sz2 : h.size ≤ b1 := Nat.le_trans (Keep.refl h [a]).1 (Nat.le_of_eq g1.symm)
  have K3 : Keep h h1 [a] := (Keep.refl h [a]).ext E1
  have V1 : Arv Z h1 b1 kA1 .long (4 : Int32) [(.long 0), (.long 0), (.long 0), (.long 0)] (.long 0) := Arv.pad A1 (pad_rep [] (.long 0) 4)
  refine Go.putfield (pc' := 11) (host := "") (Or.inl (ww hw 11 rfl)) Via.refl (pf0.ext E1) (x.ext E1) (Or.inl (ww hw 12 rfl)) (ww hw 2 rfl) (ty := (.array .long)) (by decide) rfl rfl ge_a d1_8 rfl ?_
  intro h4 W5
  have K6 : Keep h h4 [a] := K3.wr W5 (Or.inl (List.mem_of_getElem? (i := 0) rfl))
  have f7 := (pf0.ext E1).same W5
  refine Go.aloadN (pc' := 12) d1_11 rfl rfl rfl ?_
  refine Go.iconst (pc' := 13) (v := (4 : Int32)) d1_12 rfl rfl ?_
  refine Go.newarray (pc' := 15) (cells' := 2) (slots' := 8) (cap := 4) (ww hw 13 rfl) d1_13 (ad := "[I") (by decide) (by decide) (by decide) rfl rfl (by decide) (by decide) (by decide) rfl ?_
  intro h8 b8 g8 E8 ge8 kA8 A8 X8
  have sz9 : h.size ≤ b8 := Nat.le_trans K6.1 (Nat.le_of_eq g8.symm)
  have K10 : Keep h h8 [a] := K6.ext E8
  have V8 : Arv Z h8 b8 kA8 .int (4 : Int32) [(.int 0), (.int 0), (.int 0), (.int 0)] (.int 0) := Arv.pad A8 (pad_rep [] (.int 0) 4)
  have f11 : Fld Z h8 a "com/example/rens/rens/TimeRing" "nanos" "[I" .null := (((pf1.ext E1).other W5 (Or.inr (slot_ne (Or.inl (ww hw 15 rfl)) (Or.inl (ww hw 12 rfl)) (by decide) (t := (.array .int)) (t' := (.array .long)) (by decide) (by decide)))).ext E8)
  refine Go.putfield (pc' := 18) (host := "") (Or.inl (ww hw 14 rfl)) Via.refl f11 (((x.ext E1).wr W5).ext E8) (Or.inl (ww hw 15 rfl)) (ww hw 2 rfl) (ty := (.array .int)) (by decide) rfl rfl ge_a d1_15 rfl ?_
  intro h12 W13
  have K14 : Keep h h12 [a] := K10.wr W13 (Or.inl (List.mem_of_getElem? (i := 0) rfl))
  have f15 := f11.same W13
  have ne16 : b1 ≠ b8 := (Nat.ne_of_lt (Nat.lt_of_lt_of_le (X1.wr W5).lt (Nat.le_of_eq g8.symm)))
  have f17 : Fld Z h12 a "com/example/rens/rens/TimeRing" "seconds" "[J" (.ref b1) := ((f7.ext E8).other W13 (Or.inr (slot_ne (Or.inl (ww hw 12 rfl)) (Or.inl (ww hw 15 rfl)) (by decide) (t := (.array .long)) (t' := (.array .int)) (by decide) (by decide))))
  have f18 : Fld Z h12 a "com/example/rens/rens/TimeRing" "head" "I" (.int (0 : Int32)) := ((((pf2.ext E1).other W5 (Or.inr (slot_ne (Or.inl (ww hw 38 rfl)) (Or.inl (ww hw 12 rfl)) (by decide) (t := .int) (t' := (.array .long)) (by decide) (by decide)))).ext E8).other W13 (Or.inr (slot_ne (Or.inl (ww hw 38 rfl)) (Or.inl (ww hw 15 rfl)) (by decide) (t := .int) (t' := (.array .int)) (by decide) (by decide))))
  have f19 : Fld Z h12 a "com/example/rens/rens/TimeRing" "size" "I" (.int (0 : Int32)) := ((((pf3.ext E1).other W5 (Or.inr (slot_ne (Or.inl (ww hw 30 rfl)) (Or.inl (ww hw 12 rfl)) (by decide) (t := .int) (t' := (.array .long)) (by decide) (by decide)))).ext E8).other W13 (Or.inr (slot_ne (Or.inl (ww hw 30 rfl)) (Or.inl (ww hw 15 rfl)) (by decide) (t := .int) (t' := (.array .int)) (by decide) (by decide))))
  have f20 : Fld Z h12 a "com/example/rens/rens/TimeRing" "first" "J" (.long (0 : Int64)) := ((((pf4.ext E1).other W5 (Or.inr (slot_ne (Or.inl (ww hw 32 rfl)) (Or.inl (ww hw 12 rfl)) (by decide) (t := .long) (t' := (.array .long)) (by decide) (by decide)))).ext E8).other W13 (Or.inr (slot_ne (Or.inl (ww hw 32 rfl)) (Or.inl (ww hw 15 rfl)) (by decide) (t := .long) (t' := (.array .int)) (by decide) (by decide))))
  have ne21 : a ≠ b1 := (Nat.ne_of_lt (Nat.lt_of_lt_of_le pf4.lt (Nat.le_of_eq g1.symm)))
  have f22 : Arv Z h12 b1 kA1 .long (4 : Int32) [(.long 0), (.long 0), (.long 0), (.long 0)] (.long 0) := (((V1.other W5 (Ne.symm ne21)).ext E8).other W13 (Ne.symm ne21))
  have ne23 : a ≠ b8 := (Nat.ne_of_lt (Nat.lt_of_lt_of_le ((pf4.ext E1).other W5 (Or.inr (slot_ne (Or.inl (ww hw 32 rfl)) (Or.inl (ww hw 12 rfl)) (by decide) (t := .long) (t' := (.array .long)) (by decide) (by decide)))).lt (Nat.le_of_eq g8.symm)))
  exact Go.retV rfl d1_18 ⟨b1, kA1, b8, kA8, rfl, K14, ge1, sz2, ge8, sz9, ne16, f17, f15, f18, f19, f20, f22, (V8.other W13 (Ne.symm ne23))⟩ (by decide) (by decide)
theorem d6_0 : decode prog_22_method_8_code 0 = .ok (.aload_n 0, 1) := by decide +kernel
theorem d6_1 : decode prog_22_method_8_code 1 = .ok (.getfield 55, 3) := by decide +kernel
theorem d6_4 : decode prog_22_method_8_code 4 = .ok (.i2l, 1) := by decide +kernel
theorem d6_5 : decode prog_22_method_8_code 5 = .ok (.lload_n 1, 1) := by decide +kernel
theorem d6_6 : decode prog_22_method_8_code 6 = .ok (.ladd, 1) := by decide +kernel
theorem d6_7 : decode prog_22_method_8_code 7 = .ok (.aload_n 0, 1) := by decide +kernel
theorem d6_8 : decode prog_22_method_8_code 8 = .ok (.getfield 7, 3) := by decide +kernel
theorem d6_11 : decode prog_22_method_8_code 11 = .ok (.arraylength, 1) := by decide +kernel
theorem d6_12 : decode prog_22_method_8_code 12 = .ok (.iconst 1, 1) := by decide +kernel
theorem d6_13 : decode prog_22_method_8_code 13 = .ok (.isub, 1) := by decide +kernel
theorem d6_14 : decode prog_22_method_8_code 14 = .ok (.i2l, 1) := by decide +kernel
theorem d6_15 : decode prog_22_method_8_code 15 = .ok (.land, 1) := by decide +kernel
theorem d6_16 : decode prog_22_method_8_code 16 = .ok (.l2i, 1) := by decide +kernel
theorem d6_17 : decode prog_22_method_8_code 17 = .ok (.ireturn, 1) := by decide +kernel
set_option maxRecDepth 65536 in
set_option maxHeartbeats 4000000 in
theorem c_slot0_0_0 (l : Launch) (Z : State) (a0 : Array Value) (hw : ∀ d ∈ tables_1, d.before a0 Z = true) {n0 : Nat} (h : Heap) (a : Addr) (sa : Addr) (ks : ClassId) (o : Int64) (ho : o = (0 : Int64)) (fh : Fld Z h a "com/example/rens/rens/TimeRing" "head" "I" (.int (0 : Int32))) (fs : Fld Z h a "com/example/rens/rens/TimeRing" "seconds" "[J" (.ref sa)) (v : Arv Z h sa ks .long (4 : Int32) [(.long 0), (.long 0), (.long 0), (.long 0)] (.long 0)) :
    Con l (⟨"com/example/rens/rens/TimeRing", "slot", "(J)I"⟩ : MethodName) prog_22_method_8_code 3 (some .int) ({ frames := 0, cells := 0, slots := 0, locals := 0 } : Room) Z n0 #[(.ref a), (.long o)] h (fun v h' => v = some (.int (0 : Int32)) ∧ h = h') := by
  refine Con.of_go (plainFor_of_name pn_1) (Ls := #[.val (.ref a), .val (.long o), .second]) (fun m => by first | (simp [entryFrame, mkF, argsToLocals, Value.category]; done) | rfl) ?_
  refine Go.aloadN (pc' := 1) d6_0 rfl rfl rfl ?_
  refine Go.getfield (pc' := 4) (host := "") (Or.inl (ww hw 37 rfl)) Via.refl fh d6_1 rfl ?_
  refine Go.i2l (pc' := 5) d6_4 rfl ?_
  show Go _ _ _ _ _ _ _ _ _ _ _ _ 5 #[.val (.ref a), .val (.long o), .second] [(.long (0 : Int64))]
  refine Go.lloadN (pc' := 6) d6_5 rfl rfl ?_
  refine Go.ladd (pc' := 7) d6_6 rfl ?_
  refine Go.aloadN (pc' := 8) d6_7 rfl rfl rfl ?_
  refine Go.getfield (pc' := 11) (host := "") (Or.inl (ww hw 11 rfl)) Via.refl fs d6_8 rfl ?_
  refine Go.arraylength (pc' := 12) v d6_11 rfl ?_
  refine Go.iconst (pc' := 13) (v := (1 : Int32)) d6_12 rfl rfl ?_
  refine Go.isub (pc' := 14) d6_13 rfl ?_
  show Go _ _ _ _ _ _ _ _ _ _ _ _ 14 #[.val (.ref a), .val (.long o), .second] [(.int (3 : Int32)), (.long ((0 : Int64) + o))]
  refine Go.i2l (pc' := 15) d6_14 rfl ?_
  show Go _ _ _ _ _ _ _ _ _ _ _ _ 15 #[.val (.ref a), .val (.long o), .second] [(.long (3 : Int64)), (.long ((0 : Int64) + o))]
  refine Go.land (pc' := 16) d6_15 rfl ?_
  refine Go.l2i (pc' := 17) d6_16 rfl ?_
  exact Go.retI rfl d6_17 ⟨(by rw [ho]; rfl), rfl⟩ (by decide) (by decide)
theorem own_ax0 (f : Int64) : f = (f + (0 : Int64)) := by grind
theorem own_ax1 (f : Int64) : (f - f) = (0 : Int64) := by grind
theorem d5_0 : decode prog_22_method_6_code 0 = .ok (.aload_n 0, 1) := by decide +kernel
theorem d5_1 : decode prog_22_method_6_code 1 = .ok (.getfield 21, 3) := by decide +kernel
theorem d5_4 : decode prog_22_method_6_code 4 = .ok (.ifCond .ne 8, 3) := by decide +kernel
theorem d5_7 : decode prog_22_method_6_code 7 = .ok (.aload_n 0, 1) := by decide +kernel
theorem d5_8 : decode prog_22_method_6_code 8 = .ok (.lload_n 1, 1) := by decide +kernel
theorem d5_9 : decode prog_22_method_6_code 9 = .ok (.putfield 17, 3) := by decide +kernel
theorem d5_12 : decode prog_22_method_6_code 12 = .ok (.lload_n 1, 1) := by decide +kernel
theorem d5_13 : decode prog_22_method_6_code 13 = .ok (.aload_n 0, 1) := by decide +kernel
theorem d5_14 : decode prog_22_method_6_code 14 = .ok (.getfield 17, 3) := by decide +kernel
theorem d5_17 : decode prog_22_method_6_code 17 = .ok (.aload_n 0, 1) := by decide +kernel
theorem d5_18 : decode prog_22_method_6_code 18 = .ok (.getfield 21, 3) := by decide +kernel
theorem d5_21 : decode prog_22_method_6_code 21 = .ok (.i2l, 1) := by decide +kernel
theorem d5_22 : decode prog_22_method_6_code 22 = .ok (.ladd, 1) := by decide +kernel
theorem d5_23 : decode prog_22_method_6_code 23 = .ok (.lcmp, 1) := by decide +kernel
theorem d5_24 : decode prog_22_method_6_code 24 = .ok (.ifCond .ne 32, 3) := by decide +kernel
theorem d5_27 : decode prog_22_method_6_code 27 = .ok (.aload_n 0, 1) := by decide +kernel
theorem d5_28 : decode prog_22_method_6_code 28 = .ok (.getfield 21, 3) := by decide +kernel
theorem d5_31 : decode prog_22_method_6_code 31 = .ok (.aload_n 0, 1) := by decide +kernel
theorem d5_32 : decode prog_22_method_6_code 32 = .ok (.getfield 7, 3) := by decide +kernel
theorem d5_35 : decode prog_22_method_6_code 35 = .ok (.arraylength, 1) := by decide +kernel
theorem d5_36 : decode prog_22_method_6_code 36 = .ok (.if_icmp .ne 7, 3) := by decide +kernel
theorem d5_43 : decode prog_22_method_6_code 43 = .ok (.aload_n 0, 1) := by decide +kernel
theorem d5_44 : decode prog_22_method_6_code 44 = .ok (.dup, 1) := by decide +kernel
theorem d5_45 : decode prog_22_method_6_code 45 = .ok (.getfield 21, 3) := by decide +kernel
theorem d5_48 : decode prog_22_method_6_code 48 = .ok (.iconst 1, 1) := by decide +kernel
theorem d5_49 : decode prog_22_method_6_code 49 = .ok (.iadd, 1) := by decide +kernel
theorem d5_50 : decode prog_22_method_6_code 50 = .ok (.putfield 21, 3) := by decide +kernel
theorem d5_53 : decode prog_22_method_6_code 53 = .ok (.goto 46, 3) := by decide +kernel
theorem d5_99 : decode prog_22_method_6_code 99 = .ok (.aload_n 0, 1) := by decide +kernel
theorem d5_100 : decode prog_22_method_6_code 100 = .ok (.lload_n 1, 1) := by decide +kernel
theorem d5_101 : decode prog_22_method_6_code 101 = .ok (.aload_n 0, 1) := by decide +kernel
theorem d5_102 : decode prog_22_method_6_code 102 = .ok (.getfield 17, 3) := by decide +kernel
theorem d5_105 : decode prog_22_method_6_code 105 = .ok (.lsub, 1) := by decide +kernel
theorem d5_106 : decode prog_22_method_6_code 106 = .ok (.invokevirtual 25, 3) := by decide +kernel
theorem d5_109 : decode prog_22_method_6_code 109 = .ok (.istore 4, 2) := by decide +kernel
theorem d5_111 : decode prog_22_method_6_code 111 = .ok (.aload_n 0, 1) := by decide +kernel
theorem d5_112 : decode prog_22_method_6_code 112 = .ok (.getfield 7, 3) := by decide +kernel
theorem d5_115 : decode prog_22_method_6_code 115 = .ok (.iload 4, 2) := by decide +kernel
theorem d5_117 : decode prog_22_method_6_code 117 = .ok (.aload_n 3, 1) := by decide +kernel
theorem d5_118 : decode prog_22_method_6_code 118 = .ok (.invokevirtual 47, 3) := by decide +kernel
theorem d5_121 : decode prog_22_method_6_code 121 = .ok (.lastore, 1) := by decide +kernel
theorem d5_122 : decode prog_22_method_6_code 122 = .ok (.aload_n 0, 1) := by decide +kernel
theorem d5_123 : decode prog_22_method_6_code 123 = .ok (.getfield 13, 3) := by decide +kernel
theorem d5_126 : decode prog_22_method_6_code 126 = .ok (.iload 4, 2) := by decide +kernel
theorem d5_128 : decode prog_22_method_6_code 128 = .ok (.aload_n 3, 1) := by decide +kernel
theorem d5_129 : decode prog_22_method_6_code 129 = .ok (.invokevirtual 51, 3) := by decide +kernel
theorem d5_132 : decode prog_22_method_6_code 132 = .ok (.iastore, 1) := by decide +kernel
theorem d5_133 : decode prog_22_method_6_code 133 = .ok (.return_, 1) := by decide +kernel
theorem pd_3 : parseMethodDescriptor "(J)I" = some ⟨[.long], some .int⟩ := by decide +kernel
theorem pd_4 : parseMethodDescriptor "()J" = some ⟨[], some .long⟩ := by decide +kernel
theorem pd_5 : parseMethodDescriptor "()I" = some ⟨[], some .int⟩ := by decide +kernel
set_option maxRecDepth 65536 in
set_option maxHeartbeats 4000000 in
theorem c_set0 (l : Launch) (Z : State) (a0 : Array Value) (hw : ∀ d ∈ tables_1, d.before a0 Z = true) {n0 : Nat} (h : Heap) (a : Addr) (sa : Addr) (ks : ClassId) (na : Addr) (kn : ClassId) (f : Int64) (t : Addr) (ge_a : n0 ≤ a) (ge_sa : n0 ≤ sa) (ge_na : n0 ≤ na) (ne_a_sa : a ≠ sa) (ne_a_na : a ≠ na) (ne_sa_na : sa ≠ na) (ne_t_a : t ≠ a) (ne_t_sa : t ≠ sa) (ne_t_na : t ≠ na) (x : Exa Z h a "com/example/rens/rens/TimeRing") (pf0 : Fld Z h a "com/example/rens/rens/TimeRing" "seconds" "[J" (.ref sa)) (pf1 : Fld Z h a "com/example/rens/rens/TimeRing" "nanos" "[I" (.ref na)) (pf2 : Fld Z h a "com/example/rens/rens/TimeRing" "head" "I" (.int (0 : Int32))) (pf3 : Fld Z h a "com/example/rens/rens/TimeRing" "size" "I" (.int (0 : Int32))) (pf4 : Fld Z h a "com/example/rens/rens/TimeRing" "first" "J" (.long (0 : Int64))) (vs : Arv Z h sa ks .long (4 : Int32) [(.long 0), (.long 0), (.long 0), (.long 0)] (.long 0)) (vn : Arv Z h na kn .int (4 : Int32) [(.int 0), (.int 0), (.int 0), (.int 0)] (.int 0)) (xt : Exa Z h t "java/time/Instant") (ft : Fld Z h t "java/time/Instant" "seconds" "J" (.long (0 : Int64))) (gt : Fld Z h t "java/time/Instant" "nanos" "I" (.int (0 : Int32))) :
    Con l (⟨"com/example/rens/rens/TimeRing", "set", "(JLjava/time/Instant;)V"⟩ : MethodName) prog_22_method_6_code 5 none ({ frames := 1, cells := 0, slots := 0, locals := 14 } : Room) Z n0 #[(.ref a), (.long f), (.ref t)] h (fun v h' => v = none ∧ Keep h h' [a, sa, na] ∧ Fld Z h' a "com/example/rens/rens/TimeRing" "seconds" "[J" (.ref sa) ∧ Fld Z h' a "com/example/rens/rens/TimeRing" "nanos" "[I" (.ref na) ∧ Fld Z h' a "com/example/rens/rens/TimeRing" "head" "I" (.int (0 : Int32)) ∧ Fld Z h' a "com/example/rens/rens/TimeRing" "size" "I" (.int (1 : Int32)) ∧ Fld Z h' a "com/example/rens/rens/TimeRing" "first" "J" (.long f) ∧ Arv Z h' sa ks .long (4 : Int32) [(.long 0), (.long 0), (.long 0), (.long 0)] (.long 0) ∧ Arv Z h' na kn .int (4 : Int32) [(.int 0), (.int 0), (.int 0), (.int 0)] (.int 0)) := by
  refine Con.of_go (plainFor_of_name pn_1) (Ls := #[.val (.ref a), .val (.long f), .second, .val (.ref t), .unset]) (fun m => by first | (simp [entryFrame, mkF, argsToLocals, Value.category]; done) | rfl) ?_
  refine Go.aloadN (pc' := 1) d5_0 rfl rfl rfl ?_
  refine Go.getfield (pc' := 4) (host := "") (Or.inl (ww hw 29 rfl)) Via.refl pf3 d5_1 rfl ?_
  refine Go.ifNo (pc' := 7) d5_4 (XT.i0_ne_f (by decide)) rfl ?_
  refine Go.aloadN (pc' := 8) d5_7 rfl rfl rfl ?_
  refine Go.lloadN (pc' := 9) d5_8 rfl rfl ?_
  refine Go.putfield (pc' := 12) (host := "") (Or.inl (ww hw 31 rfl)) Via.refl pf4 x (Or.inl (ww hw 32 rfl)) (ww hw 2 rfl) (ty := .long) (by decide) rfl rfl ge_a d5_9 rfl ?_
  intro h1 W2
  have K3 : Keep h h1 [a, sa, na] := (Keep.refl h [a, sa, na]).wr W2 (Or.inl (List.mem_of_getElem? (i := 0) rfl))
  have f4 := pf4.same W2
  refine Go.lloadN (pc' := 13) d5_12 rfl rfl ?_
  refine Go.aloadN (pc' := 14) d5_13 rfl rfl rfl ?_
  refine Go.getfield (pc' := 17) (host := "") (Or.inl (ww hw 31 rfl)) Via.refl f4 d5_14 rfl ?_
  refine Go.aloadN (pc' := 18) d5_17 rfl rfl rfl ?_
  have f5 : Fld Z h1 a "com/example/rens/rens/TimeRing" "size" "I" (.int (0 : Int32)) := (pf3.other W2 (Or.inr (slot_ne (Or.inl (ww hw 30 rfl)) (Or.inl (ww hw 32 rfl)) (by decide) (t := .int) (t' := .long) (by decide) (by decide))))
  refine Go.getfield (pc' := 21) (host := "") (Or.inl (ww hw 29 rfl)) Via.refl f5 d5_18 rfl ?_
  refine Go.i2l (pc' := 22) d5_21 rfl ?_
  show Go _ _ _ _ _ _ _ _ _ _ _ _ 22 #[.val (.ref a), .val (.long f), .second, .val (.ref t), .unset] [(.long (0 : Int64)), (.long f), (.long f)]
  refine Go.ladd (pc' := 23) d5_22 rfl ?_
  refine Go.lcmp (pc' := 24) d5_23 rfl ?_
  refine Go.ifNo (pc' := 27) d5_24 (XT.ll_ne_f (by exact (own_ax0 f) : f = (f + (0 : Int64)))) rfl ?_
  refine Go.aloadN (pc' := 28) d5_27 rfl rfl rfl ?_
  refine Go.getfield (pc' := 31) (host := "") (Or.inl (ww hw 29 rfl)) Via.refl f5 d5_28 rfl ?_
  refine Go.aloadN (pc' := 32) d5_31 rfl rfl rfl ?_
  have f6 : Fld Z h1 a "com/example/rens/rens/TimeRing" "seconds" "[J" (.ref sa) := (pf0.other W2 (Or.inr (slot_ne (Or.inl (ww hw 12 rfl)) (Or.inl (ww hw 32 rfl)) (by decide) (t := (.array .long)) (t' := .long) (by decide) (by decide))))
  refine Go.getfield (pc' := 35) (host := "") (Or.inl (ww hw 11 rfl)) Via.refl f6 d5_32 rfl ?_
  refine Go.arraylength (pc' := 36) (vs.other W2 (Ne.symm ne_a_sa)) d5_35 rfl ?_
  refine Go.icmpYes (pc' := 43) d5_36 (XT.ii_ne_t (by decide)) (by decide) (by decide) ?_
  refine Go.aloadN (pc' := 44) d5_43 rfl rfl rfl ?_
  refine Go.dup (pc' := 45) d5_44 rfl rfl ?_
  refine Go.getfield (pc' := 48) (host := "") (Or.inl (ww hw 29 rfl)) Via.refl f5 d5_45 rfl ?_
  refine Go.iconst (pc' := 49) (v := (1 : Int32)) d5_48 rfl rfl ?_
  refine Go.iadd (pc' := 50) d5_49 rfl ?_
  show Go _ _ _ _ _ _ _ _ _ _ _ _ 50 #[.val (.ref a), .val (.long f), .second, .val (.ref t), .unset] [(.int (1 : Int32)), (.ref a)]
  refine Go.putfield (pc' := 53) (host := "") (Or.inl (ww hw 29 rfl)) Via.refl f5 (x.wr W2) (Or.inl (ww hw 30 rfl)) (ww hw 2 rfl) (ty := .int) (by decide) rfl rfl ge_a d5_50 rfl ?_
  intro h7 W8
  have K9 : Keep h h7 [a, sa, na] := K3.wr W8 (Or.inl (List.mem_of_getElem? (i := 0) rfl))
  have f10 := f5.same W8
  refine Go.goto (pc' := 99) d5_53 (by decide) (by decide) ?_
  refine Go.aloadN (pc' := 100) d5_99 rfl rfl rfl ?_
  refine Go.lloadN (pc' := 101) d5_100 rfl rfl ?_
  refine Go.aloadN (pc' := 102) d5_101 rfl rfl rfl ?_
  have f11 : Fld Z h7 a "com/example/rens/rens/TimeRing" "first" "J" (.long f) := (f4.other W8 (Or.inr (slot_ne (Or.inl (ww hw 32 rfl)) (Or.inl (ww hw 30 rfl)) (by decide) (t := .long) (t' := .int) (by decide) (by decide))))
  refine Go.getfield (pc' := 105) (host := "") (Or.inl (ww hw 31 rfl)) Via.refl f11 d5_102 rfl ?_
  refine Go.lsub (pc' := 106) d5_105 rfl ?_
  have f12 : Fld Z h7 a "com/example/rens/rens/TimeRing" "head" "I" (.int (0 : Int32)) := ((pf2.other W2 (Or.inr (slot_ne (Or.inl (ww hw 38 rfl)) (Or.inl (ww hw 32 rfl)) (by decide) (t := .int) (t' := .long) (by decide) (by decide)))).other W8 (Or.inr (slot_ne (Or.inl (ww hw 38 rfl)) (Or.inl (ww hw 30 rfl)) (by decide) (t := .int) (t' := .int) (by decide) (by decide))))
  have f13 : Fld Z h7 a "com/example/rens/rens/TimeRing" "seconds" "[J" (.ref sa) := (f6.other W8 (Or.inr (slot_ne (Or.inl (ww hw 12 rfl)) (Or.inl (ww hw 30 rfl)) (by decide) (t := (.array .long)) (t' := .int) (by decide) (by decide))))
  have f14 : Arv Z h7 sa ks .long (4 : Int32) [(.long 0), (.long 0), (.long 0), (.long 0)] (.long 0) := ((vs.other W2 (Ne.symm ne_a_sa)).other W8 (Ne.symm ne_a_sa))
  refine Go.callP (cells' := 0) (slots' := 0) (pc' := 109) [(.long (f - f))] [] ((x.wr W2).wr W8) (ww hw 33 rfl) (ww hw 34 rfl) (Jvm.Kit.selects_private (by decide) (ww hw 2 rfl) (ww hw 35 rfl) (ww hw 34 rfl)) (ww hw 35 rfl) (ww hw 3 rfl) (ww hw 36 rfl) (by decide) (c_slot0_0_0 l Z a0 hw h7 a sa ks (f - f) (own_ax1 f) f12 f13 f14) pd_3 rfl rfl rfl rfl rfl (nl rfl) (nl rfl) (nl rfl) (nl rfl) d5_106 rfl ?_
  rintro _ _ ⟨rfl, rfl⟩
  show Go _ _ _ _ _ _ _ _ _ _ _ _ 109 #[.val (.ref a), .val (.long f), .second, .val (.ref t), .unset] [(.int (0 : Int32))]
  refine Go.istore (pc' := 111) (Ls' := #[.val (.ref a), .val (.long f), .second, .val (.ref t), .val (.int (0 : Int32))]) d5_109 rfl rfl ?_
  refine Go.aloadN (pc' := 112) d5_111 rfl rfl rfl ?_
  refine Go.getfield (pc' := 115) (host := "") (Or.inl (ww hw 11 rfl)) Via.refl f13 d5_112 rfl ?_
  refine Go.iload (pc' := 117) d5_115 rfl rfl ?_
  refine Go.aloadN (pc' := 118) d5_117 rfl rfl rfl ?_
  have f16 : Fld Z h7 t "java/time/Instant" "seconds" "J" (.long (0 : Int64)) := ((ft.other W2 (Or.inl ne_t_a)).other W8 (Or.inl ne_t_a))
  refine Go.callV (cells' := 0) (slots' := 0) (pc' := 121) [] [(.int (0 : Int32)), (.ref sa)] ((xt.wr W2).wr W8) (ww hw 39 rfl) (ww hw 40 rfl) (fun s' hs' => notFace_of_selects (args := #[]) (mvT hs' (ww hw 42 rfl))) (ww hw 42 rfl) (ww hw 41 rfl) (ww hw 18 rfl) (ww hw 43 rfl) (by decide) (c_getSec l Z a0 hw h7 t (0 : Int64) f16) pd_4 rfl rfl rfl rfl rfl (nl rfl) (nl rfl) (nl rfl) (nl rfl) d5_118 rfl ?_
  rintro _ _ ⟨rfl, rfl⟩
  show Go _ _ _ _ _ _ _ _ _ _ _ _ 121 #[.val (.ref a), .val (.long f), .second, .val (.ref t), .val (.int (0 : Int32))] [(.long (0 : Int64)), (.int (0 : Int32)), (.ref sa)]
  refine Go.lastore (pc' := 122) f14 ge_sa d5_121 (by decide) (by decide) (i := 0) rfl (nl rfl) rfl ?_
  intro h18 W19 V20
  have K21 : Keep h h18 [a, sa, na] := K9.wr W19 (Or.inl (List.mem_of_getElem? (i := 1) rfl))
  replace V20 : Arv Z h18 sa ks .long (4 : Int32) [(.long (0 : Int64)), (.long 0), (.long 0), (.long 0)] (.long 0) := V20
  refine Go.aloadN (pc' := 123) d5_122 rfl rfl rfl ?_
  have f22 : Fld Z h18 a "com/example/rens/rens/TimeRing" "nanos" "[I" (.ref na) := (((pf1.other W2 (Or.inr (slot_ne (Or.inl (ww hw 15 rfl)) (Or.inl (ww hw 32 rfl)) (by decide) (t := (.array .int)) (t' := .long) (by decide) (by decide)))).other W8 (Or.inr (slot_ne (Or.inl (ww hw 15 rfl)) (Or.inl (ww hw 30 rfl)) (by decide) (t := (.array .int)) (t' := .int) (by decide) (by decide)))).other W19 (Or.inl ne_a_sa))
  refine Go.getfield (pc' := 126) (host := "") (Or.inl (ww hw 14 rfl)) Via.refl f22 d5_123 rfl ?_
  refine Go.iload (pc' := 128) d5_126 rfl rfl ?_
  refine Go.aloadN (pc' := 129) d5_128 rfl rfl rfl ?_
  have f23 : Fld Z h18 t "java/time/Instant" "nanos" "I" (.int (0 : Int32)) := (((gt.other W2 (Or.inl ne_t_a)).other W8 (Or.inl ne_t_a)).other W19 (Or.inl ne_t_sa))
  refine Go.callV (cells' := 0) (slots' := 0) (pc' := 132) [] [(.int (0 : Int32)), (.ref na)] (((xt.wr W2).wr W8).wr W19) (ww hw 46 rfl) (ww hw 47 rfl) (fun s' hs' => notFace_of_selects (args := #[]) (mvT hs' (ww hw 49 rfl))) (ww hw 49 rfl) (ww hw 48 rfl) (ww hw 18 rfl) (ww hw 50 rfl) (by decide) (c_getNano l Z a0 hw h18 t (0 : Int32) f23) pd_5 rfl rfl rfl rfl rfl (nl rfl) (nl rfl) (nl rfl) (nl rfl) d5_129 rfl ?_
  rintro _ _ ⟨rfl, rfl⟩
  show Go _ _ _ _ _ _ _ _ _ _ _ _ 132 #[.val (.ref a), .val (.long f), .second, .val (.ref t), .val (.int (0 : Int32))] [(.int (0 : Int32)), (.int (0 : Int32)), (.ref na)]
  have f25 : Arv Z h18 na kn .int (4 : Int32) [(.int 0), (.int 0), (.int 0), (.int 0)] (.int 0) := (((vn.other W2 (Ne.symm ne_a_na)).other W8 (Ne.symm ne_a_na)).other W19 (Ne.symm ne_sa_na))
  refine Go.iastore (pc' := 133) f25 ge_na d5_132 (by decide) (by decide) (i := 0) rfl (nl rfl) rfl ?_
  intro h26 W27 V28
  have K29 : Keep h h26 [a, sa, na] := K21.wr W27 (Or.inl (List.mem_of_getElem? (i := 2) rfl))
  replace V28 : Arv Z h26 na kn .int (4 : Int32) [(.int (0 : Int32)), (.int 0), (.int 0), (.int 0)] (.int 0) := V28
  have f30 : Fld Z h26 a "com/example/rens/rens/TimeRing" "seconds" "[J" (.ref sa) := ((f13.other W19 (Or.inl ne_a_sa)).other W27 (Or.inl ne_a_na))
  have f31 : Fld Z h26 a "com/example/rens/rens/TimeRing" "head" "I" (.int (0 : Int32)) := ((f12.other W19 (Or.inl ne_a_sa)).other W27 (Or.inl ne_a_na))
  have f32 : Fld Z h26 a "com/example/rens/rens/TimeRing" "size" "I" (.int (1 : Int32)) := ((f10.other W19 (Or.inl ne_a_sa)).other W27 (Or.inl ne_a_na))
  have f33 : Fld Z h26 a "com/example/rens/rens/TimeRing" "first" "J" (.long f) := ((f11.other W19 (Or.inl ne_a_sa)).other W27 (Or.inl ne_a_na))
  exact Go.retV rfl d5_133 ⟨rfl, K29, f30, (f22.other W27 (Or.inl ne_a_na)), f31, f32, f33, (V20.other W27 ne_sa_na), V28⟩ (by decide) (by decide)
set_option maxRecDepth 65536 in
set_option maxHeartbeats 4000000 in
theorem c_slot0_1_1 (l : Launch) (Z : State) (a0 : Array Value) (hw : ∀ d ∈ tables_1, d.before a0 Z = true) {n0 : Nat} (h : Heap) (a : Addr) (sa : Addr) (ks : ClassId) (o : Int64) (ho : o = (1 : Int64)) (fh : Fld Z h a "com/example/rens/rens/TimeRing" "head" "I" (.int (0 : Int32))) (fs : Fld Z h a "com/example/rens/rens/TimeRing" "seconds" "[J" (.ref sa)) (v : Arv Z h sa ks .long (4 : Int32) [(.long 0), (.long 0), (.long 0), (.long 0)] (.long 0)) :
    Con l (⟨"com/example/rens/rens/TimeRing", "slot", "(J)I"⟩ : MethodName) prog_22_method_8_code 3 (some .int) ({ frames := 0, cells := 0, slots := 0, locals := 0 } : Room) Z n0 #[(.ref a), (.long o)] h (fun v h' => v = some (.int (1 : Int32)) ∧ h = h') := by
  refine Con.of_go (plainFor_of_name pn_1) (Ls := #[.val (.ref a), .val (.long o), .second]) (fun m => by first | (simp [entryFrame, mkF, argsToLocals, Value.category]; done) | rfl) ?_
  refine Go.aloadN (pc' := 1) d6_0 rfl rfl rfl ?_
  refine Go.getfield (pc' := 4) (host := "") (Or.inl (ww hw 37 rfl)) Via.refl fh d6_1 rfl ?_
  refine Go.i2l (pc' := 5) d6_4 rfl ?_
  show Go _ _ _ _ _ _ _ _ _ _ _ _ 5 #[.val (.ref a), .val (.long o), .second] [(.long (0 : Int64))]
  refine Go.lloadN (pc' := 6) d6_5 rfl rfl ?_
  refine Go.ladd (pc' := 7) d6_6 rfl ?_
  refine Go.aloadN (pc' := 8) d6_7 rfl rfl rfl ?_
  refine Go.getfield (pc' := 11) (host := "") (Or.inl (ww hw 11 rfl)) Via.refl fs d6_8 rfl ?_
  refine Go.arraylength (pc' := 12) v d6_11 rfl ?_
  refine Go.iconst (pc' := 13) (v := (1 : Int32)) d6_12 rfl rfl ?_
  refine Go.isub (pc' := 14) d6_13 rfl ?_
  show Go _ _ _ _ _ _ _ _ _ _ _ _ 14 #[.val (.ref a), .val (.long o), .second] [(.int (3 : Int32)), (.long ((0 : Int64) + o))]
  refine Go.i2l (pc' := 15) d6_14 rfl ?_
  show Go _ _ _ _ _ _ _ _ _ _ _ _ 15 #[.val (.ref a), .val (.long o), .second] [(.long (3 : Int64)), (.long ((0 : Int64) + o))]
  refine Go.land (pc' := 16) d6_15 rfl ?_
  refine Go.l2i (pc' := 17) d6_16 rfl ?_
  exact Go.retI rfl d6_17 ⟨(by rw [ho]; rfl), rfl⟩ (by decide) (by decide)
theorem own_ax2 (f : Int64) : ((f + (1 : Int64)) - f) = (1 : Int64) := by grind
set_option maxRecDepth 65536 in
set_option maxHeartbeats 4000000 in
theorem c_set1 (l : Launch) (Z : State) (a0 : Array Value) (hw : ∀ d ∈ tables_1, d.before a0 Z = true) {n0 : Nat} (h : Heap) (a : Addr) (sa : Addr) (ks : ClassId) (na : Addr) (kn : ClassId) (f : Int64) (t : Addr) (ge_a : n0 ≤ a) (ge_sa : n0 ≤ sa) (ge_na : n0 ≤ na) (ne_a_sa : a ≠ sa) (ne_a_na : a ≠ na) (ne_sa_na : sa ≠ na) (ne_t_a : t ≠ a) (ne_t_sa : t ≠ sa) (ne_t_na : t ≠ na) (x : Exa Z h a "com/example/rens/rens/TimeRing") (pf0 : Fld Z h a "com/example/rens/rens/TimeRing" "seconds" "[J" (.ref sa)) (pf1 : Fld Z h a "com/example/rens/rens/TimeRing" "nanos" "[I" (.ref na)) (pf2 : Fld Z h a "com/example/rens/rens/TimeRing" "head" "I" (.int (0 : Int32))) (pf3 : Fld Z h a "com/example/rens/rens/TimeRing" "size" "I" (.int (1 : Int32))) (pf4 : Fld Z h a "com/example/rens/rens/TimeRing" "first" "J" (.long f)) (vs : Arv Z h sa ks .long (4 : Int32) [(.long 0), (.long 0), (.long 0), (.long 0)] (.long 0)) (vn : Arv Z h na kn .int (4 : Int32) [(.int 0), (.int 0), (.int 0), (.int 0)] (.int 0)) (xt : Exa Z h t "java/time/Instant") (ft : Fld Z h t "java/time/Instant" "seconds" "J" (.long (1 : Int64))) (gt : Fld Z h t "java/time/Instant" "nanos" "I" (.int (0 : Int32))) :
    Con l (⟨"com/example/rens/rens/TimeRing", "set", "(JLjava/time/Instant;)V"⟩ : MethodName) prog_22_method_6_code 5 none ({ frames := 1, cells := 0, slots := 0, locals := 14 } : Room) Z n0 #[(.ref a), (.long (f + (1 : Int64))), (.ref t)] h (fun v h' => v = none ∧ Keep h h' [a, sa, na] ∧ Fld Z h' a "com/example/rens/rens/TimeRing" "seconds" "[J" (.ref sa) ∧ Fld Z h' a "com/example/rens/rens/TimeRing" "nanos" "[I" (.ref na) ∧ Fld Z h' a "com/example/rens/rens/TimeRing" "head" "I" (.int (0 : Int32)) ∧ Fld Z h' a "com/example/rens/rens/TimeRing" "size" "I" (.int (2 : Int32)) ∧ Fld Z h' a "com/example/rens/rens/TimeRing" "first" "J" (.long f) ∧ Arv Z h' sa ks .long (4 : Int32) [(.long 0), (.long 1), (.long 0), (.long 0)] (.long 0) ∧ Arv Z h' na kn .int (4 : Int32) [(.int 0), (.int 0), (.int 0), (.int 0)] (.int 0)) := by
  refine Con.of_go (plainFor_of_name pn_1) (Ls := #[.val (.ref a), .val (.long (f + (1 : Int64))), .second, .val (.ref t), .unset]) (fun m => by first | (simp [entryFrame, mkF, argsToLocals, Value.category]; done) | rfl) ?_
  refine Go.aloadN (pc' := 1) d5_0 rfl rfl rfl ?_
  refine Go.getfield (pc' := 4) (host := "") (Or.inl (ww hw 29 rfl)) Via.refl pf3 d5_1 rfl ?_
  refine Go.ifYes (pc' := 12) d5_4 (XT.i0_ne_t (by decide)) (by decide) (by decide) ?_
  refine Go.lloadN (pc' := 13) d5_12 rfl rfl ?_
  refine Go.aloadN (pc' := 14) d5_13 rfl rfl rfl ?_
  refine Go.getfield (pc' := 17) (host := "") (Or.inl (ww hw 31 rfl)) Via.refl pf4 d5_14 rfl ?_
  refine Go.aloadN (pc' := 18) d5_17 rfl rfl rfl ?_
  refine Go.getfield (pc' := 21) (host := "") (Or.inl (ww hw 29 rfl)) Via.refl pf3 d5_18 rfl ?_
  refine Go.i2l (pc' := 22) d5_21 rfl ?_
  show Go _ _ _ _ _ _ _ _ _ _ _ _ 22 #[.val (.ref a), .val (.long (f + (1 : Int64))), .second, .val (.ref t), .unset] [(.long (1 : Int64)), (.long f), (.long (f + (1 : Int64)))]
  refine Go.ladd (pc' := 23) d5_22 rfl ?_
  refine Go.lcmp (pc' := 24) d5_23 rfl ?_
  refine Go.ifNo (pc' := 27) d5_24 (XT.ll_ne_f rfl) rfl ?_
  refine Go.aloadN (pc' := 28) d5_27 rfl rfl rfl ?_
  refine Go.getfield (pc' := 31) (host := "") (Or.inl (ww hw 29 rfl)) Via.refl pf3 d5_28 rfl ?_
  refine Go.aloadN (pc' := 32) d5_31 rfl rfl rfl ?_
  refine Go.getfield (pc' := 35) (host := "") (Or.inl (ww hw 11 rfl)) Via.refl pf0 d5_32 rfl ?_
  refine Go.arraylength (pc' := 36) vs d5_35 rfl ?_
  refine Go.icmpYes (pc' := 43) d5_36 (XT.ii_ne_t (by decide)) (by decide) (by decide) ?_
  refine Go.aloadN (pc' := 44) d5_43 rfl rfl rfl ?_
  refine Go.dup (pc' := 45) d5_44 rfl rfl ?_
  refine Go.getfield (pc' := 48) (host := "") (Or.inl (ww hw 29 rfl)) Via.refl pf3 d5_45 rfl ?_
  refine Go.iconst (pc' := 49) (v := (1 : Int32)) d5_48 rfl rfl ?_
  refine Go.iadd (pc' := 50) d5_49 rfl ?_
  show Go _ _ _ _ _ _ _ _ _ _ _ _ 50 #[.val (.ref a), .val (.long (f + (1 : Int64))), .second, .val (.ref t), .unset] [(.int (2 : Int32)), (.ref a)]
  refine Go.putfield (pc' := 53) (host := "") (Or.inl (ww hw 29 rfl)) Via.refl pf3 x (Or.inl (ww hw 30 rfl)) (ww hw 2 rfl) (ty := .int) (by decide) rfl rfl ge_a d5_50 rfl ?_
  intro h1 W2
  have K3 : Keep h h1 [a, sa, na] := (Keep.refl h [a, sa, na]).wr W2 (Or.inl (List.mem_of_getElem? (i := 0) rfl))
  have f4 := pf3.same W2
  refine Go.goto (pc' := 99) d5_53 (by decide) (by decide) ?_
  refine Go.aloadN (pc' := 100) d5_99 rfl rfl rfl ?_
  refine Go.lloadN (pc' := 101) d5_100 rfl rfl ?_
  refine Go.aloadN (pc' := 102) d5_101 rfl rfl rfl ?_
  have f5 : Fld Z h1 a "com/example/rens/rens/TimeRing" "first" "J" (.long f) := (pf4.other W2 (Or.inr (slot_ne (Or.inl (ww hw 32 rfl)) (Or.inl (ww hw 30 rfl)) (by decide) (t := .long) (t' := .int) (by decide) (by decide))))
  refine Go.getfield (pc' := 105) (host := "") (Or.inl (ww hw 31 rfl)) Via.refl f5 d5_102 rfl ?_
  refine Go.lsub (pc' := 106) d5_105 rfl ?_
  have f6 : Fld Z h1 a "com/example/rens/rens/TimeRing" "head" "I" (.int (0 : Int32)) := (pf2.other W2 (Or.inr (slot_ne (Or.inl (ww hw 38 rfl)) (Or.inl (ww hw 30 rfl)) (by decide) (t := .int) (t' := .int) (by decide) (by decide))))
  have f7 : Fld Z h1 a "com/example/rens/rens/TimeRing" "seconds" "[J" (.ref sa) := (pf0.other W2 (Or.inr (slot_ne (Or.inl (ww hw 12 rfl)) (Or.inl (ww hw 30 rfl)) (by decide) (t := (.array .long)) (t' := .int) (by decide) (by decide))))
  refine Go.callP (cells' := 0) (slots' := 0) (pc' := 109) [(.long ((f + (1 : Int64)) - f))] [] (x.wr W2) (ww hw 33 rfl) (ww hw 34 rfl) (Jvm.Kit.selects_private (by decide) (ww hw 2 rfl) (ww hw 35 rfl) (ww hw 34 rfl)) (ww hw 35 rfl) (ww hw 3 rfl) (ww hw 36 rfl) (by decide) (c_slot0_1_1 l Z a0 hw h1 a sa ks (((f + (1 : Int64)) - f)) (own_ax2 f) f6 f7 ((vs.other W2 (Ne.symm ne_a_sa)))) pd_3 rfl rfl rfl rfl rfl (nl rfl) (nl rfl) (nl rfl) (nl rfl) d5_106 rfl ?_
  rintro _ _ ⟨rfl, rfl⟩
  show Go _ _ _ _ _ _ _ _ _ _ _ _ 109 #[.val (.ref a), .val (.long (f + (1 : Int64))), .second, .val (.ref t), .unset] [(.int (1 : Int32))]
  refine Go.istore (pc' := 111) (Ls' := #[.val (.ref a), .val (.long (f + (1 : Int64))), .second, .val (.ref t), .val (.int (1 : Int32))]) d5_109 rfl rfl ?_
  refine Go.aloadN (pc' := 112) d5_111 rfl rfl rfl ?_
  refine Go.getfield (pc' := 115) (host := "") (Or.inl (ww hw 11 rfl)) Via.refl f7 d5_112 rfl ?_
  refine Go.iload (pc' := 117) d5_115 rfl rfl ?_
  refine Go.aloadN (pc' := 118) d5_117 rfl rfl rfl ?_
  refine Go.callV (cells' := 0) (slots' := 0) (pc' := 121) [] [(.int (1 : Int32)), (.ref sa)] (xt.wr W2) (ww hw 39 rfl) (ww hw 40 rfl) (fun s' hs' => notFace_of_selects (args := #[]) (mvT hs' (ww hw 42 rfl))) (ww hw 42 rfl) (ww hw 41 rfl) (ww hw 18 rfl) (ww hw 43 rfl) (by decide) (c_getSec l Z a0 hw h1 t (1 : Int64) ((ft.other W2 (Or.inl ne_t_a)))) pd_4 rfl rfl rfl rfl rfl (nl rfl) (nl rfl) (nl rfl) (nl rfl) d5_118 rfl ?_
  rintro _ _ ⟨rfl, rfl⟩
  show Go _ _ _ _ _ _ _ _ _ _ _ _ 121 #[.val (.ref a), .val (.long (f + (1 : Int64))), .second, .val (.ref t), .val (.int (1 : Int32))] [(.long (1 : Int64)), (.int (1 : Int32)), (.ref sa)]
  refine Go.lastore (pc' := 122) (vs.other W2 (Ne.symm ne_a_sa)) ge_sa d5_121 (by decide) (by decide) (i := 1) rfl (nl rfl) rfl ?_
  intro h10 W11 V12
  have K13 : Keep h h10 [a, sa, na] := K3.wr W11 (Or.inl (List.mem_of_getElem? (i := 1) rfl))
  replace V12 : Arv Z h10 sa ks .long (4 : Int32) [(.long 0), (.long (1 : Int64)), (.long 0), (.long 0)] (.long 0) := V12
  refine Go.aloadN (pc' := 123) d5_122 rfl rfl rfl ?_
  have f14 : Fld Z h10 a "com/example/rens/rens/TimeRing" "nanos" "[I" (.ref na) := ((pf1.other W2 (Or.inr (slot_ne (Or.inl (ww hw 15 rfl)) (Or.inl (ww hw 30 rfl)) (by decide) (t := (.array .int)) (t' := .int) (by decide) (by decide)))).other W11 (Or.inl ne_a_sa))
  refine Go.getfield (pc' := 126) (host := "") (Or.inl (ww hw 14 rfl)) Via.refl f14 d5_123 rfl ?_
  refine Go.iload (pc' := 128) d5_126 rfl rfl ?_
  refine Go.aloadN (pc' := 129) d5_128 rfl rfl rfl ?_
  have f15 : Fld Z h10 t "java/time/Instant" "nanos" "I" (.int (0 : Int32)) := ((gt.other W2 (Or.inl ne_t_a)).other W11 (Or.inl ne_t_sa))
  refine Go.callV (cells' := 0) (slots' := 0) (pc' := 132) [] [(.int (1 : Int32)), (.ref na)] ((xt.wr W2).wr W11) (ww hw 46 rfl) (ww hw 47 rfl) (fun s' hs' => notFace_of_selects (args := #[]) (mvT hs' (ww hw 49 rfl))) (ww hw 49 rfl) (ww hw 48 rfl) (ww hw 18 rfl) (ww hw 50 rfl) (by decide) (c_getNano l Z a0 hw h10 t (0 : Int32) f15) pd_5 rfl rfl rfl rfl rfl (nl rfl) (nl rfl) (nl rfl) (nl rfl) d5_129 rfl ?_
  rintro _ _ ⟨rfl, rfl⟩
  show Go _ _ _ _ _ _ _ _ _ _ _ _ 132 #[.val (.ref a), .val (.long (f + (1 : Int64))), .second, .val (.ref t), .val (.int (1 : Int32))] [(.int (0 : Int32)), (.int (1 : Int32)), (.ref na)]
  have f17 : Arv Z h10 na kn .int (4 : Int32) [(.int 0), (.int 0), (.int 0), (.int 0)] (.int 0) := ((vn.other W2 (Ne.symm ne_a_na)).other W11 (Ne.symm ne_sa_na))
  refine Go.iastore (pc' := 133) f17 ge_na d5_132 (by decide) (by decide) (i := 1) rfl (nl rfl) rfl ?_
  intro h18 W19 V20
  have K21 : Keep h h18 [a, sa, na] := K13.wr W19 (Or.inl (List.mem_of_getElem? (i := 2) rfl))
  replace V20 : Arv Z h18 na kn .int (4 : Int32) [(.int 0), (.int (0 : Int32)), (.int 0), (.int 0)] (.int 0) := V20
  have f22 : Fld Z h18 a "com/example/rens/rens/TimeRing" "seconds" "[J" (.ref sa) := ((f7.other W11 (Or.inl ne_a_sa)).other W19 (Or.inl ne_a_na))
  have f23 : Fld Z h18 a "com/example/rens/rens/TimeRing" "head" "I" (.int (0 : Int32)) := ((f6.other W11 (Or.inl ne_a_sa)).other W19 (Or.inl ne_a_na))
  have f24 : Fld Z h18 a "com/example/rens/rens/TimeRing" "size" "I" (.int (2 : Int32)) := ((f4.other W11 (Or.inl ne_a_sa)).other W19 (Or.inl ne_a_na))
  have f25 : Fld Z h18 a "com/example/rens/rens/TimeRing" "first" "J" (.long f) := ((f5.other W11 (Or.inl ne_a_sa)).other W19 (Or.inl ne_a_na))
  exact Go.retV rfl d5_133 ⟨rfl, K21, f22, (f14.other W19 (Or.inl ne_a_na)), f23, f24, f25, (V12.other W19 ne_sa_na), V20⟩ (by decide) (by decide)
set_option maxRecDepth 65536 in
set_option maxHeartbeats 4000000 in
theorem c_slot0_2_2 (l : Launch) (Z : State) (a0 : Array Value) (hw : ∀ d ∈ tables_1, d.before a0 Z = true) {n0 : Nat} (h : Heap) (a : Addr) (sa : Addr) (ks : ClassId) (o : Int64) (ho : o = (2 : Int64)) (fh : Fld Z h a "com/example/rens/rens/TimeRing" "head" "I" (.int (0 : Int32))) (fs : Fld Z h a "com/example/rens/rens/TimeRing" "seconds" "[J" (.ref sa)) (v : Arv Z h sa ks .long (4 : Int32) [(.long 0), (.long 1), (.long 0), (.long 0)] (.long 0)) :
    Con l (⟨"com/example/rens/rens/TimeRing", "slot", "(J)I"⟩ : MethodName) prog_22_method_8_code 3 (some .int) ({ frames := 0, cells := 0, slots := 0, locals := 0 } : Room) Z n0 #[(.ref a), (.long o)] h (fun v h' => v = some (.int (2 : Int32)) ∧ h = h') := by
  refine Con.of_go (plainFor_of_name pn_1) (Ls := #[.val (.ref a), .val (.long o), .second]) (fun m => by first | (simp [entryFrame, mkF, argsToLocals, Value.category]; done) | rfl) ?_
  refine Go.aloadN (pc' := 1) d6_0 rfl rfl rfl ?_
  refine Go.getfield (pc' := 4) (host := "") (Or.inl (ww hw 37 rfl)) Via.refl fh d6_1 rfl ?_
  refine Go.i2l (pc' := 5) d6_4 rfl ?_
  show Go _ _ _ _ _ _ _ _ _ _ _ _ 5 #[.val (.ref a), .val (.long o), .second] [(.long (0 : Int64))]
  refine Go.lloadN (pc' := 6) d6_5 rfl rfl ?_
  refine Go.ladd (pc' := 7) d6_6 rfl ?_
  refine Go.aloadN (pc' := 8) d6_7 rfl rfl rfl ?_
  refine Go.getfield (pc' := 11) (host := "") (Or.inl (ww hw 11 rfl)) Via.refl fs d6_8 rfl ?_
  refine Go.arraylength (pc' := 12) v d6_11 rfl ?_
  refine Go.iconst (pc' := 13) (v := (1 : Int32)) d6_12 rfl rfl ?_
  refine Go.isub (pc' := 14) d6_13 rfl ?_
  show Go _ _ _ _ _ _ _ _ _ _ _ _ 14 #[.val (.ref a), .val (.long o), .second] [(.int (3 : Int32)), (.long ((0 : Int64) + o))]
  refine Go.i2l (pc' := 15) d6_14 rfl ?_
  show Go _ _ _ _ _ _ _ _ _ _ _ _ 15 #[.val (.ref a), .val (.long o), .second] [(.long (3 : Int64)), (.long ((0 : Int64) + o))]
  refine Go.land (pc' := 16) d6_15 rfl ?_
  refine Go.l2i (pc' := 17) d6_16 rfl ?_
  exact Go.retI rfl d6_17 ⟨(by rw [ho]; rfl), rfl⟩ (by decide) (by decide)
theorem own_ax3 (f : Int64) : ((f + (2 : Int64)) - f) = (2 : Int64) := by grind
set_option maxRecDepth 65536 in
set_option maxHeartbeats 4000000 in
theorem c_set2 (l : Launch) (Z : State) (a0 : Array Value) (hw : ∀ d ∈ tables_1, d.before a0 Z = true) {n0 : Nat} (h : Heap) (a : Addr) (sa : Addr) (ks : ClassId) (na : Addr) (kn : ClassId) (f : Int64) (t : Addr) (ge_a : n0 ≤ a) (ge_sa : n0 ≤ sa) (ge_na : n0 ≤ na) (ne_a_sa : a ≠ sa) (ne_a_na : a ≠ na) (ne_sa_na : sa ≠ na) (ne_t_a : t ≠ a) (ne_t_sa : t ≠ sa) (ne_t_na : t ≠ na) (x : Exa Z h a "com/example/rens/rens/TimeRing") (pf0 : Fld Z h a "com/example/rens/rens/TimeRing" "seconds" "[J" (.ref sa)) (pf1 : Fld Z h a "com/example/rens/rens/TimeRing" "nanos" "[I" (.ref na)) (pf2 : Fld Z h a "com/example/rens/rens/TimeRing" "head" "I" (.int (0 : Int32))) (pf3 : Fld Z h a "com/example/rens/rens/TimeRing" "size" "I" (.int (2 : Int32))) (pf4 : Fld Z h a "com/example/rens/rens/TimeRing" "first" "J" (.long f)) (vs : Arv Z h sa ks .long (4 : Int32) [(.long 0), (.long 1), (.long 0), (.long 0)] (.long 0)) (vn : Arv Z h na kn .int (4 : Int32) [(.int 0), (.int 0), (.int 0), (.int 0)] (.int 0)) (xt : Exa Z h t "java/time/Instant") (ft : Fld Z h t "java/time/Instant" "seconds" "J" (.long (2 : Int64))) (gt : Fld Z h t "java/time/Instant" "nanos" "I" (.int (0 : Int32))) :
    Con l (⟨"com/example/rens/rens/TimeRing", "set", "(JLjava/time/Instant;)V"⟩ : MethodName) prog_22_method_6_code 5 none ({ frames := 1, cells := 0, slots := 0, locals := 14 } : Room) Z n0 #[(.ref a), (.long (f + (2 : Int64))), (.ref t)] h (fun v h' => v = none ∧ Keep h h' [a, sa, na] ∧ Fld Z h' a "com/example/rens/rens/TimeRing" "seconds" "[J" (.ref sa) ∧ Fld Z h' a "com/example/rens/rens/TimeRing" "nanos" "[I" (.ref na) ∧ Fld Z h' a "com/example/rens/rens/TimeRing" "head" "I" (.int (0 : Int32)) ∧ Fld Z h' a "com/example/rens/rens/TimeRing" "size" "I" (.int (3 : Int32)) ∧ Fld Z h' a "com/example/rens/rens/TimeRing" "first" "J" (.long f) ∧ Arv Z h' sa ks .long (4 : Int32) [(.long 0), (.long 1), (.long 2), (.long 0)] (.long 0) ∧ Arv Z h' na kn .int (4 : Int32) [(.int 0), (.int 0), (.int 0), (.int 0)] (.int 0)) := by
  refine Con.of_go (plainFor_of_name pn_1) (Ls := #[.val (.ref a), .val (.long (f + (2 : Int64))), .second, .val (.ref t), .unset]) (fun m => by first | (simp [entryFrame, mkF, argsToLocals, Value.category]; done) | rfl) ?_
  refine Go.aloadN (pc' := 1) d5_0 rfl rfl rfl ?_
  refine Go.getfield (pc' := 4) (host := "") (Or.inl (ww hw 29 rfl)) Via.refl pf3 d5_1 rfl ?_
  refine Go.ifYes (pc' := 12) d5_4 (XT.i0_ne_t (by decide)) (by decide) (by decide) ?_
  refine Go.lloadN (pc' := 13) d5_12 rfl rfl ?_
  refine Go.aloadN (pc' := 14) d5_13 rfl rfl rfl ?_
  refine Go.getfield (pc' := 17) (host := "") (Or.inl (ww hw 31 rfl)) Via.refl pf4 d5_14 rfl ?_
  refine Go.aloadN (pc' := 18) d5_17 rfl rfl rfl ?_
  refine Go.getfield (pc' := 21) (host := "") (Or.inl (ww hw 29 rfl)) Via.refl pf3 d5_18 rfl ?_
  refine Go.i2l (pc' := 22) d5_21 rfl ?_
  show Go _ _ _ _ _ _ _ _ _ _ _ _ 22 #[.val (.ref a), .val (.long (f + (2 : Int64))), .second, .val (.ref t), .unset] [(.long (2 : Int64)), (.long f), (.long (f + (2 : Int64)))]
  refine Go.ladd (pc' := 23) d5_22 rfl ?_
  refine Go.lcmp (pc' := 24) d5_23 rfl ?_
  refine Go.ifNo (pc' := 27) d5_24 (XT.ll_ne_f rfl) rfl ?_
  refine Go.aloadN (pc' := 28) d5_27 rfl rfl rfl ?_
  refine Go.getfield (pc' := 31) (host := "") (Or.inl (ww hw 29 rfl)) Via.refl pf3 d5_28 rfl ?_
  refine Go.aloadN (pc' := 32) d5_31 rfl rfl rfl ?_
  refine Go.getfield (pc' := 35) (host := "") (Or.inl (ww hw 11 rfl)) Via.refl pf0 d5_32 rfl ?_
  refine Go.arraylength (pc' := 36) vs d5_35 rfl ?_
  refine Go.icmpYes (pc' := 43) d5_36 (XT.ii_ne_t (by decide)) (by decide) (by decide) ?_
  refine Go.aloadN (pc' := 44) d5_43 rfl rfl rfl ?_
  refine Go.dup (pc' := 45) d5_44 rfl rfl ?_
  refine Go.getfield (pc' := 48) (host := "") (Or.inl (ww hw 29 rfl)) Via.refl pf3 d5_45 rfl ?_
  refine Go.iconst (pc' := 49) (v := (1 : Int32)) d5_48 rfl rfl ?_
  refine Go.iadd (pc' := 50) d5_49 rfl ?_
  show Go _ _ _ _ _ _ _ _ _ _ _ _ 50 #[.val (.ref a), .val (.long (f + (2 : Int64))), .second, .val (.ref t), .unset] [(.int (3 : Int32)), (.ref a)]
  refine Go.putfield (pc' := 53) (host := "") (Or.inl (ww hw 29 rfl)) Via.refl pf3 x (Or.inl (ww hw 30 rfl)) (ww hw 2 rfl) (ty := .int) (by decide) rfl rfl ge_a d5_50 rfl ?_
  intro h1 W2
  have K3 : Keep h h1 [a, sa, na] := (Keep.refl h [a, sa, na]).wr W2 (Or.inl (List.mem_of_getElem? (i := 0) rfl))
  have f4 := pf3.same W2
  refine Go.goto (pc' := 99) d5_53 (by decide) (by decide) ?_
  refine Go.aloadN (pc' := 100) d5_99 rfl rfl rfl ?_
  refine Go.lloadN (pc' := 101) d5_100 rfl rfl ?_
  refine Go.aloadN (pc' := 102) d5_101 rfl rfl rfl ?_
  have f5 : Fld Z h1 a "com/example/rens/rens/TimeRing" "first" "J" (.long f) := (pf4.other W2 (Or.inr (slot_ne (Or.inl (ww hw 32 rfl)) (Or.inl (ww hw 30 rfl)) (by decide) (t := .long) (t' := .int) (by decide) (by decide))))
  refine Go.getfield (pc' := 105) (host := "") (Or.inl (ww hw 31 rfl)) Via.refl f5 d5_102 rfl ?_
  refine Go.lsub (pc' := 106) d5_105 rfl ?_
  have f6 : Fld Z h1 a "com/example/rens/rens/TimeRing" "head" "I" (.int (0 : Int32)) := (pf2.other W2 (Or.inr (slot_ne (Or.inl (ww hw 38 rfl)) (Or.inl (ww hw 30 rfl)) (by decide) (t := .int) (t' := .int) (by decide) (by decide))))
  have f7 : Fld Z h1 a "com/example/rens/rens/TimeRing" "seconds" "[J" (.ref sa) := (pf0.other W2 (Or.inr (slot_ne (Or.inl (ww hw 12 rfl)) (Or.inl (ww hw 30 rfl)) (by decide) (t := (.array .long)) (t' := .int) (by decide) (by decide))))
  refine Go.callP (cells' := 0) (slots' := 0) (pc' := 109) [(.long ((f + (2 : Int64)) - f))] [] (x.wr W2) (ww hw 33 rfl) (ww hw 34 rfl) (Jvm.Kit.selects_private (by decide) (ww hw 2 rfl) (ww hw 35 rfl) (ww hw 34 rfl)) (ww hw 35 rfl) (ww hw 3 rfl) (ww hw 36 rfl) (by decide) (c_slot0_2_2 l Z a0 hw h1 a sa ks (((f + (2 : Int64)) - f)) (own_ax3 f) f6 f7 ((vs.other W2 (Ne.symm ne_a_sa)))) pd_3 rfl rfl rfl rfl rfl (nl rfl) (nl rfl) (nl rfl) (nl rfl) d5_106 rfl ?_
  rintro _ _ ⟨rfl, rfl⟩
  show Go _ _ _ _ _ _ _ _ _ _ _ _ 109 #[.val (.ref a), .val (.long (f + (2 : Int64))), .second, .val (.ref t), .unset] [(.int (2 : Int32))]
  refine Go.istore (pc' := 111) (Ls' := #[.val (.ref a), .val (.long (f + (2 : Int64))), .second, .val (.ref t), .val (.int (2 : Int32))]) d5_109 rfl rfl ?_
  refine Go.aloadN (pc' := 112) d5_111 rfl rfl rfl ?_
  refine Go.getfield (pc' := 115) (host := "") (Or.inl (ww hw 11 rfl)) Via.refl f7 d5_112 rfl ?_
  refine Go.iload (pc' := 117) d5_115 rfl rfl ?_
  refine Go.aloadN (pc' := 118) d5_117 rfl rfl rfl ?_
  refine Go.callV (cells' := 0) (slots' := 0) (pc' := 121) [] [(.int (2 : Int32)), (.ref sa)] (xt.wr W2) (ww hw 39 rfl) (ww hw 40 rfl) (fun s' hs' => notFace_of_selects (args := #[]) (mvT hs' (ww hw 42 rfl))) (ww hw 42 rfl) (ww hw 41 rfl) (ww hw 18 rfl) (ww hw 43 rfl) (by decide) (c_getSec l Z a0 hw h1 t (2 : Int64) ((ft.other W2 (Or.inl ne_t_a)))) pd_4 rfl rfl rfl rfl rfl (nl rfl) (nl rfl) (nl rfl) (nl rfl) d5_118 rfl ?_
  rintro _ _ ⟨rfl, rfl⟩
  show Go _ _ _ _ _ _ _ _ _ _ _ _ 121 #[.val (.ref a), .val (.long (f + (2 : Int64))), .second, .val (.ref t), .val (.int (2 : Int32))] [(.long (2 : Int64)), (.int (2 : Int32)), (.ref sa)]
  refine Go.lastore (pc' := 122) (vs.other W2 (Ne.symm ne_a_sa)) ge_sa d5_121 (by decide) (by decide) (i := 2) rfl (nl rfl) rfl ?_
  intro h10 W11 V12
  have K13 : Keep h h10 [a, sa, na] := K3.wr W11 (Or.inl (List.mem_of_getElem? (i := 1) rfl))
  replace V12 : Arv Z h10 sa ks .long (4 : Int32) [(.long 0), (.long 1), (.long (2 : Int64)), (.long 0)] (.long 0) := V12
  refine Go.aloadN (pc' := 123) d5_122 rfl rfl rfl ?_
  have f14 : Fld Z h10 a "com/example/rens/rens/TimeRing" "nanos" "[I" (.ref na) := ((pf1.other W2 (Or.inr (slot_ne (Or.inl (ww hw 15 rfl)) (Or.inl (ww hw 30 rfl)) (by decide) (t := (.array .int)) (t' := .int) (by decide) (by decide)))).other W11 (Or.inl ne_a_sa))
  refine Go.getfield (pc' := 126) (host := "") (Or.inl (ww hw 14 rfl)) Via.refl f14 d5_123 rfl ?_
  refine Go.iload (pc' := 128) d5_126 rfl rfl ?_
  refine Go.aloadN (pc' := 129) d5_128 rfl rfl rfl ?_
  have f15 : Fld Z h10 t "java/time/Instant" "nanos" "I" (.int (0 : Int32)) := ((gt.other W2 (Or.inl ne_t_a)).other W11 (Or.inl ne_t_sa))
  refine Go.callV (cells' := 0) (slots' := 0) (pc' := 132) [] [(.int (2 : Int32)), (.ref na)] ((xt.wr W2).wr W11) (ww hw 46 rfl) (ww hw 47 rfl) (fun s' hs' => notFace_of_selects (args := #[]) (mvT hs' (ww hw 49 rfl))) (ww hw 49 rfl) (ww hw 48 rfl) (ww hw 18 rfl) (ww hw 50 rfl) (by decide) (c_getNano l Z a0 hw h10 t (0 : Int32) f15) pd_5 rfl rfl rfl rfl rfl (nl rfl) (nl rfl) (nl rfl) (nl rfl) d5_129 rfl ?_
  rintro _ _ ⟨rfl, rfl⟩
  show Go _ _ _ _ _ _ _ _ _ _ _ _ 132 #[.val (.ref a), .val (.long (f + (2 : Int64))), .second, .val (.ref t), .val (.int (2 : Int32))] [(.int (0 : Int32)), (.int (2 : Int32)), (.ref na)]
  have f17 : Arv Z h10 na kn .int (4 : Int32) [(.int 0), (.int 0), (.int 0), (.int 0)] (.int 0) := ((vn.other W2 (Ne.symm ne_a_na)).other W11 (Ne.symm ne_sa_na))
  refine Go.iastore (pc' := 133) f17 ge_na d5_132 (by decide) (by decide) (i := 2) rfl (nl rfl) rfl ?_
  intro h18 W19 V20
  have K21 : Keep h h18 [a, sa, na] := K13.wr W19 (Or.inl (List.mem_of_getElem? (i := 2) rfl))
  replace V20 : Arv Z h18 na kn .int (4 : Int32) [(.int 0), (.int 0), (.int (0 : Int32)), (.int 0)] (.int 0) := V20
  have f22 : Fld Z h18 a "com/example/rens/rens/TimeRing" "seconds" "[J" (.ref sa) := ((f7.other W11 (Or.inl ne_a_sa)).other W19 (Or.inl ne_a_na))
  have f23 : Fld Z h18 a "com/example/rens/rens/TimeRing" "head" "I" (.int (0 : Int32)) := ((f6.other W11 (Or.inl ne_a_sa)).other W19 (Or.inl ne_a_na))
  have f24 : Fld Z h18 a "com/example/rens/rens/TimeRing" "size" "I" (.int (3 : Int32)) := ((f4.other W11 (Or.inl ne_a_sa)).other W19 (Or.inl ne_a_na))
  have f25 : Fld Z h18 a "com/example/rens/rens/TimeRing" "first" "J" (.long f) := ((f5.other W11 (Or.inl ne_a_sa)).other W19 (Or.inl ne_a_na))
  exact Go.retV rfl d5_133 ⟨rfl, K21, f22, (f14.other W19 (Or.inl ne_a_na)), f23, f24, f25, (V12.other W19 ne_sa_na), V20⟩ (by decide) (by decide)
set_option maxRecDepth 65536 in
set_option maxHeartbeats 4000000 in
theorem c_slot0_3_3 (l : Launch) (Z : State) (a0 : Array Value) (hw : ∀ d ∈ tables_1, d.before a0 Z = true) {n0 : Nat} (h : Heap) (a : Addr) (sa : Addr) (ks : ClassId) (o : Int64) (ho : o = (3 : Int64)) (fh : Fld Z h a "com/example/rens/rens/TimeRing" "head" "I" (.int (0 : Int32))) (fs : Fld Z h a "com/example/rens/rens/TimeRing" "seconds" "[J" (.ref sa)) (v : Arv Z h sa ks .long (4 : Int32) [(.long 0), (.long 1), (.long 2), (.long 0)] (.long 0)) :
    Con l (⟨"com/example/rens/rens/TimeRing", "slot", "(J)I"⟩ : MethodName) prog_22_method_8_code 3 (some .int) ({ frames := 0, cells := 0, slots := 0, locals := 0 } : Room) Z n0 #[(.ref a), (.long o)] h (fun v h' => v = some (.int (3 : Int32)) ∧ h = h') := by
  refine Con.of_go (plainFor_of_name pn_1) (Ls := #[.val (.ref a), .val (.long o), .second]) (fun m => by first | (simp [entryFrame, mkF, argsToLocals, Value.category]; done) | rfl) ?_
  refine Go.aloadN (pc' := 1) d6_0 rfl rfl rfl ?_
  refine Go.getfield (pc' := 4) (host := "") (Or.inl (ww hw 37 rfl)) Via.refl fh d6_1 rfl ?_
  refine Go.i2l (pc' := 5) d6_4 rfl ?_
  show Go _ _ _ _ _ _ _ _ _ _ _ _ 5 #[.val (.ref a), .val (.long o), .second] [(.long (0 : Int64))]
  refine Go.lloadN (pc' := 6) d6_5 rfl rfl ?_
  refine Go.ladd (pc' := 7) d6_6 rfl ?_
  refine Go.aloadN (pc' := 8) d6_7 rfl rfl rfl ?_
  refine Go.getfield (pc' := 11) (host := "") (Or.inl (ww hw 11 rfl)) Via.refl fs d6_8 rfl ?_
  refine Go.arraylength (pc' := 12) v d6_11 rfl ?_
  refine Go.iconst (pc' := 13) (v := (1 : Int32)) d6_12 rfl rfl ?_
  refine Go.isub (pc' := 14) d6_13 rfl ?_
  show Go _ _ _ _ _ _ _ _ _ _ _ _ 14 #[.val (.ref a), .val (.long o), .second] [(.int (3 : Int32)), (.long ((0 : Int64) + o))]
  refine Go.i2l (pc' := 15) d6_14 rfl ?_
  show Go _ _ _ _ _ _ _ _ _ _ _ _ 15 #[.val (.ref a), .val (.long o), .second] [(.long (3 : Int64)), (.long ((0 : Int64) + o))]
  refine Go.land (pc' := 16) d6_15 rfl ?_
  refine Go.l2i (pc' := 17) d6_16 rfl ?_
  exact Go.retI rfl d6_17 ⟨(by rw [ho]; rfl), rfl⟩ (by decide) (by decide)
theorem own_ax4 (f : Int64) : ((f + (3 : Int64)) - f) = (3 : Int64) := by grind
set_option maxRecDepth 65536 in
set_option maxHeartbeats 4000000 in
theorem c_set3 (l : Launch) (Z : State) (a0 : Array Value) (hw : ∀ d ∈ tables_1, d.before a0 Z = true) {n0 : Nat} (h : Heap) (a : Addr) (sa : Addr) (ks : ClassId) (na : Addr) (kn : ClassId) (f : Int64) (t : Addr) (ge_a : n0 ≤ a) (ge_sa : n0 ≤ sa) (ge_na : n0 ≤ na) (ne_a_sa : a ≠ sa) (ne_a_na : a ≠ na) (ne_sa_na : sa ≠ na) (ne_t_a : t ≠ a) (ne_t_sa : t ≠ sa) (ne_t_na : t ≠ na) (x : Exa Z h a "com/example/rens/rens/TimeRing") (pf0 : Fld Z h a "com/example/rens/rens/TimeRing" "seconds" "[J" (.ref sa)) (pf1 : Fld Z h a "com/example/rens/rens/TimeRing" "nanos" "[I" (.ref na)) (pf2 : Fld Z h a "com/example/rens/rens/TimeRing" "head" "I" (.int (0 : Int32))) (pf3 : Fld Z h a "com/example/rens/rens/TimeRing" "size" "I" (.int (3 : Int32))) (pf4 : Fld Z h a "com/example/rens/rens/TimeRing" "first" "J" (.long f)) (vs : Arv Z h sa ks .long (4 : Int32) [(.long 0), (.long 1), (.long 2), (.long 0)] (.long 0)) (vn : Arv Z h na kn .int (4 : Int32) [(.int 0), (.int 0), (.int 0), (.int 0)] (.int 0)) (xt : Exa Z h t "java/time/Instant") (ft : Fld Z h t "java/time/Instant" "seconds" "J" (.long (3 : Int64))) (gt : Fld Z h t "java/time/Instant" "nanos" "I" (.int (0 : Int32))) :
    Con l (⟨"com/example/rens/rens/TimeRing", "set", "(JLjava/time/Instant;)V"⟩ : MethodName) prog_22_method_6_code 5 none ({ frames := 1, cells := 0, slots := 0, locals := 14 } : Room) Z n0 #[(.ref a), (.long (f + (3 : Int64))), (.ref t)] h (fun v h' => v = none ∧ Keep h h' [a, sa, na] ∧ Fld Z h' a "com/example/rens/rens/TimeRing" "seconds" "[J" (.ref sa) ∧ Fld Z h' a "com/example/rens/rens/TimeRing" "nanos" "[I" (.ref na) ∧ Fld Z h' a "com/example/rens/rens/TimeRing" "head" "I" (.int (0 : Int32)) ∧ Fld Z h' a "com/example/rens/rens/TimeRing" "size" "I" (.int (4 : Int32)) ∧ Fld Z h' a "com/example/rens/rens/TimeRing" "first" "J" (.long f) ∧ Arv Z h' sa ks .long (4 : Int32) [(.long 0), (.long 1), (.long 2), (.long 3)] (.long 0) ∧ Arv Z h' na kn .int (4 : Int32) [(.int 0), (.int 0), (.int 0), (.int 0)] (.int 0)) := by
  refine Con.of_go (plainFor_of_name pn_1) (Ls := #[.val (.ref a), .val (.long (f + (3 : Int64))), .second, .val (.ref t), .unset]) (fun m => by first | (simp [entryFrame, mkF, argsToLocals, Value.category]; done) | rfl) ?_
  refine Go.aloadN (pc' := 1) d5_0 rfl rfl rfl ?_
  refine Go.getfield (pc' := 4) (host := "") (Or.inl (ww hw 29 rfl)) Via.refl pf3 d5_1 rfl ?_
  refine Go.ifYes (pc' := 12) d5_4 (XT.i0_ne_t (by decide)) (by decide) (by decide) ?_
  refine Go.lloadN (pc' := 13) d5_12 rfl rfl ?_
  refine Go.aloadN (pc' := 14) d5_13 rfl rfl rfl ?_
  refine Go.getfield (pc' := 17) (host := "") (Or.inl (ww hw 31 rfl)) Via.refl pf4 d5_14 rfl ?_
  refine Go.aloadN (pc' := 18) d5_17 rfl rfl rfl ?_
  refine Go.getfield (pc' := 21) (host := "") (Or.inl (ww hw 29 rfl)) Via.refl pf3 d5_18 rfl ?_
  refine Go.i2l (pc' := 22) d5_21 rfl ?_
  show Go _ _ _ _ _ _ _ _ _ _ _ _ 22 #[.val (.ref a), .val (.long (f + (3 : Int64))), .second, .val (.ref t), .unset] [(.long (3 : Int64)), (.long f), (.long (f + (3 : Int64)))]
  refine Go.ladd (pc' := 23) d5_22 rfl ?_
  refine Go.lcmp (pc' := 24) d5_23 rfl ?_
  refine Go.ifNo (pc' := 27) d5_24 (XT.ll_ne_f rfl) rfl ?_
  refine Go.aloadN (pc' := 28) d5_27 rfl rfl rfl ?_
  refine Go.getfield (pc' := 31) (host := "") (Or.inl (ww hw 29 rfl)) Via.refl pf3 d5_28 rfl ?_
  refine Go.aloadN (pc' := 32) d5_31 rfl rfl rfl ?_
  refine Go.getfield (pc' := 35) (host := "") (Or.inl (ww hw 11 rfl)) Via.refl pf0 d5_32 rfl ?_
  refine Go.arraylength (pc' := 36) vs d5_35 rfl ?_
  refine Go.icmpYes (pc' := 43) d5_36 (XT.ii_ne_t (by decide)) (by decide) (by decide) ?_
  refine Go.aloadN (pc' := 44) d5_43 rfl rfl rfl ?_
  refine Go.dup (pc' := 45) d5_44 rfl rfl ?_
  refine Go.getfield (pc' := 48) (host := "") (Or.inl (ww hw 29 rfl)) Via.refl pf3 d5_45 rfl ?_
  refine Go.iconst (pc' := 49) (v := (1 : Int32)) d5_48 rfl rfl ?_
  refine Go.iadd (pc' := 50) d5_49 rfl ?_
  show Go _ _ _ _ _ _ _ _ _ _ _ _ 50 #[.val (.ref a), .val (.long (f + (3 : Int64))), .second, .val (.ref t), .unset] [(.int (4 : Int32)), (.ref a)]
  refine Go.putfield (pc' := 53) (host := "") (Or.inl (ww hw 29 rfl)) Via.refl pf3 x (Or.inl (ww hw 30 rfl)) (ww hw 2 rfl) (ty := .int) (by decide) rfl rfl ge_a d5_50 rfl ?_
  intro h1 W2
  have K3 : Keep h h1 [a, sa, na] := (Keep.refl h [a, sa, na]).wr W2 (Or.inl (List.mem_of_getElem? (i := 0) rfl))
  have f4 := pf3.same W2
  refine Go.goto (pc' := 99) d5_53 (by decide) (by decide) ?_
  refine Go.aloadN (pc' := 100) d5_99 rfl rfl rfl ?_
  refine Go.lloadN (pc' := 101) d5_100 rfl rfl ?_
  refine Go.aloadN (pc' := 102) d5_101 rfl rfl rfl ?_
  have f5 : Fld Z h1 a "com/example/rens/rens/TimeRing" "first" "J" (.long f) := (pf4.other W2 (Or.inr (slot_ne (Or.inl (ww hw 32 rfl)) (Or.inl (ww hw 30 rfl)) (by decide) (t := .long) (t' := .int) (by decide) (by decide))))
  refine Go.getfield (pc' := 105) (host := "") (Or.inl (ww hw 31 rfl)) Via.refl f5 d5_102 rfl ?_
  refine Go.lsub (pc' := 106) d5_105 rfl ?_
  have f6 : Fld Z h1 a "com/example/rens/rens/TimeRing" "head" "I" (.int (0 : Int32)) := (pf2.other W2 (Or.inr (slot_ne (Or.inl (ww hw 38 rfl)) (Or.inl (ww hw 30 rfl)) (by decide) (t := .int) (t' := .int) (by decide) (by decide))))
  have f7 : Fld Z h1 a "com/example/rens/rens/TimeRing" "seconds" "[J" (.ref sa) := (pf0.other W2 (Or.inr (slot_ne (Or.inl (ww hw 12 rfl)) (Or.inl (ww hw 30 rfl)) (by decide) (t := (.array .long)) (t' := .int) (by decide) (by decide))))
  refine Go.callP (cells' := 0) (slots' := 0) (pc' := 109) [(.long ((f + (3 : Int64)) - f))] [] (x.wr W2) (ww hw 33 rfl) (ww hw 34 rfl) (Jvm.Kit.selects_private (by decide) (ww hw 2 rfl) (ww hw 35 rfl) (ww hw 34 rfl)) (ww hw 35 rfl) (ww hw 3 rfl) (ww hw 36 rfl) (by decide) (c_slot0_3_3 l Z a0 hw h1 a sa ks (((f + (3 : Int64)) - f)) (own_ax4 f) f6 f7 ((vs.other W2 (Ne.symm ne_a_sa)))) pd_3 rfl rfl rfl rfl rfl (nl rfl) (nl rfl) (nl rfl) (nl rfl) d5_106 rfl ?_
  rintro _ _ ⟨rfl, rfl⟩
  show Go _ _ _ _ _ _ _ _ _ _ _ _ 109 #[.val (.ref a), .val (.long (f + (3 : Int64))), .second, .val (.ref t), .unset] [(.int (3 : Int32))]
  refine Go.istore (pc' := 111) (Ls' := #[.val (.ref a), .val (.long (f + (3 : Int64))), .second, .val (.ref t), .val (.int (3 : Int32))]) d5_109 rfl rfl ?_
  refine Go.aloadN (pc' := 112) d5_111 rfl rfl rfl ?_
  refine Go.getfield (pc' := 115) (host := "") (Or.inl (ww hw 11 rfl)) Via.refl f7 d5_112 rfl ?_
  refine Go.iload (pc' := 117) d5_115 rfl rfl ?_
  refine Go.aloadN (pc' := 118) d5_117 rfl rfl rfl ?_
  refine Go.callV (cells' := 0) (slots' := 0) (pc' := 121) [] [(.int (3 : Int32)), (.ref sa)] (xt.wr W2) (ww hw 39 rfl) (ww hw 40 rfl) (fun s' hs' => notFace_of_selects (args := #[]) (mvT hs' (ww hw 42 rfl))) (ww hw 42 rfl) (ww hw 41 rfl) (ww hw 18 rfl) (ww hw 43 rfl) (by decide) (c_getSec l Z a0 hw h1 t (3 : Int64) ((ft.other W2 (Or.inl ne_t_a)))) pd_4 rfl rfl rfl rfl rfl (nl rfl) (nl rfl) (nl rfl) (nl rfl) d5_118 rfl ?_
  rintro _ _ ⟨rfl, rfl⟩
  show Go _ _ _ _ _ _ _ _ _ _ _ _ 121 #[.val (.ref a), .val (.long (f + (3 : Int64))), .second, .val (.ref t), .val (.int (3 : Int32))] [(.long (3 : Int64)), (.int (3 : Int32)), (.ref sa)]
  refine Go.lastore (pc' := 122) (vs.other W2 (Ne.symm ne_a_sa)) ge_sa d5_121 (by decide) (by decide) (i := 3) rfl (nl rfl) rfl ?_
  intro h10 W11 V12
  have K13 : Keep h h10 [a, sa, na] := K3.wr W11 (Or.inl (List.mem_of_getElem? (i := 1) rfl))
  replace V12 : Arv Z h10 sa ks .long (4 : Int32) [(.long 0), (.long 1), (.long 2), (.long (3 : Int64))] (.long 0) := V12
  refine Go.aloadN (pc' := 123) d5_122 rfl rfl rfl ?_
  have f14 : Fld Z h10 a "com/example/rens/rens/TimeRing" "nanos" "[I" (.ref na) := ((pf1.other W2 (Or.inr (slot_ne (Or.inl (ww hw 15 rfl)) (Or.inl (ww hw 30 rfl)) (by decide) (t := (.array .int)) (t' := .int) (by decide) (by decide)))).other W11 (Or.inl ne_a_sa))
  refine Go.getfield (pc' := 126) (host := "") (Or.inl (ww hw 14 rfl)) Via.refl f14 d5_123 rfl ?_
  refine Go.iload (pc' := 128) d5_126 rfl rfl ?_
  refine Go.aloadN (pc' := 129) d5_128 rfl rfl rfl ?_
  have f15 : Fld Z h10 t "java/time/Instant" "nanos" "I" (.int (0 : Int32)) := ((gt.other W2 (Or.inl ne_t_a)).other W11 (Or.inl ne_t_sa))
  refine Go.callV (cells' := 0) (slots' := 0) (pc' := 132) [] [(.int (3 : Int32)), (.ref na)] ((xt.wr W2).wr W11) (ww hw 46 rfl) (ww hw 47 rfl) (fun s' hs' => notFace_of_selects (args := #[]) (mvT hs' (ww hw 49 rfl))) (ww hw 49 rfl) (ww hw 48 rfl) (ww hw 18 rfl) (ww hw 50 rfl) (by decide) (c_getNano l Z a0 hw h10 t (0 : Int32) f15) pd_5 rfl rfl rfl rfl rfl (nl rfl) (nl rfl) (nl rfl) (nl rfl) d5_129 rfl ?_
  rintro _ _ ⟨rfl, rfl⟩
  show Go _ _ _ _ _ _ _ _ _ _ _ _ 132 #[.val (.ref a), .val (.long (f + (3 : Int64))), .second, .val (.ref t), .val (.int (3 : Int32))] [(.int (0 : Int32)), (.int (3 : Int32)), (.ref na)]
  have f17 : Arv Z h10 na kn .int (4 : Int32) [(.int 0), (.int 0), (.int 0), (.int 0)] (.int 0) := ((vn.other W2 (Ne.symm ne_a_na)).other W11 (Ne.symm ne_sa_na))
  refine Go.iastore (pc' := 133) f17 ge_na d5_132 (by decide) (by decide) (i := 3) rfl (nl rfl) rfl ?_
  intro h18 W19 V20
  have K21 : Keep h h18 [a, sa, na] := K13.wr W19 (Or.inl (List.mem_of_getElem? (i := 2) rfl))
  replace V20 : Arv Z h18 na kn .int (4 : Int32) [(.int 0), (.int 0), (.int 0), (.int (0 : Int32))] (.int 0) := V20
  have f22 : Fld Z h18 a "com/example/rens/rens/TimeRing" "seconds" "[J" (.ref sa) := ((f7.other W11 (Or.inl ne_a_sa)).other W19 (Or.inl ne_a_na))
  have f23 : Fld Z h18 a "com/example/rens/rens/TimeRing" "head" "I" (.int (0 : Int32)) := ((f6.other W11 (Or.inl ne_a_sa)).other W19 (Or.inl ne_a_na))
  have f24 : Fld Z h18 a "com/example/rens/rens/TimeRing" "size" "I" (.int (4 : Int32)) := ((f4.other W11 (Or.inl ne_a_sa)).other W19 (Or.inl ne_a_na))
  have f25 : Fld Z h18 a "com/example/rens/rens/TimeRing" "first" "J" (.long f) := ((f5.other W11 (Or.inl ne_a_sa)).other W19 (Or.inl ne_a_na))
  exact Go.retV rfl d5_133 ⟨rfl, K21, f22, (f14.other W19 (Or.inl ne_a_na)), f23, f24, f25, (V12.other W19 ne_sa_na), V20⟩ (by decide) (by decide)
theorem d10_0 : decode prog_22_method_7_code 0 = .ok (.aload_n 0, 1) := by decide +kernel
theorem d10_1 : decode prog_22_method_7_code 1 = .ok (.getfield 21, 3) := by decide +kernel
theorem d10_4 : decode prog_22_method_7_code 4 = .ok (.ifCond .le 53, 3) := by decide +kernel
theorem d10_57 : decode prog_22_method_7_code 57 = .ok (.return_, 1) := by decide +kernel
set_option maxRecDepth 65536 in
set_option maxHeartbeats 4000000 in
theorem c_drop0_0 (l : Launch) (Z : State) (a0 : Array Value) (hw : ∀ d ∈ tables_1, d.before a0 Z = true) {n0 : Nat} (h : Heap) (a : Addr) (sa : Addr) (ks : ClassId) (na : Addr) (d : Int64) (ge_a : n0 ≤ a) (ne_a_sa : a ≠ sa) (x : Exa Z h a "com/example/rens/rens/TimeRing") (pf0 : Fld Z h a "com/example/rens/rens/TimeRing" "seconds" "[J" (.ref sa)) (pf1 : Fld Z h a "com/example/rens/rens/TimeRing" "nanos" "[I" (.ref na)) (pf2 : Fld Z h a "com/example/rens/rens/TimeRing" "head" "I" (.int (0 : Int32))) (pf3 : Fld Z h a "com/example/rens/rens/TimeRing" "size" "I" (.int (0 : Int32))) (pf4 : Fld Z h a "com/example/rens/rens/TimeRing" "first" "J" (.long (0 : Int64))) (vs : Arv Z h sa ks .long (4 : Int32) [(.long 0), (.long 0), (.long 0), (.long 0)] (.long 0)) :
    Con l (⟨"com/example/rens/rens/TimeRing", "dropBefore", "(J)V"⟩ : MethodName) prog_22_method_7_code 3 none ({ frames := 0, cells := 0, slots := 0, locals := 0 } : Room) Z n0 #[(.ref a), (.long d)] h (fun v h' => v = none ∧ Keep h h' [a] ∧ Fld Z h' a "com/example/rens/rens/TimeRing" "seconds" "[J" (.ref sa) ∧ Fld Z h' a "com/example/rens/rens/TimeRing" "nanos" "[I" (.ref na) ∧ Fld Z h' a "com/example/rens/rens/TimeRing" "head" "I" (.int (0 : Int32)) ∧ Fld Z h' a "com/example/rens/rens/TimeRing" "size" "I" (.int (0 : Int32)) ∧ Fld Z h' a "com/example/rens/rens/TimeRing" "first" "J" (.long (0 : Int64))) := by
  refine Con.of_go (plainFor_of_name pn_1) (Ls := #[.val (.ref a), .val (.long d), .second]) (fun m => by first | (simp [entryFrame, mkF, argsToLocals, Value.category]; done) | rfl) ?_
  refine Go.aloadN (pc' := 1) d10_0 rfl rfl rfl ?_
  refine Go.getfield (pc' := 4) (host := "") (Or.inl (ww hw 29 rfl)) Via.refl pf3 d10_1 rfl ?_
  refine Go.ifYes (pc' := 57) d10_4 (XT.i0_le_t (by decide)) (by decide) (by decide) ?_
  exact Go.retV rfl d10_57 ⟨rfl, (Keep.refl h [a]), pf0, pf1, pf2, pf3, pf4⟩ (by decide) (by decide)
theorem d10_7 : decode prog_22_method_7_code 7 = .ok (.aload_n 0, 1) := by decide +kernel
theorem d10_8 : decode prog_22_method_7_code 8 = .ok (.getfield 17, 3) := by decide +kernel
theorem d10_11 : decode prog_22_method_7_code 11 = .ok (.lload_n 1, 1) := by decide +kernel
theorem d10_12 : decode prog_22_method_7_code 12 = .ok (.lcmp, 1) := by decide +kernel
theorem d10_13 : decode prog_22_method_7_code 13 = .ok (.ifCond .ge 44, 3) := by decide +kernel
set_option maxRecDepth 65536 in
set_option maxHeartbeats 4000000 in
theorem c_drop1_0 (l : Launch) (Z : State) (a0 : Array Value) (hw : ∀ d ∈ tables_1, d.before a0 Z = true) {n0 : Nat} (h : Heap) (a : Addr) (sa : Addr) (ks : ClassId) (na : Addr) (f : Int64) (d : Int64) (gk : ¬ (f < d)) (ge_a : n0 ≤ a) (ne_a_sa : a ≠ sa) (x : Exa Z h a "com/example/rens/rens/TimeRing") (pf0 : Fld Z h a "com/example/rens/rens/TimeRing" "seconds" "[J" (.ref sa)) (pf1 : Fld Z h a "com/example/rens/rens/TimeRing" "nanos" "[I" (.ref na)) (pf2 : Fld Z h a "com/example/rens/rens/TimeRing" "head" "I" (.int (0 : Int32))) (pf3 : Fld Z h a "com/example/rens/rens/TimeRing" "size" "I" (.int (1 : Int32))) (pf4 : Fld Z h a "com/example/rens/rens/TimeRing" "first" "J" (.long f)) (vs : Arv Z h sa ks .long (4 : Int32) [(.long 0), (.long 0), (.long 0), (.long 0)] (.long 0)) :
    Con l (⟨"com/example/rens/rens/TimeRing", "dropBefore", "(J)V"⟩ : MethodName) prog_22_method_7_code 3 none ({ frames := 0, cells := 0, slots := 0, locals := 0 } : Room) Z n0 #[(.ref a), (.long d)] h (fun v h' => v = none ∧ Keep h h' [a] ∧ Fld Z h' a "com/example/rens/rens/TimeRing" "seconds" "[J" (.ref sa) ∧ Fld Z h' a "com/example/rens/rens/TimeRing" "nanos" "[I" (.ref na) ∧ Fld Z h' a "com/example/rens/rens/TimeRing" "head" "I" (.int (0 : Int32)) ∧ Fld Z h' a "com/example/rens/rens/TimeRing" "size" "I" (.int (1 : Int32)) ∧ Fld Z h' a "com/example/rens/rens/TimeRing" "first" "J" (.long f)) := by
  refine Con.of_go (plainFor_of_name pn_1) (Ls := #[.val (.ref a), .val (.long d), .second]) (fun m => by first | (simp [entryFrame, mkF, argsToLocals, Value.category]; done) | rfl) ?_
  refine Go.aloadN (pc' := 1) d10_0 rfl rfl rfl ?_
  refine Go.getfield (pc' := 4) (host := "") (Or.inl (ww hw 29 rfl)) Via.refl pf3 d10_1 rfl ?_
  refine Go.ifNo (pc' := 7) d10_4 (XT.i0_le_f (by decide)) rfl ?_
  refine Go.aloadN (pc' := 8) d10_7 rfl rfl rfl ?_
  refine Go.getfield (pc' := 11) (host := "") (Or.inl (ww hw 31 rfl)) Via.refl pf4 d10_8 rfl ?_
  refine Go.lloadN (pc' := 12) d10_11 rfl rfl ?_
  refine Go.lcmp (pc' := 13) d10_12 rfl ?_
  refine Go.ifYes (pc' := 57) d10_13 (XT.ll_ge_t gk) (by decide) (by decide) ?_
  exact Go.retV rfl d10_57 ⟨rfl, (Keep.refl h [a]), pf0, pf1, pf2, pf3, pf4⟩ (by decide) (by decide)
theorem d10_16 : decode prog_22_method_7_code 16 = .ok (.aload_n 0, 1) := by decide +kernel
theorem d10_17 : decode prog_22_method_7_code 17 = .ok (.aload_n 0, 1) := by decide +kernel
theorem d10_18 : decode prog_22_method_7_code 18 = .ok (.getfield 55, 3) := by decide +kernel
theorem d10_21 : decode prog_22_method_7_code 21 = .ok (.iconst 1, 1) := by decide +kernel
theorem d10_22 : decode prog_22_method_7_code 22 = .ok (.iadd, 1) := by decide +kernel
theorem d10_23 : decode prog_22_method_7_code 23 = .ok (.aload_n 0, 1) := by decide +kernel
theorem d10_24 : decode prog_22_method_7_code 24 = .ok (.getfield 7, 3) := by decide +kernel
theorem d10_27 : decode prog_22_method_7_code 27 = .ok (.arraylength, 1) := by decide +kernel
theorem d10_28 : decode prog_22_method_7_code 28 = .ok (.iconst 1, 1) := by decide +kernel
theorem d10_29 : decode prog_22_method_7_code 29 = .ok (.isub, 1) := by decide +kernel
theorem d10_30 : decode prog_22_method_7_code 30 = .ok (.iand, 1) := by decide +kernel
theorem d10_31 : decode prog_22_method_7_code 31 = .ok (.putfield 55, 3) := by decide +kernel
theorem d10_34 : decode prog_22_method_7_code 34 = .ok (.aload_n 0, 1) := by decide +kernel
theorem d10_35 : decode prog_22_method_7_code 35 = .ok (.dup, 1) := by decide +kernel
theorem d10_36 : decode prog_22_method_7_code 36 = .ok (.getfield 21, 3) := by decide +kernel
theorem d10_39 : decode prog_22_method_7_code 39 = .ok (.iconst 1, 1) := by decide +kernel
theorem d10_40 : decode prog_22_method_7_code 40 = .ok (.isub, 1) := by decide +kernel
theorem d10_41 : decode prog_22_method_7_code 41 = .ok (.putfield 21, 3) := by decide +kernel
theorem d10_44 : decode prog_22_method_7_code 44 = .ok (.aload_n 0, 1) := by decide +kernel
theorem d10_45 : decode prog_22_method_7_code 45 = .ok (.dup, 1) := by decide +kernel
theorem d10_46 : decode prog_22_method_7_code 46 = .ok (.getfield 17, 3) := by decide +kernel
theorem d10_49 : decode prog_22_method_7_code 49 = .ok (.lconst 1, 1) := by decide +kernel
theorem d10_50 : decode prog_22_method_7_code 50 = .ok (.ladd, 1) := by decide +kernel
theorem d10_51 : decode prog_22_method_7_code 51 = .ok (.putfield 17, 3) := by decide +kernel
theorem d10_54 : decode prog_22_method_7_code 54 = .ok (.goto (-54), 3) := by decide +kernel
set_option maxRecDepth 65536 in
set_option maxHeartbeats 4000000 in
theorem c_drop1_1 (l : Launch) (Z : State) (a0 : Array Value) (hw : ∀ d ∈ tables_1, d.before a0 Z = true) {n0 : Nat} (h : Heap) (a : Addr) (sa : Addr) (ks : ClassId) (na : Addr) (f : Int64) (d : Int64) (g0 : f < d) (ge_a : n0 ≤ a) (ne_a_sa : a ≠ sa) (x : Exa Z h a "com/example/rens/rens/TimeRing") (pf0 : Fld Z h a "com/example/rens/rens/TimeRing" "seconds" "[J" (.ref sa)) (pf1 : Fld Z h a "com/example/rens/rens/TimeRing" "nanos" "[I" (.ref na)) (pf2 : Fld Z h a "com/example/rens/rens/TimeRing" "head" "I" (.int (0 : Int32))) (pf3 : Fld Z h a "com/example/rens/rens/TimeRing" "size" "I" (.int (1 : Int32))) (pf4 : Fld Z h a "com/example/rens/rens/TimeRing" "first" "J" (.long f)) (vs : Arv Z h sa ks .long (4 : Int32) [(.long 0), (.long 0), (.long 0), (.long 0)] (.long 0)) :
    Con l (⟨"com/example/rens/rens/TimeRing", "dropBefore", "(J)V"⟩ : MethodName) prog_22_method_7_code 3 none ({ frames := 0, cells := 0, slots := 0, locals := 0 } : Room) Z n0 #[(.ref a), (.long d)] h (fun v h' => v = none ∧ Keep h h' [a] ∧ Fld Z h' a "com/example/rens/rens/TimeRing" "seconds" "[J" (.ref sa) ∧ Fld Z h' a "com/example/rens/rens/TimeRing" "nanos" "[I" (.ref na) ∧ Fld Z h' a "com/example/rens/rens/TimeRing" "head" "I" (.int (1 : Int32)) ∧ Fld Z h' a "com/example/rens/rens/TimeRing" "size" "I" (.int (0 : Int32)) ∧ Fld Z h' a "com/example/rens/rens/TimeRing" "first" "J" (.long (f + (1 : Int64)))) := by
  refine Con.of_go (plainFor_of_name pn_1) (Ls := #[.val (.ref a), .val (.long d), .second]) (fun m => by first | (simp [entryFrame, mkF, argsToLocals, Value.category]; done) | rfl) ?_
  refine Go.aloadN (pc' := 1) d10_0 rfl rfl rfl ?_
  refine Go.getfield (pc' := 4) (host := "") (Or.inl (ww hw 29 rfl)) Via.refl pf3 d10_1 rfl ?_
  refine Go.ifNo (pc' := 7) d10_4 (XT.i0_le_f (by decide)) rfl ?_
  refine Go.aloadN (pc' := 8) d10_7 rfl rfl rfl ?_
  refine Go.getfield (pc' := 11) (host := "") (Or.inl (ww hw 31 rfl)) Via.refl pf4 d10_8 rfl ?_
  refine Go.lloadN (pc' := 12) d10_11 rfl rfl ?_
  refine Go.lcmp (pc' := 13) d10_12 rfl ?_
  refine Go.ifNo (pc' := 16) d10_13 (XT.ll_ge_f g0) rfl ?_
  refine Go.aloadN (pc' := 17) d10_16 rfl rfl rfl ?_
  refine Go.aloadN (pc' := 18) d10_17 rfl rfl rfl ?_
  refine Go.getfield (pc' := 21) (host := "") (Or.inl (ww hw 37 rfl)) Via.refl pf2 d10_18 rfl ?_
  refine Go.iconst (pc' := 22) (v := (1 : Int32)) d10_21 rfl rfl ?_
  refine Go.iadd (pc' := 23) d10_22 rfl ?_
  show Go _ _ _ _ _ _ _ _ _ _ _ _ 23 #[.val (.ref a), .val (.long d), .second] [(.int (1 : Int32)), (.ref a)]
  refine Go.aloadN (pc' := 24) d10_23 rfl rfl rfl ?_
  refine Go.getfield (pc' := 27) (host := "") (Or.inl (ww hw 11 rfl)) Via.refl pf0 d10_24 rfl ?_
  refine Go.arraylength (pc' := 28) vs d10_27 rfl ?_
  refine Go.iconst (pc' := 29) (v := (1 : Int32)) d10_28 rfl rfl ?_
  refine Go.isub (pc' := 30) d10_29 rfl ?_
  show Go _ _ _ _ _ _ _ _ _ _ _ _ 30 #[.val (.ref a), .val (.long d), .second] [(.int (3 : Int32)), (.int (1 : Int32)), (.ref a)]
  refine Go.iand (pc' := 31) d10_30 rfl ?_
  show Go _ _ _ _ _ _ _ _ _ _ _ _ 31 #[.val (.ref a), .val (.long d), .second] [(.int (1 : Int32)), (.ref a)]
  refine Go.putfield (pc' := 34) (host := "") (Or.inl (ww hw 37 rfl)) Via.refl pf2 x (Or.inl (ww hw 38 rfl)) (ww hw 2 rfl) (ty := .int) (by decide) rfl rfl ge_a d10_31 rfl ?_
  intro h1 W2
  have K3 : Keep h h1 [a] := (Keep.refl h [a]).wr W2 (Or.inl (List.mem_of_getElem? (i := 0) rfl))
  have f4 := pf2.same W2
  refine Go.aloadN (pc' := 35) d10_34 rfl rfl rfl ?_
  refine Go.dup (pc' := 36) d10_35 rfl rfl ?_
  have f5 : Fld Z h1 a "com/example/rens/rens/TimeRing" "size" "I" (.int (1 : Int32)) := (pf3.other W2 (Or.inr (slot_ne (Or.inl (ww hw 30 rfl)) (Or.inl (ww hw 38 rfl)) (by decide) (t := .int) (t' := .int) (by decide) (by decide))))
  refine Go.getfield (pc' := 39) (host := "") (Or.inl (ww hw 29 rfl)) Via.refl f5 d10_36 rfl ?_
  refine Go.iconst (pc' := 40) (v := (1 : Int32)) d10_39 rfl rfl ?_
  refine Go.isub (pc' := 41) d10_40 rfl ?_
  show Go _ _ _ _ _ _ _ _ _ _ _ _ 41 #[.val (.ref a), .val (.long d), .second] [(.int (0 : Int32)), (.ref a)]
  refine Go.putfield (pc' := 44) (host := "") (Or.inl (ww hw 29 rfl)) Via.refl f5 (x.wr W2) (Or.inl (ww hw 30 rfl)) (ww hw 2 rfl) (ty := .int) (by decide) rfl rfl ge_a d10_41 rfl ?_
  intro h6 W7
  have K8 : Keep h h6 [a] := K3.wr W7 (Or.inl (List.mem_of_getElem? (i := 0) rfl))
  have f9 := f5.same W7
  refine Go.aloadN (pc' := 45) d10_44 rfl rfl rfl ?_
  refine Go.dup (pc' := 46) d10_45 rfl rfl ?_
  have f10 : Fld Z h6 a "com/example/rens/rens/TimeRing" "first" "J" (.long f) := ((pf4.other W2 (Or.inr (slot_ne (Or.inl (ww hw 32 rfl)) (Or.inl (ww hw 38 rfl)) (by decide) (t := .long) (t' := .int) (by decide) (by decide)))).other W7 (Or.inr (slot_ne (Or.inl (ww hw 32 rfl)) (Or.inl (ww hw 30 rfl)) (by decide) (t := .long) (t' := .int) (by decide) (by decide))))
  refine Go.getfield (pc' := 49) (host := "") (Or.inl (ww hw 31 rfl)) Via.refl f10 d10_46 rfl ?_
  refine Go.lconst (pc' := 50) (v := (1 : Int64)) d10_49 rfl rfl ?_
  refine Go.ladd (pc' := 51) d10_50 rfl ?_
  refine Go.putfield (pc' := 54) (host := "") (Or.inl (ww hw 31 rfl)) Via.refl f10 ((x.wr W2).wr W7) (Or.inl (ww hw 32 rfl)) (ww hw 2 rfl) (ty := .long) (by decide) rfl rfl ge_a d10_51 rfl ?_
  intro h11 W12
  have K13 : Keep h h11 [a] := K8.wr W12 (Or.inl (List.mem_of_getElem? (i := 0) rfl))
  have f14 := f10.same W12
  refine Go.goto (pc' := 0) d10_54 (by decide) (by decide) ?_
  refine Go.aloadN (pc' := 1) d10_0 rfl rfl rfl ?_
  have f15 : Fld Z h11 a "com/example/rens/rens/TimeRing" "size" "I" (.int (0 : Int32)) := (f9.other W12 (Or.inr (slot_ne (Or.inl (ww hw 30 rfl)) (Or.inl (ww hw 32 rfl)) (by decide) (t := .int) (t' := .long) (by decide) (by decide))))
  refine Go.getfield (pc' := 4) (host := "") (Or.inl (ww hw 29 rfl)) Via.refl f15 d10_1 rfl ?_
  refine Go.ifYes (pc' := 57) d10_4 (XT.i0_le_t (by decide)) (by decide) (by decide) ?_
  have f16 : Fld Z h11 a "com/example/rens/rens/TimeRing" "seconds" "[J" (.ref sa) := (((pf0.other W2 (Or.inr (slot_ne (Or.inl (ww hw 12 rfl)) (Or.inl (ww hw 38 rfl)) (by decide) (t := (.array .long)) (t' := .int) (by decide) (by decide)))).other W7 (Or.inr (slot_ne (Or.inl (ww hw 12 rfl)) (Or.inl (ww hw 30 rfl)) (by decide) (t := (.array .long)) (t' := .int) (by decide) (by decide)))).other W12 (Or.inr (slot_ne (Or.inl (ww hw 12 rfl)) (Or.inl (ww hw 32 rfl)) (by decide) (t := (.array .long)) (t' := .long) (by decide) (by decide))))
  have f17 : Fld Z h11 a "com/example/rens/rens/TimeRing" "nanos" "[I" (.ref na) := (((pf1.other W2 (Or.inr (slot_ne (Or.inl (ww hw 15 rfl)) (Or.inl (ww hw 38 rfl)) (by decide) (t := (.array .int)) (t' := .int) (by decide) (by decide)))).other W7 (Or.inr (slot_ne (Or.inl (ww hw 15 rfl)) (Or.inl (ww hw 30 rfl)) (by decide) (t := (.array .int)) (t' := .int) (by decide) (by decide)))).other W12 (Or.inr (slot_ne (Or.inl (ww hw 15 rfl)) (Or.inl (ww hw 32 rfl)) (by decide) (t := (.array .int)) (t' := .long) (by decide) (by decide))))
  have f18 : Fld Z h11 a "com/example/rens/rens/TimeRing" "head" "I" (.int (1 : Int32)) := ((f4.other W7 (Or.inr (slot_ne (Or.inl (ww hw 38 rfl)) (Or.inl (ww hw 30 rfl)) (by decide) (t := .int) (t' := .int) (by decide) (by decide)))).other W12 (Or.inr (slot_ne (Or.inl (ww hw 38 rfl)) (Or.inl (ww hw 32 rfl)) (by decide) (t := .int) (t' := .long) (by decide) (by decide))))
  exact Go.retV rfl d10_57 ⟨rfl, K13, f16, f17, f18, f15, f14⟩ (by decide) (by decide)
set_option maxRecDepth 65536 in
set_option maxHeartbeats 4000000 in
theorem c_drop2_0 (l : Launch) (Z : State) (a0 : Array Value) (hw : ∀ d ∈ tables_1, d.before a0 Z = true) {n0 : Nat} (h : Heap) (a : Addr) (sa : Addr) (ks : ClassId) (na : Addr) (f : Int64) (d : Int64) (gk : ¬ (f < d)) (ge_a : n0 ≤ a) (ne_a_sa : a ≠ sa) (x : Exa Z h a "com/example/rens/rens/TimeRing") (pf0 : Fld Z h a "com/example/rens/rens/TimeRing" "seconds" "[J" (.ref sa)) (pf1 : Fld Z h a "com/example/rens/rens/TimeRing" "nanos" "[I" (.ref na)) (pf2 : Fld Z h a "com/example/rens/rens/TimeRing" "head" "I" (.int (0 : Int32))) (pf3 : Fld Z h a "com/example/rens/rens/TimeRing" "size" "I" (.int (2 : Int32))) (pf4 : Fld Z h a "com/example/rens/rens/TimeRing" "first" "J" (.long f)) (vs : Arv Z h sa ks .long (4 : Int32) [(.long 0), (.long 1), (.long 0), (.long 0)] (.long 0)) :
    Con l (⟨"com/example/rens/rens/TimeRing", "dropBefore", "(J)V"⟩ : MethodName) prog_22_method_7_code 3 none ({ frames := 0, cells := 0, slots := 0, locals := 0 } : Room) Z n0 #[(.ref a), (.long d)] h (fun v h' => v = none ∧ Keep h h' [a] ∧ Fld Z h' a "com/example/rens/rens/TimeRing" "seconds" "[J" (.ref sa) ∧ Fld Z h' a "com/example/rens/rens/TimeRing" "nanos" "[I" (.ref na) ∧ Fld Z h' a "com/example/rens/rens/TimeRing" "head" "I" (.int (0 : Int32)) ∧ Fld Z h' a "com/example/rens/rens/TimeRing" "size" "I" (.int (2 : Int32)) ∧ Fld Z h' a "com/example/rens/rens/TimeRing" "first" "J" (.long f)) := by
  refine Con.of_go (plainFor_of_name pn_1) (Ls := #[.val (.ref a), .val (.long d), .second]) (fun m => by first | (simp [entryFrame, mkF, argsToLocals, Value.category]; done) | rfl) ?_
  refine Go.aloadN (pc' := 1) d10_0 rfl rfl rfl ?_
  refine Go.getfield (pc' := 4) (host := "") (Or.inl (ww hw 29 rfl)) Via.refl pf3 d10_1 rfl ?_
  refine Go.ifNo (pc' := 7) d10_4 (XT.i0_le_f (by decide)) rfl ?_
  refine Go.aloadN (pc' := 8) d10_7 rfl rfl rfl ?_
  refine Go.getfield (pc' := 11) (host := "") (Or.inl (ww hw 31 rfl)) Via.refl pf4 d10_8 rfl ?_
  refine Go.lloadN (pc' := 12) d10_11 rfl rfl ?_
  refine Go.lcmp (pc' := 13) d10_12 rfl ?_
  refine Go.ifYes (pc' := 57) d10_13 (XT.ll_ge_t gk) (by decide) (by decide) ?_
  exact Go.retV rfl d10_57 ⟨rfl, (Keep.refl h [a]), pf0, pf1, pf2, pf3, pf4⟩ (by decide) (by decide)
set_option maxRecDepth 65536 in
set_option maxHeartbeats 4000000 in
theorem c_drop2_1 (l : Launch) (Z : State) (a0 : Array Value) (hw : ∀ d ∈ tables_1, d.before a0 Z = true) {n0 : Nat} (h : Heap) (a : Addr) (sa : Addr) (ks : ClassId) (na : Addr) (f : Int64) (d : Int64) (g0 : f < d) (gk : ¬ ((f + (1 : Int64)) < d)) (ge_a : n0 ≤ a) (ne_a_sa : a ≠ sa) (x : Exa Z h a "com/example/rens/rens/TimeRing") (pf0 : Fld Z h a "com/example/rens/rens/TimeRing" "seconds" "[J" (.ref sa)) (pf1 : Fld Z h a "com/example/rens/rens/TimeRing" "nanos" "[I" (.ref na)) (pf2 : Fld Z h a "com/example/rens/rens/TimeRing" "head" "I" (.int (0 : Int32))) (pf3 : Fld Z h a "com/example/rens/rens/TimeRing" "size" "I" (.int (2 : Int32))) (pf4 : Fld Z h a "com/example/rens/rens/TimeRing" "first" "J" (.long f)) (vs : Arv Z h sa ks .long (4 : Int32) [(.long 0), (.long 1), (.long 0), (.long 0)] (.long 0)) :
    Con l (⟨"com/example/rens/rens/TimeRing", "dropBefore", "(J)V"⟩ : MethodName) prog_22_method_7_code 3 none ({ frames := 0, cells := 0, slots := 0, locals := 0 } : Room) Z n0 #[(.ref a), (.long d)] h (fun v h' => v = none ∧ Keep h h' [a] ∧ Fld Z h' a "com/example/rens/rens/TimeRing" "seconds" "[J" (.ref sa) ∧ Fld Z h' a "com/example/rens/rens/TimeRing" "nanos" "[I" (.ref na) ∧ Fld Z h' a "com/example/rens/rens/TimeRing" "head" "I" (.int (1 : Int32)) ∧ Fld Z h' a "com/example/rens/rens/TimeRing" "size" "I" (.int (1 : Int32)) ∧ Fld Z h' a "com/example/rens/rens/TimeRing" "first" "J" (.long (f + (1 : Int64)))) := by
  refine Con.of_go (plainFor_of_name pn_1) (Ls := #[.val (.ref a), .val (.long d), .second]) (fun m => by first | (simp [entryFrame, mkF, argsToLocals, Value.category]; done) | rfl) ?_
  refine Go.aloadN (pc' := 1) d10_0 rfl rfl rfl ?_
  refine Go.getfield (pc' := 4) (host := "") (Or.inl (ww hw 29 rfl)) Via.refl pf3 d10_1 rfl ?_
  refine Go.ifNo (pc' := 7) d10_4 (XT.i0_le_f (by decide)) rfl ?_
  refine Go.aloadN (pc' := 8) d10_7 rfl rfl rfl ?_
  refine Go.getfield (pc' := 11) (host := "") (Or.inl (ww hw 31 rfl)) Via.refl pf4 d10_8 rfl ?_
  refine Go.lloadN (pc' := 12) d10_11 rfl rfl ?_
  refine Go.lcmp (pc' := 13) d10_12 rfl ?_
  refine Go.ifNo (pc' := 16) d10_13 (XT.ll_ge_f g0) rfl ?_
  refine Go.aloadN (pc' := 17) d10_16 rfl rfl rfl ?_
  refine Go.aloadN (pc' := 18) d10_17 rfl rfl rfl ?_
  refine Go.getfield (pc' := 21) (host := "") (Or.inl (ww hw 37 rfl)) Via.refl pf2 d10_18 rfl ?_
  refine Go.iconst (pc' := 22) (v := (1 : Int32)) d10_21 rfl rfl ?_
  refine Go.iadd (pc' := 23) d10_22 rfl ?_
  show Go _ _ _ _ _ _ _ _ _ _ _ _ 23 #[.val (.ref a), .val (.long d), .second] [(.int (1 : Int32)), (.ref a)]
  refine Go.aloadN (pc' := 24) d10_23 rfl rfl rfl ?_
  refine Go.getfield (pc' := 27) (host := "") (Or.inl (ww hw 11 rfl)) Via.refl pf0 d10_24 rfl ?_
  refine Go.arraylength (pc' := 28) vs d10_27 rfl ?_
  refine Go.iconst (pc' := 29) (v := (1 : Int32)) d10_28 rfl rfl ?_
  refine Go.isub (pc' := 30) d10_29 rfl ?_
  show Go _ _ _ _ _ _ _ _ _ _ _ _ 30 #[.val (.ref a), .val (.long d), .second] [(.int (3 : Int32)), (.int (1 : Int32)), (.ref a)]
  refine Go.iand (pc' := 31) d10_30 rfl ?_
  show Go _ _ _ _ _ _ _ _ _ _ _ _ 31 #[.val (.ref a), .val (.long d), .second] [(.int (1 : Int32)), (.ref a)]
  refine Go.putfield (pc' := 34) (host := "") (Or.inl (ww hw 37 rfl)) Via.refl pf2 x (Or.inl (ww hw 38 rfl)) (ww hw 2 rfl) (ty := .int) (by decide) rfl rfl ge_a d10_31 rfl ?_
  intro h1 W2
  have K3 : Keep h h1 [a] := (Keep.refl h [a]).wr W2 (Or.inl (List.mem_of_getElem? (i := 0) rfl))
  have f4 := pf2.same W2
  refine Go.aloadN (pc' := 35) d10_34 rfl rfl rfl ?_
  refine Go.dup (pc' := 36) d10_35 rfl rfl ?_
  have f5 : Fld Z h1 a "com/example/rens/rens/TimeRing" "size" "I" (.int (2 : Int32)) := (pf3.other W2 (Or.inr (slot_ne (Or.inl (ww hw 30 rfl)) (Or.inl (ww hw 38 rfl)) (by decide) (t := .int) (t' := .int) (by decide) (by decide))))
  refine Go.getfield (pc' := 39) (host := "") (Or.inl (ww hw 29 rfl)) Via.refl f5 d10_36 rfl ?_
  refine Go.iconst (pc' := 40) (v := (1 : Int32)) d10_39 rfl rfl ?_
  refine Go.isub (pc' := 41) d10_40 rfl ?_
  show Go _ _ _ _ _ _ _ _ _ _ _ _ 41 #[.val (.ref a), .val (.long d), .second] [(.int (1 : Int32)), (.ref a)]
  refine Go.putfield (pc' := 44) (host := "") (Or.inl (ww hw 29 rfl)) Via.refl f5 (x.wr W2) (Or.inl (ww hw 30 rfl)) (ww hw 2 rfl) (ty := .int) (by decide) rfl rfl ge_a d10_41 rfl ?_
  intro h6 W7
  have K8 : Keep h h6 [a] := K3.wr W7 (Or.inl (List.mem_of_getElem? (i := 0) rfl))
  have f9 := f5.same W7
  refine Go.aloadN (pc' := 45) d10_44 rfl rfl rfl ?_
  refine Go.dup (pc' := 46) d10_45 rfl rfl ?_
  have f10 : Fld Z h6 a "com/example/rens/rens/TimeRing" "first" "J" (.long f) := ((pf4.other W2 (Or.inr (slot_ne (Or.inl (ww hw 32 rfl)) (Or.inl (ww hw 38 rfl)) (by decide) (t := .long) (t' := .int) (by decide) (by decide)))).other W7 (Or.inr (slot_ne (Or.inl (ww hw 32 rfl)) (Or.inl (ww hw 30 rfl)) (by decide) (t := .long) (t' := .int) (by decide) (by decide))))
  refine Go.getfield (pc' := 49) (host := "") (Or.inl (ww hw 31 rfl)) Via.refl f10 d10_46 rfl ?_
  refine Go.lconst (pc' := 50) (v := (1 : Int64)) d10_49 rfl rfl ?_
  refine Go.ladd (pc' := 51) d10_50 rfl ?_
  refine Go.putfield (pc' := 54) (host := "") (Or.inl (ww hw 31 rfl)) Via.refl f10 ((x.wr W2).wr W7) (Or.inl (ww hw 32 rfl)) (ww hw 2 rfl) (ty := .long) (by decide) rfl rfl ge_a d10_51 rfl ?_
  intro h11 W12
  have K13 : Keep h h11 [a] := K8.wr W12 (Or.inl (List.mem_of_getElem? (i := 0) rfl))
  have f14 := f10.same W12
  refine Go.goto (pc' := 0) d10_54 (by decide) (by decide) ?_
  refine Go.aloadN (pc' := 1) d10_0 rfl rfl rfl ?_
  have f15 : Fld Z h11 a "com/example/rens/rens/TimeRing" "size" "I" (.int (1 : Int32)) := (f9.other W12 (Or.inr (slot_ne (Or.inl (ww hw 30 rfl)) (Or.inl (ww hw 32 rfl)) (by decide) (t := .int) (t' := .long) (by decide) (by decide))))
  refine Go.getfield (pc' := 4) (host := "") (Or.inl (ww hw 29 rfl)) Via.refl f15 d10_1 rfl ?_
  refine Go.ifNo (pc' := 7) d10_4 (XT.i0_le_f (by decide)) rfl ?_
  refine Go.aloadN (pc' := 8) d10_7 rfl rfl rfl ?_
  refine Go.getfield (pc' := 11) (host := "") (Or.inl (ww hw 31 rfl)) Via.refl f14 d10_8 rfl ?_
  refine Go.lloadN (pc' := 12) d10_11 rfl rfl ?_
  refine Go.lcmp (pc' := 13) d10_12 rfl ?_
  refine Go.ifYes (pc' := 57) d10_13 (XT.ll_ge_t gk) (by decide) (by decide) ?_
  have f16 : Fld Z h11 a "com/example/rens/rens/TimeRing" "seconds" "[J" (.ref sa) := (((pf0.other W2 (Or.inr (slot_ne (Or.inl (ww hw 12 rfl)) (Or.inl (ww hw 38 rfl)) (by decide) (t := (.array .long)) (t' := .int) (by decide) (by decide)))).other W7 (Or.inr (slot_ne (Or.inl (ww hw 12 rfl)) (Or.inl (ww hw 30 rfl)) (by decide) (t := (.array .long)) (t' := .int) (by decide) (by decide)))).other W12 (Or.inr (slot_ne (Or.inl (ww hw 12 rfl)) (Or.inl (ww hw 32 rfl)) (by decide) (t := (.array .long)) (t' := .long) (by decide) (by decide))))
  have f17 : Fld Z h11 a "com/example/rens/rens/TimeRing" "nanos" "[I" (.ref na) := (((pf1.other W2 (Or.inr (slot_ne (Or.inl (ww hw 15 rfl)) (Or.inl (ww hw 38 rfl)) (by decide) (t := (.array .int)) (t' := .int) (by decide) (by decide)))).other W7 (Or.inr (slot_ne (Or.inl (ww hw 15 rfl)) (Or.inl (ww hw 30 rfl)) (by decide) (t := (.array .int)) (t' := .int) (by decide) (by decide)))).other W12 (Or.inr (slot_ne (Or.inl (ww hw 15 rfl)) (Or.inl (ww hw 32 rfl)) (by decide) (t := (.array .int)) (t' := .long) (by decide) (by decide))))
  have f18 : Fld Z h11 a "com/example/rens/rens/TimeRing" "head" "I" (.int (1 : Int32)) := ((f4.other W7 (Or.inr (slot_ne (Or.inl (ww hw 38 rfl)) (Or.inl (ww hw 30 rfl)) (by decide) (t := .int) (t' := .int) (by decide) (by decide)))).other W12 (Or.inr (slot_ne (Or.inl (ww hw 38 rfl)) (Or.inl (ww hw 32 rfl)) (by decide) (t := .int) (t' := .long) (by decide) (by decide))))
  exact Go.retV rfl d10_57 ⟨rfl, K13, f16, f17, f18, f15, f14⟩ (by decide) (by decide)
set_option maxRecDepth 65536 in
set_option maxHeartbeats 4000000 in
theorem c_drop2_2 (l : Launch) (Z : State) (a0 : Array Value) (hw : ∀ d ∈ tables_1, d.before a0 Z = true) {n0 : Nat} (h : Heap) (a : Addr) (sa : Addr) (ks : ClassId) (na : Addr) (f : Int64) (d : Int64) (g0 : f < d) (g1 : (f + (1 : Int64)) < d) (ge_a : n0 ≤ a) (ne_a_sa : a ≠ sa) (x : Exa Z h a "com/example/rens/rens/TimeRing") (pf0 : Fld Z h a "com/example/rens/rens/TimeRing" "seconds" "[J" (.ref sa)) (pf1 : Fld Z h a "com/example/rens/rens/TimeRing" "nanos" "[I" (.ref na)) (pf2 : Fld Z h a "com/example/rens/rens/TimeRing" "head" "I" (.int (0 : Int32))) (pf3 : Fld Z h a "com/example/rens/rens/TimeRing" "size" "I" (.int (2 : Int32))) (pf4 : Fld Z h a "com/example/rens/rens/TimeRing" "first" "J" (.long f)) (vs : Arv Z h sa ks .long (4 : Int32) [(.long 0), (.long 1), (.long 0), (.long 0)] (.long 0)) :
    Con l (⟨"com/example/rens/rens/TimeRing", "dropBefore", "(J)V"⟩ : MethodName) prog_22_method_7_code 3 none ({ frames := 0, cells := 0, slots := 0, locals := 0 } : Room) Z n0 #[(.ref a), (.long d)] h (fun v h' => v = none ∧ Keep h h' [a] ∧ Fld Z h' a "com/example/rens/rens/TimeRing" "seconds" "[J" (.ref sa) ∧ Fld Z h' a "com/example/rens/rens/TimeRing" "nanos" "[I" (.ref na) ∧ Fld Z h' a "com/example/rens/rens/TimeRing" "head" "I" (.int (2 : Int32)) ∧ Fld Z h' a "com/example/rens/rens/TimeRing" "size" "I" (.int (0 : Int32)) ∧ Fld Z h' a "com/example/rens/rens/TimeRing" "first" "J" (.long ((f + (1 : Int64)) + (1 : Int64)))) := by
  refine Con.of_go (plainFor_of_name pn_1) (Ls := #[.val (.ref a), .val (.long d), .second]) (fun m => by first | (simp [entryFrame, mkF, argsToLocals, Value.category]; done) | rfl) ?_
  refine Go.aloadN (pc' := 1) d10_0 rfl rfl rfl ?_
  refine Go.getfield (pc' := 4) (host := "") (Or.inl (ww hw 29 rfl)) Via.refl pf3 d10_1 rfl ?_
  refine Go.ifNo (pc' := 7) d10_4 (XT.i0_le_f (by decide)) rfl ?_
  refine Go.aloadN (pc' := 8) d10_7 rfl rfl rfl ?_
  refine Go.getfield (pc' := 11) (host := "") (Or.inl (ww hw 31 rfl)) Via.refl pf4 d10_8 rfl ?_
  refine Go.lloadN (pc' := 12) d10_11 rfl rfl ?_
  refine Go.lcmp (pc' := 13) d10_12 rfl ?_
  refine Go.ifNo (pc' := 16) d10_13 (XT.ll_ge_f g0) rfl ?_
  refine Go.aloadN (pc' := 17) d10_16 rfl rfl rfl ?_
  refine Go.aloadN (pc' := 18) d10_17 rfl rfl rfl ?_
  refine Go.getfield (pc' := 21) (host := "") (Or.inl (ww hw 37 rfl)) Via.refl pf2 d10_18 rfl ?_
  refine Go.iconst (pc' := 22) (v := (1 : Int32)) d10_21 rfl rfl ?_
  refine Go.iadd (pc' := 23) d10_22 rfl ?_
  show Go _ _ _ _ _ _ _ _ _ _ _ _ 23 #[.val (.ref a), .val (.long d), .second] [(.int (1 : Int32)), (.ref a)]
  refine Go.aloadN (pc' := 24) d10_23 rfl rfl rfl ?_
  refine Go.getfield (pc' := 27) (host := "") (Or.inl (ww hw 11 rfl)) Via.refl pf0 d10_24 rfl ?_
  refine Go.arraylength (pc' := 28) vs d10_27 rfl ?_
  refine Go.iconst (pc' := 29) (v := (1 : Int32)) d10_28 rfl rfl ?_
  refine Go.isub (pc' := 30) d10_29 rfl ?_
  show Go _ _ _ _ _ _ _ _ _ _ _ _ 30 #[.val (.ref a), .val (.long d), .second] [(.int (3 : Int32)), (.int (1 : Int32)), (.ref a)]
  refine Go.iand (pc' := 31) d10_30 rfl ?_
  show Go _ _ _ _ _ _ _ _ _ _ _ _ 31 #[.val (.ref a), .val (.long d), .second] [(.int (1 : Int32)), (.ref a)]
  refine Go.putfield (pc' := 34) (host := "") (Or.inl (ww hw 37 rfl)) Via.refl pf2 x (Or.inl (ww hw 38 rfl)) (ww hw 2 rfl) (ty := .int) (by decide) rfl rfl ge_a d10_31 rfl ?_
  intro h1 W2
  have K3 : Keep h h1 [a] := (Keep.refl h [a]).wr W2 (Or.inl (List.mem_of_getElem? (i := 0) rfl))
  have f4 := pf2.same W2
  refine Go.aloadN (pc' := 35) d10_34 rfl rfl rfl ?_
  refine Go.dup (pc' := 36) d10_35 rfl rfl ?_
  have f5 : Fld Z h1 a "com/example/rens/rens/TimeRing" "size" "I" (.int (2 : Int32)) := (pf3.other W2 (Or.inr (slot_ne (Or.inl (ww hw 30 rfl)) (Or.inl (ww hw 38 rfl)) (by decide) (t := .int) (t' := .int) (by decide) (by decide))))
  refine Go.getfield (pc' := 39) (host := "") (Or.inl (ww hw 29 rfl)) Via.refl f5 d10_36 rfl ?_
  refine Go.iconst (pc' := 40) (v := (1 : Int32)) d10_39 rfl rfl ?_
  refine Go.isub (pc' := 41) d10_40 rfl ?_
  show Go _ _ _ _ _ _ _ _ _ _ _ _ 41 #[.val (.ref a), .val (.long d), .second] [(.int (1 : Int32)), (.ref a)]
  refine Go.putfield (pc' := 44) (host := "") (Or.inl (ww hw 29 rfl)) Via.refl f5 (x.wr W2) (Or.inl (ww hw 30 rfl)) (ww hw 2 rfl) (ty := .int) (by decide) rfl rfl ge_a d10_41 rfl ?_
  intro h6 W7
  have K8 : Keep h h6 [a] := K3.wr W7 (Or.inl (List.mem_of_getElem? (i := 0) rfl))
  have f9 := f5.same W7
  refine Go.aloadN (pc' := 45) d10_44 rfl rfl rfl ?_
  refine Go.dup (pc' := 46) d10_45 rfl rfl ?_
  have f10 : Fld Z h6 a "com/example/rens/rens/TimeRing" "first" "J" (.long f) := ((pf4.other W2 (Or.inr (slot_ne (Or.inl (ww hw 32 rfl)) (Or.inl (ww hw 38 rfl)) (by decide) (t := .long) (t' := .int) (by decide) (by decide)))).other W7 (Or.inr (slot_ne (Or.inl (ww hw 32 rfl)) (Or.inl (ww hw 30 rfl)) (by decide) (t := .long) (t' := .int) (by decide) (by decide))))
  refine Go.getfield (pc' := 49) (host := "") (Or.inl (ww hw 31 rfl)) Via.refl f10 d10_46 rfl ?_
  refine Go.lconst (pc' := 50) (v := (1 : Int64)) d10_49 rfl rfl ?_
  refine Go.ladd (pc' := 51) d10_50 rfl ?_
  refine Go.putfield (pc' := 54) (host := "") (Or.inl (ww hw 31 rfl)) Via.refl f10 ((x.wr W2).wr W7) (Or.inl (ww hw 32 rfl)) (ww hw 2 rfl) (ty := .long) (by decide) rfl rfl ge_a d10_51 rfl ?_
  intro h11 W12
  have K13 : Keep h h11 [a] := K8.wr W12 (Or.inl (List.mem_of_getElem? (i := 0) rfl))
  have f14 := f10.same W12
  refine Go.goto (pc' := 0) d10_54 (by decide) (by decide) ?_
  refine Go.aloadN (pc' := 1) d10_0 rfl rfl rfl ?_
  have f15 : Fld Z h11 a "com/example/rens/rens/TimeRing" "size" "I" (.int (1 : Int32)) := (f9.other W12 (Or.inr (slot_ne (Or.inl (ww hw 30 rfl)) (Or.inl (ww hw 32 rfl)) (by decide) (t := .int) (t' := .long) (by decide) (by decide))))
  refine Go.getfield (pc' := 4) (host := "") (Or.inl (ww hw 29 rfl)) Via.refl f15 d10_1 rfl ?_
  refine Go.ifNo (pc' := 7) d10_4 (XT.i0_le_f (by decide)) rfl ?_
  refine Go.aloadN (pc' := 8) d10_7 rfl rfl rfl ?_
  refine Go.getfield (pc' := 11) (host := "") (Or.inl (ww hw 31 rfl)) Via.refl f14 d10_8 rfl ?_
  refine Go.lloadN (pc' := 12) d10_11 rfl rfl ?_
  refine Go.lcmp (pc' := 13) d10_12 rfl ?_
  refine Go.ifNo (pc' := 16) d10_13 (XT.ll_ge_f g1) rfl ?_
  refine Go.aloadN (pc' := 17) d10_16 rfl rfl rfl ?_
  refine Go.aloadN (pc' := 18) d10_17 rfl rfl rfl ?_
  have f16 : Fld Z h11 a "com/example/rens/rens/TimeRing" "head" "I" (.int (1 : Int32)) := ((f4.other W7 (Or.inr (slot_ne (Or.inl (ww hw 38 rfl)) (Or.inl (ww hw 30 rfl)) (by decide) (t := .int) (t' := .int) (by decide) (by decide)))).other W12 (Or.inr (slot_ne (Or.inl (ww hw 38 rfl)) (Or.inl (ww hw 32 rfl)) (by decide) (t := .int) (t' := .long) (by decide) (by decide))))
  refine Go.getfield (pc' := 21) (host := "") (Or.inl (ww hw 37 rfl)) Via.refl f16 d10_18 rfl ?_
  refine Go.iconst (pc' := 22) (v := (1 : Int32)) d10_21 rfl rfl ?_
  refine Go.iadd (pc' := 23) d10_22 rfl ?_
  show Go _ _ _ _ _ _ _ _ _ _ _ _ 23 #[.val (.ref a), .val (.long d), .second] [(.int (2 : Int32)), (.ref a)]
  refine Go.aloadN (pc' := 24) d10_23 rfl rfl rfl ?_
  have f17 : Fld Z h11 a "com/example/rens/rens/TimeRing" "seconds" "[J" (.ref sa) := (((pf0.other W2 (Or.inr (slot_ne (Or.inl (ww hw 12 rfl)) (Or.inl (ww hw 38 rfl)) (by decide) (t := (.array .long)) (t' := .int) (by decide) (by decide)))).other W7 (Or.inr (slot_ne (Or.inl (ww hw 12 rfl)) (Or.inl (ww hw 30 rfl)) (by decide) (t := (.array .long)) (t' := .int) (by decide) (by decide)))).other W12 (Or.inr (slot_ne (Or.inl (ww hw 12 rfl)) (Or.inl (ww hw 32 rfl)) (by decide) (t := (.array .long)) (t' := .long) (by decide) (by decide))))
  refine Go.getfield (pc' := 27) (host := "") (Or.inl (ww hw 11 rfl)) Via.refl f17 d10_24 rfl ?_
  have f18 : Arv Z h11 sa ks .long (4 : Int32) [(.long 0), (.long 1), (.long 0), (.long 0)] (.long 0) := (((vs.other W2 (Ne.symm ne_a_sa)).other W7 (Ne.symm ne_a_sa)).other W12 (Ne.symm ne_a_sa))
  refine Go.arraylength (pc' := 28) f18 d10_27 rfl ?_
  refine Go.iconst (pc' := 29) (v := (1 : Int32)) d10_28 rfl rfl ?_
  refine Go.isub (pc' := 30) d10_29 rfl ?_
  show Go _ _ _ _ _ _ _ _ _ _ _ _ 30 #[.val (.ref a), .val (.long d), .second] [(.int (3 : Int32)), (.int (2 : Int32)), (.ref a)]
  refine Go.iand (pc' := 31) d10_30 rfl ?_
  show Go _ _ _ _ _ _ _ _ _ _ _ _ 31 #[.val (.ref a), .val (.long d), .second] [(.int (2 : Int32)), (.ref a)]
  refine Go.putfield (pc' := 34) (host := "") (Or.inl (ww hw 37 rfl)) Via.refl f16 (((x.wr W2).wr W7).wr W12) (Or.inl (ww hw 38 rfl)) (ww hw 2 rfl) (ty := .int) (by decide) rfl rfl ge_a d10_31 rfl ?_
  intro h19 W20
  have K21 : Keep h h19 [a] := K13.wr W20 (Or.inl (List.mem_of_getElem? (i := 0) rfl))
  have f22 := f16.same W20
  refine Go.aloadN (pc' := 35) d10_34 rfl rfl rfl ?_
  refine Go.dup (pc' := 36) d10_35 rfl rfl ?_
  have f23 : Fld Z h19 a "com/example/rens/rens/TimeRing" "size" "I" (.int (1 : Int32)) := (f15.other W20 (Or.inr (slot_ne (Or.inl (ww hw 30 rfl)) (Or.inl (ww hw 38 rfl)) (by decide) (t := .int) (t' := .int) (by decide) (by decide))))
  refine Go.getfield (pc' := 39) (host := "") (Or.inl (ww hw 29 rfl)) Via.refl f23 d10_36 rfl ?_
  refine Go.iconst (pc' := 40) (v := (1 : Int32)) d10_39 rfl rfl ?_
  refine Go.isub (pc' := 41) d10_40 rfl ?_
  show Go _ _ _ _ _ _ _ _ _ _ _ _ 41 #[.val (.ref a), .val (.long d), .second] [(.int (0 : Int32)), (.ref a)]
  refine Go.putfield (pc' := 44) (host := "") (Or.inl (ww hw 29 rfl)) Via.refl f23 ((((x.wr W2).wr W7).wr W12).wr W20) (Or.inl (ww hw 30 rfl)) (ww hw 2 rfl) (ty := .int) (by decide) rfl rfl ge_a d10_41 rfl ?_
  intro h24 W25
  have K26 : Keep h h24 [a] := K21.wr W25 (Or.inl (List.mem_of_getElem? (i := 0) rfl))
  have f27 := f23.same W25
  refine Go.aloadN (pc' := 45) d10_44 rfl rfl rfl ?_
  refine Go.dup (pc' := 46) d10_45 rfl rfl ?_
  have f28 : Fld Z h24 a "com/example/rens/rens/TimeRing" "first" "J" (.long (f + (1 : Int64))) := ((f14.other W20 (Or.inr (slot_ne (Or.inl (ww hw 32 rfl)) (Or.inl (ww hw 38 rfl)) (by decide) (t := .long) (t' := .int) (by decide) (by decide)))).other W25 (Or.inr (slot_ne (Or.inl (ww hw 32 rfl)) (Or.inl (ww hw 30 rfl)) (by decide) (t := .long) (t' := .int) (by decide) (by decide))))
  refine Go.getfield (pc' := 49) (host := "") (Or.inl (ww hw 31 rfl)) Via.refl f28 d10_46 rfl ?_
  refine Go.lconst (pc' := 50) (v := (1 : Int64)) d10_49 rfl rfl ?_
  refine Go.ladd (pc' := 51) d10_50 rfl ?_
  have f29 : Exa Z h24 a "com/example/rens/rens/TimeRing" := (((((x.wr W2).wr W7).wr W12).wr W20).wr W25)
  refine Go.putfield (pc' := 54) (host := "") (Or.inl (ww hw 31 rfl)) Via.refl f28 f29 (Or.inl (ww hw 32 rfl)) (ww hw 2 rfl) (ty := .long) (by decide) rfl rfl ge_a d10_51 rfl ?_
  intro h30 W31
  have K32 : Keep h h30 [a] := K26.wr W31 (Or.inl (List.mem_of_getElem? (i := 0) rfl))
  have f33 := f28.same W31
  refine Go.goto (pc' := 0) d10_54 (by decide) (by decide) ?_
  refine Go.aloadN (pc' := 1) d10_0 rfl rfl rfl ?_
  have f34 : Fld Z h30 a "com/example/rens/rens/TimeRing" "size" "I" (.int (0 : Int32)) := (f27.other W31 (Or.inr (slot_ne (Or.inl (ww hw 30 rfl)) (Or.inl (ww hw 32 rfl)) (by decide) (t := .int) (t' := .long) (by decide) (by decide))))
  refine Go.getfield (pc' := 4) (host := "") (Or.inl (ww hw 29 rfl)) Via.refl f34 d10_1 rfl ?_
  refine Go.ifYes (pc' := 57) d10_4 (XT.i0_le_t (by decide)) (by decide) (by decide) ?_
  have f35 : Fld Z h30 a "com/example/rens/rens/TimeRing" "seconds" "[J" (.ref sa) := (((f17.other W20 (Or.inr (slot_ne (Or.inl (ww hw 12 rfl)) (Or.inl (ww hw 38 rfl)) (by decide) (t := (.array .long)) (t' := .int) (by decide) (by decide)))).other W25 (Or.inr (slot_ne (Or.inl (ww hw 12 rfl)) (Or.inl (ww hw 30 rfl)) (by decide) (t := (.array .long)) (t' := .int) (by decide) (by decide)))).other W31 (Or.inr (slot_ne (Or.inl (ww hw 12 rfl)) (Or.inl (ww hw 32 rfl)) (by decide) (t := (.array .long)) (t' := .long) (by decide) (by decide))))
  have f36 : Fld Z h30 a "com/example/rens/rens/TimeRing" "nanos" "[I" (.ref na) := ((((((pf1.other W2 (Or.inr (slot_ne (Or.inl (ww hw 15 rfl)) (Or.inl (ww hw 38 rfl)) (by decide) (t := (.array .int)) (t' := .int) (by decide) (by decide)))).other W7 (Or.inr (slot_ne (Or.inl (ww hw 15 rfl)) (Or.inl (ww hw 30 rfl)) (by decide) (t := (.array .int)) (t' := .int) (by decide) (by decide)))).other W12 (Or.inr (slot_ne (Or.inl (ww hw 15 rfl)) (Or.inl (ww hw 32 rfl)) (by decide) (t := (.array .int)) (t' := .long) (by decide) (by decide)))).other W20 (Or.inr (slot_ne (Or.inl (ww hw 15 rfl)) (Or.inl (ww hw 38 rfl)) (by decide) (t := (.array .int)) (t' := .int) (by decide) (by decide)))).other W25 (Or.inr (slot_ne (Or.inl (ww hw 15 rfl)) (Or.inl (ww hw 30 rfl)) (by decide) (t := (.array .int)) (t' := .int) (by decide) (by decide)))).other W31 (Or.inr (slot_ne (Or.inl (ww hw 15 rfl)) (Or.inl (ww hw 32 rfl)) (by decide) (t := (.array .int)) (t' := .long) (by decide) (by decide))))
  have f37 : Fld Z h30 a "com/example/rens/rens/TimeRing" "head" "I" (.int (2 : Int32)) := ((f22.other W25 (Or.inr (slot_ne (Or.inl (ww hw 38 rfl)) (Or.inl (ww hw 30 rfl)) (by decide) (t := .int) (t' := .int) (by decide) (by decide)))).other W31 (Or.inr (slot_ne (Or.inl (ww hw 38 rfl)) (Or.inl (ww hw 32 rfl)) (by decide) (t := .int) (t' := .long) (by decide) (by decide))))
  exact Go.retV rfl d10_57 ⟨rfl, K32, f35, f36, f37, f34, f33⟩ (by decide) (by decide)
set_option maxRecDepth 65536 in
set_option maxHeartbeats 4000000 in
theorem c_drop3_0 (l : Launch) (Z : State) (a0 : Array Value) (hw : ∀ d ∈ tables_1, d.before a0 Z = true) {n0 : Nat} (h : Heap) (a : Addr) (sa : Addr) (ks : ClassId) (na : Addr) (f : Int64) (d : Int64) (gk : ¬ (f < d)) (ge_a : n0 ≤ a) (ne_a_sa : a ≠ sa) (x : Exa Z h a "com/example/rens/rens/TimeRing") (pf0 : Fld Z h a "com/example/rens/rens/TimeRing" "seconds" "[J" (.ref sa)) (pf1 : Fld Z h a "com/example/rens/rens/TimeRing" "nanos" "[I" (.ref na)) (pf2 : Fld Z h a "com/example/rens/rens/TimeRing" "head" "I" (.int (0 : Int32))) (pf3 : Fld Z h a "com/example/rens/rens/TimeRing" "size" "I" (.int (3 : Int32))) (pf4 : Fld Z h a "com/example/rens/rens/TimeRing" "first" "J" (.long f)) (vs : Arv Z h sa ks .long (4 : Int32) [(.long 0), (.long 1), (.long 2), (.long 0)] (.long 0)) :
    Con l (⟨"com/example/rens/rens/TimeRing", "dropBefore", "(J)V"⟩ : MethodName) prog_22_method_7_code 3 none ({ frames := 0, cells := 0, slots := 0, locals := 0 } : Room) Z n0 #[(.ref a), (.long d)] h (fun v h' => v = none ∧ Keep h h' [a] ∧ Fld Z h' a "com/example/rens/rens/TimeRing" "seconds" "[J" (.ref sa) ∧ Fld Z h' a "com/example/rens/rens/TimeRing" "nanos" "[I" (.ref na) ∧ Fld Z h' a "com/example/rens/rens/TimeRing" "head" "I" (.int (0 : Int32)) ∧ Fld Z h' a "com/example/rens/rens/TimeRing" "size" "I" (.int (3 : Int32)) ∧ Fld Z h' a "com/example/rens/rens/TimeRing" "first" "J" (.long f)) := by
  refine Con.of_go (plainFor_of_name pn_1) (Ls := #[.val (.ref a), .val (.long d), .second]) (fun m => by first | (simp [entryFrame, mkF, argsToLocals, Value.category]; done) | rfl) ?_
  refine Go.aloadN (pc' := 1) d10_0 rfl rfl rfl ?_
  refine Go.getfield (pc' := 4) (host := "") (Or.inl (ww hw 29 rfl)) Via.refl pf3 d10_1 rfl ?_
  refine Go.ifNo (pc' := 7) d10_4 (XT.i0_le_f (by decide)) rfl ?_
  refine Go.aloadN (pc' := 8) d10_7 rfl rfl rfl ?_
  refine Go.getfield (pc' := 11) (host := "") (Or.inl (ww hw 31 rfl)) Via.refl pf4 d10_8 rfl ?_
  refine Go.lloadN (pc' := 12) d10_11 rfl rfl ?_
  refine Go.lcmp (pc' := 13) d10_12 rfl ?_
  refine Go.ifYes (pc' := 57) d10_13 (XT.ll_ge_t gk) (by decide) (by decide) ?_
  exact Go.retV rfl d10_57 ⟨rfl, (Keep.refl h [a]), pf0, pf1, pf2, pf3, pf4⟩ (by decide) (by decide)
set_option maxRecDepth 65536 in
set_option maxHeartbeats 4000000 in
theorem c_drop3_1 (l : Launch) (Z : State) (a0 : Array Value) (hw : ∀ d ∈ tables_1, d.before a0 Z = true) {n0 : Nat} (h : Heap) (a : Addr) (sa : Addr) (ks : ClassId) (na : Addr) (f : Int64) (d : Int64) (g0 : f < d) (gk : ¬ ((f + (1 : Int64)) < d)) (ge_a : n0 ≤ a) (ne_a_sa : a ≠ sa) (x : Exa Z h a "com/example/rens/rens/TimeRing") (pf0 : Fld Z h a "com/example/rens/rens/TimeRing" "seconds" "[J" (.ref sa)) (pf1 : Fld Z h a "com/example/rens/rens/TimeRing" "nanos" "[I" (.ref na)) (pf2 : Fld Z h a "com/example/rens/rens/TimeRing" "head" "I" (.int (0 : Int32))) (pf3 : Fld Z h a "com/example/rens/rens/TimeRing" "size" "I" (.int (3 : Int32))) (pf4 : Fld Z h a "com/example/rens/rens/TimeRing" "first" "J" (.long f)) (vs : Arv Z h sa ks .long (4 : Int32) [(.long 0), (.long 1), (.long 2), (.long 0)] (.long 0)) :
    Con l (⟨"com/example/rens/rens/TimeRing", "dropBefore", "(J)V"⟩ : MethodName) prog_22_method_7_code 3 none ({ frames := 0, cells := 0, slots := 0, locals := 0 } : Room) Z n0 #[(.ref a), (.long d)] h (fun v h' => v = none ∧ Keep h h' [a] ∧ Fld Z h' a "com/example/rens/rens/TimeRing" "seconds" "[J" (.ref sa) ∧ Fld Z h' a "com/example/rens/rens/TimeRing" "nanos" "[I" (.ref na) ∧ Fld Z h' a "com/example/rens/rens/TimeRing" "head" "I" (.int (1 : Int32)) ∧ Fld Z h' a "com/example/rens/rens/TimeRing" "size" "I" (.int (2 : Int32)) ∧ Fld Z h' a "com/example/rens/rens/TimeRing" "first" "J" (.long (f + (1 : Int64)))) := by
  refine Con.of_go (plainFor_of_name pn_1) (Ls := #[.val (.ref a), .val (.long d), .second]) (fun m => by first | (simp [entryFrame, mkF, argsToLocals, Value.category]; done) | rfl) ?_
  refine Go.aloadN (pc' := 1) d10_0 rfl rfl rfl ?_
  refine Go.getfield (pc' := 4) (host := "") (Or.inl (ww hw 29 rfl)) Via.refl pf3 d10_1 rfl ?_
  refine Go.ifNo (pc' := 7) d10_4 (XT.i0_le_f (by decide)) rfl ?_
  refine Go.aloadN (pc' := 8) d10_7 rfl rfl rfl ?_
  refine Go.getfield (pc' := 11) (host := "") (Or.inl (ww hw 31 rfl)) Via.refl pf4 d10_8 rfl ?_
  refine Go.lloadN (pc' := 12) d10_11 rfl rfl ?_
  refine Go.lcmp (pc' := 13) d10_12 rfl ?_
  refine Go.ifNo (pc' := 16) d10_13 (XT.ll_ge_f g0) rfl ?_
  refine Go.aloadN (pc' := 17) d10_16 rfl rfl rfl ?_
  refine Go.aloadN (pc' := 18) d10_17 rfl rfl rfl ?_
  refine Go.getfield (pc' := 21) (host := "") (Or.inl (ww hw 37 rfl)) Via.refl pf2 d10_18 rfl ?_
  refine Go.iconst (pc' := 22) (v := (1 : Int32)) d10_21 rfl rfl ?_
  refine Go.iadd (pc' := 23) d10_22 rfl ?_
  show Go _ _ _ _ _ _ _ _ _ _ _ _ 23 #[.val (.ref a), .val (.long d), .second] [(.int (1 : Int32)), (.ref a)]
  refine Go.aloadN (pc' := 24) d10_23 rfl rfl rfl ?_
  refine Go.getfield (pc' := 27) (host := "") (Or.inl (ww hw 11 rfl)) Via.refl pf0 d10_24 rfl ?_
  refine Go.arraylength (pc' := 28) vs d10_27 rfl ?_
  refine Go.iconst (pc' := 29) (v := (1 : Int32)) d10_28 rfl rfl ?_
  refine Go.isub (pc' := 30) d10_29 rfl ?_
  show Go _ _ _ _ _ _ _ _ _ _ _ _ 30 #[.val (.ref a), .val (.long d), .second] [(.int (3 : Int32)), (.int (1 : Int32)), (.ref a)]
  refine Go.iand (pc' := 31) d10_30 rfl ?_
  show Go _ _ _ _ _ _ _ _ _ _ _ _ 31 #[.val (.ref a), .val (.long d), .second] [(.int (1 : Int32)), (.ref a)]
  refine Go.putfield (pc' := 34) (host := "") (Or.inl (ww hw 37 rfl)) Via.refl pf2 x (Or.inl (ww hw 38 rfl)) (ww hw 2 rfl) (ty := .int) (by decide) rfl rfl ge_a d10_31 rfl ?_
  intro h1 W2
  have K3 : Keep h h1 [a] := (Keep.refl h [a]).wr W2 (Or.inl (List.mem_of_getElem? (i := 0) rfl))
  have f4 := pf2.same W2
  refine Go.aloadN (pc' := 35) d10_34 rfl rfl rfl ?_
  refine Go.dup (pc' := 36) d10_35 rfl rfl ?_
  have f5 : Fld Z h1 a "com/example/rens/rens/TimeRing" "size" "I" (.int (3 : Int32)) := (pf3.other W2 (Or.inr (slot_ne (Or.inl (ww hw 30 rfl)) (Or.inl (ww hw 38 rfl)) (by decide) (t := .int) (t' := .int) (by decide) (by decide))))
  refine Go.getfield (pc' := 39) (host := "") (Or.inl (ww hw 29 rfl)) Via.refl f5 d10_36 rfl ?_
  refine Go.iconst (pc' := 40) (v := (1 : Int32)) d10_39 rfl rfl ?_
  refine Go.isub (pc' := 41) d10_40 rfl ?_
  show Go _ _ _ _ _ _ _ _ _ _ _ _ 41 #[.val (.ref a), .val (.long d), .second] [(.int (2 : Int32)), (.ref a)]
  refine Go.putfield (pc' := 44) (host := "") (Or.inl (ww hw 29 rfl)) Via.refl f5 (x.wr W2) (Or.inl (ww hw 30 rfl)) (ww hw 2 rfl) (ty := .int) (by decide) rfl rfl ge_a d10_41 rfl ?_
  intro h6 W7
  have K8 : Keep h h6 [a] := K3.wr W7 (Or.inl (List.mem_of_getElem? (i := 0) rfl))
  have f9 := f5.same W7
  refine Go.aloadN (pc' := 45) d10_44 rfl rfl rfl ?_
  refine Go.dup (pc' := 46) d10_45 rfl rfl ?_
  have f10 : Fld Z h6 a "com/example/rens/rens/TimeRing" "first" "J" (.long f) := ((pf4.other W2 (Or.inr (slot_ne (Or.inl (ww hw 32 rfl)) (Or.inl (ww hw 38 rfl)) (by decide) (t := .long) (t' := .int) (by decide) (by decide)))).other W7 (Or.inr (slot_ne (Or.inl (ww hw 32 rfl)) (Or.inl (ww hw 30 rfl)) (by decide) (t := .long) (t' := .int) (by decide) (by decide))))
  refine Go.getfield (pc' := 49) (host := "") (Or.inl (ww hw 31 rfl)) Via.refl f10 d10_46 rfl ?_
  refine Go.lconst (pc' := 50) (v := (1 : Int64)) d10_49 rfl rfl ?_
  refine Go.ladd (pc' := 51) d10_50 rfl ?_
  refine Go.putfield (pc' := 54) (host := "") (Or.inl (ww hw 31 rfl)) Via.refl f10 ((x.wr W2).wr W7) (Or.inl (ww hw 32 rfl)) (ww hw 2 rfl) (ty := .long) (by decide) rfl rfl ge_a d10_51 rfl ?_
  intro h11 W12
  have K13 : Keep h h11 [a] := K8.wr W12 (Or.inl (List.mem_of_getElem? (i := 0) rfl))
  have f14 := f10.same W12
  refine Go.goto (pc' := 0) d10_54 (by decide) (by decide) ?_
  refine Go.aloadN (pc' := 1) d10_0 rfl rfl rfl ?_
  have f15 : Fld Z h11 a "com/example/rens/rens/TimeRing" "size" "I" (.int (2 : Int32)) := (f9.other W12 (Or.inr (slot_ne (Or.inl (ww hw 30 rfl)) (Or.inl (ww hw 32 rfl)) (by decide) (t := .int) (t' := .long) (by decide) (by decide))))
  refine Go.getfield (pc' := 4) (host := "") (Or.inl (ww hw 29 rfl)) Via.refl f15 d10_1 rfl ?_
  refine Go.ifNo (pc' := 7) d10_4 (XT.i0_le_f (by decide)) rfl ?_
  refine Go.aloadN (pc' := 8) d10_7 rfl rfl rfl ?_
  refine Go.getfield (pc' := 11) (host := "") (Or.inl (ww hw 31 rfl)) Via.refl f14 d10_8 rfl ?_
  refine Go.lloadN (pc' := 12) d10_11 rfl rfl ?_
  refine Go.lcmp (pc' := 13) d10_12 rfl ?_
  refine Go.ifYes (pc' := 57) d10_13 (XT.ll_ge_t gk) (by decide) (by decide) ?_
  have f16 : Fld Z h11 a "com/example/rens/rens/TimeRing" "seconds" "[J" (.ref sa) := (((pf0.other W2 (Or.inr (slot_ne (Or.inl (ww hw 12 rfl)) (Or.inl (ww hw 38 rfl)) (by decide) (t := (.array .long)) (t' := .int) (by decide) (by decide)))).other W7 (Or.inr (slot_ne (Or.inl (ww hw 12 rfl)) (Or.inl (ww hw 30 rfl)) (by decide) (t := (.array .long)) (t' := .int) (by decide) (by decide)))).other W12 (Or.inr (slot_ne (Or.inl (ww hw 12 rfl)) (Or.inl (ww hw 32 rfl)) (by decide) (t := (.array .long)) (t' := .long) (by decide) (by decide))))
  have f17 : Fld Z h11 a "com/example/rens/rens/TimeRing" "nanos" "[I" (.ref na) := (((pf1.other W2 (Or.inr (slot_ne (Or.inl (ww hw 15 rfl)) (Or.inl (ww hw 38 rfl)) (by decide) (t := (.array .int)) (t' := .int) (by decide) (by decide)))).other W7 (Or.inr (slot_ne (Or.inl (ww hw 15 rfl)) (Or.inl (ww hw 30 rfl)) (by decide) (t := (.array .int)) (t' := .int) (by decide) (by decide)))).other W12 (Or.inr (slot_ne (Or.inl (ww hw 15 rfl)) (Or.inl (ww hw 32 rfl)) (by decide) (t := (.array .int)) (t' := .long) (by decide) (by decide))))
  have f18 : Fld Z h11 a "com/example/rens/rens/TimeRing" "head" "I" (.int (1 : Int32)) := ((f4.other W7 (Or.inr (slot_ne (Or.inl (ww hw 38 rfl)) (Or.inl (ww hw 30 rfl)) (by decide) (t := .int) (t' := .int) (by decide) (by decide)))).other W12 (Or.inr (slot_ne (Or.inl (ww hw 38 rfl)) (Or.inl (ww hw 32 rfl)) (by decide) (t := .int) (t' := .long) (by decide) (by decide))))
  exact Go.retV rfl d10_57 ⟨rfl, K13, f16, f17, f18, f15, f14⟩ (by decide) (by decide)
set_option maxRecDepth 65536 in
set_option maxHeartbeats 4000000 in
theorem c_drop3_2 (l : Launch) (Z : State) (a0 : Array Value) (hw : ∀ d ∈ tables_1, d.before a0 Z = true) {n0 : Nat} (h : Heap) (a : Addr) (sa : Addr) (ks : ClassId) (na : Addr) (f : Int64) (d : Int64) (g0 : f < d) (g1 : (f + (1 : Int64)) < d) (gk : ¬ (((f + (1 : Int64)) + (1 : Int64)) < d)) (ge_a : n0 ≤ a) (ne_a_sa : a ≠ sa) (x : Exa Z h a "com/example/rens/rens/TimeRing") (pf0 : Fld Z h a "com/example/rens/rens/TimeRing" "seconds" "[J" (.ref sa)) (pf1 : Fld Z h a "com/example/rens/rens/TimeRing" "nanos" "[I" (.ref na)) (pf2 : Fld Z h a "com/example/rens/rens/TimeRing" "head" "I" (.int (0 : Int32))) (pf3 : Fld Z h a "com/example/rens/rens/TimeRing" "size" "I" (.int (3 : Int32))) (pf4 : Fld Z h a "com/example/rens/rens/TimeRing" "first" "J" (.long f)) (vs : Arv Z h sa ks .long (4 : Int32) [(.long 0), (.long 1), (.long 2), (.long 0)] (.long 0)) :
    Con l (⟨"com/example/rens/rens/TimeRing", "dropBefore", "(J)V"⟩ : MethodName) prog_22_method_7_code 3 none ({ frames := 0, cells := 0, slots := 0, locals := 0 } : Room) Z n0 #[(.ref a), (.long d)] h (fun v h' => v = none ∧ Keep h h' [a] ∧ Fld Z h' a "com/example/rens/rens/TimeRing" "seconds" "[J" (.ref sa) ∧ Fld Z h' a "com/example/rens/rens/TimeRing" "nanos" "[I" (.ref na) ∧ Fld Z h' a "com/example/rens/rens/TimeRing" "head" "I" (.int (2 : Int32)) ∧ Fld Z h' a "com/example/rens/rens/TimeRing" "size" "I" (.int (1 : Int32)) ∧ Fld Z h' a "com/example/rens/rens/TimeRing" "first" "J" (.long ((f + (1 : Int64)) + (1 : Int64)))) := by
  refine Con.of_go (plainFor_of_name pn_1) (Ls := #[.val (.ref a), .val (.long d), .second]) (fun m => by first | (simp [entryFrame, mkF, argsToLocals, Value.category]; done) | rfl) ?_
  refine Go.aloadN (pc' := 1) d10_0 rfl rfl rfl ?_
  refine Go.getfield (pc' := 4) (host := "") (Or.inl (ww hw 29 rfl)) Via.refl pf3 d10_1 rfl ?_
  refine Go.ifNo (pc' := 7) d10_4 (XT.i0_le_f (by decide)) rfl ?_
  refine Go.aloadN (pc' := 8) d10_7 rfl rfl rfl ?_
  refine Go.getfield (pc' := 11) (host := "") (Or.inl (ww hw 31 rfl)) Via.refl pf4 d10_8 rfl ?_
  refine Go.lloadN (pc' := 12) d10_11 rfl rfl ?_
  refine Go.lcmp (pc' := 13) d10_12 rfl ?_
  refine Go.ifNo (pc' := 16) d10_13 (XT.ll_ge_f g0) rfl ?_
  refine Go.aloadN (pc' := 17) d10_16 rfl rfl rfl ?_
  refine Go.aloadN (pc' := 18) d10_17 rfl rfl rfl ?_
  refine Go.getfield (pc' := 21) (host := "") (Or.inl (ww hw 37 rfl)) Via.refl pf2 d10_18 rfl ?_
  refine Go.iconst (pc' := 22) (v := (1 : Int32)) d10_21 rfl rfl ?_
  refine Go.iadd (pc' := 23) d10_22 rfl ?_
  show Go _ _ _ _ _ _ _ _ _ _ _ _ 23 #[.val (.ref a), .val (.long d), .second] [(.int (1 : Int32)), (.ref a)]
  refine Go.aloadN (pc' := 24) d10_23 rfl rfl rfl ?_
  refine Go.getfield (pc' := 27) (host := "") (Or.inl (ww hw 11 rfl)) Via.refl pf0 d10_24 rfl ?_
  refine Go.arraylength (pc' := 28) vs d10_27 rfl ?_
  refine Go.iconst (pc' := 29) (v := (1 : Int32)) d10_28 rfl rfl ?_
  refine Go.isub (pc' := 30) d10_29 rfl ?_
  show Go _ _ _ _ _ _ _ _ _ _ _ _ 30 #[.val (.ref a), .val (.long d), .second] [(.int (3 : Int32)), (.int (1 : Int32)), (.ref a)]
  refine Go.iand (pc' := 31) d10_30 rfl ?_
  show Go _ _ _ _ _ _ _ _ _ _ _ _ 31 #[.val (.ref a), .val (.long d), .second] [(.int (1 : Int32)), (.ref a)]
  refine Go.putfield (pc' := 34) (host := "") (Or.inl (ww hw 37 rfl)) Via.refl pf2 x (Or.inl (ww hw 38 rfl)) (ww hw 2 rfl) (ty := .int) (by decide) rfl rfl ge_a d10_31 rfl ?_
  intro h1 W2
  have K3 : Keep h h1 [a] := (Keep.refl h [a]).wr W2 (Or.inl (List.mem_of_getElem? (i := 0) rfl))
  have f4 := pf2.same W2
  refine Go.aloadN (pc' := 35) d10_34 rfl rfl rfl ?_
  refine Go.dup (pc' := 36) d10_35 rfl rfl ?_
  have f5 : Fld Z h1 a "com/example/rens/rens/TimeRing" "size" "I" (.int (3 : Int32)) := (pf3.other W2 (Or.inr (slot_ne (Or.inl (ww hw 30 rfl)) (Or.inl (ww hw 38 rfl)) (by decide) (t := .int) (t' := .int) (by decide) (by decide))))
  refine Go.getfield (pc' := 39) (host := "") (Or.inl (ww hw 29 rfl)) Via.refl f5 d10_36 rfl ?_
  refine Go.iconst (pc' := 40) (v := (1 : Int32)) d10_39 rfl rfl ?_
  refine Go.isub (pc' := 41) d10_40 rfl ?_
  show Go _ _ _ _ _ _ _ _ _ _ _ _ 41 #[.val (.ref a), .val (.long d), .second] [(.int (2 : Int32)), (.ref a)]
  refine Go.putfield (pc' := 44) (host := "") (Or.inl (ww hw 29 rfl)) Via.refl f5 (x.wr W2) (Or.inl (ww hw 30 rfl)) (ww hw 2 rfl) (ty := .int) (by decide) rfl rfl ge_a d10_41 rfl ?_
  intro h6 W7
  have K8 : Keep h h6 [a] := K3.wr W7 (Or.inl (List.mem_of_getElem? (i := 0) rfl))
  have f9 := f5.same W7
  refine Go.aloadN (pc' := 45) d10_44 rfl rfl rfl ?_
  refine Go.dup (pc' := 46) d10_45 rfl rfl ?_
  have f10 : Fld Z h6 a "com/example/rens/rens/TimeRing" "first" "J" (.long f) := ((pf4.other W2 (Or.inr (slot_ne (Or.inl (ww hw 32 rfl)) (Or.inl (ww hw 38 rfl)) (by decide) (t := .long) (t' := .int) (by decide) (by decide)))).other W7 (Or.inr (slot_ne (Or.inl (ww hw 32 rfl)) (Or.inl (ww hw 30 rfl)) (by decide) (t := .long) (t' := .int) (by decide) (by decide))))
  refine Go.getfield (pc' := 49) (host := "") (Or.inl (ww hw 31 rfl)) Via.refl f10 d10_46 rfl ?_
  refine Go.lconst (pc' := 50) (v := (1 : Int64)) d10_49 rfl rfl ?_
  refine Go.ladd (pc' := 51) d10_50 rfl ?_
  refine Go.putfield (pc' := 54) (host := "") (Or.inl (ww hw 31 rfl)) Via.refl f10 ((x.wr W2).wr W7) (Or.inl (ww hw 32 rfl)) (ww hw 2 rfl) (ty := .long) (by decide) rfl rfl ge_a d10_51 rfl ?_
  intro h11 W12
  have K13 : Keep h h11 [a] := K8.wr W12 (Or.inl (List.mem_of_getElem? (i := 0) rfl))
  have f14 := f10.same W12
  refine Go.goto (pc' := 0) d10_54 (by decide) (by decide) ?_
  refine Go.aloadN (pc' := 1) d10_0 rfl rfl rfl ?_
  have f15 : Fld Z h11 a "com/example/rens/rens/TimeRing" "size" "I" (.int (2 : Int32)) := (f9.other W12 (Or.inr (slot_ne (Or.inl (ww hw 30 rfl)) (Or.inl (ww hw 32 rfl)) (by decide) (t := .int) (t' := .long) (by decide) (by decide))))
  refine Go.getfield (pc' := 4) (host := "") (Or.inl (ww hw 29 rfl)) Via.refl f15 d10_1 rfl ?_
  refine Go.ifNo (pc' := 7) d10_4 (XT.i0_le_f (by decide)) rfl ?_
  refine Go.aloadN (pc' := 8) d10_7 rfl rfl rfl ?_
  refine Go.getfield (pc' := 11) (host := "") (Or.inl (ww hw 31 rfl)) Via.refl f14 d10_8 rfl ?_
  refine Go.lloadN (pc' := 12) d10_11 rfl rfl ?_
  refine Go.lcmp (pc' := 13) d10_12 rfl ?_
  refine Go.ifNo (pc' := 16) d10_13 (XT.ll_ge_f g1) rfl ?_
  refine Go.aloadN (pc' := 17) d10_16 rfl rfl rfl ?_
  refine Go.aloadN (pc' := 18) d10_17 rfl rfl rfl ?_
  have f16 : Fld Z h11 a "com/example/rens/rens/TimeRing" "head" "I" (.int (1 : Int32)) := ((f4.other W7 (Or.inr (slot_ne (Or.inl (ww hw 38 rfl)) (Or.inl (ww hw 30 rfl)) (by decide) (t := .int) (t' := .int) (by decide) (by decide)))).other W12 (Or.inr (slot_ne (Or.inl (ww hw 38 rfl)) (Or.inl (ww hw 32 rfl)) (by decide) (t := .int) (t' := .long) (by decide) (by decide))))
  refine Go.getfield (pc' := 21) (host := "") (Or.inl (ww hw 37 rfl)) Via.refl f16 d10_18 rfl ?_
  refine Go.iconst (pc' := 22) (v := (1 : Int32)) d10_21 rfl rfl ?_
  refine Go.iadd (pc' := 23) d10_22 rfl ?_
  show Go _ _ _ _ _ _ _ _ _ _ _ _ 23 #[.val (.ref a), .val (.long d), .second] [(.int (2 : Int32)), (.ref a)]
  refine Go.aloadN (pc' := 24) d10_23 rfl rfl rfl ?_
  have f17 : Fld Z h11 a "com/example/rens/rens/TimeRing" "seconds" "[J" (.ref sa) := (((pf0.other W2 (Or.inr (slot_ne (Or.inl (ww hw 12 rfl)) (Or.inl (ww hw 38 rfl)) (by decide) (t := (.array .long)) (t' := .int) (by decide) (by decide)))).other W7 (Or.inr (slot_ne (Or.inl (ww hw 12 rfl)) (Or.inl (ww hw 30 rfl)) (by decide) (t := (.array .long)) (t' := .int) (by decide) (by decide)))).other W12 (Or.inr (slot_ne (Or.inl (ww hw 12 rfl)) (Or.inl (ww hw 32 rfl)) (by decide) (t := (.array .long)) (t' := .long) (by decide) (by decide))))
  refine Go.getfield (pc' := 27) (host := "") (Or.inl (ww hw 11 rfl)) Via.refl f17 d10_24 rfl ?_
  have f18 : Arv Z h11 sa ks .long (4 : Int32) [(.long 0), (.long 1), (.long 2), (.long 0)] (.long 0) := (((vs.other W2 (Ne.symm ne_a_sa)).other W7 (Ne.symm ne_a_sa)).other W12 (Ne.symm ne_a_sa))
  refine Go.arraylength (pc' := 28) f18 d10_27 rfl ?_
  refine Go.iconst (pc' := 29) (v := (1 : Int32)) d10_28 rfl rfl ?_
  refine Go.isub (pc' := 30) d10_29 rfl ?_
  show Go _ _ _ _ _ _ _ _ _ _ _ _ 30 #[.val (.ref a), .val (.long d), .second] [(.int (3 : Int32)), (.int (2 : Int32)), (.ref a)]
  refine Go.iand (pc' := 31) d10_30 rfl ?_
  show Go _ _ _ _ _ _ _ _ _ _ _ _ 31 #[.val (.ref a), .val (.long d), .second] [(.int (2 : Int32)), (.ref a)]
  refine Go.putfield (pc' := 34) (host := "") (Or.inl (ww hw 37 rfl)) Via.refl f16 (((x.wr W2).wr W7).wr W12) (Or.inl (ww hw 38 rfl)) (ww hw 2 rfl) (ty := .int) (by decide) rfl rfl ge_a d10_31 rfl ?_
  intro h19 W20
  have K21 : Keep h h19 [a] := K13.wr W20 (Or.inl (List.mem_of_getElem? (i := 0) rfl))
  have f22 := f16.same W20
  refine Go.aloadN (pc' := 35) d10_34 rfl rfl rfl ?_
  refine Go.dup (pc' := 36) d10_35 rfl rfl ?_
  have f23 : Fld Z h19 a "com/example/rens/rens/TimeRing" "size" "I" (.int (2 : Int32)) := (f15.other W20 (Or.inr (slot_ne (Or.inl (ww hw 30 rfl)) (Or.inl (ww hw 38 rfl)) (by decide) (t := .int) (t' := .int) (by decide) (by decide))))
  refine Go.getfield (pc' := 39) (host := "") (Or.inl (ww hw 29 rfl)) Via.refl f23 d10_36 rfl ?_
  refine Go.iconst (pc' := 40) (v := (1 : Int32)) d10_39 rfl rfl ?_
  refine Go.isub (pc' := 41) d10_40 rfl ?_
  show Go _ _ _ _ _ _ _ _ _ _ _ _ 41 #[.val (.ref a), .val (.long d), .second] [(.int (1 : Int32)), (.ref a)]
  refine Go.putfield (pc' := 44) (host := "") (Or.inl (ww hw 29 rfl)) Via.refl f23 ((((x.wr W2).wr W7).wr W12).wr W20) (Or.inl (ww hw 30 rfl)) (ww hw 2 rfl) (ty := .int) (by decide) rfl rfl ge_a d10_41 rfl ?_
  intro h24 W25
  have K26 : Keep h h24 [a] := K21.wr W25 (Or.inl (List.mem_of_getElem? (i := 0) rfl))
  have f27 := f23.same W25
  refine Go.aloadN (pc' := 45) d10_44 rfl rfl rfl ?_
  refine Go.dup (pc' := 46) d10_45 rfl rfl ?_
  have f28 : Fld Z h24 a "com/example/rens/rens/TimeRing" "first" "J" (.long (f + (1 : Int64))) := ((f14.other W20 (Or.inr (slot_ne (Or.inl (ww hw 32 rfl)) (Or.inl (ww hw 38 rfl)) (by decide) (t := .long) (t' := .int) (by decide) (by decide)))).other W25 (Or.inr (slot_ne (Or.inl (ww hw 32 rfl)) (Or.inl (ww hw 30 rfl)) (by decide) (t := .long) (t' := .int) (by decide) (by decide))))
  refine Go.getfield (pc' := 49) (host := "") (Or.inl (ww hw 31 rfl)) Via.refl f28 d10_46 rfl ?_
  refine Go.lconst (pc' := 50) (v := (1 : Int64)) d10_49 rfl rfl ?_
  refine Go.ladd (pc' := 51) d10_50 rfl ?_
  have f29 : Exa Z h24 a "com/example/rens/rens/TimeRing" := (((((x.wr W2).wr W7).wr W12).wr W20).wr W25)
  refine Go.putfield (pc' := 54) (host := "") (Or.inl (ww hw 31 rfl)) Via.refl f28 f29 (Or.inl (ww hw 32 rfl)) (ww hw 2 rfl) (ty := .long) (by decide) rfl rfl ge_a d10_51 rfl ?_
  intro h30 W31
  have K32 : Keep h h30 [a] := K26.wr W31 (Or.inl (List.mem_of_getElem? (i := 0) rfl))
  have f33 := f28.same W31
  refine Go.goto (pc' := 0) d10_54 (by decide) (by decide) ?_
  refine Go.aloadN (pc' := 1) d10_0 rfl rfl rfl ?_
  have f34 : Fld Z h30 a "com/example/rens/rens/TimeRing" "size" "I" (.int (1 : Int32)) := (f27.other W31 (Or.inr (slot_ne (Or.inl (ww hw 30 rfl)) (Or.inl (ww hw 32 rfl)) (by decide) (t := .int) (t' := .long) (by decide) (by decide))))
  refine Go.getfield (pc' := 4) (host := "") (Or.inl (ww hw 29 rfl)) Via.refl f34 d10_1 rfl ?_
  refine Go.ifNo (pc' := 7) d10_4 (XT.i0_le_f (by decide)) rfl ?_
  refine Go.aloadN (pc' := 8) d10_7 rfl rfl rfl ?_
  refine Go.getfield (pc' := 11) (host := "") (Or.inl (ww hw 31 rfl)) Via.refl f33 d10_8 rfl ?_
  refine Go.lloadN (pc' := 12) d10_11 rfl rfl ?_
  refine Go.lcmp (pc' := 13) d10_12 rfl ?_
  refine Go.ifYes (pc' := 57) d10_13 (XT.ll_ge_t gk) (by decide) (by decide) ?_
  have f35 : Fld Z h30 a "com/example/rens/rens/TimeRing" "seconds" "[J" (.ref sa) := (((f17.other W20 (Or.inr (slot_ne (Or.inl (ww hw 12 rfl)) (Or.inl (ww hw 38 rfl)) (by decide) (t := (.array .long)) (t' := .int) (by decide) (by decide)))).other W25 (Or.inr (slot_ne (Or.inl (ww hw 12 rfl)) (Or.inl (ww hw 30 rfl)) (by decide) (t := (.array .long)) (t' := .int) (by decide) (by decide)))).other W31 (Or.inr (slot_ne (Or.inl (ww hw 12 rfl)) (Or.inl (ww hw 32 rfl)) (by decide) (t := (.array .long)) (t' := .long) (by decide) (by decide))))
  have f36 : Fld Z h30 a "com/example/rens/rens/TimeRing" "nanos" "[I" (.ref na) := ((((((pf1.other W2 (Or.inr (slot_ne (Or.inl (ww hw 15 rfl)) (Or.inl (ww hw 38 rfl)) (by decide) (t := (.array .int)) (t' := .int) (by decide) (by decide)))).other W7 (Or.inr (slot_ne (Or.inl (ww hw 15 rfl)) (Or.inl (ww hw 30 rfl)) (by decide) (t := (.array .int)) (t' := .int) (by decide) (by decide)))).other W12 (Or.inr (slot_ne (Or.inl (ww hw 15 rfl)) (Or.inl (ww hw 32 rfl)) (by decide) (t := (.array .int)) (t' := .long) (by decide) (by decide)))).other W20 (Or.inr (slot_ne (Or.inl (ww hw 15 rfl)) (Or.inl (ww hw 38 rfl)) (by decide) (t := (.array .int)) (t' := .int) (by decide) (by decide)))).other W25 (Or.inr (slot_ne (Or.inl (ww hw 15 rfl)) (Or.inl (ww hw 30 rfl)) (by decide) (t := (.array .int)) (t' := .int) (by decide) (by decide)))).other W31 (Or.inr (slot_ne (Or.inl (ww hw 15 rfl)) (Or.inl (ww hw 32 rfl)) (by decide) (t := (.array .int)) (t' := .long) (by decide) (by decide))))
  have f37 : Fld Z h30 a "com/example/rens/rens/TimeRing" "head" "I" (.int (2 : Int32)) := ((f22.other W25 (Or.inr (slot_ne (Or.inl (ww hw 38 rfl)) (Or.inl (ww hw 30 rfl)) (by decide) (t := .int) (t' := .int) (by decide) (by decide)))).other W31 (Or.inr (slot_ne (Or.inl (ww hw 38 rfl)) (Or.inl (ww hw 32 rfl)) (by decide) (t := .int) (t' := .long) (by decide) (by decide))))
  exact Go.retV rfl d10_57 ⟨rfl, K32, f35, f36, f37, f34, f33⟩ (by decide) (by decide)
set_option maxRecDepth 65536 in
set_option maxHeartbeats 4000000 in
theorem c_drop3_3 (l : Launch) (Z : State) (a0 : Array Value) (hw : ∀ d ∈ tables_1, d.before a0 Z = true) {n0 : Nat} (h : Heap) (a : Addr) (sa : Addr) (ks : ClassId) (na : Addr) (f : Int64) (d : Int64) (g0 : f < d) (g1 : (f + (1 : Int64)) < d) (g2 : ((f + (1 : Int64)) + (1 : Int64)) < d) (ge_a : n0 ≤ a) (ne_a_sa : a ≠ sa) (x : Exa Z h a "com/example/rens/rens/TimeRing") (pf0 : Fld Z h a "com/example/rens/rens/TimeRing" "seconds" "[J" (.ref sa)) (pf1 : Fld Z h a "com/example/rens/rens/TimeRing" "nanos" "[I" (.ref na)) (pf2 : Fld Z h a "com/example/rens/rens/TimeRing" "head" "I" (.int (0 : Int32))) (pf3 : Fld Z h a "com/example/rens/rens/TimeRing" "size" "I" (.int (3 : Int32))) (pf4 : Fld Z h a "com/example/rens/rens/TimeRing" "first" "J" (.long f)) (vs : Arv Z h sa ks .long (4 : Int32) [(.long 0), (.long 1), (.long 2), (.long 0)] (.long 0)) :
    Con l (⟨"com/example/rens/rens/TimeRing", "dropBefore", "(J)V"⟩ : MethodName) prog_22_method_7_code 3 none ({ frames := 0, cells := 0, slots := 0, locals := 0 } : Room) Z n0 #[(.ref a), (.long d)] h (fun v h' => v = none ∧ Keep h h' [a] ∧ Fld Z h' a "com/example/rens/rens/TimeRing" "seconds" "[J" (.ref sa) ∧ Fld Z h' a "com/example/rens/rens/TimeRing" "nanos" "[I" (.ref na) ∧ Fld Z h' a "com/example/rens/rens/TimeRing" "head" "I" (.int (3 : Int32)) ∧ Fld Z h' a "com/example/rens/rens/TimeRing" "size" "I" (.int (0 : Int32)) ∧ Fld Z h' a "com/example/rens/rens/TimeRing" "first" "J" (.long (((f + (1 : Int64)) + (1 : Int64)) + (1 : Int64)))) := by
  refine Con.of_go (plainFor_of_name pn_1) (Ls := #[.val (.ref a), .val (.long d), .second]) (fun m => by first | (simp [entryFrame, mkF, argsToLocals, Value.category]; done) | rfl) ?_
  refine Go.aloadN (pc' := 1) d10_0 rfl rfl rfl ?_
  refine Go.getfield (pc' := 4) (host := "") (Or.inl (ww hw 29 rfl)) Via.refl pf3 d10_1 rfl ?_
  refine Go.ifNo (pc' := 7) d10_4 (XT.i0_le_f (by decide)) rfl ?_
  refine Go.aloadN (pc' := 8) d10_7 rfl rfl rfl ?_
  refine Go.getfield (pc' := 11) (host := "") (Or.inl (ww hw 31 rfl)) Via.refl pf4 d10_8 rfl ?_
  refine Go.lloadN (pc' := 12) d10_11 rfl rfl ?_
  refine Go.lcmp (pc' := 13) d10_12 rfl ?_
  refine Go.ifNo (pc' := 16) d10_13 (XT.ll_ge_f g0) rfl ?_
  refine Go.aloadN (pc' := 17) d10_16 rfl rfl rfl ?_
  refine Go.aloadN (pc' := 18) d10_17 rfl rfl rfl ?_
  refine Go.getfield (pc' := 21) (host := "") (Or.inl (ww hw 37 rfl)) Via.refl pf2 d10_18 rfl ?_
  refine Go.iconst (pc' := 22) (v := (1 : Int32)) d10_21 rfl rfl ?_
  refine Go.iadd (pc' := 23) d10_22 rfl ?_
  show Go _ _ _ _ _ _ _ _ _ _ _ _ 23 #[.val (.ref a), .val (.long d), .second] [(.int (1 : Int32)), (.ref a)]
  refine Go.aloadN (pc' := 24) d10_23 rfl rfl rfl ?_
  refine Go.getfield (pc' := 27) (host := "") (Or.inl (ww hw 11 rfl)) Via.refl pf0 d10_24 rfl ?_
  refine Go.arraylength (pc' := 28) vs d10_27 rfl ?_
  refine Go.iconst (pc' := 29) (v := (1 : Int32)) d10_28 rfl rfl ?_
  refine Go.isub (pc' := 30) d10_29 rfl ?_
  show Go _ _ _ _ _ _ _ _ _ _ _ _ 30 #[.val (.ref a), .val (.long d), .second] [(.int (3 : Int32)), (.int (1 : Int32)), (.ref a)]
  refine Go.iand (pc' := 31) d10_30 rfl ?_
  show Go _ _ _ _ _ _ _ _ _ _ _ _ 31 #[.val (.ref a), .val (.long d), .second] [(.int (1 : Int32)), (.ref a)]
  refine Go.putfield (pc' := 34) (host := "") (Or.inl (ww hw 37 rfl)) Via.refl pf2 x (Or.inl (ww hw 38 rfl)) (ww hw 2 rfl) (ty := .int) (by decide) rfl rfl ge_a d10_31 rfl ?_
  intro h1 W2
  have K3 : Keep h h1 [a] := (Keep.refl h [a]).wr W2 (Or.inl (List.mem_of_getElem? (i := 0) rfl))
  have f4 := pf2.same W2
  refine Go.aloadN (pc' := 35) d10_34 rfl rfl rfl ?_
  refine Go.dup (pc' := 36) d10_35 rfl rfl ?_
  have f5 : Fld Z h1 a "com/example/rens/rens/TimeRing" "size" "I" (.int (3 : Int32)) := (pf3.other W2 (Or.inr (slot_ne (Or.inl (ww hw 30 rfl)) (Or.inl (ww hw 38 rfl)) (by decide) (t := .int) (t' := .int) (by decide) (by decide))))
  refine Go.getfield (pc' := 39) (host := "") (Or.inl (ww hw 29 rfl)) Via.refl f5 d10_36 rfl ?_
  refine Go.iconst (pc' := 40) (v := (1 : Int32)) d10_39 rfl rfl ?_
  refine Go.isub (pc' := 41) d10_40 rfl ?_
  show Go _ _ _ _ _ _ _ _ _ _ _ _ 41 #[.val (.ref a), .val (.long d), .second] [(.int (2 : Int32)), (.ref a)]
  refine Go.putfield (pc' := 44) (host := "") (Or.inl (ww hw 29 rfl)) Via.refl f5 (x.wr W2) (Or.inl (ww hw 30 rfl)) (ww hw 2 rfl) (ty := .int) (by decide) rfl rfl ge_a d10_41 rfl ?_
  intro h6 W7
  have K8 : Keep h h6 [a] := K3.wr W7 (Or.inl (List.mem_of_getElem? (i := 0) rfl))
  have f9 := f5.same W7
  refine Go.aloadN (pc' := 45) d10_44 rfl rfl rfl ?_
  refine Go.dup (pc' := 46) d10_45 rfl rfl ?_
  have f10 : Fld Z h6 a "com/example/rens/rens/TimeRing" "first" "J" (.long f) := ((pf4.other W2 (Or.inr (slot_ne (Or.inl (ww hw 32 rfl)) (Or.inl (ww hw 38 rfl)) (by decide) (t := .long) (t' := .int) (by decide) (by decide)))).other W7 (Or.inr (slot_ne (Or.inl (ww hw 32 rfl)) (Or.inl (ww hw 30 rfl)) (by decide) (t := .long) (t' := .int) (by decide) (by decide))))
  refine Go.getfield (pc' := 49) (host := "") (Or.inl (ww hw 31 rfl)) Via.refl f10 d10_46 rfl ?_
  refine Go.lconst (pc' := 50) (v := (1 : Int64)) d10_49 rfl rfl ?_
  refine Go.ladd (pc' := 51) d10_50 rfl ?_
  refine Go.putfield (pc' := 54) (host := "") (Or.inl (ww hw 31 rfl)) Via.refl f10 ((x.wr W2).wr W7) (Or.inl (ww hw 32 rfl)) (ww hw 2 rfl) (ty := .long) (by decide) rfl rfl ge_a d10_51 rfl ?_
  intro h11 W12
  have K13 : Keep h h11 [a] := K8.wr W12 (Or.inl (List.mem_of_getElem? (i := 0) rfl))
  have f14 := f10.same W12
  refine Go.goto (pc' := 0) d10_54 (by decide) (by decide) ?_
  refine Go.aloadN (pc' := 1) d10_0 rfl rfl rfl ?_
  have f15 : Fld Z h11 a "com/example/rens/rens/TimeRing" "size" "I" (.int (2 : Int32)) := (f9.other W12 (Or.inr (slot_ne (Or.inl (ww hw 30 rfl)) (Or.inl (ww hw 32 rfl)) (by decide) (t := .int) (t' := .long) (by decide) (by decide))))
  refine Go.getfield (pc' := 4) (host := "") (Or.inl (ww hw 29 rfl)) Via.refl f15 d10_1 rfl ?_
  refine Go.ifNo (pc' := 7) d10_4 (XT.i0_le_f (by decide)) rfl ?_
  refine Go.aloadN (pc' := 8) d10_7 rfl rfl rfl ?_
  refine Go.getfield (pc' := 11) (host := "") (Or.inl (ww hw 31 rfl)) Via.refl f14 d10_8 rfl ?_
  refine Go.lloadN (pc' := 12) d10_11 rfl rfl ?_
  refine Go.lcmp (pc' := 13) d10_12 rfl ?_
  refine Go.ifNo (pc' := 16) d10_13 (XT.ll_ge_f g1) rfl ?_
  refine Go.aloadN (pc' := 17) d10_16 rfl rfl rfl ?_
  refine Go.aloadN (pc' := 18) d10_17 rfl rfl rfl ?_
  have f16 : Fld Z h11 a "com/example/rens/rens/TimeRing" "head" "I" (.int (1 : Int32)) := ((f4.other W7 (Or.inr (slot_ne (Or.inl (ww hw 38 rfl)) (Or.inl (ww hw 30 rfl)) (by decide) (t := .int) (t' := .int) (by decide) (by decide)))).other W12 (Or.inr (slot_ne (Or.inl (ww hw 38 rfl)) (Or.inl (ww hw 32 rfl)) (by decide) (t := .int) (t' := .long) (by decide) (by decide))))
  refine Go.getfield (pc' := 21) (host := "") (Or.inl (ww hw 37 rfl)) Via.refl f16 d10_18 rfl ?_
  refine Go.iconst (pc' := 22) (v := (1 : Int32)) d10_21 rfl rfl ?_
  refine Go.iadd (pc' := 23) d10_22 rfl ?_
  show Go _ _ _ _ _ _ _ _ _ _ _ _ 23 #[.val (.ref a), .val (.long d), .second] [(.int (2 : Int32)), (.ref a)]
  refine Go.aloadN (pc' := 24) d10_23 rfl rfl rfl ?_
  have f17 : Fld Z h11 a "com/example/rens/rens/TimeRing" "seconds" "[J" (.ref sa) := (((pf0.other W2 (Or.inr (slot_ne (Or.inl (ww hw 12 rfl)) (Or.inl (ww hw 38 rfl)) (by decide) (t := (.array .long)) (t' := .int) (by decide) (by decide)))).other W7 (Or.inr (slot_ne (Or.inl (ww hw 12 rfl)) (Or.inl (ww hw 30 rfl)) (by decide) (t := (.array .long)) (t' := .int) (by decide) (by decide)))).other W12 (Or.inr (slot_ne (Or.inl (ww hw 12 rfl)) (Or.inl (ww hw 32 rfl)) (by decide) (t := (.array .long)) (t' := .long) (by decide) (by decide))))
  refine Go.getfield (pc' := 27) (host := "") (Or.inl (ww hw 11 rfl)) Via.refl f17 d10_24 rfl ?_
  have f18 : Arv Z h11 sa ks .long (4 : Int32) [(.long 0), (.long 1), (.long 2), (.long 0)] (.long 0) := (((vs.other W2 (Ne.symm ne_a_sa)).other W7 (Ne.symm ne_a_sa)).other W12 (Ne.symm ne_a_sa))
  refine Go.arraylength (pc' := 28) f18 d10_27 rfl ?_
  refine Go.iconst (pc' := 29) (v := (1 : Int32)) d10_28 rfl rfl ?_
  refine Go.isub (pc' := 30) d10_29 rfl ?_
  show Go _ _ _ _ _ _ _ _ _ _ _ _ 30 #[.val (.ref a), .val (.long d), .second] [(.int (3 : Int32)), (.int (2 : Int32)), (.ref a)]
  refine Go.iand (pc' := 31) d10_30 rfl ?_
  show Go _ _ _ _ _ _ _ _ _ _ _ _ 31 #[.val (.ref a), .val (.long d), .second] [(.int (2 : Int32)), (.ref a)]
  refine Go.putfield (pc' := 34) (host := "") (Or.inl (ww hw 37 rfl)) Via.refl f16 (((x.wr W2).wr W7).wr W12) (Or.inl (ww hw 38 rfl)) (ww hw 2 rfl) (ty := .int) (by decide) rfl rfl ge_a d10_31 rfl ?_
  intro h19 W20
  have K21 : Keep h h19 [a] := K13.wr W20 (Or.inl (List.mem_of_getElem? (i := 0) rfl))
  have f22 := f16.same W20
  refine Go.aloadN (pc' := 35) d10_34 rfl rfl rfl ?_
  refine Go.dup (pc' := 36) d10_35 rfl rfl ?_
  have f23 : Fld Z h19 a "com/example/rens/rens/TimeRing" "size" "I" (.int (2 : Int32)) := (f15.other W20 (Or.inr (slot_ne (Or.inl (ww hw 30 rfl)) (Or.inl (ww hw 38 rfl)) (by decide) (t := .int) (t' := .int) (by decide) (by decide))))
  refine Go.getfield (pc' := 39) (host := "") (Or.inl (ww hw 29 rfl)) Via.refl f23 d10_36 rfl ?_
  refine Go.iconst (pc' := 40) (v := (1 : Int32)) d10_39 rfl rfl ?_
  refine Go.isub (pc' := 41) d10_40 rfl ?_
  show Go _ _ _ _ _ _ _ _ _ _ _ _ 41 #[.val (.ref a), .val (.long d), .second] [(.int (1 : Int32)), (.ref a)]
  refine Go.putfield (pc' := 44) (host := "") (Or.inl (ww hw 29 rfl)) Via.refl f23 ((((x.wr W2).wr W7).wr W12).wr W20) (Or.inl (ww hw 30 rfl)) (ww hw 2 rfl) (ty := .int) (by decide) rfl rfl ge_a d10_41 rfl ?_
  intro h24 W25
  have K26 : Keep h h24 [a] := K21.wr W25 (Or.inl (List.mem_of_getElem? (i := 0) rfl))
  have f27 := f23.same W25
  refine Go.aloadN (pc' := 45) d10_44 rfl rfl rfl ?_
  refine Go.dup (pc' := 46) d10_45 rfl rfl ?_
  have f28 : Fld Z h24 a "com/example/rens/rens/TimeRing" "first" "J" (.long (f + (1 : Int64))) := ((f14.other W20 (Or.inr (slot_ne (Or.inl (ww hw 32 rfl)) (Or.inl (ww hw 38 rfl)) (by decide) (t := .long) (t' := .int) (by decide) (by decide)))).other W25 (Or.inr (slot_ne (Or.inl (ww hw 32 rfl)) (Or.inl (ww hw 30 rfl)) (by decide) (t := .long) (t' := .int) (by decide) (by decide))))
  refine Go.getfield (pc' := 49) (host := "") (Or.inl (ww hw 31 rfl)) Via.refl f28 d10_46 rfl ?_
  refine Go.lconst (pc' := 50) (v := (1 : Int64)) d10_49 rfl rfl ?_
  refine Go.ladd (pc' := 51) d10_50 rfl ?_
  have f29 : Exa Z h24 a "com/example/rens/rens/TimeRing" := (((((x.wr W2).wr W7).wr W12).wr W20).wr W25)
  refine Go.putfield (pc' := 54) (host := "") (Or.inl (ww hw 31 rfl)) Via.refl f28 f29 (Or.inl (ww hw 32 rfl)) (ww hw 2 rfl) (ty := .long) (by decide) rfl rfl ge_a d10_51 rfl ?_
  intro h30 W31
  have K32 : Keep h h30 [a] := K26.wr W31 (Or.inl (List.mem_of_getElem? (i := 0) rfl))
  have f33 := f28.same W31
  refine Go.goto (pc' := 0) d10_54 (by decide) (by decide) ?_
  refine Go.aloadN (pc' := 1) d10_0 rfl rfl rfl ?_
  have f34 : Fld Z h30 a "com/example/rens/rens/TimeRing" "size" "I" (.int (1 : Int32)) := (f27.other W31 (Or.inr (slot_ne (Or.inl (ww hw 30 rfl)) (Or.inl (ww hw 32 rfl)) (by decide) (t := .int) (t' := .long) (by decide) (by decide))))
  refine Go.getfield (pc' := 4) (host := "") (Or.inl (ww hw 29 rfl)) Via.refl f34 d10_1 rfl ?_
  refine Go.ifNo (pc' := 7) d10_4 (XT.i0_le_f (by decide)) rfl ?_
  refine Go.aloadN (pc' := 8) d10_7 rfl rfl rfl ?_
  refine Go.getfield (pc' := 11) (host := "") (Or.inl (ww hw 31 rfl)) Via.refl f33 d10_8 rfl ?_
  refine Go.lloadN (pc' := 12) d10_11 rfl rfl ?_
  refine Go.lcmp (pc' := 13) d10_12 rfl ?_
  refine Go.ifNo (pc' := 16) d10_13 (XT.ll_ge_f g2) rfl ?_
  refine Go.aloadN (pc' := 17) d10_16 rfl rfl rfl ?_
  refine Go.aloadN (pc' := 18) d10_17 rfl rfl rfl ?_
  have f35 : Fld Z h30 a "com/example/rens/rens/TimeRing" "head" "I" (.int (2 : Int32)) := ((f22.other W25 (Or.inr (slot_ne (Or.inl (ww hw 38 rfl)) (Or.inl (ww hw 30 rfl)) (by decide) (t := .int) (t' := .int) (by decide) (by decide)))).other W31 (Or.inr (slot_ne (Or.inl (ww hw 38 rfl)) (Or.inl (ww hw 32 rfl)) (by decide) (t := .int) (t' := .long) (by decide) (by decide))))
  refine Go.getfield (pc' := 21) (host := "") (Or.inl (ww hw 37 rfl)) Via.refl f35 d10_18 rfl ?_
  refine Go.iconst (pc' := 22) (v := (1 : Int32)) d10_21 rfl rfl ?_
  refine Go.iadd (pc' := 23) d10_22 rfl ?_
  show Go _ _ _ _ _ _ _ _ _ _ _ _ 23 #[.val (.ref a), .val (.long d), .second] [(.int (3 : Int32)), (.ref a)]
  refine Go.aloadN (pc' := 24) d10_23 rfl rfl rfl ?_
  have f36 : Fld Z h30 a "com/example/rens/rens/TimeRing" "seconds" "[J" (.ref sa) := (((f17.other W20 (Or.inr (slot_ne (Or.inl (ww hw 12 rfl)) (Or.inl (ww hw 38 rfl)) (by decide) (t := (.array .long)) (t' := .int) (by decide) (by decide)))).other W25 (Or.inr (slot_ne (Or.inl (ww hw 12 rfl)) (Or.inl (ww hw 30 rfl)) (by decide) (t := (.array .long)) (t' := .int) (by decide) (by decide)))).other W31 (Or.inr (slot_ne (Or.inl (ww hw 12 rfl)) (Or.inl (ww hw 32 rfl)) (by decide) (t := (.array .long)) (t' := .long) (by decide) (by decide))))
  refine Go.getfield (pc' := 27) (host := "") (Or.inl (ww hw 11 rfl)) Via.refl f36 d10_24 rfl ?_
  have f37 : Arv Z h30 sa ks .long (4 : Int32) [(.long 0), (.long 1), (.long 2), (.long 0)] (.long 0) := (((f18.other W20 (Ne.symm ne_a_sa)).other W25 (Ne.symm ne_a_sa)).other W31 (Ne.symm ne_a_sa))
  refine Go.arraylength (pc' := 28) f37 d10_27 rfl ?_
  refine Go.iconst (pc' := 29) (v := (1 : Int32)) d10_28 rfl rfl ?_
  refine Go.isub (pc' := 30) d10_29 rfl ?_
  show Go _ _ _ _ _ _ _ _ _ _ _ _ 30 #[.val (.ref a), .val (.long d), .second] [(.int (3 : Int32)), (.int (3 : Int32)), (.ref a)]
  refine Go.iand (pc' := 31) d10_30 rfl ?_
  show Go _ _ _ _ _ _ _ _ _ _ _ _ 31 #[.val (.ref a), .val (.long d), .second] [(.int (3 : Int32)), (.ref a)]
  refine Go.putfield (pc' := 34) (host := "") (Or.inl (ww hw 37 rfl)) Via.refl f35 (f29.wr W31) (Or.inl (ww hw 38 rfl)) (ww hw 2 rfl) (ty := .int) (by decide) rfl rfl ge_a d10_31 rfl ?_
  intro h38 W39
  have K40 : Keep h h38 [a] := K32.wr W39 (Or.inl (List.mem_of_getElem? (i := 0) rfl))
  have f41 := f35.same W39
  refine Go.aloadN (pc' := 35) d10_34 rfl rfl rfl ?_
  refine Go.dup (pc' := 36) d10_35 rfl rfl ?_
  have f42 : Fld Z h38 a "com/example/rens/rens/TimeRing" "size" "I" (.int (1 : Int32)) := (f34.other W39 (Or.inr (slot_ne (Or.inl (ww hw 30 rfl)) (Or.inl (ww hw 38 rfl)) (by decide) (t := .int) (t' := .int) (by decide) (by decide))))
  refine Go.getfield (pc' := 39) (host := "") (Or.inl (ww hw 29 rfl)) Via.refl f42 d10_36 rfl ?_
  refine Go.iconst (pc' := 40) (v := (1 : Int32)) d10_39 rfl rfl ?_
  refine Go.isub (pc' := 41) d10_40 rfl ?_
  show Go _ _ _ _ _ _ _ _ _ _ _ _ 41 #[.val (.ref a), .val (.long d), .second] [(.int (0 : Int32)), (.ref a)]
  refine Go.putfield (pc' := 44) (host := "") (Or.inl (ww hw 29 rfl)) Via.refl f42 ((f29.wr W31).wr W39) (Or.inl (ww hw 30 rfl)) (ww hw 2 rfl) (ty := .int) (by decide) rfl rfl ge_a d10_41 rfl ?_
  intro h43 W44
  have K45 : Keep h h43 [a] := K40.wr W44 (Or.inl (List.mem_of_getElem? (i := 0) rfl))
  have f46 := f42.same W44
  refine Go.aloadN (pc' := 45) d10_44 rfl rfl rfl ?_
  refine Go.dup (pc' := 46) d10_45 rfl rfl ?_
  have f47 : Fld Z h43 a "com/example/rens/rens/TimeRing" "first" "J" (.long ((f + (1 : Int64)) + (1 : Int64))) := ((f33.other W39 (Or.inr (slot_ne (Or.inl (ww hw 32 rfl)) (Or.inl (ww hw 38 rfl)) (by decide) (t := .long) (t' := .int) (by decide) (by decide)))).other W44 (Or.inr (slot_ne (Or.inl (ww hw 32 rfl)) (Or.inl (ww hw 30 rfl)) (by decide) (t := .long) (t' := .int) (by decide) (by decide))))
  refine Go.getfield (pc' := 49) (host := "") (Or.inl (ww hw 31 rfl)) Via.refl f47 d10_46 rfl ?_
  refine Go.lconst (pc' := 50) (v := (1 : Int64)) d10_49 rfl rfl ?_
  refine Go.ladd (pc' := 51) d10_50 rfl ?_
  refine Go.putfield (pc' := 54) (host := "") (Or.inl (ww hw 31 rfl)) Via.refl f47 (((f29.wr W31).wr W39).wr W44) (Or.inl (ww hw 32 rfl)) (ww hw 2 rfl) (ty := .long) (by decide) rfl rfl ge_a d10_51 rfl ?_
  intro h48 W49
  have K50 : Keep h h48 [a] := K45.wr W49 (Or.inl (List.mem_of_getElem? (i := 0) rfl))
  have f51 := f47.same W49
  refine Go.goto (pc' := 0) d10_54 (by decide) (by decide) ?_
  refine Go.aloadN (pc' := 1) d10_0 rfl rfl rfl ?_
  have f52 : Fld Z h48 a "com/example/rens/rens/TimeRing" "size" "I" (.int (0 : Int32)) := (f46.other W49 (Or.inr (slot_ne (Or.inl (ww hw 30 rfl)) (Or.inl (ww hw 32 rfl)) (by decide) (t := .int) (t' := .long) (by decide) (by decide))))
  refine Go.getfield (pc' := 4) (host := "") (Or.inl (ww hw 29 rfl)) Via.refl f52 d10_1 rfl ?_
  refine Go.ifYes (pc' := 57) d10_4 (XT.i0_le_t (by decide)) (by decide) (by decide) ?_
  have f53 : Fld Z h48 a "com/example/rens/rens/TimeRing" "seconds" "[J" (.ref sa) := (((f36.other W39 (Or.inr (slot_ne (Or.inl (ww hw 12 rfl)) (Or.inl (ww hw 38 rfl)) (by decide) (t := (.array .long)) (t' := .int) (by decide) (by decide)))).other W44 (Or.inr (slot_ne (Or.inl (ww hw 12 rfl)) (Or.inl (ww hw 30 rfl)) (by decide) (t := (.array .long)) (t' := .int) (by decide) (by decide)))).other W49 (Or.inr (slot_ne (Or.inl (ww hw 12 rfl)) (Or.inl (ww hw 32 rfl)) (by decide) (t := (.array .long)) (t' := .long) (by decide) (by decide))))
  have f54 : Fld Z h48 a "com/example/rens/rens/TimeRing" "nanos" "[I" (.ref na) := (((((((((pf1.other W2 (Or.inr (slot_ne (Or.inl (ww hw 15 rfl)) (Or.inl (ww hw 38 rfl)) (by decide) (t := (.array .int)) (t' := .int) (by decide) (by decide)))).other W7 (Or.inr (slot_ne (Or.inl (ww hw 15 rfl)) (Or.inl (ww hw 30 rfl)) (by decide) (t := (.array .int)) (t' := .int) (by decide) (by decide)))).other W12 (Or.inr (slot_ne (Or.inl (ww hw 15 rfl)) (Or.inl (ww hw 32 rfl)) (by decide) (t := (.array .int)) (t' := .long) (by decide) (by decide)))).other W20 (Or.inr (slot_ne (Or.inl (ww hw 15 rfl)) (Or.inl (ww hw 38 rfl)) (by decide) (t := (.array .int)) (t' := .int) (by decide) (by decide)))).other W25 (Or.inr (slot_ne (Or.inl (ww hw 15 rfl)) (Or.inl (ww hw 30 rfl)) (by decide) (t := (.array .int)) (t' := .int) (by decide) (by decide)))).other W31 (Or.inr (slot_ne (Or.inl (ww hw 15 rfl)) (Or.inl (ww hw 32 rfl)) (by decide) (t := (.array .int)) (t' := .long) (by decide) (by decide)))).other W39 (Or.inr (slot_ne (Or.inl (ww hw 15 rfl)) (Or.inl (ww hw 38 rfl)) (by decide) (t := (.array .int)) (t' := .int) (by decide) (by decide)))).other W44 (Or.inr (slot_ne (Or.inl (ww hw 15 rfl)) (Or.inl (ww hw 30 rfl)) (by decide) (t := (.array .int)) (t' := .int) (by decide) (by decide)))).other W49 (Or.inr (slot_ne (Or.inl (ww hw 15 rfl)) (Or.inl (ww hw 32 rfl)) (by decide) (t := (.array .int)) (t' := .long) (by decide) (by decide))))
  have f55 : Fld Z h48 a "com/example/rens/rens/TimeRing" "head" "I" (.int (3 : Int32)) := ((f41.other W44 (Or.inr (slot_ne (Or.inl (ww hw 38 rfl)) (Or.inl (ww hw 30 rfl)) (by decide) (t := .int) (t' := .int) (by decide) (by decide)))).other W49 (Or.inr (slot_ne (Or.inl (ww hw 38 rfl)) (Or.inl (ww hw 32 rfl)) (by decide) (t := .int) (t' := .long) (by decide) (by decide))))
  exact Go.retV rfl d10_57 ⟨rfl, K50, f53, f54, f55, f52, f51⟩ (by decide) (by decide)
set_option maxRecDepth 65536 in
set_option maxHeartbeats 4000000 in
theorem c_drop4_0 (l : Launch) (Z : State) (a0 : Array Value) (hw : ∀ d ∈ tables_1, d.before a0 Z = true) {n0 : Nat} (h : Heap) (a : Addr) (sa : Addr) (ks : ClassId) (na : Addr) (f : Int64) (d : Int64) (gk : ¬ (f < d)) (ge_a : n0 ≤ a) (ne_a_sa : a ≠ sa) (x : Exa Z h a "com/example/rens/rens/TimeRing") (pf0 : Fld Z h a "com/example/rens/rens/TimeRing" "seconds" "[J" (.ref sa)) (pf1 : Fld Z h a "com/example/rens/rens/TimeRing" "nanos" "[I" (.ref na)) (pf2 : Fld Z h a "com/example/rens/rens/TimeRing" "head" "I" (.int (0 : Int32))) (pf3 : Fld Z h a "com/example/rens/rens/TimeRing" "size" "I" (.int (4 : Int32))) (pf4 : Fld Z h a "com/example/rens/rens/TimeRing" "first" "J" (.long f)) (vs : Arv Z h sa ks .long (4 : Int32) [(.long 0), (.long 1), (.long 2), (.long 3)] (.long 0)) :
    Con l (⟨"com/example/rens/rens/TimeRing", "dropBefore", "(J)V"⟩ : MethodName) prog_22_method_7_code 3 none ({ frames := 0, cells := 0, slots := 0, locals := 0 } : Room) Z n0 #[(.ref a), (.long d)] h (fun v h' => v = none ∧ Keep h h' [a] ∧ Fld Z h' a "com/example/rens/rens/TimeRing" "seconds" "[J" (.ref sa) ∧ Fld Z h' a "com/example/rens/rens/TimeRing" "nanos" "[I" (.ref na) ∧ Fld Z h' a "com/example/rens/rens/TimeRing" "head" "I" (.int (0 : Int32)) ∧ Fld Z h' a "com/example/rens/rens/TimeRing" "size" "I" (.int (4 : Int32)) ∧ Fld Z h' a "com/example/rens/rens/TimeRing" "first" "J" (.long f)) := by
  refine Con.of_go (plainFor_of_name pn_1) (Ls := #[.val (.ref a), .val (.long d), .second]) (fun m => by first | (simp [entryFrame, mkF, argsToLocals, Value.category]; done) | rfl) ?_
  refine Go.aloadN (pc' := 1) d10_0 rfl rfl rfl ?_
  refine Go.getfield (pc' := 4) (host := "") (Or.inl (ww hw 29 rfl)) Via.refl pf3 d10_1 rfl ?_
  refine Go.ifNo (pc' := 7) d10_4 (XT.i0_le_f (by decide)) rfl ?_
  refine Go.aloadN (pc' := 8) d10_7 rfl rfl rfl ?_
  refine Go.getfield (pc' := 11) (host := "") (Or.inl (ww hw 31 rfl)) Via.refl pf4 d10_8 rfl ?_
  refine Go.lloadN (pc' := 12) d10_11 rfl rfl ?_
  refine Go.lcmp (pc' := 13) d10_12 rfl ?_
  refine Go.ifYes (pc' := 57) d10_13 (XT.ll_ge_t gk) (by decide) (by decide) ?_
  exact Go.retV rfl d10_57 ⟨rfl, (Keep.refl h [a]), pf0, pf1, pf2, pf3, pf4⟩ (by decide) (by decide)
set_option maxRecDepth 65536 in
set_option maxHeartbeats 4000000 in
theorem c_drop4_1 (l : Launch) (Z : State) (a0 : Array Value) (hw : ∀ d ∈ tables_1, d.before a0 Z = true) {n0 : Nat} (h : Heap) (a : Addr) (sa : Addr) (ks : ClassId) (na : Addr) (f : Int64) (d : Int64) (g0 : f < d) (gk : ¬ ((f + (1 : Int64)) < d)) (ge_a : n0 ≤ a) (ne_a_sa : a ≠ sa) (x : Exa Z h a "com/example/rens/rens/TimeRing") (pf0 : Fld Z h a "com/example/rens/rens/TimeRing" "seconds" "[J" (.ref sa)) (pf1 : Fld Z h a "com/example/rens/rens/TimeRing" "nanos" "[I" (.ref na)) (pf2 : Fld Z h a "com/example/rens/rens/TimeRing" "head" "I" (.int (0 : Int32))) (pf3 : Fld Z h a "com/example/rens/rens/TimeRing" "size" "I" (.int (4 : Int32))) (pf4 : Fld Z h a "com/example/rens/rens/TimeRing" "first" "J" (.long f)) (vs : Arv Z h sa ks .long (4 : Int32) [(.long 0), (.long 1), (.long 2), (.long 3)] (.long 0)) :
    Con l (⟨"com/example/rens/rens/TimeRing", "dropBefore", "(J)V"⟩ : MethodName) prog_22_method_7_code 3 none ({ frames := 0, cells := 0, slots := 0, locals := 0 } : Room) Z n0 #[(.ref a), (.long d)] h (fun v h' => v = none ∧ Keep h h' [a] ∧ Fld Z h' a "com/example/rens/rens/TimeRing" "seconds" "[J" (.ref sa) ∧ Fld Z h' a "com/example/rens/rens/TimeRing" "nanos" "[I" (.ref na) ∧ Fld Z h' a "com/example/rens/rens/TimeRing" "head" "I" (.int (1 : Int32)) ∧ Fld Z h' a "com/example/rens/rens/TimeRing" "size" "I" (.int (3 : Int32)) ∧ Fld Z h' a "com/example/rens/rens/TimeRing" "first" "J" (.long (f + (1 : Int64)))) := by
  refine Con.of_go (plainFor_of_name pn_1) (Ls := #[.val (.ref a), .val (.long d), .second]) (fun m => by first | (simp [entryFrame, mkF, argsToLocals, Value.category]; done) | rfl) ?_
  refine Go.aloadN (pc' := 1) d10_0 rfl rfl rfl ?_
  refine Go.getfield (pc' := 4) (host := "") (Or.inl (ww hw 29 rfl)) Via.refl pf3 d10_1 rfl ?_
  refine Go.ifNo (pc' := 7) d10_4 (XT.i0_le_f (by decide)) rfl ?_
  refine Go.aloadN (pc' := 8) d10_7 rfl rfl rfl ?_
  refine Go.getfield (pc' := 11) (host := "") (Or.inl (ww hw 31 rfl)) Via.refl pf4 d10_8 rfl ?_
  refine Go.lloadN (pc' := 12) d10_11 rfl rfl ?_
  refine Go.lcmp (pc' := 13) d10_12 rfl ?_
  refine Go.ifNo (pc' := 16) d10_13 (XT.ll_ge_f g0) rfl ?_
  refine Go.aloadN (pc' := 17) d10_16 rfl rfl rfl ?_
  refine Go.aloadN (pc' := 18) d10_17 rfl rfl rfl ?_
  refine Go.getfield (pc' := 21) (host := "") (Or.inl (ww hw 37 rfl)) Via.refl pf2 d10_18 rfl ?_
  refine Go.iconst (pc' := 22) (v := (1 : Int32)) d10_21 rfl rfl ?_
  refine Go.iadd (pc' := 23) d10_22 rfl ?_
  show Go _ _ _ _ _ _ _ _ _ _ _ _ 23 #[.val (.ref a), .val (.long d), .second] [(.int (1 : Int32)), (.ref a)]
  refine Go.aloadN (pc' := 24) d10_23 rfl rfl rfl ?_
  refine Go.getfield (pc' := 27) (host := "") (Or.inl (ww hw 11 rfl)) Via.refl pf0 d10_24 rfl ?_
  refine Go.arraylength (pc' := 28) vs d10_27 rfl ?_
  refine Go.iconst (pc' := 29) (v := (1 : Int32)) d10_28 rfl rfl ?_
  refine Go.isub (pc' := 30) d10_29 rfl ?_
  show Go _ _ _ _ _ _ _ _ _ _ _ _ 30 #[.val (.ref a), .val (.long d), .second] [(.int (3 : Int32)), (.int (1 : Int32)), (.ref a)]
  refine Go.iand (pc' := 31) d10_30 rfl ?_
  show Go _ _ _ _ _ _ _ _ _ _ _ _ 31 #[.val (.ref a), .val (.long d), .second] [(.int (1 : Int32)), (.ref a)]
  refine Go.putfield (pc' := 34) (host := "") (Or.inl (ww hw 37 rfl)) Via.refl pf2 x (Or.inl (ww hw 38 rfl)) (ww hw 2 rfl) (ty := .int) (by decide) rfl rfl ge_a d10_31 rfl ?_
  intro h1 W2
  have K3 : Keep h h1 [a] := (Keep.refl h [a]).wr W2 (Or.inl (List.mem_of_getElem? (i := 0) rfl))
  have f4 := pf2.same W2
  refine Go.aloadN (pc' := 35) d10_34 rfl rfl rfl ?_
  refine Go.dup (pc' := 36) d10_35 rfl rfl ?_
  have f5 : Fld Z h1 a "com/example/rens/rens/TimeRing" "size" "I" (.int (4 : Int32)) := (pf3.other W2 (Or.inr (slot_ne (Or.inl (ww hw 30 rfl)) (Or.inl (ww hw 38 rfl)) (by decide) (t := .int) (t' := .int) (by decide) (by decide))))
  refine Go.getfield (pc' := 39) (host := "") (Or.inl (ww hw 29 rfl)) Via.refl f5 d10_36 rfl ?_
  refine Go.iconst (pc' := 40) (v := (1 : Int32)) d10_39 rfl rfl ?_
  refine Go.isub (pc' := 41) d10_40 rfl ?_
  show Go _ _ _ _ _ _ _ _ _ _ _ _ 41 #[.val (.ref a), .val (.long d), .second] [(.int (3 : Int32)), (.ref a)]
  refine Go.putfield (pc' := 44) (host := "") (Or.inl (ww hw 29 rfl)) Via.refl f5 (x.wr W2) (Or.inl (ww hw 30 rfl)) (ww hw 2 rfl) (ty := .int) (by decide) rfl rfl ge_a d10_41 rfl ?_
  intro h6 W7
  have K8 : Keep h h6 [a] := K3.wr W7 (Or.inl (List.mem_of_getElem? (i := 0) rfl))
  have f9 := f5.same W7
  refine Go.aloadN (pc' := 45) d10_44 rfl rfl rfl ?_
  refine Go.dup (pc' := 46) d10_45 rfl rfl ?_
  have f10 : Fld Z h6 a "com/example/rens/rens/TimeRing" "first" "J" (.long f) := ((pf4.other W2 (Or.inr (slot_ne (Or.inl (ww hw 32 rfl)) (Or.inl (ww hw 38 rfl)) (by decide) (t := .long) (t' := .int) (by decide) (by decide)))).other W7 (Or.inr (slot_ne (Or.inl (ww hw 32 rfl)) (Or.inl (ww hw 30 rfl)) (by decide) (t := .long) (t' := .int) (by decide) (by decide))))
  refine Go.getfield (pc' := 49) (host := "") (Or.inl (ww hw 31 rfl)) Via.refl f10 d10_46 rfl ?_
  refine Go.lconst (pc' := 50) (v := (1 : Int64)) d10_49 rfl rfl ?_
  refine Go.ladd (pc' := 51) d10_50 rfl ?_
  refine Go.putfield (pc' := 54) (host := "") (Or.inl (ww hw 31 rfl)) Via.refl f10 ((x.wr W2).wr W7) (Or.inl (ww hw 32 rfl)) (ww hw 2 rfl) (ty := .long) (by decide) rfl rfl ge_a d10_51 rfl ?_
  intro h11 W12
  have K13 : Keep h h11 [a] := K8.wr W12 (Or.inl (List.mem_of_getElem? (i := 0) rfl))
  have f14 := f10.same W12
  refine Go.goto (pc' := 0) d10_54 (by decide) (by decide) ?_
  refine Go.aloadN (pc' := 1) d10_0 rfl rfl rfl ?_
  have f15 : Fld Z h11 a "com/example/rens/rens/TimeRing" "size" "I" (.int (3 : Int32)) := (f9.other W12 (Or.inr (slot_ne (Or.inl (ww hw 30 rfl)) (Or.inl (ww hw 32 rfl)) (by decide) (t := .int) (t' := .long) (by decide) (by decide))))
  refine Go.getfield (pc' := 4) (host := "") (Or.inl (ww hw 29 rfl)) Via.refl f15 d10_1 rfl ?_
  refine Go.ifNo (pc' := 7) d10_4 (XT.i0_le_f (by decide)) rfl ?_
  refine Go.aloadN (pc' := 8) d10_7 rfl rfl rfl ?_
  refine Go.getfield (pc' := 11) (host := "") (Or.inl (ww hw 31 rfl)) Via.refl f14 d10_8 rfl ?_
  refine Go.lloadN (pc' := 12) d10_11 rfl rfl ?_
  refine Go.lcmp (pc' := 13) d10_12 rfl ?_
  refine Go.ifYes (pc' := 57) d10_13 (XT.ll_ge_t gk) (by decide) (by decide) ?_
  have f16 : Fld Z h11 a "com/example/rens/rens/TimeRing" "seconds" "[J" (.ref sa) := (((pf0.other W2 (Or.inr (slot_ne (Or.inl (ww hw 12 rfl)) (Or.inl (ww hw 38 rfl)) (by decide) (t := (.array .long)) (t' := .int) (by decide) (by decide)))).other W7 (Or.inr (slot_ne (Or.inl (ww hw 12 rfl)) (Or.inl (ww hw 30 rfl)) (by decide) (t := (.array .long)) (t' := .int) (by decide) (by decide)))).other W12 (Or.inr (slot_ne (Or.inl (ww hw 12 rfl)) (Or.inl (ww hw 32 rfl)) (by decide) (t := (.array .long)) (t' := .long) (by decide) (by decide))))
  have f17 : Fld Z h11 a "com/example/rens/rens/TimeRing" "nanos" "[I" (.ref na) := (((pf1.other W2 (Or.inr (slot_ne (Or.inl (ww hw 15 rfl)) (Or.inl (ww hw 38 rfl)) (by decide) (t := (.array .int)) (t' := .int) (by decide) (by decide)))).other W7 (Or.inr (slot_ne (Or.inl (ww hw 15 rfl)) (Or.inl (ww hw 30 rfl)) (by decide) (t := (.array .int)) (t' := .int) (by decide) (by decide)))).other W12 (Or.inr (slot_ne (Or.inl (ww hw 15 rfl)) (Or.inl (ww hw 32 rfl)) (by decide) (t := (.array .int)) (t' := .long) (by decide) (by decide))))
  have f18 : Fld Z h11 a "com/example/rens/rens/TimeRing" "head" "I" (.int (1 : Int32)) := ((f4.other W7 (Or.inr (slot_ne (Or.inl (ww hw 38 rfl)) (Or.inl (ww hw 30 rfl)) (by decide) (t := .int) (t' := .int) (by decide) (by decide)))).other W12 (Or.inr (slot_ne (Or.inl (ww hw 38 rfl)) (Or.inl (ww hw 32 rfl)) (by decide) (t := .int) (t' := .long) (by decide) (by decide))))
  exact Go.retV rfl d10_57 ⟨rfl, K13, f16, f17, f18, f15, f14⟩ (by decide) (by decide)
set_option maxRecDepth 65536 in
set_option maxHeartbeats 4000000 in
theorem c_drop4_2 (l : Launch) (Z : State) (a0 : Array Value) (hw : ∀ d ∈ tables_1, d.before a0 Z = true) {n0 : Nat} (h : Heap) (a : Addr) (sa : Addr) (ks : ClassId) (na : Addr) (f : Int64) (d : Int64) (g0 : f < d) (g1 : (f + (1 : Int64)) < d) (gk : ¬ (((f + (1 : Int64)) + (1 : Int64)) < d)) (ge_a : n0 ≤ a) (ne_a_sa : a ≠ sa) (x : Exa Z h a "com/example/rens/rens/TimeRing") (pf0 : Fld Z h a "com/example/rens/rens/TimeRing" "seconds" "[J" (.ref sa)) (pf1 : Fld Z h a "com/example/rens/rens/TimeRing" "nanos" "[I" (.ref na)) (pf2 : Fld Z h a "com/example/rens/rens/TimeRing" "head" "I" (.int (0 : Int32))) (pf3 : Fld Z h a "com/example/rens/rens/TimeRing" "size" "I" (.int (4 : Int32))) (pf4 : Fld Z h a "com/example/rens/rens/TimeRing" "first" "J" (.long f)) (vs : Arv Z h sa ks .long (4 : Int32) [(.long 0), (.long 1), (.long 2), (.long 3)] (.long 0)) :
    Con l (⟨"com/example/rens/rens/TimeRing", "dropBefore", "(J)V"⟩ : MethodName) prog_22_method_7_code 3 none ({ frames := 0, cells := 0, slots := 0, locals := 0 } : Room) Z n0 #[(.ref a), (.long d)] h (fun v h' => v = none ∧ Keep h h' [a] ∧ Fld Z h' a "com/example/rens/rens/TimeRing" "seconds" "[J" (.ref sa) ∧ Fld Z h' a "com/example/rens/rens/TimeRing" "nanos" "[I" (.ref na) ∧ Fld Z h' a "com/example/rens/rens/TimeRing" "head" "I" (.int (2 : Int32)) ∧ Fld Z h' a "com/example/rens/rens/TimeRing" "size" "I" (.int (2 : Int32)) ∧ Fld Z h' a "com/example/rens/rens/TimeRing" "first" "J" (.long ((f + (1 : Int64)) + (1 : Int64)))) := by
  refine Con.of_go (plainFor_of_name pn_1) (Ls := #[.val (.ref a), .val (.long d), .second]) (fun m => by first | (simp [entryFrame, mkF, argsToLocals, Value.category]; done) | rfl) ?_
  refine Go.aloadN (pc' := 1) d10_0 rfl rfl rfl ?_
  refine Go.getfield (pc' := 4) (host := "") (Or.inl (ww hw 29 rfl)) Via.refl pf3 d10_1 rfl ?_
  refine Go.ifNo (pc' := 7) d10_4 (XT.i0_le_f (by decide)) rfl ?_
  refine Go.aloadN (pc' := 8) d10_7 rfl rfl rfl ?_
  refine Go.getfield (pc' := 11) (host := "") (Or.inl (ww hw 31 rfl)) Via.refl pf4 d10_8 rfl ?_
  refine Go.lloadN (pc' := 12) d10_11 rfl rfl ?_
  refine Go.lcmp (pc' := 13) d10_12 rfl ?_
  refine Go.ifNo (pc' := 16) d10_13 (XT.ll_ge_f g0) rfl ?_
  refine Go.aloadN (pc' := 17) d10_16 rfl rfl rfl ?_
  refine Go.aloadN (pc' := 18) d10_17 rfl rfl rfl ?_
  refine Go.getfield (pc' := 21) (host := "") (Or.inl (ww hw 37 rfl)) Via.refl pf2 d10_18 rfl ?_
  refine Go.iconst (pc' := 22) (v := (1 : Int32)) d10_21 rfl rfl ?_
  refine Go.iadd (pc' := 23) d10_22 rfl ?_
  show Go _ _ _ _ _ _ _ _ _ _ _ _ 23 #[.val (.ref a), .val (.long d), .second] [(.int (1 : Int32)), (.ref a)]
  refine Go.aloadN (pc' := 24) d10_23 rfl rfl rfl ?_
  refine Go.getfield (pc' := 27) (host := "") (Or.inl (ww hw 11 rfl)) Via.refl pf0 d10_24 rfl ?_
  refine Go.arraylength (pc' := 28) vs d10_27 rfl ?_
  refine Go.iconst (pc' := 29) (v := (1 : Int32)) d10_28 rfl rfl ?_
  refine Go.isub (pc' := 30) d10_29 rfl ?_
  show Go _ _ _ _ _ _ _ _ _ _ _ _ 30 #[.val (.ref a), .val (.long d), .second] [(.int (3 : Int32)), (.int (1 : Int32)), (.ref a)]
  refine Go.iand (pc' := 31) d10_30 rfl ?_
  show Go _ _ _ _ _ _ _ _ _ _ _ _ 31 #[.val (.ref a), .val (.long d), .second] [(.int (1 : Int32)), (.ref a)]
  refine Go.putfield (pc' := 34) (host := "") (Or.inl (ww hw 37 rfl)) Via.refl pf2 x (Or.inl (ww hw 38 rfl)) (ww hw 2 rfl) (ty := .int) (by decide) rfl rfl ge_a d10_31 rfl ?_
  intro h1 W2
  have K3 : Keep h h1 [a] := (Keep.refl h [a]).wr W2 (Or.inl (List.mem_of_getElem? (i := 0) rfl))
  have f4 := pf2.same W2
  refine Go.aloadN (pc' := 35) d10_34 rfl rfl rfl ?_
  refine Go.dup (pc' := 36) d10_35 rfl rfl ?_
  have f5 : Fld Z h1 a "com/example/rens/rens/TimeRing" "size" "I" (.int (4 : Int32)) := (pf3.other W2 (Or.inr (slot_ne (Or.inl (ww hw 30 rfl)) (Or.inl (ww hw 38 rfl)) (by decide) (t := .int) (t' := .int) (by decide) (by decide))))
  refine Go.getfield (pc' := 39) (host := "") (Or.inl (ww hw 29 rfl)) Via.refl f5 d10_36 rfl ?_
  refine Go.iconst (pc' := 40) (v := (1 : Int32)) d10_39 rfl rfl ?_
  refine Go.isub (pc' := 41) d10_40 rfl ?_
  show Go _ _ _ _ _ _ _ _ _ _ _ _ 41 #[.val (.ref a), .val (.long d), .second] [(.int (3 : Int32)), (.ref a)]
  refine Go.putfield (pc' := 44) (host := "") (Or.inl (ww hw 29 rfl)) Via.refl f5 (x.wr W2) (Or.inl (ww hw 30 rfl)) (ww hw 2 rfl) (ty := .int) (by decide) rfl rfl ge_a d10_41 rfl ?_
  intro h6 W7
  have K8 : Keep h h6 [a] := K3.wr W7 (Or.inl (List.mem_of_getElem? (i := 0) rfl))
  have f9 := f5.same W7
  refine Go.aloadN (pc' := 45) d10_44 rfl rfl rfl ?_
  refine Go.dup (pc' := 46) d10_45 rfl rfl ?_
  have f10 : Fld Z h6 a "com/example/rens/rens/TimeRing" "first" "J" (.long f) := ((pf4.other W2 (Or.inr (slot_ne (Or.inl (ww hw 32 rfl)) (Or.inl (ww hw 38 rfl)) (by decide) (t := .long) (t' := .int) (by decide) (by decide)))).other W7 (Or.inr (slot_ne (Or.inl (ww hw 32 rfl)) (Or.inl (ww hw 30 rfl)) (by decide) (t := .long) (t' := .int) (by decide) (by decide))))
  refine Go.getfield (pc' := 49) (host := "") (Or.inl (ww hw 31 rfl)) Via.refl f10 d10_46 rfl ?_
  refine Go.lconst (pc' := 50) (v := (1 : Int64)) d10_49 rfl rfl ?_
  refine Go.ladd (pc' := 51) d10_50 rfl ?_
  refine Go.putfield (pc' := 54) (host := "") (Or.inl (ww hw 31 rfl)) Via.refl f10 ((x.wr W2).wr W7) (Or.inl (ww hw 32 rfl)) (ww hw 2 rfl) (ty := .long) (by decide) rfl rfl ge_a d10_51 rfl ?_
  intro h11 W12
  have K13 : Keep h h11 [a] := K8.wr W12 (Or.inl (List.mem_of_getElem? (i := 0) rfl))
  have f14 := f10.same W12
  refine Go.goto (pc' := 0) d10_54 (by decide) (by decide) ?_
  refine Go.aloadN (pc' := 1) d10_0 rfl rfl rfl ?_
  have f15 : Fld Z h11 a "com/example/rens/rens/TimeRing" "size" "I" (.int (3 : Int32)) := (f9.other W12 (Or.inr (slot_ne (Or.inl (ww hw 30 rfl)) (Or.inl (ww hw 32 rfl)) (by decide) (t := .int) (t' := .long) (by decide) (by decide))))
  refine Go.getfield (pc' := 4) (host := "") (Or.inl (ww hw 29 rfl)) Via.refl f15 d10_1 rfl ?_
  refine Go.ifNo (pc' := 7) d10_4 (XT.i0_le_f (by decide)) rfl ?_
  refine Go.aloadN (pc' := 8) d10_7 rfl rfl rfl ?_
  refine Go.getfield (pc' := 11) (host := "") (Or.inl (ww hw 31 rfl)) Via.refl f14 d10_8 rfl ?_
  refine Go.lloadN (pc' := 12) d10_11 rfl rfl ?_
  refine Go.lcmp (pc' := 13) d10_12 rfl ?_
  refine Go.ifNo (pc' := 16) d10_13 (XT.ll_ge_f g1) rfl ?_
  refine Go.aloadN (pc' := 17) d10_16 rfl rfl rfl ?_
  refine Go.aloadN (pc' := 18) d10_17 rfl rfl rfl ?_
  have f16 : Fld Z h11 a "com/example/rens/rens/TimeRing" "head" "I" (.int (1 : Int32)) := ((f4.other W7 (Or.inr (slot_ne (Or.inl (ww hw 38 rfl)) (Or.inl (ww hw 30 rfl)) (by decide) (t := .int) (t' := .int) (by decide) (by decide)))).other W12 (Or.inr (slot_ne (Or.inl (ww hw 38 rfl)) (Or.inl (ww hw 32 rfl)) (by decide) (t := .int) (t' := .long) (by decide) (by decide))))
  refine Go.getfield (pc' := 21) (host := "") (Or.inl (ww hw 37 rfl)) Via.refl f16 d10_18 rfl ?_
  refine Go.iconst (pc' := 22) (v := (1 : Int32)) d10_21 rfl rfl ?_
  refine Go.iadd (pc' := 23) d10_22 rfl ?_
  show Go _ _ _ _ _ _ _ _ _ _ _ _ 23 #[.val (.ref a), .val (.long d), .second] [(.int (2 : Int32)), (.ref a)]
  refine Go.aloadN (pc' := 24) d10_23 rfl rfl rfl ?_
  have f17 : Fld Z h11 a "com/example/rens/rens/TimeRing" "seconds" "[J" (.ref sa) := (((pf0.other W2 (Or.inr (slot_ne (Or.inl (ww hw 12 rfl)) (Or.inl (ww hw 38 rfl)) (by decide) (t := (.array .long)) (t' := .int) (by decide) (by decide)))).other W7 (Or.inr (slot_ne (Or.inl (ww hw 12 rfl)) (Or.inl (ww hw 30 rfl)) (by decide) (t := (.array .long)) (t' := .int) (by decide) (by decide)))).other W12 (Or.inr (slot_ne (Or.inl (ww hw 12 rfl)) (Or.inl (ww hw 32 rfl)) (by decide) (t := (.array .long)) (t' := .long) (by decide) (by decide))))
  refine Go.getfield (pc' := 27) (host := "") (Or.inl (ww hw 11 rfl)) Via.refl f17 d10_24 rfl ?_
  have f18 : Arv Z h11 sa ks .long (4 : Int32) [(.long 0), (.long 1), (.long 2), (.long 3)] (.long 0) := (((vs.other W2 (Ne.symm ne_a_sa)).other W7 (Ne.symm ne_a_sa)).other W12 (Ne.symm ne_a_sa))
  refine Go.arraylength (pc' := 28) f18 d10_27 rfl ?_
  refine Go.iconst (pc' := 29) (v := (1 : Int32)) d10_28 rfl rfl ?_
  refine Go.isub (pc' := 30) d10_29 rfl ?_
  show Go _ _ _ _ _ _ _ _ _ _ _ _ 30 #[.val (.ref a), .val (.long d), .second] [(.int (3 : Int32)), (.int (2 : Int32)), (.ref a)]
  refine Go.iand (pc' := 31) d10_30 rfl ?_
  show Go _ _ _ _ _ _ _ _ _ _ _ _ 31 #[.val (.ref a), .val (.long d), .second] [(.int (2 : Int32)), (.ref a)]
  refine Go.putfield (pc' := 34) (host := "") (Or.inl (ww hw 37 rfl)) Via.refl f16 (((x.wr W2).wr W7).wr W12) (Or.inl (ww hw 38 rfl)) (ww hw 2 rfl) (ty := .int) (by decide) rfl rfl ge_a d10_31 rfl ?_
  intro h19 W20
  have K21 : Keep h h19 [a] := K13.wr W20 (Or.inl (List.mem_of_getElem? (i := 0) rfl))
  have f22 := f16.same W20
  refine Go.aloadN (pc' := 35) d10_34 rfl rfl rfl ?_
  refine Go.dup (pc' := 36) d10_35 rfl rfl ?_
  have f23 : Fld Z h19 a "com/example/rens/rens/TimeRing" "size" "I" (.int (3 : Int32)) := (f15.other W20 (Or.inr (slot_ne (Or.inl (ww hw 30 rfl)) (Or.inl (ww hw 38 rfl)) (by decide) (t := .int) (t' := .int) (by decide) (by decide))))
  refine Go.getfield (pc' := 39) (host := "") (Or.inl (ww hw 29 rfl)) Via.refl f23 d10_36 rfl ?_
  refine Go.iconst (pc' := 40) (v := (1 : Int32)) d10_39 rfl rfl ?_
  refine Go.isub (pc' := 41) d10_40 rfl ?_
  show Go _ _ _ _ _ _ _ _ _ _ _ _ 41 #[.val (.ref a), .val (.long d), .second] [(.int (2 : Int32)), (.ref a)]
  refine Go.putfield (pc' := 44) (host := "") (Or.inl (ww hw 29 rfl)) Via.refl f23 ((((x.wr W2).wr W7).wr W12).wr W20) (Or.inl (ww hw 30 rfl)) (ww hw 2 rfl) (ty := .int) (by decide) rfl rfl ge_a d10_41 rfl ?_
  intro h24 W25
  have K26 : Keep h h24 [a] := K21.wr W25 (Or.inl (List.mem_of_getElem? (i := 0) rfl))
  have f27 := f23.same W25
  refine Go.aloadN (pc' := 45) d10_44 rfl rfl rfl ?_
  refine Go.dup (pc' := 46) d10_45 rfl rfl ?_
  have f28 : Fld Z h24 a "com/example/rens/rens/TimeRing" "first" "J" (.long (f + (1 : Int64))) := ((f14.other W20 (Or.inr (slot_ne (Or.inl (ww hw 32 rfl)) (Or.inl (ww hw 38 rfl)) (by decide) (t := .long) (t' := .int) (by decide) (by decide)))).other W25 (Or.inr (slot_ne (Or.inl (ww hw 32 rfl)) (Or.inl (ww hw 30 rfl)) (by decide) (t := .long) (t' := .int) (by decide) (by decide))))
  refine Go.getfield (pc' := 49) (host := "") (Or.inl (ww hw 31 rfl)) Via.refl f28 d10_46 rfl ?_
  refine Go.lconst (pc' := 50) (v := (1 : Int64)) d10_49 rfl rfl ?_
  refine Go.ladd (pc' := 51) d10_50 rfl ?_
  have f29 : Exa Z h24 a "com/example/rens/rens/TimeRing" := (((((x.wr W2).wr W7).wr W12).wr W20).wr W25)
  refine Go.putfield (pc' := 54) (host := "") (Or.inl (ww hw 31 rfl)) Via.refl f28 f29 (Or.inl (ww hw 32 rfl)) (ww hw 2 rfl) (ty := .long) (by decide) rfl rfl ge_a d10_51 rfl ?_
  intro h30 W31
  have K32 : Keep h h30 [a] := K26.wr W31 (Or.inl (List.mem_of_getElem? (i := 0) rfl))
  have f33 := f28.same W31
  refine Go.goto (pc' := 0) d10_54 (by decide) (by decide) ?_
  refine Go.aloadN (pc' := 1) d10_0 rfl rfl rfl ?_
  have f34 : Fld Z h30 a "com/example/rens/rens/TimeRing" "size" "I" (.int (2 : Int32)) := (f27.other W31 (Or.inr (slot_ne (Or.inl (ww hw 30 rfl)) (Or.inl (ww hw 32 rfl)) (by decide) (t := .int) (t' := .long) (by decide) (by decide))))
  refine Go.getfield (pc' := 4) (host := "") (Or.inl (ww hw 29 rfl)) Via.refl f34 d10_1 rfl ?_
  refine Go.ifNo (pc' := 7) d10_4 (XT.i0_le_f (by decide)) rfl ?_
  refine Go.aloadN (pc' := 8) d10_7 rfl rfl rfl ?_
  refine Go.getfield (pc' := 11) (host := "") (Or.inl (ww hw 31 rfl)) Via.refl f33 d10_8 rfl ?_
  refine Go.lloadN (pc' := 12) d10_11 rfl rfl ?_
  refine Go.lcmp (pc' := 13) d10_12 rfl ?_
  refine Go.ifYes (pc' := 57) d10_13 (XT.ll_ge_t gk) (by decide) (by decide) ?_
  have f35 : Fld Z h30 a "com/example/rens/rens/TimeRing" "seconds" "[J" (.ref sa) := (((f17.other W20 (Or.inr (slot_ne (Or.inl (ww hw 12 rfl)) (Or.inl (ww hw 38 rfl)) (by decide) (t := (.array .long)) (t' := .int) (by decide) (by decide)))).other W25 (Or.inr (slot_ne (Or.inl (ww hw 12 rfl)) (Or.inl (ww hw 30 rfl)) (by decide) (t := (.array .long)) (t' := .int) (by decide) (by decide)))).other W31 (Or.inr (slot_ne (Or.inl (ww hw 12 rfl)) (Or.inl (ww hw 32 rfl)) (by decide) (t := (.array .long)) (t' := .long) (by decide) (by decide))))
  have f36 : Fld Z h30 a "com/example/rens/rens/TimeRing" "nanos" "[I" (.ref na) := ((((((pf1.other W2 (Or.inr (slot_ne (Or.inl (ww hw 15 rfl)) (Or.inl (ww hw 38 rfl)) (by decide) (t := (.array .int)) (t' := .int) (by decide) (by decide)))).other W7 (Or.inr (slot_ne (Or.inl (ww hw 15 rfl)) (Or.inl (ww hw 30 rfl)) (by decide) (t := (.array .int)) (t' := .int) (by decide) (by decide)))).other W12 (Or.inr (slot_ne (Or.inl (ww hw 15 rfl)) (Or.inl (ww hw 32 rfl)) (by decide) (t := (.array .int)) (t' := .long) (by decide) (by decide)))).other W20 (Or.inr (slot_ne (Or.inl (ww hw 15 rfl)) (Or.inl (ww hw 38 rfl)) (by decide) (t := (.array .int)) (t' := .int) (by decide) (by decide)))).other W25 (Or.inr (slot_ne (Or.inl (ww hw 15 rfl)) (Or.inl (ww hw 30 rfl)) (by decide) (t := (.array .int)) (t' := .int) (by decide) (by decide)))).other W31 (Or.inr (slot_ne (Or.inl (ww hw 15 rfl)) (Or.inl (ww hw 32 rfl)) (by decide) (t := (.array .int)) (t' := .long) (by decide) (by decide))))
  have f37 : Fld Z h30 a "com/example/rens/rens/TimeRing" "head" "I" (.int (2 : Int32)) := ((f22.other W25 (Or.inr (slot_ne (Or.inl (ww hw 38 rfl)) (Or.inl (ww hw 30 rfl)) (by decide) (t := .int) (t' := .int) (by decide) (by decide)))).other W31 (Or.inr (slot_ne (Or.inl (ww hw 38 rfl)) (Or.inl (ww hw 32 rfl)) (by decide) (t := .int) (t' := .long) (by decide) (by decide))))
  exact Go.retV rfl d10_57 ⟨rfl, K32, f35, f36, f37, f34, f33⟩ (by decide) (by decide)
set_option maxRecDepth 65536 in
set_option maxHeartbeats 4000000 in
theorem c_drop4_3 (l : Launch) (Z : State) (a0 : Array Value) (hw : ∀ d ∈ tables_1, d.before a0 Z = true) {n0 : Nat} (h : Heap) (a : Addr) (sa : Addr) (ks : ClassId) (na : Addr) (f : Int64) (d : Int64) (g0 : f < d) (g1 : (f + (1 : Int64)) < d) (g2 : ((f + (1 : Int64)) + (1 : Int64)) < d) (gk : ¬ ((((f + (1 : Int64)) + (1 : Int64)) + (1 : Int64)) < d)) (ge_a : n0 ≤ a) (ne_a_sa : a ≠ sa) (x : Exa Z h a "com/example/rens/rens/TimeRing") (pf0 : Fld Z h a "com/example/rens/rens/TimeRing" "seconds" "[J" (.ref sa)) (pf1 : Fld Z h a "com/example/rens/rens/TimeRing" "nanos" "[I" (.ref na)) (pf2 : Fld Z h a "com/example/rens/rens/TimeRing" "head" "I" (.int (0 : Int32))) (pf3 : Fld Z h a "com/example/rens/rens/TimeRing" "size" "I" (.int (4 : Int32))) (pf4 : Fld Z h a "com/example/rens/rens/TimeRing" "first" "J" (.long f)) (vs : Arv Z h sa ks .long (4 : Int32) [(.long 0), (.long 1), (.long 2), (.long 3)] (.long 0)) :
    Con l (⟨"com/example/rens/rens/TimeRing", "dropBefore", "(J)V"⟩ : MethodName) prog_22_method_7_code 3 none ({ frames := 0, cells := 0, slots := 0, locals := 0 } : Room) Z n0 #[(.ref a), (.long d)] h (fun v h' => v = none ∧ Keep h h' [a] ∧ Fld Z h' a "com/example/rens/rens/TimeRing" "seconds" "[J" (.ref sa) ∧ Fld Z h' a "com/example/rens/rens/TimeRing" "nanos" "[I" (.ref na) ∧ Fld Z h' a "com/example/rens/rens/TimeRing" "head" "I" (.int (3 : Int32)) ∧ Fld Z h' a "com/example/rens/rens/TimeRing" "size" "I" (.int (1 : Int32)) ∧ Fld Z h' a "com/example/rens/rens/TimeRing" "first" "J" (.long (((f + (1 : Int64)) + (1 : Int64)) + (1 : Int64)))) := by
  refine Con.of_go (plainFor_of_name pn_1) (Ls := #[.val (.ref a), .val (.long d), .second]) (fun m => by first | (simp [entryFrame, mkF, argsToLocals, Value.category]; done) | rfl) ?_
  refine Go.aloadN (pc' := 1) d10_0 rfl rfl rfl ?_
  refine Go.getfield (pc' := 4) (host := "") (Or.inl (ww hw 29 rfl)) Via.refl pf3 d10_1 rfl ?_
  refine Go.ifNo (pc' := 7) d10_4 (XT.i0_le_f (by decide)) rfl ?_
  refine Go.aloadN (pc' := 8) d10_7 rfl rfl rfl ?_
  refine Go.getfield (pc' := 11) (host := "") (Or.inl (ww hw 31 rfl)) Via.refl pf4 d10_8 rfl ?_
  refine Go.lloadN (pc' := 12) d10_11 rfl rfl ?_
  refine Go.lcmp (pc' := 13) d10_12 rfl ?_
  refine Go.ifNo (pc' := 16) d10_13 (XT.ll_ge_f g0) rfl ?_
  refine Go.aloadN (pc' := 17) d10_16 rfl rfl rfl ?_
  refine Go.aloadN (pc' := 18) d10_17 rfl rfl rfl ?_
  refine Go.getfield (pc' := 21) (host := "") (Or.inl (ww hw 37 rfl)) Via.refl pf2 d10_18 rfl ?_
  refine Go.iconst (pc' := 22) (v := (1 : Int32)) d10_21 rfl rfl ?_
  refine Go.iadd (pc' := 23) d10_22 rfl ?_
  show Go _ _ _ _ _ _ _ _ _ _ _ _ 23 #[.val (.ref a), .val (.long d), .second] [(.int (1 : Int32)), (.ref a)]
  refine Go.aloadN (pc' := 24) d10_23 rfl rfl rfl ?_
  refine Go.getfield (pc' := 27) (host := "") (Or.inl (ww hw 11 rfl)) Via.refl pf0 d10_24 rfl ?_
  refine Go.arraylength (pc' := 28) vs d10_27 rfl ?_
  refine Go.iconst (pc' := 29) (v := (1 : Int32)) d10_28 rfl rfl ?_
  refine Go.isub (pc' := 30) d10_29 rfl ?_
  show Go _ _ _ _ _ _ _ _ _ _ _ _ 30 #[.val (.ref a), .val (.long d), .second] [(.int (3 : Int32)), (.int (1 : Int32)), (.ref a)]
  refine Go.iand (pc' := 31) d10_30 rfl ?_
  show Go _ _ _ _ _ _ _ _ _ _ _ _ 31 #[.val (.ref a), .val (.long d), .second] [(.int (1 : Int32)), (.ref a)]
  refine Go.putfield (pc' := 34) (host := "") (Or.inl (ww hw 37 rfl)) Via.refl pf2 x (Or.inl (ww hw 38 rfl)) (ww hw 2 rfl) (ty := .int) (by decide) rfl rfl ge_a d10_31 rfl ?_
  intro h1 W2
  have K3 : Keep h h1 [a] := (Keep.refl h [a]).wr W2 (Or.inl (List.mem_of_getElem? (i := 0) rfl))
  have f4 := pf2.same W2
  refine Go.aloadN (pc' := 35) d10_34 rfl rfl rfl ?_
  refine Go.dup (pc' := 36) d10_35 rfl rfl ?_
  have f5 : Fld Z h1 a "com/example/rens/rens/TimeRing" "size" "I" (.int (4 : Int32)) := (pf3.other W2 (Or.inr (slot_ne (Or.inl (ww hw 30 rfl)) (Or.inl (ww hw 38 rfl)) (by decide) (t := .int) (t' := .int) (by decide) (by decide))))
  refine Go.getfield (pc' := 39) (host := "") (Or.inl (ww hw 29 rfl)) Via.refl f5 d10_36 rfl ?_
  refine Go.iconst (pc' := 40) (v := (1 : Int32)) d10_39 rfl rfl ?_
  refine Go.isub (pc' := 41) d10_40 rfl ?_
  show Go _ _ _ _ _ _ _ _ _ _ _ _ 41 #[.val (.ref a), .val (.long d), .second] [(.int (3 : Int32)), (.ref a)]
  refine Go.putfield (pc' := 44) (host := "") (Or.inl (ww hw 29 rfl)) Via.refl f5 (x.wr W2) (Or.inl (ww hw 30 rfl)) (ww hw 2 rfl) (ty := .int) (by decide) rfl rfl ge_a d10_41 rfl ?_
  intro h6 W7
  have K8 : Keep h h6 [a] := K3.wr W7 (Or.inl (List.mem_of_getElem? (i := 0) rfl))
  have f9 := f5.same W7
  refine Go.aloadN (pc' := 45) d10_44 rfl rfl rfl ?_
  refine Go.dup (pc' := 46) d10_45 rfl rfl ?_
  have f10 : Fld Z h6 a "com/example/rens/rens/TimeRing" "first" "J" (.long f) := ((pf4.other W2 (Or.inr (slot_ne (Or.inl (ww hw 32 rfl)) (Or.inl (ww hw 38 rfl)) (by decide) (t := .long) (t' := .int) (by decide) (by decide)))).other W7 (Or.inr (slot_ne (Or.inl (ww hw 32 rfl)) (Or.inl (ww hw 30 rfl)) (by decide) (t := .long) (t' := .int) (by decide) (by decide))))
  refine Go.getfield (pc' := 49) (host := "") (Or.inl (ww hw 31 rfl)) Via.refl f10 d10_46 rfl ?_
  refine Go.lconst (pc' := 50) (v := (1 : Int64)) d10_49 rfl rfl ?_
  refine Go.ladd (pc' := 51) d10_50 rfl ?_
  refine Go.putfield (pc' := 54) (host := "") (Or.inl (ww hw 31 rfl)) Via.refl f10 ((x.wr W2).wr W7) (Or.inl (ww hw 32 rfl)) (ww hw 2 rfl) (ty := .long) (by decide) rfl rfl ge_a d10_51 rfl ?_
  intro h11 W12
  have K13 : Keep h h11 [a] := K8.wr W12 (Or.inl (List.mem_of_getElem? (i := 0) rfl))
  have f14 := f10.same W12
  refine Go.goto (pc' := 0) d10_54 (by decide) (by decide) ?_
  refine Go.aloadN (pc' := 1) d10_0 rfl rfl rfl ?_
  have f15 : Fld Z h11 a "com/example/rens/rens/TimeRing" "size" "I" (.int (3 : Int32)) := (f9.other W12 (Or.inr (slot_ne (Or.inl (ww hw 30 rfl)) (Or.inl (ww hw 32 rfl)) (by decide) (t := .int) (t' := .long) (by decide) (by decide))))
  refine Go.getfield (pc' := 4) (host := "") (Or.inl (ww hw 29 rfl)) Via.refl f15 d10_1 rfl ?_
  refine Go.ifNo (pc' := 7) d10_4 (XT.i0_le_f (by decide)) rfl ?_
  refine Go.aloadN (pc' := 8) d10_7 rfl rfl rfl ?_
  refine Go.getfield (pc' := 11) (host := "") (Or.inl (ww hw 31 rfl)) Via.refl f14 d10_8 rfl ?_
  refine Go.lloadN (pc' := 12) d10_11 rfl rfl ?_
  refine Go.lcmp (pc' := 13) d10_12 rfl ?_
  refine Go.ifNo (pc' := 16) d10_13 (XT.ll_ge_f g1) rfl ?_
  refine Go.aloadN (pc' := 17) d10_16 rfl rfl rfl ?_
  refine Go.aloadN (pc' := 18) d10_17 rfl rfl rfl ?_
  have f16 : Fld Z h11 a "com/example/rens/rens/TimeRing" "head" "I" (.int (1 : Int32)) := ((f4.other W7 (Or.inr (slot_ne (Or.inl (ww hw 38 rfl)) (Or.inl (ww hw 30 rfl)) (by decide) (t := .int) (t' := .int) (by decide) (by decide)))).other W12 (Or.inr (slot_ne (Or.inl (ww hw 38 rfl)) (Or.inl (ww hw 32 rfl)) (by decide) (t := .int) (t' := .long) (by decide) (by decide))))
  refine Go.getfield (pc' := 21) (host := "") (Or.inl (ww hw 37 rfl)) Via.refl f16 d10_18 rfl ?_
  refine Go.iconst (pc' := 22) (v := (1 : Int32)) d10_21 rfl rfl ?_
  refine Go.iadd (pc' := 23) d10_22 rfl ?_
  show Go _ _ _ _ _ _ _ _ _ _ _ _ 23 #[.val (.ref a), .val (.long d), .second] [(.int (2 : Int32)), (.ref a)]
  refine Go.aloadN (pc' := 24) d10_23 rfl rfl rfl ?_
  have f17 : Fld Z h11 a "com/example/rens/rens/TimeRing" "seconds" "[J" (.ref sa) := (((pf0.other W2 (Or.inr (slot_ne (Or.inl (ww hw 12 rfl)) (Or.inl (ww hw 38 rfl)) (by decide) (t := (.array .long)) (t' := .int) (by decide) (by decide)))).other W7 (Or.inr (slot_ne (Or.inl (ww hw 12 rfl)) (Or.inl (ww hw 30 rfl)) (by decide) (t := (.array .long)) (t' := .int) (by decide) (by decide)))).other W12 (Or.inr (slot_ne (Or.inl (ww hw 12 rfl)) (Or.inl (ww hw 32 rfl)) (by decide) (t := (.array .long)) (t' := .long) (by decide) (by decide))))
  refine Go.getfield (pc' := 27) (host := "") (Or.inl (ww hw 11 rfl)) Via.refl f17 d10_24 rfl ?_
  have f18 : Arv Z h11 sa ks .long (4 : Int32) [(.long 0), (.long 1), (.long 2), (.long 3)] (.long 0) := (((vs.other W2 (Ne.symm ne_a_sa)).other W7 (Ne.symm ne_a_sa)).other W12 (Ne.symm ne_a_sa))
  refine Go.arraylength (pc' := 28) f18 d10_27 rfl ?_
  refine Go.iconst (pc' := 29) (v := (1 : Int32)) d10_28 rfl rfl ?_
  refine Go.isub (pc' := 30) d10_29 rfl ?_
  show Go _ _ _ _ _ _ _ _ _ _ _ _ 30 #[.val (.ref a), .val (.long d), .second] [(.int (3 : Int32)), (.int (2 : Int32)), (.ref a)]
  refine Go.iand (pc' := 31) d10_30 rfl ?_
  show Go _ _ _ _ _ _ _ _ _ _ _ _ 31 #[.val (.ref a), .val (.long d), .second] [(.int (2 : Int32)), (.ref a)]
  refine Go.putfield (pc' := 34) (host := "") (Or.inl (ww hw 37 rfl)) Via.refl f16 (((x.wr W2).wr W7).wr W12) (Or.inl (ww hw 38 rfl)) (ww hw 2 rfl) (ty := .int) (by decide) rfl rfl ge_a d10_31 rfl ?_
  intro h19 W20
  have K21 : Keep h h19 [a] := K13.wr W20 (Or.inl (List.mem_of_getElem? (i := 0) rfl))
  have f22 := f16.same W20
  refine Go.aloadN (pc' := 35) d10_34 rfl rfl rfl ?_
  refine Go.dup (pc' := 36) d10_35 rfl rfl ?_
  have f23 : Fld Z h19 a "com/example/rens/rens/TimeRing" "size" "I" (.int (3 : Int32)) := (f15.other W20 (Or.inr (slot_ne (Or.inl (ww hw 30 rfl)) (Or.inl (ww hw 38 rfl)) (by decide) (t := .int) (t' := .int) (by decide) (by decide))))
  refine Go.getfield (pc' := 39) (host := "") (Or.inl (ww hw 29 rfl)) Via.refl f23 d10_36 rfl ?_
  refine Go.iconst (pc' := 40) (v := (1 : Int32)) d10_39 rfl rfl ?_
  refine Go.isub (pc' := 41) d10_40 rfl ?_
  show Go _ _ _ _ _ _ _ _ _ _ _ _ 41 #[.val (.ref a), .val (.long d), .second] [(.int (2 : Int32)), (.ref a)]
  refine Go.putfield (pc' := 44) (host := "") (Or.inl (ww hw 29 rfl)) Via.refl f23 ((((x.wr W2).wr W7).wr W12).wr W20) (Or.inl (ww hw 30 rfl)) (ww hw 2 rfl) (ty := .int) (by decide) rfl rfl ge_a d10_41 rfl ?_
  intro h24 W25
  have K26 : Keep h h24 [a] := K21.wr W25 (Or.inl (List.mem_of_getElem? (i := 0) rfl))
  have f27 := f23.same W25
  refine Go.aloadN (pc' := 45) d10_44 rfl rfl rfl ?_
  refine Go.dup (pc' := 46) d10_45 rfl rfl ?_
  have f28 : Fld Z h24 a "com/example/rens/rens/TimeRing" "first" "J" (.long (f + (1 : Int64))) := ((f14.other W20 (Or.inr (slot_ne (Or.inl (ww hw 32 rfl)) (Or.inl (ww hw 38 rfl)) (by decide) (t := .long) (t' := .int) (by decide) (by decide)))).other W25 (Or.inr (slot_ne (Or.inl (ww hw 32 rfl)) (Or.inl (ww hw 30 rfl)) (by decide) (t := .long) (t' := .int) (by decide) (by decide))))
  refine Go.getfield (pc' := 49) (host := "") (Or.inl (ww hw 31 rfl)) Via.refl f28 d10_46 rfl ?_
  refine Go.lconst (pc' := 50) (v := (1 : Int64)) d10_49 rfl rfl ?_
  refine Go.ladd (pc' := 51) d10_50 rfl ?_
  have f29 : Exa Z h24 a "com/example/rens/rens/TimeRing" := (((((x.wr W2).wr W7).wr W12).wr W20).wr W25)
  refine Go.putfield (pc' := 54) (host := "") (Or.inl (ww hw 31 rfl)) Via.refl f28 f29 (Or.inl (ww hw 32 rfl)) (ww hw 2 rfl) (ty := .long) (by decide) rfl rfl ge_a d10_51 rfl ?_
  intro h30 W31
  have K32 : Keep h h30 [a] := K26.wr W31 (Or.inl (List.mem_of_getElem? (i := 0) rfl))
  have f33 := f28.same W31
  refine Go.goto (pc' := 0) d10_54 (by decide) (by decide) ?_
  refine Go.aloadN (pc' := 1) d10_0 rfl rfl rfl ?_
  have f34 : Fld Z h30 a "com/example/rens/rens/TimeRing" "size" "I" (.int (2 : Int32)) := (f27.other W31 (Or.inr (slot_ne (Or.inl (ww hw 30 rfl)) (Or.inl (ww hw 32 rfl)) (by decide) (t := .int) (t' := .long) (by decide) (by decide))))
  refine Go.getfield (pc' := 4) (host := "") (Or.inl (ww hw 29 rfl)) Via.refl f34 d10_1 rfl ?_
  refine Go.ifNo (pc' := 7) d10_4 (XT.i0_le_f (by decide)) rfl ?_
  refine Go.aloadN (pc' := 8) d10_7 rfl rfl rfl ?_
  refine Go.getfield (pc' := 11) (host := "") (Or.inl (ww hw 31 rfl)) Via.refl f33 d10_8 rfl ?_
  refine Go.lloadN (pc' := 12) d10_11 rfl rfl ?_
  refine Go.lcmp (pc' := 13) d10_12 rfl ?_
  refine Go.ifNo (pc' := 16) d10_13 (XT.ll_ge_f g2) rfl ?_
  refine Go.aloadN (pc' := 17) d10_16 rfl rfl rfl ?_
  refine Go.aloadN (pc' := 18) d10_17 rfl rfl rfl ?_
  have f35 : Fld Z h30 a "com/example/rens/rens/TimeRing" "head" "I" (.int (2 : Int32)) := ((f22.other W25 (Or.inr (slot_ne (Or.inl (ww hw 38 rfl)) (Or.inl (ww hw 30 rfl)) (by decide) (t := .int) (t' := .int) (by decide) (by decide)))).other W31 (Or.inr (slot_ne (Or.inl (ww hw 38 rfl)) (Or.inl (ww hw 32 rfl)) (by decide) (t := .int) (t' := .long) (by decide) (by decide))))
  refine Go.getfield (pc' := 21) (host := "") (Or.inl (ww hw 37 rfl)) Via.refl f35 d10_18 rfl ?_
  refine Go.iconst (pc' := 22) (v := (1 : Int32)) d10_21 rfl rfl ?_
  refine Go.iadd (pc' := 23) d10_22 rfl ?_
  show Go _ _ _ _ _ _ _ _ _ _ _ _ 23 #[.val (.ref a), .val (.long d), .second] [(.int (3 : Int32)), (.ref a)]
  refine Go.aloadN (pc' := 24) d10_23 rfl rfl rfl ?_
  have f36 : Fld Z h30 a "com/example/rens/rens/TimeRing" "seconds" "[J" (.ref sa) := (((f17.other W20 (Or.inr (slot_ne (Or.inl (ww hw 12 rfl)) (Or.inl (ww hw 38 rfl)) (by decide) (t := (.array .long)) (t' := .int) (by decide) (by decide)))).other W25 (Or.inr (slot_ne (Or.inl (ww hw 12 rfl)) (Or.inl (ww hw 30 rfl)) (by decide) (t := (.array .long)) (t' := .int) (by decide) (by decide)))).other W31 (Or.inr (slot_ne (Or.inl (ww hw 12 rfl)) (Or.inl (ww hw 32 rfl)) (by decide) (t := (.array .long)) (t' := .long) (by decide) (by decide))))
  refine Go.getfield (pc' := 27) (host := "") (Or.inl (ww hw 11 rfl)) Via.refl f36 d10_24 rfl ?_
  have f37 : Arv Z h30 sa ks .long (4 : Int32) [(.long 0), (.long 1), (.long 2), (.long 3)] (.long 0) := (((f18.other W20 (Ne.symm ne_a_sa)).other W25 (Ne.symm ne_a_sa)).other W31 (Ne.symm ne_a_sa))
  refine Go.arraylength (pc' := 28) f37 d10_27 rfl ?_
  refine Go.iconst (pc' := 29) (v := (1 : Int32)) d10_28 rfl rfl ?_
  refine Go.isub (pc' := 30) d10_29 rfl ?_
  show Go _ _ _ _ _ _ _ _ _ _ _ _ 30 #[.val (.ref a), .val (.long d), .second] [(.int (3 : Int32)), (.int (3 : Int32)), (.ref a)]
  refine Go.iand (pc' := 31) d10_30 rfl ?_
  show Go _ _ _ _ _ _ _ _ _ _ _ _ 31 #[.val (.ref a), .val (.long d), .second] [(.int (3 : Int32)), (.ref a)]
  refine Go.putfield (pc' := 34) (host := "") (Or.inl (ww hw 37 rfl)) Via.refl f35 (f29.wr W31) (Or.inl (ww hw 38 rfl)) (ww hw 2 rfl) (ty := .int) (by decide) rfl rfl ge_a d10_31 rfl ?_
  intro h38 W39
  have K40 : Keep h h38 [a] := K32.wr W39 (Or.inl (List.mem_of_getElem? (i := 0) rfl))
  have f41 := f35.same W39
  refine Go.aloadN (pc' := 35) d10_34 rfl rfl rfl ?_
  refine Go.dup (pc' := 36) d10_35 rfl rfl ?_
  have f42 : Fld Z h38 a "com/example/rens/rens/TimeRing" "size" "I" (.int (2 : Int32)) := (f34.other W39 (Or.inr (slot_ne (Or.inl (ww hw 30 rfl)) (Or.inl (ww hw 38 rfl)) (by decide) (t := .int) (t' := .int) (by decide) (by decide))))
  refine Go.getfield (pc' := 39) (host := "") (Or.inl (ww hw 29 rfl)) Via.refl f42 d10_36 rfl ?_
  refine Go.iconst (pc' := 40) (v := (1 : Int32)) d10_39 rfl rfl ?_
  refine Go.isub (pc' := 41) d10_40 rfl ?_
  show Go _ _ _ _ _ _ _ _ _ _ _ _ 41 #[.val (.ref a), .val (.long d), .second] [(.int (1 : Int32)), (.ref a)]
  refine Go.putfield (pc' := 44) (host := "") (Or.inl (ww hw 29 rfl)) Via.refl f42 ((f29.wr W31).wr W39) (Or.inl (ww hw 30 rfl)) (ww hw 2 rfl) (ty := .int) (by decide) rfl rfl ge_a d10_41 rfl ?_
  intro h43 W44
  have K45 : Keep h h43 [a] := K40.wr W44 (Or.inl (List.mem_of_getElem? (i := 0) rfl))
  have f46 := f42.same W44
  refine Go.aloadN (pc' := 45) d10_44 rfl rfl rfl ?_
  refine Go.dup (pc' := 46) d10_45 rfl rfl ?_
  have f47 : Fld Z h43 a "com/example/rens/rens/TimeRing" "first" "J" (.long ((f + (1 : Int64)) + (1 : Int64))) := ((f33.other W39 (Or.inr (slot_ne (Or.inl (ww hw 32 rfl)) (Or.inl (ww hw 38 rfl)) (by decide) (t := .long) (t' := .int) (by decide) (by decide)))).other W44 (Or.inr (slot_ne (Or.inl (ww hw 32 rfl)) (Or.inl (ww hw 30 rfl)) (by decide) (t := .long) (t' := .int) (by decide) (by decide))))
  refine Go.getfield (pc' := 49) (host := "") (Or.inl (ww hw 31 rfl)) Via.refl f47 d10_46 rfl ?_
  refine Go.lconst (pc' := 50) (v := (1 : Int64)) d10_49 rfl rfl ?_
  refine Go.ladd (pc' := 51) d10_50 rfl ?_
  refine Go.putfield (pc' := 54) (host := "") (Or.inl (ww hw 31 rfl)) Via.refl f47 (((f29.wr W31).wr W39).wr W44) (Or.inl (ww hw 32 rfl)) (ww hw 2 rfl) (ty := .long) (by decide) rfl rfl ge_a d10_51 rfl ?_
  intro h48 W49
  have K50 : Keep h h48 [a] := K45.wr W49 (Or.inl (List.mem_of_getElem? (i := 0) rfl))
  have f51 := f47.same W49
  refine Go.goto (pc' := 0) d10_54 (by decide) (by decide) ?_
  refine Go.aloadN (pc' := 1) d10_0 rfl rfl rfl ?_
  have f52 : Fld Z h48 a "com/example/rens/rens/TimeRing" "size" "I" (.int (1 : Int32)) := (f46.other W49 (Or.inr (slot_ne (Or.inl (ww hw 30 rfl)) (Or.inl (ww hw 32 rfl)) (by decide) (t := .int) (t' := .long) (by decide) (by decide))))
  refine Go.getfield (pc' := 4) (host := "") (Or.inl (ww hw 29 rfl)) Via.refl f52 d10_1 rfl ?_
  refine Go.ifNo (pc' := 7) d10_4 (XT.i0_le_f (by decide)) rfl ?_
  refine Go.aloadN (pc' := 8) d10_7 rfl rfl rfl ?_
  refine Go.getfield (pc' := 11) (host := "") (Or.inl (ww hw 31 rfl)) Via.refl f51 d10_8 rfl ?_
  refine Go.lloadN (pc' := 12) d10_11 rfl rfl ?_
  refine Go.lcmp (pc' := 13) d10_12 rfl ?_
  refine Go.ifYes (pc' := 57) d10_13 (XT.ll_ge_t gk) (by decide) (by decide) ?_
  have f53 : Fld Z h48 a "com/example/rens/rens/TimeRing" "seconds" "[J" (.ref sa) := (((f36.other W39 (Or.inr (slot_ne (Or.inl (ww hw 12 rfl)) (Or.inl (ww hw 38 rfl)) (by decide) (t := (.array .long)) (t' := .int) (by decide) (by decide)))).other W44 (Or.inr (slot_ne (Or.inl (ww hw 12 rfl)) (Or.inl (ww hw 30 rfl)) (by decide) (t := (.array .long)) (t' := .int) (by decide) (by decide)))).other W49 (Or.inr (slot_ne (Or.inl (ww hw 12 rfl)) (Or.inl (ww hw 32 rfl)) (by decide) (t := (.array .long)) (t' := .long) (by decide) (by decide))))
  have f54 : Fld Z h48 a "com/example/rens/rens/TimeRing" "nanos" "[I" (.ref na) := (((((((((pf1.other W2 (Or.inr (slot_ne (Or.inl (ww hw 15 rfl)) (Or.inl (ww hw 38 rfl)) (by decide) (t := (.array .int)) (t' := .int) (by decide) (by decide)))).other W7 (Or.inr (slot_ne (Or.inl (ww hw 15 rfl)) (Or.inl (ww hw 30 rfl)) (by decide) (t := (.array .int)) (t' := .int) (by decide) (by decide)))).other W12 (Or.inr (slot_ne (Or.inl (ww hw 15 rfl)) (Or.inl (ww hw 32 rfl)) (by decide) (t := (.array .int)) (t' := .long) (by decide) (by decide)))).other W20 (Or.inr (slot_ne (Or.inl (ww hw 15 rfl)) (Or.inl (ww hw 38 rfl)) (by decide) (t := (.array .int)) (t' := .int) (by decide) (by decide)))).other W25 (Or.inr (slot_ne (Or.inl (ww hw 15 rfl)) (Or.inl (ww hw 30 rfl)) (by decide) (t := (.array .int)) (t' := .int) (by decide) (by decide)))).other W31 (Or.inr (slot_ne (Or.inl (ww hw 15 rfl)) (Or.inl (ww hw 32 rfl)) (by decide) (t := (.array .int)) (t' := .long) (by decide) (by decide)))).other W39 (Or.inr (slot_ne (Or.inl (ww hw 15 rfl)) (Or.inl (ww hw 38 rfl)) (by decide) (t := (.array .int)) (t' := .int) (by decide) (by decide)))).other W44 (Or.inr (slot_ne (Or.inl (ww hw 15 rfl)) (Or.inl (ww hw 30 rfl)) (by decide) (t := (.array .int)) (t' := .int) (by decide) (by decide)))).other W49 (Or.inr (slot_ne (Or.inl (ww hw 15 rfl)) (Or.inl (ww hw 32 rfl)) (by decide) (t := (.array .int)) (t' := .long) (by decide) (by decide))))
  have f55 : Fld Z h48 a "com/example/rens/rens/TimeRing" "head" "I" (.int (3 : Int32)) := ((f41.other W44 (Or.inr (slot_ne (Or.inl (ww hw 38 rfl)) (Or.inl (ww hw 30 rfl)) (by decide) (t := .int) (t' := .int) (by decide) (by decide)))).other W49 (Or.inr (slot_ne (Or.inl (ww hw 38 rfl)) (Or.inl (ww hw 32 rfl)) (by decide) (t := .int) (t' := .long) (by decide) (by decide))))
  exact Go.retV rfl d10_57 ⟨rfl, K50, f53, f54, f55, f52, f51⟩ (by decide) (by decide)
set_option maxRecDepth 65536 in
set_option maxHeartbeats 4000000 in
theorem c_drop4_4 (l : Launch) (Z : State) (a0 : Array Value) (hw : ∀ d ∈ tables_1, d.before a0 Z = true) {n0 : Nat} (h : Heap) (a : Addr) (sa : Addr) (ks : ClassId) (na : Addr) (f : Int64) (d : Int64) (g0 : f < d) (g1 : (f + (1 : Int64)) < d) (g2 : ((f + (1 : Int64)) + (1 : Int64)) < d) (g3 : (((f + (1 : Int64)) + (1 : Int64)) + (1 : Int64)) < d) (ge_a : n0 ≤ a) (ne_a_sa : a ≠ sa) (x : Exa Z h a "com/example/rens/rens/TimeRing") (pf0 : Fld Z h a "com/example/rens/rens/TimeRing" "seconds" "[J" (.ref sa)) (pf1 : Fld Z h a "com/example/rens/rens/TimeRing" "nanos" "[I" (.ref na)) (pf2 : Fld Z h a "com/example/rens/rens/TimeRing" "head" "I" (.int (0 : Int32))) (pf3 : Fld Z h a "com/example/rens/rens/TimeRing" "size" "I" (.int (4 : Int32))) (pf4 : Fld Z h a "com/example/rens/rens/TimeRing" "first" "J" (.long f)) (vs : Arv Z h sa ks .long (4 : Int32) [(.long 0), (.long 1), (.long 2), (.long 3)] (.long 0)) :
    Con l (⟨"com/example/rens/rens/TimeRing", "dropBefore", "(J)V"⟩ : MethodName) prog_22_method_7_code 3 none ({ frames := 0, cells := 0, slots := 0, locals := 0 } : Room) Z n0 #[(.ref a), (.long d)] h (fun v h' => v = none ∧ Keep h h' [a] ∧ Fld Z h' a "com/example/rens/rens/TimeRing" "seconds" "[J" (.ref sa) ∧ Fld Z h' a "com/example/rens/rens/TimeRing" "nanos" "[I" (.ref na) ∧ Fld Z h' a "com/example/rens/rens/TimeRing" "head" "I" (.int (0 : Int32)) ∧ Fld Z h' a "com/example/rens/rens/TimeRing" "size" "I" (.int (0 : Int32)) ∧ Fld Z h' a "com/example/rens/rens/TimeRing" "first" "J" (.long ((((f + (1 : Int64)) + (1 : Int64)) + (1 : Int64)) + (1 : Int64)))) := by
  refine Con.of_go (plainFor_of_name pn_1) (Ls := #[.val (.ref a), .val (.long d), .second]) (fun m => by first | (simp [entryFrame, mkF, argsToLocals, Value.category]; done) | rfl) ?_
  refine Go.aloadN (pc' := 1) d10_0 rfl rfl rfl ?_
  refine Go.getfield (pc' := 4) (host := "") (Or.inl (ww hw 29 rfl)) Via.refl pf3 d10_1 rfl ?_
  refine Go.ifNo (pc' := 7) d10_4 (XT.i0_le_f (by decide)) rfl ?_
  refine Go.aloadN (pc' := 8) d10_7 rfl rfl rfl ?_
  refine Go.getfield (pc' := 11) (host := "") (Or.inl (ww hw 31 rfl)) Via.refl pf4 d10_8 rfl ?_
  refine Go.lloadN (pc' := 12) d10_11 rfl rfl ?_
  refine Go.lcmp (pc' := 13) d10_12 rfl ?_
  refine Go.ifNo (pc' := 16) d10_13 (XT.ll_ge_f g0) rfl ?_
  refine Go.aloadN (pc' := 17) d10_16 rfl rfl rfl ?_
  refine Go.aloadN (pc' := 18) d10_17 rfl rfl rfl ?_
  refine Go.getfield (pc' := 21) (host := "") (Or.inl (ww hw 37 rfl)) Via.refl pf2 d10_18 rfl ?_
  refine Go.iconst (pc' := 22) (v := (1 : Int32)) d10_21 rfl rfl ?_
  refine Go.iadd (pc' := 23) d10_22 rfl ?_
  show Go _ _ _ _ _ _ _ _ _ _ _ _ 23 #[.val (.ref a), .val (.long d), .second] [(.int (1 : Int32)), (.ref a)]
  refine Go.aloadN (pc' := 24) d10_23 rfl rfl rfl ?_
  refine Go.getfield (pc' := 27) (host := "") (Or.inl (ww hw 11 rfl)) Via.refl pf0 d10_24 rfl ?_
  refine Go.arraylength (pc' := 28) vs d10_27 rfl ?_
  refine Go.iconst (pc' := 29) (v := (1 : Int32)) d10_28 rfl rfl ?_
  refine Go.isub (pc' := 30) d10_29 rfl ?_
  show Go _ _ _ _ _ _ _ _ _ _ _ _ 30 #[.val (.ref a), .val (.long d), .second] [(.int (3 : Int32)), (.int (1 : Int32)), (.ref a)]
  refine Go.iand (pc' := 31) d10_30 rfl ?_
  show Go _ _ _ _ _ _ _ _ _ _ _ _ 31 #[.val (.ref a), .val (.long d), .second] [(.int (1 : Int32)), (.ref a)]
  refine Go.putfield (pc' := 34) (host := "") (Or.inl (ww hw 37 rfl)) Via.refl pf2 x (Or.inl (ww hw 38 rfl)) (ww hw 2 rfl) (ty := .int) (by decide) rfl rfl ge_a d10_31 rfl ?_
  intro h1 W2
  have K3 : Keep h h1 [a] := (Keep.refl h [a]).wr W2 (Or.inl (List.mem_of_getElem? (i := 0) rfl))
  have f4 := pf2.same W2
  refine Go.aloadN (pc' := 35) d10_34 rfl rfl rfl ?_
  refine Go.dup (pc' := 36) d10_35 rfl rfl ?_
  have f5 : Fld Z h1 a "com/example/rens/rens/TimeRing" "size" "I" (.int (4 : Int32)) := (pf3.other W2 (Or.inr (slot_ne (Or.inl (ww hw 30 rfl)) (Or.inl (ww hw 38 rfl)) (by decide) (t := .int) (t' := .int) (by decide) (by decide))))
  refine Go.getfield (pc' := 39) (host := "") (Or.inl (ww hw 29 rfl)) Via.refl f5 d10_36 rfl ?_
  refine Go.iconst (pc' := 40) (v := (1 : Int32)) d10_39 rfl rfl ?_
  refine Go.isub (pc' := 41) d10_40 rfl ?_
  show Go _ _ _ _ _ _ _ _ _ _ _ _ 41 #[.val (.ref a), .val (.long d), .second] [(.int (3 : Int32)), (.ref a)]
  refine Go.putfield (pc' := 44) (host := "") (Or.inl (ww hw 29 rfl)) Via.refl f5 (x.wr W2) (Or.inl (ww hw 30 rfl)) (ww hw 2 rfl) (ty := .int) (by decide) rfl rfl ge_a d10_41 rfl ?_
  intro h6 W7
  have K8 : Keep h h6 [a] := K3.wr W7 (Or.inl (List.mem_of_getElem? (i := 0) rfl))
  have f9 := f5.same W7
  refine Go.aloadN (pc' := 45) d10_44 rfl rfl rfl ?_
  refine Go.dup (pc' := 46) d10_45 rfl rfl ?_
  have f10 : Fld Z h6 a "com/example/rens/rens/TimeRing" "first" "J" (.long f) := ((pf4.other W2 (Or.inr (slot_ne (Or.inl (ww hw 32 rfl)) (Or.inl (ww hw 38 rfl)) (by decide) (t := .long) (t' := .int) (by decide) (by decide)))).other W7 (Or.inr (slot_ne (Or.inl (ww hw 32 rfl)) (Or.inl (ww hw 30 rfl)) (by decide) (t := .long) (t' := .int) (by decide) (by decide))))
  refine Go.getfield (pc' := 49) (host := "") (Or.inl (ww hw 31 rfl)) Via.refl f10 d10_46 rfl ?_
  refine Go.lconst (pc' := 50) (v := (1 : Int64)) d10_49 rfl rfl ?_
  refine Go.ladd (pc' := 51) d10_50 rfl ?_
  refine Go.putfield (pc' := 54) (host := "") (Or.inl (ww hw 31 rfl)) Via.refl f10 ((x.wr W2).wr W7) (Or.inl (ww hw 32 rfl)) (ww hw 2 rfl) (ty := .long) (by decide) rfl rfl ge_a d10_51 rfl ?_
  intro h11 W12
  have K13 : Keep h h11 [a] := K8.wr W12 (Or.inl (List.mem_of_getElem? (i := 0) rfl))
  have f14 := f10.same W12
  refine Go.goto (pc' := 0) d10_54 (by decide) (by decide) ?_
  refine Go.aloadN (pc' := 1) d10_0 rfl rfl rfl ?_
  have f15 : Fld Z h11 a "com/example/rens/rens/TimeRing" "size" "I" (.int (3 : Int32)) := (f9.other W12 (Or.inr (slot_ne (Or.inl (ww hw 30 rfl)) (Or.inl (ww hw 32 rfl)) (by decide) (t := .int) (t' := .long) (by decide) (by decide))))
  refine Go.getfield (pc' := 4) (host := "") (Or.inl (ww hw 29 rfl)) Via.refl f15 d10_1 rfl ?_
  refine Go.ifNo (pc' := 7) d10_4 (XT.i0_le_f (by decide)) rfl ?_
  refine Go.aloadN (pc' := 8) d10_7 rfl rfl rfl ?_
  refine Go.getfield (pc' := 11) (host := "") (Or.inl (ww hw 31 rfl)) Via.refl f14 d10_8 rfl ?_
  refine Go.lloadN (pc' := 12) d10_11 rfl rfl ?_
  refine Go.lcmp (pc' := 13) d10_12 rfl ?_
  refine Go.ifNo (pc' := 16) d10_13 (XT.ll_ge_f g1) rfl ?_
  refine Go.aloadN (pc' := 17) d10_16 rfl rfl rfl ?_
  refine Go.aloadN (pc' := 18) d10_17 rfl rfl rfl ?_
  have f16 : Fld Z h11 a "com/example/rens/rens/TimeRing" "head" "I" (.int (1 : Int32)) := ((f4.other W7 (Or.inr (slot_ne (Or.inl (ww hw 38 rfl)) (Or.inl (ww hw 30 rfl)) (by decide) (t := .int) (t' := .int) (by decide) (by decide)))).other W12 (Or.inr (slot_ne (Or.inl (ww hw 38 rfl)) (Or.inl (ww hw 32 rfl)) (by decide) (t := .int) (t' := .long) (by decide) (by decide))))
  refine Go.getfield (pc' := 21) (host := "") (Or.inl (ww hw 37 rfl)) Via.refl f16 d10_18 rfl ?_
  refine Go.iconst (pc' := 22) (v := (1 : Int32)) d10_21 rfl rfl ?_
  refine Go.iadd (pc' := 23) d10_22 rfl ?_
  show Go _ _ _ _ _ _ _ _ _ _ _ _ 23 #[.val (.ref a), .val (.long d), .second] [(.int (2 : Int32)), (.ref a)]
  refine Go.aloadN (pc' := 24) d10_23 rfl rfl rfl ?_
  have f17 : Fld Z h11 a "com/example/rens/rens/TimeRing" "seconds" "[J" (.ref sa) := (((pf0.other W2 (Or.inr (slot_ne (Or.inl (ww hw 12 rfl)) (Or.inl (ww hw 38 rfl)) (by decide) (t := (.array .long)) (t' := .int) (by decide) (by decide)))).other W7 (Or.inr (slot_ne (Or.inl (ww hw 12 rfl)) (Or.inl (ww hw 30 rfl)) (by decide) (t := (.array .long)) (t' := .int) (by decide) (by decide)))).other W12 (Or.inr (slot_ne (Or.inl (ww hw 12 rfl)) (Or.inl (ww hw 32 rfl)) (by decide) (t := (.array .long)) (t' := .long) (by decide) (by decide))))
  refine Go.getfield (pc' := 27) (host := "") (Or.inl (ww hw 11 rfl)) Via.refl f17 d10_24 rfl ?_
  have f18 : Arv Z h11 sa ks .long (4 : Int32) [(.long 0), (.long 1), (.long 2), (.long 3)] (.long 0) := (((vs.other W2 (Ne.symm ne_a_sa)).other W7 (Ne.symm ne_a_sa)).other W12 (Ne.symm ne_a_sa))
  refine Go.arraylength (pc' := 28) f18 d10_27 rfl ?_
  refine Go.iconst (pc' := 29) (v := (1 : Int32)) d10_28 rfl rfl ?_
  refine Go.isub (pc' := 30) d10_29 rfl ?_
  show Go _ _ _ _ _ _ _ _ _ _ _ _ 30 #[.val (.ref a), .val (.long d), .second] [(.int (3 : Int32)), (.int (2 : Int32)), (.ref a)]
  refine Go.iand (pc' := 31) d10_30 rfl ?_
  show Go _ _ _ _ _ _ _ _ _ _ _ _ 31 #[.val (.ref a), .val (.long d), .second] [(.int (2 : Int32)), (.ref a)]
  refine Go.putfield (pc' := 34) (host := "") (Or.inl (ww hw 37 rfl)) Via.refl f16 (((x.wr W2).wr W7).wr W12) (Or.inl (ww hw 38 rfl)) (ww hw 2 rfl) (ty := .int) (by decide) rfl rfl ge_a d10_31 rfl ?_
  intro h19 W20
  have K21 : Keep h h19 [a] := K13.wr W20 (Or.inl (List.mem_of_getElem? (i := 0) rfl))
  have f22 := f16.same W20
  refine Go.aloadN (pc' := 35) d10_34 rfl rfl rfl ?_
  refine Go.dup (pc' := 36) d10_35 rfl rfl ?_
  have f23 : Fld Z h19 a "com/example/rens/rens/TimeRing" "size" "I" (.int (3 : Int32)) := (f15.other W20 (Or.inr (slot_ne (Or.inl (ww hw 30 rfl)) (Or.inl (ww hw 38 rfl)) (by decide) (t := .int) (t' := .int) (by decide) (by decide))))
  refine Go.getfield (pc' := 39) (host := "") (Or.inl (ww hw 29 rfl)) Via.refl f23 d10_36 rfl ?_
  refine Go.iconst (pc' := 40) (v := (1 : Int32)) d10_39 rfl rfl ?_
  refine Go.isub (pc' := 41) d10_40 rfl ?_
  show Go _ _ _ _ _ _ _ _ _ _ _ _ 41 #[.val (.ref a), .val (.long d), .second] [(.int (2 : Int32)), (.ref a)]
  refine Go.putfield (pc' := 44) (host := "") (Or.inl (ww hw 29 rfl)) Via.refl f23 ((((x.wr W2).wr W7).wr W12).wr W20) (Or.inl (ww hw 30 rfl)) (ww hw 2 rfl) (ty := .int) (by decide) rfl rfl ge_a d10_41 rfl ?_
  intro h24 W25
  have K26 : Keep h h24 [a] := K21.wr W25 (Or.inl (List.mem_of_getElem? (i := 0) rfl))
  have f27 := f23.same W25
  refine Go.aloadN (pc' := 45) d10_44 rfl rfl rfl ?_
  refine Go.dup (pc' := 46) d10_45 rfl rfl ?_
  have f28 : Fld Z h24 a "com/example/rens/rens/TimeRing" "first" "J" (.long (f + (1 : Int64))) := ((f14.other W20 (Or.inr (slot_ne (Or.inl (ww hw 32 rfl)) (Or.inl (ww hw 38 rfl)) (by decide) (t := .long) (t' := .int) (by decide) (by decide)))).other W25 (Or.inr (slot_ne (Or.inl (ww hw 32 rfl)) (Or.inl (ww hw 30 rfl)) (by decide) (t := .long) (t' := .int) (by decide) (by decide))))
  refine Go.getfield (pc' := 49) (host := "") (Or.inl (ww hw 31 rfl)) Via.refl f28 d10_46 rfl ?_
  refine Go.lconst (pc' := 50) (v := (1 : Int64)) d10_49 rfl rfl ?_
  refine Go.ladd (pc' := 51) d10_50 rfl ?_
  have f29 : Exa Z h24 a "com/example/rens/rens/TimeRing" := (((((x.wr W2).wr W7).wr W12).wr W20).wr W25)
  refine Go.putfield (pc' := 54) (host := "") (Or.inl (ww hw 31 rfl)) Via.refl f28 f29 (Or.inl (ww hw 32 rfl)) (ww hw 2 rfl) (ty := .long) (by decide) rfl rfl ge_a d10_51 rfl ?_
  intro h30 W31
  have K32 : Keep h h30 [a] := K26.wr W31 (Or.inl (List.mem_of_getElem? (i := 0) rfl))
  have f33 := f28.same W31
  refine Go.goto (pc' := 0) d10_54 (by decide) (by decide) ?_
  refine Go.aloadN (pc' := 1) d10_0 rfl rfl rfl ?_
  have f34 : Fld Z h30 a "com/example/rens/rens/TimeRing" "size" "I" (.int (2 : Int32)) := (f27.other W31 (Or.inr (slot_ne (Or.inl (ww hw 30 rfl)) (Or.inl (ww hw 32 rfl)) (by decide) (t := .int) (t' := .long) (by decide) (by decide))))
  refine Go.getfield (pc' := 4) (host := "") (Or.inl (ww hw 29 rfl)) Via.refl f34 d10_1 rfl ?_
  refine Go.ifNo (pc' := 7) d10_4 (XT.i0_le_f (by decide)) rfl ?_
  refine Go.aloadN (pc' := 8) d10_7 rfl rfl rfl ?_
  refine Go.getfield (pc' := 11) (host := "") (Or.inl (ww hw 31 rfl)) Via.refl f33 d10_8 rfl ?_
  refine Go.lloadN (pc' := 12) d10_11 rfl rfl ?_
  refine Go.lcmp (pc' := 13) d10_12 rfl ?_
  refine Go.ifNo (pc' := 16) d10_13 (XT.ll_ge_f g2) rfl ?_
  refine Go.aloadN (pc' := 17) d10_16 rfl rfl rfl ?_
  refine Go.aloadN (pc' := 18) d10_17 rfl rfl rfl ?_
  have f35 : Fld Z h30 a "com/example/rens/rens/TimeRing" "head" "I" (.int (2 : Int32)) := ((f22.other W25 (Or.inr (slot_ne (Or.inl (ww hw 38 rfl)) (Or.inl (ww hw 30 rfl)) (by decide) (t := .int) (t' := .int) (by decide) (by decide)))).other W31 (Or.inr (slot_ne (Or.inl (ww hw 38 rfl)) (Or.inl (ww hw 32 rfl)) (by decide) (t := .int) (t' := .long) (by decide) (by decide))))
  refine Go.getfield (pc' := 21) (host := "") (Or.inl (ww hw 37 rfl)) Via.refl f35 d10_18 rfl ?_
  refine Go.iconst (pc' := 22) (v := (1 : Int32)) d10_21 rfl rfl ?_
  refine Go.iadd (pc' := 23) d10_22 rfl ?_
  show Go _ _ _ _ _ _ _ _ _ _ _ _ 23 #[.val (.ref a), .val (.long d), .second] [(.int (3 : Int32)), (.ref a)]
  refine Go.aloadN (pc' := 24) d10_23 rfl rfl rfl ?_
  have f36 : Fld Z h30 a "com/example/rens/rens/TimeRing" "seconds" "[J" (.ref sa) := (((f17.other W20 (Or.inr (slot_ne (Or.inl (ww hw 12 rfl)) (Or.inl (ww hw 38 rfl)) (by decide) (t := (.array .long)) (t' := .int) (by decide) (by decide)))).other W25 (Or.inr (slot_ne (Or.inl (ww hw 12 rfl)) (Or.inl (ww hw 30 rfl)) (by decide) (t := (.array .long)) (t' := .int) (by decide) (by decide)))).other W31 (Or.inr (slot_ne (Or.inl (ww hw 12 rfl)) (Or.inl (ww hw 32 rfl)) (by decide) (t := (.array .long)) (t' := .long) (by decide) (by decide))))
  refine Go.getfield (pc' := 27) (host := "") (Or.inl (ww hw 11 rfl)) Via.refl f36 d10_24 rfl ?_
  have f37 : Arv Z h30 sa ks .long (4 : Int32) [(.long 0), (.long 1), (.long 2), (.long 3)] (.long 0) := (((f18.other W20 (Ne.symm ne_a_sa)).other W25 (Ne.symm ne_a_sa)).other W31 (Ne.symm ne_a_sa))
  refine Go.arraylength (pc' := 28) f37 d10_27 rfl ?_
  refine Go.iconst (pc' := 29) (v := (1 : Int32)) d10_28 rfl rfl ?_
  refine Go.isub (pc' := 30) d10_29 rfl ?_
  show Go _ _ _ _ _ _ _ _ _ _ _ _ 30 #[.val (.ref a), .val (.long d), .second] [(.int (3 : Int32)), (.int (3 : Int32)), (.ref a)]
  refine Go.iand (pc' := 31) d10_30 rfl ?_
  show Go _ _ _ _ _ _ _ _ _ _ _ _ 31 #[.val (.ref a), .val (.long d), .second] [(.int (3 : Int32)), (.ref a)]
  refine Go.putfield (pc' := 34) (host := "") (Or.inl (ww hw 37 rfl)) Via.refl f35 (f29.wr W31) (Or.inl (ww hw 38 rfl)) (ww hw 2 rfl) (ty := .int) (by decide) rfl rfl ge_a d10_31 rfl ?_
  intro h38 W39
  have K40 : Keep h h38 [a] := K32.wr W39 (Or.inl (List.mem_of_getElem? (i := 0) rfl))
  have f41 := f35.same W39
  refine Go.aloadN (pc' := 35) d10_34 rfl rfl rfl ?_
  refine Go.dup (pc' := 36) d10_35 rfl rfl ?_
  have f42 : Fld Z h38 a "com/example/rens/rens/TimeRing" "size" "I" (.int (2 : Int32)) := (f34.other W39 (Or.inr (slot_ne (Or.inl (ww hw 30 rfl)) (Or.inl (ww hw 38 rfl)) (by decide) (t := .int) (t' := .int) (by decide) (by decide))))
  refine Go.getfield (pc' := 39) (host := "") (Or.inl (ww hw 29 rfl)) Via.refl f42 d10_36 rfl ?_
  refine Go.iconst (pc' := 40) (v := (1 : Int32)) d10_39 rfl rfl ?_
  refine Go.isub (pc' := 41) d10_40 rfl ?_
  show Go _ _ _ _ _ _ _ _ _ _ _ _ 41 #[.val (.ref a), .val (.long d), .second] [(.int (1 : Int32)), (.ref a)]
  refine Go.putfield (pc' := 44) (host := "") (Or.inl (ww hw 29 rfl)) Via.refl f42 ((f29.wr W31).wr W39) (Or.inl (ww hw 30 rfl)) (ww hw 2 rfl) (ty := .int) (by decide) rfl rfl ge_a d10_41 rfl ?_
  intro h43 W44
  have K45 : Keep h h43 [a] := K40.wr W44 (Or.inl (List.mem_of_getElem? (i := 0) rfl))
  have f46 := f42.same W44
  refine Go.aloadN (pc' := 45) d10_44 rfl rfl rfl ?_
  refine Go.dup (pc' := 46) d10_45 rfl rfl ?_
  have f47 : Fld Z h43 a "com/example/rens/rens/TimeRing" "first" "J" (.long ((f + (1 : Int64)) + (1 : Int64))) := ((f33.other W39 (Or.inr (slot_ne (Or.inl (ww hw 32 rfl)) (Or.inl (ww hw 38 rfl)) (by decide) (t := .long) (t' := .int) (by decide) (by decide)))).other W44 (Or.inr (slot_ne (Or.inl (ww hw 32 rfl)) (Or.inl (ww hw 30 rfl)) (by decide) (t := .long) (t' := .int) (by decide) (by decide))))
  refine Go.getfield (pc' := 49) (host := "") (Or.inl (ww hw 31 rfl)) Via.refl f47 d10_46 rfl ?_
  refine Go.lconst (pc' := 50) (v := (1 : Int64)) d10_49 rfl rfl ?_
  refine Go.ladd (pc' := 51) d10_50 rfl ?_
  refine Go.putfield (pc' := 54) (host := "") (Or.inl (ww hw 31 rfl)) Via.refl f47 (((f29.wr W31).wr W39).wr W44) (Or.inl (ww hw 32 rfl)) (ww hw 2 rfl) (ty := .long) (by decide) rfl rfl ge_a d10_51 rfl ?_
  intro h48 W49
  have K50 : Keep h h48 [a] := K45.wr W49 (Or.inl (List.mem_of_getElem? (i := 0) rfl))
  have f51 := f47.same W49
  refine Go.goto (pc' := 0) d10_54 (by decide) (by decide) ?_
  refine Go.aloadN (pc' := 1) d10_0 rfl rfl rfl ?_
  have f52 : Fld Z h48 a "com/example/rens/rens/TimeRing" "size" "I" (.int (1 : Int32)) := (f46.other W49 (Or.inr (slot_ne (Or.inl (ww hw 30 rfl)) (Or.inl (ww hw 32 rfl)) (by decide) (t := .int) (t' := .long) (by decide) (by decide))))
  refine Go.getfield (pc' := 4) (host := "") (Or.inl (ww hw 29 rfl)) Via.refl f52 d10_1 rfl ?_
  refine Go.ifNo (pc' := 7) d10_4 (XT.i0_le_f (by decide)) rfl ?_
  refine Go.aloadN (pc' := 8) d10_7 rfl rfl rfl ?_
  refine Go.getfield (pc' := 11) (host := "") (Or.inl (ww hw 31 rfl)) Via.refl f51 d10_8 rfl ?_
  refine Go.lloadN (pc' := 12) d10_11 rfl rfl ?_
  refine Go.lcmp (pc' := 13) d10_12 rfl ?_
  refine Go.ifNo (pc' := 16) d10_13 (XT.ll_ge_f g3) rfl ?_
  refine Go.aloadN (pc' := 17) d10_16 rfl rfl rfl ?_
  refine Go.aloadN (pc' := 18) d10_17 rfl rfl rfl ?_
  have f53 : Fld Z h48 a "com/example/rens/rens/TimeRing" "head" "I" (.int (3 : Int32)) := ((f41.other W44 (Or.inr (slot_ne (Or.inl (ww hw 38 rfl)) (Or.inl (ww hw 30 rfl)) (by decide) (t := .int) (t' := .int) (by decide) (by decide)))).other W49 (Or.inr (slot_ne (Or.inl (ww hw 38 rfl)) (Or.inl (ww hw 32 rfl)) (by decide) (t := .int) (t' := .long) (by decide) (by decide))))
  refine Go.getfield (pc' := 21) (host := "") (Or.inl (ww hw 37 rfl)) Via.refl f53 d10_18 rfl ?_
  refine Go.iconst (pc' := 22) (v := (1 : Int32)) d10_21 rfl rfl ?_
  refine Go.iadd (pc' := 23) d10_22 rfl ?_
  show Go _ _ _ _ _ _ _ _ _ _ _ _ 23 #[.val (.ref a), .val (.long d), .second] [(.int (4 : Int32)), (.ref a)]
  refine Go.aloadN (pc' := 24) d10_23 rfl rfl rfl ?_
  have f54 : Fld Z h48 a "com/example/rens/rens/TimeRing" "seconds" "[J" (.ref sa) := (((f36.other W39 (Or.inr (slot_ne (Or.inl (ww hw 12 rfl)) (Or.inl (ww hw 38 rfl)) (by decide) (t := (.array .long)) (t' := .int) (by decide) (by decide)))).other W44 (Or.inr (slot_ne (Or.inl (ww hw 12 rfl)) (Or.inl (ww hw 30 rfl)) (by decide) (t := (.array .long)) (t' := .int) (by decide) (by decide)))).other W49 (Or.inr (slot_ne (Or.inl (ww hw 12 rfl)) (Or.inl (ww hw 32 rfl)) (by decide) (t := (.array .long)) (t' := .long) (by decide) (by decide))))
  refine Go.getfield (pc' := 27) (host := "") (Or.inl (ww hw 11 rfl)) Via.refl f54 d10_24 rfl ?_
  have f55 : Arv Z h48 sa ks .long (4 : Int32) [(.long 0), (.long 1), (.long 2), (.long 3)] (.long 0) := (((f37.other W39 (Ne.symm ne_a_sa)).other W44 (Ne.symm ne_a_sa)).other W49 (Ne.symm ne_a_sa))
  refine Go.arraylength (pc' := 28) f55 d10_27 rfl ?_
  refine Go.iconst (pc' := 29) (v := (1 : Int32)) d10_28 rfl rfl ?_
  refine Go.isub (pc' := 30) d10_29 rfl ?_
  show Go _ _ _ _ _ _ _ _ _ _ _ _ 30 #[.val (.ref a), .val (.long d), .second] [(.int (3 : Int32)), (.int (4 : Int32)), (.ref a)]
  refine Go.iand (pc' := 31) d10_30 rfl ?_
  show Go _ _ _ _ _ _ _ _ _ _ _ _ 31 #[.val (.ref a), .val (.long d), .second] [(.int (0 : Int32)), (.ref a)]
  refine Go.putfield (pc' := 34) (host := "") (Or.inl (ww hw 37 rfl)) Via.refl f53 ((((f29.wr W31).wr W39).wr W44).wr W49) (Or.inl (ww hw 38 rfl)) (ww hw 2 rfl) (ty := .int) (by decide) rfl rfl ge_a d10_31 rfl ?_
  intro h56 W57
  have K58 : Keep h h56 [a] := K50.wr W57 (Or.inl (List.mem_of_getElem? (i := 0) rfl))
  have f59 := f53.same W57
  refine Go.aloadN (pc' := 35) d10_34 rfl rfl rfl ?_
  refine Go.dup (pc' := 36) d10_35 rfl rfl ?_
  have f60 : Fld Z h56 a "com/example/rens/rens/TimeRing" "size" "I" (.int (1 : Int32)) := (f52.other W57 (Or.inr (slot_ne (Or.inl (ww hw 30 rfl)) (Or.inl (ww hw 38 rfl)) (by decide) (t := .int) (t' := .int) (by decide) (by decide))))
  refine Go.getfield (pc' := 39) (host := "") (Or.inl (ww hw 29 rfl)) Via.refl f60 d10_36 rfl ?_
  refine Go.iconst (pc' := 40) (v := (1 : Int32)) d10_39 rfl rfl ?_
  refine Go.isub (pc' := 41) d10_40 rfl ?_
  show Go _ _ _ _ _ _ _ _ _ _ _ _ 41 #[.val (.ref a), .val (.long d), .second] [(.int (0 : Int32)), (.ref a)]
  have f61 : Exa Z h56 a "com/example/rens/rens/TimeRing" := (((((f29.wr W31).wr W39).wr W44).wr W49).wr W57)
  refine Go.putfield (pc' := 44) (host := "") (Or.inl (ww hw 29 rfl)) Via.refl f60 f61 (Or.inl (ww hw 30 rfl)) (ww hw 2 rfl) (ty := .int) (by decide) rfl rfl ge_a d10_41 rfl ?_
  intro h62 W63
  have K64 : Keep h h62 [a] := K58.wr W63 (Or.inl (List.mem_of_getElem? (i := 0) rfl))
  have f65 := f60.same W63
  refine Go.aloadN (pc' := 45) d10_44 rfl rfl rfl ?_
  refine Go.dup (pc' := 46) d10_45 rfl rfl ?_
  have f66 : Fld Z h62 a "com/example/rens/rens/TimeRing" "first" "J" (.long (((f + (1 : Int64)) + (1 : Int64)) + (1 : Int64))) := ((f51.other W57 (Or.inr (slot_ne (Or.inl (ww hw 32 rfl)) (Or.inl (ww hw 38 rfl)) (by decide) (t := .long) (t' := .int) (by decide) (by decide)))).other W63 (Or.inr (slot_ne (Or.inl (ww hw 32 rfl)) (Or.inl (ww hw 30 rfl)) (by decide) (t := .long) (t' := .int) (by decide) (by decide))))
  refine Go.getfield (pc' := 49) (host := "") (Or.inl (ww hw 31 rfl)) Via.refl f66 d10_46 rfl ?_
  refine Go.lconst (pc' := 50) (v := (1 : Int64)) d10_49 rfl rfl ?_
  refine Go.ladd (pc' := 51) d10_50 rfl ?_
  refine Go.putfield (pc' := 54) (host := "") (Or.inl (ww hw 31 rfl)) Via.refl f66 (f61.wr W63) (Or.inl (ww hw 32 rfl)) (ww hw 2 rfl) (ty := .long) (by decide) rfl rfl ge_a d10_51 rfl ?_
  intro h67 W68
  have K69 : Keep h h67 [a] := K64.wr W68 (Or.inl (List.mem_of_getElem? (i := 0) rfl))
  have f70 := f66.same W68
  refine Go.goto (pc' := 0) d10_54 (by decide) (by decide) ?_
  refine Go.aloadN (pc' := 1) d10_0 rfl rfl rfl ?_
  have f71 : Fld Z h67 a "com/example/rens/rens/TimeRing" "size" "I" (.int (0 : Int32)) := (f65.other W68 (Or.inr (slot_ne (Or.inl (ww hw 30 rfl)) (Or.inl (ww hw 32 rfl)) (by decide) (t := .int) (t' := .long) (by decide) (by decide))))
  refine Go.getfield (pc' := 4) (host := "") (Or.inl (ww hw 29 rfl)) Via.refl f71 d10_1 rfl ?_
  refine Go.ifYes (pc' := 57) d10_4 (XT.i0_le_t (by decide)) (by decide) (by decide) ?_
  have f72 : Fld Z h67 a "com/example/rens/rens/TimeRing" "seconds" "[J" (.ref sa) := (((f54.other W57 (Or.inr (slot_ne (Or.inl (ww hw 12 rfl)) (Or.inl (ww hw 38 rfl)) (by decide) (t := (.array .long)) (t' := .int) (by decide) (by decide)))).other W63 (Or.inr (slot_ne (Or.inl (ww hw 12 rfl)) (Or.inl (ww hw 30 rfl)) (by decide) (t := (.array .long)) (t' := .int) (by decide) (by decide)))).other W68 (Or.inr (slot_ne (Or.inl (ww hw 12 rfl)) (Or.inl (ww hw 32 rfl)) (by decide) (t := (.array .long)) (t' := .long) (by decide) (by decide))))
  have f73 : Fld Z h67 a "com/example/rens/rens/TimeRing" "nanos" "[I" (.ref na) := ((((((((((((pf1.other W2 (Or.inr (slot_ne (Or.inl (ww hw 15 rfl)) (Or.inl (ww hw 38 rfl)) (by decide) (t := (.array .int)) (t' := .int) (by decide) (by decide)))).other W7 (Or.inr (slot_ne (Or.inl (ww hw 15 rfl)) (Or.inl (ww hw 30 rfl)) (by decide) (t := (.array .int)) (t' := .int) (by decide) (by decide)))).other W12 (Or.inr (slot_ne (Or.inl (ww hw 15 rfl)) (Or.inl (ww hw 32 rfl)) (by decide) (t := (.array .int)) (t' := .long) (by decide) (by decide)))).other W20 (Or.inr (slot_ne (Or.inl (ww hw 15 rfl)) (Or.inl (ww hw 38 rfl)) (by decide) (t := (.array .int)) (t' := .int) (by decide) (by decide)))).other W25 (Or.inr (slot_ne (Or.inl (ww hw 15 rfl)) (Or.inl (ww hw 30 rfl)) (by decide) (t := (.array .int)) (t' := .int) (by decide) (by decide)))).other W31 (Or.inr (slot_ne (Or.inl (ww hw 15 rfl)) (Or.inl (ww hw 32 rfl)) (by decide) (t := (.array .int)) (t' := .long) (by decide) (by decide)))).other W39 (Or.inr (slot_ne (Or.inl (ww hw 15 rfl)) (Or.inl (ww hw 38 rfl)) (by decide) (t := (.array .int)) (t' := .int) (by decide) (by decide)))).other W44 (Or.inr (slot_ne (Or.inl (ww hw 15 rfl)) (Or.inl (ww hw 30 rfl)) (by decide) (t := (.array .int)) (t' := .int) (by decide) (by decide)))).other W49 (Or.inr (slot_ne (Or.inl (ww hw 15 rfl)) (Or.inl (ww hw 32 rfl)) (by decide) (t := (.array .int)) (t' := .long) (by decide) (by decide)))).other W57 (Or.inr (slot_ne (Or.inl (ww hw 15 rfl)) (Or.inl (ww hw 38 rfl)) (by decide) (t := (.array .int)) (t' := .int) (by decide) (by decide)))).other W63 (Or.inr (slot_ne (Or.inl (ww hw 15 rfl)) (Or.inl (ww hw 30 rfl)) (by decide) (t := (.array .int)) (t' := .int) (by decide) (by decide)))).other W68 (Or.inr (slot_ne (Or.inl (ww hw 15 rfl)) (Or.inl (ww hw 32 rfl)) (by decide) (t := (.array .int)) (t' := .long) (by decide) (by decide))))
  have f74 : Fld Z h67 a "com/example/rens/rens/TimeRing" "head" "I" (.int (0 : Int32)) := ((f59.other W63 (Or.inr (slot_ne (Or.inl (ww hw 38 rfl)) (Or.inl (ww hw 30 rfl)) (by decide) (t := .int) (t' := .int) (by decide) (by decide)))).other W68 (Or.inr (slot_ne (Or.inl (ww hw 38 rfl)) (Or.inl (ww hw 32 rfl)) (by decide) (t := .int) (t' := .long) (by decide) (by decide))))
  exact Go.retV rfl d10_57 ⟨rfl, K69, f72, f73, f74, f71, f70⟩ (by decide) (by decide)
theorem d11_0 : decode prog_22_method_2_code 0 = .ok (.aload_n 0, 1) := by decide +kernel
theorem d11_1 : decode prog_22_method_2_code 1 = .ok (.getfield 17, 3) := by decide +kernel
theorem d11_4 : decode prog_22_method_2_code 4 = .ok (.lreturn, 1) := by decide +kernel
set_option maxRecDepth 65536 in
set_option maxHeartbeats 4000000 in
theorem c_first (l : Launch) (Z : State) (a0 : Array Value) (hw : ∀ d ∈ tables_1, d.before a0 Z = true) {n0 : Nat} (h : Heap) (a : Addr) (u : Int64) (f : Fld Z h a "com/example/rens/rens/TimeRing" "first" "J" (.long u)) :
    Con l (⟨"com/example/rens/rens/TimeRing", "first", "()J"⟩ : MethodName) prog_22_method_2_code 1 (some .long) ({ frames := 0, cells := 0, slots := 0, locals := 0 } : Room) Z n0 #[(.ref a)] h (fun v h' => v = some (.long u) ∧ h = h') := by
  refine Con.of_go (plainFor_of_name pn_1) (Ls := #[.val (.ref a)]) (fun m => by first | (simp [entryFrame, mkF, argsToLocals, Value.category]; done) | rfl) ?_
  refine Go.aloadN (pc' := 1) d11_0 rfl rfl rfl ?_
  refine Go.getfield (pc' := 4) (host := "") (Or.inl (ww hw 31 rfl)) Via.refl f d11_1 rfl ?_
  exact Go.retJ rfl d11_4 ⟨rfl, rfl⟩ (by decide) (by decide)
theorem d12_0 : decode prog_22_method_4_code 0 = .ok (.aload_n 0, 1) := by decide +kernel
theorem d12_1 : decode prog_22_method_4_code 1 = .ok (.getfield 21, 3) := by decide +kernel
theorem d12_4 : decode prog_22_method_4_code 4 = .ok (.ireturn, 1) := by decide +kernel
set_option maxRecDepth 65536 in
set_option maxHeartbeats 4000000 in
theorem c_size (l : Launch) (Z : State) (a0 : Array Value) (hw : ∀ d ∈ tables_1, d.before a0 Z = true) {n0 : Nat} (h : Heap) (a : Addr) (u : Int32) (f : Fld Z h a "com/example/rens/rens/TimeRing" "size" "I" (.int u)) :
    Con l (⟨"com/example/rens/rens/TimeRing", "size", "()I"⟩ : MethodName) prog_22_method_4_code 1 (some .int) ({ frames := 0, cells := 0, slots := 0, locals := 0 } : Room) Z n0 #[(.ref a)] h (fun v h' => v = some (.int u) ∧ h = h') := by
  refine Con.of_go (plainFor_of_name pn_1) (Ls := #[.val (.ref a)]) (fun m => by first | (simp [entryFrame, mkF, argsToLocals, Value.category]; done) | rfl) ?_
  refine Go.aloadN (pc' := 1) d12_0 rfl rfl rfl ?_
  refine Go.getfield (pc' := 4) (host := "") (Or.inl (ww hw 29 rfl)) Via.refl f d12_1 rfl ?_
  exact Go.retI rfl d12_4 ⟨rfl, rfl⟩ (by decide) (by decide)
theorem d13_0 : decode prog_22_method_3_code 0 = .ok (.aload_n 0, 1) := by decide +kernel
theorem d13_1 : decode prog_22_method_3_code 1 = .ok (.getfield 17, 3) := by decide +kernel
theorem d13_4 : decode prog_22_method_3_code 4 = .ok (.aload_n 0, 1) := by decide +kernel
theorem d13_5 : decode prog_22_method_3_code 5 = .ok (.getfield 21, 3) := by decide +kernel
theorem d13_8 : decode prog_22_method_3_code 8 = .ok (.i2l, 1) := by decide +kernel
theorem d13_9 : decode prog_22_method_3_code 9 = .ok (.ladd, 1) := by decide +kernel
theorem d13_10 : decode prog_22_method_3_code 10 = .ok (.lreturn, 1) := by decide +kernel
set_option maxRecDepth 65536 in
set_option maxHeartbeats 4000000 in
theorem c_end0 (l : Launch) (Z : State) (a0 : Array Value) (hw : ∀ d ∈ tables_1, d.before a0 Z = true) {n0 : Nat} (h : Heap) (a : Addr) (u : Int64) (f : Fld Z h a "com/example/rens/rens/TimeRing" "first" "J" (.long u)) (g : Fld Z h a "com/example/rens/rens/TimeRing" "size" "I" (.int (0 : Int32))) :
    Con l (⟨"com/example/rens/rens/TimeRing", "end", "()J"⟩ : MethodName) prog_22_method_3_code 1 (some .long) ({ frames := 0, cells := 0, slots := 0, locals := 0 } : Room) Z n0 #[(.ref a)] h (fun v h' => v = some (.long (u + (0 : Int64))) ∧ h = h') := by
  refine Con.of_go (plainFor_of_name pn_1) (Ls := #[.val (.ref a)]) (fun m => by first | (simp [entryFrame, mkF, argsToLocals, Value.category]; done) | rfl) ?_
  refine Go.aloadN (pc' := 1) d13_0 rfl rfl rfl ?_
  refine Go.getfield (pc' := 4) (host := "") (Or.inl (ww hw 31 rfl)) Via.refl f d13_1 rfl ?_
  refine Go.aloadN (pc' := 5) d13_4 rfl rfl rfl ?_
  refine Go.getfield (pc' := 8) (host := "") (Or.inl (ww hw 29 rfl)) Via.refl g d13_5 rfl ?_
  refine Go.i2l (pc' := 9) d13_8 rfl ?_
  show Go _ _ _ _ _ _ _ _ _ _ _ _ 9 #[.val (.ref a)] [(.long (0 : Int64)), (.long u)]
  refine Go.ladd (pc' := 10) d13_9 rfl ?_
  exact Go.retJ rfl d13_10 ⟨rfl, rfl⟩ (by decide) (by decide)
set_option maxRecDepth 65536 in
set_option maxHeartbeats 4000000 in
theorem c_end1 (l : Launch) (Z : State) (a0 : Array Value) (hw : ∀ d ∈ tables_1, d.before a0 Z = true) {n0 : Nat} (h : Heap) (a : Addr) (u : Int64) (f : Fld Z h a "com/example/rens/rens/TimeRing" "first" "J" (.long u)) (g : Fld Z h a "com/example/rens/rens/TimeRing" "size" "I" (.int (1 : Int32))) :
    Con l (⟨"com/example/rens/rens/TimeRing", "end", "()J"⟩ : MethodName) prog_22_method_3_code 1 (some .long) ({ frames := 0, cells := 0, slots := 0, locals := 0 } : Room) Z n0 #[(.ref a)] h (fun v h' => v = some (.long (u + (1 : Int64))) ∧ h = h') := by
  refine Con.of_go (plainFor_of_name pn_1) (Ls := #[.val (.ref a)]) (fun m => by first | (simp [entryFrame, mkF, argsToLocals, Value.category]; done) | rfl) ?_
  refine Go.aloadN (pc' := 1) d13_0 rfl rfl rfl ?_
  refine Go.getfield (pc' := 4) (host := "") (Or.inl (ww hw 31 rfl)) Via.refl f d13_1 rfl ?_
  refine Go.aloadN (pc' := 5) d13_4 rfl rfl rfl ?_
  refine Go.getfield (pc' := 8) (host := "") (Or.inl (ww hw 29 rfl)) Via.refl g d13_5 rfl ?_
  refine Go.i2l (pc' := 9) d13_8 rfl ?_
  show Go _ _ _ _ _ _ _ _ _ _ _ _ 9 #[.val (.ref a)] [(.long (1 : Int64)), (.long u)]
  refine Go.ladd (pc' := 10) d13_9 rfl ?_
  exact Go.retJ rfl d13_10 ⟨rfl, rfl⟩ (by decide) (by decide)
set_option maxRecDepth 65536 in
set_option maxHeartbeats 4000000 in
theorem c_end2 (l : Launch) (Z : State) (a0 : Array Value) (hw : ∀ d ∈ tables_1, d.before a0 Z = true) {n0 : Nat} (h : Heap) (a : Addr) (u : Int64) (f : Fld Z h a "com/example/rens/rens/TimeRing" "first" "J" (.long u)) (g : Fld Z h a "com/example/rens/rens/TimeRing" "size" "I" (.int (2 : Int32))) :
    Con l (⟨"com/example/rens/rens/TimeRing", "end", "()J"⟩ : MethodName) prog_22_method_3_code 1 (some .long) ({ frames := 0, cells := 0, slots := 0, locals := 0 } : Room) Z n0 #[(.ref a)] h (fun v h' => v = some (.long (u + (2 : Int64))) ∧ h = h') := by
  refine Con.of_go (plainFor_of_name pn_1) (Ls := #[.val (.ref a)]) (fun m => by first | (simp [entryFrame, mkF, argsToLocals, Value.category]; done) | rfl) ?_
  refine Go.aloadN (pc' := 1) d13_0 rfl rfl rfl ?_
  refine Go.getfield (pc' := 4) (host := "") (Or.inl (ww hw 31 rfl)) Via.refl f d13_1 rfl ?_
  refine Go.aloadN (pc' := 5) d13_4 rfl rfl rfl ?_
  refine Go.getfield (pc' := 8) (host := "") (Or.inl (ww hw 29 rfl)) Via.refl g d13_5 rfl ?_
  refine Go.i2l (pc' := 9) d13_8 rfl ?_
  show Go _ _ _ _ _ _ _ _ _ _ _ _ 9 #[.val (.ref a)] [(.long (2 : Int64)), (.long u)]
  refine Go.ladd (pc' := 10) d13_9 rfl ?_
  exact Go.retJ rfl d13_10 ⟨rfl, rfl⟩ (by decide) (by decide)
set_option maxRecDepth 65536 in
set_option maxHeartbeats 4000000 in
theorem c_end3 (l : Launch) (Z : State) (a0 : Array Value) (hw : ∀ d ∈ tables_1, d.before a0 Z = true) {n0 : Nat} (h : Heap) (a : Addr) (u : Int64) (f : Fld Z h a "com/example/rens/rens/TimeRing" "first" "J" (.long u)) (g : Fld Z h a "com/example/rens/rens/TimeRing" "size" "I" (.int (3 : Int32))) :
    Con l (⟨"com/example/rens/rens/TimeRing", "end", "()J"⟩ : MethodName) prog_22_method_3_code 1 (some .long) ({ frames := 0, cells := 0, slots := 0, locals := 0 } : Room) Z n0 #[(.ref a)] h (fun v h' => v = some (.long (u + (3 : Int64))) ∧ h = h') := by
  refine Con.of_go (plainFor_of_name pn_1) (Ls := #[.val (.ref a)]) (fun m => by first | (simp [entryFrame, mkF, argsToLocals, Value.category]; done) | rfl) ?_
  refine Go.aloadN (pc' := 1) d13_0 rfl rfl rfl ?_
  refine Go.getfield (pc' := 4) (host := "") (Or.inl (ww hw 31 rfl)) Via.refl f d13_1 rfl ?_
  refine Go.aloadN (pc' := 5) d13_4 rfl rfl rfl ?_
  refine Go.getfield (pc' := 8) (host := "") (Or.inl (ww hw 29 rfl)) Via.refl g d13_5 rfl ?_
  refine Go.i2l (pc' := 9) d13_8 rfl ?_
  show Go _ _ _ _ _ _ _ _ _ _ _ _ 9 #[.val (.ref a)] [(.long (3 : Int64)), (.long u)]
  refine Go.ladd (pc' := 10) d13_9 rfl ?_
  exact Go.retJ rfl d13_10 ⟨rfl, rfl⟩ (by decide) (by decide)
set_option maxRecDepth 65536 in
set_option maxHeartbeats 4000000 in
theorem c_end4 (l : Launch) (Z : State) (a0 : Array Value) (hw : ∀ d ∈ tables_1, d.before a0 Z = true) {n0 : Nat} (h : Heap) (a : Addr) (u : Int64) (f : Fld Z h a "com/example/rens/rens/TimeRing" "first" "J" (.long u)) (g : Fld Z h a "com/example/rens/rens/TimeRing" "size" "I" (.int (4 : Int32))) :
    Con l (⟨"com/example/rens/rens/TimeRing", "end", "()J"⟩ : MethodName) prog_22_method_3_code 1 (some .long) ({ frames := 0, cells := 0, slots := 0, locals := 0 } : Room) Z n0 #[(.ref a)] h (fun v h' => v = some (.long (u + (4 : Int64))) ∧ h = h') := by
  refine Con.of_go (plainFor_of_name pn_1) (Ls := #[.val (.ref a)]) (fun m => by first | (simp [entryFrame, mkF, argsToLocals, Value.category]; done) | rfl) ?_
  refine Go.aloadN (pc' := 1) d13_0 rfl rfl rfl ?_
  refine Go.getfield (pc' := 4) (host := "") (Or.inl (ww hw 31 rfl)) Via.refl f d13_1 rfl ?_
  refine Go.aloadN (pc' := 5) d13_4 rfl rfl rfl ?_
  refine Go.getfield (pc' := 8) (host := "") (Or.inl (ww hw 29 rfl)) Via.refl g d13_5 rfl ?_
  refine Go.i2l (pc' := 9) d13_8 rfl ?_
  show Go _ _ _ _ _ _ _ _ _ _ _ _ 9 #[.val (.ref a)] [(.long (4 : Int64)), (.long u)]
  refine Go.ladd (pc' := 10) d13_9 rfl ?_
  exact Go.retJ rfl d13_10 ⟨rfl, rfl⟩ (by decide) (by decide)
theorem d14_0 : decode prog_22_method_5_code 0 = .ok (.lload_n 1, 1) := by decide +kernel
theorem d14_1 : decode prog_22_method_5_code 1 = .ok (.aload_n 0, 1) := by decide +kernel
theorem d14_2 : decode prog_22_method_5_code 2 = .ok (.getfield 17, 3) := by decide +kernel
theorem d14_5 : decode prog_22_method_5_code 5 = .ok (.lsub, 1) := by decide +kernel
theorem d14_6 : decode prog_22_method_5_code 6 = .ok (.lstore_n 3, 1) := by decide +kernel
theorem d14_7 : decode prog_22_method_5_code 7 = .ok (.lload_n 3, 1) := by decide +kernel
theorem d14_8 : decode prog_22_method_5_code 8 = .ok (.lconst 0, 1) := by decide +kernel
theorem d14_9 : decode prog_22_method_5_code 9 = .ok (.lcmp, 1) := by decide +kernel
theorem d14_10 : decode prog_22_method_5_code 10 = .ok (.ifCond .lt 13, 3) := by decide +kernel
theorem d14_13 : decode prog_22_method_5_code 13 = .ok (.lload_n 3, 1) := by decide +kernel
theorem d14_14 : decode prog_22_method_5_code 14 = .ok (.aload_n 0, 1) := by decide +kernel
theorem d14_15 : decode prog_22_method_5_code 15 = .ok (.getfield 21, 3) := by decide +kernel
theorem d14_18 : decode prog_22_method_5_code 18 = .ok (.i2l, 1) := by decide +kernel
theorem d14_19 : decode prog_22_method_5_code 19 = .ok (.lcmp, 1) := by decide +kernel
theorem d14_20 : decode prog_22_method_5_code 20 = .ok (.ifCond .lt 5, 3) := by decide +kernel
theorem d14_23 : decode prog_22_method_5_code 23 = .ok (.aconst_null, 1) := by decide +kernel
theorem d14_24 : decode prog_22_method_5_code 24 = .ok (.areturn, 1) := by decide +kernel
set_option maxRecDepth 65536 in
set_option maxHeartbeats 4000000 in
theorem c_get0_0_0 (l : Launch) (Z : State) (a0 : Array Value) (hw : ∀ d ∈ tables_1, d.before a0 Z = true) {n0 : Nat} (h : Heap) (a : Addr) (sa : Addr) (ks : ClassId) (na : Addr) (kn : ClassId) (u : Int64) (v : Int64) (wp : Addr) (ho : (u - v) = (0 : Int64)) (sp : Sta Z Z.heap "java/time/Instant" "EPOCH" "Ljava/time/Instant;" (.ref wp)) (xp : Exa Z Z.heap wp "java/time/Instant") (fp : Fld Z Z.heap wp "java/time/Instant" "seconds" "J" (.long (0 : Int64))) (gp : Fld Z Z.heap wp "java/time/Instant" "nanos" "I" (.int (0 : Int32))) (x : Exa Z h a "com/example/rens/rens/TimeRing") (pf0 : Fld Z h a "com/example/rens/rens/TimeRing" "seconds" "[J" (.ref sa)) (pf1 : Fld Z h a "com/example/rens/rens/TimeRing" "nanos" "[I" (.ref na)) (pf2 : Fld Z h a "com/example/rens/rens/TimeRing" "head" "I" (.int (0 : Int32))) (pf3 : Fld Z h a "com/example/rens/rens/TimeRing" "size" "I" (.int (0 : Int32))) (pf4 : Fld Z h a "com/example/rens/rens/TimeRing" "first" "J" (.long v)) (vs : Arv Z h sa ks .long (4 : Int32) [(.long 0), (.long 0), (.long 0), (.long 0)] (.long 0)) (vn : Arv Z h na kn .int (4 : Int32) [(.int 0), (.int 0), (.int 0), (.int 0)] (.int 0)) :
    Con l (⟨"com/example/rens/rens/TimeRing", "get", "(J)Ljava/time/Instant;"⟩ : MethodName) prog_22_method_5_code 6 (some (.object "java/time/Instant")) ({ frames := 0, cells := 0, slots := 0, locals := 0 } : Room) Z n0 #[(.ref a), (.long u)] h (fun v h' => v = some .null ∧ h = h') := by
  refine Con.of_go (plainFor_of_name pn_1) (Ls := #[.val (.ref a), .val (.long u), .second, .unset, .unset, .unset]) (fun m => by first | (simp [entryFrame, mkF, argsToLocals, Value.category]; done) | rfl) ?_
  refine Go.lloadN (pc' := 1) d14_0 rfl rfl ?_
  refine Go.aloadN (pc' := 2) d14_1 rfl rfl rfl ?_
  refine Go.getfield (pc' := 5) (host := "") (Or.inl (ww hw 31 rfl)) Via.refl pf4 d14_2 rfl ?_
  refine Go.lsub (pc' := 6) d14_5 rfl ?_
  rw [ho]
  refine Go.lstoreN (pc' := 7) (Ls' := #[.val (.ref a), .val (.long u), .second, .val (.long (0 : Int64)), .second, .unset]) d14_6 rfl rfl ?_
  refine Go.lloadN (pc' := 8) d14_7 rfl rfl ?_
  refine Go.lconst (pc' := 9) (v := (0 : Int64)) d14_8 rfl rfl ?_
  refine Go.lcmp (pc' := 10) d14_9 rfl ?_
  refine Go.ifNo (pc' := 13) d14_10 (XT.ll_lt_f (by decide)) rfl ?_
  refine Go.lloadN (pc' := 14) d14_13 rfl rfl ?_
  refine Go.aloadN (pc' := 15) d14_14 rfl rfl rfl ?_
  refine Go.getfield (pc' := 18) (host := "") (Or.inl (ww hw 29 rfl)) Via.refl pf3 d14_15 rfl ?_
  refine Go.i2l (pc' := 19) d14_18 rfl ?_
  show Go _ _ _ _ _ _ _ _ _ _ _ _ 19 #[.val (.ref a), .val (.long u), .second, .val (.long (0 : Int64)), .second, .unset] [(.long (0 : Int64)), (.long (0 : Int64))]
  refine Go.lcmp (pc' := 20) d14_19 rfl ?_
  refine Go.ifNo (pc' := 23) d14_20 (XT.ll_lt_f (by decide)) rfl ?_
  refine Go.aconstNull (pc' := 24) d14_23 rfl ?_
  exact Go.retR rfl rfl rfl rfl d14_24 ⟨rfl, rfl⟩ (by decide) (by decide)
set_option maxRecDepth 65536 in
set_option maxHeartbeats 4000000 in
theorem c_get0_0_m1 (l : Launch) (Z : State) (a0 : Array Value) (hw : ∀ d ∈ tables_1, d.before a0 Z = true) {n0 : Nat} (h : Heap) (a : Addr) (sa : Addr) (ks : ClassId) (na : Addr) (kn : ClassId) (u : Int64) (v : Int64) (wp : Addr) (ho : (u - v) = (-1 : Int64)) (sp : Sta Z Z.heap "java/time/Instant" "EPOCH" "Ljava/time/Instant;" (.ref wp)) (xp : Exa Z Z.heap wp "java/time/Instant") (fp : Fld Z Z.heap wp "java/time/Instant" "seconds" "J" (.long (0 : Int64))) (gp : Fld Z Z.heap wp "java/time/Instant" "nanos" "I" (.int (0 : Int32))) (x : Exa Z h a "com/example/rens/rens/TimeRing") (pf0 : Fld Z h a "com/example/rens/rens/TimeRing" "seconds" "[J" (.ref sa)) (pf1 : Fld Z h a "com/example/rens/rens/TimeRing" "nanos" "[I" (.ref na)) (pf2 : Fld Z h a "com/example/rens/rens/TimeRing" "head" "I" (.int (0 : Int32))) (pf3 : Fld Z h a "com/example/rens/rens/TimeRing" "size" "I" (.int (0 : Int32))) (pf4 : Fld Z h a "com/example/rens/rens/TimeRing" "first" "J" (.long v)) (vs : Arv Z h sa ks .long (4 : Int32) [(.long 0), (.long 0), (.long 0), (.long 0)] (.long 0)) (vn : Arv Z h na kn .int (4 : Int32) [(.int 0), (.int 0), (.int 0), (.int 0)] (.int 0)) :
    Con l (⟨"com/example/rens/rens/TimeRing", "get", "(J)Ljava/time/Instant;"⟩ : MethodName) prog_22_method_5_code 6 (some (.object "java/time/Instant")) ({ frames := 0, cells := 0, slots := 0, locals := 0 } : Room) Z n0 #[(.ref a), (.long u)] h (fun v h' => v = some .null ∧ h = h') := by
  refine Con.of_go (plainFor_of_name pn_1) (Ls := #[.val (.ref a), .val (.long u), .second, .unset, .unset, .unset]) (fun m => by first | (simp [entryFrame, mkF, argsToLocals, Value.category]; done) | rfl) ?_
  refine Go.lloadN (pc' := 1) d14_0 rfl rfl ?_
  refine Go.aloadN (pc' := 2) d14_1 rfl rfl rfl ?_
  refine Go.getfield (pc' := 5) (host := "") (Or.inl (ww hw 31 rfl)) Via.refl pf4 d14_2 rfl ?_
  refine Go.lsub (pc' := 6) d14_5 rfl ?_
  rw [ho]
  refine Go.lstoreN (pc' := 7) (Ls' := #[.val (.ref a), .val (.long u), .second, .val (.long (-1 : Int64)), .second, .unset]) d14_6 rfl rfl ?_
  refine Go.lloadN (pc' := 8) d14_7 rfl rfl ?_
  refine Go.lconst (pc' := 9) (v := (0 : Int64)) d14_8 rfl rfl ?_
  refine Go.lcmp (pc' := 10) d14_9 rfl ?_
  refine Go.ifYes (pc' := 23) d14_10 (XT.ll_lt_t (by decide)) (by decide) (by decide) ?_
  refine Go.aconstNull (pc' := 24) d14_23 rfl ?_
  exact Go.retR rfl rfl rfl rfl d14_24 ⟨rfl, rfl⟩ (by decide) (by decide)
set_option maxRecDepth 65536 in
set_option maxHeartbeats 4000000 in
theorem c_slot0_0_1 (l : Launch) (Z : State) (a0 : Array Value) (hw : ∀ d ∈ tables_1, d.before a0 Z = true) {n0 : Nat} (h : Heap) (a : Addr) (sa : Addr) (ks : ClassId) (o : Int64) (ho : o = (0 : Int64)) (fh : Fld Z h a "com/example/rens/rens/TimeRing" "head" "I" (.int (0 : Int32))) (fs : Fld Z h a "com/example/rens/rens/TimeRing" "seconds" "[J" (.ref sa)) (v : Arv Z h sa ks .long (4 : Int32) [(.long 0), (.long 0), (.long 0), (.long 0)] (.long 0)) :
    Con l (⟨"com/example/rens/rens/TimeRing", "slot", "(J)I"⟩ : MethodName) prog_22_method_8_code 3 (some .int) ({ frames := 0, cells := 0, slots := 0, locals := 0 } : Room) Z n0 #[(.ref a), (.long o)] h (fun v h' => v = some (.int (0 : Int32)) ∧ h = h') := by
  refine Con.of_go (plainFor_of_name pn_1) (Ls := #[.val (.ref a), .val (.long o), .second]) (fun m => by first | (simp [entryFrame, mkF, argsToLocals, Value.category]; done) | rfl) ?_
  refine Go.aloadN (pc' := 1) d6_0 rfl rfl rfl ?_
  refine Go.getfield (pc' := 4) (host := "") (Or.inl (ww hw 37 rfl)) Via.refl fh d6_1 rfl ?_
  refine Go.i2l (pc' := 5) d6_4 rfl ?_
  show Go _ _ _ _ _ _ _ _ _ _ _ _ 5 #[.val (.ref a), .val (.long o), .second] [(.long (0 : Int64))]
  refine Go.lloadN (pc' := 6) d6_5 rfl rfl ?_
  refine Go.ladd (pc' := 7) d6_6 rfl ?_
  refine Go.aloadN (pc' := 8) d6_7 rfl rfl rfl ?_
  refine Go.getfield (pc' := 11) (host := "") (Or.inl (ww hw 11 rfl)) Via.refl fs d6_8 rfl ?_
  refine Go.arraylength (pc' := 12) v d6_11 rfl ?_
  refine Go.iconst (pc' := 13) (v := (1 : Int32)) d6_12 rfl rfl ?_
  refine Go.isub (pc' := 14) d6_13 rfl ?_
  show Go _ _ _ _ _ _ _ _ _ _ _ _ 14 #[.val (.ref a), .val (.long o), .second] [(.int (3 : Int32)), (.long ((0 : Int64) + o))]
  refine Go.i2l (pc' := 15) d6_14 rfl ?_
  show Go _ _ _ _ _ _ _ _ _ _ _ _ 15 #[.val (.ref a), .val (.long o), .second] [(.long (3 : Int64)), (.long ((0 : Int64) + o))]
  refine Go.land (pc' := 16) d6_15 rfl ?_
  refine Go.l2i (pc' := 17) d6_16 rfl ?_
  exact Go.retI rfl d6_17 ⟨(by rw [ho]; rfl), rfl⟩ (by decide) (by decide)
theorem d14_25 : decode prog_22_method_5_code 25 = .ok (.aload_n 0, 1) := by decide +kernel
theorem d14_26 : decode prog_22_method_5_code 26 = .ok (.lload_n 3, 1) := by decide +kernel
theorem d14_27 : decode prog_22_method_5_code 27 = .ok (.invokevirtual 25, 3) := by decide +kernel
theorem d14_30 : decode prog_22_method_5_code 30 = .ok (.istore 5, 2) := by decide +kernel
theorem d14_32 : decode prog_22_method_5_code 32 = .ok (.aload_n 0, 1) := by decide +kernel
theorem d14_33 : decode prog_22_method_5_code 33 = .ok (.getfield 7, 3) := by decide +kernel
theorem d14_36 : decode prog_22_method_5_code 36 = .ok (.iload 5, 2) := by decide +kernel
theorem d14_38 : decode prog_22_method_5_code 38 = .ok (.laload, 1) := by decide +kernel
theorem d14_39 : decode prog_22_method_5_code 39 = .ok (.aload_n 0, 1) := by decide +kernel
theorem d14_40 : decode prog_22_method_5_code 40 = .ok (.getfield 13, 3) := by decide +kernel
theorem d14_43 : decode prog_22_method_5_code 43 = .ok (.iload 5, 2) := by decide +kernel
theorem d14_45 : decode prog_22_method_5_code 45 = .ok (.iaload, 1) := by decide +kernel
theorem d14_46 : decode prog_22_method_5_code 46 = .ok (.i2l, 1) := by decide +kernel
theorem d14_47 : decode prog_22_method_5_code 47 = .ok (.invokestatic 29, 3) := by decide +kernel
theorem d14_50 : decode prog_22_method_5_code 50 = .ok (.areturn, 1) := by decide +kernel
theorem pd_6 : parseMethodDescriptor "(JJ)Ljava/time/Instant;" = some ⟨[.long, .long], some (.object "java/time/Instant")⟩ := by decide +kernel
set_option maxRecDepth 65536 in
set_option maxHeartbeats 4000000 in
theorem c_get1_0_0 (l : Launch) (Z : State) (a0 : Array Value) (hw : ∀ d ∈ tables_1, d.before a0 Z = true) {n0 : Nat} (h : Heap) (a : Addr) (sa : Addr) (ks : ClassId) (na : Addr) (kn : ClassId) (u : Int64) (v : Int64) (wp : Addr) (ho : (u - v) = (0 : Int64)) (sp : Sta Z Z.heap "java/time/Instant" "EPOCH" "Ljava/time/Instant;" (.ref wp)) (xp : Exa Z Z.heap wp "java/time/Instant") (fp : Fld Z Z.heap wp "java/time/Instant" "seconds" "J" (.long (0 : Int64))) (gp : Fld Z Z.heap wp "java/time/Instant" "nanos" "I" (.int (0 : Int32))) (x : Exa Z h a "com/example/rens/rens/TimeRing") (pf0 : Fld Z h a "com/example/rens/rens/TimeRing" "seconds" "[J" (.ref sa)) (pf1 : Fld Z h a "com/example/rens/rens/TimeRing" "nanos" "[I" (.ref na)) (pf2 : Fld Z h a "com/example/rens/rens/TimeRing" "head" "I" (.int (0 : Int32))) (pf3 : Fld Z h a "com/example/rens/rens/TimeRing" "size" "I" (.int (1 : Int32))) (pf4 : Fld Z h a "com/example/rens/rens/TimeRing" "first" "J" (.long v)) (vs : Arv Z h sa ks .long (4 : Int32) [(.long 0), (.long 0), (.long 0), (.long 0)] (.long 0)) (vn : Arv Z h na kn .int (4 : Int32) [(.int 0), (.int 0), (.int 0), (.int 0)] (.int 0)) :
    Con l (⟨"com/example/rens/rens/TimeRing", "get", "(J)Ljava/time/Instant;"⟩ : MethodName) prog_22_method_5_code 6 (some (.object "java/time/Instant")) ({ frames := 2, cells := 0, slots := 0, locals := 37 } : Room) Z n0 #[(.ref a), (.long u)] h (fun v h' => v = some (.ref wp) ∧ h = h') := by
  refine Con.of_go (plainFor_of_name pn_1) (Ls := #[.val (.ref a), .val (.long u), .second, .unset, .unset, .unset]) (fun m => by first | (simp [entryFrame, mkF, argsToLocals, Value.category]; done) | rfl) ?_
  refine Go.lloadN (pc' := 1) d14_0 rfl rfl ?_
  refine Go.aloadN (pc' := 2) d14_1 rfl rfl rfl ?_
  refine Go.getfield (pc' := 5) (host := "") (Or.inl (ww hw 31 rfl)) Via.refl pf4 d14_2 rfl ?_
  refine Go.lsub (pc' := 6) d14_5 rfl ?_
  rw [ho]
  refine Go.lstoreN (pc' := 7) (Ls' := #[.val (.ref a), .val (.long u), .second, .val (.long (0 : Int64)), .second, .unset]) d14_6 rfl rfl ?_
  refine Go.lloadN (pc' := 8) d14_7 rfl rfl ?_
  refine Go.lconst (pc' := 9) (v := (0 : Int64)) d14_8 rfl rfl ?_
  refine Go.lcmp (pc' := 10) d14_9 rfl ?_
  refine Go.ifNo (pc' := 13) d14_10 (XT.ll_lt_f (by decide)) rfl ?_
  refine Go.lloadN (pc' := 14) d14_13 rfl rfl ?_
  refine Go.aloadN (pc' := 15) d14_14 rfl rfl rfl ?_
  refine Go.getfield (pc' := 18) (host := "") (Or.inl (ww hw 29 rfl)) Via.refl pf3 d14_15 rfl ?_
  refine Go.i2l (pc' := 19) d14_18 rfl ?_
  show Go _ _ _ _ _ _ _ _ _ _ _ _ 19 #[.val (.ref a), .val (.long u), .second, .val (.long (0 : Int64)), .second, .unset] [(.long (1 : Int64)), (.long (0 : Int64))]
  refine Go.lcmp (pc' := 20) d14_19 rfl ?_
  refine Go.ifYes (pc' := 25) d14_20 (XT.ll_lt_t (by decide)) (by decide) (by decide) ?_
  refine Go.aloadN (pc' := 26) d14_25 rfl rfl rfl ?_
  refine Go.lloadN (pc' := 27) d14_26 rfl rfl ?_
  refine Go.callP (cells' := 0) (slots' := 0) (pc' := 30) [(.long (0 : Int64))] [] x (ww hw 33 rfl) (ww hw 34 rfl) (Jvm.Kit.selects_private (by decide) (ww hw 2 rfl) (ww hw 35 rfl) (ww hw 34 rfl)) (ww hw 35 rfl) (ww hw 3 rfl) (ww hw 36 rfl) (by decide) (c_slot0_0_1 l Z a0 hw h a sa ks (0 : Int64) (by decide) pf2 pf0 vs) pd_3 rfl rfl rfl rfl rfl (nl rfl) (nl rfl) (nl rfl) (nl rfl) d14_27 rfl ?_
  rintro _ _ ⟨rfl, rfl⟩
  show Go _ _ _ _ _ _ _ _ _ _ _ _ 30 #[.val (.ref a), .val (.long u), .second, .val (.long (0 : Int64)), .second, .unset] [(.int (0 : Int32))]
  refine Go.istore (pc' := 32) (Ls' := #[.val (.ref a), .val (.long u), .second, .val (.long (0 : Int64)), .second, .val (.int (0 : Int32))]) d14_30 rfl rfl ?_
  refine Go.aloadN (pc' := 33) d14_32 rfl rfl rfl ?_
  refine Go.getfield (pc' := 36) (host := "") (Or.inl (ww hw 11 rfl)) Via.refl pf0 d14_33 rfl ?_
  refine Go.iload (pc' := 38) d14_36 rfl rfl ?_
  refine Go.laload (pc' := 39) (v := (0 : Int64)) vs d14_38 (by decide) (by decide) rfl rfl ?_
  refine Go.aloadN (pc' := 40) d14_39 rfl rfl rfl ?_
  refine Go.getfield (pc' := 43) (host := "") (Or.inl (ww hw 14 rfl)) Via.refl pf1 d14_40 rfl ?_
  refine Go.iload (pc' := 45) d14_43 rfl rfl ?_
  refine Go.iaload (pc' := 46) (v := (0 : Int32)) vn d14_45 (by decide) (by decide) rfl rfl ?_
  refine Go.i2l (pc' := 47) d14_46 rfl ?_
  show Go _ _ _ _ _ _ _ _ _ _ _ _ 47 #[.val (.ref a), .val (.long u), .second, .val (.long (0 : Int64)), .second, .val (.int (0 : Int32))] [(.long (0 : Int64)), (.long (0 : Int64))]
  refine Go.callS (cells' := 0) (slots' := 0) (pc' := 50) [(.long (0 : Int64)), (.long (0 : Int64))] [] (ww hw 87 rfl) (ww hw 88 rfl) (ww hw 18 rfl) (ww hw 89 rfl) (by decide) (c_ofSecN0 l Z a0 hw h wp sp xp fp gp) pd_6 rfl rfl rfl rfl rfl (nl rfl) (nl rfl) (nl rfl) (nl rfl) d14_47 rfl ?_
  rintro _ _ ⟨rfl, rfl⟩
  show Go _ _ _ _ _ _ _ _ _ _ _ _ 50 #[.val (.ref a), .val (.long u), .second, .val (.long (0 : Int64)), .second, .val (.int (0 : Int32))] [(.ref wp)]
  exact Go.retR rfl rfl rfl rfl d14_50 ⟨rfl, rfl⟩ (by decide) (by decide)
set_option maxRecDepth 65536 in
set_option maxHeartbeats 4000000 in
theorem c_get1_0_m1 (l : Launch) (Z : State) (a0 : Array Value) (hw : ∀ d ∈ tables_1, d.before a0 Z = true) {n0 : Nat} (h : Heap) (a : Addr) (sa : Addr) (ks : ClassId) (na : Addr) (kn : ClassId) (u : Int64) (v : Int64) (wp : Addr) (ho : (u - v) = (-1 : Int64)) (sp : Sta Z Z.heap "java/time/Instant" "EPOCH" "Ljava/time/Instant;" (.ref wp)) (xp : Exa Z Z.heap wp "java/time/Instant") (fp : Fld Z Z.heap wp "java/time/Instant" "seconds" "J" (.long (0 : Int64))) (gp : Fld Z Z.heap wp "java/time/Instant" "nanos" "I" (.int (0 : Int32))) (x : Exa Z h a "com/example/rens/rens/TimeRing") (pf0 : Fld Z h a "com/example/rens/rens/TimeRing" "seconds" "[J" (.ref sa)) (pf1 : Fld Z h a "com/example/rens/rens/TimeRing" "nanos" "[I" (.ref na)) (pf2 : Fld Z h a "com/example/rens/rens/TimeRing" "head" "I" (.int (0 : Int32))) (pf3 : Fld Z h a "com/example/rens/rens/TimeRing" "size" "I" (.int (1 : Int32))) (pf4 : Fld Z h a "com/example/rens/rens/TimeRing" "first" "J" (.long v)) (vs : Arv Z h sa ks .long (4 : Int32) [(.long 0), (.long 0), (.long 0), (.long 0)] (.long 0)) (vn : Arv Z h na kn .int (4 : Int32) [(.int 0), (.int 0), (.int 0), (.int 0)] (.int 0)) :
    Con l (⟨"com/example/rens/rens/TimeRing", "get", "(J)Ljava/time/Instant;"⟩ : MethodName) prog_22_method_5_code 6 (some (.object "java/time/Instant")) ({ frames := 0, cells := 0, slots := 0, locals := 0 } : Room) Z n0 #[(.ref a), (.long u)] h (fun v h' => v = some .null ∧ h = h') := by
  refine Con.of_go (plainFor_of_name pn_1) (Ls := #[.val (.ref a), .val (.long u), .second, .unset, .unset, .unset]) (fun m => by first | (simp [entryFrame, mkF, argsToLocals, Value.category]; done) | rfl) ?_
  refine Go.lloadN (pc' := 1) d14_0 rfl rfl ?_
  refine Go.aloadN (pc' := 2) d14_1 rfl rfl rfl ?_
  refine Go.getfield (pc' := 5) (host := "") (Or.inl (ww hw 31 rfl)) Via.refl pf4 d14_2 rfl ?_
  refine Go.lsub (pc' := 6) d14_5 rfl ?_
  rw [ho]
  refine Go.lstoreN (pc' := 7) (Ls' := #[.val (.ref a), .val (.long u), .second, .val (.long (-1 : Int64)), .second, .unset]) d14_6 rfl rfl ?_
  refine Go.lloadN (pc' := 8) d14_7 rfl rfl ?_
  refine Go.lconst (pc' := 9) (v := (0 : Int64)) d14_8 rfl rfl ?_
  refine Go.lcmp (pc' := 10) d14_9 rfl ?_
  refine Go.ifYes (pc' := 23) d14_10 (XT.ll_lt_t (by decide)) (by decide) (by decide) ?_
  refine Go.aconstNull (pc' := 24) d14_23 rfl ?_
  exact Go.retR rfl rfl rfl rfl d14_24 ⟨rfl, rfl⟩ (by decide) (by decide)
set_option maxRecDepth 65536 in
set_option maxHeartbeats 4000000 in
theorem c_get1_1_0 (l : Launch) (Z : State) (a0 : Array Value) (hw : ∀ d ∈ tables_1, d.before a0 Z = true) {n0 : Nat} (h : Heap) (a : Addr) (sa : Addr) (ks : ClassId) (na : Addr) (kn : ClassId) (u : Int64) (v : Int64) (wp : Addr) (ho : (u - v) = (0 : Int64)) (sp : Sta Z Z.heap "java/time/Instant" "EPOCH" "Ljava/time/Instant;" (.ref wp)) (xp : Exa Z Z.heap wp "java/time/Instant") (fp : Fld Z Z.heap wp "java/time/Instant" "seconds" "J" (.long (0 : Int64))) (gp : Fld Z Z.heap wp "java/time/Instant" "nanos" "I" (.int (0 : Int32))) (x : Exa Z h a "com/example/rens/rens/TimeRing") (pf0 : Fld Z h a "com/example/rens/rens/TimeRing" "seconds" "[J" (.ref sa)) (pf1 : Fld Z h a "com/example/rens/rens/TimeRing" "nanos" "[I" (.ref na)) (pf2 : Fld Z h a "com/example/rens/rens/TimeRing" "head" "I" (.int (1 : Int32))) (pf3 : Fld Z h a "com/example/rens/rens/TimeRing" "size" "I" (.int (0 : Int32))) (pf4 : Fld Z h a "com/example/rens/rens/TimeRing" "first" "J" (.long v)) (vs : Arv Z h sa ks .long (4 : Int32) [(.long 0), (.long 0), (.long 0), (.long 0)] (.long 0)) (vn : Arv Z h na kn .int (4 : Int32) [(.int 0), (.int 0), (.int 0), (.int 0)] (.int 0)) :
    Con l (⟨"com/example/rens/rens/TimeRing", "get", "(J)Ljava/time/Instant;"⟩ : MethodName) prog_22_method_5_code 6 (some (.object "java/time/Instant")) ({ frames := 0, cells := 0, slots := 0, locals := 0 } : Room) Z n0 #[(.ref a), (.long u)] h (fun v h' => v = some .null ∧ h = h') := by
  refine Con.of_go (plainFor_of_name pn_1) (Ls := #[.val (.ref a), .val (.long u), .second, .unset, .unset, .unset]) (fun m => by first | (simp [entryFrame, mkF, argsToLocals, Value.category]; done) | rfl) ?_
  refine Go.lloadN (pc' := 1) d14_0 rfl rfl ?_
  refine Go.aloadN (pc' := 2) d14_1 rfl rfl rfl ?_
  refine Go.getfield (pc' := 5) (host := "") (Or.inl (ww hw 31 rfl)) Via.refl pf4 d14_2 rfl ?_
  refine Go.lsub (pc' := 6) d14_5 rfl ?_
  rw [ho]
  refine Go.lstoreN (pc' := 7) (Ls' := #[.val (.ref a), .val (.long u), .second, .val (.long (0 : Int64)), .second, .unset]) d14_6 rfl rfl ?_
  refine Go.lloadN (pc' := 8) d14_7 rfl rfl ?_
  refine Go.lconst (pc' := 9) (v := (0 : Int64)) d14_8 rfl rfl ?_
  refine Go.lcmp (pc' := 10) d14_9 rfl ?_
  refine Go.ifNo (pc' := 13) d14_10 (XT.ll_lt_f (by decide)) rfl ?_
  refine Go.lloadN (pc' := 14) d14_13 rfl rfl ?_
  refine Go.aloadN (pc' := 15) d14_14 rfl rfl rfl ?_
  refine Go.getfield (pc' := 18) (host := "") (Or.inl (ww hw 29 rfl)) Via.refl pf3 d14_15 rfl ?_
  refine Go.i2l (pc' := 19) d14_18 rfl ?_
  show Go _ _ _ _ _ _ _ _ _ _ _ _ 19 #[.val (.ref a), .val (.long u), .second, .val (.long (0 : Int64)), .second, .unset] [(.long (0 : Int64)), (.long (0 : Int64))]
  refine Go.lcmp (pc' := 20) d14_19 rfl ?_
  refine Go.ifNo (pc' := 23) d14_20 (XT.ll_lt_f (by decide)) rfl ?_
  refine Go.aconstNull (pc' := 24) d14_23 rfl ?_
  exact Go.retR rfl rfl rfl rfl d14_24 ⟨rfl, rfl⟩ (by decide) (by decide)
set_option maxRecDepth 65536 in
set_option maxHeartbeats 4000000 in
theorem c_get1_1_m1 (l : Launch) (Z : State) (a0 : Array Value) (hw : ∀ d ∈ tables_1, d.before a0 Z = true) {n0 : Nat} (h : Heap) (a : Addr) (sa : Addr) (ks : ClassId) (na : Addr) (kn : ClassId) (u : Int64) (v : Int64) (wp : Addr) (ho : (u - v) = (-1 : Int64)) (sp : Sta Z Z.heap "java/time/Instant" "EPOCH" "Ljava/time/Instant;" (.ref wp)) (xp : Exa Z Z.heap wp "java/time/Instant") (fp : Fld Z Z.heap wp "java/time/Instant" "seconds" "J" (.long (0 : Int64))) (gp : Fld Z Z.heap wp "java/time/Instant" "nanos" "I" (.int (0 : Int32))) (x : Exa Z h a "com/example/rens/rens/TimeRing") (pf0 : Fld Z h a "com/example/rens/rens/TimeRing" "seconds" "[J" (.ref sa)) (pf1 : Fld Z h a "com/example/rens/rens/TimeRing" "nanos" "[I" (.ref na)) (pf2 : Fld Z h a "com/example/rens/rens/TimeRing" "head" "I" (.int (1 : Int32))) (pf3 : Fld Z h a "com/example/rens/rens/TimeRing" "size" "I" (.int (0 : Int32))) (pf4 : Fld Z h a "com/example/rens/rens/TimeRing" "first" "J" (.long v)) (vs : Arv Z h sa ks .long (4 : Int32) [(.long 0), (.long 0), (.long 0), (.long 0)] (.long 0)) (vn : Arv Z h na kn .int (4 : Int32) [(.int 0), (.int 0), (.int 0), (.int 0)] (.int 0)) :
    Con l (⟨"com/example/rens/rens/TimeRing", "get", "(J)Ljava/time/Instant;"⟩ : MethodName) prog_22_method_5_code 6 (some (.object "java/time/Instant")) ({ frames := 0, cells := 0, slots := 0, locals := 0 } : Room) Z n0 #[(.ref a), (.long u)] h (fun v h' => v = some .null ∧ h = h') := by
  refine Con.of_go (plainFor_of_name pn_1) (Ls := #[.val (.ref a), .val (.long u), .second, .unset, .unset, .unset]) (fun m => by first | (simp [entryFrame, mkF, argsToLocals, Value.category]; done) | rfl) ?_
  refine Go.lloadN (pc' := 1) d14_0 rfl rfl ?_
  refine Go.aloadN (pc' := 2) d14_1 rfl rfl rfl ?_
  refine Go.getfield (pc' := 5) (host := "") (Or.inl (ww hw 31 rfl)) Via.refl pf4 d14_2 rfl ?_
  refine Go.lsub (pc' := 6) d14_5 rfl ?_
  rw [ho]
  refine Go.lstoreN (pc' := 7) (Ls' := #[.val (.ref a), .val (.long u), .second, .val (.long (-1 : Int64)), .second, .unset]) d14_6 rfl rfl ?_
  refine Go.lloadN (pc' := 8) d14_7 rfl rfl ?_
  refine Go.lconst (pc' := 9) (v := (0 : Int64)) d14_8 rfl rfl ?_
  refine Go.lcmp (pc' := 10) d14_9 rfl ?_
  refine Go.ifYes (pc' := 23) d14_10 (XT.ll_lt_t (by decide)) (by decide) (by decide) ?_
  refine Go.aconstNull (pc' := 24) d14_23 rfl ?_
  exact Go.retR rfl rfl rfl rfl d14_24 ⟨rfl, rfl⟩ (by decide) (by decide)
set_option maxRecDepth 65536 in
set_option maxHeartbeats 4000000 in
theorem c_slot0_0_2 (l : Launch) (Z : State) (a0 : Array Value) (hw : ∀ d ∈ tables_1, d.before a0 Z = true) {n0 : Nat} (h : Heap) (a : Addr) (sa : Addr) (ks : ClassId) (o : Int64) (ho : o = (0 : Int64)) (fh : Fld Z h a "com/example/rens/rens/TimeRing" "head" "I" (.int (0 : Int32))) (fs : Fld Z h a "com/example/rens/rens/TimeRing" "seconds" "[J" (.ref sa)) (v : Arv Z h sa ks .long (4 : Int32) [(.long 0), (.long 1), (.long 0), (.long 0)] (.long 0)) :
    Con l (⟨"com/example/rens/rens/TimeRing", "slot", "(J)I"⟩ : MethodName) prog_22_method_8_code 3 (some .int) ({ frames := 0, cells := 0, slots := 0, locals := 0 } : Room) Z n0 #[(.ref a), (.long o)] h (fun v h' => v = some (.int (0 : Int32)) ∧ h = h') := by
  refine Con.of_go (plainFor_of_name pn_1) (Ls := #[.val (.ref a), .val (.long o), .second]) (fun m => by first | (simp [entryFrame, mkF, argsToLocals, Value.category]; done) | rfl) ?_
  refine Go.aloadN (pc' := 1) d6_0 rfl rfl rfl ?_
  refine Go.getfield (pc' := 4) (host := "") (Or.inl (ww hw 37 rfl)) Via.refl fh d6_1 rfl ?_
  refine Go.i2l (pc' := 5) d6_4 rfl ?_
  show Go _ _ _ _ _ _ _ _ _ _ _ _ 5 #[.val (.ref a), .val (.long o), .second] [(.long (0 : Int64))]
  refine Go.lloadN (pc' := 6) d6_5 rfl rfl ?_
  refine Go.ladd (pc' := 7) d6_6 rfl ?_
  refine Go.aloadN (pc' := 8) d6_7 rfl rfl rfl ?_
  refine Go.getfield (pc' := 11) (host := "") (Or.inl (ww hw 11 rfl)) Via.refl fs d6_8 rfl ?_
  refine Go.arraylength (pc' := 12) v d6_11 rfl ?_
  refine Go.iconst (pc' := 13) (v := (1 : Int32)) d6_12 rfl rfl ?_
  refine Go.isub (pc' := 14) d6_13 rfl ?_
  show Go _ _ _ _ _ _ _ _ _ _ _ _ 14 #[.val (.ref a), .val (.long o), .second] [(.int (3 : Int32)), (.long ((0 : Int64) + o))]
  refine Go.i2l (pc' := 15) d6_14 rfl ?_
  show Go _ _ _ _ _ _ _ _ _ _ _ _ 15 #[.val (.ref a), .val (.long o), .second] [(.long (3 : Int64)), (.long ((0 : Int64) + o))]
  refine Go.land (pc' := 16) d6_15 rfl ?_
  refine Go.l2i (pc' := 17) d6_16 rfl ?_
  exact Go.retI rfl d6_17 ⟨(by rw [ho]; rfl), rfl⟩ (by decide) (by decide)
set_option maxRecDepth 65536 in
set_option maxHeartbeats 4000000 in
theorem c_get2_0_0 (l : Launch) (Z : State) (a0 : Array Value) (hw : ∀ d ∈ tables_1, d.before a0 Z = true) {n0 : Nat} (h : Heap) (a : Addr) (sa : Addr) (ks : ClassId) (na : Addr) (kn : ClassId) (u : Int64) (v : Int64) (wp : Addr) (ho : (u - v) = (0 : Int64)) (sp : Sta Z Z.heap "java/time/Instant" "EPOCH" "Ljava/time/Instant;" (.ref wp)) (xp : Exa Z Z.heap wp "java/time/Instant") (fp : Fld Z Z.heap wp "java/time/Instant" "seconds" "J" (.long (0 : Int64))) (gp : Fld Z Z.heap wp "java/time/Instant" "nanos" "I" (.int (0 : Int32))) (x : Exa Z h a "com/example/rens/rens/TimeRing") (pf0 : Fld Z h a "com/example/rens/rens/TimeRing" "seconds" "[J" (.ref sa)) (pf1 : Fld Z h a "com/example/rens/rens/TimeRing" "nanos" "[I" (.ref na)) (pf2 : Fld Z h a "com/example/rens/rens/TimeRing" "head" "I" (.int (0 : Int32))) (pf3 : Fld Z h a "com/example/rens/rens/TimeRing" "size" "I" (.int (2 : Int32))) (pf4 : Fld Z h a "com/example/rens/rens/TimeRing" "first" "J" (.long v)) (vs : Arv Z h sa ks .long (4 : Int32) [(.long 0), (.long 1), (.long 0), (.long 0)] (.long 0)) (vn : Arv Z h na kn .int (4 : Int32) [(.int 0), (.int 0), (.int 0), (.int 0)] (.int 0)) :
    Con l (⟨"com/example/rens/rens/TimeRing", "get", "(J)Ljava/time/Instant;"⟩ : MethodName) prog_22_method_5_code 6 (some (.object "java/time/Instant")) ({ frames := 2, cells := 0, slots := 0, locals := 37 } : Room) Z n0 #[(.ref a), (.long u)] h (fun v h' => v = some (.ref wp) ∧ h = h') := by
  refine Con.of_go (plainFor_of_name pn_1) (Ls := #[.val (.ref a), .val (.long u), .second, .unset, .unset, .unset]) (fun m => by first | (simp [entryFrame, mkF, argsToLocals, Value.category]; done) | rfl) ?_
  refine Go.lloadN (pc' := 1) d14_0 rfl rfl ?_
  refine Go.aloadN (pc' := 2) d14_1 rfl rfl rfl ?_
  refine Go.getfield (pc' := 5) (host := "") (Or.inl (ww hw 31 rfl)) Via.refl pf4 d14_2 rfl ?_
  refine Go.lsub (pc' := 6) d14_5 rfl ?_
  rw [ho]
  refine Go.lstoreN (pc' := 7) (Ls' := #[.val (.ref a), .val (.long u), .second, .val (.long (0 : Int64)), .second, .unset]) d14_6 rfl rfl ?_
  refine Go.lloadN (pc' := 8) d14_7 rfl rfl ?_
  refine Go.lconst (pc' := 9) (v := (0 : Int64)) d14_8 rfl rfl ?_
  refine Go.lcmp (pc' := 10) d14_9 rfl ?_
  refine Go.ifNo (pc' := 13) d14_10 (XT.ll_lt_f (by decide)) rfl ?_
  refine Go.lloadN (pc' := 14) d14_13 rfl rfl ?_
  refine Go.aloadN (pc' := 15) d14_14 rfl rfl rfl ?_
  refine Go.getfield (pc' := 18) (host := "") (Or.inl (ww hw 29 rfl)) Via.refl pf3 d14_15 rfl ?_
  refine Go.i2l (pc' := 19) d14_18 rfl ?_
  show Go _ _ _ _ _ _ _ _ _ _ _ _ 19 #[.val (.ref a), .val (.long u), .second, .val (.long (0 : Int64)), .second, .unset] [(.long (2 : Int64)), (.long (0 : Int64))]
  refine Go.lcmp (pc' := 20) d14_19 rfl ?_
  refine Go.ifYes (pc' := 25) d14_20 (XT.ll_lt_t (by decide)) (by decide) (by decide) ?_
  refine Go.aloadN (pc' := 26) d14_25 rfl rfl rfl ?_
  refine Go.lloadN (pc' := 27) d14_26 rfl rfl ?_
  refine Go.callP (cells' := 0) (slots' := 0) (pc' := 30) [(.long (0 : Int64))] [] x (ww hw 33 rfl) (ww hw 34 rfl) (Jvm.Kit.selects_private (by decide) (ww hw 2 rfl) (ww hw 35 rfl) (ww hw 34 rfl)) (ww hw 35 rfl) (ww hw 3 rfl) (ww hw 36 rfl) (by decide) (c_slot0_0_2 l Z a0 hw h a sa ks (0 : Int64) (by decide) pf2 pf0 vs) pd_3 rfl rfl rfl rfl rfl (nl rfl) (nl rfl) (nl rfl) (nl rfl) d14_27 rfl ?_
  rintro _ _ ⟨rfl, rfl⟩
  show Go _ _ _ _ _ _ _ _ _ _ _ _ 30 #[.val (.ref a), .val (.long u), .second, .val (.long (0 : Int64)), .second, .unset] [(.int (0 : Int32))]
  refine Go.istore (pc' := 32) (Ls' := #[.val (.ref a), .val (.long u), .second, .val (.long (0 : Int64)), .second, .val (.int (0 : Int32))]) d14_30 rfl rfl ?_
  refine Go.aloadN (pc' := 33) d14_32 rfl rfl rfl ?_
  refine Go.getfield (pc' := 36) (host := "") (Or.inl (ww hw 11 rfl)) Via.refl pf0 d14_33 rfl ?_
  refine Go.iload (pc' := 38) d14_36 rfl rfl ?_
  refine Go.laload (pc' := 39) (v := (0 : Int64)) vs d14_38 (by decide) (by decide) rfl rfl ?_
  refine Go.aloadN (pc' := 40) d14_39 rfl rfl rfl ?_
  refine Go.getfield (pc' := 43) (host := "") (Or.inl (ww hw 14 rfl)) Via.refl pf1 d14_40 rfl ?_
  refine Go.iload (pc' := 45) d14_43 rfl rfl ?_
  refine Go.iaload (pc' := 46) (v := (0 : Int32)) vn d14_45 (by decide) (by decide) rfl rfl ?_
  refine Go.i2l (pc' := 47) d14_46 rfl ?_
  show Go _ _ _ _ _ _ _ _ _ _ _ _ 47 #[.val (.ref a), .val (.long u), .second, .val (.long (0 : Int64)), .second, .val (.int (0 : Int32))] [(.long (0 : Int64)), (.long (0 : Int64))]
  refine Go.callS (cells' := 0) (slots' := 0) (pc' := 50) [(.long (0 : Int64)), (.long (0 : Int64))] [] (ww hw 87 rfl) (ww hw 88 rfl) (ww hw 18 rfl) (ww hw 89 rfl) (by decide) (c_ofSecN0 l Z a0 hw h wp sp xp fp gp) pd_6 rfl rfl rfl rfl rfl (nl rfl) (nl rfl) (nl rfl) (nl rfl) d14_47 rfl ?_
  rintro _ _ ⟨rfl, rfl⟩
  show Go _ _ _ _ _ _ _ _ _ _ _ _ 50 #[.val (.ref a), .val (.long u), .second, .val (.long (0 : Int64)), .second, .val (.int (0 : Int32))] [(.ref wp)]
  exact Go.retR rfl rfl rfl rfl d14_50 ⟨rfl, rfl⟩ (by decide) (by decide)
set_option maxRecDepth 65536 in
set_option maxHeartbeats 4000000 in
theorem c_get2_0_m1 (l : Launch) (Z : State) (a0 : Array Value) (hw : ∀ d ∈ tables_1, d.before a0 Z = true) {n0 : Nat} (h : Heap) (a : Addr) (sa : Addr) (ks : ClassId) (na : Addr) (kn : ClassId) (u : Int64) (v : Int64) (wp : Addr) (ho : (u - v) = (-1 : Int64)) (sp : Sta Z Z.heap "java/time/Instant" "EPOCH" "Ljava/time/Instant;" (.ref wp)) (xp : Exa Z Z.heap wp "java/time/Instant") (fp : Fld Z Z.heap wp "java/time/Instant" "seconds" "J" (.long (0 : Int64))) (gp : Fld Z Z.heap wp "java/time/Instant" "nanos" "I" (.int (0 : Int32))) (x : Exa Z h a "com/example/rens/rens/TimeRing") (pf0 : Fld Z h a "com/example/rens/rens/TimeRing" "seconds" "[J" (.ref sa)) (pf1 : Fld Z h a "com/example/rens/rens/TimeRing" "nanos" "[I" (.ref na)) (pf2 : Fld Z h a "com/example/rens/rens/TimeRing" "head" "I" (.int (0 : Int32))) (pf3 : Fld Z h a "com/example/rens/rens/TimeRing" "size" "I" (.int (2 : Int32))) (pf4 : Fld Z h a "com/example/rens/rens/TimeRing" "first" "J" (.long v)) (vs : Arv Z h sa ks .long (4 : Int32) [(.long 0), (.long 1), (.long 0), (.long 0)] (.long 0)) (vn : Arv Z h na kn .int (4 : Int32) [(.int 0), (.int 0), (.int 0), (.int 0)] (.int 0)) :
    Con l (⟨"com/example/rens/rens/TimeRing", "get", "(J)Ljava/time/Instant;"⟩ : MethodName) prog_22_method_5_code 6 (some (.object "java/time/Instant")) ({ frames := 0, cells := 0, slots := 0, locals := 0 } : Room) Z n0 #[(.ref a), (.long u)] h (fun v h' => v = some .null ∧ h = h') := by
  refine Con.of_go (plainFor_of_name pn_1) (Ls := #[.val (.ref a), .val (.long u), .second, .unset, .unset, .unset]) (fun m => by first | (simp [entryFrame, mkF, argsToLocals, Value.category]; done) | rfl) ?_
  refine Go.lloadN (pc' := 1) d14_0 rfl rfl ?_
  refine Go.aloadN (pc' := 2) d14_1 rfl rfl rfl ?_
  refine Go.getfield (pc' := 5) (host := "") (Or.inl (ww hw 31 rfl)) Via.refl pf4 d14_2 rfl ?_
  refine Go.lsub (pc' := 6) d14_5 rfl ?_
  rw [ho]
  refine Go.lstoreN (pc' := 7) (Ls' := #[.val (.ref a), .val (.long u), .second, .val (.long (-1 : Int64)), .second, .unset]) d14_6 rfl rfl ?_
  refine Go.lloadN (pc' := 8) d14_7 rfl rfl ?_
  refine Go.lconst (pc' := 9) (v := (0 : Int64)) d14_8 rfl rfl ?_
  refine Go.lcmp (pc' := 10) d14_9 rfl ?_
  refine Go.ifYes (pc' := 23) d14_10 (XT.ll_lt_t (by decide)) (by decide) (by decide) ?_
  refine Go.aconstNull (pc' := 24) d14_23 rfl ?_
  exact Go.retR rfl rfl rfl rfl d14_24 ⟨rfl, rfl⟩ (by decide) (by decide)
set_option maxRecDepth 65536 in
set_option maxHeartbeats 4000000 in
theorem c_slot0_1_2 (l : Launch) (Z : State) (a0 : Array Value) (hw : ∀ d ∈ tables_1, d.before a0 Z = true) {n0 : Nat} (h : Heap) (a : Addr) (sa : Addr) (ks : ClassId) (o : Int64) (ho : o = (1 : Int64)) (fh : Fld Z h a "com/example/rens/rens/TimeRing" "head" "I" (.int (0 : Int32))) (fs : Fld Z h a "com/example/rens/rens/TimeRing" "seconds" "[J" (.ref sa)) (v : Arv Z h sa ks .long (4 : Int32) [(.long 0), (.long 1), (.long 0), (.long 0)] (.long 0)) :
    Con l (⟨"com/example/rens/rens/TimeRing", "slot", "(J)I"⟩ : MethodName) prog_22_method_8_code 3 (some .int) ({ frames := 0, cells := 0, slots := 0, locals := 0 } : Room) Z n0 #[(.ref a), (.long o)] h (fun v h' => v = some (.int (1 : Int32)) ∧ h = h') := by
  refine Con.of_go (plainFor_of_name pn_1) (Ls := #[.val (.ref a), .val (.long o), .second]) (fun m => by first | (simp [entryFrame, mkF, argsToLocals, Value.category]; done) | rfl) ?_
  refine Go.aloadN (pc' := 1) d6_0 rfl rfl rfl ?_
  refine Go.getfield (pc' := 4) (host := "") (Or.inl (ww hw 37 rfl)) Via.refl fh d6_1 rfl ?_
  refine Go.i2l (pc' := 5) d6_4 rfl ?_
  show Go _ _ _ _ _ _ _ _ _ _ _ _ 5 #[.val (.ref a), .val (.long o), .second] [(.long (0 : Int64))]
  refine Go.lloadN (pc' := 6) d6_5 rfl rfl ?_
  refine Go.ladd (pc' := 7) d6_6 rfl ?_
  refine Go.aloadN (pc' := 8) d6_7 rfl rfl rfl ?_
  refine Go.getfield (pc' := 11) (host := "") (Or.inl (ww hw 11 rfl)) Via.refl fs d6_8 rfl ?_
  refine Go.arraylength (pc' := 12) v d6_11 rfl ?_
  refine Go.iconst (pc' := 13) (v := (1 : Int32)) d6_12 rfl rfl ?_
  refine Go.isub (pc' := 14) d6_13 rfl ?_
  show Go _ _ _ _ _ _ _ _ _ _ _ _ 14 #[.val (.ref a), .val (.long o), .second] [(.int (3 : Int32)), (.long ((0 : Int64) + o))]
  refine Go.i2l (pc' := 15) d6_14 rfl ?_
  show Go _ _ _ _ _ _ _ _ _ _ _ _ 15 #[.val (.ref a), .val (.long o), .second] [(.long (3 : Int64)), (.long ((0 : Int64) + o))]
  refine Go.land (pc' := 16) d6_15 rfl ?_
  refine Go.l2i (pc' := 17) d6_16 rfl ?_
  exact Go.retI rfl d6_17 ⟨(by rw [ho]; rfl), rfl⟩ (by decide) (by decide)
set_option maxRecDepth 65536 in
set_option maxHeartbeats 4000000 in
theorem c_get2_0_1 (l : Launch) (Z : State) (a0 : Array Value) (hw : ∀ d ∈ tables_1, d.before a0 Z = true) {n0 : Nat} (h : Heap) (a : Addr) (sa : Addr) (ks : ClassId) (na : Addr) (kn : ClassId) (u : Int64) (v : Int64) (wp : Addr) (ho : (u - v) = (1 : Int64)) (sp : Sta Z Z.heap "java/time/Instant" "EPOCH" "Ljava/time/Instant;" (.ref wp)) (xp : Exa Z Z.heap wp "java/time/Instant") (fp : Fld Z Z.heap wp "java/time/Instant" "seconds" "J" (.long (0 : Int64))) (gp : Fld Z Z.heap wp "java/time/Instant" "nanos" "I" (.int (0 : Int32))) (x : Exa Z h a "com/example/rens/rens/TimeRing") (pf0 : Fld Z h a "com/example/rens/rens/TimeRing" "seconds" "[J" (.ref sa)) (pf1 : Fld Z h a "com/example/rens/rens/TimeRing" "nanos" "[I" (.ref na)) (pf2 : Fld Z h a "com/example/rens/rens/TimeRing" "head" "I" (.int (0 : Int32))) (pf3 : Fld Z h a "com/example/rens/rens/TimeRing" "size" "I" (.int (2 : Int32))) (pf4 : Fld Z h a "com/example/rens/rens/TimeRing" "first" "J" (.long v)) (vs : Arv Z h sa ks .long (4 : Int32) [(.long 0), (.long 1), (.long 0), (.long 0)] (.long 0)) (vn : Arv Z h na kn .int (4 : Int32) [(.int 0), (.int 0), (.int 0), (.int 0)] (.int 0)) :
    Con l (⟨"com/example/rens/rens/TimeRing", "get", "(J)Ljava/time/Instant;"⟩ : MethodName) prog_22_method_5_code 6 (some (.object "java/time/Instant")) ({ frames := 4, cells := 1, slots := 2, locals := 60 } : Room) Z n0 #[(.ref a), (.long u)] h (fun v h' => ∃ r : Addr, v = some (.ref r) ∧ Keep h h' [] ∧ n0 ≤ r ∧ h.size ≤ r ∧ Exa Z h' r "java/time/Instant" ∧ Fld Z h' r "java/time/Instant" "seconds" "J" (.long (1 : Int64)) ∧ Fld Z h' r "java/time/Instant" "nanos" "I" (.int (0 : Int32))) := by
  refine Con.of_go (plainFor_of_name pn_1) (Ls := #[.val (.ref a), .val (.long u), .second, .unset, .unset, .unset]) (fun m => by first | (simp [entryFrame, mkF, argsToLocals, Value.category]; done) | rfl) ?_
  refine Go.lloadN (pc' := 1) d14_0 rfl rfl ?_
  refine Go.aloadN (pc' := 2) d14_1 rfl rfl rfl ?_
  refine Go.getfield (pc' := 5) (host := "") (Or.inl (ww hw 31 rfl)) Via.refl pf4 d14_2 rfl ?_
  refine Go.lsub (pc' := 6) d14_5 rfl ?_
  rw [ho]
  refine Go.lstoreN (pc' := 7) (Ls' := #[.val (.ref a), .val (.long u), .second, .val (.long (1 : Int64)), .second, .unset]) d14_6 rfl rfl ?_
  refine Go.lloadN (pc' := 8) d14_7 rfl rfl ?_
  refine Go.lconst (pc' := 9) (v := (0 : Int64)) d14_8 rfl rfl ?_
  refine Go.lcmp (pc' := 10) d14_9 rfl ?_
  refine Go.ifNo (pc' := 13) d14_10 (XT.ll_lt_f (by decide)) rfl ?_
  refine Go.lloadN (pc' := 14) d14_13 rfl rfl ?_
  refine Go.aloadN (pc' := 15) d14_14 rfl rfl rfl ?_
  refine Go.getfield (pc' := 18) (host := "") (Or.inl (ww hw 29 rfl)) Via.refl pf3 d14_15 rfl ?_
  refine Go.i2l (pc' := 19) d14_18 rfl ?_
  show Go _ _ _ _ _ _ _ _ _ _ _ _ 19 #[.val (.ref a), .val (.long u), .second, .val (.long (1 : Int64)), .second, .unset] [(.long (2 : Int64)), (.long (1 : Int64))]
  refine Go.lcmp (pc' := 20) d14_19 rfl ?_
  refine Go.ifYes (pc' := 25) d14_20 (XT.ll_lt_t (by decide)) (by decide) (by decide) ?_
  refine Go.aloadN (pc' := 26) d14_25 rfl rfl rfl ?_
  refine Go.lloadN (pc' := 27) d14_26 rfl rfl ?_
  refine Go.callP (cells' := 0) (slots' := 0) (pc' := 30) [(.long (1 : Int64))] [] x (ww hw 33 rfl) (ww hw 34 rfl) (Jvm.Kit.selects_private (by decide) (ww hw 2 rfl) (ww hw 35 rfl) (ww hw 34 rfl)) (ww hw 35 rfl) (ww hw 3 rfl) (ww hw 36 rfl) (by decide) (c_slot0_1_2 l Z a0 hw h a sa ks (1 : Int64) (by decide) pf2 pf0 vs) pd_3 rfl rfl rfl rfl rfl (nl rfl) (nl rfl) (nl rfl) (nl rfl) d14_27 rfl ?_
  rintro _ _ ⟨rfl, rfl⟩
  show Go _ _ _ _ _ _ _ _ _ _ _ _ 30 #[.val (.ref a), .val (.long u), .second, .val (.long (1 : Int64)), .second, .unset] [(.int (1 : Int32))]
  refine Go.istore (pc' := 32) (Ls' := #[.val (.ref a), .val (.long u), .second, .val (.long (1 : Int64)), .second, .val (.int (1 : Int32))]) d14_30 rfl rfl ?_
  refine Go.aloadN (pc' := 33) d14_32 rfl rfl rfl ?_
  refine Go.getfield (pc' := 36) (host := "") (Or.inl (ww hw 11 rfl)) Via.refl pf0 d14_33 rfl ?_
  refine Go.iload (pc' := 38) d14_36 rfl rfl ?_
  refine Go.laload (pc' := 39) (v := (1 : Int64)) vs d14_38 (by decide) (by decide) rfl rfl ?_
  refine Go.aloadN (pc' := 40) d14_39 rfl rfl rfl ?_
  refine Go.getfield (pc' := 43) (host := "") (Or.inl (ww hw 14 rfl)) Via.refl pf1 d14_40 rfl ?_
  refine Go.iload (pc' := 45) d14_43 rfl rfl ?_
  refine Go.iaload (pc' := 46) (v := (0 : Int32)) vn d14_45 (by decide) (by decide) rfl rfl ?_
  refine Go.i2l (pc' := 47) d14_46 rfl ?_
  show Go _ _ _ _ _ _ _ _ _ _ _ _ 47 #[.val (.ref a), .val (.long u), .second, .val (.long (1 : Int64)), .second, .val (.int (1 : Int32))] [(.long (0 : Int64)), (.long (1 : Int64))]
  refine Go.callS (cells' := 1) (slots' := 2) (pc' := 50) [(.long (1 : Int64)), (.long (0 : Int64))] [] (ww hw 87 rfl) (ww hw 88 rfl) (ww hw 18 rfl) (ww hw 89 rfl) (by decide) (c_ofSecN1 l Z a0 hw h) pd_6 rfl rfl rfl rfl rfl (nl rfl) (nl rfl) (nl rfl) (nl rfl) d14_47 rfl ?_
  rintro _ h2 ⟨r_2, rfl, K2, ge_r_2, sz_r_2, F2_0, F2_1, F2_2⟩
  have sz3 : h.size ≤ r_2 := Nat.le_trans (Keep.refl h []).1 sz_r_2
  have K4 : Keep h h2 [] := (Keep.refl h []).trans K2 all0
  show Go _ _ _ _ _ _ _ _ _ _ _ _ 50 #[.val (.ref a), .val (.long u), .second, .val (.long (1 : Int64)), .second, .val (.int (1 : Int32))] [(.ref r_2)]
  exact Go.retR rfl rfl rfl rfl d14_50 ⟨r_2, rfl, K4, ge_r_2, sz3, F2_0, F2_1, F2_2⟩ (by decide) (by decide)
set_option maxRecDepth 65536 in
set_option maxHeartbeats 4000000 in
theorem c_slot1_0_2 (l : Launch) (Z : State) (a0 : Array Value) (hw : ∀ d ∈ tables_1, d.before a0 Z = true) {n0 : Nat} (h : Heap) (a : Addr) (sa : Addr) (ks : ClassId) (o : Int64) (ho : o = (0 : Int64)) (fh : Fld Z h a "com/example/rens/rens/TimeRing" "head" "I" (.int (1 : Int32))) (fs : Fld Z h a "com/example/rens/rens/TimeRing" "seconds" "[J" (.ref sa)) (v : Arv Z h sa ks .long (4 : Int32) [(.long 0), (.long 1), (.long 0), (.long 0)] (.long 0)) :
    Con l (⟨"com/example/rens/rens/TimeRing", "slot", "(J)I"⟩ : MethodName) prog_22_method_8_code 3 (some .int) ({ frames := 0, cells := 0, slots := 0, locals := 0 } : Room) Z n0 #[(.ref a), (.long o)] h (fun v h' => v = some (.int (1 : Int32)) ∧ h = h') := by
  refine Con.of_go (plainFor_of_name pn_1) (Ls := #[.val (.ref a), .val (.long o), .second]) (fun m => by first | (simp [entryFrame, mkF, argsToLocals, Value.category]; done) | rfl) ?_
  refine Go.aloadN (pc' := 1) d6_0 rfl rfl rfl ?_
  refine Go.getfield (pc' := 4) (host := "") (Or.inl (ww hw 37 rfl)) Via.refl fh d6_1 rfl ?_
  refine Go.i2l (pc' := 5) d6_4 rfl ?_
  show Go _ _ _ _ _ _ _ _ _ _ _ _ 5 #[.val (.ref a), .val (.long o), .second] [(.long (1 : Int64))]
  refine Go.lloadN (pc' := 6) d6_5 rfl rfl ?_
  refine Go.ladd (pc' := 7) d6_6 rfl ?_
  refine Go.aloadN (pc' := 8) d6_7 rfl rfl rfl ?_
  refine Go.getfield (pc' := 11) (host := "") (Or.inl (ww hw 11 rfl)) Via.refl fs d6_8 rfl ?_
  refine Go.arraylength (pc' := 12) v d6_11 rfl ?_
  refine Go.iconst (pc' := 13) (v := (1 : Int32)) d6_12 rfl rfl ?_
  refine Go.isub (pc' := 14) d6_13 rfl ?_
  show Go _ _ _ _ _ _ _ _ _ _ _ _ 14 #[.val (.ref a), .val (.long o), .second] [(.int (3 : Int32)), (.long ((1 : Int64) + o))]
  refine Go.i2l (pc' := 15) d6_14 rfl ?_
  show Go _ _ _ _ _ _ _ _ _ _ _ _ 15 #[.val (.ref a), .val (.long o), .second] [(.long (3 : Int64)), (.long ((1 : Int64) + o))]
  refine Go.land (pc' := 16) d6_15 rfl ?_
  refine Go.l2i (pc' := 17) d6_16 rfl ?_
  exact Go.retI rfl d6_17 ⟨(by rw [ho]; rfl), rfl⟩ (by decide) (by decide)
set_option maxRecDepth 65536 in
set_option maxHeartbeats 4000000 in
theorem c_get2_1_0 (l : Launch) (Z : State) (a0 : Array Value) (hw : ∀ d ∈ tables_1, d.before a0 Z = true) {n0 : Nat} (h : Heap) (a : Addr) (sa : Addr) (ks : ClassId) (na : Addr) (kn : ClassId) (u : Int64) (v : Int64) (wp : Addr) (ho : (u - v) = (0 : Int64)) (sp : Sta Z Z.heap "java/time/Instant" "EPOCH" "Ljava/time/Instant;" (.ref wp)) (xp : Exa Z Z.heap wp "java/time/Instant") (fp : Fld Z Z.heap wp "java/time/Instant" "seconds" "J" (.long (0 : Int64))) (gp : Fld Z Z.heap wp "java/time/Instant" "nanos" "I" (.int (0 : Int32))) (x : Exa Z h a "com/example/rens/rens/TimeRing") (pf0 : Fld Z h a "com/example/rens/rens/TimeRing" "seconds" "[J" (.ref sa)) (pf1 : Fld Z h a "com/example/rens/rens/TimeRing" "nanos" "[I" (.ref na)) (pf2 : Fld Z h a "com/example/rens/rens/TimeRing" "head" "I" (.int (1 : Int32))) (pf3 : Fld Z h a "com/example/rens/rens/TimeRing" "size" "I" (.int (1 : Int32))) (pf4 : Fld Z h a "com/example/rens/rens/TimeRing" "first" "J" (.long v)) (vs : Arv Z h sa ks .long (4 : Int32) [(.long 0), (.long 1), (.long 0), (.long 0)] (.long 0)) (vn : Arv Z h na kn .int (4 : Int32) [(.int 0), (.int 0), (.int 0), (.int 0)] (.int 0)) :
    Con l (⟨"com/example/rens/rens/TimeRing", "get", "(J)Ljava/time/Instant;"⟩ : MethodName) prog_22_method_5_code 6 (some (.object "java/time/Instant")) ({ frames := 4, cells := 1, slots := 2, locals := 60 } : Room) Z n0 #[(.ref a), (.long u)] h (fun v h' => ∃ r : Addr, v = some (.ref r) ∧ Keep h h' [] ∧ n0 ≤ r ∧ h.size ≤ r ∧ Exa Z h' r "java/time/Instant" ∧ Fld Z h' r "java/time/Instant" "seconds" "J" (.long (1 : Int64)) ∧ Fld Z h' r "java/time/Instant" "nanos" "I" (.int (0 : Int32))) := by
  refine Con.of_go (plainFor_of_name pn_1) (Ls := #[.val (.ref a), .val (.long u), .second, .unset, .unset, .unset]) (fun m => by first | (simp [entryFrame, mkF, argsToLocals, Value.category]; done) | rfl) ?_
  refine Go.lloadN (pc' := 1) d14_0 rfl rfl ?_
  refine Go.aloadN (pc' := 2) d14_1 rfl rfl rfl ?_
  refine Go.getfield (pc' := 5) (host := "") (Or.inl (ww hw 31 rfl)) Via.refl pf4 d14_2 rfl ?_
  refine Go.lsub (pc' := 6) d14_5 rfl ?_
  rw [ho]
  refine Go.lstoreN (pc' := 7) (Ls' := #[.val (.ref a), .val (.long u), .second, .val (.long (0 : Int64)), .second, .unset]) d14_6 rfl rfl ?_
  refine Go.lloadN (pc' := 8) d14_7 rfl rfl ?_
  refine Go.lconst (pc' := 9) (v := (0 : Int64)) d14_8 rfl rfl ?_
  refine Go.lcmp (pc' := 10) d14_9 rfl ?_
  refine Go.ifNo (pc' := 13) d14_10 (XT.ll_lt_f (by decide)) rfl ?_
  refine Go.lloadN (pc' := 14) d14_13 rfl rfl ?_
  refine Go.aloadN (pc' := 15) d14_14 rfl rfl rfl ?_
  refine Go.getfield (pc' := 18) (host := "") (Or.inl (ww hw 29 rfl)) Via.refl pf3 d14_15 rfl ?_
  refine Go.i2l (pc' := 19) d14_18 rfl ?_
  show Go _ _ _ _ _ _ _ _ _ _ _ _ 19 #[.val (.ref a), .val (.long u), .second, .val (.long (0 : Int64)), .second, .unset] [(.long (1 : Int64)), (.long (0 : Int64))]
  refine Go.lcmp (pc' := 20) d14_19 rfl ?_
  refine Go.ifYes (pc' := 25) d14_20 (XT.ll_lt_t (by decide)) (by decide) (by decide) ?_
  refine Go.aloadN (pc' := 26) d14_25 rfl rfl rfl ?_
  refine Go.lloadN (pc' := 27) d14_26 rfl rfl ?_
  refine Go.callP (cells' := 0) (slots' := 0) (pc' := 30) [(.long (0 : Int64))] [] x (ww hw 33 rfl) (ww hw 34 rfl) (Jvm.Kit.selects_private (by decide) (ww hw 2 rfl) (ww hw 35 rfl) (ww hw 34 rfl)) (ww hw 35 rfl) (ww hw 3 rfl) (ww hw 36 rfl) (by decide) (c_slot1_0_2 l Z a0 hw h a sa ks (0 : Int64) (by decide) pf2 pf0 vs) pd_3 rfl rfl rfl rfl rfl (nl rfl) (nl rfl) (nl rfl) (nl rfl) d14_27 rfl ?_
  rintro _ _ ⟨rfl, rfl⟩
  show Go _ _ _ _ _ _ _ _ _ _ _ _ 30 #[.val (.ref a), .val (.long u), .second, .val (.long (0 : Int64)), .second, .unset] [(.int (1 : Int32))]
  refine Go.istore (pc' := 32) (Ls' := #[.val (.ref a), .val (.long u), .second, .val (.long (0 : Int64)), .second, .val (.int (1 : Int32))]) d14_30 rfl rfl ?_
  refine Go.aloadN (pc' := 33) d14_32 rfl rfl rfl ?_
  refine Go.getfield (pc' := 36) (host := "") (Or.inl (ww hw 11 rfl)) Via.refl pf0 d14_33 rfl ?_
  refine Go.iload (pc' := 38) d14_36 rfl rfl ?_
  refine Go.laload (pc' := 39) (v := (1 : Int64)) vs d14_38 (by decide) (by decide) rfl rfl ?_
  refine Go.aloadN (pc' := 40) d14_39 rfl rfl rfl ?_
  refine Go.getfield (pc' := 43) (host := "") (Or.inl (ww hw 14 rfl)) Via.refl pf1 d14_40 rfl ?_
  refine Go.iload (pc' := 45) d14_43 rfl rfl ?_
  refine Go.iaload (pc' := 46) (v := (0 : Int32)) vn d14_45 (by decide) (by decide) rfl rfl ?_
  refine Go.i2l (pc' := 47) d14_46 rfl ?_
  show Go _ _ _ _ _ _ _ _ _ _ _ _ 47 #[.val (.ref a), .val (.long u), .second, .val (.long (0 : Int64)), .second, .val (.int (1 : Int32))] [(.long (0 : Int64)), (.long (1 : Int64))]
  refine Go.callS (cells' := 1) (slots' := 2) (pc' := 50) [(.long (1 : Int64)), (.long (0 : Int64))] [] (ww hw 87 rfl) (ww hw 88 rfl) (ww hw 18 rfl) (ww hw 89 rfl) (by decide) (c_ofSecN1 l Z a0 hw h) pd_6 rfl rfl rfl rfl rfl (nl rfl) (nl rfl) (nl rfl) (nl rfl) d14_47 rfl ?_
  rintro _ h2 ⟨r_2, rfl, K2, ge_r_2, sz_r_2, F2_0, F2_1, F2_2⟩
  have sz3 : h.size ≤ r_2 := Nat.le_trans (Keep.refl h []).1 sz_r_2
  have K4 : Keep h h2 [] := (Keep.refl h []).trans K2 all0
  show Go _ _ _ _ _ _ _ _ _ _ _ _ 50 #[.val (.ref a), .val (.long u), .second, .val (.long (0 : Int64)), .second, .val (.int (1 : Int32))] [(.ref r_2)]
  exact Go.retR rfl rfl rfl rfl d14_50 ⟨r_2, rfl, K4, ge_r_2, sz3, F2_0, F2_1, F2_2⟩ (by decide) (by decide)
set_option maxRecDepth 65536 in
set_option maxHeartbeats 4000000 in
theorem c_get2_1_m1 (l : Launch) (Z : State) (a0 : Array Value) (hw : ∀ d ∈ tables_1, d.before a0 Z = true) {n0 : Nat} (h : Heap) (a : Addr) (sa : Addr) (ks : ClassId) (na : Addr) (kn : ClassId) (u : Int64) (v : Int64) (wp : Addr) (ho : (u - v) = (-1 : Int64)) (sp : Sta Z Z.heap "java/time/Instant" "EPOCH" "Ljava/time/Instant;" (.ref wp)) (xp : Exa Z Z.heap wp "java/time/Instant") (fp : Fld Z Z.heap wp "java/time/Instant" "seconds" "J" (.long (0 : Int64))) (gp : Fld Z Z.heap wp "java/time/Instant" "nanos" "I" (.int (0 : Int32))) (x : Exa Z h a "com/example/rens/rens/TimeRing") (pf0 : Fld Z h a "com/example/rens/rens/TimeRing" "seconds" "[J" (.ref sa)) (pf1 : Fld Z h a "com/example/rens/rens/TimeRing" "nanos" "[I" (.ref na)) (pf2 : Fld Z h a "com/example/rens/rens/TimeRing" "head" "I" (.int (1 : Int32))) (pf3 : Fld Z h a "com/example/rens/rens/TimeRing" "size" "I" (.int (1 : Int32))) (pf4 : Fld Z h a "com/example/rens/rens/TimeRing" "first" "J" (.long v)) (vs : Arv Z h sa ks .long (4 : Int32) [(.long 0), (.long 1), (.long 0), (.long 0)] (.long 0)) (vn : Arv Z h na kn .int (4 : Int32) [(.int 0), (.int 0), (.int 0), (.int 0)] (.int 0)) :
    Con l (⟨"com/example/rens/rens/TimeRing", "get", "(J)Ljava/time/Instant;"⟩ : MethodName) prog_22_method_5_code 6 (some (.object "java/time/Instant")) ({ frames := 0, cells := 0, slots := 0, locals := 0 } : Room) Z n0 #[(.ref a), (.long u)] h (fun v h' => v = some .null ∧ h = h') := by
  refine Con.of_go (plainFor_of_name pn_1) (Ls := #[.val (.ref a), .val (.long u), .second, .unset, .unset, .unset]) (fun m => by first | (simp [entryFrame, mkF, argsToLocals, Value.category]; done) | rfl) ?_
  refine Go.lloadN (pc' := 1) d14_0 rfl rfl ?_
  refine Go.aloadN (pc' := 2) d14_1 rfl rfl rfl ?_
  refine Go.getfield (pc' := 5) (host := "") (Or.inl (ww hw 31 rfl)) Via.refl pf4 d14_2 rfl ?_
  refine Go.lsub (pc' := 6) d14_5 rfl ?_
  rw [ho]
  refine Go.lstoreN (pc' := 7) (Ls' := #[.val (.ref a), .val (.long u), .second, .val (.long (-1 : Int64)), .second, .unset]) d14_6 rfl rfl ?_
  refine Go.lloadN (pc' := 8) d14_7 rfl rfl ?_
  refine Go.lconst (pc' := 9) (v := (0 : Int64)) d14_8 rfl rfl ?_
  refine Go.lcmp (pc' := 10) d14_9 rfl ?_
  refine Go.ifYes (pc' := 23) d14_10 (XT.ll_lt_t (by decide)) (by decide) (by decide) ?_
  refine Go.aconstNull (pc' := 24) d14_23 rfl ?_
  exact Go.retR rfl rfl rfl rfl d14_24 ⟨rfl, rfl⟩ (by decide) (by decide)
set_option maxRecDepth 65536 in
set_option maxHeartbeats 4000000 in
theorem c_get2_2_0 (l : Launch) (Z : State) (a0 : Array Value) (hw : ∀ d ∈ tables_1, d.before a0 Z = true) {n0 : Nat} (h : Heap) (a : Addr) (sa : Addr) (ks : ClassId) (na : Addr) (kn : ClassId) (u : Int64) (v : Int64) (wp : Addr) (ho : (u - v) = (0 : Int64)) (sp : Sta Z Z.heap "java/time/Instant" "EPOCH" "Ljava/time/Instant;" (.ref wp)) (xp : Exa Z Z.heap wp "java/time/Instant") (fp : Fld Z Z.heap wp "java/time/Instant" "seconds" "J" (.long (0 : Int64))) (gp : Fld Z Z.heap wp "java/time/Instant" "nanos" "I" (.int (0 : Int32))) (x : Exa Z h a "com/example/rens/rens/TimeRing") (pf0 : Fld Z h a "com/example/rens/rens/TimeRing" "seconds" "[J" (.ref sa)) (pf1 : Fld Z h a "com/example/rens/rens/TimeRing" "nanos" "[I" (.ref na)) (pf2 : Fld Z h a "com/example/rens/rens/TimeRing" "head" "I" (.int (2 : Int32))) (pf3 : Fld Z h a "com/example/rens/rens/TimeRing" "size" "I" (.int (0 : Int32))) (pf4 : Fld Z h a "com/example/rens/rens/TimeRing" "first" "J" (.long v)) (vs : Arv Z h sa ks .long (4 : Int32) [(.long 0), (.long 1), (.long 0), (.long 0)] (.long 0)) (vn : Arv Z h na kn .int (4 : Int32) [(.int 0), (.int 0), (.int 0), (.int 0)] (.int 0)) :
    Con l (⟨"com/example/rens/rens/TimeRing", "get", "(J)Ljava/time/Instant;"⟩ : MethodName) prog_22_method_5_code 6 (some (.object "java/time/Instant")) ({ frames := 0, cells := 0, slots := 0, locals := 0 } : Room) Z n0 #[(.ref a), (.long u)] h (fun v h' => v = some .null ∧ h = h') := by
  refine Con.of_go (plainFor_of_name pn_1) (Ls := #[.val (.ref a), .val (.long u), .second, .unset, .unset, .unset]) (fun m => by first | (simp [entryFrame, mkF, argsToLocals, Value.category]; done) | rfl) ?_
  refine Go.lloadN (pc' := 1) d14_0 rfl rfl ?_
  refine Go.aloadN (pc' := 2) d14_1 rfl rfl rfl ?_
  refine Go.getfield (pc' := 5) (host := "") (Or.inl (ww hw 31 rfl)) Via.refl pf4 d14_2 rfl ?_
  refine Go.lsub (pc' := 6) d14_5 rfl ?_
  rw [ho]
  refine Go.lstoreN (pc' := 7) (Ls' := #[.val (.ref a), .val (.long u), .second, .val (.long (0 : Int64)), .second, .unset]) d14_6 rfl rfl ?_
  refine Go.lloadN (pc' := 8) d14_7 rfl rfl ?_
  refine Go.lconst (pc' := 9) (v := (0 : Int64)) d14_8 rfl rfl ?_
  refine Go.lcmp (pc' := 10) d14_9 rfl ?_
  refine Go.ifNo (pc' := 13) d14_10 (XT.ll_lt_f (by decide)) rfl ?_
  refine Go.lloadN (pc' := 14) d14_13 rfl rfl ?_
  refine Go.aloadN (pc' := 15) d14_14 rfl rfl rfl ?_
  refine Go.getfield (pc' := 18) (host := "") (Or.inl (ww hw 29 rfl)) Via.refl pf3 d14_15 rfl ?_
  refine Go.i2l (pc' := 19) d14_18 rfl ?_
  show Go _ _ _ _ _ _ _ _ _ _ _ _ 19 #[.val (.ref a), .val (.long u), .second, .val (.long (0 : Int64)), .second, .unset] [(.long (0 : Int64)), (.long (0 : Int64))]
  refine Go.lcmp (pc' := 20) d14_19 rfl ?_
  refine Go.ifNo (pc' := 23) d14_20 (XT.ll_lt_f (by decide)) rfl ?_
  refine Go.aconstNull (pc' := 24) d14_23 rfl ?_
  exact Go.retR rfl rfl rfl rfl d14_24 ⟨rfl, rfl⟩ (by decide) (by decide)
set_option maxRecDepth 65536 in
set_option maxHeartbeats 4000000 in
theorem c_get2_2_m1 (l : Launch) (Z : State) (a0 : Array Value) (hw : ∀ d ∈ tables_1, d.before a0 Z = true) {n0 : Nat} (h : Heap) (a : Addr) (sa : Addr) (ks : ClassId) (na : Addr) (kn : ClassId) (u : Int64) (v : Int64) (wp : Addr) (ho : (u - v) = (-1 : Int64)) (sp : Sta Z Z.heap "java/time/Instant" "EPOCH" "Ljava/time/Instant;" (.ref wp)) (xp : Exa Z Z.heap wp "java/time/Instant") (fp : Fld Z Z.heap wp "java/time/Instant" "seconds" "J" (.long (0 : Int64))) (gp : Fld Z Z.heap wp "java/time/Instant" "nanos" "I" (.int (0 : Int32))) (x : Exa Z h a "com/example/rens/rens/TimeRing") (pf0 : Fld Z h a "com/example/rens/rens/TimeRing" "seconds" "[J" (.ref sa)) (pf1 : Fld Z h a "com/example/rens/rens/TimeRing" "nanos" "[I" (.ref na)) (pf2 : Fld Z h a "com/example/rens/rens/TimeRing" "head" "I" (.int (2 : Int32))) (pf3 : Fld Z h a "com/example/rens/rens/TimeRing" "size" "I" (.int (0 : Int32))) (pf4 : Fld Z h a "com/example/rens/rens/TimeRing" "first" "J" (.long v)) (vs : Arv Z h sa ks .long (4 : Int32) [(.long 0), (.long 1), (.long 0), (.long 0)] (.long 0)) (vn : Arv Z h na kn .int (4 : Int32) [(.int 0), (.int 0), (.int 0), (.int 0)] (.int 0)) :
    Con l (⟨"com/example/rens/rens/TimeRing", "get", "(J)Ljava/time/Instant;"⟩ : MethodName) prog_22_method_5_code 6 (some (.object "java/time/Instant")) ({ frames := 0, cells := 0, slots := 0, locals := 0 } : Room) Z n0 #[(.ref a), (.long u)] h (fun v h' => v = some .null ∧ h = h') := by
  refine Con.of_go (plainFor_of_name pn_1) (Ls := #[.val (.ref a), .val (.long u), .second, .unset, .unset, .unset]) (fun m => by first | (simp [entryFrame, mkF, argsToLocals, Value.category]; done) | rfl) ?_
  refine Go.lloadN (pc' := 1) d14_0 rfl rfl ?_
  refine Go.aloadN (pc' := 2) d14_1 rfl rfl rfl ?_
  refine Go.getfield (pc' := 5) (host := "") (Or.inl (ww hw 31 rfl)) Via.refl pf4 d14_2 rfl ?_
  refine Go.lsub (pc' := 6) d14_5 rfl ?_
  rw [ho]
  refine Go.lstoreN (pc' := 7) (Ls' := #[.val (.ref a), .val (.long u), .second, .val (.long (-1 : Int64)), .second, .unset]) d14_6 rfl rfl ?_
  refine Go.lloadN (pc' := 8) d14_7 rfl rfl ?_
  refine Go.lconst (pc' := 9) (v := (0 : Int64)) d14_8 rfl rfl ?_
  refine Go.lcmp (pc' := 10) d14_9 rfl ?_
  refine Go.ifYes (pc' := 23) d14_10 (XT.ll_lt_t (by decide)) (by decide) (by decide) ?_
  refine Go.aconstNull (pc' := 24) d14_23 rfl ?_
  exact Go.retR rfl rfl rfl rfl d14_24 ⟨rfl, rfl⟩ (by decide) (by decide)
set_option maxRecDepth 65536 in
set_option maxHeartbeats 4000000 in
theorem c_slot0_0_3 (l : Launch) (Z : State) (a0 : Array Value) (hw : ∀ d ∈ tables_1, d.before a0 Z = true) {n0 : Nat} (h : Heap) (a : Addr) (sa : Addr) (ks : ClassId) (o : Int64) (ho : o = (0 : Int64)) (fh : Fld Z h a "com/example/rens/rens/TimeRing" "head" "I" (.int (0 : Int32))) (fs : Fld Z h a "com/example/rens/rens/TimeRing" "seconds" "[J" (.ref sa)) (v : Arv Z h sa ks .long (4 : Int32) [(.long 0), (.long 1), (.long 2), (.long 0)] (.long 0)) :
    Con l (⟨"com/example/rens/rens/TimeRing", "slot", "(J)I"⟩ : MethodName) prog_22_method_8_code 3 (some .int) ({ frames := 0, cells := 0, slots := 0, locals := 0 } : Room) Z n0 #[(.ref a), (.long o)] h (fun v h' => v = some (.int (0 : Int32)) ∧ h = h') := by
  refine Con.of_go (plainFor_of_name pn_1) (Ls := #[.val (.ref a), .val (.long o), .second]) (fun m => by first | (simp [entryFrame, mkF, argsToLocals, Value.category]; done) | rfl) ?_
  refine Go.aloadN (pc' := 1) d6_0 rfl rfl rfl ?_
  refine Go.getfield (pc' := 4) (host := "") (Or.inl (ww hw 37 rfl)) Via.refl fh d6_1 rfl ?_
  refine Go.i2l (pc' := 5) d6_4 rfl ?_
  show Go _ _ _ _ _ _ _ _ _ _ _ _ 5 #[.val (.ref a), .val (.long o), .second] [(.long (0 : Int64))]
  refine Go.lloadN (pc' := 6) d6_5 rfl rfl ?_
  refine Go.ladd (pc' := 7) d6_6 rfl ?_
  refine Go.aloadN (pc' := 8) d6_7 rfl rfl rfl ?_
  refine Go.getfield (pc' := 11) (host := "") (Or.inl (ww hw 11 rfl)) Via.refl fs d6_8 rfl ?_
  refine Go.arraylength (pc' := 12) v d6_11 rfl ?_
  refine Go.iconst (pc' := 13) (v := (1 : Int32)) d6_12 rfl rfl ?_
  refine Go.isub (pc' := 14) d6_13 rfl ?_
  show Go _ _ _ _ _ _ _ _ _ _ _ _ 14 #[.val (.ref a), .val (.long o), .second] [(.int (3 : Int32)), (.long ((0 : Int64) + o))]
  refine Go.i2l (pc' := 15) d6_14 rfl ?_
  show Go _ _ _ _ _ _ _ _ _ _ _ _ 15 #[.val (.ref a), .val (.long o), .second] [(.long (3 : Int64)), (.long ((0 : Int64) + o))]
  refine Go.land (pc' := 16) d6_15 rfl ?_
  refine Go.l2i (pc' := 17) d6_16 rfl ?_
  exact Go.retI rfl d6_17 ⟨(by rw [ho]; rfl), rfl⟩ (by decide) (by decide)
set_option maxRecDepth 65536 in
set_option maxHeartbeats 4000000 in
theorem c_get3_0_0 (l : Launch) (Z : State) (a0 : Array Value) (hw : ∀ d ∈ tables_1, d.before a0 Z = true) {n0 : Nat} (h : Heap) (a : Addr) (sa : Addr) (ks : ClassId) (na : Addr) (kn : ClassId) (u : Int64) (v : Int64) (wp : Addr) (ho : (u - v) = (0 : Int64)) (sp : Sta Z Z.heap "java/time/Instant" "EPOCH" "Ljava/time/Instant;" (.ref wp)) (xp : Exa Z Z.heap wp "java/time/Instant") (fp : Fld Z Z.heap wp "java/time/Instant" "seconds" "J" (.long (0 : Int64))) (gp : Fld Z Z.heap wp "java/time/Instant" "nanos" "I" (.int (0 : Int32))) (x : Exa Z h a "com/example/rens/rens/TimeRing") (pf0 : Fld Z h a "com/example/rens/rens/TimeRing" "seconds" "[J" (.ref sa)) (pf1 : Fld Z h a "com/example/rens/rens/TimeRing" "nanos" "[I" (.ref na)) (pf2 : Fld Z h a "com/example/rens/rens/TimeRing" "head" "I" (.int (0 : Int32))) (pf3 : Fld Z h a "com/example/rens/rens/TimeRing" "size" "I" (.int (3 : Int32))) (pf4 : Fld Z h a "com/example/rens/rens/TimeRing" "first" "J" (.long v)) (vs : Arv Z h sa ks .long (4 : Int32) [(.long 0), (.long 1), (.long 2), (.long 0)] (.long 0)) (vn : Arv Z h na kn .int (4 : Int32) [(.int 0), (.int 0), (.int 0), (.int 0)] (.int 0)) :
    Con l (⟨"com/example/rens/rens/TimeRing", "get", "(J)Ljava/time/Instant;"⟩ : MethodName) prog_22_method_5_code 6 (some (.object "java/time/Instant")) ({ frames := 2, cells := 0, slots := 0, locals := 37 } : Room) Z n0 #[(.ref a), (.long u)] h (fun v h' => v = some (.ref wp) ∧ h = h') := by
  refine Con.of_go (plainFor_of_name pn_1) (Ls := #[.val (.ref a), .val (.long u), .second, .unset, .unset, .unset]) (fun m => by first | (simp [entryFrame, mkF, argsToLocals, Value.category]; done) | rfl) ?_
  refine Go.lloadN (pc' := 1) d14_0 rfl rfl ?_
  refine Go.aloadN (pc' := 2) d14_1 rfl rfl rfl ?_
  refine Go.getfield (pc' := 5) (host := "") (Or.inl (ww hw 31 rfl)) Via.refl pf4 d14_2 rfl ?_
  refine Go.lsub (pc' := 6) d14_5 rfl ?_
  rw [ho]
  refine Go.lstoreN (pc' := 7) (Ls' := #[.val (.ref a), .val (.long u), .second, .val (.long (0 : Int64)), .second, .unset]) d14_6 rfl rfl ?_
  refine Go.lloadN (pc' := 8) d14_7 rfl rfl ?_
  refine Go.lconst (pc' := 9) (v := (0 : Int64)) d14_8 rfl rfl ?_
  refine Go.lcmp (pc' := 10) d14_9 rfl ?_
  refine Go.ifNo (pc' := 13) d14_10 (XT.ll_lt_f (by decide)) rfl ?_
  refine Go.lloadN (pc' := 14) d14_13 rfl rfl ?_
  refine Go.aloadN (pc' := 15) d14_14 rfl rfl rfl ?_
  refine Go.getfield (pc' := 18) (host := "") (Or.inl (ww hw 29 rfl)) Via.refl pf3 d14_15 rfl ?_
  refine Go.i2l (pc' := 19) d14_18 rfl ?_
  show Go _ _ _ _ _ _ _ _ _ _ _ _ 19 #[.val (.ref a), .val (.long u), .second, .val (.long (0 : Int64)), .second, .unset] [(.long (3 : Int64)), (.long (0 : Int64))]
  refine Go.lcmp (pc' := 20) d14_19 rfl ?_
  refine Go.ifYes (pc' := 25) d14_20 (XT.ll_lt_t (by decide)) (by decide) (by decide) ?_
  refine Go.aloadN (pc' := 26) d14_25 rfl rfl rfl ?_
  refine Go.lloadN (pc' := 27) d14_26 rfl rfl ?_
  refine Go.callP (cells' := 0) (slots' := 0) (pc' := 30) [(.long (0 : Int64))] [] x (ww hw 33 rfl) (ww hw 34 rfl) (Jvm.Kit.selects_private (by decide) (ww hw 2 rfl) (ww hw 35 rfl) (ww hw 34 rfl)) (ww hw 35 rfl) (ww hw 3 rfl) (ww hw 36 rfl) (by decide) (c_slot0_0_3 l Z a0 hw h a sa ks (0 : Int64) (by decide) pf2 pf0 vs) pd_3 rfl rfl rfl rfl rfl (nl rfl) (nl rfl) (nl rfl) (nl rfl) d14_27 rfl ?_
  rintro _ _ ⟨rfl, rfl⟩
  show Go _ _ _ _ _ _ _ _ _ _ _ _ 30 #[.val (.ref a), .val (.long u), .second, .val (.long (0 : Int64)), .second, .unset] [(.int (0 : Int32))]
  refine Go.istore (pc' := 32) (Ls' := #[.val (.ref a), .val (.long u), .second, .val (.long (0 : Int64)), .second, .val (.int (0 : Int32))]) d14_30 rfl rfl ?_
  refine Go.aloadN (pc' := 33) d14_32 rfl rfl rfl ?_
  refine Go.getfield (pc' := 36) (host := "") (Or.inl (ww hw 11 rfl)) Via.refl pf0 d14_33 rfl ?_
  refine Go.iload (pc' := 38) d14_36 rfl rfl ?_
  refine Go.laload (pc' := 39) (v := (0 : Int64)) vs d14_38 (by decide) (by decide) rfl rfl ?_
  refine Go.aloadN (pc' := 40) d14_39 rfl rfl rfl ?_
  refine Go.getfield (pc' := 43) (host := "") (Or.inl (ww hw 14 rfl)) Via.refl pf1 d14_40 rfl ?_
  refine Go.iload (pc' := 45) d14_43 rfl rfl ?_
  refine Go.iaload (pc' := 46) (v := (0 : Int32)) vn d14_45 (by decide) (by decide) rfl rfl ?_
  refine Go.i2l (pc' := 47) d14_46 rfl ?_
  show Go _ _ _ _ _ _ _ _ _ _ _ _ 47 #[.val (.ref a), .val (.long u), .second, .val (.long (0 : Int64)), .second, .val (.int (0 : Int32))] [(.long (0 : Int64)), (.long (0 : Int64))]
  refine Go.callS (cells' := 0) (slots' := 0) (pc' := 50) [(.long (0 : Int64)), (.long (0 : Int64))] [] (ww hw 87 rfl) (ww hw 88 rfl) (ww hw 18 rfl) (ww hw 89 rfl) (by decide) (c_ofSecN0 l Z a0 hw h wp sp xp fp gp) pd_6 rfl rfl rfl rfl rfl (nl rfl) (nl rfl) (nl rfl) (nl rfl) d14_47 rfl ?_
  rintro _ _ ⟨rfl, rfl⟩
  show Go _ _ _ _ _ _ _ _ _ _ _ _ 50 #[.val (.ref a), .val (.long u), .second, .val (.long (0 : Int64)), .second, .val (.int (0 : Int32))] [(.ref wp)]
  exact Go.retR rfl rfl rfl rfl d14_50 ⟨rfl, rfl⟩ (by decide) (by decide)
set_option maxRecDepth 65536 in
set_option maxHeartbeats 4000000 in
theorem c_get3_0_m1 (l : Launch) (Z : State) (a0 : Array Value) (hw : ∀ d ∈ tables_1, d.before a0 Z = true) {n0 : Nat} (h : Heap) (a : Addr) (sa : Addr) (ks : ClassId) (na : Addr) (kn : ClassId) (u : Int64) (v : Int64) (wp : Addr) (ho : (u - v) = (-1 : Int64)) (sp : Sta Z Z.heap "java/time/Instant" "EPOCH" "Ljava/time/Instant;" (.ref wp)) (xp : Exa Z Z.heap wp "java/time/Instant") (fp : Fld Z Z.heap wp "java/time/Instant" "seconds" "J" (.long (0 : Int64))) (gp : Fld Z Z.heap wp "java/time/Instant" "nanos" "I" (.int (0 : Int32))) (x : Exa Z h a "com/example/rens/rens/TimeRing") (pf0 : Fld Z h a "com/example/rens/rens/TimeRing" "seconds" "[J" (.ref sa)) (pf1 : Fld Z h a "com/example/rens/rens/TimeRing" "nanos" "[I" (.ref na)) (pf2 : Fld Z h a "com/example/rens/rens/TimeRing" "head" "I" (.int (0 : Int32))) (pf3 : Fld Z h a "com/example/rens/rens/TimeRing" "size" "I" (.int (3 : Int32))) (pf4 : Fld Z h a "com/example/rens/rens/TimeRing" "first" "J" (.long v)) (vs : Arv Z h sa ks .long (4 : Int32) [(.long 0), (.long 1), (.long 2), (.long 0)] (.long 0)) (vn : Arv Z h na kn .int (4 : Int32) [(.int 0), (.int 0), (.int 0), (.int 0)] (.int 0)) :
    Con l (⟨"com/example/rens/rens/TimeRing", "get", "(J)Ljava/time/Instant;"⟩ : MethodName) prog_22_method_5_code 6 (some (.object "java/time/Instant")) ({ frames := 0, cells := 0, slots := 0, locals := 0 } : Room) Z n0 #[(.ref a), (.long u)] h (fun v h' => v = some .null ∧ h = h') := by
  refine Con.of_go (plainFor_of_name pn_1) (Ls := #[.val (.ref a), .val (.long u), .second, .unset, .unset, .unset]) (fun m => by first | (simp [entryFrame, mkF, argsToLocals, Value.category]; done) | rfl) ?_
  refine Go.lloadN (pc' := 1) d14_0 rfl rfl ?_
  refine Go.aloadN (pc' := 2) d14_1 rfl rfl rfl ?_
  refine Go.getfield (pc' := 5) (host := "") (Or.inl (ww hw 31 rfl)) Via.refl pf4 d14_2 rfl ?_
  refine Go.lsub (pc' := 6) d14_5 rfl ?_
  rw [ho]
  refine Go.lstoreN (pc' := 7) (Ls' := #[.val (.ref a), .val (.long u), .second, .val (.long (-1 : Int64)), .second, .unset]) d14_6 rfl rfl ?_
  refine Go.lloadN (pc' := 8) d14_7 rfl rfl ?_
  refine Go.lconst (pc' := 9) (v := (0 : Int64)) d14_8 rfl rfl ?_
  refine Go.lcmp (pc' := 10) d14_9 rfl ?_
  refine Go.ifYes (pc' := 23) d14_10 (XT.ll_lt_t (by decide)) (by decide) (by decide) ?_
  refine Go.aconstNull (pc' := 24) d14_23 rfl ?_
  exact Go.retR rfl rfl rfl rfl d14_24 ⟨rfl, rfl⟩ (by decide) (by decide)
set_option maxRecDepth 65536 in
set_option maxHeartbeats 4000000 in
theorem c_slot0_2_3 (l : Launch) (Z : State) (a0 : Array Value) (hw : ∀ d ∈ tables_1, d.before a0 Z = true) {n0 : Nat} (h : Heap) (a : Addr) (sa : Addr) (ks : ClassId) (o : Int64) (ho : o = (2 : Int64)) (fh : Fld Z h a "com/example/rens/rens/TimeRing" "head" "I" (.int (0 : Int32))) (fs : Fld Z h a "com/example/rens/rens/TimeRing" "seconds" "[J" (.ref sa)) (v : Arv Z h sa ks .long (4 : Int32) [(.long 0), (.long 1), (.long 2), (.long 0)] (.long 0)) :
    Con l (⟨"com/example/rens/rens/TimeRing", "slot", "(J)I"⟩ : MethodName) prog_22_method_8_code 3 (some .int) ({ frames := 0, cells := 0, slots := 0, locals := 0 } : Room) Z n0 #[(.ref a), (.long o)] h (fun v h' => v = some (.int (2 : Int32)) ∧ h = h') := by
  refine Con.of_go (plainFor_of_name pn_1) (Ls := #[.val (.ref a), .val (.long o), .second]) (fun m => by first | (simp [entryFrame, mkF, argsToLocals, Value.category]; done) | rfl) ?_
  refine Go.aloadN (pc' := 1) d6_0 rfl rfl rfl ?_
  refine Go.getfield (pc' := 4) (host := "") (Or.inl (ww hw 37 rfl)) Via.refl fh d6_1 rfl ?_
  refine Go.i2l (pc' := 5) d6_4 rfl ?_
  show Go _ _ _ _ _ _ _ _ _ _ _ _ 5 #[.val (.ref a), .val (.long o), .second] [(.long (0 : Int64))]
  refine Go.lloadN (pc' := 6) d6_5 rfl rfl ?_
  refine Go.ladd (pc' := 7) d6_6 rfl ?_
  refine Go.aloadN (pc' := 8) d6_7 rfl rfl rfl ?_
  refine Go.getfield (pc' := 11) (host := "") (Or.inl (ww hw 11 rfl)) Via.refl fs d6_8 rfl ?_
  refine Go.arraylength (pc' := 12) v d6_11 rfl ?_
  refine Go.iconst (pc' := 13) (v := (1 : Int32)) d6_12 rfl rfl ?_
  refine Go.isub (pc' := 14) d6_13 rfl ?_
  show Go _ _ _ _ _ _ _ _ _ _ _ _ 14 #[.val (.ref a), .val (.long o), .second] [(.int (3 : Int32)), (.long ((0 : Int64) + o))]
  refine Go.i2l (pc' := 15) d6_14 rfl ?_
  show Go _ _ _ _ _ _ _ _ _ _ _ _ 15 #[.val (.ref a), .val (.long o), .second] [(.long (3 : Int64)), (.long ((0 : Int64) + o))]
  refine Go.land (pc' := 16) d6_15 rfl ?_
  refine Go.l2i (pc' := 17) d6_16 rfl ?_
  exact Go.retI rfl d6_17 ⟨(by rw [ho]; rfl), rfl⟩ (by decide) (by decide)
set_option maxRecDepth 65536 in
set_option maxHeartbeats 4000000 in
theorem c_get3_0_2 (l : Launch) (Z : State) (a0 : Array Value) (hw : ∀ d ∈ tables_1, d.before a0 Z = true) {n0 : Nat} (h : Heap) (a : Addr) (sa : Addr) (ks : ClassId) (na : Addr) (kn : ClassId) (u : Int64) (v : Int64) (wp : Addr) (ho : (u - v) = (2 : Int64)) (sp : Sta Z Z.heap "java/time/Instant" "EPOCH" "Ljava/time/Instant;" (.ref wp)) (xp : Exa Z Z.heap wp "java/time/Instant") (fp : Fld Z Z.heap wp "java/time/Instant" "seconds" "J" (.long (0 : Int64))) (gp : Fld Z Z.heap wp "java/time/Instant" "nanos" "I" (.int (0 : Int32))) (x : Exa Z h a "com/example/rens/rens/TimeRing") (pf0 : Fld Z h a "com/example/rens/rens/TimeRing" "seconds" "[J" (.ref sa)) (pf1 : Fld Z h a "com/example/rens/rens/TimeRing" "nanos" "[I" (.ref na)) (pf2 : Fld Z h a "com/example/rens/rens/TimeRing" "head" "I" (.int (0 : Int32))) (pf3 : Fld Z h a "com/example/rens/rens/TimeRing" "size" "I" (.int (3 : Int32))) (pf4 : Fld Z h a "com/example/rens/rens/TimeRing" "first" "J" (.long v)) (vs : Arv Z h sa ks .long (4 : Int32) [(.long 0), (.long 1), (.long 2), (.long 0)] (.long 0)) (vn : Arv Z h na kn .int (4 : Int32) [(.int 0), (.int 0), (.int 0), (.int 0)] (.int 0)) :
    Con l (⟨"com/example/rens/rens/TimeRing", "get", "(J)Ljava/time/Instant;"⟩ : MethodName) prog_22_method_5_code 6 (some (.object "java/time/Instant")) ({ frames := 4, cells := 1, slots := 2, locals := 60 } : Room) Z n0 #[(.ref a), (.long u)] h (fun v h' => ∃ r : Addr, v = some (.ref r) ∧ Keep h h' [] ∧ n0 ≤ r ∧ h.size ≤ r ∧ Exa Z h' r "java/time/Instant" ∧ Fld Z h' r "java/time/Instant" "seconds" "J" (.long (2 : Int64)) ∧ Fld Z h' r "java/time/Instant" "nanos" "I" (.int (0 : Int32))) := by
  refine Con.of_go (plainFor_of_name pn_1) (Ls := #[.val (.ref a), .val (.long u), .second, .unset, .unset, .unset]) (fun m => by first | (simp [entryFrame, mkF, argsToLocals, Value.category]; done) | rfl) ?_
  refine Go.lloadN (pc' := 1) d14_0 rfl rfl ?_
  refine Go.aloadN (pc' := 2) d14_1 rfl rfl rfl ?_
  refine Go.getfield (pc' := 5) (host := "") (Or.inl (ww hw 31 rfl)) Via.refl pf4 d14_2 rfl ?_
  refine Go.lsub (pc' := 6) d14_5 rfl ?_
  rw [ho]
  refine Go.lstoreN (pc' := 7) (Ls' := #[.val (.ref a), .val (.long u), .second, .val (.long (2 : Int64)), .second, .unset]) d14_6 rfl rfl ?_
  refine Go.lloadN (pc' := 8) d14_7 rfl rfl ?_
  refine Go.lconst (pc' := 9) (v := (0 : Int64)) d14_8 rfl rfl ?_
  refine Go.lcmp (pc' := 10) d14_9 rfl ?_
  refine Go.ifNo (pc' := 13) d14_10 (XT.ll_lt_f (by decide)) rfl ?_
  refine Go.lloadN (pc' := 14) d14_13 rfl rfl ?_
  refine Go.aloadN (pc' := 15) d14_14 rfl rfl rfl ?_
  refine Go.getfield (pc' := 18) (host := "") (Or.inl (ww hw 29 rfl)) Via.refl pf3 d14_15 rfl ?_
  refine Go.i2l (pc' := 19) d14_18 rfl ?_
  show Go _ _ _ _ _ _ _ _ _ _ _ _ 19 #[.val (.ref a), .val (.long u), .second, .val (.long (2 : Int64)), .second, .unset] [(.long (3 : Int64)), (.long (2 : Int64))]
  refine Go.lcmp (pc' := 20) d14_19 rfl ?_
  refine Go.ifYes (pc' := 25) d14_20 (XT.ll_lt_t (by decide)) (by decide) (by decide) ?_
  refine Go.aloadN (pc' := 26) d14_25 rfl rfl rfl ?_
  refine Go.lloadN (pc' := 27) d14_26 rfl rfl ?_
  refine Go.callP (cells' := 0) (slots' := 0) (pc' := 30) [(.long (2 : Int64))] [] x (ww hw 33 rfl) (ww hw 34 rfl) (Jvm.Kit.selects_private (by decide) (ww hw 2 rfl) (ww hw 35 rfl) (ww hw 34 rfl)) (ww hw 35 rfl) (ww hw 3 rfl) (ww hw 36 rfl) (by decide) (c_slot0_2_3 l Z a0 hw h a sa ks (2 : Int64) (by decide) pf2 pf0 vs) pd_3 rfl rfl rfl rfl rfl (nl rfl) (nl rfl) (nl rfl) (nl rfl) d14_27 rfl ?_
  rintro _ _ ⟨rfl, rfl⟩
  show Go _ _ _ _ _ _ _ _ _ _ _ _ 30 #[.val (.ref a), .val (.long u), .second, .val (.long (2 : Int64)), .second, .unset] [(.int (2 : Int32))]
  refine Go.istore (pc' := 32) (Ls' := #[.val (.ref a), .val (.long u), .second, .val (.long (2 : Int64)), .second, .val (.int (2 : Int32))]) d14_30 rfl rfl ?_
  refine Go.aloadN (pc' := 33) d14_32 rfl rfl rfl ?_
  refine Go.getfield (pc' := 36) (host := "") (Or.inl (ww hw 11 rfl)) Via.refl pf0 d14_33 rfl ?_
  refine Go.iload (pc' := 38) d14_36 rfl rfl ?_
  refine Go.laload (pc' := 39) (v := (2 : Int64)) vs d14_38 (by decide) (by decide) rfl rfl ?_
  refine Go.aloadN (pc' := 40) d14_39 rfl rfl rfl ?_
  refine Go.getfield (pc' := 43) (host := "") (Or.inl (ww hw 14 rfl)) Via.refl pf1 d14_40 rfl ?_
  refine Go.iload (pc' := 45) d14_43 rfl rfl ?_
  refine Go.iaload (pc' := 46) (v := (0 : Int32)) vn d14_45 (by decide) (by decide) rfl rfl ?_
  refine Go.i2l (pc' := 47) d14_46 rfl ?_
  show Go _ _ _ _ _ _ _ _ _ _ _ _ 47 #[.val (.ref a), .val (.long u), .second, .val (.long (2 : Int64)), .second, .val (.int (2 : Int32))] [(.long (0 : Int64)), (.long (2 : Int64))]
  refine Go.callS (cells' := 1) (slots' := 2) (pc' := 50) [(.long (2 : Int64)), (.long (0 : Int64))] [] (ww hw 87 rfl) (ww hw 88 rfl) (ww hw 18 rfl) (ww hw 89 rfl) (by decide) (c_ofSecN2 l Z a0 hw h) pd_6 rfl rfl rfl rfl rfl (nl rfl) (nl rfl) (nl rfl) (nl rfl) d14_47 rfl ?_
  rintro _ h2 ⟨r_2, rfl, K2, ge_r_2, sz_r_2, F2_0, F2_1, F2_2⟩
  have sz3 : h.size ≤ r_2 := Nat.le_trans (Keep.refl h []).1 sz_r_2
  have K4 : Keep h h2 [] := (Keep.refl h []).trans K2 all0
  show Go _ _ _ _ _ _ _ _ _ _ _ _ 50 #[.val (.ref a), .val (.long u), .second, .val (.long (2 : Int64)), .second, .val (.int (2 : Int32))] [(.ref r_2)]
  exact Go.retR rfl rfl rfl rfl d14_50 ⟨r_2, rfl, K4, ge_r_2, sz3, F2_0, F2_1, F2_2⟩ (by decide) (by decide)
set_option maxRecDepth 65536 in
set_option maxHeartbeats 4000000 in
theorem c_slot1_0_3 (l : Launch) (Z : State) (a0 : Array Value) (hw : ∀ d ∈ tables_1, d.before a0 Z = true) {n0 : Nat} (h : Heap) (a : Addr) (sa : Addr) (ks : ClassId) (o : Int64) (ho : o = (0 : Int64)) (fh : Fld Z h a "com/example/rens/rens/TimeRing" "head" "I" (.int (1 : Int32))) (fs : Fld Z h a "com/example/rens/rens/TimeRing" "seconds" "[J" (.ref sa)) (v : Arv Z h sa ks .long (4 : Int32) [(.long 0), (.long 1), (.long 2), (.long 0)] (.long 0)) :
    Con l (⟨"com/example/rens/rens/TimeRing", "slot", "(J)I"⟩ : MethodName) prog_22_method_8_code 3 (some .int) ({ frames := 0, cells := 0, slots := 0, locals := 0 } : Room) Z n0 #[(.ref a), (.long o)] h (fun v h' => v = some (.int (1 : Int32)) ∧ h = h') := by
  refine Con.of_go (plainFor_of_name pn_1) (Ls := #[.val (.ref a), .val (.long o), .second]) (fun m => by first | (simp [entryFrame, mkF, argsToLocals, Value.category]; done) | rfl) ?_
  refine Go.aloadN (pc' := 1) d6_0 rfl rfl rfl ?_
  refine Go.getfield (pc' := 4) (host := "") (Or.inl (ww hw 37 rfl)) Via.refl fh d6_1 rfl ?_
  refine Go.i2l (pc' := 5) d6_4 rfl ?_
  show Go _ _ _ _ _ _ _ _ _ _ _ _ 5 #[.val (.ref a), .val (.long o), .second] [(.long (1 : Int64))]
  refine Go.lloadN (pc' := 6) d6_5 rfl rfl ?_
  refine Go.ladd (pc' := 7) d6_6 rfl ?_
  refine Go.aloadN (pc' := 8) d6_7 rfl rfl rfl ?_
  refine Go.getfield (pc' := 11) (host := "") (Or.inl (ww hw 11 rfl)) Via.refl fs d6_8 rfl ?_
  refine Go.arraylength (pc' := 12) v d6_11 rfl ?_
  refine Go.iconst (pc' := 13) (v := (1 : Int32)) d6_12 rfl rfl ?_
  refine Go.isub (pc' := 14) d6_13 rfl ?_
  show Go _ _ _ _ _ _ _ _ _ _ _ _ 14 #[.val (.ref a), .val (.long o), .second] [(.int (3 : Int32)), (.long ((1 : Int64) + o))]
  refine Go.i2l (pc' := 15) d6_14 rfl ?_
  show Go _ _ _ _ _ _ _ _ _ _ _ _ 15 #[.val (.ref a), .val (.long o), .second] [(.long (3 : Int64)), (.long ((1 : Int64) + o))]
  refine Go.land (pc' := 16) d6_15 rfl ?_
  refine Go.l2i (pc' := 17) d6_16 rfl ?_
  exact Go.retI rfl d6_17 ⟨(by rw [ho]; rfl), rfl⟩ (by decide) (by decide)
set_option maxRecDepth 65536 in
set_option maxHeartbeats 4000000 in
theorem c_get3_1_0 (l : Launch) (Z : State) (a0 : Array Value) (hw : ∀ d ∈ tables_1, d.before a0 Z = true) {n0 : Nat} (h : Heap) (a : Addr) (sa : Addr) (ks : ClassId) (na : Addr) (kn : ClassId) (u : Int64) (v : Int64) (wp : Addr) (ho : (u - v) = (0 : Int64)) (sp : Sta Z Z.heap "java/time/Instant" "EPOCH" "Ljava/time/Instant;" (.ref wp)) (xp : Exa Z Z.heap wp "java/time/Instant") (fp : Fld Z Z.heap wp "java/time/Instant" "seconds" "J" (.long (0 : Int64))) (gp : Fld Z Z.heap wp "java/time/Instant" "nanos" "I" (.int (0 : Int32))) (x : Exa Z h a "com/example/rens/rens/TimeRing") (pf0 : Fld Z h a "com/example/rens/rens/TimeRing" "seconds" "[J" (.ref sa)) (pf1 : Fld Z h a "com/example/rens/rens/TimeRing" "nanos" "[I" (.ref na)) (pf2 : Fld Z h a "com/example/rens/rens/TimeRing" "head" "I" (.int (1 : Int32))) (pf3 : Fld Z h a "com/example/rens/rens/TimeRing" "size" "I" (.int (2 : Int32))) (pf4 : Fld Z h a "com/example/rens/rens/TimeRing" "first" "J" (.long v)) (vs : Arv Z h sa ks .long (4 : Int32) [(.long 0), (.long 1), (.long 2), (.long 0)] (.long 0)) (vn : Arv Z h na kn .int (4 : Int32) [(.int 0), (.int 0), (.int 0), (.int 0)] (.int 0)) :
    Con l (⟨"com/example/rens/rens/TimeRing", "get", "(J)Ljava/time/Instant;"⟩ : MethodName) prog_22_method_5_code 6 (some (.object "java/time/Instant")) ({ frames := 4, cells := 1, slots := 2, locals := 60 } : Room) Z n0 #[(.ref a), (.long u)] h (fun v h' => ∃ r : Addr, v = some (.ref r) ∧ Keep h h' [] ∧ n0 ≤ r ∧ h.size ≤ r ∧ Exa Z h' r "java/time/Instant" ∧ Fld Z h' r "java/time/Instant" "seconds" "J" (.long (1 : Int64)) ∧ Fld Z h' r "java/time/Instant" "nanos" "I" (.int (0 : Int32))) := by
  refine Con.of_go (plainFor_of_name pn_1) (Ls := #[.val (.ref a), .val (.long u), .second, .unset, .unset, .unset]) (fun m => by first | (simp [entryFrame, mkF, argsToLocals, Value.category]; done) | rfl) ?_
  refine Go.lloadN (pc' := 1) d14_0 rfl rfl ?_
  refine Go.aloadN (pc' := 2) d14_1 rfl rfl rfl ?_
  refine Go.getfield (pc' := 5) (host := "") (Or.inl (ww hw 31 rfl)) Via.refl pf4 d14_2 rfl ?_
  refine Go.lsub (pc' := 6) d14_5 rfl ?_
  rw [ho]
  refine Go.lstoreN (pc' := 7) (Ls' := #[.val (.ref a), .val (.long u), .second, .val (.long (0 : Int64)), .second, .unset]) d14_6 rfl rfl ?_
  refine Go.lloadN (pc' := 8) d14_7 rfl rfl ?_
  refine Go.lconst (pc' := 9) (v := (0 : Int64)) d14_8 rfl rfl ?_
  refine Go.lcmp (pc' := 10) d14_9 rfl ?_
  refine Go.ifNo (pc' := 13) d14_10 (XT.ll_lt_f (by decide)) rfl ?_
  refine Go.lloadN (pc' := 14) d14_13 rfl rfl ?_
  refine Go.aloadN (pc' := 15) d14_14 rfl rfl rfl ?_
  refine Go.getfield (pc' := 18) (host := "") (Or.inl (ww hw 29 rfl)) Via.refl pf3 d14_15 rfl ?_
  refine Go.i2l (pc' := 19) d14_18 rfl ?_
  show Go _ _ _ _ _ _ _ _ _ _ _ _ 19 #[.val (.ref a), .val (.long u), .second, .val (.long (0 : Int64)), .second, .unset] [(.long (2 : Int64)), (.long (0 : Int64))]
  refine Go.lcmp (pc' := 20) d14_19 rfl ?_
  refine Go.ifYes (pc' := 25) d14_20 (XT.ll_lt_t (by decide)) (by decide) (by decide) ?_
  refine Go.aloadN (pc' := 26) d14_25 rfl rfl rfl ?_
  refine Go.lloadN (pc' := 27) d14_26 rfl rfl ?_
  refine Go.callP (cells' := 0) (slots' := 0) (pc' := 30) [(.long (0 : Int64))] [] x (ww hw 33 rfl) (ww hw 34 rfl) (Jvm.Kit.selects_private (by decide) (ww hw 2 rfl) (ww hw 35 rfl) (ww hw 34 rfl)) (ww hw 35 rfl) (ww hw 3 rfl) (ww hw 36 rfl) (by decide) (c_slot1_0_3 l Z a0 hw h a sa ks (0 : Int64) (by decide) pf2 pf0 vs) pd_3 rfl rfl rfl rfl rfl (nl rfl) (nl rfl) (nl rfl) (nl rfl) d14_27 rfl ?_
  rintro _ _ ⟨rfl, rfl⟩
  show Go _ _ _ _ _ _ _ _ _ _ _ _ 30 #[.val (.ref a), .val (.long u), .second, .val (.long (0 : Int64)), .second, .unset] [(.int (1 : Int32))]
  refine Go.istore (pc' := 32) (Ls' := #[.val (.ref a), .val (.long u), .second, .val (.long (0 : Int64)), .second, .val (.int (1 : Int32))]) d14_30 rfl rfl ?_
  refine Go.aloadN (pc' := 33) d14_32 rfl rfl rfl ?_
  refine Go.getfield (pc' := 36) (host := "") (Or.inl (ww hw 11 rfl)) Via.refl pf0 d14_33 rfl ?_
  refine Go.iload (pc' := 38) d14_36 rfl rfl ?_
  refine Go.laload (pc' := 39) (v := (1 : Int64)) vs d14_38 (by decide) (by decide) rfl rfl ?_
  refine Go.aloadN (pc' := 40) d14_39 rfl rfl rfl ?_
  refine Go.getfield (pc' := 43) (host := "") (Or.inl (ww hw 14 rfl)) Via.refl pf1 d14_40 rfl ?_
  refine Go.iload (pc' := 45) d14_43 rfl rfl ?_
  refine Go.iaload (pc' := 46) (v := (0 : Int32)) vn d14_45 (by decide) (by decide) rfl rfl ?_
  refine Go.i2l (pc' := 47) d14_46 rfl ?_
  show Go _ _ _ _ _ _ _ _ _ _ _ _ 47 #[.val (.ref a), .val (.long u), .second, .val (.long (0 : Int64)), .second, .val (.int (1 : Int32))] [(.long (0 : Int64)), (.long (1 : Int64))]
  refine Go.callS (cells' := 1) (slots' := 2) (pc' := 50) [(.long (1 : Int64)), (.long (0 : Int64))] [] (ww hw 87 rfl) (ww hw 88 rfl) (ww hw 18 rfl) (ww hw 89 rfl) (by decide) (c_ofSecN1 l Z a0 hw h) pd_6 rfl rfl rfl rfl rfl (nl rfl) (nl rfl) (nl rfl) (nl rfl) d14_47 rfl ?_
  rintro _ h2 ⟨r_2, rfl, K2, ge_r_2, sz_r_2, F2_0, F2_1, F2_2⟩
  have sz3 : h.size ≤ r_2 := Nat.le_trans (Keep.refl h []).1 sz_r_2
  have K4 : Keep h h2 [] := (Keep.refl h []).trans K2 all0
  show Go _ _ _ _ _ _ _ _ _ _ _ _ 50 #[.val (.ref a), .val (.long u), .second, .val (.long (0 : Int64)), .second, .val (.int (1 : Int32))] [(.ref r_2)]
  exact Go.retR rfl rfl rfl rfl d14_50 ⟨r_2, rfl, K4, ge_r_2, sz3, F2_0, F2_1, F2_2⟩ (by decide) (by decide)
set_option maxRecDepth 65536 in
set_option maxHeartbeats 4000000 in
theorem c_get3_1_m1 (l : Launch) (Z : State) (a0 : Array Value) (hw : ∀ d ∈ tables_1, d.before a0 Z = true) {n0 : Nat} (h : Heap) (a : Addr) (sa : Addr) (ks : ClassId) (na : Addr) (kn : ClassId) (u : Int64) (v : Int64) (wp : Addr) (ho : (u - v) = (-1 : Int64)) (sp : Sta Z Z.heap "java/time/Instant" "EPOCH" "Ljava/time/Instant;" (.ref wp)) (xp : Exa Z Z.heap wp "java/time/Instant") (fp : Fld Z Z.heap wp "java/time/Instant" "seconds" "J" (.long (0 : Int64))) (gp : Fld Z Z.heap wp "java/time/Instant" "nanos" "I" (.int (0 : Int32))) (x : Exa Z h a "com/example/rens/rens/TimeRing") (pf0 : Fld Z h a "com/example/rens/rens/TimeRing" "seconds" "[J" (.ref sa)) (pf1 : Fld Z h a "com/example/rens/rens/TimeRing" "nanos" "[I" (.ref na)) (pf2 : Fld Z h a "com/example/rens/rens/TimeRing" "head" "I" (.int (1 : Int32))) (pf3 : Fld Z h a "com/example/rens/rens/TimeRing" "size" "I" (.int (2 : Int32))) (pf4 : Fld Z h a "com/example/rens/rens/TimeRing" "first" "J" (.long v)) (vs : Arv Z h sa ks .long (4 : Int32) [(.long 0), (.long 1), (.long 2), (.long 0)] (.long 0)) (vn : Arv Z h na kn .int (4 : Int32) [(.int 0), (.int 0), (.int 0), (.int 0)] (.int 0)) :
    Con l (⟨"com/example/rens/rens/TimeRing", "get", "(J)Ljava/time/Instant;"⟩ : MethodName) prog_22_method_5_code 6 (some (.object "java/time/Instant")) ({ frames := 0, cells := 0, slots := 0, locals := 0 } : Room) Z n0 #[(.ref a), (.long u)] h (fun v h' => v = some .null ∧ h = h') := by
  refine Con.of_go (plainFor_of_name pn_1) (Ls := #[.val (.ref a), .val (.long u), .second, .unset, .unset, .unset]) (fun m => by first | (simp [entryFrame, mkF, argsToLocals, Value.category]; done) | rfl) ?_
  refine Go.lloadN (pc' := 1) d14_0 rfl rfl ?_
  refine Go.aloadN (pc' := 2) d14_1 rfl rfl rfl ?_
  refine Go.getfield (pc' := 5) (host := "") (Or.inl (ww hw 31 rfl)) Via.refl pf4 d14_2 rfl ?_
  refine Go.lsub (pc' := 6) d14_5 rfl ?_
  rw [ho]
  refine Go.lstoreN (pc' := 7) (Ls' := #[.val (.ref a), .val (.long u), .second, .val (.long (-1 : Int64)), .second, .unset]) d14_6 rfl rfl ?_
  refine Go.lloadN (pc' := 8) d14_7 rfl rfl ?_
  refine Go.lconst (pc' := 9) (v := (0 : Int64)) d14_8 rfl rfl ?_
  refine Go.lcmp (pc' := 10) d14_9 rfl ?_
  refine Go.ifYes (pc' := 23) d14_10 (XT.ll_lt_t (by decide)) (by decide) (by decide) ?_
  refine Go.aconstNull (pc' := 24) d14_23 rfl ?_
  exact Go.retR rfl rfl rfl rfl d14_24 ⟨rfl, rfl⟩ (by decide) (by decide)
set_option maxRecDepth 65536 in
set_option maxHeartbeats 4000000 in
theorem c_slot1_1_3 (l : Launch) (Z : State) (a0 : Array Value) (hw : ∀ d ∈ tables_1, d.before a0 Z = true) {n0 : Nat} (h : Heap) (a : Addr) (sa : Addr) (ks : ClassId) (o : Int64) (ho : o = (1 : Int64)) (fh : Fld Z h a "com/example/rens/rens/TimeRing" "head" "I" (.int (1 : Int32))) (fs : Fld Z h a "com/example/rens/rens/TimeRing" "seconds" "[J" (.ref sa)) (v : Arv Z h sa ks .long (4 : Int32) [(.long 0), (.long 1), (.long 2), (.long 0)] (.long 0)) :
    Con l (⟨"com/example/rens/rens/TimeRing", "slot", "(J)I"⟩ : MethodName) prog_22_method_8_code 3 (some .int) ({ frames := 0, cells := 0, slots := 0, locals := 0 } : Room) Z n0 #[(.ref a), (.long o)] h (fun v h' => v = some (.int (2 : Int32)) ∧ h = h') := by
  refine Con.of_go (plainFor_of_name pn_1) (Ls := #[.val (.ref a), .val (.long o), .second]) (fun m => by first | (simp [entryFrame, mkF, argsToLocals, Value.category]; done) | rfl) ?_
  refine Go.aloadN (pc' := 1) d6_0 rfl rfl rfl ?_
  refine Go.getfield (pc' := 4) (host := "") (Or.inl (ww hw 37 rfl)) Via.refl fh d6_1 rfl ?_
  refine Go.i2l (pc' := 5) d6_4 rfl ?_
  show Go _ _ _ _ _ _ _ _ _ _ _ _ 5 #[.val (.ref a), .val (.long o), .second] [(.long (1 : Int64))]
  refine Go.lloadN (pc' := 6) d6_5 rfl rfl ?_
  refine Go.ladd (pc' := 7) d6_6 rfl ?_
  refine Go.aloadN (pc' := 8) d6_7 rfl rfl rfl ?_
  refine Go.getfield (pc' := 11) (host := "") (Or.inl (ww hw 11 rfl)) Via.refl fs d6_8 rfl ?_
  refine Go.arraylength (pc' := 12) v d6_11 rfl ?_
  refine Go.iconst (pc' := 13) (v := (1 : Int32)) d6_12 rfl rfl ?_
  refine Go.isub (pc' := 14) d6_13 rfl ?_
  show Go _ _ _ _ _ _ _ _ _ _ _ _ 14 #[.val (.ref a), .val (.long o), .second] [(.int (3 : Int32)), (.long ((1 : Int64) + o))]
  refine Go.i2l (pc' := 15) d6_14 rfl ?_
  show Go _ _ _ _ _ _ _ _ _ _ _ _ 15 #[.val (.ref a), .val (.long o), .second] [(.long (3 : Int64)), (.long ((1 : Int64) + o))]
  refine Go.land (pc' := 16) d6_15 rfl ?_
  refine Go.l2i (pc' := 17) d6_16 rfl ?_
  exact Go.retI rfl d6_17 ⟨(by rw [ho]; rfl), rfl⟩ (by decide) (by decide)
set_option maxRecDepth 65536 in
set_option maxHeartbeats 4000000 in
theorem c_get3_1_1 (l : Launch) (Z : State) (a0 : Array Value) (hw : ∀ d ∈ tables_1, d.before a0 Z = true) {n0 : Nat} (h : Heap) (a : Addr) (sa : Addr) (ks : ClassId) (na : Addr) (kn : ClassId) (u : Int64) (v : Int64) (wp : Addr) (ho : (u - v) = (1 : Int64)) (sp : Sta Z Z.heap "java/time/Instant" "EPOCH" "Ljava/time/Instant;" (.ref wp)) (xp : Exa Z Z.heap wp "java/time/Instant") (fp : Fld Z Z.heap wp "java/time/Instant" "seconds" "J" (.long (0 : Int64))) (gp : Fld Z Z.heap wp "java/time/Instant" "nanos" "I" (.int (0 : Int32))) (x : Exa Z h a "com/example/rens/rens/TimeRing") (pf0 : Fld Z h a "com/example/rens/rens/TimeRing" "seconds" "[J" (.ref sa)) (pf1 : Fld Z h a "com/example/rens/rens/TimeRing" "nanos" "[I" (.ref na)) (pf2 : Fld Z h a "com/example/rens/rens/TimeRing" "head" "I" (.int (1 : Int32))) (pf3 : Fld Z h a "com/example/rens/rens/TimeRing" "size" "I" (.int (2 : Int32))) (pf4 : Fld Z h a "com/example/rens/rens/TimeRing" "first" "J" (.long v)) (vs : Arv Z h sa ks .long (4 : Int32) [(.long 0), (.long 1), (.long 2), (.long 0)] (.long 0)) (vn : Arv Z h na kn .int (4 : Int32) [(.int 0), (.int 0), (.int 0), (.int 0)] (.int 0)) :
    Con l (⟨"com/example/rens/rens/TimeRing", "get", "(J)Ljava/time/Instant;"⟩ : MethodName) prog_22_method_5_code 6 (some (.object "java/time/Instant")) ({ frames := 4, cells := 1, slots := 2, locals := 60 } : Room) Z n0 #[(.ref a), (.long u)] h (fun v h' => ∃ r : Addr, v = some (.ref r) ∧ Keep h h' [] ∧ n0 ≤ r ∧ h.size ≤ r ∧ Exa Z h' r "java/time/Instant" ∧ Fld Z h' r "java/time/Instant" "seconds" "J" (.long (2 : Int64)) ∧ Fld Z h' r "java/time/Instant" "nanos" "I" (.int (0 : Int32))) := by
  refine Con.of_go (plainFor_of_name pn_1) (Ls := #[.val (.ref a), .val (.long u), .second, .unset, .unset, .unset]) (fun m => by first | (simp [entryFrame, mkF, argsToLocals, Value.category]; done) | rfl) ?_
  refine Go.lloadN (pc' := 1) d14_0 rfl rfl ?_
  refine Go.aloadN (pc' := 2) d14_1 rfl rfl rfl ?_
  refine Go.getfield (pc' := 5) (host := "") (Or.inl (ww hw 31 rfl)) Via.refl pf4 d14_2 rfl ?_
  refine Go.lsub (pc' := 6) d14_5 rfl ?_
  rw [ho]
  refine Go.lstoreN (pc' := 7) (Ls' := #[.val (.ref a), .val (.long u), .second, .val (.long (1 : Int64)), .second, .unset]) d14_6 rfl rfl ?_
  refine Go.lloadN (pc' := 8) d14_7 rfl rfl ?_
  refine Go.lconst (pc' := 9) (v := (0 : Int64)) d14_8 rfl rfl ?_
  refine Go.lcmp (pc' := 10) d14_9 rfl ?_
  refine Go.ifNo (pc' := 13) d14_10 (XT.ll_lt_f (by decide)) rfl ?_
  refine Go.lloadN (pc' := 14) d14_13 rfl rfl ?_
  refine Go.aloadN (pc' := 15) d14_14 rfl rfl rfl ?_
  refine Go.getfield (pc' := 18) (host := "") (Or.inl (ww hw 29 rfl)) Via.refl pf3 d14_15 rfl ?_
  refine Go.i2l (pc' := 19) d14_18 rfl ?_
  show Go _ _ _ _ _ _ _ _ _ _ _ _ 19 #[.val (.ref a), .val (.long u), .second, .val (.long (1 : Int64)), .second, .unset] [(.long (2 : Int64)), (.long (1 : Int64))]
  refine Go.lcmp (pc' := 20) d14_19 rfl ?_
  refine Go.ifYes (pc' := 25) d14_20 (XT.ll_lt_t (by decide)) (by decide) (by decide) ?_
  refine Go.aloadN (pc' := 26) d14_25 rfl rfl rfl ?_
  refine Go.lloadN (pc' := 27) d14_26 rfl rfl ?_
  refine Go.callP (cells' := 0) (slots' := 0) (pc' := 30) [(.long (1 : Int64))] [] x (ww hw 33 rfl) (ww hw 34 rfl) (Jvm.Kit.selects_private (by decide) (ww hw 2 rfl) (ww hw 35 rfl) (ww hw 34 rfl)) (ww hw 35 rfl) (ww hw 3 rfl) (ww hw 36 rfl) (by decide) (c_slot1_1_3 l Z a0 hw h a sa ks (1 : Int64) (by decide) pf2 pf0 vs) pd_3 rfl rfl rfl rfl rfl (nl rfl) (nl rfl) (nl rfl) (nl rfl) d14_27 rfl ?_
  rintro _ _ ⟨rfl, rfl⟩
  show Go _ _ _ _ _ _ _ _ _ _ _ _ 30 #[.val (.ref a), .val (.long u), .second, .val (.long (1 : Int64)), .second, .unset] [(.int (2 : Int32))]
  refine Go.istore (pc' := 32) (Ls' := #[.val (.ref a), .val (.long u), .second, .val (.long (1 : Int64)), .second, .val (.int (2 : Int32))]) d14_30 rfl rfl ?_
  refine Go.aloadN (pc' := 33) d14_32 rfl rfl rfl ?_
  refine Go.getfield (pc' := 36) (host := "") (Or.inl (ww hw 11 rfl)) Via.refl pf0 d14_33 rfl ?_
  refine Go.iload (pc' := 38) d14_36 rfl rfl ?_
  refine Go.laload (pc' := 39) (v := (2 : Int64)) vs d14_38 (by decide) (by decide) rfl rfl ?_
  refine Go.aloadN (pc' := 40) d14_39 rfl rfl rfl ?_
  refine Go.getfield (pc' := 43) (host := "") (Or.inl (ww hw 14 rfl)) Via.refl pf1 d14_40 rfl ?_
  refine Go.iload (pc' := 45) d14_43 rfl rfl ?_
  refine Go.iaload (pc' := 46) (v := (0 : Int32)) vn d14_45 (by decide) (by decide) rfl rfl ?_
  refine Go.i2l (pc' := 47) d14_46 rfl ?_
  show Go _ _ _ _ _ _ _ _ _ _ _ _ 47 #[.val (.ref a), .val (.long u), .second, .val (.long (1 : Int64)), .second, .val (.int (2 : Int32))] [(.long (0 : Int64)), (.long (2 : Int64))]
  refine Go.callS (cells' := 1) (slots' := 2) (pc' := 50) [(.long (2 : Int64)), (.long (0 : Int64))] [] (ww hw 87 rfl) (ww hw 88 rfl) (ww hw 18 rfl) (ww hw 89 rfl) (by decide) (c_ofSecN2 l Z a0 hw h) pd_6 rfl rfl rfl rfl rfl (nl rfl) (nl rfl) (nl rfl) (nl rfl) d14_47 rfl ?_
  rintro _ h2 ⟨r_2, rfl, K2, ge_r_2, sz_r_2, F2_0, F2_1, F2_2⟩
  have sz3 : h.size ≤ r_2 := Nat.le_trans (Keep.refl h []).1 sz_r_2
  have K4 : Keep h h2 [] := (Keep.refl h []).trans K2 all0
  show Go _ _ _ _ _ _ _ _ _ _ _ _ 50 #[.val (.ref a), .val (.long u), .second, .val (.long (1 : Int64)), .second, .val (.int (2 : Int32))] [(.ref r_2)]
  exact Go.retR rfl rfl rfl rfl d14_50 ⟨r_2, rfl, K4, ge_r_2, sz3, F2_0, F2_1, F2_2⟩ (by decide) (by decide)
set_option maxRecDepth 65536 in
set_option maxHeartbeats 4000000 in
theorem c_slot2_0_3 (l : Launch) (Z : State) (a0 : Array Value) (hw : ∀ d ∈ tables_1, d.before a0 Z = true) {n0 : Nat} (h : Heap) (a : Addr) (sa : Addr) (ks : ClassId) (o : Int64) (ho : o = (0 : Int64)) (fh : Fld Z h a "com/example/rens/rens/TimeRing" "head" "I" (.int (2 : Int32))) (fs : Fld Z h a "com/example/rens/rens/TimeRing" "seconds" "[J" (.ref sa)) (v : Arv Z h sa ks .long (4 : Int32) [(.long 0), (.long 1), (.long 2), (.long 0)] (.long 0)) :
    Con l (⟨"com/example/rens/rens/TimeRing", "slot", "(J)I"⟩ : MethodName) prog_22_method_8_code 3 (some .int) ({ frames := 0, cells := 0, slots := 0, locals := 0 } : Room) Z n0 #[(.ref a), (.long o)] h (fun v h' => v = some (.int (2 : Int32)) ∧ h = h') := by
  refine Con.of_go (plainFor_of_name pn_1) (Ls := #[.val (.ref a), .val (.long o), .second]) (fun m => by first | (simp [entryFrame, mkF, argsToLocals, Value.category]; done) | rfl) ?_
  refine Go.aloadN (pc' := 1) d6_0 rfl rfl rfl ?_
  refine Go.getfield (pc' := 4) (host := "") (Or.inl (ww hw 37 rfl)) Via.refl fh d6_1 rfl ?_
  refine Go.i2l (pc' := 5) d6_4 rfl ?_
  show Go _ _ _ _ _ _ _ _ _ _ _ _ 5 #[.val (.ref a), .val (.long o), .second] [(.long (2 : Int64))]
  refine Go.lloadN (pc' := 6) d6_5 rfl rfl ?_
  refine Go.ladd (pc' := 7) d6_6 rfl ?_
  refine Go.aloadN (pc' := 8) d6_7 rfl rfl rfl ?_
  refine Go.getfield (pc' := 11) (host := "") (Or.inl (ww hw 11 rfl)) Via.refl fs d6_8 rfl ?_
  refine Go.arraylength (pc' := 12) v d6_11 rfl ?_
  refine Go.iconst (pc' := 13) (v := (1 : Int32)) d6_12 rfl rfl ?_
  refine Go.isub (pc' := 14) d6_13 rfl ?_
  show Go _ _ _ _ _ _ _ _ _ _ _ _ 14 #[.val (.ref a), .val (.long o), .second] [(.int (3 : Int32)), (.long ((2 : Int64) + o))]
  refine Go.i2l (pc' := 15) d6_14 rfl ?_
  show Go _ _ _ _ _ _ _ _ _ _ _ _ 15 #[.val (.ref a), .val (.long o), .second] [(.long (3 : Int64)), (.long ((2 : Int64) + o))]
  refine Go.land (pc' := 16) d6_15 rfl ?_
  refine Go.l2i (pc' := 17) d6_16 rfl ?_
  exact Go.retI rfl d6_17 ⟨(by rw [ho]; rfl), rfl⟩ (by decide) (by decide)
set_option maxRecDepth 65536 in
set_option maxHeartbeats 4000000 in
theorem c_get3_2_0 (l : Launch) (Z : State) (a0 : Array Value) (hw : ∀ d ∈ tables_1, d.before a0 Z = true) {n0 : Nat} (h : Heap) (a : Addr) (sa : Addr) (ks : ClassId) (na : Addr) (kn : ClassId) (u : Int64) (v : Int64) (wp : Addr) (ho : (u - v) = (0 : Int64)) (sp : Sta Z Z.heap "java/time/Instant" "EPOCH" "Ljava/time/Instant;" (.ref wp)) (xp : Exa Z Z.heap wp "java/time/Instant") (fp : Fld Z Z.heap wp "java/time/Instant" "seconds" "J" (.long (0 : Int64))) (gp : Fld Z Z.heap wp "java/time/Instant" "nanos" "I" (.int (0 : Int32))) (x : Exa Z h a "com/example/rens/rens/TimeRing") (pf0 : Fld Z h a "com/example/rens/rens/TimeRing" "seconds" "[J" (.ref sa)) (pf1 : Fld Z h a "com/example/rens/rens/TimeRing" "nanos" "[I" (.ref na)) (pf2 : Fld Z h a "com/example/rens/rens/TimeRing" "head" "I" (.int (2 : Int32))) (pf3 : Fld Z h a "com/example/rens/rens/TimeRing" "size" "I" (.int (1 : Int32))) (pf4 : Fld Z h a "com/example/rens/rens/TimeRing" "first" "J" (.long v)) (vs : Arv Z h sa ks .long (4 : Int32) [(.long 0), (.long 1), (.long 2), (.long 0)] (.long 0)) (vn : Arv Z h na kn .int (4 : Int32) [(.int 0), (.int 0), (.int 0), (.int 0)] (.int 0)) :
    Con l (⟨"com/example/rens/rens/TimeRing", "get", "(J)Ljava/time/Instant;"⟩ : MethodName) prog_22_method_5_code 6 (some (.object "java/time/Instant")) ({ frames := 4, cells := 1, slots := 2, locals := 60 } : Room) Z n0 #[(.ref a), (.long u)] h (fun v h' => ∃ r : Addr, v = some (.ref r) ∧ Keep h h' [] ∧ n0 ≤ r ∧ h.size ≤ r ∧ Exa Z h' r "java/time/Instant" ∧ Fld Z h' r "java/time/Instant" "seconds" "J" (.long (2 : Int64)) ∧ Fld Z h' r "java/time/Instant" "nanos" "I" (.int (0 : Int32))) := by
  refine Con.of_go (plainFor_of_name pn_1) (Ls := #[.val (.ref a), .val (.long u), .second, .unset, .unset, .unset]) (fun m => by first | (simp [entryFrame, mkF, argsToLocals, Value.category]; done) | rfl) ?_
  refine Go.lloadN (pc' := 1) d14_0 rfl rfl ?_
  refine Go.aloadN (pc' := 2) d14_1 rfl rfl rfl ?_
  refine Go.getfield (pc' := 5) (host := "") (Or.inl (ww hw 31 rfl)) Via.refl pf4 d14_2 rfl ?_
  refine Go.lsub (pc' := 6) d14_5 rfl ?_
  rw [ho]
  refine Go.lstoreN (pc' := 7) (Ls' := #[.val (.ref a), .val (.long u), .second, .val (.long (0 : Int64)), .second, .unset]) d14_6 rfl rfl ?_
  refine Go.lloadN (pc' := 8) d14_7 rfl rfl ?_
  refine Go.lconst (pc' := 9) (v := (0 : Int64)) d14_8 rfl rfl ?_
  refine Go.lcmp (pc' := 10) d14_9 rfl ?_
  refine Go.ifNo (pc' := 13) d14_10 (XT.ll_lt_f (by decide)) rfl ?_
  refine Go.lloadN (pc' := 14) d14_13 rfl rfl ?_
  refine Go.aloadN (pc' := 15) d14_14 rfl rfl rfl ?_
  refine Go.getfield (pc' := 18) (host := "") (Or.inl (ww hw 29 rfl)) Via.refl pf3 d14_15 rfl ?_
  refine Go.i2l (pc' := 19) d14_18 rfl ?_
  show Go _ _ _ _ _ _ _ _ _ _ _ _ 19 #[.val (.ref a), .val (.long u), .second, .val (.long (0 : Int64)), .second, .unset] [(.long (1 : Int64)), (.long (0 : Int64))]
  refine Go.lcmp (pc' := 20) d14_19 rfl ?_
  refine Go.ifYes (pc' := 25) d14_20 (XT.ll_lt_t (by decide)) (by decide) (by decide) ?_
  refine Go.aloadN (pc' := 26) d14_25 rfl rfl rfl ?_
  refine Go.lloadN (pc' := 27) d14_26 rfl rfl ?_
  refine Go.callP (cells' := 0) (slots' := 0) (pc' := 30) [(.long (0 : Int64))] [] x (ww hw 33 rfl) (ww hw 34 rfl) (Jvm.Kit.selects_private (by decide) (ww hw 2 rfl) (ww hw 35 rfl) (ww hw 34 rfl)) (ww hw 35 rfl) (ww hw 3 rfl) (ww hw 36 rfl) (by decide) (c_slot2_0_3 l Z a0 hw h a sa ks (0 : Int64) (by decide) pf2 pf0 vs) pd_3 rfl rfl rfl rfl rfl (nl rfl) (nl rfl) (nl rfl) (nl rfl) d14_27 rfl ?_
  rintro _ _ ⟨rfl, rfl⟩
  show Go _ _ _ _ _ _ _ _ _ _ _ _ 30 #[.val (.ref a), .val (.long u), .second, .val (.long (0 : Int64)), .second, .unset] [(.int (2 : Int32))]
  refine Go.istore (pc' := 32) (Ls' := #[.val (.ref a), .val (.long u), .second, .val (.long (0 : Int64)), .second, .val (.int (2 : Int32))]) d14_30 rfl rfl ?_
  refine Go.aloadN (pc' := 33) d14_32 rfl rfl rfl ?_
  refine Go.getfield (pc' := 36) (host := "") (Or.inl (ww hw 11 rfl)) Via.refl pf0 d14_33 rfl ?_
  refine Go.iload (pc' := 38) d14_36 rfl rfl ?_
  refine Go.laload (pc' := 39) (v := (2 : Int64)) vs d14_38 (by decide) (by decide) rfl rfl ?_
  refine Go.aloadN (pc' := 40) d14_39 rfl rfl rfl ?_
  refine Go.getfield (pc' := 43) (host := "") (Or.inl (ww hw 14 rfl)) Via.refl pf1 d14_40 rfl ?_
  refine Go.iload (pc' := 45) d14_43 rfl rfl ?_
  refine Go.iaload (pc' := 46) (v := (0 : Int32)) vn d14_45 (by decide) (by decide) rfl rfl ?_
  refine Go.i2l (pc' := 47) d14_46 rfl ?_
  show Go _ _ _ _ _ _ _ _ _ _ _ _ 47 #[.val (.ref a), .val (.long u), .second, .val (.long (0 : Int64)), .second, .val (.int (2 : Int32))] [(.long (0 : Int64)), (.long (2 : Int64))]
  refine Go.callS (cells' := 1) (slots' := 2) (pc' := 50) [(.long (2 : Int64)), (.long (0 : Int64))] [] (ww hw 87 rfl) (ww hw 88 rfl) (ww hw 18 rfl) (ww hw 89 rfl) (by decide) (c_ofSecN2 l Z a0 hw h) pd_6 rfl rfl rfl rfl rfl (nl rfl) (nl rfl) (nl rfl) (nl rfl) d14_47 rfl ?_
  rintro _ h2 ⟨r_2, rfl, K2, ge_r_2, sz_r_2, F2_0, F2_1, F2_2⟩
  have sz3 : h.size ≤ r_2 := Nat.le_trans (Keep.refl h []).1 sz_r_2
  have K4 : Keep h h2 [] := (Keep.refl h []).trans K2 all0
  show Go _ _ _ _ _ _ _ _ _ _ _ _ 50 #[.val (.ref a), .val (.long u), .second, .val (.long (0 : Int64)), .second, .val (.int (2 : Int32))] [(.ref r_2)]
  exact Go.retR rfl rfl rfl rfl d14_50 ⟨r_2, rfl, K4, ge_r_2, sz3, F2_0, F2_1, F2_2⟩ (by decide) (by decide)
set_option maxRecDepth 65536 in
set_option maxHeartbeats 4000000 in
theorem c_get3_2_m1 (l : Launch) (Z : State) (a0 : Array Value) (hw : ∀ d ∈ tables_1, d.before a0 Z = true) {n0 : Nat} (h : Heap) (a : Addr) (sa : Addr) (ks : ClassId) (na : Addr) (kn : ClassId) (u : Int64) (v : Int64) (wp : Addr) (ho : (u - v) = (-1 : Int64)) (sp : Sta Z Z.heap "java/time/Instant" "EPOCH" "Ljava/time/Instant;" (.ref wp)) (xp : Exa Z Z.heap wp "java/time/Instant") (fp : Fld Z Z.heap wp "java/time/Instant" "seconds" "J" (.long (0 : Int64))) (gp : Fld Z Z.heap wp "java/time/Instant" "nanos" "I" (.int (0 : Int32))) (x : Exa Z h a "com/example/rens/rens/TimeRing") (pf0 : Fld Z h a "com/example/rens/rens/TimeRing" "seconds" "[J" (.ref sa)) (pf1 : Fld Z h a "com/example/rens/rens/TimeRing" "nanos" "[I" (.ref na)) (pf2 : Fld Z h a "com/example/rens/rens/TimeRing" "head" "I" (.int (2 : Int32))) (pf3 : Fld Z h a "com/example/rens/rens/TimeRing" "size" "I" (.int (1 : Int32))) (pf4 : Fld Z h a "com/example/rens/rens/TimeRing" "first" "J" (.long v)) (vs : Arv Z h sa ks .long (4 : Int32) [(.long 0), (.long 1), (.long 2), (.long 0)] (.long 0)) (vn : Arv Z h na kn .int (4 : Int32) [(.int 0), (.int 0), (.int 0), (.int 0)] (.int 0)) :
    Con l (⟨"com/example/rens/rens/TimeRing", "get", "(J)Ljava/time/Instant;"⟩ : MethodName) prog_22_method_5_code 6 (some (.object "java/time/Instant")) ({ frames := 0, cells := 0, slots := 0, locals := 0 } : Room) Z n0 #[(.ref a), (.long u)] h (fun v h' => v = some .null ∧ h = h') := by
  refine Con.of_go (plainFor_of_name pn_1) (Ls := #[.val (.ref a), .val (.long u), .second, .unset, .unset, .unset]) (fun m => by first | (simp [entryFrame, mkF, argsToLocals, Value.category]; done) | rfl) ?_
  refine Go.lloadN (pc' := 1) d14_0 rfl rfl ?_
  refine Go.aloadN (pc' := 2) d14_1 rfl rfl rfl ?_
  refine Go.getfield (pc' := 5) (host := "") (Or.inl (ww hw 31 rfl)) Via.refl pf4 d14_2 rfl ?_
  refine Go.lsub (pc' := 6) d14_5 rfl ?_
  rw [ho]
  refine Go.lstoreN (pc' := 7) (Ls' := #[.val (.ref a), .val (.long u), .second, .val (.long (-1 : Int64)), .second, .unset]) d14_6 rfl rfl ?_
  refine Go.lloadN (pc' := 8) d14_7 rfl rfl ?_
  refine Go.lconst (pc' := 9) (v := (0 : Int64)) d14_8 rfl rfl ?_
  refine Go.lcmp (pc' := 10) d14_9 rfl ?_
  refine Go.ifYes (pc' := 23) d14_10 (XT.ll_lt_t (by decide)) (by decide) (by decide) ?_
  refine Go.aconstNull (pc' := 24) d14_23 rfl ?_
  exact Go.retR rfl rfl rfl rfl d14_24 ⟨rfl, rfl⟩ (by decide) (by decide)
set_option maxRecDepth 65536 in
set_option maxHeartbeats 4000000 in
theorem c_get3_3_0 (l : Launch) (Z : State) (a0 : Array Value) (hw : ∀ d ∈ tables_1, d.before a0 Z = true) {n0 : Nat} (h : Heap) (a : Addr) (sa : Addr) (ks : ClassId) (na : Addr) (kn : ClassId) (u : Int64) (v : Int64) (wp : Addr) (ho : (u - v) = (0 : Int64)) (sp : Sta Z Z.heap "java/time/Instant" "EPOCH" "Ljava/time/Instant;" (.ref wp)) (xp : Exa Z Z.heap wp "java/time/Instant") (fp : Fld Z Z.heap wp "java/time/Instant" "seconds" "J" (.long (0 : Int64))) (gp : Fld Z Z.heap wp "java/time/Instant" "nanos" "I" (.int (0 : Int32))) (x : Exa Z h a "com/example/rens/rens/TimeRing") (pf0 : Fld Z h a "com/example/rens/rens/TimeRing" "seconds" "[J" (.ref sa)) (pf1 : Fld Z h a "com/example/rens/rens/TimeRing" "nanos" "[I" (.ref na)) (pf2 : Fld Z h a "com/example/rens/rens/TimeRing" "head" "I" (.int (3 : Int32))) (pf3 : Fld Z h a "com/example/rens/rens/TimeRing" "size" "I" (.int (0 : Int32))) (pf4 : Fld Z h a "com/example/rens/rens/TimeRing" "first" "J" (.long v)) (vs : Arv Z h sa ks .long (4 : Int32) [(.long 0), (.long 1), (.long 2), (.long 0)] (.long 0)) (vn : Arv Z h na kn .int (4 : Int32) [(.int 0), (.int 0), (.int 0), (.int 0)] (.int 0)) :
    Con l (⟨"com/example/rens/rens/TimeRing", "get", "(J)Ljava/time/Instant;"⟩ : MethodName) prog_22_method_5_code 6 (some (.object "java/time/Instant")) ({ frames := 0, cells := 0, slots := 0, locals := 0 } : Room) Z n0 #[(.ref a), (.long u)] h (fun v h' => v = some .null ∧ h = h') := by
  refine Con.of_go (plainFor_of_name pn_1) (Ls := #[.val (.ref a), .val (.long u), .second, .unset, .unset, .unset]) (fun m => by first | (simp [entryFrame, mkF, argsToLocals, Value.category]; done) | rfl) ?_
  refine Go.lloadN (pc' := 1) d14_0 rfl rfl ?_
  refine Go.aloadN (pc' := 2) d14_1 rfl rfl rfl ?_
  refine Go.getfield (pc' := 5) (host := "") (Or.inl (ww hw 31 rfl)) Via.refl pf4 d14_2 rfl ?_
  refine Go.lsub (pc' := 6) d14_5 rfl ?_
  rw [ho]
  refine Go.lstoreN (pc' := 7) (Ls' := #[.val (.ref a), .val (.long u), .second, .val (.long (0 : Int64)), .second, .unset]) d14_6 rfl rfl ?_
  refine Go.lloadN (pc' := 8) d14_7 rfl rfl ?_
  refine Go.lconst (pc' := 9) (v := (0 : Int64)) d14_8 rfl rfl ?_
  refine Go.lcmp (pc' := 10) d14_9 rfl ?_
  refine Go.ifNo (pc' := 13) d14_10 (XT.ll_lt_f (by decide)) rfl ?_
  refine Go.lloadN (pc' := 14) d14_13 rfl rfl ?_
  refine Go.aloadN (pc' := 15) d14_14 rfl rfl rfl ?_
  refine Go.getfield (pc' := 18) (host := "") (Or.inl (ww hw 29 rfl)) Via.refl pf3 d14_15 rfl ?_
  refine Go.i2l (pc' := 19) d14_18 rfl ?_
  show Go _ _ _ _ _ _ _ _ _ _ _ _ 19 #[.val (.ref a), .val (.long u), .second, .val (.long (0 : Int64)), .second, .unset] [(.long (0 : Int64)), (.long (0 : Int64))]
  refine Go.lcmp (pc' := 20) d14_19 rfl ?_
  refine Go.ifNo (pc' := 23) d14_20 (XT.ll_lt_f (by decide)) rfl ?_
  refine Go.aconstNull (pc' := 24) d14_23 rfl ?_
  exact Go.retR rfl rfl rfl rfl d14_24 ⟨rfl, rfl⟩ (by decide) (by decide)
set_option maxRecDepth 65536 in
set_option maxHeartbeats 4000000 in
theorem c_get3_3_m1 (l : Launch) (Z : State) (a0 : Array Value) (hw : ∀ d ∈ tables_1, d.before a0 Z = true) {n0 : Nat} (h : Heap) (a : Addr) (sa : Addr) (ks : ClassId) (na : Addr) (kn : ClassId) (u : Int64) (v : Int64) (wp : Addr) (ho : (u - v) = (-1 : Int64)) (sp : Sta Z Z.heap "java/time/Instant" "EPOCH" "Ljava/time/Instant;" (.ref wp)) (xp : Exa Z Z.heap wp "java/time/Instant") (fp : Fld Z Z.heap wp "java/time/Instant" "seconds" "J" (.long (0 : Int64))) (gp : Fld Z Z.heap wp "java/time/Instant" "nanos" "I" (.int (0 : Int32))) (x : Exa Z h a "com/example/rens/rens/TimeRing") (pf0 : Fld Z h a "com/example/rens/rens/TimeRing" "seconds" "[J" (.ref sa)) (pf1 : Fld Z h a "com/example/rens/rens/TimeRing" "nanos" "[I" (.ref na)) (pf2 : Fld Z h a "com/example/rens/rens/TimeRing" "head" "I" (.int (3 : Int32))) (pf3 : Fld Z h a "com/example/rens/rens/TimeRing" "size" "I" (.int (0 : Int32))) (pf4 : Fld Z h a "com/example/rens/rens/TimeRing" "first" "J" (.long v)) (vs : Arv Z h sa ks .long (4 : Int32) [(.long 0), (.long 1), (.long 2), (.long 0)] (.long 0)) (vn : Arv Z h na kn .int (4 : Int32) [(.int 0), (.int 0), (.int 0), (.int 0)] (.int 0)) :
    Con l (⟨"com/example/rens/rens/TimeRing", "get", "(J)Ljava/time/Instant;"⟩ : MethodName) prog_22_method_5_code 6 (some (.object "java/time/Instant")) ({ frames := 0, cells := 0, slots := 0, locals := 0 } : Room) Z n0 #[(.ref a), (.long u)] h (fun v h' => v = some .null ∧ h = h') := by
  refine Con.of_go (plainFor_of_name pn_1) (Ls := #[.val (.ref a), .val (.long u), .second, .unset, .unset, .unset]) (fun m => by first | (simp [entryFrame, mkF, argsToLocals, Value.category]; done) | rfl) ?_
  refine Go.lloadN (pc' := 1) d14_0 rfl rfl ?_
  refine Go.aloadN (pc' := 2) d14_1 rfl rfl rfl ?_
  refine Go.getfield (pc' := 5) (host := "") (Or.inl (ww hw 31 rfl)) Via.refl pf4 d14_2 rfl ?_
  refine Go.lsub (pc' := 6) d14_5 rfl ?_
  rw [ho]
  refine Go.lstoreN (pc' := 7) (Ls' := #[.val (.ref a), .val (.long u), .second, .val (.long (-1 : Int64)), .second, .unset]) d14_6 rfl rfl ?_
  refine Go.lloadN (pc' := 8) d14_7 rfl rfl ?_
  refine Go.lconst (pc' := 9) (v := (0 : Int64)) d14_8 rfl rfl ?_
  refine Go.lcmp (pc' := 10) d14_9 rfl ?_
  refine Go.ifYes (pc' := 23) d14_10 (XT.ll_lt_t (by decide)) (by decide) (by decide) ?_
  refine Go.aconstNull (pc' := 24) d14_23 rfl ?_
  exact Go.retR rfl rfl rfl rfl d14_24 ⟨rfl, rfl⟩ (by decide) (by decide)
set_option maxRecDepth 65536 in
set_option maxHeartbeats 4000000 in
theorem c_slot0_0_4 (l : Launch) (Z : State) (a0 : Array Value) (hw : ∀ d ∈ tables_1, d.before a0 Z = true) {n0 : Nat} (h : Heap) (a : Addr) (sa : Addr) (ks : ClassId) (o : Int64) (ho : o = (0 : Int64)) (fh : Fld Z h a "com/example/rens/rens/TimeRing" "head" "I" (.int (0 : Int32))) (fs : Fld Z h a "com/example/rens/rens/TimeRing" "seconds" "[J" (.ref sa)) (v : Arv Z h sa ks .long (4 : Int32) [(.long 0), (.long 1), (.long 2), (.long 3)] (.long 0)) :
    Con l (⟨"com/example/rens/rens/TimeRing", "slot", "(J)I"⟩ : MethodName) prog_22_method_8_code 3 (some .int) ({ frames := 0, cells := 0, slots := 0, locals := 0 } : Room) Z n0 #[(.ref a), (.long o)] h (fun v h' => v = some (.int (0 : Int32)) ∧ h = h') := by
  refine Con.of_go (plainFor_of_name pn_1) (Ls := #[.val (.ref a), .val (.long o), .second]) (fun m => by first | (simp [entryFrame, mkF, argsToLocals, Value.category]; done) | rfl) ?_
  refine Go.aloadN (pc' := 1) d6_0 rfl rfl rfl ?_
  refine Go.getfield (pc' := 4) (host := "") (Or.inl (ww hw 37 rfl)) Via.refl fh d6_1 rfl ?_
  refine Go.i2l (pc' := 5) d6_4 rfl ?_
  show Go _ _ _ _ _ _ _ _ _ _ _ _ 5 #[.val (.ref a), .val (.long o), .second] [(.long (0 : Int64))]
  refine Go.lloadN (pc' := 6) d6_5 rfl rfl ?_
  refine Go.ladd (pc' := 7) d6_6 rfl ?_
  refine Go.aloadN (pc' := 8) d6_7 rfl rfl rfl ?_
  refine Go.getfield (pc' := 11) (host := "") (Or.inl (ww hw 11 rfl)) Via.refl fs d6_8 rfl ?_
  refine Go.arraylength (pc' := 12) v d6_11 rfl ?_
  refine Go.iconst (pc' := 13) (v := (1 : Int32)) d6_12 rfl rfl ?_
  refine Go.isub (pc' := 14) d6_13 rfl ?_
  show Go _ _ _ _ _ _ _ _ _ _ _ _ 14 #[.val (.ref a), .val (.long o), .second] [(.int (3 : Int32)), (.long ((0 : Int64) + o))]
  refine Go.i2l (pc' := 15) d6_14 rfl ?_
  show Go _ _ _ _ _ _ _ _ _ _ _ _ 15 #[.val (.ref a), .val (.long o), .second] [(.long (3 : Int64)), (.long ((0 : Int64) + o))]
  refine Go.land (pc' := 16) d6_15 rfl ?_
  refine Go.l2i (pc' := 17) d6_16 rfl ?_
  exact Go.retI rfl d6_17 ⟨(by rw [ho]; rfl), rfl⟩ (by decide) (by decide)
set_option maxRecDepth 65536 in
set_option maxHeartbeats 4000000 in
theorem c_get4_0_0 (l : Launch) (Z : State) (a0 : Array Value) (hw : ∀ d ∈ tables_1, d.before a0 Z = true) {n0 : Nat} (h : Heap) (a : Addr) (sa : Addr) (ks : ClassId) (na : Addr) (kn : ClassId) (u : Int64) (v : Int64) (wp : Addr) (ho : (u - v) = (0 : Int64)) (sp : Sta Z Z.heap "java/time/Instant" "EPOCH" "Ljava/time/Instant;" (.ref wp)) (xp : Exa Z Z.heap wp "java/time/Instant") (fp : Fld Z Z.heap wp "java/time/Instant" "seconds" "J" (.long (0 : Int64))) (gp : Fld Z Z.heap wp "java/time/Instant" "nanos" "I" (.int (0 : Int32))) (x : Exa Z h a "com/example/rens/rens/TimeRing") (pf0 : Fld Z h a "com/example/rens/rens/TimeRing" "seconds" "[J" (.ref sa)) (pf1 : Fld Z h a "com/example/rens/rens/TimeRing" "nanos" "[I" (.ref na)) (pf2 : Fld Z h a "com/example/rens/rens/TimeRing" "head" "I" (.int (0 : Int32))) (pf3 : Fld Z h a "com/example/rens/rens/TimeRing" "size" "I" (.int (4 : Int32))) (pf4 : Fld Z h a "com/example/rens/rens/TimeRing" "first" "J" (.long v)) (vs : Arv Z h sa ks .long (4 : Int32) [(.long 0), (.long 1), (.long 2), (.long 3)] (.long 0)) (vn : Arv Z h na kn .int (4 : Int32) [(.int 0), (.int 0), (.int 0), (.int 0)] (.int 0)) :
    Con l (⟨"com/example/rens/rens/TimeRing", "get", "(J)Ljava/time/Instant;"⟩ : MethodName) prog_22_method_5_code 6 (some (.object "java/time/Instant")) ({ frames := 2, cells := 0, slots := 0, locals := 37 } : Room) Z n0 #[(.ref a), (.long u)] h (fun v h' => v = some (.ref wp) ∧ h = h') := by
  refine Con.of_go (plainFor_of_name pn_1) (Ls := #[.val (.ref a), .val (.long u), .second, .unset, .unset, .unset]) (fun m => by first | (simp [entryFrame, mkF, argsToLocals, Value.category]; done) | rfl) ?_
  refine Go.lloadN (pc' := 1) d14_0 rfl rfl ?_
  refine Go.aloadN (pc' := 2) d14_1 rfl rfl rfl ?_
  refine Go.getfield (pc' := 5) (host := "") (Or.inl (ww hw 31 rfl)) Via.refl pf4 d14_2 rfl ?_
  refine Go.lsub (pc' := 6) d14_5 rfl ?_
  rw [ho]
  refine Go.lstoreN (pc' := 7) (Ls' := #[.val (.ref a), .val (.long u), .second, .val (.long (0 : Int64)), .second, .unset]) d14_6 rfl rfl ?_
  refine Go.lloadN (pc' := 8) d14_7 rfl rfl ?_
  refine Go.lconst (pc' := 9) (v := (0 : Int64)) d14_8 rfl rfl ?_
  refine Go.lcmp (pc' := 10) d14_9 rfl ?_
  refine Go.ifNo (pc' := 13) d14_10 (XT.ll_lt_f (by decide)) rfl ?_
  refine Go.lloadN (pc' := 14) d14_13 rfl rfl ?_
  refine Go.aloadN (pc' := 15) d14_14 rfl rfl rfl ?_
  refine Go.getfield (pc' := 18) (host := "") (Or.inl (ww hw 29 rfl)) Via.refl pf3 d14_15 rfl ?_
  refine Go.i2l (pc' := 19) d14_18 rfl ?_
  show Go _ _ _ _ _ _ _ _ _ _ _ _ 19 #[.val (.ref a), .val (.long u), .second, .val (.long (0 : Int64)), .second, .unset] [(.long (4 : Int64)), (.long (0 : Int64))]
  refine Go.lcmp (pc' := 20) d14_19 rfl ?_
  refine Go.ifYes (pc' := 25) d14_20 (XT.ll_lt_t (by decide)) (by decide) (by decide) ?_
  refine Go.aloadN (pc' := 26) d14_25 rfl rfl rfl ?_
  refine Go.lloadN (pc' := 27) d14_26 rfl rfl ?_
  refine Go.callP (cells' := 0) (slots' := 0) (pc' := 30) [(.long (0 : Int64))] [] x (ww hw 33 rfl) (ww hw 34 rfl) (Jvm.Kit.selects_private (by decide) (ww hw 2 rfl) (ww hw 35 rfl) (ww hw 34 rfl)) (ww hw 35 rfl) (ww hw 3 rfl) (ww hw 36 rfl) (by decide) (c_slot0_0_4 l Z a0 hw h a sa ks (0 : Int64) (by decide) pf2 pf0 vs) pd_3 rfl rfl rfl rfl rfl (nl rfl) (nl rfl) (nl rfl) (nl rfl) d14_27 rfl ?_
  rintro _ _ ⟨rfl, rfl⟩
  show Go _ _ _ _ _ _ _ _ _ _ _ _ 30 #[.val (.ref a), .val (.long u), .second, .val (.long (0 : Int64)), .second, .unset] [(.int (0 : Int32))]
  refine Go.istore (pc' := 32) (Ls' := #[.val (.ref a), .val (.long u), .second, .val (.long (0 : Int64)), .second, .val (.int (0 : Int32))]) d14_30 rfl rfl ?_
  refine Go.aloadN (pc' := 33) d14_32 rfl rfl rfl ?_
  refine Go.getfield (pc' := 36) (host := "") (Or.inl (ww hw 11 rfl)) Via.refl pf0 d14_33 rfl ?_
  refine Go.iload (pc' := 38) d14_36 rfl rfl ?_
  refine Go.laload (pc' := 39) (v := (0 : Int64)) vs d14_38 (by decide) (by decide) rfl rfl ?_
  refine Go.aloadN (pc' := 40) d14_39 rfl rfl rfl ?_
  refine Go.getfield (pc' := 43) (host := "") (Or.inl (ww hw 14 rfl)) Via.refl pf1 d14_40 rfl ?_
  refine Go.iload (pc' := 45) d14_43 rfl rfl ?_
  refine Go.iaload (pc' := 46) (v := (0 : Int32)) vn d14_45 (by decide) (by decide) rfl rfl ?_
  refine Go.i2l (pc' := 47) d14_46 rfl ?_
  show Go _ _ _ _ _ _ _ _ _ _ _ _ 47 #[.val (.ref a), .val (.long u), .second, .val (.long (0 : Int64)), .second, .val (.int (0 : Int32))] [(.long (0 : Int64)), (.long (0 : Int64))]
  refine Go.callS (cells' := 0) (slots' := 0) (pc' := 50) [(.long (0 : Int64)), (.long (0 : Int64))] [] (ww hw 87 rfl) (ww hw 88 rfl) (ww hw 18 rfl) (ww hw 89 rfl) (by decide) (c_ofSecN0 l Z a0 hw h wp sp xp fp gp) pd_6 rfl rfl rfl rfl rfl (nl rfl) (nl rfl) (nl rfl) (nl rfl) d14_47 rfl ?_
  rintro _ _ ⟨rfl, rfl⟩
  show Go _ _ _ _ _ _ _ _ _ _ _ _ 50 #[.val (.ref a), .val (.long u), .second, .val (.long (0 : Int64)), .second, .val (.int (0 : Int32))] [(.ref wp)]
  exact Go.retR rfl rfl rfl rfl d14_50 ⟨rfl, rfl⟩ (by decide) (by decide)
set_option maxRecDepth 65536 in
set_option maxHeartbeats 4000000 in
theorem c_get4_0_m1 (l : Launch) (Z : State) (a0 : Array Value) (hw : ∀ d ∈ tables_1, d.before a0 Z = true) {n0 : Nat} (h : Heap) (a : Addr) (sa : Addr) (ks : ClassId) (na : Addr) (kn : ClassId) (u : Int64) (v : Int64) (wp : Addr) (ho : (u - v) = (-1 : Int64)) (sp : Sta Z Z.heap "java/time/Instant" "EPOCH" "Ljava/time/Instant;" (.ref wp)) (xp : Exa Z Z.heap wp "java/time/Instant") (fp : Fld Z Z.heap wp "java/time/Instant" "seconds" "J" (.long (0 : Int64))) (gp : Fld Z Z.heap wp "java/time/Instant" "nanos" "I" (.int (0 : Int32))) (x : Exa Z h a "com/example/rens/rens/TimeRing") (pf0 : Fld Z h a "com/example/rens/rens/TimeRing" "seconds" "[J" (.ref sa)) (pf1 : Fld Z h a "com/example/rens/rens/TimeRing" "nanos" "[I" (.ref na)) (pf2 : Fld Z h a "com/example/rens/rens/TimeRing" "head" "I" (.int (0 : Int32))) (pf3 : Fld Z h a "com/example/rens/rens/TimeRing" "size" "I" (.int (4 : Int32))) (pf4 : Fld Z h a "com/example/rens/rens/TimeRing" "first" "J" (.long v)) (vs : Arv Z h sa ks .long (4 : Int32) [(.long 0), (.long 1), (.long 2), (.long 3)] (.long 0)) (vn : Arv Z h na kn .int (4 : Int32) [(.int 0), (.int 0), (.int 0), (.int 0)] (.int 0)) :
    Con l (⟨"com/example/rens/rens/TimeRing", "get", "(J)Ljava/time/Instant;"⟩ : MethodName) prog_22_method_5_code 6 (some (.object "java/time/Instant")) ({ frames := 0, cells := 0, slots := 0, locals := 0 } : Room) Z n0 #[(.ref a), (.long u)] h (fun v h' => v = some .null ∧ h = h') := by
  refine Con.of_go (plainFor_of_name pn_1) (Ls := #[.val (.ref a), .val (.long u), .second, .unset, .unset, .unset]) (fun m => by first | (simp [entryFrame, mkF, argsToLocals, Value.category]; done) | rfl) ?_
  refine Go.lloadN (pc' := 1) d14_0 rfl rfl ?_
  refine Go.aloadN (pc' := 2) d14_1 rfl rfl rfl ?_
  refine Go.getfield (pc' := 5) (host := "") (Or.inl (ww hw 31 rfl)) Via.refl pf4 d14_2 rfl ?_
  refine Go.lsub (pc' := 6) d14_5 rfl ?_
  rw [ho]
  refine Go.lstoreN (pc' := 7) (Ls' := #[.val (.ref a), .val (.long u), .second, .val (.long (-1 : Int64)), .second, .unset]) d14_6 rfl rfl ?_
  refine Go.lloadN (pc' := 8) d14_7 rfl rfl ?_
  refine Go.lconst (pc' := 9) (v := (0 : Int64)) d14_8 rfl rfl ?_
  refine Go.lcmp (pc' := 10) d14_9 rfl ?_
  refine Go.ifYes (pc' := 23) d14_10 (XT.ll_lt_t (by decide)) (by decide) (by decide) ?_
  refine Go.aconstNull (pc' := 24) d14_23 rfl ?_
  exact Go.retR rfl rfl rfl rfl d14_24 ⟨rfl, rfl⟩ (by decide) (by decide)
set_option maxRecDepth 65536 in
set_option maxHeartbeats 4000000 in
theorem c_slot0_3_4 (l : Launch) (Z : State) (a0 : Array Value) (hw : ∀ d ∈ tables_1, d.before a0 Z = true) {n0 : Nat} (h : Heap) (a : Addr) (sa : Addr) (ks : ClassId) (o : Int64) (ho : o = (3 : Int64)) (fh : Fld Z h a "com/example/rens/rens/TimeRing" "head" "I" (.int (0 : Int32))) (fs : Fld Z h a "com/example/rens/rens/TimeRing" "seconds" "[J" (.ref sa)) (v : Arv Z h sa ks .long (4 : Int32) [(.long 0), (.long 1), (.long 2), (.long 3)] (.long 0)) :
    Con l (⟨"com/example/rens/rens/TimeRing", "slot", "(J)I"⟩ : MethodName) prog_22_method_8_code 3 (some .int) ({ frames := 0, cells := 0, slots := 0, locals := 0 } : Room) Z n0 #[(.ref a), (.long o)] h (fun v h' => v = some (.int (3 : Int32)) ∧ h = h') := by
  refine Con.of_go (plainFor_of_name pn_1) (Ls := #[.val (.ref a), .val (.long o), .second]) (fun m => by first | (simp [entryFrame, mkF, argsToLocals, Value.category]; done) | rfl) ?_
  refine Go.aloadN (pc' := 1) d6_0 rfl rfl rfl ?_
  refine Go.getfield (pc' := 4) (host := "") (Or.inl (ww hw 37 rfl)) Via.refl fh d6_1 rfl ?_
  refine Go.i2l (pc' := 5) d6_4 rfl ?_
  show Go _ _ _ _ _ _ _ _ _ _ _ _ 5 #[.val (.ref a), .val (.long o), .second] [(.long (0 : Int64))]
  refine Go.lloadN (pc' := 6) d6_5 rfl rfl ?_
  refine Go.ladd (pc' := 7) d6_6 rfl ?_
  refine Go.aloadN (pc' := 8) d6_7 rfl rfl rfl ?_
  refine Go.getfield (pc' := 11) (host := "") (Or.inl (ww hw 11 rfl)) Via.refl fs d6_8 rfl ?_
  refine Go.arraylength (pc' := 12) v d6_11 rfl ?_
  refine Go.iconst (pc' := 13) (v := (1 : Int32)) d6_12 rfl rfl ?_
  refine Go.isub (pc' := 14) d6_13 rfl ?_
  show Go _ _ _ _ _ _ _ _ _ _ _ _ 14 #[.val (.ref a), .val (.long o), .second] [(.int (3 : Int32)), (.long ((0 : Int64) + o))]
  refine Go.i2l (pc' := 15) d6_14 rfl ?_
  show Go _ _ _ _ _ _ _ _ _ _ _ _ 15 #[.val (.ref a), .val (.long o), .second] [(.long (3 : Int64)), (.long ((0 : Int64) + o))]
  refine Go.land (pc' := 16) d6_15 rfl ?_
  refine Go.l2i (pc' := 17) d6_16 rfl ?_
  exact Go.retI rfl d6_17 ⟨(by rw [ho]; rfl), rfl⟩ (by decide) (by decide)
set_option maxRecDepth 65536 in
set_option maxHeartbeats 4000000 in
theorem c_get4_0_3 (l : Launch) (Z : State) (a0 : Array Value) (hw : ∀ d ∈ tables_1, d.before a0 Z = true) {n0 : Nat} (h : Heap) (a : Addr) (sa : Addr) (ks : ClassId) (na : Addr) (kn : ClassId) (u : Int64) (v : Int64) (wp : Addr) (ho : (u - v) = (3 : Int64)) (sp : Sta Z Z.heap "java/time/Instant" "EPOCH" "Ljava/time/Instant;" (.ref wp)) (xp : Exa Z Z.heap wp "java/time/Instant") (fp : Fld Z Z.heap wp "java/time/Instant" "seconds" "J" (.long (0 : Int64))) (gp : Fld Z Z.heap wp "java/time/Instant" "nanos" "I" (.int (0 : Int32))) (x : Exa Z h a "com/example/rens/rens/TimeRing") (pf0 : Fld Z h a "com/example/rens/rens/TimeRing" "seconds" "[J" (.ref sa)) (pf1 : Fld Z h a "com/example/rens/rens/TimeRing" "nanos" "[I" (.ref na)) (pf2 : Fld Z h a "com/example/rens/rens/TimeRing" "head" "I" (.int (0 : Int32))) (pf3 : Fld Z h a "com/example/rens/rens/TimeRing" "size" "I" (.int (4 : Int32))) (pf4 : Fld Z h a "com/example/rens/rens/TimeRing" "first" "J" (.long v)) (vs : Arv Z h sa ks .long (4 : Int32) [(.long 0), (.long 1), (.long 2), (.long 3)] (.long 0)) (vn : Arv Z h na kn .int (4 : Int32) [(.int 0), (.int 0), (.int 0), (.int 0)] (.int 0)) :
    Con l (⟨"com/example/rens/rens/TimeRing", "get", "(J)Ljava/time/Instant;"⟩ : MethodName) prog_22_method_5_code 6 (some (.object "java/time/Instant")) ({ frames := 4, cells := 1, slots := 2, locals := 60 } : Room) Z n0 #[(.ref a), (.long u)] h (fun v h' => ∃ r : Addr, v = some (.ref r) ∧ Keep h h' [] ∧ n0 ≤ r ∧ h.size ≤ r ∧ Exa Z h' r "java/time/Instant" ∧ Fld Z h' r "java/time/Instant" "seconds" "J" (.long (3 : Int64)) ∧ Fld Z h' r "java/time/Instant" "nanos" "I" (.int (0 : Int32))) := by
  refine Con.of_go (plainFor_of_name pn_1) (Ls := #[.val (.ref a), .val (.long u), .second, .unset, .unset, .unset]) (fun m => by first | (simp [entryFrame, mkF, argsToLocals, Value.category]; done) | rfl) ?_
  refine Go.lloadN (pc' := 1) d14_0 rfl rfl ?_
  refine Go.aloadN (pc' := 2) d14_1 rfl rfl rfl ?_
  refine Go.getfield (pc' := 5) (host := "") (Or.inl (ww hw 31 rfl)) Via.refl pf4 d14_2 rfl ?_
  refine Go.lsub (pc' := 6) d14_5 rfl ?_
  rw [ho]
  refine Go.lstoreN (pc' := 7) (Ls' := #[.val (.ref a), .val (.long u), .second, .val (.long (3 : Int64)), .second, .unset]) d14_6 rfl rfl ?_
  refine Go.lloadN (pc' := 8) d14_7 rfl rfl ?_
  refine Go.lconst (pc' := 9) (v := (0 : Int64)) d14_8 rfl rfl ?_
  refine Go.lcmp (pc' := 10) d14_9 rfl ?_
  refine Go.ifNo (pc' := 13) d14_10 (XT.ll_lt_f (by decide)) rfl ?_
  refine Go.lloadN (pc' := 14) d14_13 rfl rfl ?_
  refine Go.aloadN (pc' := 15) d14_14 rfl rfl rfl ?_
  refine Go.getfield (pc' := 18) (host := "") (Or.inl (ww hw 29 rfl)) Via.refl pf3 d14_15 rfl ?_
  refine Go.i2l (pc' := 19) d14_18 rfl ?_
  show Go _ _ _ _ _ _ _ _ _ _ _ _ 19 #[.val (.ref a), .val (.long u), .second, .val (.long (3 : Int64)), .second, .unset] [(.long (4 : Int64)), (.long (3 : Int64))]
  refine Go.lcmp (pc' := 20) d14_19 rfl ?_
  refine Go.ifYes (pc' := 25) d14_20 (XT.ll_lt_t (by decide)) (by decide) (by decide) ?_
  refine Go.aloadN (pc' := 26) d14_25 rfl rfl rfl ?_
  refine Go.lloadN (pc' := 27) d14_26 rfl rfl ?_
  refine Go.callP (cells' := 0) (slots' := 0) (pc' := 30) [(.long (3 : Int64))] [] x (ww hw 33 rfl) (ww hw 34 rfl) (Jvm.Kit.selects_private (by decide) (ww hw 2 rfl) (ww hw 35 rfl) (ww hw 34 rfl)) (ww hw 35 rfl) (ww hw 3 rfl) (ww hw 36 rfl) (by decide) (c_slot0_3_4 l Z a0 hw h a sa ks (3 : Int64) (by decide) pf2 pf0 vs) pd_3 rfl rfl rfl rfl rfl (nl rfl) (nl rfl) (nl rfl) (nl rfl) d14_27 rfl ?_
  rintro _ _ ⟨rfl, rfl⟩
  show Go _ _ _ _ _ _ _ _ _ _ _ _ 30 #[.val (.ref a), .val (.long u), .second, .val (.long (3 : Int64)), .second, .unset] [(.int (3 : Int32))]
  refine Go.istore (pc' := 32) (Ls' := #[.val (.ref a), .val (.long u), .second, .val (.long (3 : Int64)), .second, .val (.int (3 : Int32))]) d14_30 rfl rfl ?_
  refine Go.aloadN (pc' := 33) d14_32 rfl rfl rfl ?_
  refine Go.getfield (pc' := 36) (host := "") (Or.inl (ww hw 11 rfl)) Via.refl pf0 d14_33 rfl ?_
  refine Go.iload (pc' := 38) d14_36 rfl rfl ?_
  refine Go.laload (pc' := 39) (v := (3 : Int64)) vs d14_38 (by decide) (by decide) rfl rfl ?_
  refine Go.aloadN (pc' := 40) d14_39 rfl rfl rfl ?_
  refine Go.getfield (pc' := 43) (host := "") (Or.inl (ww hw 14 rfl)) Via.refl pf1 d14_40 rfl ?_
  refine Go.iload (pc' := 45) d14_43 rfl rfl ?_
  refine Go.iaload (pc' := 46) (v := (0 : Int32)) vn d14_45 (by decide) (by decide) rfl rfl ?_
  refine Go.i2l (pc' := 47) d14_46 rfl ?_
  show Go _ _ _ _ _ _ _ _ _ _ _ _ 47 #[.val (.ref a), .val (.long u), .second, .val (.long (3 : Int64)), .second, .val (.int (3 : Int32))] [(.long (0 : Int64)), (.long (3 : Int64))]
  refine Go.callS (cells' := 1) (slots' := 2) (pc' := 50) [(.long (3 : Int64)), (.long (0 : Int64))] [] (ww hw 87 rfl) (ww hw 88 rfl) (ww hw 18 rfl) (ww hw 89 rfl) (by decide) (c_ofSecN3 l Z a0 hw h) pd_6 rfl rfl rfl rfl rfl (nl rfl) (nl rfl) (nl rfl) (nl rfl) d14_47 rfl ?_
  rintro _ h2 ⟨r_2, rfl, K2, ge_r_2, sz_r_2, F2_0, F2_1, F2_2⟩
  have sz3 : h.size ≤ r_2 := Nat.le_trans (Keep.refl h []).1 sz_r_2
  have K4 : Keep h h2 [] := (Keep.refl h []).trans K2 all0
  show Go _ _ _ _ _ _ _ _ _ _ _ _ 50 #[.val (.ref a), .val (.long u), .second, .val (.long (3 : Int64)), .second, .val (.int (3 : Int32))] [(.ref r_2)]
  exact Go.retR rfl rfl rfl rfl d14_50 ⟨r_2, rfl, K4, ge_r_2, sz3, F2_0, F2_1, F2_2⟩ (by decide) (by decide)
set_option maxRecDepth 65536 in
set_option maxHeartbeats 4000000 in
theorem c_slot1_0_4 (l : Launch) (Z : State) (a0 : Array Value) (hw : ∀ d ∈ tables_1, d.before a0 Z = true) {n0 : Nat} (h : Heap) (a : Addr) (sa : Addr) (ks : ClassId) (o : Int64) (ho : o = (0 : Int64)) (fh : Fld Z h a "com/example/rens/rens/TimeRing" "head" "I" (.int (1 : Int32))) (fs : Fld Z h a "com/example/rens/rens/TimeRing" "seconds" "[J" (.ref sa)) (v : Arv Z h sa ks .long (4 : Int32) [(.long 0), (.long 1), (.long 2), (.long 3)] (.long 0)) :
    Con l (⟨"com/example/rens/rens/TimeRing", "slot", "(J)I"⟩ : MethodName) prog_22_method_8_code 3 (some .int) ({ frames := 0, cells := 0, slots := 0, locals := 0 } : Room) Z n0 #[(.ref a), (.long o)] h (fun v h' => v = some (.int (1 : Int32)) ∧ h = h') := by
  refine Con.of_go (plainFor_of_name pn_1) (Ls := #[.val (.ref a), .val (.long o), .second]) (fun m => by first | (simp [entryFrame, mkF, argsToLocals, Value.category]; done) | rfl) ?_
  refine Go.aloadN (pc' := 1) d6_0 rfl rfl rfl ?_
  refine Go.getfield (pc' := 4) (host := "") (Or.inl (ww hw 37 rfl)) Via.refl fh d6_1 rfl ?_
  refine Go.i2l (pc' := 5) d6_4 rfl ?_
  show Go _ _ _ _ _ _ _ _ _ _ _ _ 5 #[.val (.ref a), .val (.long o), .second] [(.long (1 : Int64))]
  refine Go.lloadN (pc' := 6) d6_5 rfl rfl ?_
  refine Go.ladd (pc' := 7) d6_6 rfl ?_
  refine Go.aloadN (pc' := 8) d6_7 rfl rfl rfl ?_
  refine Go.getfield (pc' := 11) (host := "") (Or.inl (ww hw 11 rfl)) Via.refl fs d6_8 rfl ?_
  refine Go.arraylength (pc' := 12) v d6_11 rfl ?_
  refine Go.iconst (pc' := 13) (v := (1 : Int32)) d6_12 rfl rfl ?_
  refine Go.isub (pc' := 14) d6_13 rfl ?_
  show Go _ _ _ _ _ _ _ _ _ _ _ _ 14 #[.val (.ref a), .val (.long o), .second] [(.int (3 : Int32)), (.long ((1 : Int64) + o))]
  refine Go.i2l (pc' := 15) d6_14 rfl ?_
  show Go _ _ _ _ _ _ _ _ _ _ _ _ 15 #[.val (.ref a), .val (.long o), .second] [(.long (3 : Int64)), (.long ((1 : Int64) + o))]
  refine Go.land (pc' := 16) d6_15 rfl ?_
  refine Go.l2i (pc' := 17) d6_16 rfl ?_
  exact Go.retI rfl d6_17 ⟨(by rw [ho]; rfl), rfl⟩ (by decide) (by decide)
set_option maxRecDepth 65536 in
set_option maxHeartbeats 4000000 in
theorem c_get4_1_0 (l : Launch) (Z : State) (a0 : Array Value) (hw : ∀ d ∈ tables_1, d.before a0 Z = true) {n0 : Nat} (h : Heap) (a : Addr) (sa : Addr) (ks : ClassId) (na : Addr) (kn : ClassId) (u : Int64) (v : Int64) (wp : Addr) (ho : (u - v) = (0 : Int64)) (sp : Sta Z Z.heap "java/time/Instant" "EPOCH" "Ljava/time/Instant;" (.ref wp)) (xp : Exa Z Z.heap wp "java/time/Instant") (fp : Fld Z Z.heap wp "java/time/Instant" "seconds" "J" (.long (0 : Int64))) (gp : Fld Z Z.heap wp "java/time/Instant" "nanos" "I" (.int (0 : Int32))) (x : Exa Z h a "com/example/rens/rens/TimeRing") (pf0 : Fld Z h a "com/example/rens/rens/TimeRing" "seconds" "[J" (.ref sa)) (pf1 : Fld Z h a "com/example/rens/rens/TimeRing" "nanos" "[I" (.ref na)) (pf2 : Fld Z h a "com/example/rens/rens/TimeRing" "head" "I" (.int (1 : Int32))) (pf3 : Fld Z h a "com/example/rens/rens/TimeRing" "size" "I" (.int (3 : Int32))) (pf4 : Fld Z h a "com/example/rens/rens/TimeRing" "first" "J" (.long v)) (vs : Arv Z h sa ks .long (4 : Int32) [(.long 0), (.long 1), (.long 2), (.long 3)] (.long 0)) (vn : Arv Z h na kn .int (4 : Int32) [(.int 0), (.int 0), (.int 0), (.int 0)] (.int 0)) :
    Con l (⟨"com/example/rens/rens/TimeRing", "get", "(J)Ljava/time/Instant;"⟩ : MethodName) prog_22_method_5_code 6 (some (.object "java/time/Instant")) ({ frames := 4, cells := 1, slots := 2, locals := 60 } : Room) Z n0 #[(.ref a), (.long u)] h (fun v h' => ∃ r : Addr, v = some (.ref r) ∧ Keep h h' [] ∧ n0 ≤ r ∧ h.size ≤ r ∧ Exa Z h' r "java/time/Instant" ∧ Fld Z h' r "java/time/Instant" "seconds" "J" (.long (1 : Int64)) ∧ Fld Z h' r "java/time/Instant" "nanos" "I" (.int (0 : Int32))) := by
  refine Con.of_go (plainFor_of_name pn_1) (Ls := #[.val (.ref a), .val (.long u), .second, .unset, .unset, .unset]) (fun m => by first | (simp [entryFrame, mkF, argsToLocals, Value.category]; done) | rfl) ?_
  refine Go.lloadN (pc' := 1) d14_0 rfl rfl ?_
  refine Go.aloadN (pc' := 2) d14_1 rfl rfl rfl ?_
  refine Go.getfield (pc' := 5) (host := "") (Or.inl (ww hw 31 rfl)) Via.refl pf4 d14_2 rfl ?_
  refine Go.lsub (pc' := 6) d14_5 rfl ?_
  rw [ho]
  refine Go.lstoreN (pc' := 7) (Ls' := #[.val (.ref a), .val (.long u), .second, .val (.long (0 : Int64)), .second, .unset]) d14_6 rfl rfl ?_
  refine Go.lloadN (pc' := 8) d14_7 rfl rfl ?_
  refine Go.lconst (pc' := 9) (v := (0 : Int64)) d14_8 rfl rfl ?_
  refine Go.lcmp (pc' := 10) d14_9 rfl ?_
  refine Go.ifNo (pc' := 13) d14_10 (XT.ll_lt_f (by decide)) rfl ?_
  refine Go.lloadN (pc' := 14) d14_13 rfl rfl ?_
  refine Go.aloadN (pc' := 15) d14_14 rfl rfl rfl ?_
  refine Go.getfield (pc' := 18) (host := "") (Or.inl (ww hw 29 rfl)) Via.refl pf3 d14_15 rfl ?_
  refine Go.i2l (pc' := 19) d14_18 rfl ?_
  show Go _ _ _ _ _ _ _ _ _ _ _ _ 19 #[.val (.ref a), .val (.long u), .second, .val (.long (0 : Int64)), .second, .unset] [(.long (3 : Int64)), (.long (0 : Int64))]
  refine Go.lcmp (pc' := 20) d14_19 rfl ?_
  refine Go.ifYes (pc' := 25) d14_20 (XT.ll_lt_t (by decide)) (by decide) (by decide) ?_
  refine Go.aloadN (pc' := 26) d14_25 rfl rfl rfl ?_
  refine Go.lloadN (pc' := 27) d14_26 rfl rfl ?_
  refine Go.callP (cells' := 0) (slots' := 0) (pc' := 30) [(.long (0 : Int64))] [] x (ww hw 33 rfl) (ww hw 34 rfl) (Jvm.Kit.selects_private (by decide) (ww hw 2 rfl) (ww hw 35 rfl) (ww hw 34 rfl)) (ww hw 35 rfl) (ww hw 3 rfl) (ww hw 36 rfl) (by decide) (c_slot1_0_4 l Z a0 hw h a sa ks (0 : Int64) (by decide) pf2 pf0 vs) pd_3 rfl rfl rfl rfl rfl (nl rfl) (nl rfl) (nl rfl) (nl rfl) d14_27 rfl ?_
  rintro _ _ ⟨rfl, rfl⟩
  show Go _ _ _ _ _ _ _ _ _ _ _ _ 30 #[.val (.ref a), .val (.long u), .second, .val (.long (0 : Int64)), .second, .unset] [(.int (1 : Int32))]
  refine Go.istore (pc' := 32) (Ls' := #[.val (.ref a), .val (.long u), .second, .val (.long (0 : Int64)), .second, .val (.int (1 : Int32))]) d14_30 rfl rfl ?_
  refine Go.aloadN (pc' := 33) d14_32 rfl rfl rfl ?_
  refine Go.getfield (pc' := 36) (host := "") (Or.inl (ww hw 11 rfl)) Via.refl pf0 d14_33 rfl ?_
  refine Go.iload (pc' := 38) d14_36 rfl rfl ?_
  refine Go.laload (pc' := 39) (v := (1 : Int64)) vs d14_38 (by decide) (by decide) rfl rfl ?_
  refine Go.aloadN (pc' := 40) d14_39 rfl rfl rfl ?_
  refine Go.getfield (pc' := 43) (host := "") (Or.inl (ww hw 14 rfl)) Via.refl pf1 d14_40 rfl ?_
  refine Go.iload (pc' := 45) d14_43 rfl rfl ?_
  refine Go.iaload (pc' := 46) (v := (0 : Int32)) vn d14_45 (by decide) (by decide) rfl rfl ?_
  refine Go.i2l (pc' := 47) d14_46 rfl ?_
  show Go _ _ _ _ _ _ _ _ _ _ _ _ 47 #[.val (.ref a), .val (.long u), .second, .val (.long (0 : Int64)), .second, .val (.int (1 : Int32))] [(.long (0 : Int64)), (.long (1 : Int64))]
  refine Go.callS (cells' := 1) (slots' := 2) (pc' := 50) [(.long (1 : Int64)), (.long (0 : Int64))] [] (ww hw 87 rfl) (ww hw 88 rfl) (ww hw 18 rfl) (ww hw 89 rfl) (by decide) (c_ofSecN1 l Z a0 hw h) pd_6 rfl rfl rfl rfl rfl (nl rfl) (nl rfl) (nl rfl) (nl rfl) d14_47 rfl ?_
  rintro _ h2 ⟨r_2, rfl, K2, ge_r_2, sz_r_2, F2_0, F2_1, F2_2⟩
  have sz3 : h.size ≤ r_2 := Nat.le_trans (Keep.refl h []).1 sz_r_2
  have K4 : Keep h h2 [] := (Keep.refl h []).trans K2 all0
  show Go _ _ _ _ _ _ _ _ _ _ _ _ 50 #[.val (.ref a), .val (.long u), .second, .val (.long (0 : Int64)), .second, .val (.int (1 : Int32))] [(.ref r_2)]
  exact Go.retR rfl rfl rfl rfl d14_50 ⟨r_2, rfl, K4, ge_r_2, sz3, F2_0, F2_1, F2_2⟩ (by decide) (by decide)
set_option maxRecDepth 65536 in
set_option maxHeartbeats 4000000 in
theorem c_get4_1_m1 (l : Launch) (Z : State) (a0 : Array Value) (hw : ∀ d ∈ tables_1, d.before a0 Z = true) {n0 : Nat} (h : Heap) (a : Addr) (sa : Addr) (ks : ClassId) (na : Addr) (kn : ClassId) (u : Int64) (v : Int64) (wp : Addr) (ho : (u - v) = (-1 : Int64)) (sp : Sta Z Z.heap "java/time/Instant" "EPOCH" "Ljava/time/Instant;" (.ref wp)) (xp : Exa Z Z.heap wp "java/time/Instant") (fp : Fld Z Z.heap wp "java/time/Instant" "seconds" "J" (.long (0 : Int64))) (gp : Fld Z Z.heap wp "java/time/Instant" "nanos" "I" (.int (0 : Int32))) (x : Exa Z h a "com/example/rens/rens/TimeRing") (pf0 : Fld Z h a "com/example/rens/rens/TimeRing" "seconds" "[J" (.ref sa)) (pf1 : Fld Z h a "com/example/rens/rens/TimeRing" "nanos" "[I" (.ref na)) (pf2 : Fld Z h a "com/example/rens/rens/TimeRing" "head" "I" (.int (1 : Int32))) (pf3 : Fld Z h a "com/example/rens/rens/TimeRing" "size" "I" (.int (3 : Int32))) (pf4 : Fld Z h a "com/example/rens/rens/TimeRing" "first" "J" (.long v)) (vs : Arv Z h sa ks .long (4 : Int32) [(.long 0), (.long 1), (.long 2), (.long 3)] (.long 0)) (vn : Arv Z h na kn .int (4 : Int32) [(.int 0), (.int 0), (.int 0), (.int 0)] (.int 0)) :
    Con l (⟨"com/example/rens/rens/TimeRing", "get", "(J)Ljava/time/Instant;"⟩ : MethodName) prog_22_method_5_code 6 (some (.object "java/time/Instant")) ({ frames := 0, cells := 0, slots := 0, locals := 0 } : Room) Z n0 #[(.ref a), (.long u)] h (fun v h' => v = some .null ∧ h = h') := by
  refine Con.of_go (plainFor_of_name pn_1) (Ls := #[.val (.ref a), .val (.long u), .second, .unset, .unset, .unset]) (fun m => by first | (simp [entryFrame, mkF, argsToLocals, Value.category]; done) | rfl) ?_
  refine Go.lloadN (pc' := 1) d14_0 rfl rfl ?_
  refine Go.aloadN (pc' := 2) d14_1 rfl rfl rfl ?_
  refine Go.getfield (pc' := 5) (host := "") (Or.inl (ww hw 31 rfl)) Via.refl pf4 d14_2 rfl ?_
  refine Go.lsub (pc' := 6) d14_5 rfl ?_
  rw [ho]
  refine Go.lstoreN (pc' := 7) (Ls' := #[.val (.ref a), .val (.long u), .second, .val (.long (-1 : Int64)), .second, .unset]) d14_6 rfl rfl ?_
  refine Go.lloadN (pc' := 8) d14_7 rfl rfl ?_
  refine Go.lconst (pc' := 9) (v := (0 : Int64)) d14_8 rfl rfl ?_
  refine Go.lcmp (pc' := 10) d14_9 rfl ?_
  refine Go.ifYes (pc' := 23) d14_10 (XT.ll_lt_t (by decide)) (by decide) (by decide) ?_
  refine Go.aconstNull (pc' := 24) d14_23 rfl ?_
  exact Go.retR rfl rfl rfl rfl d14_24 ⟨rfl, rfl⟩ (by decide) (by decide)
set_option maxRecDepth 65536 in
set_option maxHeartbeats 4000000 in
theorem c_slot1_2_4 (l : Launch) (Z : State) (a0 : Array Value) (hw : ∀ d ∈ tables_1, d.before a0 Z = true) {n0 : Nat} (h : Heap) (a : Addr) (sa : Addr) (ks : ClassId) (o : Int64) (ho : o = (2 : Int64)) (fh : Fld Z h a "com/example/rens/rens/TimeRing" "head" "I" (.int (1 : Int32))) (fs : Fld Z h a "com/example/rens/rens/TimeRing" "seconds" "[J" (.ref sa)) (v : Arv Z h sa ks .long (4 : Int32) [(.long 0), (.long 1), (.long 2), (.long 3)] (.long 0)) :
    Con l (⟨"com/example/rens/rens/TimeRing", "slot", "(J)I"⟩ : MethodName) prog_22_method_8_code 3 (some .int) ({ frames := 0, cells := 0, slots := 0, locals := 0 } : Room) Z n0 #[(.ref a), (.long o)] h (fun v h' => v = some (.int (3 : Int32)) ∧ h = h') := by
  refine Con.of_go (plainFor_of_name pn_1) (Ls := #[.val (.ref a), .val (.long o), .second]) (fun m => by first | (simp [entryFrame, mkF, argsToLocals, Value.category]; done) | rfl) ?_
  refine Go.aloadN (pc' := 1) d6_0 rfl rfl rfl ?_
  refine Go.getfield (pc' := 4) (host := "") (Or.inl (ww hw 37 rfl)) Via.refl fh d6_1 rfl ?_
  refine Go.i2l (pc' := 5) d6_4 rfl ?_
  show Go _ _ _ _ _ _ _ _ _ _ _ _ 5 #[.val (.ref a), .val (.long o), .second] [(.long (1 : Int64))]
  refine Go.lloadN (pc' := 6) d6_5 rfl rfl ?_
  refine Go.ladd (pc' := 7) d6_6 rfl ?_
  refine Go.aloadN (pc' := 8) d6_7 rfl rfl rfl ?_
  refine Go.getfield (pc' := 11) (host := "") (Or.inl (ww hw 11 rfl)) Via.refl fs d6_8 rfl ?_
  refine Go.arraylength (pc' := 12) v d6_11 rfl ?_
  refine Go.iconst (pc' := 13) (v := (1 : Int32)) d6_12 rfl rfl ?_
  refine Go.isub (pc' := 14) d6_13 rfl ?_
  show Go _ _ _ _ _ _ _ _ _ _ _ _ 14 #[.val (.ref a), .val (.long o), .second] [(.int (3 : Int32)), (.long ((1 : Int64) + o))]
  refine Go.i2l (pc' := 15) d6_14 rfl ?_
  show Go _ _ _ _ _ _ _ _ _ _ _ _ 15 #[.val (.ref a), .val (.long o), .second] [(.long (3 : Int64)), (.long ((1 : Int64) + o))]
  refine Go.land (pc' := 16) d6_15 rfl ?_
  refine Go.l2i (pc' := 17) d6_16 rfl ?_
  exact Go.retI rfl d6_17 ⟨(by rw [ho]; rfl), rfl⟩ (by decide) (by decide)
set_option maxRecDepth 65536 in
set_option maxHeartbeats 4000000 in
theorem c_get4_1_2 (l : Launch) (Z : State) (a0 : Array Value) (hw : ∀ d ∈ tables_1, d.before a0 Z = true) {n0 : Nat} (h : Heap) (a : Addr) (sa : Addr) (ks : ClassId) (na : Addr) (kn : ClassId) (u : Int64) (v : Int64) (wp : Addr) (ho : (u - v) = (2 : Int64)) (sp : Sta Z Z.heap "java/time/Instant" "EPOCH" "Ljava/time/Instant;" (.ref wp)) (xp : Exa Z Z.heap wp "java/time/Instant") (fp : Fld Z Z.heap wp "java/time/Instant" "seconds" "J" (.long (0 : Int64))) (gp : Fld Z Z.heap wp "java/time/Instant" "nanos" "I" (.int (0 : Int32))) (x : Exa Z h a "com/example/rens/rens/TimeRing") (pf0 : Fld Z h a "com/example/rens/rens/TimeRing" "seconds" "[J" (.ref sa)) (pf1 : Fld Z h a "com/example/rens/rens/TimeRing" "nanos" "[I" (.ref na)) (pf2 : Fld Z h a "com/example/rens/rens/TimeRing" "head" "I" (.int (1 : Int32))) (pf3 : Fld Z h a "com/example/rens/rens/TimeRing" "size" "I" (.int (3 : Int32))) (pf4 : Fld Z h a "com/example/rens/rens/TimeRing" "first" "J" (.long v)) (vs : Arv Z h sa ks .long (4 : Int32) [(.long 0), (.long 1), (.long 2), (.long 3)] (.long 0)) (vn : Arv Z h na kn .int (4 : Int32) [(.int 0), (.int 0), (.int 0), (.int 0)] (.int 0)) :
    Con l (⟨"com/example/rens/rens/TimeRing", "get", "(J)Ljava/time/Instant;"⟩ : MethodName) prog_22_method_5_code 6 (some (.object "java/time/Instant")) ({ frames := 4, cells := 1, slots := 2, locals := 60 } : Room) Z n0 #[(.ref a), (.long u)] h (fun v h' => ∃ r : Addr, v = some (.ref r) ∧ Keep h h' [] ∧ n0 ≤ r ∧ h.size ≤ r ∧ Exa Z h' r "java/time/Instant" ∧ Fld Z h' r "java/time/Instant" "seconds" "J" (.long (3 : Int64)) ∧ Fld Z h' r "java/time/Instant" "nanos" "I" (.int (0 : Int32))) := by
  refine Con.of_go (plainFor_of_name pn_1) (Ls := #[.val (.ref a), .val (.long u), .second, .unset, .unset, .unset]) (fun m => by first | (simp [entryFrame, mkF, argsToLocals, Value.category]; done) | rfl) ?_
  refine Go.lloadN (pc' := 1) d14_0 rfl rfl ?_
  refine Go.aloadN (pc' := 2) d14_1 rfl rfl rfl ?_
  refine Go.getfield (pc' := 5) (host := "") (Or.inl (ww hw 31 rfl)) Via.refl pf4 d14_2 rfl ?_
  refine Go.lsub (pc' := 6) d14_5 rfl ?_
  rw [ho]
  refine Go.lstoreN (pc' := 7) (Ls' := #[.val (.ref a), .val (.long u), .second, .val (.long (2 : Int64)), .second, .unset]) d14_6 rfl rfl ?_
  refine Go.lloadN (pc' := 8) d14_7 rfl rfl ?_
  refine Go.lconst (pc' := 9) (v := (0 : Int64)) d14_8 rfl rfl ?_
  refine Go.lcmp (pc' := 10) d14_9 rfl ?_
  refine Go.ifNo (pc' := 13) d14_10 (XT.ll_lt_f (by decide)) rfl ?_
  refine Go.lloadN (pc' := 14) d14_13 rfl rfl ?_
  refine Go.aloadN (pc' := 15) d14_14 rfl rfl rfl ?_
  refine Go.getfield (pc' := 18) (host := "") (Or.inl (ww hw 29 rfl)) Via.refl pf3 d14_15 rfl ?_
  refine Go.i2l (pc' := 19) d14_18 rfl ?_
  show Go _ _ _ _ _ _ _ _ _ _ _ _ 19 #[.val (.ref a), .val (.long u), .second, .val (.long (2 : Int64)), .second, .unset] [(.long (3 : Int64)), (.long (2 : Int64))]
  refine Go.lcmp (pc' := 20) d14_19 rfl ?_
  refine Go.ifYes (pc' := 25) d14_20 (XT.ll_lt_t (by decide)) (by decide) (by decide) ?_
  refine Go.aloadN (pc' := 26) d14_25 rfl rfl rfl ?_
  refine Go.lloadN (pc' := 27) d14_26 rfl rfl ?_
  refine Go.callP (cells' := 0) (slots' := 0) (pc' := 30) [(.long (2 : Int64))] [] x (ww hw 33 rfl) (ww hw 34 rfl) (Jvm.Kit.selects_private (by decide) (ww hw 2 rfl) (ww hw 35 rfl) (ww hw 34 rfl)) (ww hw 35 rfl) (ww hw 3 rfl) (ww hw 36 rfl) (by decide) (c_slot1_2_4 l Z a0 hw h a sa ks (2 : Int64) (by decide) pf2 pf0 vs) pd_3 rfl rfl rfl rfl rfl (nl rfl) (nl rfl) (nl rfl) (nl rfl) d14_27 rfl ?_
  rintro _ _ ⟨rfl, rfl⟩
  show Go _ _ _ _ _ _ _ _ _ _ _ _ 30 #[.val (.ref a), .val (.long u), .second, .val (.long (2 : Int64)), .second, .unset] [(.int (3 : Int32))]
  refine Go.istore (pc' := 32) (Ls' := #[.val (.ref a), .val (.long u), .second, .val (.long (2 : Int64)), .second, .val (.int (3 : Int32))]) d14_30 rfl rfl ?_
  refine Go.aloadN (pc' := 33) d14_32 rfl rfl rfl ?_
  refine Go.getfield (pc' := 36) (host := "") (Or.inl (ww hw 11 rfl)) Via.refl pf0 d14_33 rfl ?_
  refine Go.iload (pc' := 38) d14_36 rfl rfl ?_
  refine Go.laload (pc' := 39) (v := (3 : Int64)) vs d14_38 (by decide) (by decide) rfl rfl ?_
  refine Go.aloadN (pc' := 40) d14_39 rfl rfl rfl ?_
  refine Go.getfield (pc' := 43) (host := "") (Or.inl (ww hw 14 rfl)) Via.refl pf1 d14_40 rfl ?_
  refine Go.iload (pc' := 45) d14_43 rfl rfl ?_
  refine Go.iaload (pc' := 46) (v := (0 : Int32)) vn d14_45 (by decide) (by decide) rfl rfl ?_
  refine Go.i2l (pc' := 47) d14_46 rfl ?_
  show Go _ _ _ _ _ _ _ _ _ _ _ _ 47 #[.val (.ref a), .val (.long u), .second, .val (.long (2 : Int64)), .second, .val (.int (3 : Int32))] [(.long (0 : Int64)), (.long (3 : Int64))]
  refine Go.callS (cells' := 1) (slots' := 2) (pc' := 50) [(.long (3 : Int64)), (.long (0 : Int64))] [] (ww hw 87 rfl) (ww hw 88 rfl) (ww hw 18 rfl) (ww hw 89 rfl) (by decide) (c_ofSecN3 l Z a0 hw h) pd_6 rfl rfl rfl rfl rfl (nl rfl) (nl rfl) (nl rfl) (nl rfl) d14_47 rfl ?_
  rintro _ h2 ⟨r_2, rfl, K2, ge_r_2, sz_r_2, F2_0, F2_1, F2_2⟩
  have sz3 : h.size ≤ r_2 := Nat.le_trans (Keep.refl h []).1 sz_r_2
  have K4 : Keep h h2 [] := (Keep.refl h []).trans K2 all0
  show Go _ _ _ _ _ _ _ _ _ _ _ _ 50 #[.val (.ref a), .val (.long u), .second, .val (.long (2 : Int64)), .second, .val (.int (3 : Int32))] [(.ref r_2)]
  exact Go.retR rfl rfl rfl rfl d14_50 ⟨r_2, rfl, K4, ge_r_2, sz3, F2_0, F2_1, F2_2⟩ (by decide) (by decide)
set_option maxRecDepth 65536 in
set_option maxHeartbeats 4000000 in
theorem c_slot2_0_4 (l : Launch) (Z : State) (a0 : Array Value) (hw : ∀ d ∈ tables_1, d.before a0 Z = true) {n0 : Nat} (h : Heap) (a : Addr) (sa : Addr) (ks : ClassId) (o : Int64) (ho : o = (0 : Int64)) (fh : Fld Z h a "com/example/rens/rens/TimeRing" "head" "I" (.int (2 : Int32))) (fs : Fld Z h a "com/example/rens/rens/TimeRing" "seconds" "[J" (.ref sa)) (v : Arv Z h sa ks .long (4 : Int32) [(.long 0), (.long 1), (.long 2), (.long 3)] (.long 0)) :
    Con l (⟨"com/example/rens/rens/TimeRing", "slot", "(J)I"⟩ : MethodName) prog_22_method_8_code 3 (some .int) ({ frames := 0, cells := 0, slots := 0, locals := 0 } : Room) Z n0 #[(.ref a), (.long o)] h (fun v h' => v = some (.int (2 : Int32)) ∧ h = h') := by
  refine Con.of_go (plainFor_of_name pn_1) (Ls := #[.val (.ref a), .val (.long o), .second]) (fun m => by first | (simp [entryFrame, mkF, argsToLocals, Value.category]; done) | rfl) ?_
  refine Go.aloadN (pc' := 1) d6_0 rfl rfl rfl ?_
  refine Go.getfield (pc' := 4) (host := "") (Or.inl (ww hw 37 rfl)) Via.refl fh d6_1 rfl ?_
  refine Go.i2l (pc' := 5) d6_4 rfl ?_
  show Go _ _ _ _ _ _ _ _ _ _ _ _ 5 #[.val (.ref a), .val (.long o), .second] [(.long (2 : Int64))]
  refine Go.lloadN (pc' := 6) d6_5 rfl rfl ?_
  refine Go.ladd (pc' := 7) d6_6 rfl ?_
  refine Go.aloadN (pc' := 8) d6_7 rfl rfl rfl ?_
  refine Go.getfield (pc' := 11) (host := "") (Or.inl (ww hw 11 rfl)) Via.refl fs d6_8 rfl ?_
  refine Go.arraylength (pc' := 12) v d6_11 rfl ?_
  refine Go.iconst (pc' := 13) (v := (1 : Int32)) d6_12 rfl rfl ?_
  refine Go.isub (pc' := 14) d6_13 rfl ?_
  show Go _ _ _ _ _ _ _ _ _ _ _ _ 14 #[.val (.ref a), .val (.long o), .second] [(.int (3 : Int32)), (.long ((2 : Int64) + o))]
  refine Go.i2l (pc' := 15) d6_14 rfl ?_
  show Go _ _ _ _ _ _ _ _ _ _ _ _ 15 #[.val (.ref a), .val (.long o), .second] [(.long (3 : Int64)), (.long ((2 : Int64) + o))]
  refine Go.land (pc' := 16) d6_15 rfl ?_
  refine Go.l2i (pc' := 17) d6_16 rfl ?_
  exact Go.retI rfl d6_17 ⟨(by rw [ho]; rfl), rfl⟩ (by decide) (by decide)
set_option maxRecDepth 65536 in
set_option maxHeartbeats 4000000 in
theorem c_get4_2_0 (l : Launch) (Z : State) (a0 : Array Value) (hw : ∀ d ∈ tables_1, d.before a0 Z = true) {n0 : Nat} (h : Heap) (a : Addr) (sa : Addr) (ks : ClassId) (na : Addr) (kn : ClassId) (u : Int64) (v : Int64) (wp : Addr) (ho : (u - v) = (0 : Int64)) (sp : Sta Z Z.heap "java/time/Instant" "EPOCH" "Ljava/time/Instant;" (.ref wp)) (xp : Exa Z Z.heap wp "java/time/Instant") (fp : Fld Z Z.heap wp "java/time/Instant" "seconds" "J" (.long (0 : Int64))) (gp : Fld Z Z.heap wp "java/time/Instant" "nanos" "I" (.int (0 : Int32))) (x : Exa Z h a "com/example/rens/rens/TimeRing") (pf0 : Fld Z h a "com/example/rens/rens/TimeRing" "seconds" "[J" (.ref sa)) (pf1 : Fld Z h a "com/example/rens/rens/TimeRing" "nanos" "[I" (.ref na)) (pf2 : Fld Z h a "com/example/rens/rens/TimeRing" "head" "I" (.int (2 : Int32))) (pf3 : Fld Z h a "com/example/rens/rens/TimeRing" "size" "I" (.int (2 : Int32))) (pf4 : Fld Z h a "com/example/rens/rens/TimeRing" "first" "J" (.long v)) (vs : Arv Z h sa ks .long (4 : Int32) [(.long 0), (.long 1), (.long 2), (.long 3)] (.long 0)) (vn : Arv Z h na kn .int (4 : Int32) [(.int 0), (.int 0), (.int 0), (.int 0)] (.int 0)) :
    Con l (⟨"com/example/rens/rens/TimeRing", "get", "(J)Ljava/time/Instant;"⟩ : MethodName) prog_22_method_5_code 6 (some (.object "java/time/Instant")) ({ frames := 4, cells := 1, slots := 2, locals := 60 } : Room) Z n0 #[(.ref a), (.long u)] h (fun v h' => ∃ r : Addr, v = some (.ref r) ∧ Keep h h' [] ∧ n0 ≤ r ∧ h.size ≤ r ∧ Exa Z h' r "java/time/Instant" ∧ Fld Z h' r "java/time/Instant" "seconds" "J" (.long (2 : Int64)) ∧ Fld Z h' r "java/time/Instant" "nanos" "I" (.int (0 : Int32))) := by
  refine Con.of_go (plainFor_of_name pn_1) (Ls := #[.val (.ref a), .val (.long u), .second, .unset, .unset, .unset]) (fun m => by first | (simp [entryFrame, mkF, argsToLocals, Value.category]; done) | rfl) ?_
  refine Go.lloadN (pc' := 1) d14_0 rfl rfl ?_
  refine Go.aloadN (pc' := 2) d14_1 rfl rfl rfl ?_
  refine Go.getfield (pc' := 5) (host := "") (Or.inl (ww hw 31 rfl)) Via.refl pf4 d14_2 rfl ?_
  refine Go.lsub (pc' := 6) d14_5 rfl ?_
  rw [ho]
  refine Go.lstoreN (pc' := 7) (Ls' := #[.val (.ref a), .val (.long u), .second, .val (.long (0 : Int64)), .second, .unset]) d14_6 rfl rfl ?_
  refine Go.lloadN (pc' := 8) d14_7 rfl rfl ?_
  refine Go.lconst (pc' := 9) (v := (0 : Int64)) d14_8 rfl rfl ?_
  refine Go.lcmp (pc' := 10) d14_9 rfl ?_
  refine Go.ifNo (pc' := 13) d14_10 (XT.ll_lt_f (by decide)) rfl ?_
  refine Go.lloadN (pc' := 14) d14_13 rfl rfl ?_
  refine Go.aloadN (pc' := 15) d14_14 rfl rfl rfl ?_
  refine Go.getfield (pc' := 18) (host := "") (Or.inl (ww hw 29 rfl)) Via.refl pf3 d14_15 rfl ?_
  refine Go.i2l (pc' := 19) d14_18 rfl ?_
  show Go _ _ _ _ _ _ _ _ _ _ _ _ 19 #[.val (.ref a), .val (.long u), .second, .val (.long (0 : Int64)), .second, .unset] [(.long (2 : Int64)), (.long (0 : Int64))]
  refine Go.lcmp (pc' := 20) d14_19 rfl ?_
  refine Go.ifYes (pc' := 25) d14_20 (XT.ll_lt_t (by decide)) (by decide) (by decide) ?_
  refine Go.aloadN (pc' := 26) d14_25 rfl rfl rfl ?_
  refine Go.lloadN (pc' := 27) d14_26 rfl rfl ?_
  refine Go.callP (cells' := 0) (slots' := 0) (pc' := 30) [(.long (0 : Int64))] [] x (ww hw 33 rfl) (ww hw 34 rfl) (Jvm.Kit.selects_private (by decide) (ww hw 2 rfl) (ww hw 35 rfl) (ww hw 34 rfl)) (ww hw 35 rfl) (ww hw 3 rfl) (ww hw 36 rfl) (by decide) (c_slot2_0_4 l Z a0 hw h a sa ks (0 : Int64) (by decide) pf2 pf0 vs) pd_3 rfl rfl rfl rfl rfl (nl rfl) (nl rfl) (nl rfl) (nl rfl) d14_27 rfl ?_
  rintro _ _ ⟨rfl, rfl⟩
  show Go _ _ _ _ _ _ _ _ _ _ _ _ 30 #[.val (.ref a), .val (.long u), .second, .val (.long (0 : Int64)), .second, .unset] [(.int (2 : Int32))]
  refine Go.istore (pc' := 32) (Ls' := #[.val (.ref a), .val (.long u), .second, .val (.long (0 : Int64)), .second, .val (.int (2 : Int32))]) d14_30 rfl rfl ?_
  refine Go.aloadN (pc' := 33) d14_32 rfl rfl rfl ?_
  refine Go.getfield (pc' := 36) (host := "") (Or.inl (ww hw 11 rfl)) Via.refl pf0 d14_33 rfl ?_
  refine Go.iload (pc' := 38) d14_36 rfl rfl ?_
  refine Go.laload (pc' := 39) (v := (2 : Int64)) vs d14_38 (by decide) (by decide) rfl rfl ?_
  refine Go.aloadN (pc' := 40) d14_39 rfl rfl rfl ?_
  refine Go.getfield (pc' := 43) (host := "") (Or.inl (ww hw 14 rfl)) Via.refl pf1 d14_40 rfl ?_
  refine Go.iload (pc' := 45) d14_43 rfl rfl ?_
  refine Go.iaload (pc' := 46) (v := (0 : Int32)) vn d14_45 (by decide) (by decide) rfl rfl ?_
  refine Go.i2l (pc' := 47) d14_46 rfl ?_
  show Go _ _ _ _ _ _ _ _ _ _ _ _ 47 #[.val (.ref a), .val (.long u), .second, .val (.long (0 : Int64)), .second, .val (.int (2 : Int32))] [(.long (0 : Int64)), (.long (2 : Int64))]
  refine Go.callS (cells' := 1) (slots' := 2) (pc' := 50) [(.long (2 : Int64)), (.long (0 : Int64))] [] (ww hw 87 rfl) (ww hw 88 rfl) (ww hw 18 rfl) (ww hw 89 rfl) (by decide) (c_ofSecN2 l Z a0 hw h) pd_6 rfl rfl rfl rfl rfl (nl rfl) (nl rfl) (nl rfl) (nl rfl) d14_47 rfl ?_
  rintro _ h2 ⟨r_2, rfl, K2, ge_r_2, sz_r_2, F2_0, F2_1, F2_2⟩
  have sz3 : h.size ≤ r_2 := Nat.le_trans (Keep.refl h []).1 sz_r_2
  have K4 : Keep h h2 [] := (Keep.refl h []).trans K2 all0
  show Go _ _ _ _ _ _ _ _ _ _ _ _ 50 #[.val (.ref a), .val (.long u), .second, .val (.long (0 : Int64)), .second, .val (.int (2 : Int32))] [(.ref r_2)]
  exact Go.retR rfl rfl rfl rfl d14_50 ⟨r_2, rfl, K4, ge_r_2, sz3, F2_0, F2_1, F2_2⟩ (by decide) (by decide)
set_option maxRecDepth 65536 in
set_option maxHeartbeats 4000000 in
theorem c_get4_2_m1 (l : Launch) (Z : State) (a0 : Array Value) (hw : ∀ d ∈ tables_1, d.before a0 Z = true) {n0 : Nat} (h : Heap) (a : Addr) (sa : Addr) (ks : ClassId) (na : Addr) (kn : ClassId) (u : Int64) (v : Int64) (wp : Addr) (ho : (u - v) = (-1 : Int64)) (sp : Sta Z Z.heap "java/time/Instant" "EPOCH" "Ljava/time/Instant;" (.ref wp)) (xp : Exa Z Z.heap wp "java/time/Instant") (fp : Fld Z Z.heap wp "java/time/Instant" "seconds" "J" (.long (0 : Int64))) (gp : Fld Z Z.heap wp "java/time/Instant" "nanos" "I" (.int (0 : Int32))) (x : Exa Z h a "com/example/rens/rens/TimeRing") (pf0 : Fld Z h a "com/example/rens/rens/TimeRing" "seconds" "[J" (.ref sa)) (pf1 : Fld Z h a "com/example/rens/rens/TimeRing" "nanos" "[I" (.ref na)) (pf2 : Fld Z h a "com/example/rens/rens/TimeRing" "head" "I" (.int (2 : Int32))) (pf3 : Fld Z h a "com/example/rens/rens/TimeRing" "size" "I" (.int (2 : Int32))) (pf4 : Fld Z h a "com/example/rens/rens/TimeRing" "first" "J" (.long v)) (vs : Arv Z h sa ks .long (4 : Int32) [(.long 0), (.long 1), (.long 2), (.long 3)] (.long 0)) (vn : Arv Z h na kn .int (4 : Int32) [(.int 0), (.int 0), (.int 0), (.int 0)] (.int 0)) :
    Con l (⟨"com/example/rens/rens/TimeRing", "get", "(J)Ljava/time/Instant;"⟩ : MethodName) prog_22_method_5_code 6 (some (.object "java/time/Instant")) ({ frames := 0, cells := 0, slots := 0, locals := 0 } : Room) Z n0 #[(.ref a), (.long u)] h (fun v h' => v = some .null ∧ h = h') := by
  refine Con.of_go (plainFor_of_name pn_1) (Ls := #[.val (.ref a), .val (.long u), .second, .unset, .unset, .unset]) (fun m => by first | (simp [entryFrame, mkF, argsToLocals, Value.category]; done) | rfl) ?_
  refine Go.lloadN (pc' := 1) d14_0 rfl rfl ?_
  refine Go.aloadN (pc' := 2) d14_1 rfl rfl rfl ?_
  refine Go.getfield (pc' := 5) (host := "") (Or.inl (ww hw 31 rfl)) Via.refl pf4 d14_2 rfl ?_
  refine Go.lsub (pc' := 6) d14_5 rfl ?_
  rw [ho]
  refine Go.lstoreN (pc' := 7) (Ls' := #[.val (.ref a), .val (.long u), .second, .val (.long (-1 : Int64)), .second, .unset]) d14_6 rfl rfl ?_
  refine Go.lloadN (pc' := 8) d14_7 rfl rfl ?_
  refine Go.lconst (pc' := 9) (v := (0 : Int64)) d14_8 rfl rfl ?_
  refine Go.lcmp (pc' := 10) d14_9 rfl ?_
  refine Go.ifYes (pc' := 23) d14_10 (XT.ll_lt_t (by decide)) (by decide) (by decide) ?_
  refine Go.aconstNull (pc' := 24) d14_23 rfl ?_
  exact Go.retR rfl rfl rfl rfl d14_24 ⟨rfl, rfl⟩ (by decide) (by decide)
set_option maxRecDepth 65536 in
set_option maxHeartbeats 4000000 in
theorem c_slot2_1_4 (l : Launch) (Z : State) (a0 : Array Value) (hw : ∀ d ∈ tables_1, d.before a0 Z = true) {n0 : Nat} (h : Heap) (a : Addr) (sa : Addr) (ks : ClassId) (o : Int64) (ho : o = (1 : Int64)) (fh : Fld Z h a "com/example/rens/rens/TimeRing" "head" "I" (.int (2 : Int32))) (fs : Fld Z h a "com/example/rens/rens/TimeRing" "seconds" "[J" (.ref sa)) (v : Arv Z h sa ks .long (4 : Int32) [(.long 0), (.long 1), (.long 2), (.long 3)] (.long 0)) :
    Con l (⟨"com/example/rens/rens/TimeRing", "slot", "(J)I"⟩ : MethodName) prog_22_method_8_code 3 (some .int) ({ frames := 0, cells := 0, slots := 0, locals := 0 } : Room) Z n0 #[(.ref a), (.long o)] h (fun v h' => v = some (.int (3 : Int32)) ∧ h = h') := by
  refine Con.of_go (plainFor_of_name pn_1) (Ls := #[.val (.ref a), .val (.long o), .second]) (fun m => by first | (simp [entryFrame, mkF, argsToLocals, Value.category]; done) | rfl) ?_
  refine Go.aloadN (pc' := 1) d6_0 rfl rfl rfl ?_
  refine Go.getfield (pc' := 4) (host := "") (Or.inl (ww hw 37 rfl)) Via.refl fh d6_1 rfl ?_
  refine Go.i2l (pc' := 5) d6_4 rfl ?_
  show Go _ _ _ _ _ _ _ _ _ _ _ _ 5 #[.val (.ref a), .val (.long o), .second] [(.long (2 : Int64))]
  refine Go.lloadN (pc' := 6) d6_5 rfl rfl ?_
  refine Go.ladd (pc' := 7) d6_6 rfl ?_
  refine Go.aloadN (pc' := 8) d6_7 rfl rfl rfl ?_
  refine Go.getfield (pc' := 11) (host := "") (Or.inl (ww hw 11 rfl)) Via.refl fs d6_8 rfl ?_
  refine Go.arraylength (pc' := 12) v d6_11 rfl ?_
  refine Go.iconst (pc' := 13) (v := (1 : Int32)) d6_12 rfl rfl ?_
  refine Go.isub (pc' := 14) d6_13 rfl ?_
  show Go _ _ _ _ _ _ _ _ _ _ _ _ 14 #[.val (.ref a), .val (.long o), .second] [(.int (3 : Int32)), (.long ((2 : Int64) + o))]
  refine Go.i2l (pc' := 15) d6_14 rfl ?_
  show Go _ _ _ _ _ _ _ _ _ _ _ _ 15 #[.val (.ref a), .val (.long o), .second] [(.long (3 : Int64)), (.long ((2 : Int64) + o))]
  refine Go.land (pc' := 16) d6_15 rfl ?_
  refine Go.l2i (pc' := 17) d6_16 rfl ?_
  exact Go.retI rfl d6_17 ⟨(by rw [ho]; rfl), rfl⟩ (by decide) (by decide)
set_option maxRecDepth 65536 in
set_option maxHeartbeats 4000000 in
theorem c_get4_2_1 (l : Launch) (Z : State) (a0 : Array Value) (hw : ∀ d ∈ tables_1, d.before a0 Z = true) {n0 : Nat} (h : Heap) (a : Addr) (sa : Addr) (ks : ClassId) (na : Addr) (kn : ClassId) (u : Int64) (v : Int64) (wp : Addr) (ho : (u - v) = (1 : Int64)) (sp : Sta Z Z.heap "java/time/Instant" "EPOCH" "Ljava/time/Instant;" (.ref wp)) (xp : Exa Z Z.heap wp "java/time/Instant") (fp : Fld Z Z.heap wp "java/time/Instant" "seconds" "J" (.long (0 : Int64))) (gp : Fld Z Z.heap wp "java/time/Instant" "nanos" "I" (.int (0 : Int32))) (x : Exa Z h a "com/example/rens/rens/TimeRing") (pf0 : Fld Z h a "com/example/rens/rens/TimeRing" "seconds" "[J" (.ref sa)) (pf1 : Fld Z h a "com/example/rens/rens/TimeRing" "nanos" "[I" (.ref na)) (pf2 : Fld Z h a "com/example/rens/rens/TimeRing" "head" "I" (.int (2 : Int32))) (pf3 : Fld Z h a "com/example/rens/rens/TimeRing" "size" "I" (.int (2 : Int32))) (pf4 : Fld Z h a "com/example/rens/rens/TimeRing" "first" "J" (.long v)) (vs : Arv Z h sa ks .long (4 : Int32) [(.long 0), (.long 1), (.long 2), (.long 3)] (.long 0)) (vn : Arv Z h na kn .int (4 : Int32) [(.int 0), (.int 0), (.int 0), (.int 0)] (.int 0)) :
    Con l (⟨"com/example/rens/rens/TimeRing", "get", "(J)Ljava/time/Instant;"⟩ : MethodName) prog_22_method_5_code 6 (some (.object "java/time/Instant")) ({ frames := 4, cells := 1, slots := 2, locals := 60 } : Room) Z n0 #[(.ref a), (.long u)] h (fun v h' => ∃ r : Addr, v = some (.ref r) ∧ Keep h h' [] ∧ n0 ≤ r ∧ h.size ≤ r ∧ Exa Z h' r "java/time/Instant" ∧ Fld Z h' r "java/time/Instant" "seconds" "J" (.long (3 : Int64)) ∧ Fld Z h' r "java/time/Instant" "nanos" "I" (.int (0 : Int32))) := by
  refine Con.of_go (plainFor_of_name pn_1) (Ls := #[.val (.ref a), .val (.long u), .second, .unset, .unset, .unset]) (fun m => by first | (simp [entryFrame, mkF, argsToLocals, Value.category]; done) | rfl) ?_
  refine Go.lloadN (pc' := 1) d14_0 rfl rfl ?_
  refine Go.aloadN (pc' := 2) d14_1 rfl rfl rfl ?_
  refine Go.getfield (pc' := 5) (host := "") (Or.inl (ww hw 31 rfl)) Via.refl pf4 d14_2 rfl ?_
  refine Go.lsub (pc' := 6) d14_5 rfl ?_
  rw [ho]
  refine Go.lstoreN (pc' := 7) (Ls' := #[.val (.ref a), .val (.long u), .second, .val (.long (1 : Int64)), .second, .unset]) d14_6 rfl rfl ?_
  refine Go.lloadN (pc' := 8) d14_7 rfl rfl ?_
  refine Go.lconst (pc' := 9) (v := (0 : Int64)) d14_8 rfl rfl ?_
  refine Go.lcmp (pc' := 10) d14_9 rfl ?_
  refine Go.ifNo (pc' := 13) d14_10 (XT.ll_lt_f (by decide)) rfl ?_
  refine Go.lloadN (pc' := 14) d14_13 rfl rfl ?_
  refine Go.aloadN (pc' := 15) d14_14 rfl rfl rfl ?_
  refine Go.getfield (pc' := 18) (host := "") (Or.inl (ww hw 29 rfl)) Via.refl pf3 d14_15 rfl ?_
  refine Go.i2l (pc' := 19) d14_18 rfl ?_
  show Go _ _ _ _ _ _ _ _ _ _ _ _ 19 #[.val (.ref a), .val (.long u), .second, .val (.long (1 : Int64)), .second, .unset] [(.long (2 : Int64)), (.long (1 : Int64))]
  refine Go.lcmp (pc' := 20) d14_19 rfl ?_
  refine Go.ifYes (pc' := 25) d14_20 (XT.ll_lt_t (by decide)) (by decide) (by decide) ?_
  refine Go.aloadN (pc' := 26) d14_25 rfl rfl rfl ?_
  refine Go.lloadN (pc' := 27) d14_26 rfl rfl ?_
  refine Go.callP (cells' := 0) (slots' := 0) (pc' := 30) [(.long (1 : Int64))] [] x (ww hw 33 rfl) (ww hw 34 rfl) (Jvm.Kit.selects_private (by decide) (ww hw 2 rfl) (ww hw 35 rfl) (ww hw 34 rfl)) (ww hw 35 rfl) (ww hw 3 rfl) (ww hw 36 rfl) (by decide) (c_slot2_1_4 l Z a0 hw h a sa ks (1 : Int64) (by decide) pf2 pf0 vs) pd_3 rfl rfl rfl rfl rfl (nl rfl) (nl rfl) (nl rfl) (nl rfl) d14_27 rfl ?_
  rintro _ _ ⟨rfl, rfl⟩
  show Go _ _ _ _ _ _ _ _ _ _ _ _ 30 #[.val (.ref a), .val (.long u), .second, .val (.long (1 : Int64)), .second, .unset] [(.int (3 : Int32))]
  refine Go.istore (pc' := 32) (Ls' := #[.val (.ref a), .val (.long u), .second, .val (.long (1 : Int64)), .second, .val (.int (3 : Int32))]) d14_30 rfl rfl ?_
  refine Go.aloadN (pc' := 33) d14_32 rfl rfl rfl ?_
  refine Go.getfield (pc' := 36) (host := "") (Or.inl (ww hw 11 rfl)) Via.refl pf0 d14_33 rfl ?_
  refine Go.iload (pc' := 38) d14_36 rfl rfl ?_
  refine Go.laload (pc' := 39) (v := (3 : Int64)) vs d14_38 (by decide) (by decide) rfl rfl ?_
  refine Go.aloadN (pc' := 40) d14_39 rfl rfl rfl ?_
  refine Go.getfield (pc' := 43) (host := "") (Or.inl (ww hw 14 rfl)) Via.refl pf1 d14_40 rfl ?_
  refine Go.iload (pc' := 45) d14_43 rfl rfl ?_
  refine Go.iaload (pc' := 46) (v := (0 : Int32)) vn d14_45 (by decide) (by decide) rfl rfl ?_
  refine Go.i2l (pc' := 47) d14_46 rfl ?_
  show Go _ _ _ _ _ _ _ _ _ _ _ _ 47 #[.val (.ref a), .val (.long u), .second, .val (.long (1 : Int64)), .second, .val (.int (3 : Int32))] [(.long (0 : Int64)), (.long (3 : Int64))]
  refine Go.callS (cells' := 1) (slots' := 2) (pc' := 50) [(.long (3 : Int64)), (.long (0 : Int64))] [] (ww hw 87 rfl) (ww hw 88 rfl) (ww hw 18 rfl) (ww hw 89 rfl) (by decide) (c_ofSecN3 l Z a0 hw h) pd_6 rfl rfl rfl rfl rfl (nl rfl) (nl rfl) (nl rfl) (nl rfl) d14_47 rfl ?_
  rintro _ h2 ⟨r_2, rfl, K2, ge_r_2, sz_r_2, F2_0, F2_1, F2_2⟩
  have sz3 : h.size ≤ r_2 := Nat.le_trans (Keep.refl h []).1 sz_r_2
  have K4 : Keep h h2 [] := (Keep.refl h []).trans K2 all0
  show Go _ _ _ _ _ _ _ _ _ _ _ _ 50 #[.val (.ref a), .val (.long u), .second, .val (.long (1 : Int64)), .second, .val (.int (3 : Int32))] [(.ref r_2)]
  exact Go.retR rfl rfl rfl rfl d14_50 ⟨r_2, rfl, K4, ge_r_2, sz3, F2_0, F2_1, F2_2⟩ (by decide) (by decide)
set_option maxRecDepth 65536 in
set_option maxHeartbeats 4000000 in
theorem c_slot3_0_4 (l : Launch) (Z : State) (a0 : Array Value) (hw : ∀ d ∈ tables_1, d.before a0 Z = true) {n0 : Nat} (h : Heap) (a : Addr) (sa : Addr) (ks : ClassId) (o : Int64) (ho : o = (0 : Int64)) (fh : Fld Z h a "com/example/rens/rens/TimeRing" "head" "I" (.int (3 : Int32))) (fs : Fld Z h a "com/example/rens/rens/TimeRing" "seconds" "[J" (.ref sa)) (v : Arv Z h sa ks .long (4 : Int32) [(.long 0), (.long 1), (.long 2), (.long 3)] (.long 0)) :
    Con l (⟨"com/example/rens/rens/TimeRing", "slot", "(J)I"⟩ : MethodName) prog_22_method_8_code 3 (some .int) ({ frames := 0, cells := 0, slots := 0, locals := 0 } : Room) Z n0 #[(.ref a), (.long o)] h (fun v h' => v = some (.int (3 : Int32)) ∧ h = h') := by
  refine Con.of_go (plainFor_of_name pn_1) (Ls := #[.val (.ref a), .val (.long o), .second]) (fun m => by first | (simp [entryFrame, mkF, argsToLocals, Value.category]; done) | rfl) ?_
  refine Go.aloadN (pc' := 1) d6_0 rfl rfl rfl ?_
  refine Go.getfield (pc' := 4) (host := "") (Or.inl (ww hw 37 rfl)) Via.refl fh d6_1 rfl ?_
  refine Go.i2l (pc' := 5) d6_4 rfl ?_
  show Go _ _ _ _ _ _ _ _ _ _ _ _ 5 #[.val (.ref a), .val (.long o), .second] [(.long (3 : Int64))]
  refine Go.lloadN (pc' := 6) d6_5 rfl rfl ?_
  refine Go.ladd (pc' := 7) d6_6 rfl ?_
  refine Go.aloadN (pc' := 8) d6_7 rfl rfl rfl ?_
  refine Go.getfield (pc' := 11) (host := "") (Or.inl (ww hw 11 rfl)) Via.refl fs d6_8 rfl ?_
  refine Go.arraylength (pc' := 12) v d6_11 rfl ?_
  refine Go.iconst (pc' := 13) (v := (1 : Int32)) d6_12 rfl rfl ?_
  refine Go.isub (pc' := 14) d6_13 rfl ?_
  show Go _ _ _ _ _ _ _ _ _ _ _ _ 14 #[.val (.ref a), .val (.long o), .second] [(.int (3 : Int32)), (.long ((3 : Int64) + o))]
  refine Go.i2l (pc' := 15) d6_14 rfl ?_
  show Go _ _ _ _ _ _ _ _ _ _ _ _ 15 #[.val (.ref a), .val (.long o), .second] [(.long (3 : Int64)), (.long ((3 : Int64) + o))]
  refine Go.land (pc' := 16) d6_15 rfl ?_
  refine Go.l2i (pc' := 17) d6_16 rfl ?_
  exact Go.retI rfl d6_17 ⟨(by rw [ho]; rfl), rfl⟩ (by decide) (by decide)
set_option maxRecDepth 65536 in
set_option maxHeartbeats 4000000 in
theorem c_get4_3_0 (l : Launch) (Z : State) (a0 : Array Value) (hw : ∀ d ∈ tables_1, d.before a0 Z = true) {n0 : Nat} (h : Heap) (a : Addr) (sa : Addr) (ks : ClassId) (na : Addr) (kn : ClassId) (u : Int64) (v : Int64) (wp : Addr) (ho : (u - v) = (0 : Int64)) (sp : Sta Z Z.heap "java/time/Instant" "EPOCH" "Ljava/time/Instant;" (.ref wp)) (xp : Exa Z Z.heap wp "java/time/Instant") (fp : Fld Z Z.heap wp "java/time/Instant" "seconds" "J" (.long (0 : Int64))) (gp : Fld Z Z.heap wp "java/time/Instant" "nanos" "I" (.int (0 : Int32))) (x : Exa Z h a "com/example/rens/rens/TimeRing") (pf0 : Fld Z h a "com/example/rens/rens/TimeRing" "seconds" "[J" (.ref sa)) (pf1 : Fld Z h a "com/example/rens/rens/TimeRing" "nanos" "[I" (.ref na)) (pf2 : Fld Z h a "com/example/rens/rens/TimeRing" "head" "I" (.int (3 : Int32))) (pf3 : Fld Z h a "com/example/rens/rens/TimeRing" "size" "I" (.int (1 : Int32))) (pf4 : Fld Z h a "com/example/rens/rens/TimeRing" "first" "J" (.long v)) (vs : Arv Z h sa ks .long (4 : Int32) [(.long 0), (.long 1), (.long 2), (.long 3)] (.long 0)) (vn : Arv Z h na kn .int (4 : Int32) [(.int 0), (.int 0), (.int 0), (.int 0)] (.int 0)) :
    Con l (⟨"com/example/rens/rens/TimeRing", "get", "(J)Ljava/time/Instant;"⟩ : MethodName) prog_22_method_5_code 6 (some (.object "java/time/Instant")) ({ frames := 4, cells := 1, slots := 2, locals := 60 } : Room) Z n0 #[(.ref a), (.long u)] h (fun v h' => ∃ r : Addr, v = some (.ref r) ∧ Keep h h' [] ∧ n0 ≤ r ∧ h.size ≤ r ∧ Exa Z h' r "java/time/Instant" ∧ Fld Z h' r "java/time/Instant" "seconds" "J" (.long (3 : Int64)) ∧ Fld Z h' r "java/time/Instant" "nanos" "I" (.int (0 : Int32))) := by
  refine Con.of_go (plainFor_of_name pn_1) (Ls := #[.val (.ref a), .val (.long u), .second, .unset, .unset, .unset]) (fun m => by first | (simp [entryFrame, mkF, argsToLocals, Value.category]; done) | rfl) ?_
  refine Go.lloadN (pc' := 1) d14_0 rfl rfl ?_
  refine Go.aloadN (pc' := 2) d14_1 rfl rfl rfl ?_
  refine Go.getfield (pc' := 5) (host := "") (Or.inl (ww hw 31 rfl)) Via.refl pf4 d14_2 rfl ?_
  refine Go.lsub (pc' := 6) d14_5 rfl ?_
  rw [ho]
  refine Go.lstoreN (pc' := 7) (Ls' := #[.val (.ref a), .val (.long u), .second, .val (.long (0 : Int64)), .second, .unset]) d14_6 rfl rfl ?_
  refine Go.lloadN (pc' := 8) d14_7 rfl rfl ?_
  refine Go.lconst (pc' := 9) (v := (0 : Int64)) d14_8 rfl rfl ?_
  refine Go.lcmp (pc' := 10) d14_9 rfl ?_
  refine Go.ifNo (pc' := 13) d14_10 (XT.ll_lt_f (by decide)) rfl ?_
  refine Go.lloadN (pc' := 14) d14_13 rfl rfl ?_
  refine Go.aloadN (pc' := 15) d14_14 rfl rfl rfl ?_
  refine Go.getfield (pc' := 18) (host := "") (Or.inl (ww hw 29 rfl)) Via.refl pf3 d14_15 rfl ?_
  refine Go.i2l (pc' := 19) d14_18 rfl ?_
  show Go _ _ _ _ _ _ _ _ _ _ _ _ 19 #[.val (.ref a), .val (.long u), .second, .val (.long (0 : Int64)), .second, .unset] [(.long (1 : Int64)), (.long (0 : Int64))]
  refine Go.lcmp (pc' := 20) d14_19 rfl ?_
  refine Go.ifYes (pc' := 25) d14_20 (XT.ll_lt_t (by decide)) (by decide) (by decide) ?_
  refine Go.aloadN (pc' := 26) d14_25 rfl rfl rfl ?_
  refine Go.lloadN (pc' := 27) d14_26 rfl rfl ?_
  refine Go.callP (cells' := 0) (slots' := 0) (pc' := 30) [(.long (0 : Int64))] [] x (ww hw 33 rfl) (ww hw 34 rfl) (Jvm.Kit.selects_private (by decide) (ww hw 2 rfl) (ww hw 35 rfl) (ww hw 34 rfl)) (ww hw 35 rfl) (ww hw 3 rfl) (ww hw 36 rfl) (by decide) (c_slot3_0_4 l Z a0 hw h a sa ks (0 : Int64) (by decide) pf2 pf0 vs) pd_3 rfl rfl rfl rfl rfl (nl rfl) (nl rfl) (nl rfl) (nl rfl) d14_27 rfl ?_
  rintro _ _ ⟨rfl, rfl⟩
  show Go _ _ _ _ _ _ _ _ _ _ _ _ 30 #[.val (.ref a), .val (.long u), .second, .val (.long (0 : Int64)), .second, .unset] [(.int (3 : Int32))]
  refine Go.istore (pc' := 32) (Ls' := #[.val (.ref a), .val (.long u), .second, .val (.long (0 : Int64)), .second, .val (.int (3 : Int32))]) d14_30 rfl rfl ?_
  refine Go.aloadN (pc' := 33) d14_32 rfl rfl rfl ?_
  refine Go.getfield (pc' := 36) (host := "") (Or.inl (ww hw 11 rfl)) Via.refl pf0 d14_33 rfl ?_
  refine Go.iload (pc' := 38) d14_36 rfl rfl ?_
  refine Go.laload (pc' := 39) (v := (3 : Int64)) vs d14_38 (by decide) (by decide) rfl rfl ?_
  refine Go.aloadN (pc' := 40) d14_39 rfl rfl rfl ?_
  refine Go.getfield (pc' := 43) (host := "") (Or.inl (ww hw 14 rfl)) Via.refl pf1 d14_40 rfl ?_
  refine Go.iload (pc' := 45) d14_43 rfl rfl ?_
  refine Go.iaload (pc' := 46) (v := (0 : Int32)) vn d14_45 (by decide) (by decide) rfl rfl ?_
  refine Go.i2l (pc' := 47) d14_46 rfl ?_
  show Go _ _ _ _ _ _ _ _ _ _ _ _ 47 #[.val (.ref a), .val (.long u), .second, .val (.long (0 : Int64)), .second, .val (.int (3 : Int32))] [(.long (0 : Int64)), (.long (3 : Int64))]
  refine Go.callS (cells' := 1) (slots' := 2) (pc' := 50) [(.long (3 : Int64)), (.long (0 : Int64))] [] (ww hw 87 rfl) (ww hw 88 rfl) (ww hw 18 rfl) (ww hw 89 rfl) (by decide) (c_ofSecN3 l Z a0 hw h) pd_6 rfl rfl rfl rfl rfl (nl rfl) (nl rfl) (nl rfl) (nl rfl) d14_47 rfl ?_
  rintro _ h2 ⟨r_2, rfl, K2, ge_r_2, sz_r_2, F2_0, F2_1, F2_2⟩
  have sz3 : h.size ≤ r_2 := Nat.le_trans (Keep.refl h []).1 sz_r_2
  have K4 : Keep h h2 [] := (Keep.refl h []).trans K2 all0
  show Go _ _ _ _ _ _ _ _ _ _ _ _ 50 #[.val (.ref a), .val (.long u), .second, .val (.long (0 : Int64)), .second, .val (.int (3 : Int32))] [(.ref r_2)]
  exact Go.retR rfl rfl rfl rfl d14_50 ⟨r_2, rfl, K4, ge_r_2, sz3, F2_0, F2_1, F2_2⟩ (by decide) (by decide)
set_option maxRecDepth 65536 in
set_option maxHeartbeats 4000000 in
theorem c_get4_3_m1 (l : Launch) (Z : State) (a0 : Array Value) (hw : ∀ d ∈ tables_1, d.before a0 Z = true) {n0 : Nat} (h : Heap) (a : Addr) (sa : Addr) (ks : ClassId) (na : Addr) (kn : ClassId) (u : Int64) (v : Int64) (wp : Addr) (ho : (u - v) = (-1 : Int64)) (sp : Sta Z Z.heap "java/time/Instant" "EPOCH" "Ljava/time/Instant;" (.ref wp)) (xp : Exa Z Z.heap wp "java/time/Instant") (fp : Fld Z Z.heap wp "java/time/Instant" "seconds" "J" (.long (0 : Int64))) (gp : Fld Z Z.heap wp "java/time/Instant" "nanos" "I" (.int (0 : Int32))) (x : Exa Z h a "com/example/rens/rens/TimeRing") (pf0 : Fld Z h a "com/example/rens/rens/TimeRing" "seconds" "[J" (.ref sa)) (pf1 : Fld Z h a "com/example/rens/rens/TimeRing" "nanos" "[I" (.ref na)) (pf2 : Fld Z h a "com/example/rens/rens/TimeRing" "head" "I" (.int (3 : Int32))) (pf3 : Fld Z h a "com/example/rens/rens/TimeRing" "size" "I" (.int (1 : Int32))) (pf4 : Fld Z h a "com/example/rens/rens/TimeRing" "first" "J" (.long v)) (vs : Arv Z h sa ks .long (4 : Int32) [(.long 0), (.long 1), (.long 2), (.long 3)] (.long 0)) (vn : Arv Z h na kn .int (4 : Int32) [(.int 0), (.int 0), (.int 0), (.int 0)] (.int 0)) :
    Con l (⟨"com/example/rens/rens/TimeRing", "get", "(J)Ljava/time/Instant;"⟩ : MethodName) prog_22_method_5_code 6 (some (.object "java/time/Instant")) ({ frames := 0, cells := 0, slots := 0, locals := 0 } : Room) Z n0 #[(.ref a), (.long u)] h (fun v h' => v = some .null ∧ h = h') := by
  refine Con.of_go (plainFor_of_name pn_1) (Ls := #[.val (.ref a), .val (.long u), .second, .unset, .unset, .unset]) (fun m => by first | (simp [entryFrame, mkF, argsToLocals, Value.category]; done) | rfl) ?_
  refine Go.lloadN (pc' := 1) d14_0 rfl rfl ?_
  refine Go.aloadN (pc' := 2) d14_1 rfl rfl rfl ?_
  refine Go.getfield (pc' := 5) (host := "") (Or.inl (ww hw 31 rfl)) Via.refl pf4 d14_2 rfl ?_
  refine Go.lsub (pc' := 6) d14_5 rfl ?_
  rw [ho]
  refine Go.lstoreN (pc' := 7) (Ls' := #[.val (.ref a), .val (.long u), .second, .val (.long (-1 : Int64)), .second, .unset]) d14_6 rfl rfl ?_
  refine Go.lloadN (pc' := 8) d14_7 rfl rfl ?_
  refine Go.lconst (pc' := 9) (v := (0 : Int64)) d14_8 rfl rfl ?_
  refine Go.lcmp (pc' := 10) d14_9 rfl ?_
  refine Go.ifYes (pc' := 23) d14_10 (XT.ll_lt_t (by decide)) (by decide) (by decide) ?_
  refine Go.aconstNull (pc' := 24) d14_23 rfl ?_
  exact Go.retR rfl rfl rfl rfl d14_24 ⟨rfl, rfl⟩ (by decide) (by decide)
set_option maxRecDepth 65536 in
set_option maxHeartbeats 4000000 in
theorem c_get4_4_0 (l : Launch) (Z : State) (a0 : Array Value) (hw : ∀ d ∈ tables_1, d.before a0 Z = true) {n0 : Nat} (h : Heap) (a : Addr) (sa : Addr) (ks : ClassId) (na : Addr) (kn : ClassId) (u : Int64) (v : Int64) (wp : Addr) (ho : (u - v) = (0 : Int64)) (sp : Sta Z Z.heap "java/time/Instant" "EPOCH" "Ljava/time/Instant;" (.ref wp)) (xp : Exa Z Z.heap wp "java/time/Instant") (fp : Fld Z Z.heap wp "java/time/Instant" "seconds" "J" (.long (0 : Int64))) (gp : Fld Z Z.heap wp "java/time/Instant" "nanos" "I" (.int (0 : Int32))) (x : Exa Z h a "com/example/rens/rens/TimeRing") (pf0 : Fld Z h a "com/example/rens/rens/TimeRing" "seconds" "[J" (.ref sa)) (pf1 : Fld Z h a "com/example/rens/rens/TimeRing" "nanos" "[I" (.ref na)) (pf2 : Fld Z h a "com/example/rens/rens/TimeRing" "head" "I" (.int (0 : Int32))) (pf3 : Fld Z h a "com/example/rens/rens/TimeRing" "size" "I" (.int (0 : Int32))) (pf4 : Fld Z h a "com/example/rens/rens/TimeRing" "first" "J" (.long v)) (vs : Arv Z h sa ks .long (4 : Int32) [(.long 0), (.long 1), (.long 2), (.long 3)] (.long 0)) (vn : Arv Z h na kn .int (4 : Int32) [(.int 0), (.int 0), (.int 0), (.int 0)] (.int 0)) :
    Con l (⟨"com/example/rens/rens/TimeRing", "get", "(J)Ljava/time/Instant;"⟩ : MethodName) prog_22_method_5_code 6 (some (.object "java/time/Instant")) ({ frames := 0, cells := 0, slots := 0, locals := 0 } : Room) Z n0 #[(.ref a), (.long u)] h (fun v h' => v = some .null ∧ h = h') := by
  refine Con.of_go (plainFor_of_name pn_1) (Ls := #[.val (.ref a), .val (.long u), .second, .unset, .unset, .unset]) (fun m => by first | (simp [entryFrame, mkF, argsToLocals, Value.category]; done) | rfl) ?_
  refine Go.lloadN (pc' := 1) d14_0 rfl rfl ?_
  refine Go.aloadN (pc' := 2) d14_1 rfl rfl rfl ?_
  refine Go.getfield (pc' := 5) (host := "") (Or.inl (ww hw 31 rfl)) Via.refl pf4 d14_2 rfl ?_
  refine Go.lsub (pc' := 6) d14_5 rfl ?_
  rw [ho]
  refine Go.lstoreN (pc' := 7) (Ls' := #[.val (.ref a), .val (.long u), .second, .val (.long (0 : Int64)), .second, .unset]) d14_6 rfl rfl ?_
  refine Go.lloadN (pc' := 8) d14_7 rfl rfl ?_
  refine Go.lconst (pc' := 9) (v := (0 : Int64)) d14_8 rfl rfl ?_
  refine Go.lcmp (pc' := 10) d14_9 rfl ?_
  refine Go.ifNo (pc' := 13) d14_10 (XT.ll_lt_f (by decide)) rfl ?_
  refine Go.lloadN (pc' := 14) d14_13 rfl rfl ?_
  refine Go.aloadN (pc' := 15) d14_14 rfl rfl rfl ?_
  refine Go.getfield (pc' := 18) (host := "") (Or.inl (ww hw 29 rfl)) Via.refl pf3 d14_15 rfl ?_
  refine Go.i2l (pc' := 19) d14_18 rfl ?_
  show Go _ _ _ _ _ _ _ _ _ _ _ _ 19 #[.val (.ref a), .val (.long u), .second, .val (.long (0 : Int64)), .second, .unset] [(.long (0 : Int64)), (.long (0 : Int64))]
  refine Go.lcmp (pc' := 20) d14_19 rfl ?_
  refine Go.ifNo (pc' := 23) d14_20 (XT.ll_lt_f (by decide)) rfl ?_
  refine Go.aconstNull (pc' := 24) d14_23 rfl ?_
  exact Go.retR rfl rfl rfl rfl d14_24 ⟨rfl, rfl⟩ (by decide) (by decide)
set_option maxRecDepth 65536 in
set_option maxHeartbeats 4000000 in
theorem c_get4_4_m1 (l : Launch) (Z : State) (a0 : Array Value) (hw : ∀ d ∈ tables_1, d.before a0 Z = true) {n0 : Nat} (h : Heap) (a : Addr) (sa : Addr) (ks : ClassId) (na : Addr) (kn : ClassId) (u : Int64) (v : Int64) (wp : Addr) (ho : (u - v) = (-1 : Int64)) (sp : Sta Z Z.heap "java/time/Instant" "EPOCH" "Ljava/time/Instant;" (.ref wp)) (xp : Exa Z Z.heap wp "java/time/Instant") (fp : Fld Z Z.heap wp "java/time/Instant" "seconds" "J" (.long (0 : Int64))) (gp : Fld Z Z.heap wp "java/time/Instant" "nanos" "I" (.int (0 : Int32))) (x : Exa Z h a "com/example/rens/rens/TimeRing") (pf0 : Fld Z h a "com/example/rens/rens/TimeRing" "seconds" "[J" (.ref sa)) (pf1 : Fld Z h a "com/example/rens/rens/TimeRing" "nanos" "[I" (.ref na)) (pf2 : Fld Z h a "com/example/rens/rens/TimeRing" "head" "I" (.int (0 : Int32))) (pf3 : Fld Z h a "com/example/rens/rens/TimeRing" "size" "I" (.int (0 : Int32))) (pf4 : Fld Z h a "com/example/rens/rens/TimeRing" "first" "J" (.long v)) (vs : Arv Z h sa ks .long (4 : Int32) [(.long 0), (.long 1), (.long 2), (.long 3)] (.long 0)) (vn : Arv Z h na kn .int (4 : Int32) [(.int 0), (.int 0), (.int 0), (.int 0)] (.int 0)) :
    Con l (⟨"com/example/rens/rens/TimeRing", "get", "(J)Ljava/time/Instant;"⟩ : MethodName) prog_22_method_5_code 6 (some (.object "java/time/Instant")) ({ frames := 0, cells := 0, slots := 0, locals := 0 } : Room) Z n0 #[(.ref a), (.long u)] h (fun v h' => v = some .null ∧ h = h') := by
  refine Con.of_go (plainFor_of_name pn_1) (Ls := #[.val (.ref a), .val (.long u), .second, .unset, .unset, .unset]) (fun m => by first | (simp [entryFrame, mkF, argsToLocals, Value.category]; done) | rfl) ?_
  refine Go.lloadN (pc' := 1) d14_0 rfl rfl ?_
  refine Go.aloadN (pc' := 2) d14_1 rfl rfl rfl ?_
  refine Go.getfield (pc' := 5) (host := "") (Or.inl (ww hw 31 rfl)) Via.refl pf4 d14_2 rfl ?_
  refine Go.lsub (pc' := 6) d14_5 rfl ?_
  rw [ho]
  refine Go.lstoreN (pc' := 7) (Ls' := #[.val (.ref a), .val (.long u), .second, .val (.long (-1 : Int64)), .second, .unset]) d14_6 rfl rfl ?_
  refine Go.lloadN (pc' := 8) d14_7 rfl rfl ?_
  refine Go.lconst (pc' := 9) (v := (0 : Int64)) d14_8 rfl rfl ?_
  refine Go.lcmp (pc' := 10) d14_9 rfl ?_
  refine Go.ifYes (pc' := 23) d14_10 (XT.ll_lt_t (by decide)) (by decide) (by decide) ?_
  refine Go.aconstNull (pc' := 24) d14_23 rfl ?_
  exact Go.retR rfl rfl rfl rfl d14_24 ⟨rfl, rfl⟩ (by decide) (by decide)
theorem own_ax5 : ((0 : Int64) + (0 : Int64)) = (0 : Int64) := by grind
theorem own_ax6 : ((0 : Int64) - (0 : Int64)) = (0 : Int64) := by grind
theorem own_ax7 : ((-1 : Int64) - (0 : Int64)) = (-1 : Int64) := by grind
theorem own_ax8 (f : Int64) : ((f + (0 : Int64)) - f) = (0 : Int64) := by grind
theorem own_ax9 (f : Int64) : (((f + (0 : Int64)) - (1 : Int64)) - f) = (-1 : Int64) := by grind
theorem own_ax10 (f : Int64) : (((f + (1 : Int64)) - (1 : Int64)) - f) = (0 : Int64) := by grind
theorem own_ax11 (f : Int64) : ((f + (1 : Int64)) + (0 : Int64)) = (f + (1 : Int64)) := by grind
theorem own_ax12 (f : Int64) : ((f + (1 : Int64)) - (f + (1 : Int64))) = (0 : Int64) := by grind
theorem own_ax13 (f : Int64) : (((f + (1 : Int64)) - (1 : Int64)) - (f + (1 : Int64))) = (-1 : Int64) := by grind
theorem own_ax14 (f : Int64) : (((f + (2 : Int64)) - (1 : Int64)) - f) = (1 : Int64) := by grind
theorem own_ax15 (f d : Int64) (hd : d = (f + (1 : Int64))) : (f + (1 : Int64)) = (f + (d - f)) := by grind
theorem own_ax16 (f d : Int64) (hd : d = (f + (1 : Int64))) : (1 : Int64) = ((2 : Int64) - (d - f)) := by grind
theorem own_ax17 (f : Int64) : ((f + (1 : Int64)) + (1 : Int64)) = (f + (2 : Int64)) := by grind
theorem own_ax18 (f d : Int64) (hd : d = (f + (1 : Int64))) : ((f + (d - f)) - (f + (1 : Int64))) = (0 : Int64) := by grind
theorem own_ax19 (f d : Int64) (hd : d = (f + (1 : Int64))) : (((f + (d - f)) - (1 : Int64)) - (f + (1 : Int64))) = (-1 : Int64) := by grind
theorem own_ax20 (f d : Int64) (hd : d = (f + (1 : Int64))) : ¬ (((2 : Int64) - (d - f)) = (0 : Int64)) := by grind
theorem own_ax21 (f d : Int64) (hd : d = (f + (1 : Int64))) : (1 : Int64) = (d - f) := by grind
theorem own_ax22 (f : Int64) : (((f + (2 : Int64)) - (1 : Int64)) - (f + (1 : Int64))) = (0 : Int64) := by grind
theorem own_ax23 (f : Int64) : (((f + (1 : Int64)) + (1 : Int64)) + (0 : Int64)) = (f + (2 : Int64)) := by grind
theorem own_ax24 (f : Int64) : ((f + (2 : Int64)) - ((f + (1 : Int64)) + (1 : Int64))) = (0 : Int64) := by grind
theorem own_ax25 (f : Int64) : (((f + (2 : Int64)) - (1 : Int64)) - ((f + (1 : Int64)) + (1 : Int64))) = (-1 : Int64) := by grind
theorem own_ax26 (f : Int64) : (((f + (3 : Int64)) - (1 : Int64)) - f) = (2 : Int64) := by grind
theorem own_ax27 (f d : Int64) (hd : d = (f + (1 : Int64))) : (2 : Int64) = ((3 : Int64) - (d - f)) := by grind
theorem own_ax28 (f : Int64) : ((f + (1 : Int64)) + (2 : Int64)) = (f + (3 : Int64)) := by grind
theorem own_ax29 (f d : Int64) (hd : d = (f + (1 : Int64))) : ¬ (((3 : Int64) - (d - f)) = (0 : Int64)) := by grind
theorem own_ax30 (f : Int64) : (((f + (3 : Int64)) - (1 : Int64)) - (f + (1 : Int64))) = (1 : Int64) := by grind
theorem own_ax31 (f d : Int64) (hd : d = (f + (2 : Int64))) : ((f + (1 : Int64)) + (1 : Int64)) = (f + (d - f)) := by grind
theorem own_ax32 (f d : Int64) (hd : d = (f + (2 : Int64))) : (1 : Int64) = ((3 : Int64) - (d - f)) := by grind
theorem own_ax33 (f : Int64) : (((f + (1 : Int64)) + (1 : Int64)) + (1 : Int64)) = (f + (3 : Int64)) := by grind
theorem own_ax34 (f d : Int64) (hd : d = (f + (2 : Int64))) : ((f + (d - f)) - ((f + (1 : Int64)) + (1 : Int64))) = (0 : Int64) := by grind
theorem own_ax35 (f d : Int64) (hd : d = (f + (2 : Int64))) : (((f + (d - f)) - (1 : Int64)) - ((f + (1 : Int64)) + (1 : Int64))) = (-1 : Int64) := by grind
theorem own_ax36 (f d : Int64) (hd : d = (f + (2 : Int64))) : ¬ (((3 : Int64) - (d - f)) = (0 : Int64)) := by grind
theorem own_ax37 (f d : Int64) (hd : d = (f + (2 : Int64))) : (2 : Int64) = (d - f) := by grind
theorem own_ax38 (f : Int64) : (((f + (3 : Int64)) - (1 : Int64)) - ((f + (1 : Int64)) + (1 : Int64))) = (0 : Int64) := by grind
theorem own_ax39 (f : Int64) : ((((f + (1 : Int64)) + (1 : Int64)) + (1 : Int64)) + (0 : Int64)) = (f + (3 : Int64)) := by grind
theorem own_ax40 (f : Int64) : ((f + (3 : Int64)) - (((f + (1 : Int64)) + (1 : Int64)) + (1 : Int64))) = (0 : Int64) := by grind
theorem own_ax41 (f : Int64) : (((f + (3 : Int64)) - (1 : Int64)) - (((f + (1 : Int64)) + (1 : Int64)) + (1 : Int64))) = (-1 : Int64) := by grind
theorem own_ax42 (f : Int64) : (((f + (4 : Int64)) - (1 : Int64)) - f) = (3 : Int64) := by grind
theorem own_ax43 (f d : Int64) (hd : d = (f + (1 : Int64))) : (3 : Int64) = ((4 : Int64) - (d - f)) := by grind
theorem own_ax44 (f : Int64) : ((f + (1 : Int64)) + (3 : Int64)) = (f + (4 : Int64)) := by grind
theorem own_ax45 (f d : Int64) (hd : d = (f + (1 : Int64))) : ¬ (((4 : Int64) - (d - f)) = (0 : Int64)) := by grind
theorem own_ax46 (f : Int64) : (((f + (4 : Int64)) - (1 : Int64)) - (f + (1 : Int64))) = (2 : Int64) := by grind
theorem own_ax47 (f d : Int64) (hd : d = (f + (2 : Int64))) : (2 : Int64) = ((4 : Int64) - (d - f)) := by grind
theorem own_ax48 (f : Int64) : (((f + (1 : Int64)) + (1 : Int64)) + (2 : Int64)) = (f + (4 : Int64)) := by grind
theorem own_ax49 (f d : Int64) (hd : d = (f + (2 : Int64))) : ¬ (((4 : Int64) - (d - f)) = (0 : Int64)) := by grind
theorem own_ax50 (f : Int64) : (((f + (4 : Int64)) - (1 : Int64)) - ((f + (1 : Int64)) + (1 : Int64))) = (1 : Int64) := by grind
theorem own_ax51 (f d : Int64) (hd : d = (f + (3 : Int64))) : (((f + (1 : Int64)) + (1 : Int64)) + (1 : Int64)) = (f + (d - f)) := by grind
theorem own_ax52 (f d : Int64) (hd : d = (f + (3 : Int64))) : (1 : Int64) = ((4 : Int64) - (d - f)) := by grind
theorem own_ax53 (f : Int64) : ((((f + (1 : Int64)) + (1 : Int64)) + (1 : Int64)) + (1 : Int64)) = (f + (4 : Int64)) := by grind
theorem own_ax54 (f d : Int64) (hd : d = (f + (3 : Int64))) : ((f + (d - f)) - (((f + (1 : Int64)) + (1 : Int64)) + (1 : Int64))) = (0 : Int64) := by grind
theorem own_ax55 (f d : Int64) (hd : d = (f + (3 : Int64))) : (((f + (d - f)) - (1 : Int64)) - (((f + (1 : Int64)) + (1 : Int64)) + (1 : Int64))) = (-1 : Int64) := by grind
theorem own_ax56 (f d : Int64) (hd : d = (f + (3 : Int64))) : ¬ (((4 : Int64) - (d - f)) = (0 : Int64)) := by grind
theorem own_ax57 (f d : Int64) (hd : d = (f + (3 : Int64))) : (3 : Int64) = (d - f) := by grind
theorem own_ax58 (f : Int64) : (((f + (4 : Int64)) - (1 : Int64)) - (((f + (1 : Int64)) + (1 : Int64)) + (1 : Int64))) = (0 : Int64) := by grind
theorem own_ax59 (f : Int64) : (((((f + (1 : Int64)) + (1 : Int64)) + (1 : Int64)) + (1 : Int64)) + (0 : Int64)) = (f + (4 : Int64)) := by grind
theorem own_ax60 (f : Int64) : ((f + (4 : Int64)) - ((((f + (1 : Int64)) + (1 : Int64)) + (1 : Int64)) + (1 : Int64))) = (0 : Int64) := by grind
theorem own_ax61 (f : Int64) : (((f + (4 : Int64)) - (1 : Int64)) - ((((f + (1 : Int64)) + (1 : Int64)) + (1 : Int64)) + (1 : Int64))) = (-1 : Int64) := by grind
theorem pd_7 : parseMethodDescriptor "()V" = some ⟨[], none⟩ := by decide +kernel
theorem pd_8 : parseMethodDescriptor "(J)V" = some ⟨[.long], none⟩ := by decide +kernel
theorem pd_9 : parseMethodDescriptor "(J)Ljava/time/Instant;" = some ⟨[.long], some (.object "java/time/Instant")⟩ := by decide +kernel
theorem pd_10 : parseMethodDescriptor "(JLjava/time/Instant;)V" = some ⟨[.long, (.object "java/time/Instant")], none⟩ := by decide +kernel
theorem pn_2 : plainName "com/example/rens/rens/TimeRingDropBeforePinLaw" = true := by first | (simp [plainName, overriddenIn]; done) | decide +kernel
set_option maxRecDepth 65536 in
set_option maxHeartbeats 4000000 in
theorem c_law (l : Launch) (Z : State) (a0 : Array Value) (hw : ∀ d ∈ tables_1, d.before a0 Z = true) {n0 : Nat} (h : Heap) (p0 : Int64) (p1 : Int32) (p2 : Int64) (p3 : Int32) (wp : Addr) (sp : Sta Z Z.heap "java/time/Instant" "EPOCH" "Ljava/time/Instant;" (.ref wp)) (xp : Exa Z Z.heap wp "java/time/Instant") (fp : Fld Z Z.heap wp "java/time/Instant" "seconds" "J" (.long (0 : Int64))) (gp : Fld Z Z.heap wp "java/time/Instant" "nanos" "I" (.int (0 : Int32))) :
    Con l x code maxLocals ret room_1 Z n0 #[(.long p0), (.int p1), (.long p2), (.int p3)] h (fun v h' => v = some (.int (1 : Int32)) ∧ Keep h h' []) := by
  refine Con.of_go (plainFor_of_name pn_2) (Ls := #[.val (.long p0), .second, .val (.int p1), .val (.long p2), .second, .val (.int p3), .unset, .unset, .unset, .unset, .unset, .unset, .unset, .unset, .unset, .unset, .unset, .unset, .unset, .unset, .unset, .unset, .unset]) (fun m => by first | (simp [entryFrame, mkF, argsToLocals, Value.category, maxLocals]; done) | rfl) ?_
  refine Go.lloadN (pc' := 1) at_0 rfl rfl ?_
  refine Go.iconst (pc' := 2) (v := (3 : Int32)) at_1 rfl rfl ?_
  refine Go.lshr (pc' := 3) at_2 rfl ?_
  refine Go.lstore (pc' := 5) (Ls' := #[.val (.long p0), .second, .val (.int p1), .val (.long p2), .second, .val (.int p3), .val (.long (p0 >>> ((3 : Int32).toInt64 &&& 63))), .second, .unset, .unset, .unset, .unset, .unset, .unset, .unset, .unset, .unset, .unset, .unset, .unset, .unset, .unset, .unset]) at_3 rfl rfl ?_
  obtain ⟨f, hf, hb⟩ : ∃ f : Int64, (p0 >>> ((3 : Int32).toInt64 &&& 63)) = f ∧ (-1152921504606846976 ≤ f.toInt ∧ f.toInt < 1152921504606846976) := ⟨_, rfl, own_shr3 p0⟩
  rw [hf]
  refine Go.iloadN (pc' := 6) at_5 rfl rfl ?_
  refine Go.ldcI (pc' := 8) (ww hw 0 rfl) at_6 rfl ?_
  refine Go.iand (pc' := 9) at_8 rfl ?_
  refine Go.iconst (pc' := 10) (v := (5 : Int32)) at_9 rfl rfl ?_
  refine Go.irem (pc' := 11) at_10 (by decide) rfl ?_
  refine Go.istore (pc' := 13) (Ls' := #[.val (.long p0), .second, .val (.int p1), .val (.long p2), .second, .val (.int p3), .val (.long f), .second, .val (.int ((p1 &&& (2147483647 : Int32)) % (5 : Int32))), .unset, .unset, .unset, .unset, .unset, .unset, .unset, .unset, .unset, .unset, .unset, .unset, .unset, .unset]) at_11 rfl rfl ?_
  obtain hk1 | hk1 | hk1 | hk1 | hk1 := own_mod5 p1
  ·
    rw [hk1]
    refine Go.new (pc' := 16) (cells' := 1) (slots' := 5) (ww hw 1 rfl) (ww hw 2 rfl) (ww hw 3 rfl) at_13 rfl rfl (by decide) (by decide) rfl ?_
    intro h2 b2 g2 E2 ge2 A2 D2
    have sz3 : h.size ≤ b2 := Nat.le_trans (Keep.refl h []).1 (Nat.le_of_eq g2.symm)
    have K4 : Keep h h2 [] := (Keep.refl h []).ext E2
    refine Go.dup (pc' := 17) at_16 rfl rfl ?_
    refine Go.callC (cells' := 3) (slots' := 13) (pc' := 20) [] [(.ref b2)] (a := b2) rfl rfl (ww hw 4 rfl) (ww hw 5 rfl) (ww hw 3 rfl) (ww hw 6 rfl) (by decide) (c_ringInit l Z a0 hw h2 b2 ge2 A2 ((D2 (Or.inl (ww hw 12 rfl)) (ty := (.array .long)) (by decide) : Fld Z h2 b2 "com/example/rens/rens/TimeRing" "seconds" "[J" .null)) ((D2 (Or.inl (ww hw 15 rfl)) (ty := (.array .int)) (by decide) : Fld Z h2 b2 "com/example/rens/rens/TimeRing" "nanos" "[I" .null)) ((D2 (Or.inl (ww hw 38 rfl)) (ty := .int) (by decide) : Fld Z h2 b2 "com/example/rens/rens/TimeRing" "head" "I" (.int (0 : Int32)))) ((D2 (Or.inl (ww hw 30 rfl)) (ty := .int) (by decide) : Fld Z h2 b2 "com/example/rens/rens/TimeRing" "size" "I" (.int (0 : Int32)))) ((D2 (Or.inl (ww hw 32 rfl)) (ty := .long) (by decide) : Fld Z h2 b2 "com/example/rens/rens/TimeRing" "first" "J" (.long (0 : Int64))))) pd_7 rfl rfl rfl rfl rfl (nl rfl) (nl rfl) (nl rfl) (nl rfl) at_17 rfl ?_
    rintro _ h5 ⟨sa_5, ks_5, na_5, kn_5, rfl, K5, ge_sa_5, sz_sa_5, ge_na_5, sz_na_5, ne5_0, F5_0, F5_1, F5_2, F5_3, F5_4, F5_5, F5_6⟩
    have sz6 : h.size ≤ sa_5 := Nat.le_trans K4.1 sz_sa_5
    have sz7 : h.size ≤ na_5 := Nat.le_trans K4.1 sz_na_5
    have K8 : Keep h h5 [] := K4.trans K5 (allS (Or.inr sz3) all0)
    show Go _ _ _ _ _ _ _ _ _ _ _ _ 20 #[.val (.long p0), .second, .val (.int p1), .val (.long p2), .second, .val (.int p3), .val (.long f), .second, .val (.int (0 : Int32)), .unset, .unset, .unset, .unset, .unset, .unset, .unset, .unset, .unset, .unset, .unset, .unset, .unset, .unset] [(.ref b2)]
    refine Go.astore (pc' := 22) (Ls' := #[.val (.long p0), .second, .val (.int p1), .val (.long p2), .second, .val (.int p3), .val (.long f), .second, .val (.int (0 : Int32)), .val (.ref b2), .unset, .unset, .unset, .unset, .unset, .unset, .unset, .unset, .unset, .unset, .unset, .unset, .unset]) at_20 rfl rfl rfl ?_
    refine Go.iload (pc' := 24) at_22 rfl rfl ?_
    refine Go.ifYes (pc' := 38) at_24 (XT.i0_le_t (by decide)) (by decide) (by decide) ?_
    refine Go.iload (pc' := 40) at_38 rfl rfl ?_
    refine Go.iconst (pc' := 41) (v := (1 : Int32)) at_40 rfl rfl ?_
    refine Go.icmpYes (pc' := 57) at_41 (XT.ii_le_t (by decide)) (by decide) (by decide) ?_
    refine Go.iload (pc' := 59) at_57 rfl rfl ?_
    refine Go.iconst (pc' := 60) (v := (2 : Int32)) at_59 rfl rfl ?_
    refine Go.icmpYes (pc' := 80) at_60 (XT.ii_le_t (by decide)) (by decide) (by decide) ?_
    refine Go.iload (pc' := 82) at_80 rfl rfl ?_
    refine Go.iconst (pc' := 83) (v := (3 : Int32)) at_82 rfl rfl ?_
    refine Go.icmpYes (pc' := 103) at_83 (XT.ii_le_t (by decide)) (by decide) (by decide) ?_
    refine Go.iload (pc' := 105) at_103 rfl rfl ?_
    refine Go.ifNo (pc' := 108) at_105 (XT.i0_ne_f (by decide)) rfl ?_
    refine Go.lconst (pc' := 109) (v := (0 : Int64)) at_108 rfl rfl ?_
    refine Go.goto (pc' := 114) at_109 (by decide) (by decide) ?_
    refine Go.lstore (pc' := 116) (Ls' := #[.val (.long p0), .second, .val (.int p1), .val (.long p2), .second, .val (.int p3), .val (.long f), .second, .val (.int (0 : Int32)), .val (.ref b2), .val (.long (0 : Int64)), .second, .unset, .unset, .unset, .unset, .unset, .unset, .unset, .unset, .unset, .unset, .unset]) at_114 rfl rfl ?_
    refine Go.iload (pc' := 118) at_116 rfl rfl ?_
    refine Go.iconst (pc' := 119) (v := (1 : Int32)) at_118 rfl rfl ?_
    refine Go.iand (pc' := 120) at_119 rfl ?_
    have key10 : ∀ d9 : Int64, Go l room_1 Z n0 x code maxLocals ret (fun v h' => v = some (.int (1 : Int32)) ∧ Keep h h' []) 3 13 h5 139 #[.val (.long p0), .second, .val (.int p1), .val (.long p2), .second, .val (.int p3), .val (.long f), .second, .val (.int (0 : Int32)), .val (.ref b2), .val (.long (0 : Int64)), .second, .unset, .unset, .unset, .unset, .unset, .unset, .unset, .unset, .unset, .unset, .unset] [(.long d9)] := by
      intro d9
      refine Go.lstore (pc' := 141) (Ls' := #[.val (.long p0), .second, .val (.int p1), .val (.long p2), .second, .val (.int p3), .val (.long f), .second, .val (.int (0 : Int32)), .val (.ref b2), .val (.long (0 : Int64)), .second, .val (.long d9), .second, .unset, .unset, .unset, .unset, .unset, .unset, .unset, .unset, .unset]) at_139 rfl rfl ?_
      obtain q11 | ⟨q11_0, q11_1⟩ := (show (¬ ((0 : Int64) < d9)) ∨ ((0 : Int64) < d9 ∧ ¬ (d9 < (0 : Int64))) by rw [Int64.lt_iff_toInt_lt, Int64.lt_iff_toInt_lt]; have e : (0 : Int64).toInt = 0 := rfl; omega)
      ·
        refine Go.aload (pc' := 143) at_141 rfl rfl rfl ?_
        refine Go.lload (pc' := 145) at_143 rfl rfl ?_
        have ne12 : b2 ≠ sa_5 := (Nat.ne_of_lt (Nat.lt_of_lt_of_le A2.lt sz_sa_5))
        refine Go.callV (cells' := 3) (slots' := 13) (pc' := 148) [(.long d9)] [] (A2.keep K5) (ww hw 62 rfl) (ww hw 63 rfl) (fun s' hs' => notFace_of_selects (args := #[]) (mvT hs' (ww hw 65 rfl))) (ww hw 65 rfl) (ww hw 64 rfl) (ww hw 3 rfl) (ww hw 66 rfl) (by decide) (c_drop0_0 l Z a0 hw h5 b2 sa_5 ks_5 na_5 d9 ge2 ne12 (A2.keep K5) F5_0 F5_1 F5_2 F5_3 F5_4 F5_5) pd_8 rfl rfl rfl rfl rfl (nl rfl) (nl rfl) (nl rfl) (nl rfl) at_145 rfl ?_
        rintro _ h13 ⟨rfl, K13, F13_0, F13_1, F13_2, F13_3, F13_4⟩
        have K14 : Keep h h13 [] := K8.trans K13 (allS (Or.inr sz3) all0)
        show Go _ _ _ _ _ _ _ _ _ _ _ _ 148 #[.val (.long p0), .second, .val (.int p1), .val (.long p2), .second, .val (.int p3), .val (.long f), .second, .val (.int (0 : Int32)), .val (.ref b2), .val (.long (0 : Int64)), .second, .val (.long d9), .second, .unset, .unset, .unset, .unset, .unset, .unset, .unset, .unset, .unset] []
        refine Go.lload (pc' := 150) at_148 rfl rfl ?_
        refine Go.lload (pc' := 152) at_150 rfl rfl ?_
        refine Go.lcmp (pc' := 153) at_152 rfl ?_
        refine Go.ifNo (pc' := 156) at_153 (XT.ll_gt_f q11) rfl ?_
        refine Go.lconst (pc' := 157) (v := (0 : Int64)) at_156 rfl rfl ?_
        refine Go.lstore (pc' := 159) (Ls' := #[.val (.long p0), .second, .val (.int p1), .val (.long p2), .second, .val (.int p3), .val (.long f), .second, .val (.int (0 : Int32)), .val (.ref b2), .val (.long (0 : Int64)), .second, .val (.long d9), .second, .val (.long (0 : Int64)), .second, .unset, .unset, .unset, .unset, .unset, .unset, .unset]) at_157 rfl rfl ?_
        refine Go.goto (pc' := 189) at_159 (by decide) (by decide) ?_
        refine Go.lload (pc' := 191) at_189 rfl rfl ?_
        refine Go.lload (pc' := 193) at_191 rfl rfl ?_
        refine Go.ladd (pc' := 194) at_193 rfl ?_
        show Go _ _ _ _ _ _ _ _ _ _ _ _ 194 #[.val (.long p0), .second, .val (.int p1), .val (.long p2), .second, .val (.int p3), .val (.long f), .second, .val (.int (0 : Int32)), .val (.ref b2), .val (.long (0 : Int64)), .second, .val (.long d9), .second, .val (.long (0 : Int64)), .second, .unset, .unset, .unset, .unset, .unset, .unset, .unset] [(.long (0 : Int64))]
        refine Go.lstore (pc' := 196) (Ls' := #[.val (.long p0), .second, .val (.int p1), .val (.long p2), .second, .val (.int p3), .val (.long f), .second, .val (.int (0 : Int32)), .val (.ref b2), .val (.long (0 : Int64)), .second, .val (.long d9), .second, .val (.long (0 : Int64)), .second, .val (.long (0 : Int64)), .second, .unset, .unset, .unset, .unset, .unset]) at_194 rfl rfl ?_
        refine Go.iload (pc' := 198) at_196 rfl rfl ?_
        refine Go.i2l (pc' := 199) at_198 rfl ?_
        show Go _ _ _ _ _ _ _ _ _ _ _ _ 199 #[.val (.long p0), .second, .val (.int p1), .val (.long p2), .second, .val (.int p3), .val (.long f), .second, .val (.int (0 : Int32)), .val (.ref b2), .val (.long (0 : Int64)), .second, .val (.long d9), .second, .val (.long (0 : Int64)), .second, .val (.long (0 : Int64)), .second, .unset, .unset, .unset, .unset, .unset] [(.long (0 : Int64))]
        refine Go.lload (pc' := 201) at_199 rfl rfl ?_
        refine Go.lsub (pc' := 202) at_201 rfl ?_
        show Go _ _ _ _ _ _ _ _ _ _ _ _ 202 #[.val (.long p0), .second, .val (.int p1), .val (.long p2), .second, .val (.int p3), .val (.long f), .second, .val (.int (0 : Int32)), .val (.ref b2), .val (.long (0 : Int64)), .second, .val (.long d9), .second, .val (.long (0 : Int64)), .second, .val (.long (0 : Int64)), .second, .unset, .unset, .unset, .unset, .unset] [(.long (0 : Int64))]
        refine Go.lstore (pc' := 204) (Ls' := #[.val (.long p0), .second, .val (.int p1), .val (.long p2), .second, .val (.int p3), .val (.long f), .second, .val (.int (0 : Int32)), .val (.ref b2), .val (.long (0 : Int64)), .second, .val (.long d9), .second, .val (.long (0 : Int64)), .second, .val (.long (0 : Int64)), .second, .val (.long (0 : Int64)), .second, .unset, .unset, .unset]) at_202 rfl rfl ?_
        refine Go.aload (pc' := 206) at_204 rfl rfl rfl ?_
        refine Go.callV (cells' := 3) (slots' := 13) (pc' := 209) [] [] ((A2.keep K5).keep K13) (ww hw 67 rfl) (ww hw 68 rfl) (fun s' hs' => notFace_of_selects (args := #[]) (mvT hs' (ww hw 70 rfl))) (ww hw 70 rfl) (ww hw 69 rfl) (ww hw 3 rfl) (ww hw 71 rfl) (by decide) (c_first l Z a0 hw h13 b2 (0 : Int64) F13_4) pd_4 rfl rfl rfl rfl rfl (nl rfl) (nl rfl) (nl rfl) (nl rfl) at_206 rfl ?_
        rintro _ _ ⟨rfl, rfl⟩
        show Go _ _ _ _ _ _ _ _ _ _ _ _ 209 #[.val (.long p0), .second, .val (.int p1), .val (.long p2), .second, .val (.int p3), .val (.long f), .second, .val (.int (0 : Int32)), .val (.ref b2), .val (.long (0 : Int64)), .second, .val (.long d9), .second, .val (.long (0 : Int64)), .second, .val (.long (0 : Int64)), .second, .val (.long (0 : Int64)), .second, .unset, .unset, .unset] [(.long (0 : Int64))]
        refine Go.lload (pc' := 211) at_209 rfl rfl ?_
        refine Go.lcmp (pc' := 212) at_211 rfl ?_
        refine Go.ifNo (pc' := 215) at_212 (XT.ll_ne_f (by decide)) rfl ?_
        refine Go.aload (pc' := 217) at_215 rfl rfl rfl ?_
        refine Go.callV (cells' := 3) (slots' := 13) (pc' := 220) [] [] ((A2.keep K5).keep K13) (ww hw 72 rfl) (ww hw 73 rfl) (fun s' hs' => notFace_of_selects (args := #[]) (mvT hs' (ww hw 75 rfl))) (ww hw 75 rfl) (ww hw 74 rfl) (ww hw 3 rfl) (ww hw 76 rfl) (by decide) (c_size l Z a0 hw h13 b2 (0 : Int32) F13_3) pd_5 rfl rfl rfl rfl rfl (nl rfl) (nl rfl) (nl rfl) (nl rfl) at_217 rfl ?_
        rintro _ _ ⟨rfl, rfl⟩
        show Go _ _ _ _ _ _ _ _ _ _ _ _ 220 #[.val (.long p0), .second, .val (.int p1), .val (.long p2), .second, .val (.int p3), .val (.long f), .second, .val (.int (0 : Int32)), .val (.ref b2), .val (.long (0 : Int64)), .second, .val (.long d9), .second, .val (.long (0 : Int64)), .second, .val (.long (0 : Int64)), .second, .val (.long (0 : Int64)), .second, .unset, .unset, .unset] [(.int (0 : Int32))]
        refine Go.i2l (pc' := 221) at_220 rfl ?_
        show Go _ _ _ _ _ _ _ _ _ _ _ _ 221 #[.val (.long p0), .second, .val (.int p1), .val (.long p2), .second, .val (.int p3), .val (.long f), .second, .val (.int (0 : Int32)), .val (.ref b2), .val (.long (0 : Int64)), .second, .val (.long d9), .second, .val (.long (0 : Int64)), .second, .val (.long (0 : Int64)), .second, .val (.long (0 : Int64)), .second, .unset, .unset, .unset] [(.long (0 : Int64))]
        refine Go.lload (pc' := 223) at_221 rfl rfl ?_
        refine Go.lcmp (pc' := 224) at_223 rfl ?_
        refine Go.ifNo (pc' := 227) at_224 (XT.ll_ne_f (by decide)) rfl ?_
        refine Go.aload (pc' := 229) at_227 rfl rfl rfl ?_
        refine Go.callV (cells' := 3) (slots' := 13) (pc' := 232) [] [] ((A2.keep K5).keep K13) (ww hw 77 rfl) (ww hw 78 rfl) (fun s' hs' => notFace_of_selects (args := #[]) (mvT hs' (ww hw 80 rfl))) (ww hw 80 rfl) (ww hw 79 rfl) (ww hw 3 rfl) (ww hw 81 rfl) (by decide) (c_end0 l Z a0 hw h13 b2 (0 : Int64) F13_4 F13_3) pd_4 rfl rfl rfl rfl rfl (nl rfl) (nl rfl) (nl rfl) (nl rfl) at_229 rfl ?_
        rintro _ _ ⟨rfl, rfl⟩
        show Go _ _ _ _ _ _ _ _ _ _ _ _ 232 #[.val (.long p0), .second, .val (.int p1), .val (.long p2), .second, .val (.int p3), .val (.long f), .second, .val (.int (0 : Int32)), .val (.ref b2), .val (.long (0 : Int64)), .second, .val (.long d9), .second, .val (.long (0 : Int64)), .second, .val (.long (0 : Int64)), .second, .val (.long (0 : Int64)), .second, .unset, .unset, .unset] [(.long ((0 : Int64) + (0 : Int64)))]
        refine Go.lload (pc' := 234) at_232 rfl rfl ?_
        refine Go.iload (pc' := 236) at_234 rfl rfl ?_
        refine Go.i2l (pc' := 237) at_236 rfl ?_
        show Go _ _ _ _ _ _ _ _ _ _ _ _ 237 #[.val (.long p0), .second, .val (.int p1), .val (.long p2), .second, .val (.int p3), .val (.long f), .second, .val (.int (0 : Int32)), .val (.ref b2), .val (.long (0 : Int64)), .second, .val (.long d9), .second, .val (.long (0 : Int64)), .second, .val (.long (0 : Int64)), .second, .val (.long (0 : Int64)), .second, .unset, .unset, .unset] [(.long (0 : Int64)), (.long (0 : Int64)), (.long ((0 : Int64) + (0 : Int64)))]
        refine Go.ladd (pc' := 238) at_237 rfl ?_
        show Go _ _ _ _ _ _ _ _ _ _ _ _ 238 #[.val (.long p0), .second, .val (.int p1), .val (.long p2), .second, .val (.int p3), .val (.long f), .second, .val (.int (0 : Int32)), .val (.ref b2), .val (.long (0 : Int64)), .second, .val (.long d9), .second, .val (.long (0 : Int64)), .second, .val (.long (0 : Int64)), .second, .val (.long (0 : Int64)), .second, .unset, .unset, .unset] [(.long (0 : Int64)), (.long ((0 : Int64) + (0 : Int64)))]
        refine Go.lcmp (pc' := 239) at_238 rfl ?_
        refine Go.ifYes (pc' := 244) at_239 (XT.ll_eq_t (by exact own_ax5 : ((0 : Int64) + (0 : Int64)) = (0 : Int64))) (by decide) (by decide) ?_
        refine Go.aload (pc' := 246) at_244 rfl rfl rfl ?_
        refine Go.lload (pc' := 248) at_246 rfl rfl ?_
        have f18 : Arv Z h13 sa_5 ks_5 .long (4 : Int32) [(.long 0), (.long 0), (.long 0), (.long 0)] (.long 0) := (F5_5.keep K13 (ninS (Ne.symm ne12) nin0))
        have ne19 : b2 ≠ na_5 := (Nat.ne_of_lt (Nat.lt_of_lt_of_le A2.lt sz_na_5))
        have f20 : Arv Z h13 na_5 kn_5 .int (4 : Int32) [(.int 0), (.int 0), (.int 0), (.int 0)] (.int 0) := (F5_6.keep K13 (ninS (Ne.symm ne19) nin0))
        refine Go.callV (cells' := 3) (slots' := 13) (pc' := 251) [(.long (0 : Int64))] [] ((A2.keep K5).keep K13) (ww hw 82 rfl) (ww hw 83 rfl) (fun s' hs' => notFace_of_selects (args := #[]) (mvT hs' (ww hw 85 rfl))) (ww hw 85 rfl) (ww hw 84 rfl) (ww hw 3 rfl) (ww hw 86 rfl) (by decide) (c_get0_0_0 l Z a0 hw h13 b2 sa_5 ks_5 na_5 kn_5 (0 : Int64) (0 : Int64) wp own_ax6 sp xp fp gp (((A2.keep K5).keep K13)) F13_0 F13_1 F13_2 F13_3 F13_4 f18 f20) pd_9 rfl rfl rfl rfl rfl (nl rfl) (nl rfl) (nl rfl) (nl rfl) at_248 rfl ?_
        rintro _ _ ⟨rfl, rfl⟩
        show Go _ _ _ _ _ _ _ _ _ _ _ _ 251 #[.val (.long p0), .second, .val (.int p1), .val (.long p2), .second, .val (.int p3), .val (.long f), .second, .val (.int (0 : Int32)), .val (.ref b2), .val (.long (0 : Int64)), .second, .val (.long d9), .second, .val (.long (0 : Int64)), .second, .val (.long (0 : Int64)), .second, .val (.long (0 : Int64)), .second, .unset, .unset, .unset] [.null]
        refine Go.astore (pc' := 253) (Ls' := #[.val (.long p0), .second, .val (.int p1), .val (.long p2), .second, .val (.int p3), .val (.long f), .second, .val (.int (0 : Int32)), .val (.ref b2), .val (.long (0 : Int64)), .second, .val (.long d9), .second, .val (.long (0 : Int64)), .second, .val (.long (0 : Int64)), .second, .val (.long (0 : Int64)), .second, .val .null, .unset, .unset]) at_251 rfl rfl rfl ?_
        refine Go.aload (pc' := 255) at_253 rfl rfl rfl ?_
        refine Go.lload (pc' := 257) at_255 rfl rfl ?_
        refine Go.lconst (pc' := 258) (v := (1 : Int64)) at_257 rfl rfl ?_
        refine Go.lsub (pc' := 259) at_258 rfl ?_
        show Go _ _ _ _ _ _ _ _ _ _ _ _ 259 #[.val (.long p0), .second, .val (.int p1), .val (.long p2), .second, .val (.int p3), .val (.long f), .second, .val (.int (0 : Int32)), .val (.ref b2), .val (.long (0 : Int64)), .second, .val (.long d9), .second, .val (.long (0 : Int64)), .second, .val (.long (0 : Int64)), .second, .val (.long (0 : Int64)), .second, .val .null, .unset, .unset] [(.long (-1 : Int64)), (.ref b2)]
        refine Go.callV (cells' := 3) (slots' := 13) (pc' := 262) [(.long (-1 : Int64))] [] ((A2.keep K5).keep K13) (ww hw 82 rfl) (ww hw 83 rfl) (fun s' hs' => notFace_of_selects (args := #[]) (mvT hs' (ww hw 85 rfl))) (ww hw 85 rfl) (ww hw 84 rfl) (ww hw 3 rfl) (ww hw 86 rfl) (by decide) (c_get0_0_m1 l Z a0 hw h13 b2 sa_5 ks_5 na_5 kn_5 (-1 : Int64) (0 : Int64) wp own_ax7 sp xp fp gp (((A2.keep K5).keep K13)) F13_0 F13_1 F13_2 F13_3 F13_4 f18 f20) pd_9 rfl rfl rfl rfl rfl (nl rfl) (nl rfl) (nl rfl) (nl rfl) at_259 rfl ?_
        rintro _ _ ⟨rfl, rfl⟩
        show Go _ _ _ _ _ _ _ _ _ _ _ _ 262 #[.val (.long p0), .second, .val (.int p1), .val (.long p2), .second, .val (.int p3), .val (.long f), .second, .val (.int (0 : Int32)), .val (.ref b2), .val (.long (0 : Int64)), .second, .val (.long d9), .second, .val (.long (0 : Int64)), .second, .val (.long (0 : Int64)), .second, .val (.long (0 : Int64)), .second, .val .null, .unset, .unset] [.null]
        refine Go.astore (pc' := 264) (Ls' := #[.val (.long p0), .second, .val (.int p1), .val (.long p2), .second, .val (.int p3), .val (.long f), .second, .val (.int (0 : Int32)), .val (.ref b2), .val (.long (0 : Int64)), .second, .val (.long d9), .second, .val (.long (0 : Int64)), .second, .val (.long (0 : Int64)), .second, .val (.long (0 : Int64)), .second, .val .null, .val .null, .unset]) at_262 rfl rfl rfl ?_
        refine Go.aload (pc' := 266) at_264 rfl rfl rfl ?_
        refine Go.nullYes (pc' := 271) at_266 rfl (by decide) (by decide) ?_
        refine Go.lload (pc' := 273) at_271 rfl rfl ?_
        refine Go.lconst (pc' := 274) (v := (0 : Int64)) at_273 rfl rfl ?_
        refine Go.lcmp (pc' := 275) at_274 rfl ?_
        refine Go.ifNo (pc' := 278) at_275 (XT.ll_ne_f (by decide)) rfl ?_
        refine Go.aload (pc' := 280) at_278 rfl rfl rfl ?_
        refine Go.nonnullNo (pc' := 283) at_280 rfl rfl ?_
        refine Go.iconst (pc' := 284) (v := (1 : Int32)) at_283 rfl rfl ?_
        refine Go.goto (pc' := 288) at_284 (by decide) (by decide) ?_
        exact Go.retN (t := .boolean) rfl (by simp) at_288 ⟨rfl, K14⟩ (by decide) (by decide)
      ·
        refine Go.aload (pc' := 143) at_141 rfl rfl rfl ?_
        refine Go.lload (pc' := 145) at_143 rfl rfl ?_
        have ne23 : b2 ≠ sa_5 := (Nat.ne_of_lt (Nat.lt_of_lt_of_le A2.lt sz_sa_5))
        refine Go.callV (cells' := 3) (slots' := 13) (pc' := 148) [(.long d9)] [] (A2.keep K5) (ww hw 62 rfl) (ww hw 63 rfl) (fun s' hs' => notFace_of_selects (args := #[]) (mvT hs' (ww hw 65 rfl))) (ww hw 65 rfl) (ww hw 64 rfl) (ww hw 3 rfl) (ww hw 66 rfl) (by decide) (c_drop0_0 l Z a0 hw h5 b2 sa_5 ks_5 na_5 d9 ge2 ne23 (A2.keep K5) F5_0 F5_1 F5_2 F5_3 F5_4 F5_5) pd_8 rfl rfl rfl rfl rfl (nl rfl) (nl rfl) (nl rfl) (nl rfl) at_145 rfl ?_
        rintro _ h24 ⟨rfl, K24, F24_0, F24_1, F24_2, F24_3, F24_4⟩
        have K25 : Keep h h24 [] := K8.trans K24 (allS (Or.inr sz3) all0)
        show Go _ _ _ _ _ _ _ _ _ _ _ _ 148 #[.val (.long p0), .second, .val (.int p1), .val (.long p2), .second, .val (.int p3), .val (.long f), .second, .val (.int (0 : Int32)), .val (.ref b2), .val (.long (0 : Int64)), .second, .val (.long d9), .second, .unset, .unset, .unset, .unset, .unset, .unset, .unset, .unset, .unset] []
        refine Go.lload (pc' := 150) at_148 rfl rfl ?_
        refine Go.lload (pc' := 152) at_150 rfl rfl ?_
        refine Go.lcmp (pc' := 153) at_152 rfl ?_
        refine Go.ifYes (pc' := 162) at_153 (XT.ll_gt_t q11_0) (by decide) (by decide) ?_
        refine Go.lload (pc' := 164) at_162 rfl rfl ?_
        refine Go.lload (pc' := 166) at_164 rfl rfl ?_
        refine Go.iload (pc' := 168) at_166 rfl rfl ?_
        refine Go.i2l (pc' := 169) at_168 rfl ?_
        show Go _ _ _ _ _ _ _ _ _ _ _ _ 169 #[.val (.long p0), .second, .val (.int p1), .val (.long p2), .second, .val (.int p3), .val (.long f), .second, .val (.int (0 : Int32)), .val (.ref b2), .val (.long (0 : Int64)), .second, .val (.long d9), .second, .unset, .unset, .unset, .unset, .unset, .unset, .unset, .unset, .unset] [(.long (0 : Int64)), (.long (0 : Int64)), (.long d9)]
        refine Go.ladd (pc' := 170) at_169 rfl ?_
        show Go _ _ _ _ _ _ _ _ _ _ _ _ 170 #[.val (.long p0), .second, .val (.int p1), .val (.long p2), .second, .val (.int p3), .val (.long f), .second, .val (.int (0 : Int32)), .val (.ref b2), .val (.long (0 : Int64)), .second, .val (.long d9), .second, .unset, .unset, .unset, .unset, .unset, .unset, .unset, .unset, .unset] [(.long (0 : Int64)), (.long d9)]
        refine Go.lcmp (pc' := 171) at_170 rfl ?_
        refine Go.ifNo (pc' := 174) at_171 (XT.ll_lt_f q11_1) rfl ?_
        refine Go.iload (pc' := 176) at_174 rfl rfl ?_
        refine Go.i2l (pc' := 177) at_176 rfl ?_
        show Go _ _ _ _ _ _ _ _ _ _ _ _ 177 #[.val (.long p0), .second, .val (.int p1), .val (.long p2), .second, .val (.int p3), .val (.long f), .second, .val (.int (0 : Int32)), .val (.ref b2), .val (.long (0 : Int64)), .second, .val (.long d9), .second, .unset, .unset, .unset, .unset, .unset, .unset, .unset, .unset, .unset] [(.long (0 : Int64))]
        refine Go.lstore (pc' := 179) (Ls' := #[.val (.long p0), .second, .val (.int p1), .val (.long p2), .second, .val (.int p3), .val (.long f), .second, .val (.int (0 : Int32)), .val (.ref b2), .val (.long (0 : Int64)), .second, .val (.long d9), .second, .val (.long (0 : Int64)), .second, .unset, .unset, .unset, .unset, .unset, .unset, .unset]) at_177 rfl rfl ?_
        refine Go.goto (pc' := 189) at_179 (by decide) (by decide) ?_
        refine Go.lload (pc' := 191) at_189 rfl rfl ?_
        refine Go.lload (pc' := 193) at_191 rfl rfl ?_
        refine Go.ladd (pc' := 194) at_193 rfl ?_
        show Go _ _ _ _ _ _ _ _ _ _ _ _ 194 #[.val (.long p0), .second, .val (.int p1), .val (.long p2), .second, .val (.int p3), .val (.long f), .second, .val (.int (0 : Int32)), .val (.ref b2), .val (.long (0 : Int64)), .second, .val (.long d9), .second, .val (.long (0 : Int64)), .second, .unset, .unset, .unset, .unset, .unset, .unset, .unset] [(.long (0 : Int64))]
        refine Go.lstore (pc' := 196) (Ls' := #[.val (.long p0), .second, .val (.int p1), .val (.long p2), .second, .val (.int p3), .val (.long f), .second, .val (.int (0 : Int32)), .val (.ref b2), .val (.long (0 : Int64)), .second, .val (.long d9), .second, .val (.long (0 : Int64)), .second, .val (.long (0 : Int64)), .second, .unset, .unset, .unset, .unset, .unset]) at_194 rfl rfl ?_
        refine Go.iload (pc' := 198) at_196 rfl rfl ?_
        refine Go.i2l (pc' := 199) at_198 rfl ?_
        show Go _ _ _ _ _ _ _ _ _ _ _ _ 199 #[.val (.long p0), .second, .val (.int p1), .val (.long p2), .second, .val (.int p3), .val (.long f), .second, .val (.int (0 : Int32)), .val (.ref b2), .val (.long (0 : Int64)), .second, .val (.long d9), .second, .val (.long (0 : Int64)), .second, .val (.long (0 : Int64)), .second, .unset, .unset, .unset, .unset, .unset] [(.long (0 : Int64))]
        refine Go.lload (pc' := 201) at_199 rfl rfl ?_
        refine Go.lsub (pc' := 202) at_201 rfl ?_
        show Go _ _ _ _ _ _ _ _ _ _ _ _ 202 #[.val (.long p0), .second, .val (.int p1), .val (.long p2), .second, .val (.int p3), .val (.long f), .second, .val (.int (0 : Int32)), .val (.ref b2), .val (.long (0 : Int64)), .second, .val (.long d9), .second, .val (.long (0 : Int64)), .second, .val (.long (0 : Int64)), .second, .unset, .unset, .unset, .unset, .unset] [(.long (0 : Int64))]
        refine Go.lstore (pc' := 204) (Ls' := #[.val (.long p0), .second, .val (.int p1), .val (.long p2), .second, .val (.int p3), .val (.long f), .second, .val (.int (0 : Int32)), .val (.ref b2), .val (.long (0 : Int64)), .second, .val (.long d9), .second, .val (.long (0 : Int64)), .second, .val (.long (0 : Int64)), .second, .val (.long (0 : Int64)), .second, .unset, .unset, .unset]) at_202 rfl rfl ?_
        refine Go.aload (pc' := 206) at_204 rfl rfl rfl ?_
        refine Go.callV (cells' := 3) (slots' := 13) (pc' := 209) [] [] ((A2.keep K5).keep K24) (ww hw 67 rfl) (ww hw 68 rfl) (fun s' hs' => notFace_of_selects (args := #[]) (mvT hs' (ww hw 70 rfl))) (ww hw 70 rfl) (ww hw 69 rfl) (ww hw 3 rfl) (ww hw 71 rfl) (by decide) (c_first l Z a0 hw h24 b2 (0 : Int64) F24_4) pd_4 rfl rfl rfl rfl rfl (nl rfl) (nl rfl) (nl rfl) (nl rfl) at_206 rfl ?_
        rintro _ _ ⟨rfl, rfl⟩
        show Go _ _ _ _ _ _ _ _ _ _ _ _ 209 #[.val (.long p0), .second, .val (.int p1), .val (.long p2), .second, .val (.int p3), .val (.long f), .second, .val (.int (0 : Int32)), .val (.ref b2), .val (.long (0 : Int64)), .second, .val (.long d9), .second, .val (.long (0 : Int64)), .second, .val (.long (0 : Int64)), .second, .val (.long (0 : Int64)), .second, .unset, .unset, .unset] [(.long (0 : Int64))]
        refine Go.lload (pc' := 211) at_209 rfl rfl ?_
        refine Go.lcmp (pc' := 212) at_211 rfl ?_
        refine Go.ifNo (pc' := 215) at_212 (XT.ll_ne_f (by decide)) rfl ?_
        refine Go.aload (pc' := 217) at_215 rfl rfl rfl ?_
        refine Go.callV (cells' := 3) (slots' := 13) (pc' := 220) [] [] ((A2.keep K5).keep K24) (ww hw 72 rfl) (ww hw 73 rfl) (fun s' hs' => notFace_of_selects (args := #[]) (mvT hs' (ww hw 75 rfl))) (ww hw 75 rfl) (ww hw 74 rfl) (ww hw 3 rfl) (ww hw 76 rfl) (by decide) (c_size l Z a0 hw h24 b2 (0 : Int32) F24_3) pd_5 rfl rfl rfl rfl rfl (nl rfl) (nl rfl) (nl rfl) (nl rfl) at_217 rfl ?_
        rintro _ _ ⟨rfl, rfl⟩
        show Go _ _ _ _ _ _ _ _ _ _ _ _ 220 #[.val (.long p0), .second, .val (.int p1), .val (.long p2), .second, .val (.int p3), .val (.long f), .second, .val (.int (0 : Int32)), .val (.ref b2), .val (.long (0 : Int64)), .second, .val (.long d9), .second, .val (.long (0 : Int64)), .second, .val (.long (0 : Int64)), .second, .val (.long (0 : Int64)), .second, .unset, .unset, .unset] [(.int (0 : Int32))]
        refine Go.i2l (pc' := 221) at_220 rfl ?_
        show Go _ _ _ _ _ _ _ _ _ _ _ _ 221 #[.val (.long p0), .second, .val (.int p1), .val (.long p2), .second, .val (.int p3), .val (.long f), .second, .val (.int (0 : Int32)), .val (.ref b2), .val (.long (0 : Int64)), .second, .val (.long d9), .second, .val (.long (0 : Int64)), .second, .val (.long (0 : Int64)), .second, .val (.long (0 : Int64)), .second, .unset, .unset, .unset] [(.long (0 : Int64))]
        refine Go.lload (pc' := 223) at_221 rfl rfl ?_
        refine Go.lcmp (pc' := 224) at_223 rfl ?_
        refine Go.ifNo (pc' := 227) at_224 (XT.ll_ne_f (by decide)) rfl ?_
        refine Go.aload (pc' := 229) at_227 rfl rfl rfl ?_
        refine Go.callV (cells' := 3) (slots' := 13) (pc' := 232) [] [] ((A2.keep K5).keep K24) (ww hw 77 rfl) (ww hw 78 rfl) (fun s' hs' => notFace_of_selects (args := #[]) (mvT hs' (ww hw 80 rfl))) (ww hw 80 rfl) (ww hw 79 rfl) (ww hw 3 rfl) (ww hw 81 rfl) (by decide) (c_end0 l Z a0 hw h24 b2 (0 : Int64) F24_4 F24_3) pd_4 rfl rfl rfl rfl rfl (nl rfl) (nl rfl) (nl rfl) (nl rfl) at_229 rfl ?_
        rintro _ _ ⟨rfl, rfl⟩
        show Go _ _ _ _ _ _ _ _ _ _ _ _ 232 #[.val (.long p0), .second, .val (.int p1), .val (.long p2), .second, .val (.int p3), .val (.long f), .second, .val (.int (0 : Int32)), .val (.ref b2), .val (.long (0 : Int64)), .second, .val (.long d9), .second, .val (.long (0 : Int64)), .second, .val (.long (0 : Int64)), .second, .val (.long (0 : Int64)), .second, .unset, .unset, .unset] [(.long ((0 : Int64) + (0 : Int64)))]
        refine Go.lload (pc' := 234) at_232 rfl rfl ?_
        refine Go.iload (pc' := 236) at_234 rfl rfl ?_
        refine Go.i2l (pc' := 237) at_236 rfl ?_
        show Go _ _ _ _ _ _ _ _ _ _ _ _ 237 #[.val (.long p0), .second, .val (.int p1), .val (.long p2), .second, .val (.int p3), .val (.long f), .second, .val (.int (0 : Int32)), .val (.ref b2), .val (.long (0 : Int64)), .second, .val (.long d9), .second, .val (.long (0 : Int64)), .second, .val (.long (0 : Int64)), .second, .val (.long (0 : Int64)), .second, .unset, .unset, .unset] [(.long (0 : Int64)), (.long (0 : Int64)), (.long ((0 : Int64) + (0 : Int64)))]
        refine Go.ladd (pc' := 238) at_237 rfl ?_
        show Go _ _ _ _ _ _ _ _ _ _ _ _ 238 #[.val (.long p0), .second, .val (.int p1), .val (.long p2), .second, .val (.int p3), .val (.long f), .second, .val (.int (0 : Int32)), .val (.ref b2), .val (.long (0 : Int64)), .second, .val (.long d9), .second, .val (.long (0 : Int64)), .second, .val (.long (0 : Int64)), .second, .val (.long (0 : Int64)), .second, .unset, .unset, .unset] [(.long (0 : Int64)), (.long ((0 : Int64) + (0 : Int64)))]
        refine Go.lcmp (pc' := 239) at_238 rfl ?_
        refine Go.ifYes (pc' := 244) at_239 (XT.ll_eq_t (by exact own_ax5 : ((0 : Int64) + (0 : Int64)) = (0 : Int64))) (by decide) (by decide) ?_
        refine Go.aload (pc' := 246) at_244 rfl rfl rfl ?_
        refine Go.lload (pc' := 248) at_246 rfl rfl ?_
        have f29 : Arv Z h24 sa_5 ks_5 .long (4 : Int32) [(.long 0), (.long 0), (.long 0), (.long 0)] (.long 0) := (F5_5.keep K24 (ninS (Ne.symm ne23) nin0))
        have ne30 : b2 ≠ na_5 := (Nat.ne_of_lt (Nat.lt_of_lt_of_le A2.lt sz_na_5))
        have f31 : Arv Z h24 na_5 kn_5 .int (4 : Int32) [(.int 0), (.int 0), (.int 0), (.int 0)] (.int 0) := (F5_6.keep K24 (ninS (Ne.symm ne30) nin0))
        refine Go.callV (cells' := 3) (slots' := 13) (pc' := 251) [(.long (0 : Int64))] [] ((A2.keep K5).keep K24) (ww hw 82 rfl) (ww hw 83 rfl) (fun s' hs' => notFace_of_selects (args := #[]) (mvT hs' (ww hw 85 rfl))) (ww hw 85 rfl) (ww hw 84 rfl) (ww hw 3 rfl) (ww hw 86 rfl) (by decide) (c_get0_0_0 l Z a0 hw h24 b2 sa_5 ks_5 na_5 kn_5 (0 : Int64) (0 : Int64) wp own_ax6 sp xp fp gp (((A2.keep K5).keep K24)) F24_0 F24_1 F24_2 F24_3 F24_4 f29 f31) pd_9 rfl rfl rfl rfl rfl (nl rfl) (nl rfl) (nl rfl) (nl rfl) at_248 rfl ?_
        rintro _ _ ⟨rfl, rfl⟩
        show Go _ _ _ _ _ _ _ _ _ _ _ _ 251 #[.val (.long p0), .second, .val (.int p1), .val (.long p2), .second, .val (.int p3), .val (.long f), .second, .val (.int (0 : Int32)), .val (.ref b2), .val (.long (0 : Int64)), .second, .val (.long d9), .second, .val (.long (0 : Int64)), .second, .val (.long (0 : Int64)), .second, .val (.long (0 : Int64)), .second, .unset, .unset, .unset] [.null]
        refine Go.astore (pc' := 253) (Ls' := #[.val (.long p0), .second, .val (.int p1), .val (.long p2), .second, .val (.int p3), .val (.long f), .second, .val (.int (0 : Int32)), .val (.ref b2), .val (.long (0 : Int64)), .second, .val (.long d9), .second, .val (.long (0 : Int64)), .second, .val (.long (0 : Int64)), .second, .val (.long (0 : Int64)), .second, .val .null, .unset, .unset]) at_251 rfl rfl rfl ?_
        refine Go.aload (pc' := 255) at_253 rfl rfl rfl ?_
        refine Go.lload (pc' := 257) at_255 rfl rfl ?_
        refine Go.lconst (pc' := 258) (v := (1 : Int64)) at_257 rfl rfl ?_
        refine Go.lsub (pc' := 259) at_258 rfl ?_
        show Go _ _ _ _ _ _ _ _ _ _ _ _ 259 #[.val (.long p0), .second, .val (.int p1), .val (.long p2), .second, .val (.int p3), .val (.long f), .second, .val (.int (0 : Int32)), .val (.ref b2), .val (.long (0 : Int64)), .second, .val (.long d9), .second, .val (.long (0 : Int64)), .second, .val (.long (0 : Int64)), .second, .val (.long (0 : Int64)), .second, .val .null, .unset, .unset] [(.long (-1 : Int64)), (.ref b2)]
        refine Go.callV (cells' := 3) (slots' := 13) (pc' := 262) [(.long (-1 : Int64))] [] ((A2.keep K5).keep K24) (ww hw 82 rfl) (ww hw 83 rfl) (fun s' hs' => notFace_of_selects (args := #[]) (mvT hs' (ww hw 85 rfl))) (ww hw 85 rfl) (ww hw 84 rfl) (ww hw 3 rfl) (ww hw 86 rfl) (by decide) (c_get0_0_m1 l Z a0 hw h24 b2 sa_5 ks_5 na_5 kn_5 (-1 : Int64) (0 : Int64) wp own_ax7 sp xp fp gp (((A2.keep K5).keep K24)) F24_0 F24_1 F24_2 F24_3 F24_4 f29 f31) pd_9 rfl rfl rfl rfl rfl (nl rfl) (nl rfl) (nl rfl) (nl rfl) at_259 rfl ?_
        rintro _ _ ⟨rfl, rfl⟩
        show Go _ _ _ _ _ _ _ _ _ _ _ _ 262 #[.val (.long p0), .second, .val (.int p1), .val (.long p2), .second, .val (.int p3), .val (.long f), .second, .val (.int (0 : Int32)), .val (.ref b2), .val (.long (0 : Int64)), .second, .val (.long d9), .second, .val (.long (0 : Int64)), .second, .val (.long (0 : Int64)), .second, .val (.long (0 : Int64)), .second, .val .null, .unset, .unset] [.null]
        refine Go.astore (pc' := 264) (Ls' := #[.val (.long p0), .second, .val (.int p1), .val (.long p2), .second, .val (.int p3), .val (.long f), .second, .val (.int (0 : Int32)), .val (.ref b2), .val (.long (0 : Int64)), .second, .val (.long d9), .second, .val (.long (0 : Int64)), .second, .val (.long (0 : Int64)), .second, .val (.long (0 : Int64)), .second, .val .null, .val .null, .unset]) at_262 rfl rfl rfl ?_
        refine Go.aload (pc' := 266) at_264 rfl rfl rfl ?_
        refine Go.nullYes (pc' := 271) at_266 rfl (by decide) (by decide) ?_
        refine Go.lload (pc' := 273) at_271 rfl rfl ?_
        refine Go.lconst (pc' := 274) (v := (0 : Int64)) at_273 rfl rfl ?_
        refine Go.lcmp (pc' := 275) at_274 rfl ?_
        refine Go.ifNo (pc' := 278) at_275 (XT.ll_ne_f (by decide)) rfl ?_
        refine Go.aload (pc' := 280) at_278 rfl rfl rfl ?_
        refine Go.nonnullNo (pc' := 283) at_280 rfl rfl ?_
        refine Go.iconst (pc' := 284) (v := (1 : Int32)) at_283 rfl rfl ?_
        refine Go.goto (pc' := 288) at_284 (by decide) (by decide) ?_
        exact Go.retN (t := .boolean) rfl (by simp) at_288 ⟨rfl, K25⟩ (by decide) (by decide)
    by_cases hc34 : (p3 &&& (1 : Int32)) = (0 : Int32)
    ·
      refine Go.ifNo (pc' := 123) at_120 (XT.i0_ne_f hc34) rfl ?_
      refine Go.lloadN (pc' := 124) at_123 rfl rfl ?_
      refine Go.goto (pc' := 139) at_124 (by decide) (by decide) ?_
      exact key10 _
    ·
      refine Go.ifYes (pc' := 127) at_120 (XT.i0_ne_t hc34) (by decide) (by decide) ?_
      refine Go.lload (pc' := 129) at_127 rfl rfl ?_
      refine Go.lloadN (pc' := 130) at_129 rfl rfl ?_
      refine Go.ldc2J (pc' := 133) (ww hw 102 rfl) at_130 rfl ?_
      refine Go.land (pc' := 134) at_133 rfl ?_
      refine Go.ldc2J (pc' := 137) (ww hw 103 rfl) at_134 rfl ?_
      refine Go.lsub (pc' := 138) at_137 rfl ?_
      refine Go.ladd (pc' := 139) at_138 rfl ?_
      exact key10 _
  ·
    rw [hk1]
    refine Go.new (pc' := 16) (cells' := 1) (slots' := 5) (ww hw 1 rfl) (ww hw 2 rfl) (ww hw 3 rfl) at_13 rfl rfl (by decide) (by decide) rfl ?_
    intro h35 b35 g35 E35 ge35 A35 D35
    have sz36 : h.size ≤ b35 := Nat.le_trans (Keep.refl h []).1 (Nat.le_of_eq g35.symm)
    have K37 : Keep h h35 [] := (Keep.refl h []).ext E35
    refine Go.dup (pc' := 17) at_16 rfl rfl ?_
    refine Go.callC (cells' := 3) (slots' := 13) (pc' := 20) [] [(.ref b35)] (a := b35) rfl rfl (ww hw 4 rfl) (ww hw 5 rfl) (ww hw 3 rfl) (ww hw 6 rfl) (by decide) (c_ringInit l Z a0 hw h35 b35 ge35 A35 ((D35 (Or.inl (ww hw 12 rfl)) (ty := (.array .long)) (by decide) : Fld Z h35 b35 "com/example/rens/rens/TimeRing" "seconds" "[J" .null)) ((D35 (Or.inl (ww hw 15 rfl)) (ty := (.array .int)) (by decide) : Fld Z h35 b35 "com/example/rens/rens/TimeRing" "nanos" "[I" .null)) ((D35 (Or.inl (ww hw 38 rfl)) (ty := .int) (by decide) : Fld Z h35 b35 "com/example/rens/rens/TimeRing" "head" "I" (.int (0 : Int32)))) ((D35 (Or.inl (ww hw 30 rfl)) (ty := .int) (by decide) : Fld Z h35 b35 "com/example/rens/rens/TimeRing" "size" "I" (.int (0 : Int32)))) ((D35 (Or.inl (ww hw 32 rfl)) (ty := .long) (by decide) : Fld Z h35 b35 "com/example/rens/rens/TimeRing" "first" "J" (.long (0 : Int64))))) pd_7 rfl rfl rfl rfl rfl (nl rfl) (nl rfl) (nl rfl) (nl rfl) at_17 rfl ?_
    rintro _ h38 ⟨sa_38, ks_38, na_38, kn_38, rfl, K38, ge_sa_38, sz_sa_38, ge_na_38, sz_na_38, ne38_0, F38_0, F38_1, F38_2, F38_3, F38_4, F38_5, F38_6⟩
    have sz39 : h.size ≤ sa_38 := Nat.le_trans K37.1 sz_sa_38
    have sz40 : h.size ≤ na_38 := Nat.le_trans K37.1 sz_na_38
    have K41 : Keep h h38 [] := K37.trans K38 (allS (Or.inr sz36) all0)
    show Go _ _ _ _ _ _ _ _ _ _ _ _ 20 #[.val (.long p0), .second, .val (.int p1), .val (.long p2), .second, .val (.int p3), .val (.long f), .second, .val (.int (1 : Int32)), .unset, .unset, .unset, .unset, .unset, .unset, .unset, .unset, .unset, .unset, .unset, .unset, .unset, .unset] [(.ref b35)]
    refine Go.astore (pc' := 22) (Ls' := #[.val (.long p0), .second, .val (.int p1), .val (.long p2), .second, .val (.int p3), .val (.long f), .second, .val (.int (1 : Int32)), .val (.ref b35), .unset, .unset, .unset, .unset, .unset, .unset, .unset, .unset, .unset, .unset, .unset, .unset, .unset]) at_20 rfl rfl rfl ?_
    refine Go.iload (pc' := 24) at_22 rfl rfl ?_
    refine Go.ifNo (pc' := 27) at_24 (XT.i0_le_f (by decide)) rfl ?_
    refine Go.aload (pc' := 29) at_27 rfl rfl rfl ?_
    refine Go.lload (pc' := 31) at_29 rfl rfl ?_
    refine Go.lconst (pc' := 32) (v := (0 : Int64)) at_31 rfl rfl ?_
    refine Go.callS (cells' := 3) (slots' := 13) (pc' := 35) [(.long (0 : Int64))] [(.long f), (.ref b35)] (ww hw 16 rfl) (ww hw 17 rfl) (ww hw 18 rfl) (ww hw 19 rfl) (by decide) (c_ofSec0 l Z a0 hw h38 wp sp xp fp gp) pd_9 rfl rfl rfl rfl rfl (nl rfl) (nl rfl) (nl rfl) (nl rfl) at_32 rfl ?_
    rintro _ _ ⟨rfl, rfl⟩
    show Go _ _ _ _ _ _ _ _ _ _ _ _ 35 #[.val (.long p0), .second, .val (.int p1), .val (.long p2), .second, .val (.int p3), .val (.long f), .second, .val (.int (1 : Int32)), .val (.ref b35), .unset, .unset, .unset, .unset, .unset, .unset, .unset, .unset, .unset, .unset, .unset, .unset, .unset] [(.ref wp), (.long f), (.ref b35)]
    refine Go.old (fun old43 => ?_)
    have ne44 : b35 ≠ sa_38 := (Nat.ne_of_lt (Nat.lt_of_lt_of_le A35.lt sz_sa_38))
    have ne45 : b35 ≠ na_38 := (Nat.ne_of_lt (Nat.lt_of_lt_of_le A35.lt sz_na_38))
    refine Go.callV (cells' := 3) (slots' := 13) (pc' := 38) [(.long f), (.ref wp)] [] (A35.keep K38) (ww hw 24 rfl) (ww hw 25 rfl) (fun s' hs' => notFace_of_selects (args := #[]) (mvT hs' (ww hw 27 rfl))) (ww hw 27 rfl) (ww hw 26 rfl) (ww hw 3 rfl) (ww hw 28 rfl) (by decide) (c_set0 l Z a0 hw h38 b35 sa_38 ks_38 na_38 kn_38 f wp ge35 ge_sa_38 ge_na_38 ne44 ne45 ne38_0 (old43.ne xp.lt ge35) (old43.ne xp.lt ge_sa_38) (old43.ne xp.lt ge_na_38) (A35.keep K38) F38_0 F38_1 F38_2 F38_3 F38_4 F38_5 F38_6 (xp.ext old43.2) (fp.ext old43.2) (gp.ext old43.2)) pd_10 rfl rfl rfl rfl rfl (nl rfl) (nl rfl) (nl rfl) (nl rfl) at_35 rfl ?_
    rintro _ h46 ⟨rfl, K46, F46_0, F46_1, F46_2, F46_3, F46_4, F46_5, F46_6⟩
    have K47 : Keep h h46 [] := K41.trans K46 (allS (Or.inr sz36) (allS (Or.inr sz39) (allS (Or.inr sz40) all0)))
    show Go _ _ _ _ _ _ _ _ _ _ _ _ 38 #[.val (.long p0), .second, .val (.int p1), .val (.long p2), .second, .val (.int p3), .val (.long f), .second, .val (.int (1 : Int32)), .val (.ref b35), .unset, .unset, .unset, .unset, .unset, .unset, .unset, .unset, .unset, .unset, .unset, .unset, .unset] []
    refine Go.iload (pc' := 40) at_38 rfl rfl ?_
    refine Go.iconst (pc' := 41) (v := (1 : Int32)) at_40 rfl rfl ?_
    refine Go.icmpYes (pc' := 57) at_41 (XT.ii_le_t (by decide)) (by decide) (by decide) ?_
    refine Go.iload (pc' := 59) at_57 rfl rfl ?_
    refine Go.iconst (pc' := 60) (v := (2 : Int32)) at_59 rfl rfl ?_
    refine Go.icmpYes (pc' := 80) at_60 (XT.ii_le_t (by decide)) (by decide) (by decide) ?_
    refine Go.iload (pc' := 82) at_80 rfl rfl ?_
    refine Go.iconst (pc' := 83) (v := (3 : Int32)) at_82 rfl rfl ?_
    refine Go.icmpYes (pc' := 103) at_83 (XT.ii_le_t (by decide)) (by decide) (by decide) ?_
    refine Go.iload (pc' := 105) at_103 rfl rfl ?_
    refine Go.ifYes (pc' := 112) at_105 (XT.i0_ne_t (by decide)) (by decide) (by decide) ?_
    refine Go.lload (pc' := 114) at_112 rfl rfl ?_
    refine Go.lstore (pc' := 116) (Ls' := #[.val (.long p0), .second, .val (.int p1), .val (.long p2), .second, .val (.int p3), .val (.long f), .second, .val (.int (1 : Int32)), .val (.ref b35), .val (.long f), .second, .unset, .unset, .unset, .unset, .unset, .unset, .unset, .unset, .unset, .unset, .unset]) at_114 rfl rfl ?_
    refine Go.iload (pc' := 118) at_116 rfl rfl ?_
    refine Go.iconst (pc' := 119) (v := (1 : Int32)) at_118 rfl rfl ?_
    refine Go.iand (pc' := 120) at_119 rfl ?_
    have key49 : ∀ d48 : Int64, Go l room_1 Z n0 x code maxLocals ret (fun v h' => v = some (.int (1 : Int32)) ∧ Keep h h' []) 3 13 h46 139 #[.val (.long p0), .second, .val (.int p1), .val (.long p2), .second, .val (.int p3), .val (.long f), .second, .val (.int (1 : Int32)), .val (.ref b35), .val (.long f), .second, .unset, .unset, .unset, .unset, .unset, .unset, .unset, .unset, .unset, .unset, .unset] [(.long d48)] := by
      intro d48
      refine Go.lstore (pc' := 141) (Ls' := #[.val (.long p0), .second, .val (.int p1), .val (.long p2), .second, .val (.int p3), .val (.long f), .second, .val (.int (1 : Int32)), .val (.ref b35), .val (.long f), .second, .val (.long d48), .second, .unset, .unset, .unset, .unset, .unset, .unset, .unset, .unset, .unset]) at_139 rfl rfl ?_
      obtain q50 | ⟨q50_0, q50_1⟩ := own_cut1 f d48 hb
      ·
        refine Go.aload (pc' := 143) at_141 rfl rfl rfl ?_
        refine Go.lload (pc' := 145) at_143 rfl rfl ?_
        refine Go.callV (cells' := 3) (slots' := 13) (pc' := 148) [(.long d48)] [] ((A35.keep K38).keep K46) (ww hw 62 rfl) (ww hw 63 rfl) (fun s' hs' => notFace_of_selects (args := #[]) (mvT hs' (ww hw 65 rfl))) (ww hw 65 rfl) (ww hw 64 rfl) (ww hw 3 rfl) (ww hw 66 rfl) (by decide) (c_drop1_0 l Z a0 hw h46 b35 sa_38 ks_38 na_38 f d48 q50 ge35 ne44 (((A35.keep K38).keep K46)) F46_0 F46_1 F46_2 F46_3 F46_4 F46_5) pd_8 rfl rfl rfl rfl rfl (nl rfl) (nl rfl) (nl rfl) (nl rfl) at_145 rfl ?_
        rintro _ h51 ⟨rfl, K51, F51_0, F51_1, F51_2, F51_3, F51_4⟩
        have K52 : Keep h h51 [] := K47.trans K51 (allS (Or.inr sz36) all0)
        show Go _ _ _ _ _ _ _ _ _ _ _ _ 148 #[.val (.long p0), .second, .val (.int p1), .val (.long p2), .second, .val (.int p3), .val (.long f), .second, .val (.int (1 : Int32)), .val (.ref b35), .val (.long f), .second, .val (.long d48), .second, .unset, .unset, .unset, .unset, .unset, .unset, .unset, .unset, .unset] []
        refine Go.lload (pc' := 150) at_148 rfl rfl ?_
        refine Go.lload (pc' := 152) at_150 rfl rfl ?_
        refine Go.lcmp (pc' := 153) at_152 rfl ?_
        refine Go.ifNo (pc' := 156) at_153 (XT.ll_gt_f q50) rfl ?_
        refine Go.lconst (pc' := 157) (v := (0 : Int64)) at_156 rfl rfl ?_
        refine Go.lstore (pc' := 159) (Ls' := #[.val (.long p0), .second, .val (.int p1), .val (.long p2), .second, .val (.int p3), .val (.long f), .second, .val (.int (1 : Int32)), .val (.ref b35), .val (.long f), .second, .val (.long d48), .second, .val (.long (0 : Int64)), .second, .unset, .unset, .unset, .unset, .unset, .unset, .unset]) at_157 rfl rfl ?_
        refine Go.goto (pc' := 189) at_159 (by decide) (by decide) ?_
        refine Go.lload (pc' := 191) at_189 rfl rfl ?_
        refine Go.lload (pc' := 193) at_191 rfl rfl ?_
        refine Go.ladd (pc' := 194) at_193 rfl ?_
        refine Go.lstore (pc' := 196) (Ls' := #[.val (.long p0), .second, .val (.int p1), .val (.long p2), .second, .val (.int p3), .val (.long f), .second, .val (.int (1 : Int32)), .val (.ref b35), .val (.long f), .second, .val (.long d48), .second, .val (.long (0 : Int64)), .second, .val (.long (f + (0 : Int64))), .second, .unset, .unset, .unset, .unset, .unset]) at_194 rfl rfl ?_
        refine Go.iload (pc' := 198) at_196 rfl rfl ?_
        refine Go.i2l (pc' := 199) at_198 rfl ?_
        show Go _ _ _ _ _ _ _ _ _ _ _ _ 199 #[.val (.long p0), .second, .val (.int p1), .val (.long p2), .second, .val (.int p3), .val (.long f), .second, .val (.int (1 : Int32)), .val (.ref b35), .val (.long f), .second, .val (.long d48), .second, .val (.long (0 : Int64)), .second, .val (.long (f + (0 : Int64))), .second, .unset, .unset, .unset, .unset, .unset] [(.long (1 : Int64))]
        refine Go.lload (pc' := 201) at_199 rfl rfl ?_
        refine Go.lsub (pc' := 202) at_201 rfl ?_
        show Go _ _ _ _ _ _ _ _ _ _ _ _ 202 #[.val (.long p0), .second, .val (.int p1), .val (.long p2), .second, .val (.int p3), .val (.long f), .second, .val (.int (1 : Int32)), .val (.ref b35), .val (.long f), .second, .val (.long d48), .second, .val (.long (0 : Int64)), .second, .val (.long (f + (0 : Int64))), .second, .unset, .unset, .unset, .unset, .unset] [(.long (1 : Int64))]
        refine Go.lstore (pc' := 204) (Ls' := #[.val (.long p0), .second, .val (.int p1), .val (.long p2), .second, .val (.int p3), .val (.long f), .second, .val (.int (1 : Int32)), .val (.ref b35), .val (.long f), .second, .val (.long d48), .second, .val (.long (0 : Int64)), .second, .val (.long (f + (0 : Int64))), .second, .val (.long (1 : Int64)), .second, .unset, .unset, .unset]) at_202 rfl rfl ?_
        refine Go.aload (pc' := 206) at_204 rfl rfl rfl ?_
        refine Go.callV (cells' := 3) (slots' := 13) (pc' := 209) [] [] (((A35.keep K38).keep K46).keep K51) (ww hw 67 rfl) (ww hw 68 rfl) (fun s' hs' => notFace_of_selects (args := #[]) (mvT hs' (ww hw 70 rfl))) (ww hw 70 rfl) (ww hw 69 rfl) (ww hw 3 rfl) (ww hw 71 rfl) (by decide) (c_first l Z a0 hw h51 b35 f F51_4) pd_4 rfl rfl rfl rfl rfl (nl rfl) (nl rfl) (nl rfl) (nl rfl) at_206 rfl ?_
        rintro _ _ ⟨rfl, rfl⟩
        show Go _ _ _ _ _ _ _ _ _ _ _ _ 209 #[.val (.long p0), .second, .val (.int p1), .val (.long p2), .second, .val (.int p3), .val (.long f), .second, .val (.int (1 : Int32)), .val (.ref b35), .val (.long f), .second, .val (.long d48), .second, .val (.long (0 : Int64)), .second, .val (.long (f + (0 : Int64))), .second, .val (.long (1 : Int64)), .second, .unset, .unset, .unset] [(.long f)]
        refine Go.lload (pc' := 211) at_209 rfl rfl ?_
        refine Go.lcmp (pc' := 212) at_211 rfl ?_
        refine Go.ifNo (pc' := 215) at_212 (XT.ll_ne_f (by exact (own_ax0 f) : f = (f + (0 : Int64)))) rfl ?_
        refine Go.aload (pc' := 217) at_215 rfl rfl rfl ?_
        refine Go.callV (cells' := 3) (slots' := 13) (pc' := 220) [] [] (((A35.keep K38).keep K46).keep K51) (ww hw 72 rfl) (ww hw 73 rfl) (fun s' hs' => notFace_of_selects (args := #[]) (mvT hs' (ww hw 75 rfl))) (ww hw 75 rfl) (ww hw 74 rfl) (ww hw 3 rfl) (ww hw 76 rfl) (by decide) (c_size l Z a0 hw h51 b35 (1 : Int32) F51_3) pd_5 rfl rfl rfl rfl rfl (nl rfl) (nl rfl) (nl rfl) (nl rfl) at_217 rfl ?_
        rintro _ _ ⟨rfl, rfl⟩
        show Go _ _ _ _ _ _ _ _ _ _ _ _ 220 #[.val (.long p0), .second, .val (.int p1), .val (.long p2), .second, .val (.int p3), .val (.long f), .second, .val (.int (1 : Int32)), .val (.ref b35), .val (.long f), .second, .val (.long d48), .second, .val (.long (0 : Int64)), .second, .val (.long (f + (0 : Int64))), .second, .val (.long (1 : Int64)), .second, .unset, .unset, .unset] [(.int (1 : Int32))]
        refine Go.i2l (pc' := 221) at_220 rfl ?_
        show Go _ _ _ _ _ _ _ _ _ _ _ _ 221 #[.val (.long p0), .second, .val (.int p1), .val (.long p2), .second, .val (.int p3), .val (.long f), .second, .val (.int (1 : Int32)), .val (.ref b35), .val (.long f), .second, .val (.long d48), .second, .val (.long (0 : Int64)), .second, .val (.long (f + (0 : Int64))), .second, .val (.long (1 : Int64)), .second, .unset, .unset, .unset] [(.long (1 : Int64))]
        refine Go.lload (pc' := 223) at_221 rfl rfl ?_
        refine Go.lcmp (pc' := 224) at_223 rfl ?_
        refine Go.ifNo (pc' := 227) at_224 (XT.ll_ne_f (by decide)) rfl ?_
        refine Go.aload (pc' := 229) at_227 rfl rfl rfl ?_
        refine Go.callV (cells' := 3) (slots' := 13) (pc' := 232) [] [] (((A35.keep K38).keep K46).keep K51) (ww hw 77 rfl) (ww hw 78 rfl) (fun s' hs' => notFace_of_selects (args := #[]) (mvT hs' (ww hw 80 rfl))) (ww hw 80 rfl) (ww hw 79 rfl) (ww hw 3 rfl) (ww hw 81 rfl) (by decide) (c_end1 l Z a0 hw h51 b35 f F51_4 F51_3) pd_4 rfl rfl rfl rfl rfl (nl rfl) (nl rfl) (nl rfl) (nl rfl) at_229 rfl ?_
        rintro _ _ ⟨rfl, rfl⟩
        show Go _ _ _ _ _ _ _ _ _ _ _ _ 232 #[.val (.long p0), .second, .val (.int p1), .val (.long p2), .second, .val (.int p3), .val (.long f), .second, .val (.int (1 : Int32)), .val (.ref b35), .val (.long f), .second, .val (.long d48), .second, .val (.long (0 : Int64)), .second, .val (.long (f + (0 : Int64))), .second, .val (.long (1 : Int64)), .second, .unset, .unset, .unset] [(.long (f + (1 : Int64)))]
        refine Go.lload (pc' := 234) at_232 rfl rfl ?_
        refine Go.iload (pc' := 236) at_234 rfl rfl ?_
        refine Go.i2l (pc' := 237) at_236 rfl ?_
        show Go _ _ _ _ _ _ _ _ _ _ _ _ 237 #[.val (.long p0), .second, .val (.int p1), .val (.long p2), .second, .val (.int p3), .val (.long f), .second, .val (.int (1 : Int32)), .val (.ref b35), .val (.long f), .second, .val (.long d48), .second, .val (.long (0 : Int64)), .second, .val (.long (f + (0 : Int64))), .second, .val (.long (1 : Int64)), .second, .unset, .unset, .unset] [(.long (1 : Int64)), (.long f), (.long (f + (1 : Int64)))]
        refine Go.ladd (pc' := 238) at_237 rfl ?_
        refine Go.lcmp (pc' := 239) at_238 rfl ?_
        refine Go.ifYes (pc' := 244) at_239 (XT.ll_eq_t rfl) (by decide) (by decide) ?_
        refine Go.aload (pc' := 246) at_244 rfl rfl rfl ?_
        refine Go.lload (pc' := 248) at_246 rfl rfl ?_
        have f56 : Arv Z h51 sa_38 ks_38 .long (4 : Int32) [(.long 0), (.long 0), (.long 0), (.long 0)] (.long 0) := (F46_5.keep K51 (ninS (Ne.symm ne44) nin0))
        have f57 : Arv Z h51 na_38 kn_38 .int (4 : Int32) [(.int 0), (.int 0), (.int 0), (.int 0)] (.int 0) := (F46_6.keep K51 (ninS (Ne.symm ne45) nin0))
        refine Go.callV (cells' := 3) (slots' := 13) (pc' := 251) [(.long (f + (0 : Int64)))] [] (((A35.keep K38).keep K46).keep K51) (ww hw 82 rfl) (ww hw 83 rfl) (fun s' hs' => notFace_of_selects (args := #[]) (mvT hs' (ww hw 85 rfl))) (ww hw 85 rfl) (ww hw 84 rfl) (ww hw 3 rfl) (ww hw 86 rfl) (by decide) (c_get1_0_0 l Z a0 hw h51 b35 sa_38 ks_38 na_38 kn_38 ((f + (0 : Int64))) f wp (own_ax8 f) sp xp fp gp ((((A35.keep K38).keep K46).keep K51)) F51_0 F51_1 F51_2 F51_3 F51_4 f56 f57) pd_9 rfl rfl rfl rfl rfl (nl rfl) (nl rfl) (nl rfl) (nl rfl) at_248 rfl ?_
        rintro _ _ ⟨rfl, rfl⟩
        show Go _ _ _ _ _ _ _ _ _ _ _ _ 251 #[.val (.long p0), .second, .val (.int p1), .val (.long p2), .second, .val (.int p3), .val (.long f), .second, .val (.int (1 : Int32)), .val (.ref b35), .val (.long f), .second, .val (.long d48), .second, .val (.long (0 : Int64)), .second, .val (.long (f + (0 : Int64))), .second, .val (.long (1 : Int64)), .second, .unset, .unset, .unset] [(.ref wp)]
        refine Go.astore (pc' := 253) (Ls' := #[.val (.long p0), .second, .val (.int p1), .val (.long p2), .second, .val (.int p3), .val (.long f), .second, .val (.int (1 : Int32)), .val (.ref b35), .val (.long f), .second, .val (.long d48), .second, .val (.long (0 : Int64)), .second, .val (.long (f + (0 : Int64))), .second, .val (.long (1 : Int64)), .second, .val (.ref wp), .unset, .unset]) at_251 rfl rfl rfl ?_
        refine Go.aload (pc' := 255) at_253 rfl rfl rfl ?_
        refine Go.lload (pc' := 257) at_255 rfl rfl ?_
        refine Go.lconst (pc' := 258) (v := (1 : Int64)) at_257 rfl rfl ?_
        refine Go.lsub (pc' := 259) at_258 rfl ?_
        refine Go.callV (cells' := 3) (slots' := 13) (pc' := 262) [(.long ((f + (0 : Int64)) - (1 : Int64)))] [] (((A35.keep K38).keep K46).keep K51) (ww hw 82 rfl) (ww hw 83 rfl) (fun s' hs' => notFace_of_selects (args := #[]) (mvT hs' (ww hw 85 rfl))) (ww hw 85 rfl) (ww hw 84 rfl) (ww hw 3 rfl) (ww hw 86 rfl) (by decide) (c_get1_0_m1 l Z a0 hw h51 b35 sa_38 ks_38 na_38 kn_38 (((f + (0 : Int64)) - (1 : Int64))) f wp (own_ax9 f) sp xp fp gp ((((A35.keep K38).keep K46).keep K51)) F51_0 F51_1 F51_2 F51_3 F51_4 f56 f57) pd_9 rfl rfl rfl rfl rfl (nl rfl) (nl rfl) (nl rfl) (nl rfl) at_259 rfl ?_
        rintro _ _ ⟨rfl, rfl⟩
        show Go _ _ _ _ _ _ _ _ _ _ _ _ 262 #[.val (.long p0), .second, .val (.int p1), .val (.long p2), .second, .val (.int p3), .val (.long f), .second, .val (.int (1 : Int32)), .val (.ref b35), .val (.long f), .second, .val (.long d48), .second, .val (.long (0 : Int64)), .second, .val (.long (f + (0 : Int64))), .second, .val (.long (1 : Int64)), .second, .val (.ref wp), .unset, .unset] [.null]
        refine Go.astore (pc' := 264) (Ls' := #[.val (.long p0), .second, .val (.int p1), .val (.long p2), .second, .val (.int p3), .val (.long f), .second, .val (.int (1 : Int32)), .val (.ref b35), .val (.long f), .second, .val (.long d48), .second, .val (.long (0 : Int64)), .second, .val (.long (f + (0 : Int64))), .second, .val (.long (1 : Int64)), .second, .val (.ref wp), .val .null, .unset]) at_262 rfl rfl rfl ?_
        refine Go.aload (pc' := 266) at_264 rfl rfl rfl ?_
        refine Go.nullYes (pc' := 271) at_266 rfl (by decide) (by decide) ?_
        refine Go.lload (pc' := 273) at_271 rfl rfl ?_
        refine Go.lconst (pc' := 274) (v := (0 : Int64)) at_273 rfl rfl ?_
        refine Go.lcmp (pc' := 275) at_274 rfl ?_
        refine Go.ifYes (pc' := 289) at_275 (XT.ll_ne_t (by decide)) (by decide) (by decide) ?_
        refine Go.aload (pc' := 291) at_289 rfl rfl rfl ?_
        refine Go.nullNo (pc' := 294) at_291 rfl nofun rfl ?_
        refine Go.aload (pc' := 296) at_294 rfl rfl rfl ?_
        refine Go.old (fun old60 => ?_)
        refine Go.callV (cells' := 3) (slots' := 13) (pc' := 299) [] [] (xp.ext old60.2) (ww hw 101 rfl) (ww hw 40 rfl) (fun s' hs' => notFace_of_selects (args := #[]) (mvT hs' (ww hw 42 rfl))) (ww hw 42 rfl) (ww hw 41 rfl) (ww hw 18 rfl) (ww hw 43 rfl) (by decide) (c_getSec l Z a0 hw h51 wp (0 : Int64) (fp.ext old60.2)) pd_4 rfl rfl rfl rfl rfl (nl rfl) (nl rfl) (nl rfl) (nl rfl) at_296 rfl ?_
        rintro _ _ ⟨rfl, rfl⟩
        show Go _ _ _ _ _ _ _ _ _ _ _ _ 299 #[.val (.long p0), .second, .val (.int p1), .val (.long p2), .second, .val (.int p3), .val (.long f), .second, .val (.int (1 : Int32)), .val (.ref b35), .val (.long f), .second, .val (.long d48), .second, .val (.long (0 : Int64)), .second, .val (.long (f + (0 : Int64))), .second, .val (.long (1 : Int64)), .second, .val (.ref wp), .val .null, .unset] [(.long (0 : Int64))]
        refine Go.lload (pc' := 301) at_299 rfl rfl ?_
        refine Go.lcmp (pc' := 302) at_301 rfl ?_
        refine Go.ifYes (pc' := 307) at_302 (XT.ll_eq_t (by decide)) (by decide) (by decide) ?_
        refine Go.aload (pc' := 309) at_307 rfl rfl rfl ?_
        refine Go.lload (pc' := 311) at_309 rfl rfl ?_
        refine Go.iload (pc' := 313) at_311 rfl rfl ?_
        refine Go.i2l (pc' := 314) at_313 rfl ?_
        show Go _ _ _ _ _ _ _ _ _ _ _ _ 314 #[.val (.long p0), .second, .val (.int p1), .val (.long p2), .second, .val (.int p3), .val (.long f), .second, .val (.int (1 : Int32)), .val (.ref b35), .val (.long f), .second, .val (.long d48), .second, .val (.long (0 : Int64)), .second, .val (.long (f + (0 : Int64))), .second, .val (.long (1 : Int64)), .second, .val (.ref wp), .val .null, .unset] [(.long (1 : Int64)), (.long f), (.ref b35)]
        refine Go.ladd (pc' := 315) at_314 rfl ?_
        refine Go.lconst (pc' := 316) (v := (1 : Int64)) at_315 rfl rfl ?_
        refine Go.lsub (pc' := 317) at_316 rfl ?_
        refine Go.callV (cells' := 3) (slots' := 13) (pc' := 320) [(.long ((f + (1 : Int64)) - (1 : Int64)))] [] (((A35.keep K38).keep K46).keep K51) (ww hw 82 rfl) (ww hw 83 rfl) (fun s' hs' => notFace_of_selects (args := #[]) (mvT hs' (ww hw 85 rfl))) (ww hw 85 rfl) (ww hw 84 rfl) (ww hw 3 rfl) (ww hw 86 rfl) (by decide) (c_get1_0_0 l Z a0 hw h51 b35 sa_38 ks_38 na_38 kn_38 (((f + (1 : Int64)) - (1 : Int64))) f wp (own_ax10 f) sp xp fp gp ((((A35.keep K38).keep K46).keep K51)) F51_0 F51_1 F51_2 F51_3 F51_4 f56 f57) pd_9 rfl rfl rfl rfl rfl (nl rfl) (nl rfl) (nl rfl) (nl rfl) at_317 rfl ?_
        rintro _ _ ⟨rfl, rfl⟩
        show Go _ _ _ _ _ _ _ _ _ _ _ _ 320 #[.val (.long p0), .second, .val (.int p1), .val (.long p2), .second, .val (.int p3), .val (.long f), .second, .val (.int (1 : Int32)), .val (.ref b35), .val (.long f), .second, .val (.long d48), .second, .val (.long (0 : Int64)), .second, .val (.long (f + (0 : Int64))), .second, .val (.long (1 : Int64)), .second, .val (.ref wp), .val .null, .unset] [(.ref wp)]
        refine Go.astore (pc' := 322) (Ls' := #[.val (.long p0), .second, .val (.int p1), .val (.long p2), .second, .val (.int p3), .val (.long f), .second, .val (.int (1 : Int32)), .val (.ref b35), .val (.long f), .second, .val (.long d48), .second, .val (.long (0 : Int64)), .second, .val (.long (f + (0 : Int64))), .second, .val (.long (1 : Int64)), .second, .val (.ref wp), .val .null, .val (.ref wp)]) at_320 rfl rfl rfl ?_
        refine Go.aload (pc' := 324) at_322 rfl rfl rfl ?_
        refine Go.nullNo (pc' := 327) at_324 rfl nofun rfl ?_
        refine Go.aload (pc' := 329) at_327 rfl rfl rfl ?_
        refine Go.callV (cells' := 3) (slots' := 13) (pc' := 332) [] [] (xp.ext old60.2) (ww hw 101 rfl) (ww hw 40 rfl) (fun s' hs' => notFace_of_selects (args := #[]) (mvT hs' (ww hw 42 rfl))) (ww hw 42 rfl) (ww hw 41 rfl) (ww hw 18 rfl) (ww hw 43 rfl) (by decide) (c_getSec l Z a0 hw h51 wp (0 : Int64) (fp.ext old60.2)) pd_4 rfl rfl rfl rfl rfl (nl rfl) (nl rfl) (nl rfl) (nl rfl) at_329 rfl ?_
        rintro _ _ ⟨rfl, rfl⟩
        show Go _ _ _ _ _ _ _ _ _ _ _ _ 332 #[.val (.long p0), .second, .val (.int p1), .val (.long p2), .second, .val (.int p3), .val (.long f), .second, .val (.int (1 : Int32)), .val (.ref b35), .val (.long f), .second, .val (.long d48), .second, .val (.long (0 : Int64)), .second, .val (.long (f + (0 : Int64))), .second, .val (.long (1 : Int64)), .second, .val (.ref wp), .val .null, .val (.ref wp)] [(.long (0 : Int64))]
        refine Go.iload (pc' := 334) at_332 rfl rfl ?_
        refine Go.iconst (pc' := 335) (v := (1 : Int32)) at_334 rfl rfl ?_
        refine Go.isub (pc' := 336) at_335 rfl ?_
        show Go _ _ _ _ _ _ _ _ _ _ _ _ 336 #[.val (.long p0), .second, .val (.int p1), .val (.long p2), .second, .val (.int p3), .val (.long f), .second, .val (.int (1 : Int32)), .val (.ref b35), .val (.long f), .second, .val (.long d48), .second, .val (.long (0 : Int64)), .second, .val (.long (f + (0 : Int64))), .second, .val (.long (1 : Int64)), .second, .val (.ref wp), .val .null, .val (.ref wp)] [(.int (0 : Int32)), (.long (0 : Int64))]
        refine Go.i2l (pc' := 337) at_336 rfl ?_
        show Go _ _ _ _ _ _ _ _ _ _ _ _ 337 #[.val (.long p0), .second, .val (.int p1), .val (.long p2), .second, .val (.int p3), .val (.long f), .second, .val (.int (1 : Int32)), .val (.ref b35), .val (.long f), .second, .val (.long d48), .second, .val (.long (0 : Int64)), .second, .val (.long (f + (0 : Int64))), .second, .val (.long (1 : Int64)), .second, .val (.ref wp), .val .null, .val (.ref wp)] [(.long (0 : Int64)), (.long (0 : Int64))]
        refine Go.lcmp (pc' := 338) at_337 rfl ?_
        refine Go.ifNo (pc' := 341) at_338 (XT.ll_ne_f (by decide)) rfl ?_
        refine Go.iconst (pc' := 342) (v := (1 : Int32)) at_341 rfl rfl ?_
        refine Go.goto (pc' := 346) at_342 (by decide) (by decide) ?_
        exact Go.retN (t := .boolean) rfl (by simp) at_346 ⟨rfl, K52⟩ (by decide) (by decide)
      ·
        refine Go.aload (pc' := 143) at_141 rfl rfl rfl ?_
        refine Go.lload (pc' := 145) at_143 rfl rfl ?_
        refine Go.callV (cells' := 3) (slots' := 13) (pc' := 148) [(.long d48)] [] ((A35.keep K38).keep K46) (ww hw 62 rfl) (ww hw 63 rfl) (fun s' hs' => notFace_of_selects (args := #[]) (mvT hs' (ww hw 65 rfl))) (ww hw 65 rfl) (ww hw 64 rfl) (ww hw 3 rfl) (ww hw 66 rfl) (by decide) (c_drop1_1 l Z a0 hw h46 b35 sa_38 ks_38 na_38 f d48 q50_0 ge35 ne44 (((A35.keep K38).keep K46)) F46_0 F46_1 F46_2 F46_3 F46_4 F46_5) pd_8 rfl rfl rfl rfl rfl (nl rfl) (nl rfl) (nl rfl) (nl rfl) at_145 rfl ?_
        rintro _ h64 ⟨rfl, K64, F64_0, F64_1, F64_2, F64_3, F64_4⟩
        have K65 : Keep h h64 [] := K47.trans K64 (allS (Or.inr sz36) all0)
        show Go _ _ _ _ _ _ _ _ _ _ _ _ 148 #[.val (.long p0), .second, .val (.int p1), .val (.long p2), .second, .val (.int p3), .val (.long f), .second, .val (.int (1 : Int32)), .val (.ref b35), .val (.long f), .second, .val (.long d48), .second, .unset, .unset, .unset, .unset, .unset, .unset, .unset, .unset, .unset] []
        refine Go.lload (pc' := 150) at_148 rfl rfl ?_
        refine Go.lload (pc' := 152) at_150 rfl rfl ?_
        refine Go.lcmp (pc' := 153) at_152 rfl ?_
        refine Go.ifYes (pc' := 162) at_153 (XT.ll_gt_t q50_0) (by decide) (by decide) ?_
        refine Go.lload (pc' := 164) at_162 rfl rfl ?_
        refine Go.lload (pc' := 166) at_164 rfl rfl ?_
        refine Go.iload (pc' := 168) at_166 rfl rfl ?_
        refine Go.i2l (pc' := 169) at_168 rfl ?_
        show Go _ _ _ _ _ _ _ _ _ _ _ _ 169 #[.val (.long p0), .second, .val (.int p1), .val (.long p2), .second, .val (.int p3), .val (.long f), .second, .val (.int (1 : Int32)), .val (.ref b35), .val (.long f), .second, .val (.long d48), .second, .unset, .unset, .unset, .unset, .unset, .unset, .unset, .unset, .unset] [(.long (1 : Int64)), (.long f), (.long d48)]
        refine Go.ladd (pc' := 170) at_169 rfl ?_
        refine Go.lcmp (pc' := 171) at_170 rfl ?_
        refine Go.ifNo (pc' := 174) at_171 (XT.ll_lt_f q50_1) rfl ?_
        refine Go.iload (pc' := 176) at_174 rfl rfl ?_
        refine Go.i2l (pc' := 177) at_176 rfl ?_
        show Go _ _ _ _ _ _ _ _ _ _ _ _ 177 #[.val (.long p0), .second, .val (.int p1), .val (.long p2), .second, .val (.int p3), .val (.long f), .second, .val (.int (1 : Int32)), .val (.ref b35), .val (.long f), .second, .val (.long d48), .second, .unset, .unset, .unset, .unset, .unset, .unset, .unset, .unset, .unset] [(.long (1 : Int64))]
        refine Go.lstore (pc' := 179) (Ls' := #[.val (.long p0), .second, .val (.int p1), .val (.long p2), .second, .val (.int p3), .val (.long f), .second, .val (.int (1 : Int32)), .val (.ref b35), .val (.long f), .second, .val (.long d48), .second, .val (.long (1 : Int64)), .second, .unset, .unset, .unset, .unset, .unset, .unset, .unset]) at_177 rfl rfl ?_
        refine Go.goto (pc' := 189) at_179 (by decide) (by decide) ?_
        refine Go.lload (pc' := 191) at_189 rfl rfl ?_
        refine Go.lload (pc' := 193) at_191 rfl rfl ?_
        refine Go.ladd (pc' := 194) at_193 rfl ?_
        refine Go.lstore (pc' := 196) (Ls' := #[.val (.long p0), .second, .val (.int p1), .val (.long p2), .second, .val (.int p3), .val (.long f), .second, .val (.int (1 : Int32)), .val (.ref b35), .val (.long f), .second, .val (.long d48), .second, .val (.long (1 : Int64)), .second, .val (.long (f + (1 : Int64))), .second, .unset, .unset, .unset, .unset, .unset]) at_194 rfl rfl ?_
        refine Go.iload (pc' := 198) at_196 rfl rfl ?_
        refine Go.i2l (pc' := 199) at_198 rfl ?_
        show Go _ _ _ _ _ _ _ _ _ _ _ _ 199 #[.val (.long p0), .second, .val (.int p1), .val (.long p2), .second, .val (.int p3), .val (.long f), .second, .val (.int (1 : Int32)), .val (.ref b35), .val (.long f), .second, .val (.long d48), .second, .val (.long (1 : Int64)), .second, .val (.long (f + (1 : Int64))), .second, .unset, .unset, .unset, .unset, .unset] [(.long (1 : Int64))]
        refine Go.lload (pc' := 201) at_199 rfl rfl ?_
        refine Go.lsub (pc' := 202) at_201 rfl ?_
        show Go _ _ _ _ _ _ _ _ _ _ _ _ 202 #[.val (.long p0), .second, .val (.int p1), .val (.long p2), .second, .val (.int p3), .val (.long f), .second, .val (.int (1 : Int32)), .val (.ref b35), .val (.long f), .second, .val (.long d48), .second, .val (.long (1 : Int64)), .second, .val (.long (f + (1 : Int64))), .second, .unset, .unset, .unset, .unset, .unset] [(.long (0 : Int64))]
        refine Go.lstore (pc' := 204) (Ls' := #[.val (.long p0), .second, .val (.int p1), .val (.long p2), .second, .val (.int p3), .val (.long f), .second, .val (.int (1 : Int32)), .val (.ref b35), .val (.long f), .second, .val (.long d48), .second, .val (.long (1 : Int64)), .second, .val (.long (f + (1 : Int64))), .second, .val (.long (0 : Int64)), .second, .unset, .unset, .unset]) at_202 rfl rfl ?_
        refine Go.aload (pc' := 206) at_204 rfl rfl rfl ?_
        refine Go.callV (cells' := 3) (slots' := 13) (pc' := 209) [] [] (((A35.keep K38).keep K46).keep K64) (ww hw 67 rfl) (ww hw 68 rfl) (fun s' hs' => notFace_of_selects (args := #[]) (mvT hs' (ww hw 70 rfl))) (ww hw 70 rfl) (ww hw 69 rfl) (ww hw 3 rfl) (ww hw 71 rfl) (by decide) (c_first l Z a0 hw h64 b35 ((f + (1 : Int64))) F64_4) pd_4 rfl rfl rfl rfl rfl (nl rfl) (nl rfl) (nl rfl) (nl rfl) at_206 rfl ?_
        rintro _ _ ⟨rfl, rfl⟩
        show Go _ _ _ _ _ _ _ _ _ _ _ _ 209 #[.val (.long p0), .second, .val (.int p1), .val (.long p2), .second, .val (.int p3), .val (.long f), .second, .val (.int (1 : Int32)), .val (.ref b35), .val (.long f), .second, .val (.long d48), .second, .val (.long (1 : Int64)), .second, .val (.long (f + (1 : Int64))), .second, .val (.long (0 : Int64)), .second, .unset, .unset, .unset] [(.long (f + (1 : Int64)))]
        refine Go.lload (pc' := 211) at_209 rfl rfl ?_
        refine Go.lcmp (pc' := 212) at_211 rfl ?_
        refine Go.ifNo (pc' := 215) at_212 (XT.ll_ne_f rfl) rfl ?_
        refine Go.aload (pc' := 217) at_215 rfl rfl rfl ?_
        refine Go.callV (cells' := 3) (slots' := 13) (pc' := 220) [] [] (((A35.keep K38).keep K46).keep K64) (ww hw 72 rfl) (ww hw 73 rfl) (fun s' hs' => notFace_of_selects (args := #[]) (mvT hs' (ww hw 75 rfl))) (ww hw 75 rfl) (ww hw 74 rfl) (ww hw 3 rfl) (ww hw 76 rfl) (by decide) (c_size l Z a0 hw h64 b35 (0 : Int32) F64_3) pd_5 rfl rfl rfl rfl rfl (nl rfl) (nl rfl) (nl rfl) (nl rfl) at_217 rfl ?_
        rintro _ _ ⟨rfl, rfl⟩
        show Go _ _ _ _ _ _ _ _ _ _ _ _ 220 #[.val (.long p0), .second, .val (.int p1), .val (.long p2), .second, .val (.int p3), .val (.long f), .second, .val (.int (1 : Int32)), .val (.ref b35), .val (.long f), .second, .val (.long d48), .second, .val (.long (1 : Int64)), .second, .val (.long (f + (1 : Int64))), .second, .val (.long (0 : Int64)), .second, .unset, .unset, .unset] [(.int (0 : Int32))]
        refine Go.i2l (pc' := 221) at_220 rfl ?_
        show Go _ _ _ _ _ _ _ _ _ _ _ _ 221 #[.val (.long p0), .second, .val (.int p1), .val (.long p2), .second, .val (.int p3), .val (.long f), .second, .val (.int (1 : Int32)), .val (.ref b35), .val (.long f), .second, .val (.long d48), .second, .val (.long (1 : Int64)), .second, .val (.long (f + (1 : Int64))), .second, .val (.long (0 : Int64)), .second, .unset, .unset, .unset] [(.long (0 : Int64))]
        refine Go.lload (pc' := 223) at_221 rfl rfl ?_
        refine Go.lcmp (pc' := 224) at_223 rfl ?_
        refine Go.ifNo (pc' := 227) at_224 (XT.ll_ne_f (by decide)) rfl ?_
        refine Go.aload (pc' := 229) at_227 rfl rfl rfl ?_
        refine Go.callV (cells' := 3) (slots' := 13) (pc' := 232) [] [] (((A35.keep K38).keep K46).keep K64) (ww hw 77 rfl) (ww hw 78 rfl) (fun s' hs' => notFace_of_selects (args := #[]) (mvT hs' (ww hw 80 rfl))) (ww hw 80 rfl) (ww hw 79 rfl) (ww hw 3 rfl) (ww hw 81 rfl) (by decide) (c_end0 l Z a0 hw h64 b35 ((f + (1 : Int64))) F64_4 F64_3) pd_4 rfl rfl rfl rfl rfl (nl rfl) (nl rfl) (nl rfl) (nl rfl) at_229 rfl ?_
        rintro _ _ ⟨rfl, rfl⟩
        show Go _ _ _ _ _ _ _ _ _ _ _ _ 232 #[.val (.long p0), .second, .val (.int p1), .val (.long p2), .second, .val (.int p3), .val (.long f), .second, .val (.int (1 : Int32)), .val (.ref b35), .val (.long f), .second, .val (.long d48), .second, .val (.long (1 : Int64)), .second, .val (.long (f + (1 : Int64))), .second, .val (.long (0 : Int64)), .second, .unset, .unset, .unset] [(.long ((f + (1 : Int64)) + (0 : Int64)))]
        refine Go.lload (pc' := 234) at_232 rfl rfl ?_
        refine Go.iload (pc' := 236) at_234 rfl rfl ?_
        refine Go.i2l (pc' := 237) at_236 rfl ?_
        show Go _ _ _ _ _ _ _ _ _ _ _ _ 237 #[.val (.long p0), .second, .val (.int p1), .val (.long p2), .second, .val (.int p3), .val (.long f), .second, .val (.int (1 : Int32)), .val (.ref b35), .val (.long f), .second, .val (.long d48), .second, .val (.long (1 : Int64)), .second, .val (.long (f + (1 : Int64))), .second, .val (.long (0 : Int64)), .second, .unset, .unset, .unset] [(.long (1 : Int64)), (.long f), (.long ((f + (1 : Int64)) + (0 : Int64)))]
        refine Go.ladd (pc' := 238) at_237 rfl ?_
        refine Go.lcmp (pc' := 239) at_238 rfl ?_
        refine Go.ifYes (pc' := 244) at_239 (XT.ll_eq_t (by exact (own_ax11 f) : ((f + (1 : Int64)) + (0 : Int64)) = (f + (1 : Int64)))) (by decide) (by decide) ?_
        refine Go.aload (pc' := 246) at_244 rfl rfl rfl ?_
        refine Go.lload (pc' := 248) at_246 rfl rfl ?_
        have f69 : Arv Z h64 sa_38 ks_38 .long (4 : Int32) [(.long 0), (.long 0), (.long 0), (.long 0)] (.long 0) := (F46_5.keep K64 (ninS (Ne.symm ne44) nin0))
        have f70 : Arv Z h64 na_38 kn_38 .int (4 : Int32) [(.int 0), (.int 0), (.int 0), (.int 0)] (.int 0) := (F46_6.keep K64 (ninS (Ne.symm ne45) nin0))
        refine Go.callV (cells' := 3) (slots' := 13) (pc' := 251) [(.long (f + (1 : Int64)))] [] (((A35.keep K38).keep K46).keep K64) (ww hw 82 rfl) (ww hw 83 rfl) (fun s' hs' => notFace_of_selects (args := #[]) (mvT hs' (ww hw 85 rfl))) (ww hw 85 rfl) (ww hw 84 rfl) (ww hw 3 rfl) (ww hw 86 rfl) (by decide) (c_get1_1_0 l Z a0 hw h64 b35 sa_38 ks_38 na_38 kn_38 ((f + (1 : Int64))) ((f + (1 : Int64))) wp (own_ax12 f) sp xp fp gp ((((A35.keep K38).keep K46).keep K64)) F64_0 F64_1 F64_2 F64_3 F64_4 f69 f70) pd_9 rfl rfl rfl rfl rfl (nl rfl) (nl rfl) (nl rfl) (nl rfl) at_248 rfl ?_
        rintro _ _ ⟨rfl, rfl⟩
        show Go _ _ _ _ _ _ _ _ _ _ _ _ 251 #[.val (.long p0), .second, .val (.int p1), .val (.long p2), .second, .val (.int p3), .val (.long f), .second, .val (.int (1 : Int32)), .val (.ref b35), .val (.long f), .second, .val (.long d48), .second, .val (.long (1 : Int64)), .second, .val (.long (f + (1 : Int64))), .second, .val (.long (0 : Int64)), .second, .unset, .unset, .unset] [.null]
        refine Go.astore (pc' := 253) (Ls' := #[.val (.long p0), .second, .val (.int p1), .val (.long p2), .second, .val (.int p3), .val (.long f), .second, .val (.int (1 : Int32)), .val (.ref b35), .val (.long f), .second, .val (.long d48), .second, .val (.long (1 : Int64)), .second, .val (.long (f + (1 : Int64))), .second, .val (.long (0 : Int64)), .second, .val .null, .unset, .unset]) at_251 rfl rfl rfl ?_
        refine Go.aload (pc' := 255) at_253 rfl rfl rfl ?_
        refine Go.lload (pc' := 257) at_255 rfl rfl ?_
        refine Go.lconst (pc' := 258) (v := (1 : Int64)) at_257 rfl rfl ?_
        refine Go.lsub (pc' := 259) at_258 rfl ?_
        refine Go.callV (cells' := 3) (slots' := 13) (pc' := 262) [(.long ((f + (1 : Int64)) - (1 : Int64)))] [] (((A35.keep K38).keep K46).keep K64) (ww hw 82 rfl) (ww hw 83 rfl) (fun s' hs' => notFace_of_selects (args := #[]) (mvT hs' (ww hw 85 rfl))) (ww hw 85 rfl) (ww hw 84 rfl) (ww hw 3 rfl) (ww hw 86 rfl) (by decide) (c_get1_1_m1 l Z a0 hw h64 b35 sa_38 ks_38 na_38 kn_38 (((f + (1 : Int64)) - (1 : Int64))) ((f + (1 : Int64))) wp (own_ax13 f) sp xp fp gp ((((A35.keep K38).keep K46).keep K64)) F64_0 F64_1 F64_2 F64_3 F64_4 f69 f70) pd_9 rfl rfl rfl rfl rfl (nl rfl) (nl rfl) (nl rfl) (nl rfl) at_259 rfl ?_
        rintro _ _ ⟨rfl, rfl⟩
        show Go _ _ _ _ _ _ _ _ _ _ _ _ 262 #[.val (.long p0), .second, .val (.int p1), .val (.long p2), .second, .val (.int p3), .val (.long f), .second, .val (.int (1 : Int32)), .val (.ref b35), .val (.long f), .second, .val (.long d48), .second, .val (.long (1 : Int64)), .second, .val (.long (f + (1 : Int64))), .second, .val (.long (0 : Int64)), .second, .val .null, .unset, .unset] [.null]
        refine Go.astore (pc' := 264) (Ls' := #[.val (.long p0), .second, .val (.int p1), .val (.long p2), .second, .val (.int p3), .val (.long f), .second, .val (.int (1 : Int32)), .val (.ref b35), .val (.long f), .second, .val (.long d48), .second, .val (.long (1 : Int64)), .second, .val (.long (f + (1 : Int64))), .second, .val (.long (0 : Int64)), .second, .val .null, .val .null, .unset]) at_262 rfl rfl rfl ?_
        refine Go.aload (pc' := 266) at_264 rfl rfl rfl ?_
        refine Go.nullYes (pc' := 271) at_266 rfl (by decide) (by decide) ?_
        refine Go.lload (pc' := 273) at_271 rfl rfl ?_
        refine Go.lconst (pc' := 274) (v := (0 : Int64)) at_273 rfl rfl ?_
        refine Go.lcmp (pc' := 275) at_274 rfl ?_
        refine Go.ifNo (pc' := 278) at_275 (XT.ll_ne_f (by decide)) rfl ?_
        refine Go.aload (pc' := 280) at_278 rfl rfl rfl ?_
        refine Go.nonnullNo (pc' := 283) at_280 rfl rfl ?_
        refine Go.iconst (pc' := 284) (v := (1 : Int32)) at_283 rfl rfl ?_
        refine Go.goto (pc' := 288) at_284 (by decide) (by decide) ?_
        exact Go.retN (t := .boolean) rfl (by simp) at_288 ⟨rfl, K65⟩ (by decide) (by decide)
    by_cases hc73 : (p3 &&& (1 : Int32)) = (0 : Int32)
    ·
      refine Go.ifNo (pc' := 123) at_120 (XT.i0_ne_f hc73) rfl ?_
      refine Go.lloadN (pc' := 124) at_123 rfl rfl ?_
      refine Go.goto (pc' := 139) at_124 (by decide) (by decide) ?_
      exact key49 _
    ·
      refine Go.ifYes (pc' := 127) at_120 (XT.i0_ne_t hc73) (by decide) (by decide) ?_
      refine Go.lload (pc' := 129) at_127 rfl rfl ?_
      refine Go.lloadN (pc' := 130) at_129 rfl rfl ?_
      refine Go.ldc2J (pc' := 133) (ww hw 102 rfl) at_130 rfl ?_
      refine Go.land (pc' := 134) at_133 rfl ?_
      refine Go.ldc2J (pc' := 137) (ww hw 103 rfl) at_134 rfl ?_
      refine Go.lsub (pc' := 138) at_137 rfl ?_
      refine Go.ladd (pc' := 139) at_138 rfl ?_
      exact key49 _
  ·
    rw [hk1]
    refine Go.new (pc' := 16) (cells' := 1) (slots' := 5) (ww hw 1 rfl) (ww hw 2 rfl) (ww hw 3 rfl) at_13 rfl rfl (by decide) (by decide) rfl ?_
    intro h74 b74 g74 E74 ge74 A74 D74
    have sz75 : h.size ≤ b74 := Nat.le_trans (Keep.refl h []).1 (Nat.le_of_eq g74.symm)
    have K76 : Keep h h74 [] := (Keep.refl h []).ext E74
    refine Go.dup (pc' := 17) at_16 rfl rfl ?_
    refine Go.callC (cells' := 3) (slots' := 13) (pc' := 20) [] [(.ref b74)] (a := b74) rfl rfl (ww hw 4 rfl) (ww hw 5 rfl) (ww hw 3 rfl) (ww hw 6 rfl) (by decide) (c_ringInit l Z a0 hw h74 b74 ge74 A74 ((D74 (Or.inl (ww hw 12 rfl)) (ty := (.array .long)) (by decide) : Fld Z h74 b74 "com/example/rens/rens/TimeRing" "seconds" "[J" .null)) ((D74 (Or.inl (ww hw 15 rfl)) (ty := (.array .int)) (by decide) : Fld Z h74 b74 "com/example/rens/rens/TimeRing" "nanos" "[I" .null)) ((D74 (Or.inl (ww hw 38 rfl)) (ty := .int) (by decide) : Fld Z h74 b74 "com/example/rens/rens/TimeRing" "head" "I" (.int (0 : Int32)))) ((D74 (Or.inl (ww hw 30 rfl)) (ty := .int) (by decide) : Fld Z h74 b74 "com/example/rens/rens/TimeRing" "size" "I" (.int (0 : Int32)))) ((D74 (Or.inl (ww hw 32 rfl)) (ty := .long) (by decide) : Fld Z h74 b74 "com/example/rens/rens/TimeRing" "first" "J" (.long (0 : Int64))))) pd_7 rfl rfl rfl rfl rfl (nl rfl) (nl rfl) (nl rfl) (nl rfl) at_17 rfl ?_
    rintro _ h77 ⟨sa_77, ks_77, na_77, kn_77, rfl, K77, ge_sa_77, sz_sa_77, ge_na_77, sz_na_77, ne77_0, F77_0, F77_1, F77_2, F77_3, F77_4, F77_5, F77_6⟩
    have sz78 : h.size ≤ sa_77 := Nat.le_trans K76.1 sz_sa_77
    have sz79 : h.size ≤ na_77 := Nat.le_trans K76.1 sz_na_77
    have K80 : Keep h h77 [] := K76.trans K77 (allS (Or.inr sz75) all0)
    show Go _ _ _ _ _ _ _ _ _ _ _ _ 20 #[.val (.long p0), .second, .val (.int p1), .val (.long p2), .second, .val (.int p3), .val (.long f), .second, .val (.int (2 : Int32)), .unset, .unset, .unset, .unset, .unset, .unset, .unset, .unset, .unset, .unset, .unset, .unset, .unset, .unset] [(.ref b74)]
    refine Go.astore (pc' := 22) (Ls' := #[.val (.long p0), .second, .val (.int p1), .val (.long p2), .second, .val (.int p3), .val (.long f), .second, .val (.int (2 : Int32)), .val (.ref b74), .unset, .unset, .unset, .unset, .unset, .unset, .unset, .unset, .unset, .unset, .unset, .unset, .unset]) at_20 rfl rfl rfl ?_
    refine Go.iload (pc' := 24) at_22 rfl rfl ?_
    refine Go.ifNo (pc' := 27) at_24 (XT.i0_le_f (by decide)) rfl ?_
    refine Go.aload (pc' := 29) at_27 rfl rfl rfl ?_
    refine Go.lload (pc' := 31) at_29 rfl rfl ?_
    refine Go.lconst (pc' := 32) (v := (0 : Int64)) at_31 rfl rfl ?_
    refine Go.callS (cells' := 3) (slots' := 13) (pc' := 35) [(.long (0 : Int64))] [(.long f), (.ref b74)] (ww hw 16 rfl) (ww hw 17 rfl) (ww hw 18 rfl) (ww hw 19 rfl) (by decide) (c_ofSec0 l Z a0 hw h77 wp sp xp fp gp) pd_9 rfl rfl rfl rfl rfl (nl rfl) (nl rfl) (nl rfl) (nl rfl) at_32 rfl ?_
    rintro _ _ ⟨rfl, rfl⟩
    show Go _ _ _ _ _ _ _ _ _ _ _ _ 35 #[.val (.long p0), .second, .val (.int p1), .val (.long p2), .second, .val (.int p3), .val (.long f), .second, .val (.int (2 : Int32)), .val (.ref b74), .unset, .unset, .unset, .unset, .unset, .unset, .unset, .unset, .unset, .unset, .unset, .unset, .unset] [(.ref wp), (.long f), (.ref b74)]
    refine Go.old (fun old82 => ?_)
    have ne83 : b74 ≠ sa_77 := (Nat.ne_of_lt (Nat.lt_of_lt_of_le A74.lt sz_sa_77))
    have ne84 : b74 ≠ na_77 := (Nat.ne_of_lt (Nat.lt_of_lt_of_le A74.lt sz_na_77))
    refine Go.callV (cells' := 3) (slots' := 13) (pc' := 38) [(.long f), (.ref wp)] [] (A74.keep K77) (ww hw 24 rfl) (ww hw 25 rfl) (fun s' hs' => notFace_of_selects (args := #[]) (mvT hs' (ww hw 27 rfl))) (ww hw 27 rfl) (ww hw 26 rfl) (ww hw 3 rfl) (ww hw 28 rfl) (by decide) (c_set0 l Z a0 hw h77 b74 sa_77 ks_77 na_77 kn_77 f wp ge74 ge_sa_77 ge_na_77 ne83 ne84 ne77_0 (old82.ne xp.lt ge74) (old82.ne xp.lt ge_sa_77) (old82.ne xp.lt ge_na_77) (A74.keep K77) F77_0 F77_1 F77_2 F77_3 F77_4 F77_5 F77_6 (xp.ext old82.2) (fp.ext old82.2) (gp.ext old82.2)) pd_10 rfl rfl rfl rfl rfl (nl rfl) (nl rfl) (nl rfl) (nl rfl) at_35 rfl ?_
    rintro _ h85 ⟨rfl, K85, F85_0, F85_1, F85_2, F85_3, F85_4, F85_5, F85_6⟩
    have K86 : Keep h h85 [] := K80.trans K85 (allS (Or.inr sz75) (allS (Or.inr sz78) (allS (Or.inr sz79) all0)))
    show Go _ _ _ _ _ _ _ _ _ _ _ _ 38 #[.val (.long p0), .second, .val (.int p1), .val (.long p2), .second, .val (.int p3), .val (.long f), .second, .val (.int (2 : Int32)), .val (.ref b74), .unset, .unset, .unset, .unset, .unset, .unset, .unset, .unset, .unset, .unset, .unset, .unset, .unset] []
    refine Go.iload (pc' := 40) at_38 rfl rfl ?_
    refine Go.iconst (pc' := 41) (v := (1 : Int32)) at_40 rfl rfl ?_
    refine Go.icmpNo (pc' := 44) at_41 (XT.ii_le_f (by decide)) rfl ?_
    refine Go.aload (pc' := 46) at_44 rfl rfl rfl ?_
    refine Go.lload (pc' := 48) at_46 rfl rfl ?_
    refine Go.lconst (pc' := 49) (v := (1 : Int64)) at_48 rfl rfl ?_
    refine Go.ladd (pc' := 50) at_49 rfl ?_
    refine Go.lconst (pc' := 51) (v := (1 : Int64)) at_50 rfl rfl ?_
    refine Go.callS (cells' := 4) (slots' := 15) (pc' := 54) [(.long (1 : Int64))] [(.long (f + (1 : Int64))), (.ref b74)] (ww hw 16 rfl) (ww hw 17 rfl) (ww hw 18 rfl) (ww hw 19 rfl) (by decide) (c_ofSec1 l Z a0 hw h85) pd_9 rfl rfl rfl rfl rfl (nl rfl) (nl rfl) (nl rfl) (nl rfl) at_51 rfl ?_
    rintro _ h87 ⟨r_87, rfl, K87, ge_r_87, sz_r_87, F87_0, F87_1, F87_2⟩
    have sz88 : h.size ≤ r_87 := Nat.le_trans K86.1 sz_r_87
    have K89 : Keep h h87 [] := K86.trans K87 all0
    show Go _ _ _ _ _ _ _ _ _ _ _ _ 54 #[.val (.long p0), .second, .val (.int p1), .val (.long p2), .second, .val (.int p3), .val (.long f), .second, .val (.int (2 : Int32)), .val (.ref b74), .unset, .unset, .unset, .unset, .unset, .unset, .unset, .unset, .unset, .unset, .unset, .unset, .unset] [(.ref r_87), (.long (f + (1 : Int64))), (.ref b74)]
    have ne90 : b74 ≠ r_87 := (Nat.ne_of_lt (Nat.lt_of_lt_of_le F85_4.lt sz_r_87))
    have ne91 : sa_77 ≠ r_87 := (Nat.ne_of_lt (Nat.lt_of_lt_of_le F85_5.lt sz_r_87))
    have ne92 : na_77 ≠ r_87 := (Nat.ne_of_lt (Nat.lt_of_lt_of_le F85_6.lt sz_r_87))
    refine Go.callV (cells' := 4) (slots' := 15) (pc' := 57) [(.long (f + (1 : Int64))), (.ref r_87)] [] (((A74.keep K77).keep K85).keep K87) (ww hw 24 rfl) (ww hw 25 rfl) (fun s' hs' => notFace_of_selects (args := #[]) (mvT hs' (ww hw 27 rfl))) (ww hw 27 rfl) (ww hw 26 rfl) (ww hw 3 rfl) (ww hw 28 rfl) (by decide) (c_set1 l Z a0 hw h87 b74 sa_77 ks_77 na_77 kn_77 f r_87 ge74 ge_sa_77 ge_na_77 ne83 ne84 ne77_0 (Ne.symm ne90) (Ne.symm ne91) (Ne.symm ne92) ((((A74.keep K77).keep K85).keep K87)) (F85_0.keep K87 nin0) (F85_1.keep K87 nin0) (F85_2.keep K87 nin0) (F85_3.keep K87 nin0) (F85_4.keep K87 nin0) (F85_5.keep K87 nin0) (F85_6.keep K87 nin0) F87_0 F87_1 F87_2) pd_10 rfl rfl rfl rfl rfl (nl rfl) (nl rfl) (nl rfl) (nl rfl) at_54 rfl ?_
    rintro _ h93 ⟨rfl, K93, F93_0, F93_1, F93_2, F93_3, F93_4, F93_5, F93_6⟩
    have K94 : Keep h h93 [] := K89.trans K93 (allS (Or.inr sz75) (allS (Or.inr sz78) (allS (Or.inr sz79) all0)))
    show Go _ _ _ _ _ _ _ _ _ _ _ _ 57 #[.val (.long p0), .second, .val (.int p1), .val (.long p2), .second, .val (.int p3), .val (.long f), .second, .val (.int (2 : Int32)), .val (.ref b74), .unset, .unset, .unset, .unset, .unset, .unset, .unset, .unset, .unset, .unset, .unset, .unset, .unset] []
    refine Go.iload (pc' := 59) at_57 rfl rfl ?_
    refine Go.iconst (pc' := 60) (v := (2 : Int32)) at_59 rfl rfl ?_
    refine Go.icmpYes (pc' := 80) at_60 (XT.ii_le_t (by decide)) (by decide) (by decide) ?_
    refine Go.iload (pc' := 82) at_80 rfl rfl ?_
    refine Go.iconst (pc' := 83) (v := (3 : Int32)) at_82 rfl rfl ?_
    refine Go.icmpYes (pc' := 103) at_83 (XT.ii_le_t (by decide)) (by decide) (by decide) ?_
    refine Go.iload (pc' := 105) at_103 rfl rfl ?_
    refine Go.ifYes (pc' := 112) at_105 (XT.i0_ne_t (by decide)) (by decide) (by decide) ?_
    refine Go.lload (pc' := 114) at_112 rfl rfl ?_
    refine Go.lstore (pc' := 116) (Ls' := #[.val (.long p0), .second, .val (.int p1), .val (.long p2), .second, .val (.int p3), .val (.long f), .second, .val (.int (2 : Int32)), .val (.ref b74), .val (.long f), .second, .unset, .unset, .unset, .unset, .unset, .unset, .unset, .unset, .unset, .unset, .unset]) at_114 rfl rfl ?_
    refine Go.iload (pc' := 118) at_116 rfl rfl ?_
    refine Go.iconst (pc' := 119) (v := (1 : Int32)) at_118 rfl rfl ?_
    refine Go.iand (pc' := 120) at_119 rfl ?_
    have key96 : ∀ d95 : Int64, Go l room_1 Z n0 x code maxLocals ret (fun v h' => v = some (.int (1 : Int32)) ∧ Keep h h' []) 4 15 h93 139 #[.val (.long p0), .second, .val (.int p1), .val (.long p2), .second, .val (.int p3), .val (.long f), .second, .val (.int (2 : Int32)), .val (.ref b74), .val (.long f), .second, .unset, .unset, .unset, .unset, .unset, .unset, .unset, .unset, .unset, .unset, .unset] [(.long d95)] := by
      intro d95
      refine Go.lstore (pc' := 141) (Ls' := #[.val (.long p0), .second, .val (.int p1), .val (.long p2), .second, .val (.int p3), .val (.long f), .second, .val (.int (2 : Int32)), .val (.ref b74), .val (.long f), .second, .val (.long d95), .second, .unset, .unset, .unset, .unset, .unset, .unset, .unset, .unset, .unset]) at_139 rfl rfl ?_
      obtain q97 | ⟨q97_0, q97_1, q97_2, q97_3⟩ | ⟨q97_0, q97_1, q97_2⟩ := own_cut2 f d95 hb
      ·
        refine Go.aload (pc' := 143) at_141 rfl rfl rfl ?_
        refine Go.lload (pc' := 145) at_143 rfl rfl ?_
        have f98 : Exa Z h93 b74 "com/example/rens/rens/TimeRing" := ((((A74.keep K77).keep K85).keep K87).keep K93)
        refine Go.callV (cells' := 4) (slots' := 15) (pc' := 148) [(.long d95)] [] f98 (ww hw 62 rfl) (ww hw 63 rfl) (fun s' hs' => notFace_of_selects (args := #[]) (mvT hs' (ww hw 65 rfl))) (ww hw 65 rfl) (ww hw 64 rfl) (ww hw 3 rfl) (ww hw 66 rfl) (by decide) (c_drop2_0 l Z a0 hw h93 b74 sa_77 ks_77 na_77 f d95 q97 ge74 ne83 f98 F93_0 F93_1 F93_2 F93_3 F93_4 F93_5) pd_8 rfl rfl rfl rfl rfl (nl rfl) (nl rfl) (nl rfl) (nl rfl) at_145 rfl ?_
        rintro _ h99 ⟨rfl, K99, F99_0, F99_1, F99_2, F99_3, F99_4⟩
        have K100 : Keep h h99 [] := K94.trans K99 (allS (Or.inr sz75) all0)
        show Go _ _ _ _ _ _ _ _ _ _ _ _ 148 #[.val (.long p0), .second, .val (.int p1), .val (.long p2), .second, .val (.int p3), .val (.long f), .second, .val (.int (2 : Int32)), .val (.ref b74), .val (.long f), .second, .val (.long d95), .second, .unset, .unset, .unset, .unset, .unset, .unset, .unset, .unset, .unset] []
        refine Go.lload (pc' := 150) at_148 rfl rfl ?_
        refine Go.lload (pc' := 152) at_150 rfl rfl ?_
        refine Go.lcmp (pc' := 153) at_152 rfl ?_
        refine Go.ifNo (pc' := 156) at_153 (XT.ll_gt_f q97) rfl ?_
        refine Go.lconst (pc' := 157) (v := (0 : Int64)) at_156 rfl rfl ?_
        refine Go.lstore (pc' := 159) (Ls' := #[.val (.long p0), .second, .val (.int p1), .val (.long p2), .second, .val (.int p3), .val (.long f), .second, .val (.int (2 : Int32)), .val (.ref b74), .val (.long f), .second, .val (.long d95), .second, .val (.long (0 : Int64)), .second, .unset, .unset, .unset, .unset, .unset, .unset, .unset]) at_157 rfl rfl ?_
        refine Go.goto (pc' := 189) at_159 (by decide) (by decide) ?_
        refine Go.lload (pc' := 191) at_189 rfl rfl ?_
        refine Go.lload (pc' := 193) at_191 rfl rfl ?_
        refine Go.ladd (pc' := 194) at_193 rfl ?_
        refine Go.lstore (pc' := 196) (Ls' := #[.val (.long p0), .second, .val (.int p1), .val (.long p2), .second, .val (.int p3), .val (.long f), .second, .val (.int (2 : Int32)), .val (.ref b74), .val (.long f), .second, .val (.long d95), .second, .val (.long (0 : Int64)), .second, .val (.long (f + (0 : Int64))), .second, .unset, .unset, .unset, .unset, .unset]) at_194 rfl rfl ?_
        refine Go.iload (pc' := 198) at_196 rfl rfl ?_
        refine Go.i2l (pc' := 199) at_198 rfl ?_
        show Go _ _ _ _ _ _ _ _ _ _ _ _ 199 #[.val (.long p0), .second, .val (.int p1), .val (.long p2), .second, .val (.int p3), .val (.long f), .second, .val (.int (2 : Int32)), .val (.ref b74), .val (.long f), .second, .val (.long d95), .second, .val (.long (0 : Int64)), .second, .val (.long (f + (0 : Int64))), .second, .unset, .unset, .unset, .unset, .unset] [(.long (2 : Int64))]
        refine Go.lload (pc' := 201) at_199 rfl rfl ?_
        refine Go.lsub (pc' := 202) at_201 rfl ?_
        show Go _ _ _ _ _ _ _ _ _ _ _ _ 202 #[.val (.long p0), .second, .val (.int p1), .val (.long p2), .second, .val (.int p3), .val (.long f), .second, .val (.int (2 : Int32)), .val (.ref b74), .val (.long f), .second, .val (.long d95), .second, .val (.long (0 : Int64)), .second, .val (.long (f + (0 : Int64))), .second, .unset, .unset, .unset, .unset, .unset] [(.long (2 : Int64))]
        refine Go.lstore (pc' := 204) (Ls' := #[.val (.long p0), .second, .val (.int p1), .val (.long p2), .second, .val (.int p3), .val (.long f), .second, .val (.int (2 : Int32)), .val (.ref b74), .val (.long f), .second, .val (.long d95), .second, .val (.long (0 : Int64)), .second, .val (.long (f + (0 : Int64))), .second, .val (.long (2 : Int64)), .second, .unset, .unset, .unset]) at_202 rfl rfl ?_
        refine Go.aload (pc' := 206) at_204 rfl rfl rfl ?_
        refine Go.callV (cells' := 4) (slots' := 15) (pc' := 209) [] [] (f98.keep K99) (ww hw 67 rfl) (ww hw 68 rfl) (fun s' hs' => notFace_of_selects (args := #[]) (mvT hs' (ww hw 70 rfl))) (ww hw 70 rfl) (ww hw 69 rfl) (ww hw 3 rfl) (ww hw 71 rfl) (by decide) (c_first l Z a0 hw h99 b74 f F99_4) pd_4 rfl rfl rfl rfl rfl (nl rfl) (nl rfl) (nl rfl) (nl rfl) at_206 rfl ?_
        rintro _ _ ⟨rfl, rfl⟩
        show Go _ _ _ _ _ _ _ _ _ _ _ _ 209 #[.val (.long p0), .second, .val (.int p1), .val (.long p2), .second, .val (.int p3), .val (.long f), .second, .val (.int (2 : Int32)), .val (.ref b74), .val (.long f), .second, .val (.long d95), .second, .val (.long (0 : Int64)), .second, .val (.long (f + (0 : Int64))), .second, .val (.long (2 : Int64)), .second, .unset, .unset, .unset] [(.long f)]
        refine Go.lload (pc' := 211) at_209 rfl rfl ?_
        refine Go.lcmp (pc' := 212) at_211 rfl ?_
        refine Go.ifNo (pc' := 215) at_212 (XT.ll_ne_f (by exact (own_ax0 f) : f = (f + (0 : Int64)))) rfl ?_
        refine Go.aload (pc' := 217) at_215 rfl rfl rfl ?_
        refine Go.callV (cells' := 4) (slots' := 15) (pc' := 220) [] [] (f98.keep K99) (ww hw 72 rfl) (ww hw 73 rfl) (fun s' hs' => notFace_of_selects (args := #[]) (mvT hs' (ww hw 75 rfl))) (ww hw 75 rfl) (ww hw 74 rfl) (ww hw 3 rfl) (ww hw 76 rfl) (by decide) (c_size l Z a0 hw h99 b74 (2 : Int32) F99_3) pd_5 rfl rfl rfl rfl rfl (nl rfl) (nl rfl) (nl rfl) (nl rfl) at_217 rfl ?_
        rintro _ _ ⟨rfl, rfl⟩
        show Go _ _ _ _ _ _ _ _ _ _ _ _ 220 #[.val (.long p0), .second, .val (.int p1), .val (.long p2), .second, .val (.int p3), .val (.long f), .second, .val (.int (2 : Int32)), .val (.ref b74), .val (.long f), .second, .val (.long d95), .second, .val (.long (0 : Int64)), .second, .val (.long (f + (0 : Int64))), .second, .val (.long (2 : Int64)), .second, .unset, .unset, .unset] [(.int (2 : Int32))]
        refine Go.i2l (pc' := 221) at_220 rfl ?_
        show Go _ _ _ _ _ _ _ _ _ _ _ _ 221 #[.val (.long p0), .second, .val (.int p1), .val (.long p2), .second, .val (.int p3), .val (.long f), .second, .val (.int (2 : Int32)), .val (.ref b74), .val (.long f), .second, .val (.long d95), .second, .val (.long (0 : Int64)), .second, .val (.long (f + (0 : Int64))), .second, .val (.long (2 : Int64)), .second, .unset, .unset, .unset] [(.long (2 : Int64))]
        refine Go.lload (pc' := 223) at_221 rfl rfl ?_
        refine Go.lcmp (pc' := 224) at_223 rfl ?_
        refine Go.ifNo (pc' := 227) at_224 (XT.ll_ne_f (by decide)) rfl ?_
        refine Go.aload (pc' := 229) at_227 rfl rfl rfl ?_
        refine Go.callV (cells' := 4) (slots' := 15) (pc' := 232) [] [] (f98.keep K99) (ww hw 77 rfl) (ww hw 78 rfl) (fun s' hs' => notFace_of_selects (args := #[]) (mvT hs' (ww hw 80 rfl))) (ww hw 80 rfl) (ww hw 79 rfl) (ww hw 3 rfl) (ww hw 81 rfl) (by decide) (c_end2 l Z a0 hw h99 b74 f F99_4 F99_3) pd_4 rfl rfl rfl rfl rfl (nl rfl) (nl rfl) (nl rfl) (nl rfl) at_229 rfl ?_
        rintro _ _ ⟨rfl, rfl⟩
        show Go _ _ _ _ _ _ _ _ _ _ _ _ 232 #[.val (.long p0), .second, .val (.int p1), .val (.long p2), .second, .val (.int p3), .val (.long f), .second, .val (.int (2 : Int32)), .val (.ref b74), .val (.long f), .second, .val (.long d95), .second, .val (.long (0 : Int64)), .second, .val (.long (f + (0 : Int64))), .second, .val (.long (2 : Int64)), .second, .unset, .unset, .unset] [(.long (f + (2 : Int64)))]
        refine Go.lload (pc' := 234) at_232 rfl rfl ?_
        refine Go.iload (pc' := 236) at_234 rfl rfl ?_
        refine Go.i2l (pc' := 237) at_236 rfl ?_
        show Go _ _ _ _ _ _ _ _ _ _ _ _ 237 #[.val (.long p0), .second, .val (.int p1), .val (.long p2), .second, .val (.int p3), .val (.long f), .second, .val (.int (2 : Int32)), .val (.ref b74), .val (.long f), .second, .val (.long d95), .second, .val (.long (0 : Int64)), .second, .val (.long (f + (0 : Int64))), .second, .val (.long (2 : Int64)), .second, .unset, .unset, .unset] [(.long (2 : Int64)), (.long f), (.long (f + (2 : Int64)))]
        refine Go.ladd (pc' := 238) at_237 rfl ?_
        refine Go.lcmp (pc' := 239) at_238 rfl ?_
        refine Go.ifYes (pc' := 244) at_239 (XT.ll_eq_t rfl) (by decide) (by decide) ?_
        refine Go.aload (pc' := 246) at_244 rfl rfl rfl ?_
        refine Go.lload (pc' := 248) at_246 rfl rfl ?_
        have f104 : Arv Z h99 sa_77 ks_77 .long (4 : Int32) [(.long 0), (.long 1), (.long 0), (.long 0)] (.long 0) := (F93_5.keep K99 (ninS (Ne.symm ne83) nin0))
        have f105 : Arv Z h99 na_77 kn_77 .int (4 : Int32) [(.int 0), (.int 0), (.int 0), (.int 0)] (.int 0) := (F93_6.keep K99 (ninS (Ne.symm ne84) nin0))
        refine Go.callV (cells' := 4) (slots' := 15) (pc' := 251) [(.long (f + (0 : Int64)))] [] (f98.keep K99) (ww hw 82 rfl) (ww hw 83 rfl) (fun s' hs' => notFace_of_selects (args := #[]) (mvT hs' (ww hw 85 rfl))) (ww hw 85 rfl) (ww hw 84 rfl) (ww hw 3 rfl) (ww hw 86 rfl) (by decide) (c_get2_0_0 l Z a0 hw h99 b74 sa_77 ks_77 na_77 kn_77 ((f + (0 : Int64))) f wp (own_ax8 f) sp xp fp gp (f98.keep K99) F99_0 F99_1 F99_2 F99_3 F99_4 f104 f105) pd_9 rfl rfl rfl rfl rfl (nl rfl) (nl rfl) (nl rfl) (nl rfl) at_248 rfl ?_
        rintro _ _ ⟨rfl, rfl⟩
        show Go _ _ _ _ _ _ _ _ _ _ _ _ 251 #[.val (.long p0), .second, .val (.int p1), .val (.long p2), .second, .val (.int p3), .val (.long f), .second, .val (.int (2 : Int32)), .val (.ref b74), .val (.long f), .second, .val (.long d95), .second, .val (.long (0 : Int64)), .second, .val (.long (f + (0 : Int64))), .second, .val (.long (2 : Int64)), .second, .unset, .unset, .unset] [(.ref wp)]
        refine Go.astore (pc' := 253) (Ls' := #[.val (.long p0), .second, .val (.int p1), .val (.long p2), .second, .val (.int p3), .val (.long f), .second, .val (.int (2 : Int32)), .val (.ref b74), .val (.long f), .second, .val (.long d95), .second, .val (.long (0 : Int64)), .second, .val (.long (f + (0 : Int64))), .second, .val (.long (2 : Int64)), .second, .val (.ref wp), .unset, .unset]) at_251 rfl rfl rfl ?_
        refine Go.aload (pc' := 255) at_253 rfl rfl rfl ?_
        refine Go.lload (pc' := 257) at_255 rfl rfl ?_
        refine Go.lconst (pc' := 258) (v := (1 : Int64)) at_257 rfl rfl ?_
        refine Go.lsub (pc' := 259) at_258 rfl ?_
        refine Go.callV (cells' := 4) (slots' := 15) (pc' := 262) [(.long ((f + (0 : Int64)) - (1 : Int64)))] [] (f98.keep K99) (ww hw 82 rfl) (ww hw 83 rfl) (fun s' hs' => notFace_of_selects (args := #[]) (mvT hs' (ww hw 85 rfl))) (ww hw 85 rfl) (ww hw 84 rfl) (ww hw 3 rfl) (ww hw 86 rfl) (by decide) (c_get2_0_m1 l Z a0 hw h99 b74 sa_77 ks_77 na_77 kn_77 (((f + (0 : Int64)) - (1 : Int64))) f wp (own_ax9 f) sp xp fp gp (f98.keep K99) F99_0 F99_1 F99_2 F99_3 F99_4 f104 f105) pd_9 rfl rfl rfl rfl rfl (nl rfl) (nl rfl) (nl rfl) (nl rfl) at_259 rfl ?_
        rintro _ _ ⟨rfl, rfl⟩
        show Go _ _ _ _ _ _ _ _ _ _ _ _ 262 #[.val (.long p0), .second, .val (.int p1), .val (.long p2), .second, .val (.int p3), .val (.long f), .second, .val (.int (2 : Int32)), .val (.ref b74), .val (.long f), .second, .val (.long d95), .second, .val (.long (0 : Int64)), .second, .val (.long (f + (0 : Int64))), .second, .val (.long (2 : Int64)), .second, .val (.ref wp), .unset, .unset] [.null]
        refine Go.astore (pc' := 264) (Ls' := #[.val (.long p0), .second, .val (.int p1), .val (.long p2), .second, .val (.int p3), .val (.long f), .second, .val (.int (2 : Int32)), .val (.ref b74), .val (.long f), .second, .val (.long d95), .second, .val (.long (0 : Int64)), .second, .val (.long (f + (0 : Int64))), .second, .val (.long (2 : Int64)), .second, .val (.ref wp), .val .null, .unset]) at_262 rfl rfl rfl ?_
        refine Go.aload (pc' := 266) at_264 rfl rfl rfl ?_
        refine Go.nullYes (pc' := 271) at_266 rfl (by decide) (by decide) ?_
        refine Go.lload (pc' := 273) at_271 rfl rfl ?_
        refine Go.lconst (pc' := 274) (v := (0 : Int64)) at_273 rfl rfl ?_
        refine Go.lcmp (pc' := 275) at_274 rfl ?_
        refine Go.ifYes (pc' := 289) at_275 (XT.ll_ne_t (by decide)) (by decide) (by decide) ?_
        refine Go.aload (pc' := 291) at_289 rfl rfl rfl ?_
        refine Go.nullNo (pc' := 294) at_291 rfl nofun rfl ?_
        refine Go.aload (pc' := 296) at_294 rfl rfl rfl ?_
        refine Go.old (fun old108 => ?_)
        refine Go.callV (cells' := 4) (slots' := 15) (pc' := 299) [] [] (xp.ext old108.2) (ww hw 101 rfl) (ww hw 40 rfl) (fun s' hs' => notFace_of_selects (args := #[]) (mvT hs' (ww hw 42 rfl))) (ww hw 42 rfl) (ww hw 41 rfl) (ww hw 18 rfl) (ww hw 43 rfl) (by decide) (c_getSec l Z a0 hw h99 wp (0 : Int64) (fp.ext old108.2)) pd_4 rfl rfl rfl rfl rfl (nl rfl) (nl rfl) (nl rfl) (nl rfl) at_296 rfl ?_
        rintro _ _ ⟨rfl, rfl⟩
        show Go _ _ _ _ _ _ _ _ _ _ _ _ 299 #[.val (.long p0), .second, .val (.int p1), .val (.long p2), .second, .val (.int p3), .val (.long f), .second, .val (.int (2 : Int32)), .val (.ref b74), .val (.long f), .second, .val (.long d95), .second, .val (.long (0 : Int64)), .second, .val (.long (f + (0 : Int64))), .second, .val (.long (2 : Int64)), .second, .val (.ref wp), .val .null, .unset] [(.long (0 : Int64))]
        refine Go.lload (pc' := 301) at_299 rfl rfl ?_
        refine Go.lcmp (pc' := 302) at_301 rfl ?_
        refine Go.ifYes (pc' := 307) at_302 (XT.ll_eq_t (by decide)) (by decide) (by decide) ?_
        refine Go.aload (pc' := 309) at_307 rfl rfl rfl ?_
        refine Go.lload (pc' := 311) at_309 rfl rfl ?_
        refine Go.iload (pc' := 313) at_311 rfl rfl ?_
        refine Go.i2l (pc' := 314) at_313 rfl ?_
        show Go _ _ _ _ _ _ _ _ _ _ _ _ 314 #[.val (.long p0), .second, .val (.int p1), .val (.long p2), .second, .val (.int p3), .val (.long f), .second, .val (.int (2 : Int32)), .val (.ref b74), .val (.long f), .second, .val (.long d95), .second, .val (.long (0 : Int64)), .second, .val (.long (f + (0 : Int64))), .second, .val (.long (2 : Int64)), .second, .val (.ref wp), .val .null, .unset] [(.long (2 : Int64)), (.long f), (.ref b74)]
        refine Go.ladd (pc' := 315) at_314 rfl ?_
        refine Go.lconst (pc' := 316) (v := (1 : Int64)) at_315 rfl rfl ?_
        refine Go.lsub (pc' := 317) at_316 rfl ?_
        refine Go.callV (cells' := 5) (slots' := 17) (pc' := 320) [(.long ((f + (2 : Int64)) - (1 : Int64)))] [] (f98.keep K99) (ww hw 82 rfl) (ww hw 83 rfl) (fun s' hs' => notFace_of_selects (args := #[]) (mvT hs' (ww hw 85 rfl))) (ww hw 85 rfl) (ww hw 84 rfl) (ww hw 3 rfl) (ww hw 86 rfl) (by decide) (c_get2_0_1 l Z a0 hw h99 b74 sa_77 ks_77 na_77 kn_77 (((f + (2 : Int64)) - (1 : Int64))) f wp (own_ax14 f) sp xp fp gp (f98.keep K99) F99_0 F99_1 F99_2 F99_3 F99_4 f104 f105) pd_9 rfl rfl rfl rfl rfl (nl rfl) (nl rfl) (nl rfl) (nl rfl) at_317 rfl ?_
        rintro _ h110 ⟨r_110, rfl, K110, ge_r_110, sz_r_110, F110_0, F110_1, F110_2⟩
        have sz111 : h.size ≤ r_110 := Nat.le_trans K100.1 sz_r_110
        have K112 : Keep h h110 [] := K100.trans K110 all0
        show Go _ _ _ _ _ _ _ _ _ _ _ _ 320 #[.val (.long p0), .second, .val (.int p1), .val (.long p2), .second, .val (.int p3), .val (.long f), .second, .val (.int (2 : Int32)), .val (.ref b74), .val (.long f), .second, .val (.long d95), .second, .val (.long (0 : Int64)), .second, .val (.long (f + (0 : Int64))), .second, .val (.long (2 : Int64)), .second, .val (.ref wp), .val .null, .unset] [(.ref r_110)]
        refine Go.astore (pc' := 322) (Ls' := #[.val (.long p0), .second, .val (.int p1), .val (.long p2), .second, .val (.int p3), .val (.long f), .second, .val (.int (2 : Int32)), .val (.ref b74), .val (.long f), .second, .val (.long d95), .second, .val (.long (0 : Int64)), .second, .val (.long (f + (0 : Int64))), .second, .val (.long (2 : Int64)), .second, .val (.ref wp), .val .null, .val (.ref r_110)]) at_320 rfl rfl rfl ?_
        refine Go.aload (pc' := 324) at_322 rfl rfl rfl ?_
        refine Go.nullNo (pc' := 327) at_324 rfl nofun rfl ?_
        refine Go.aload (pc' := 329) at_327 rfl rfl rfl ?_
        refine Go.callV (cells' := 5) (slots' := 17) (pc' := 332) [] [] F110_0 (ww hw 101 rfl) (ww hw 40 rfl) (fun s' hs' => notFace_of_selects (args := #[]) (mvT hs' (ww hw 42 rfl))) (ww hw 42 rfl) (ww hw 41 rfl) (ww hw 18 rfl) (ww hw 43 rfl) (by decide) (c_getSec l Z a0 hw h110 r_110 (1 : Int64) F110_1) pd_4 rfl rfl rfl rfl rfl (nl rfl) (nl rfl) (nl rfl) (nl rfl) at_329 rfl ?_
        rintro _ _ ⟨rfl, rfl⟩
        show Go _ _ _ _ _ _ _ _ _ _ _ _ 332 #[.val (.long p0), .second, .val (.int p1), .val (.long p2), .second, .val (.int p3), .val (.long f), .second, .val (.int (2 : Int32)), .val (.ref b74), .val (.long f), .second, .val (.long d95), .second, .val (.long (0 : Int64)), .second, .val (.long (f + (0 : Int64))), .second, .val (.long (2 : Int64)), .second, .val (.ref wp), .val .null, .val (.ref r_110)] [(.long (1 : Int64))]
        refine Go.iload (pc' := 334) at_332 rfl rfl ?_
        refine Go.iconst (pc' := 335) (v := (1 : Int32)) at_334 rfl rfl ?_
        refine Go.isub (pc' := 336) at_335 rfl ?_
        show Go _ _ _ _ _ _ _ _ _ _ _ _ 336 #[.val (.long p0), .second, .val (.int p1), .val (.long p2), .second, .val (.int p3), .val (.long f), .second, .val (.int (2 : Int32)), .val (.ref b74), .val (.long f), .second, .val (.long d95), .second, .val (.long (0 : Int64)), .second, .val (.long (f + (0 : Int64))), .second, .val (.long (2 : Int64)), .second, .val (.ref wp), .val .null, .val (.ref r_110)] [(.int (1 : Int32)), (.long (1 : Int64))]
        refine Go.i2l (pc' := 337) at_336 rfl ?_
        show Go _ _ _ _ _ _ _ _ _ _ _ _ 337 #[.val (.long p0), .second, .val (.int p1), .val (.long p2), .second, .val (.int p3), .val (.long f), .second, .val (.int (2 : Int32)), .val (.ref b74), .val (.long f), .second, .val (.long d95), .second, .val (.long (0 : Int64)), .second, .val (.long (f + (0 : Int64))), .second, .val (.long (2 : Int64)), .second, .val (.ref wp), .val .null, .val (.ref r_110)] [(.long (1 : Int64)), (.long (1 : Int64))]
        refine Go.lcmp (pc' := 338) at_337 rfl ?_
        refine Go.ifNo (pc' := 341) at_338 (XT.ll_ne_f (by decide)) rfl ?_
        refine Go.iconst (pc' := 342) (v := (1 : Int32)) at_341 rfl rfl ?_
        refine Go.goto (pc' := 346) at_342 (by decide) (by decide) ?_
        exact Go.retN (t := .boolean) rfl (by simp) at_346 ⟨rfl, K112⟩ (by decide) (by decide)
      ·
        refine Go.aload (pc' := 143) at_141 rfl rfl rfl ?_
        refine Go.lload (pc' := 145) at_143 rfl rfl ?_
        have f114 : Exa Z h93 b74 "com/example/rens/rens/TimeRing" := ((((A74.keep K77).keep K85).keep K87).keep K93)
        refine Go.callV (cells' := 4) (slots' := 15) (pc' := 148) [(.long d95)] [] f114 (ww hw 62 rfl) (ww hw 63 rfl) (fun s' hs' => notFace_of_selects (args := #[]) (mvT hs' (ww hw 65 rfl))) (ww hw 65 rfl) (ww hw 64 rfl) (ww hw 3 rfl) (ww hw 66 rfl) (by decide) (c_drop2_1 l Z a0 hw h93 b74 sa_77 ks_77 na_77 f d95 q97_0 q97_1 ge74 ne83 f114 F93_0 F93_1 F93_2 F93_3 F93_4 F93_5) pd_8 rfl rfl rfl rfl rfl (nl rfl) (nl rfl) (nl rfl) (nl rfl) at_145 rfl ?_
        rintro _ h115 ⟨rfl, K115, F115_0, F115_1, F115_2, F115_3, F115_4⟩
        have K116 : Keep h h115 [] := K94.trans K115 (allS (Or.inr sz75) all0)
        show Go _ _ _ _ _ _ _ _ _ _ _ _ 148 #[.val (.long p0), .second, .val (.int p1), .val (.long p2), .second, .val (.int p3), .val (.long f), .second, .val (.int (2 : Int32)), .val (.ref b74), .val (.long f), .second, .val (.long d95), .second, .unset, .unset, .unset, .unset, .unset, .unset, .unset, .unset, .unset] []
        refine Go.lload (pc' := 150) at_148 rfl rfl ?_
        refine Go.lload (pc' := 152) at_150 rfl rfl ?_
        refine Go.lcmp (pc' := 153) at_152 rfl ?_
        refine Go.ifYes (pc' := 162) at_153 (XT.ll_gt_t q97_0) (by decide) (by decide) ?_
        refine Go.lload (pc' := 164) at_162 rfl rfl ?_
        refine Go.lload (pc' := 166) at_164 rfl rfl ?_
        refine Go.iload (pc' := 168) at_166 rfl rfl ?_
        refine Go.i2l (pc' := 169) at_168 rfl ?_
        show Go _ _ _ _ _ _ _ _ _ _ _ _ 169 #[.val (.long p0), .second, .val (.int p1), .val (.long p2), .second, .val (.int p3), .val (.long f), .second, .val (.int (2 : Int32)), .val (.ref b74), .val (.long f), .second, .val (.long d95), .second, .unset, .unset, .unset, .unset, .unset, .unset, .unset, .unset, .unset] [(.long (2 : Int64)), (.long f), (.long d95)]
        refine Go.ladd (pc' := 170) at_169 rfl ?_
        refine Go.lcmp (pc' := 171) at_170 rfl ?_
        refine Go.ifYes (pc' := 182) at_171 (XT.ll_lt_t q97_2) (by decide) (by decide) ?_
        refine Go.lload (pc' := 184) at_182 rfl rfl ?_
        refine Go.lload (pc' := 186) at_184 rfl rfl ?_
        refine Go.lsub (pc' := 187) at_186 rfl ?_
        refine Go.lstore (pc' := 189) (Ls' := #[.val (.long p0), .second, .val (.int p1), .val (.long p2), .second, .val (.int p3), .val (.long f), .second, .val (.int (2 : Int32)), .val (.ref b74), .val (.long f), .second, .val (.long d95), .second, .val (.long (d95 - f)), .second, .unset, .unset, .unset, .unset, .unset, .unset, .unset]) at_187 rfl rfl ?_
        refine Go.lload (pc' := 191) at_189 rfl rfl ?_
        refine Go.lload (pc' := 193) at_191 rfl rfl ?_
        refine Go.ladd (pc' := 194) at_193 rfl ?_
        refine Go.lstore (pc' := 196) (Ls' := #[.val (.long p0), .second, .val (.int p1), .val (.long p2), .second, .val (.int p3), .val (.long f), .second, .val (.int (2 : Int32)), .val (.ref b74), .val (.long f), .second, .val (.long d95), .second, .val (.long (d95 - f)), .second, .val (.long (f + (d95 - f))), .second, .unset, .unset, .unset, .unset, .unset]) at_194 rfl rfl ?_
        refine Go.iload (pc' := 198) at_196 rfl rfl ?_
        refine Go.i2l (pc' := 199) at_198 rfl ?_
        show Go _ _ _ _ _ _ _ _ _ _ _ _ 199 #[.val (.long p0), .second, .val (.int p1), .val (.long p2), .second, .val (.int p3), .val (.long f), .second, .val (.int (2 : Int32)), .val (.ref b74), .val (.long f), .second, .val (.long d95), .second, .val (.long (d95 - f)), .second, .val (.long (f + (d95 - f))), .second, .unset, .unset, .unset, .unset, .unset] [(.long (2 : Int64))]
        refine Go.lload (pc' := 201) at_199 rfl rfl ?_
        refine Go.lsub (pc' := 202) at_201 rfl ?_
        refine Go.lstore (pc' := 204) (Ls' := #[.val (.long p0), .second, .val (.int p1), .val (.long p2), .second, .val (.int p3), .val (.long f), .second, .val (.int (2 : Int32)), .val (.ref b74), .val (.long f), .second, .val (.long d95), .second, .val (.long (d95 - f)), .second, .val (.long (f + (d95 - f))), .second, .val (.long ((2 : Int64) - (d95 - f))), .second, .unset, .unset, .unset]) at_202 rfl rfl ?_
        refine Go.aload (pc' := 206) at_204 rfl rfl rfl ?_
        refine Go.callV (cells' := 4) (slots' := 15) (pc' := 209) [] [] (f114.keep K115) (ww hw 67 rfl) (ww hw 68 rfl) (fun s' hs' => notFace_of_selects (args := #[]) (mvT hs' (ww hw 70 rfl))) (ww hw 70 rfl) (ww hw 69 rfl) (ww hw 3 rfl) (ww hw 71 rfl) (by decide) (c_first l Z a0 hw h115 b74 ((f + (1 : Int64))) F115_4) pd_4 rfl rfl rfl rfl rfl (nl rfl) (nl rfl) (nl rfl) (nl rfl) at_206 rfl ?_
        rintro _ _ ⟨rfl, rfl⟩
        show Go _ _ _ _ _ _ _ _ _ _ _ _ 209 #[.val (.long p0), .second, .val (.int p1), .val (.long p2), .second, .val (.int p3), .val (.long f), .second, .val (.int (2 : Int32)), .val (.ref b74), .val (.long f), .second, .val (.long d95), .second, .val (.long (d95 - f)), .second, .val (.long (f + (d95 - f))), .second, .val (.long ((2 : Int64) - (d95 - f))), .second, .unset, .unset, .unset] [(.long (f + (1 : Int64)))]
        refine Go.lload (pc' := 211) at_209 rfl rfl ?_
        refine Go.lcmp (pc' := 212) at_211 rfl ?_
        refine Go.ifNo (pc' := 215) at_212 (XT.ll_ne_f (by exact (own_ax15 f d95 q97_3) : (f + (1 : Int64)) = (f + (d95 - f)))) rfl ?_
        refine Go.aload (pc' := 217) at_215 rfl rfl rfl ?_
        refine Go.callV (cells' := 4) (slots' := 15) (pc' := 220) [] [] (f114.keep K115) (ww hw 72 rfl) (ww hw 73 rfl) (fun s' hs' => notFace_of_selects (args := #[]) (mvT hs' (ww hw 75 rfl))) (ww hw 75 rfl) (ww hw 74 rfl) (ww hw 3 rfl) (ww hw 76 rfl) (by decide) (c_size l Z a0 hw h115 b74 (1 : Int32) F115_3) pd_5 rfl rfl rfl rfl rfl (nl rfl) (nl rfl) (nl rfl) (nl rfl) at_217 rfl ?_
        rintro _ _ ⟨rfl, rfl⟩
        show Go _ _ _ _ _ _ _ _ _ _ _ _ 220 #[.val (.long p0), .second, .val (.int p1), .val (.long p2), .second, .val (.int p3), .val (.long f), .second, .val (.int (2 : Int32)), .val (.ref b74), .val (.long f), .second, .val (.long d95), .second, .val (.long (d95 - f)), .second, .val (.long (f + (d95 - f))), .second, .val (.long ((2 : Int64) - (d95 - f))), .second, .unset, .unset, .unset] [(.int (1 : Int32))]
        refine Go.i2l (pc' := 221) at_220 rfl ?_
        show Go _ _ _ _ _ _ _ _ _ _ _ _ 221 #[.val (.long p0), .second, .val (.int p1), .val (.long p2), .second, .val (.int p3), .val (.long f), .second, .val (.int (2 : Int32)), .val (.ref b74), .val (.long f), .second, .val (.long d95), .second, .val (.long (d95 - f)), .second, .val (.long (f + (d95 - f))), .second, .val (.long ((2 : Int64) - (d95 - f))), .second, .unset, .unset, .unset] [(.long (1 : Int64))]
        refine Go.lload (pc' := 223) at_221 rfl rfl ?_
        refine Go.lcmp (pc' := 224) at_223 rfl ?_
        refine Go.ifNo (pc' := 227) at_224 (XT.ll_ne_f (by exact (own_ax16 f d95 q97_3) : (1 : Int64) = ((2 : Int64) - (d95 - f)))) rfl ?_
        refine Go.aload (pc' := 229) at_227 rfl rfl rfl ?_
        refine Go.callV (cells' := 4) (slots' := 15) (pc' := 232) [] [] (f114.keep K115) (ww hw 77 rfl) (ww hw 78 rfl) (fun s' hs' => notFace_of_selects (args := #[]) (mvT hs' (ww hw 80 rfl))) (ww hw 80 rfl) (ww hw 79 rfl) (ww hw 3 rfl) (ww hw 81 rfl) (by decide) (c_end1 l Z a0 hw h115 b74 ((f + (1 : Int64))) F115_4 F115_3) pd_4 rfl rfl rfl rfl rfl (nl rfl) (nl rfl) (nl rfl) (nl rfl) at_229 rfl ?_
        rintro _ _ ⟨rfl, rfl⟩
        show Go _ _ _ _ _ _ _ _ _ _ _ _ 232 #[.val (.long p0), .second, .val (.int p1), .val (.long p2), .second, .val (.int p3), .val (.long f), .second, .val (.int (2 : Int32)), .val (.ref b74), .val (.long f), .second, .val (.long d95), .second, .val (.long (d95 - f)), .second, .val (.long (f + (d95 - f))), .second, .val (.long ((2 : Int64) - (d95 - f))), .second, .unset, .unset, .unset] [(.long ((f + (1 : Int64)) + (1 : Int64)))]
        refine Go.lload (pc' := 234) at_232 rfl rfl ?_
        refine Go.iload (pc' := 236) at_234 rfl rfl ?_
        refine Go.i2l (pc' := 237) at_236 rfl ?_
        show Go _ _ _ _ _ _ _ _ _ _ _ _ 237 #[.val (.long p0), .second, .val (.int p1), .val (.long p2), .second, .val (.int p3), .val (.long f), .second, .val (.int (2 : Int32)), .val (.ref b74), .val (.long f), .second, .val (.long d95), .second, .val (.long (d95 - f)), .second, .val (.long (f + (d95 - f))), .second, .val (.long ((2 : Int64) - (d95 - f))), .second, .unset, .unset, .unset] [(.long (2 : Int64)), (.long f), (.long ((f + (1 : Int64)) + (1 : Int64)))]
        refine Go.ladd (pc' := 238) at_237 rfl ?_
        refine Go.lcmp (pc' := 239) at_238 rfl ?_
        refine Go.ifYes (pc' := 244) at_239 (XT.ll_eq_t (by exact (own_ax17 f) : ((f + (1 : Int64)) + (1 : Int64)) = (f + (2 : Int64)))) (by decide) (by decide) ?_
        refine Go.aload (pc' := 246) at_244 rfl rfl rfl ?_
        refine Go.lload (pc' := 248) at_246 rfl rfl ?_
        have f120 : Arv Z h115 sa_77 ks_77 .long (4 : Int32) [(.long 0), (.long 1), (.long 0), (.long 0)] (.long 0) := (F93_5.keep K115 (ninS (Ne.symm ne83) nin0))
        have f121 : Arv Z h115 na_77 kn_77 .int (4 : Int32) [(.int 0), (.int 0), (.int 0), (.int 0)] (.int 0) := (F93_6.keep K115 (ninS (Ne.symm ne84) nin0))
        refine Go.callV (cells' := 5) (slots' := 17) (pc' := 251) [(.long (f + (d95 - f)))] [] (f114.keep K115) (ww hw 82 rfl) (ww hw 83 rfl) (fun s' hs' => notFace_of_selects (args := #[]) (mvT hs' (ww hw 85 rfl))) (ww hw 85 rfl) (ww hw 84 rfl) (ww hw 3 rfl) (ww hw 86 rfl) (by decide) (c_get2_1_0 l Z a0 hw h115 b74 sa_77 ks_77 na_77 kn_77 ((f + (d95 - f))) ((f + (1 : Int64))) wp (own_ax18 f d95 q97_3) sp xp fp gp (f114.keep K115) F115_0 F115_1 F115_2 F115_3 F115_4 f120 f121) pd_9 rfl rfl rfl rfl rfl (nl rfl) (nl rfl) (nl rfl) (nl rfl) at_248 rfl ?_
        rintro _ h122 ⟨r_122, rfl, K122, ge_r_122, sz_r_122, F122_0, F122_1, F122_2⟩
        have sz123 : h.size ≤ r_122 := Nat.le_trans K116.1 sz_r_122
        have K124 : Keep h h122 [] := K116.trans K122 all0
        show Go _ _ _ _ _ _ _ _ _ _ _ _ 251 #[.val (.long p0), .second, .val (.int p1), .val (.long p2), .second, .val (.int p3), .val (.long f), .second, .val (.int (2 : Int32)), .val (.ref b74), .val (.long f), .second, .val (.long d95), .second, .val (.long (d95 - f)), .second, .val (.long (f + (d95 - f))), .second, .val (.long ((2 : Int64) - (d95 - f))), .second, .unset, .unset, .unset] [(.ref r_122)]
        refine Go.astore (pc' := 253) (Ls' := #[.val (.long p0), .second, .val (.int p1), .val (.long p2), .second, .val (.int p3), .val (.long f), .second, .val (.int (2 : Int32)), .val (.ref b74), .val (.long f), .second, .val (.long d95), .second, .val (.long (d95 - f)), .second, .val (.long (f + (d95 - f))), .second, .val (.long ((2 : Int64) - (d95 - f))), .second, .val (.ref r_122), .unset, .unset]) at_251 rfl rfl rfl ?_
        refine Go.aload (pc' := 255) at_253 rfl rfl rfl ?_
        refine Go.lload (pc' := 257) at_255 rfl rfl ?_
        refine Go.lconst (pc' := 258) (v := (1 : Int64)) at_257 rfl rfl ?_
        refine Go.lsub (pc' := 259) at_258 rfl ?_
        refine Go.callV (cells' := 5) (slots' := 17) (pc' := 262) [(.long ((f + (d95 - f)) - (1 : Int64)))] [] ((f114.keep K115).keep K122) (ww hw 82 rfl) (ww hw 83 rfl) (fun s' hs' => notFace_of_selects (args := #[]) (mvT hs' (ww hw 85 rfl))) (ww hw 85 rfl) (ww hw 84 rfl) (ww hw 3 rfl) (ww hw 86 rfl) (by decide) (c_get2_1_m1 l Z a0 hw h122 b74 sa_77 ks_77 na_77 kn_77 (((f + (d95 - f)) - (1 : Int64))) ((f + (1 : Int64))) wp (own_ax19 f d95 q97_3) sp xp fp gp (((f114.keep K115).keep K122)) (F115_0.keep K122 nin0) (F115_1.keep K122 nin0) (F115_2.keep K122 nin0) (F115_3.keep K122 nin0) (F115_4.keep K122 nin0) (f120.keep K122 nin0) (f121.keep K122 nin0)) pd_9 rfl rfl rfl rfl rfl (nl rfl) (nl rfl) (nl rfl) (nl rfl) at_259 rfl ?_
        rintro _ _ ⟨rfl, rfl⟩
        show Go _ _ _ _ _ _ _ _ _ _ _ _ 262 #[.val (.long p0), .second, .val (.int p1), .val (.long p2), .second, .val (.int p3), .val (.long f), .second, .val (.int (2 : Int32)), .val (.ref b74), .val (.long f), .second, .val (.long d95), .second, .val (.long (d95 - f)), .second, .val (.long (f + (d95 - f))), .second, .val (.long ((2 : Int64) - (d95 - f))), .second, .val (.ref r_122), .unset, .unset] [.null]
        refine Go.astore (pc' := 264) (Ls' := #[.val (.long p0), .second, .val (.int p1), .val (.long p2), .second, .val (.int p3), .val (.long f), .second, .val (.int (2 : Int32)), .val (.ref b74), .val (.long f), .second, .val (.long d95), .second, .val (.long (d95 - f)), .second, .val (.long (f + (d95 - f))), .second, .val (.long ((2 : Int64) - (d95 - f))), .second, .val (.ref r_122), .val .null, .unset]) at_262 rfl rfl rfl ?_
        refine Go.aload (pc' := 266) at_264 rfl rfl rfl ?_
        refine Go.nullYes (pc' := 271) at_266 rfl (by decide) (by decide) ?_
        refine Go.lload (pc' := 273) at_271 rfl rfl ?_
        refine Go.lconst (pc' := 274) (v := (0 : Int64)) at_273 rfl rfl ?_
        refine Go.lcmp (pc' := 275) at_274 rfl ?_
        refine Go.ifYes (pc' := 289) at_275 (XT.ll_ne_t (by exact (own_ax20 f d95 q97_3) : ¬ (((2 : Int64) - (d95 - f)) = (0 : Int64)))) (by decide) (by decide) ?_
        refine Go.aload (pc' := 291) at_289 rfl rfl rfl ?_
        refine Go.nullNo (pc' := 294) at_291 rfl nofun rfl ?_
        refine Go.aload (pc' := 296) at_294 rfl rfl rfl ?_
        refine Go.callV (cells' := 5) (slots' := 17) (pc' := 299) [] [] F122_0 (ww hw 101 rfl) (ww hw 40 rfl) (fun s' hs' => notFace_of_selects (args := #[]) (mvT hs' (ww hw 42 rfl))) (ww hw 42 rfl) (ww hw 41 rfl) (ww hw 18 rfl) (ww hw 43 rfl) (by decide) (c_getSec l Z a0 hw h122 r_122 (1 : Int64) F122_1) pd_4 rfl rfl rfl rfl rfl (nl rfl) (nl rfl) (nl rfl) (nl rfl) at_296 rfl ?_
        rintro _ _ ⟨rfl, rfl⟩
        show Go _ _ _ _ _ _ _ _ _ _ _ _ 299 #[.val (.long p0), .second, .val (.int p1), .val (.long p2), .second, .val (.int p3), .val (.long f), .second, .val (.int (2 : Int32)), .val (.ref b74), .val (.long f), .second, .val (.long d95), .second, .val (.long (d95 - f)), .second, .val (.long (f + (d95 - f))), .second, .val (.long ((2 : Int64) - (d95 - f))), .second, .val (.ref r_122), .val .null, .unset] [(.long (1 : Int64))]
        refine Go.lload (pc' := 301) at_299 rfl rfl ?_
        refine Go.lcmp (pc' := 302) at_301 rfl ?_
        refine Go.ifYes (pc' := 307) at_302 (XT.ll_eq_t (by exact (own_ax21 f d95 q97_3) : (1 : Int64) = (d95 - f))) (by decide) (by decide) ?_
        refine Go.aload (pc' := 309) at_307 rfl rfl rfl ?_
        refine Go.lload (pc' := 311) at_309 rfl rfl ?_
        refine Go.iload (pc' := 313) at_311 rfl rfl ?_
        refine Go.i2l (pc' := 314) at_313 rfl ?_
        show Go _ _ _ _ _ _ _ _ _ _ _ _ 314 #[.val (.long p0), .second, .val (.int p1), .val (.long p2), .second, .val (.int p3), .val (.long f), .second, .val (.int (2 : Int32)), .val (.ref b74), .val (.long f), .second, .val (.long d95), .second, .val (.long (d95 - f)), .second, .val (.long (f + (d95 - f))), .second, .val (.long ((2 : Int64) - (d95 - f))), .second, .val (.ref r_122), .val .null, .unset] [(.long (2 : Int64)), (.long f), (.ref b74)]
        refine Go.ladd (pc' := 315) at_314 rfl ?_
        refine Go.lconst (pc' := 316) (v := (1 : Int64)) at_315 rfl rfl ?_
        refine Go.lsub (pc' := 317) at_316 rfl ?_
        refine Go.callV (cells' := 6) (slots' := 19) (pc' := 320) [(.long ((f + (2 : Int64)) - (1 : Int64)))] [] ((f114.keep K115).keep K122) (ww hw 82 rfl) (ww hw 83 rfl) (fun s' hs' => notFace_of_selects (args := #[]) (mvT hs' (ww hw 85 rfl))) (ww hw 85 rfl) (ww hw 84 rfl) (ww hw 3 rfl) (ww hw 86 rfl) (by decide) (c_get2_1_0 l Z a0 hw h122 b74 sa_77 ks_77 na_77 kn_77 (((f + (2 : Int64)) - (1 : Int64))) ((f + (1 : Int64))) wp (own_ax22 f) sp xp fp gp (((f114.keep K115).keep K122)) (F115_0.keep K122 nin0) (F115_1.keep K122 nin0) (F115_2.keep K122 nin0) (F115_3.keep K122 nin0) (F115_4.keep K122 nin0) (f120.keep K122 nin0) (f121.keep K122 nin0)) pd_9 rfl rfl rfl rfl rfl (nl rfl) (nl rfl) (nl rfl) (nl rfl) at_317 rfl ?_
        rintro _ h127 ⟨r_127, rfl, K127, ge_r_127, sz_r_127, F127_0, F127_1, F127_2⟩
        have sz128 : h.size ≤ r_127 := Nat.le_trans K124.1 sz_r_127
        have K129 : Keep h h127 [] := K124.trans K127 all0
        show Go _ _ _ _ _ _ _ _ _ _ _ _ 320 #[.val (.long p0), .second, .val (.int p1), .val (.long p2), .second, .val (.int p3), .val (.long f), .second, .val (.int (2 : Int32)), .val (.ref b74), .val (.long f), .second, .val (.long d95), .second, .val (.long (d95 - f)), .second, .val (.long (f + (d95 - f))), .second, .val (.long ((2 : Int64) - (d95 - f))), .second, .val (.ref r_122), .val .null, .unset] [(.ref r_127)]
        refine Go.astore (pc' := 322) (Ls' := #[.val (.long p0), .second, .val (.int p1), .val (.long p2), .second, .val (.int p3), .val (.long f), .second, .val (.int (2 : Int32)), .val (.ref b74), .val (.long f), .second, .val (.long d95), .second, .val (.long (d95 - f)), .second, .val (.long (f + (d95 - f))), .second, .val (.long ((2 : Int64) - (d95 - f))), .second, .val (.ref r_122), .val .null, .val (.ref r_127)]) at_320 rfl rfl rfl ?_
        refine Go.aload (pc' := 324) at_322 rfl rfl rfl ?_
        refine Go.nullNo (pc' := 327) at_324 rfl nofun rfl ?_
        refine Go.aload (pc' := 329) at_327 rfl rfl rfl ?_
        refine Go.callV (cells' := 6) (slots' := 19) (pc' := 332) [] [] F127_0 (ww hw 101 rfl) (ww hw 40 rfl) (fun s' hs' => notFace_of_selects (args := #[]) (mvT hs' (ww hw 42 rfl))) (ww hw 42 rfl) (ww hw 41 rfl) (ww hw 18 rfl) (ww hw 43 rfl) (by decide) (c_getSec l Z a0 hw h127 r_127 (1 : Int64) F127_1) pd_4 rfl rfl rfl rfl rfl (nl rfl) (nl rfl) (nl rfl) (nl rfl) at_329 rfl ?_
        rintro _ _ ⟨rfl, rfl⟩
        show Go _ _ _ _ _ _ _ _ _ _ _ _ 332 #[.val (.long p0), .second, .val (.int p1), .val (.long p2), .second, .val (.int p3), .val (.long f), .second, .val (.int (2 : Int32)), .val (.ref b74), .val (.long f), .second, .val (.long d95), .second, .val (.long (d95 - f)), .second, .val (.long (f + (d95 - f))), .second, .val (.long ((2 : Int64) - (d95 - f))), .second, .val (.ref r_122), .val .null, .val (.ref r_127)] [(.long (1 : Int64))]
        refine Go.iload (pc' := 334) at_332 rfl rfl ?_
        refine Go.iconst (pc' := 335) (v := (1 : Int32)) at_334 rfl rfl ?_
        refine Go.isub (pc' := 336) at_335 rfl ?_
        show Go _ _ _ _ _ _ _ _ _ _ _ _ 336 #[.val (.long p0), .second, .val (.int p1), .val (.long p2), .second, .val (.int p3), .val (.long f), .second, .val (.int (2 : Int32)), .val (.ref b74), .val (.long f), .second, .val (.long d95), .second, .val (.long (d95 - f)), .second, .val (.long (f + (d95 - f))), .second, .val (.long ((2 : Int64) - (d95 - f))), .second, .val (.ref r_122), .val .null, .val (.ref r_127)] [(.int (1 : Int32)), (.long (1 : Int64))]
        refine Go.i2l (pc' := 337) at_336 rfl ?_
        show Go _ _ _ _ _ _ _ _ _ _ _ _ 337 #[.val (.long p0), .second, .val (.int p1), .val (.long p2), .second, .val (.int p3), .val (.long f), .second, .val (.int (2 : Int32)), .val (.ref b74), .val (.long f), .second, .val (.long d95), .second, .val (.long (d95 - f)), .second, .val (.long (f + (d95 - f))), .second, .val (.long ((2 : Int64) - (d95 - f))), .second, .val (.ref r_122), .val .null, .val (.ref r_127)] [(.long (1 : Int64)), (.long (1 : Int64))]
        refine Go.lcmp (pc' := 338) at_337 rfl ?_
        refine Go.ifNo (pc' := 341) at_338 (XT.ll_ne_f (by decide)) rfl ?_
        refine Go.iconst (pc' := 342) (v := (1 : Int32)) at_341 rfl rfl ?_
        refine Go.goto (pc' := 346) at_342 (by decide) (by decide) ?_
        exact Go.retN (t := .boolean) rfl (by simp) at_346 ⟨rfl, K129⟩ (by decide) (by decide)
      ·
        refine Go.aload (pc' := 143) at_141 rfl rfl rfl ?_
        refine Go.lload (pc' := 145) at_143 rfl rfl ?_
        have f131 : Exa Z h93 b74 "com/example/rens/rens/TimeRing" := ((((A74.keep K77).keep K85).keep K87).keep K93)
        refine Go.callV (cells' := 4) (slots' := 15) (pc' := 148) [(.long d95)] [] f131 (ww hw 62 rfl) (ww hw 63 rfl) (fun s' hs' => notFace_of_selects (args := #[]) (mvT hs' (ww hw 65 rfl))) (ww hw 65 rfl) (ww hw 64 rfl) (ww hw 3 rfl) (ww hw 66 rfl) (by decide) (c_drop2_2 l Z a0 hw h93 b74 sa_77 ks_77 na_77 f d95 q97_0 q97_1 ge74 ne83 f131 F93_0 F93_1 F93_2 F93_3 F93_4 F93_5) pd_8 rfl rfl rfl rfl rfl (nl rfl) (nl rfl) (nl rfl) (nl rfl) at_145 rfl ?_
        rintro _ h132 ⟨rfl, K132, F132_0, F132_1, F132_2, F132_3, F132_4⟩
        have K133 : Keep h h132 [] := K94.trans K132 (allS (Or.inr sz75) all0)
        show Go _ _ _ _ _ _ _ _ _ _ _ _ 148 #[.val (.long p0), .second, .val (.int p1), .val (.long p2), .second, .val (.int p3), .val (.long f), .second, .val (.int (2 : Int32)), .val (.ref b74), .val (.long f), .second, .val (.long d95), .second, .unset, .unset, .unset, .unset, .unset, .unset, .unset, .unset, .unset] []
        refine Go.lload (pc' := 150) at_148 rfl rfl ?_
        refine Go.lload (pc' := 152) at_150 rfl rfl ?_
        refine Go.lcmp (pc' := 153) at_152 rfl ?_
        refine Go.ifYes (pc' := 162) at_153 (XT.ll_gt_t q97_0) (by decide) (by decide) ?_
        refine Go.lload (pc' := 164) at_162 rfl rfl ?_
        refine Go.lload (pc' := 166) at_164 rfl rfl ?_
        refine Go.iload (pc' := 168) at_166 rfl rfl ?_
        refine Go.i2l (pc' := 169) at_168 rfl ?_
        show Go _ _ _ _ _ _ _ _ _ _ _ _ 169 #[.val (.long p0), .second, .val (.int p1), .val (.long p2), .second, .val (.int p3), .val (.long f), .second, .val (.int (2 : Int32)), .val (.ref b74), .val (.long f), .second, .val (.long d95), .second, .unset, .unset, .unset, .unset, .unset, .unset, .unset, .unset, .unset] [(.long (2 : Int64)), (.long f), (.long d95)]
        refine Go.ladd (pc' := 170) at_169 rfl ?_
        refine Go.lcmp (pc' := 171) at_170 rfl ?_
        refine Go.ifNo (pc' := 174) at_171 (XT.ll_lt_f q97_2) rfl ?_
        refine Go.iload (pc' := 176) at_174 rfl rfl ?_
        refine Go.i2l (pc' := 177) at_176 rfl ?_
        show Go _ _ _ _ _ _ _ _ _ _ _ _ 177 #[.val (.long p0), .second, .val (.int p1), .val (.long p2), .second, .val (.int p3), .val (.long f), .second, .val (.int (2 : Int32)), .val (.ref b74), .val (.long f), .second, .val (.long d95), .second, .unset, .unset, .unset, .unset, .unset, .unset, .unset, .unset, .unset] [(.long (2 : Int64))]
        refine Go.lstore (pc' := 179) (Ls' := #[.val (.long p0), .second, .val (.int p1), .val (.long p2), .second, .val (.int p3), .val (.long f), .second, .val (.int (2 : Int32)), .val (.ref b74), .val (.long f), .second, .val (.long d95), .second, .val (.long (2 : Int64)), .second, .unset, .unset, .unset, .unset, .unset, .unset, .unset]) at_177 rfl rfl ?_
        refine Go.goto (pc' := 189) at_179 (by decide) (by decide) ?_
        refine Go.lload (pc' := 191) at_189 rfl rfl ?_
        refine Go.lload (pc' := 193) at_191 rfl rfl ?_
        refine Go.ladd (pc' := 194) at_193 rfl ?_
        refine Go.lstore (pc' := 196) (Ls' := #[.val (.long p0), .second, .val (.int p1), .val (.long p2), .second, .val (.int p3), .val (.long f), .second, .val (.int (2 : Int32)), .val (.ref b74), .val (.long f), .second, .val (.long d95), .second, .val (.long (2 : Int64)), .second, .val (.long (f + (2 : Int64))), .second, .unset, .unset, .unset, .unset, .unset]) at_194 rfl rfl ?_
        refine Go.iload (pc' := 198) at_196 rfl rfl ?_
        refine Go.i2l (pc' := 199) at_198 rfl ?_
        show Go _ _ _ _ _ _ _ _ _ _ _ _ 199 #[.val (.long p0), .second, .val (.int p1), .val (.long p2), .second, .val (.int p3), .val (.long f), .second, .val (.int (2 : Int32)), .val (.ref b74), .val (.long f), .second, .val (.long d95), .second, .val (.long (2 : Int64)), .second, .val (.long (f + (2 : Int64))), .second, .unset, .unset, .unset, .unset, .unset] [(.long (2 : Int64))]
        refine Go.lload (pc' := 201) at_199 rfl rfl ?_
        refine Go.lsub (pc' := 202) at_201 rfl ?_
        show Go _ _ _ _ _ _ _ _ _ _ _ _ 202 #[.val (.long p0), .second, .val (.int p1), .val (.long p2), .second, .val (.int p3), .val (.long f), .second, .val (.int (2 : Int32)), .val (.ref b74), .val (.long f), .second, .val (.long d95), .second, .val (.long (2 : Int64)), .second, .val (.long (f + (2 : Int64))), .second, .unset, .unset, .unset, .unset, .unset] [(.long (0 : Int64))]
        refine Go.lstore (pc' := 204) (Ls' := #[.val (.long p0), .second, .val (.int p1), .val (.long p2), .second, .val (.int p3), .val (.long f), .second, .val (.int (2 : Int32)), .val (.ref b74), .val (.long f), .second, .val (.long d95), .second, .val (.long (2 : Int64)), .second, .val (.long (f + (2 : Int64))), .second, .val (.long (0 : Int64)), .second, .unset, .unset, .unset]) at_202 rfl rfl ?_
        refine Go.aload (pc' := 206) at_204 rfl rfl rfl ?_
        refine Go.callV (cells' := 4) (slots' := 15) (pc' := 209) [] [] (f131.keep K132) (ww hw 67 rfl) (ww hw 68 rfl) (fun s' hs' => notFace_of_selects (args := #[]) (mvT hs' (ww hw 70 rfl))) (ww hw 70 rfl) (ww hw 69 rfl) (ww hw 3 rfl) (ww hw 71 rfl) (by decide) (c_first l Z a0 hw h132 b74 (((f + (1 : Int64)) + (1 : Int64))) F132_4) pd_4 rfl rfl rfl rfl rfl (nl rfl) (nl rfl) (nl rfl) (nl rfl) at_206 rfl ?_
        rintro _ _ ⟨rfl, rfl⟩
        show Go _ _ _ _ _ _ _ _ _ _ _ _ 209 #[.val (.long p0), .second, .val (.int p1), .val (.long p2), .second, .val (.int p3), .val (.long f), .second, .val (.int (2 : Int32)), .val (.ref b74), .val (.long f), .second, .val (.long d95), .second, .val (.long (2 : Int64)), .second, .val (.long (f + (2 : Int64))), .second, .val (.long (0 : Int64)), .second, .unset, .unset, .unset] [(.long ((f + (1 : Int64)) + (1 : Int64)))]
        refine Go.lload (pc' := 211) at_209 rfl rfl ?_
        refine Go.lcmp (pc' := 212) at_211 rfl ?_
        refine Go.ifNo (pc' := 215) at_212 (XT.ll_ne_f (by exact (own_ax17 f) : ((f + (1 : Int64)) + (1 : Int64)) = (f + (2 : Int64)))) rfl ?_
        refine Go.aload (pc' := 217) at_215 rfl rfl rfl ?_
        refine Go.callV (cells' := 4) (slots' := 15) (pc' := 220) [] [] (f131.keep K132) (ww hw 72 rfl) (ww hw 73 rfl) (fun s' hs' => notFace_of_selects (args := #[]) (mvT hs' (ww hw 75 rfl))) (ww hw 75 rfl) (ww hw 74 rfl) (ww hw 3 rfl) (ww hw 76 rfl) (by decide) (c_size l Z a0 hw h132 b74 (0 : Int32) F132_3) pd_5 rfl rfl rfl rfl rfl (nl rfl) (nl rfl) (nl rfl) (nl rfl) at_217 rfl ?_
        rintro _ _ ⟨rfl, rfl⟩
        show Go _ _ _ _ _ _ _ _ _ _ _ _ 220 #[.val (.long p0), .second, .val (.int p1), .val (.long p2), .second, .val (.int p3), .val (.long f), .second, .val (.int (2 : Int32)), .val (.ref b74), .val (.long f), .second, .val (.long d95), .second, .val (.long (2 : Int64)), .second, .val (.long (f + (2 : Int64))), .second, .val (.long (0 : Int64)), .second, .unset, .unset, .unset] [(.int (0 : Int32))]
        refine Go.i2l (pc' := 221) at_220 rfl ?_
        show Go _ _ _ _ _ _ _ _ _ _ _ _ 221 #[.val (.long p0), .second, .val (.int p1), .val (.long p2), .second, .val (.int p3), .val (.long f), .second, .val (.int (2 : Int32)), .val (.ref b74), .val (.long f), .second, .val (.long d95), .second, .val (.long (2 : Int64)), .second, .val (.long (f + (2 : Int64))), .second, .val (.long (0 : Int64)), .second, .unset, .unset, .unset] [(.long (0 : Int64))]
        refine Go.lload (pc' := 223) at_221 rfl rfl ?_
        refine Go.lcmp (pc' := 224) at_223 rfl ?_
        refine Go.ifNo (pc' := 227) at_224 (XT.ll_ne_f (by decide)) rfl ?_
        refine Go.aload (pc' := 229) at_227 rfl rfl rfl ?_
        refine Go.callV (cells' := 4) (slots' := 15) (pc' := 232) [] [] (f131.keep K132) (ww hw 77 rfl) (ww hw 78 rfl) (fun s' hs' => notFace_of_selects (args := #[]) (mvT hs' (ww hw 80 rfl))) (ww hw 80 rfl) (ww hw 79 rfl) (ww hw 3 rfl) (ww hw 81 rfl) (by decide) (c_end0 l Z a0 hw h132 b74 (((f + (1 : Int64)) + (1 : Int64))) F132_4 F132_3) pd_4 rfl rfl rfl rfl rfl (nl rfl) (nl rfl) (nl rfl) (nl rfl) at_229 rfl ?_
        rintro _ _ ⟨rfl, rfl⟩
        show Go _ _ _ _ _ _ _ _ _ _ _ _ 232 #[.val (.long p0), .second, .val (.int p1), .val (.long p2), .second, .val (.int p3), .val (.long f), .second, .val (.int (2 : Int32)), .val (.ref b74), .val (.long f), .second, .val (.long d95), .second, .val (.long (2 : Int64)), .second, .val (.long (f + (2 : Int64))), .second, .val (.long (0 : Int64)), .second, .unset, .unset, .unset] [(.long (((f + (1 : Int64)) + (1 : Int64)) + (0 : Int64)))]
        refine Go.lload (pc' := 234) at_232 rfl rfl ?_
        refine Go.iload (pc' := 236) at_234 rfl rfl ?_
        refine Go.i2l (pc' := 237) at_236 rfl ?_
        show Go _ _ _ _ _ _ _ _ _ _ _ _ 237 #[.val (.long p0), .second, .val (.int p1), .val (.long p2), .second, .val (.int p3), .val (.long f), .second, .val (.int (2 : Int32)), .val (.ref b74), .val (.long f), .second, .val (.long d95), .second, .val (.long (2 : Int64)), .second, .val (.long (f + (2 : Int64))), .second, .val (.long (0 : Int64)), .second, .unset, .unset, .unset] [(.long (2 : Int64)), (.long f), (.long (((f + (1 : Int64)) + (1 : Int64)) + (0 : Int64)))]
        refine Go.ladd (pc' := 238) at_237 rfl ?_
        refine Go.lcmp (pc' := 239) at_238 rfl ?_
        refine Go.ifYes (pc' := 244) at_239 (XT.ll_eq_t (by exact (own_ax23 f) : (((f + (1 : Int64)) + (1 : Int64)) + (0 : Int64)) = (f + (2 : Int64)))) (by decide) (by decide) ?_
        refine Go.aload (pc' := 246) at_244 rfl rfl rfl ?_
        refine Go.lload (pc' := 248) at_246 rfl rfl ?_
        have f137 : Arv Z h132 sa_77 ks_77 .long (4 : Int32) [(.long 0), (.long 1), (.long 0), (.long 0)] (.long 0) := (F93_5.keep K132 (ninS (Ne.symm ne83) nin0))
        have f138 : Arv Z h132 na_77 kn_77 .int (4 : Int32) [(.int 0), (.int 0), (.int 0), (.int 0)] (.int 0) := (F93_6.keep K132 (ninS (Ne.symm ne84) nin0))
        refine Go.callV (cells' := 4) (slots' := 15) (pc' := 251) [(.long (f + (2 : Int64)))] [] (f131.keep K132) (ww hw 82 rfl) (ww hw 83 rfl) (fun s' hs' => notFace_of_selects (args := #[]) (mvT hs' (ww hw 85 rfl))) (ww hw 85 rfl) (ww hw 84 rfl) (ww hw 3 rfl) (ww hw 86 rfl) (by decide) (c_get2_2_0 l Z a0 hw h132 b74 sa_77 ks_77 na_77 kn_77 ((f + (2 : Int64))) (((f + (1 : Int64)) + (1 : Int64))) wp (own_ax24 f) sp xp fp gp (f131.keep K132) F132_0 F132_1 F132_2 F132_3 F132_4 f137 f138) pd_9 rfl rfl rfl rfl rfl (nl rfl) (nl rfl) (nl rfl) (nl rfl) at_248 rfl ?_
        rintro _ _ ⟨rfl, rfl⟩
        show Go _ _ _ _ _ _ _ _ _ _ _ _ 251 #[.val (.long p0), .second, .val (.int p1), .val (.long p2), .second, .val (.int p3), .val (.long f), .second, .val (.int (2 : Int32)), .val (.ref b74), .val (.long f), .second, .val (.long d95), .second, .val (.long (2 : Int64)), .second, .val (.long (f + (2 : Int64))), .second, .val (.long (0 : Int64)), .second, .unset, .unset, .unset] [.null]
        refine Go.astore (pc' := 253) (Ls' := #[.val (.long p0), .second, .val (.int p1), .val (.long p2), .second, .val (.int p3), .val (.long f), .second, .val (.int (2 : Int32)), .val (.ref b74), .val (.long f), .second, .val (.long d95), .second, .val (.long (2 : Int64)), .second, .val (.long (f + (2 : Int64))), .second, .val (.long (0 : Int64)), .second, .val .null, .unset, .unset]) at_251 rfl rfl rfl ?_
        refine Go.aload (pc' := 255) at_253 rfl rfl rfl ?_
        refine Go.lload (pc' := 257) at_255 rfl rfl ?_
        refine Go.lconst (pc' := 258) (v := (1 : Int64)) at_257 rfl rfl ?_
        refine Go.lsub (pc' := 259) at_258 rfl ?_
        refine Go.callV (cells' := 4) (slots' := 15) (pc' := 262) [(.long ((f + (2 : Int64)) - (1 : Int64)))] [] (f131.keep K132) (ww hw 82 rfl) (ww hw 83 rfl) (fun s' hs' => notFace_of_selects (args := #[]) (mvT hs' (ww hw 85 rfl))) (ww hw 85 rfl) (ww hw 84 rfl) (ww hw 3 rfl) (ww hw 86 rfl) (by decide) (c_get2_2_m1 l Z a0 hw h132 b74 sa_77 ks_77 na_77 kn_77 (((f + (2 : Int64)) - (1 : Int64))) (((f + (1 : Int64)) + (1 : Int64))) wp (own_ax25 f) sp xp fp gp (f131.keep K132) F132_0 F132_1 F132_2 F132_3 F132_4 f137 f138) pd_9 rfl rfl rfl rfl rfl (nl rfl) (nl rfl) (nl rfl) (nl rfl) at_259 rfl ?_
        rintro _ _ ⟨rfl, rfl⟩
        show Go _ _ _ _ _ _ _ _ _ _ _ _ 262 #[.val (.long p0), .second, .val (.int p1), .val (.long p2), .second, .val (.int p3), .val (.long f), .second, .val (.int (2 : Int32)), .val (.ref b74), .val (.long f), .second, .val (.long d95), .second, .val (.long (2 : Int64)), .second, .val (.long (f + (2 : Int64))), .second, .val (.long (0 : Int64)), .second, .val .null, .unset, .unset] [.null]
        refine Go.astore (pc' := 264) (Ls' := #[.val (.long p0), .second, .val (.int p1), .val (.long p2), .second, .val (.int p3), .val (.long f), .second, .val (.int (2 : Int32)), .val (.ref b74), .val (.long f), .second, .val (.long d95), .second, .val (.long (2 : Int64)), .second, .val (.long (f + (2 : Int64))), .second, .val (.long (0 : Int64)), .second, .val .null, .val .null, .unset]) at_262 rfl rfl rfl ?_
        refine Go.aload (pc' := 266) at_264 rfl rfl rfl ?_
        refine Go.nullYes (pc' := 271) at_266 rfl (by decide) (by decide) ?_
        refine Go.lload (pc' := 273) at_271 rfl rfl ?_
        refine Go.lconst (pc' := 274) (v := (0 : Int64)) at_273 rfl rfl ?_
        refine Go.lcmp (pc' := 275) at_274 rfl ?_
        refine Go.ifNo (pc' := 278) at_275 (XT.ll_ne_f (by decide)) rfl ?_
        refine Go.aload (pc' := 280) at_278 rfl rfl rfl ?_
        refine Go.nonnullNo (pc' := 283) at_280 rfl rfl ?_
        refine Go.iconst (pc' := 284) (v := (1 : Int32)) at_283 rfl rfl ?_
        refine Go.goto (pc' := 288) at_284 (by decide) (by decide) ?_
        exact Go.retN (t := .boolean) rfl (by simp) at_288 ⟨rfl, K133⟩ (by decide) (by decide)
    by_cases hc141 : (p3 &&& (1 : Int32)) = (0 : Int32)
    ·
      refine Go.ifNo (pc' := 123) at_120 (XT.i0_ne_f hc141) rfl ?_
      refine Go.lloadN (pc' := 124) at_123 rfl rfl ?_
      refine Go.goto (pc' := 139) at_124 (by decide) (by decide) ?_
      exact key96 _
    ·
      refine Go.ifYes (pc' := 127) at_120 (XT.i0_ne_t hc141) (by decide) (by decide) ?_
      refine Go.lload (pc' := 129) at_127 rfl rfl ?_
      refine Go.lloadN (pc' := 130) at_129 rfl rfl ?_
      refine Go.ldc2J (pc' := 133) (ww hw 102 rfl) at_130 rfl ?_
      refine Go.land (pc' := 134) at_133 rfl ?_
      refine Go.ldc2J (pc' := 137) (ww hw 103 rfl) at_134 rfl ?_
      refine Go.lsub (pc' := 138) at_137 rfl ?_
      refine Go.ladd (pc' := 139) at_138 rfl ?_
      exact key96 _
  ·
    rw [hk1]
    refine Go.new (pc' := 16) (cells' := 1) (slots' := 5) (ww hw 1 rfl) (ww hw 2 rfl) (ww hw 3 rfl) at_13 rfl rfl (by decide) (by decide) rfl ?_
    intro h142 b142 g142 E142 ge142 A142 D142
    have sz143 : h.size ≤ b142 := Nat.le_trans (Keep.refl h []).1 (Nat.le_of_eq g142.symm)
    have K144 : Keep h h142 [] := (Keep.refl h []).ext E142
    refine Go.dup (pc' := 17) at_16 rfl rfl ?_
    refine Go.callC (cells' := 3) (slots' := 13) (pc' := 20) [] [(.ref b142)] (a := b142) rfl rfl (ww hw 4 rfl) (ww hw 5 rfl) (ww hw 3 rfl) (ww hw 6 rfl) (by decide) (c_ringInit l Z a0 hw h142 b142 ge142 A142 ((D142 (Or.inl (ww hw 12 rfl)) (ty := (.array .long)) (by decide) : Fld Z h142 b142 "com/example/rens/rens/TimeRing" "seconds" "[J" .null)) ((D142 (Or.inl (ww hw 15 rfl)) (ty := (.array .int)) (by decide) : Fld Z h142 b142 "com/example/rens/rens/TimeRing" "nanos" "[I" .null)) ((D142 (Or.inl (ww hw 38 rfl)) (ty := .int) (by decide) : Fld Z h142 b142 "com/example/rens/rens/TimeRing" "head" "I" (.int (0 : Int32)))) ((D142 (Or.inl (ww hw 30 rfl)) (ty := .int) (by decide) : Fld Z h142 b142 "com/example/rens/rens/TimeRing" "size" "I" (.int (0 : Int32)))) ((D142 (Or.inl (ww hw 32 rfl)) (ty := .long) (by decide) : Fld Z h142 b142 "com/example/rens/rens/TimeRing" "first" "J" (.long (0 : Int64))))) pd_7 rfl rfl rfl rfl rfl (nl rfl) (nl rfl) (nl rfl) (nl rfl) at_17 rfl ?_
    rintro _ h145 ⟨sa_145, ks_145, na_145, kn_145, rfl, K145, ge_sa_145, sz_sa_145, ge_na_145, sz_na_145, ne145_0, F145_0, F145_1, F145_2, F145_3, F145_4, F145_5, F145_6⟩
    have sz146 : h.size ≤ sa_145 := Nat.le_trans K144.1 sz_sa_145
    have sz147 : h.size ≤ na_145 := Nat.le_trans K144.1 sz_na_145
    have K148 : Keep h h145 [] := K144.trans K145 (allS (Or.inr sz143) all0)
    show Go _ _ _ _ _ _ _ _ _ _ _ _ 20 #[.val (.long p0), .second, .val (.int p1), .val (.long p2), .second, .val (.int p3), .val (.long f), .second, .val (.int (3 : Int32)), .unset, .unset, .unset, .unset, .unset, .unset, .unset, .unset, .unset, .unset, .unset, .unset, .unset, .unset] [(.ref b142)]
    refine Go.astore (pc' := 22) (Ls' := #[.val (.long p0), .second, .val (.int p1), .val (.long p2), .second, .val (.int p3), .val (.long f), .second, .val (.int (3 : Int32)), .val (.ref b142), .unset, .unset, .unset, .unset, .unset, .unset, .unset, .unset, .unset, .unset, .unset, .unset, .unset]) at_20 rfl rfl rfl ?_
    refine Go.iload (pc' := 24) at_22 rfl rfl ?_
    refine Go.ifNo (pc' := 27) at_24 (XT.i0_le_f (by decide)) rfl ?_
    refine Go.aload (pc' := 29) at_27 rfl rfl rfl ?_
    refine Go.lload (pc' := 31) at_29 rfl rfl ?_
    refine Go.lconst (pc' := 32) (v := (0 : Int64)) at_31 rfl rfl ?_
    refine Go.callS (cells' := 3) (slots' := 13) (pc' := 35) [(.long (0 : Int64))] [(.long f), (.ref b142)] (ww hw 16 rfl) (ww hw 17 rfl) (ww hw 18 rfl) (ww hw 19 rfl) (by decide) (c_ofSec0 l Z a0 hw h145 wp sp xp fp gp) pd_9 rfl rfl rfl rfl rfl (nl rfl) (nl rfl) (nl rfl) (nl rfl) at_32 rfl ?_
    rintro _ _ ⟨rfl, rfl⟩
    show Go _ _ _ _ _ _ _ _ _ _ _ _ 35 #[.val (.long p0), .second, .val (.int p1), .val (.long p2), .second, .val (.int p3), .val (.long f), .second, .val (.int (3 : Int32)), .val (.ref b142), .unset, .unset, .unset, .unset, .unset, .unset, .unset, .unset, .unset, .unset, .unset, .unset, .unset] [(.ref wp), (.long f), (.ref b142)]
    refine Go.old (fun old150 => ?_)
    have ne151 : b142 ≠ sa_145 := (Nat.ne_of_lt (Nat.lt_of_lt_of_le A142.lt sz_sa_145))
    have ne152 : b142 ≠ na_145 := (Nat.ne_of_lt (Nat.lt_of_lt_of_le A142.lt sz_na_145))
    refine Go.callV (cells' := 3) (slots' := 13) (pc' := 38) [(.long f), (.ref wp)] [] (A142.keep K145) (ww hw 24 rfl) (ww hw 25 rfl) (fun s' hs' => notFace_of_selects (args := #[]) (mvT hs' (ww hw 27 rfl))) (ww hw 27 rfl) (ww hw 26 rfl) (ww hw 3 rfl) (ww hw 28 rfl) (by decide) (c_set0 l Z a0 hw h145 b142 sa_145 ks_145 na_145 kn_145 f wp ge142 ge_sa_145 ge_na_145 ne151 ne152 ne145_0 (old150.ne xp.lt ge142) (old150.ne xp.lt ge_sa_145) (old150.ne xp.lt ge_na_145) (A142.keep K145) F145_0 F145_1 F145_2 F145_3 F145_4 F145_5 F145_6 (xp.ext old150.2) (fp.ext old150.2) (gp.ext old150.2)) pd_10 rfl rfl rfl rfl rfl (nl rfl) (nl rfl) (nl rfl) (nl rfl) at_35 rfl ?_
    rintro _ h153 ⟨rfl, K153, F153_0, F153_1, F153_2, F153_3, F153_4, F153_5, F153_6⟩
    have K154 : Keep h h153 [] := K148.trans K153 (allS (Or.inr sz143) (allS (Or.inr sz146) (allS (Or.inr sz147) all0)))
    show Go _ _ _ _ _ _ _ _ _ _ _ _ 38 #[.val (.long p0), .second, .val (.int p1), .val (.long p2), .second, .val (.int p3), .val (.long f), .second, .val (.int (3 : Int32)), .val (.ref b142), .unset, .unset, .unset, .unset, .unset, .unset, .unset, .unset, .unset, .unset, .unset, .unset, .unset] []
    refine Go.iload (pc' := 40) at_38 rfl rfl ?_
    refine Go.iconst (pc' := 41) (v := (1 : Int32)) at_40 rfl rfl ?_
    refine Go.icmpNo (pc' := 44) at_41 (XT.ii_le_f (by decide)) rfl ?_
    refine Go.aload (pc' := 46) at_44 rfl rfl rfl ?_
    refine Go.lload (pc' := 48) at_46 rfl rfl ?_
    refine Go.lconst (pc' := 49) (v := (1 : Int64)) at_48 rfl rfl ?_
    refine Go.ladd (pc' := 50) at_49 rfl ?_
    refine Go.lconst (pc' := 51) (v := (1 : Int64)) at_50 rfl rfl ?_
    refine Go.callS (cells' := 4) (slots' := 15) (pc' := 54) [(.long (1 : Int64))] [(.long (f + (1 : Int64))), (.ref b142)] (ww hw 16 rfl) (ww hw 17 rfl) (ww hw 18 rfl) (ww hw 19 rfl) (by decide) (c_ofSec1 l Z a0 hw h153) pd_9 rfl rfl rfl rfl rfl (nl rfl) (nl rfl) (nl rfl) (nl rfl) at_51 rfl ?_
    rintro _ h155 ⟨r_155, rfl, K155, ge_r_155, sz_r_155, F155_0, F155_1, F155_2⟩
    have sz156 : h.size ≤ r_155 := Nat.le_trans K154.1 sz_r_155
    have K157 : Keep h h155 [] := K154.trans K155 all0
    show Go _ _ _ _ _ _ _ _ _ _ _ _ 54 #[.val (.long p0), .second, .val (.int p1), .val (.long p2), .second, .val (.int p3), .val (.long f), .second, .val (.int (3 : Int32)), .val (.ref b142), .unset, .unset, .unset, .unset, .unset, .unset, .unset, .unset, .unset, .unset, .unset, .unset, .unset] [(.ref r_155), (.long (f + (1 : Int64))), (.ref b142)]
    have ne158 : b142 ≠ r_155 := (Nat.ne_of_lt (Nat.lt_of_lt_of_le F153_4.lt sz_r_155))
    have ne159 : sa_145 ≠ r_155 := (Nat.ne_of_lt (Nat.lt_of_lt_of_le F153_5.lt sz_r_155))
    have ne160 : na_145 ≠ r_155 := (Nat.ne_of_lt (Nat.lt_of_lt_of_le F153_6.lt sz_r_155))
    refine Go.callV (cells' := 4) (slots' := 15) (pc' := 57) [(.long (f + (1 : Int64))), (.ref r_155)] [] (((A142.keep K145).keep K153).keep K155) (ww hw 24 rfl) (ww hw 25 rfl) (fun s' hs' => notFace_of_selects (args := #[]) (mvT hs' (ww hw 27 rfl))) (ww hw 27 rfl) (ww hw 26 rfl) (ww hw 3 rfl) (ww hw 28 rfl) (by decide) (c_set1 l Z a0 hw h155 b142 sa_145 ks_145 na_145 kn_145 f r_155 ge142 ge_sa_145 ge_na_145 ne151 ne152 ne145_0 (Ne.symm ne158) (Ne.symm ne159) (Ne.symm ne160) ((((A142.keep K145).keep K153).keep K155)) (F153_0.keep K155 nin0) (F153_1.keep K155 nin0) (F153_2.keep K155 nin0) (F153_3.keep K155 nin0) (F153_4.keep K155 nin0) (F153_5.keep K155 nin0) (F153_6.keep K155 nin0) F155_0 F155_1 F155_2) pd_10 rfl rfl rfl rfl rfl (nl rfl) (nl rfl) (nl rfl) (nl rfl) at_54 rfl ?_
    rintro _ h161 ⟨rfl, K161, F161_0, F161_1, F161_2, F161_3, F161_4, F161_5, F161_6⟩
    have K162 : Keep h h161 [] := K157.trans K161 (allS (Or.inr sz143) (allS (Or.inr sz146) (allS (Or.inr sz147) all0)))
    show Go _ _ _ _ _ _ _ _ _ _ _ _ 57 #[.val (.long p0), .second, .val (.int p1), .val (.long p2), .second, .val (.int p3), .val (.long f), .second, .val (.int (3 : Int32)), .val (.ref b142), .unset, .unset, .unset, .unset, .unset, .unset, .unset, .unset, .unset, .unset, .unset, .unset, .unset] []
    refine Go.iload (pc' := 59) at_57 rfl rfl ?_
    refine Go.iconst (pc' := 60) (v := (2 : Int32)) at_59 rfl rfl ?_
    refine Go.icmpNo (pc' := 63) at_60 (XT.ii_le_f (by decide)) rfl ?_
    refine Go.aload (pc' := 65) at_63 rfl rfl rfl ?_
    refine Go.lload (pc' := 67) at_65 rfl rfl ?_
    refine Go.ldc2J (pc' := 70) (ww hw 103 rfl) at_67 rfl ?_
    refine Go.ladd (pc' := 71) at_70 rfl ?_
    refine Go.ldc2J (pc' := 74) (ww hw 103 rfl) at_71 rfl ?_
    refine Go.callS (cells' := 5) (slots' := 17) (pc' := 77) [(.long (2 : Int64))] [(.long (f + (2 : Int64))), (.ref b142)] (ww hw 16 rfl) (ww hw 17 rfl) (ww hw 18 rfl) (ww hw 19 rfl) (by decide) (c_ofSec2 l Z a0 hw h161) pd_9 rfl rfl rfl rfl rfl (nl rfl) (nl rfl) (nl rfl) (nl rfl) at_74 rfl ?_
    rintro _ h163 ⟨r_163, rfl, K163, ge_r_163, sz_r_163, F163_0, F163_1, F163_2⟩
    have sz164 : h.size ≤ r_163 := Nat.le_trans K162.1 sz_r_163
    have K165 : Keep h h163 [] := K162.trans K163 all0
    show Go _ _ _ _ _ _ _ _ _ _ _ _ 77 #[.val (.long p0), .second, .val (.int p1), .val (.long p2), .second, .val (.int p3), .val (.long f), .second, .val (.int (3 : Int32)), .val (.ref b142), .unset, .unset, .unset, .unset, .unset, .unset, .unset, .unset, .unset, .unset, .unset, .unset, .unset] [(.ref r_163), (.long (f + (2 : Int64))), (.ref b142)]
    have f166 : Exa Z h163 b142 "com/example/rens/rens/TimeRing" := (((((A142.keep K145).keep K153).keep K155).keep K161).keep K163)
    have ne167 : b142 ≠ r_163 := (Nat.ne_of_lt (Nat.lt_of_lt_of_le F161_4.lt sz_r_163))
    have ne168 : sa_145 ≠ r_163 := (Nat.ne_of_lt (Nat.lt_of_lt_of_le F161_5.lt sz_r_163))
    have ne169 : na_145 ≠ r_163 := (Nat.ne_of_lt (Nat.lt_of_lt_of_le F161_6.lt sz_r_163))
    refine Go.callV (cells' := 5) (slots' := 17) (pc' := 80) [(.long (f + (2 : Int64))), (.ref r_163)] [] f166 (ww hw 24 rfl) (ww hw 25 rfl) (fun s' hs' => notFace_of_selects (args := #[]) (mvT hs' (ww hw 27 rfl))) (ww hw 27 rfl) (ww hw 26 rfl) (ww hw 3 rfl) (ww hw 28 rfl) (by decide) (c_set2 l Z a0 hw h163 b142 sa_145 ks_145 na_145 kn_145 f r_163 ge142 ge_sa_145 ge_na_145 ne151 ne152 ne145_0 (Ne.symm ne167) (Ne.symm ne168) (Ne.symm ne169) f166 (F161_0.keep K163 nin0) (F161_1.keep K163 nin0) (F161_2.keep K163 nin0) (F161_3.keep K163 nin0) (F161_4.keep K163 nin0) (F161_5.keep K163 nin0) (F161_6.keep K163 nin0) F163_0 F163_1 F163_2) pd_10 rfl rfl rfl rfl rfl (nl rfl) (nl rfl) (nl rfl) (nl rfl) at_77 rfl ?_
    rintro _ h170 ⟨rfl, K170, F170_0, F170_1, F170_2, F170_3, F170_4, F170_5, F170_6⟩
    have K171 : Keep h h170 [] := K165.trans K170 (allS (Or.inr sz143) (allS (Or.inr sz146) (allS (Or.inr sz147) all0)))
    show Go _ _ _ _ _ _ _ _ _ _ _ _ 80 #[.val (.long p0), .second, .val (.int p1), .val (.long p2), .second, .val (.int p3), .val (.long f), .second, .val (.int (3 : Int32)), .val (.ref b142), .unset, .unset, .unset, .unset, .unset, .unset, .unset, .unset, .unset, .unset, .unset, .unset, .unset] []
    refine Go.iload (pc' := 82) at_80 rfl rfl ?_
    refine Go.iconst (pc' := 83) (v := (3 : Int32)) at_82 rfl rfl ?_
    refine Go.icmpYes (pc' := 103) at_83 (XT.ii_le_t (by decide)) (by decide) (by decide) ?_
    refine Go.iload (pc' := 105) at_103 rfl rfl ?_
    refine Go.ifYes (pc' := 112) at_105 (XT.i0_ne_t (by decide)) (by decide) (by decide) ?_
    refine Go.lload (pc' := 114) at_112 rfl rfl ?_
    refine Go.lstore (pc' := 116) (Ls' := #[.val (.long p0), .second, .val (.int p1), .val (.long p2), .second, .val (.int p3), .val (.long f), .second, .val (.int (3 : Int32)), .val (.ref b142), .val (.long f), .second, .unset, .unset, .unset, .unset, .unset, .unset, .unset, .unset, .unset, .unset, .unset]) at_114 rfl rfl ?_
    refine Go.iload (pc' := 118) at_116 rfl rfl ?_
    refine Go.iconst (pc' := 119) (v := (1 : Int32)) at_118 rfl rfl ?_
    refine Go.iand (pc' := 120) at_119 rfl ?_
    have key173 : ∀ d172 : Int64, Go l room_1 Z n0 x code maxLocals ret (fun v h' => v = some (.int (1 : Int32)) ∧ Keep h h' []) 5 17 h170 139 #[.val (.long p0), .second, .val (.int p1), .val (.long p2), .second, .val (.int p3), .val (.long f), .second, .val (.int (3 : Int32)), .val (.ref b142), .val (.long f), .second, .unset, .unset, .unset, .unset, .unset, .unset, .unset, .unset, .unset, .unset, .unset] [(.long d172)] := by
      intro d172
      refine Go.lstore (pc' := 141) (Ls' := #[.val (.long p0), .second, .val (.int p1), .val (.long p2), .second, .val (.int p3), .val (.long f), .second, .val (.int (3 : Int32)), .val (.ref b142), .val (.long f), .second, .val (.long d172), .second, .unset, .unset, .unset, .unset, .unset, .unset, .unset, .unset, .unset]) at_139 rfl rfl ?_
      obtain q174 | ⟨q174_0, q174_1, q174_2, q174_3⟩ | ⟨q174_0, q174_1, q174_2, q174_3, q174_4⟩ | ⟨q174_0, q174_1, q174_2, q174_3⟩ := own_cut3 f d172 hb
      ·
        refine Go.aload (pc' := 143) at_141 rfl rfl rfl ?_
        refine Go.lload (pc' := 145) at_143 rfl rfl ?_
        refine Go.callV (cells' := 5) (slots' := 17) (pc' := 148) [(.long d172)] [] (f166.keep K170) (ww hw 62 rfl) (ww hw 63 rfl) (fun s' hs' => notFace_of_selects (args := #[]) (mvT hs' (ww hw 65 rfl))) (ww hw 65 rfl) (ww hw 64 rfl) (ww hw 3 rfl) (ww hw 66 rfl) (by decide) (c_drop3_0 l Z a0 hw h170 b142 sa_145 ks_145 na_145 f d172 q174 ge142 ne151 (f166.keep K170) F170_0 F170_1 F170_2 F170_3 F170_4 F170_5) pd_8 rfl rfl rfl rfl rfl (nl rfl) (nl rfl) (nl rfl) (nl rfl) at_145 rfl ?_
        rintro _ h175 ⟨rfl, K175, F175_0, F175_1, F175_2, F175_3, F175_4⟩
        have K176 : Keep h h175 [] := K171.trans K175 (allS (Or.inr sz143) all0)
        show Go _ _ _ _ _ _ _ _ _ _ _ _ 148 #[.val (.long p0), .second, .val (.int p1), .val (.long p2), .second, .val (.int p3), .val (.long f), .second, .val (.int (3 : Int32)), .val (.ref b142), .val (.long f), .second, .val (.long d172), .second, .unset, .unset, .unset, .unset, .unset, .unset, .unset, .unset, .unset] []
        refine Go.lload (pc' := 150) at_148 rfl rfl ?_
        refine Go.lload (pc' := 152) at_150 rfl rfl ?_
        refine Go.lcmp (pc' := 153) at_152 rfl ?_
        refine Go.ifNo (pc' := 156) at_153 (XT.ll_gt_f q174) rfl ?_
        refine Go.lconst (pc' := 157) (v := (0 : Int64)) at_156 rfl rfl ?_
        refine Go.lstore (pc' := 159) (Ls' := #[.val (.long p0), .second, .val (.int p1), .val (.long p2), .second, .val (.int p3), .val (.long f), .second, .val (.int (3 : Int32)), .val (.ref b142), .val (.long f), .second, .val (.long d172), .second, .val (.long (0 : Int64)), .second, .unset, .unset, .unset, .unset, .unset, .unset, .unset]) at_157 rfl rfl ?_
        refine Go.goto (pc' := 189) at_159 (by decide) (by decide) ?_
        refine Go.lload (pc' := 191) at_189 rfl rfl ?_
        refine Go.lload (pc' := 193) at_191 rfl rfl ?_
        refine Go.ladd (pc' := 194) at_193 rfl ?_
        refine Go.lstore (pc' := 196) (Ls' := #[.val (.long p0), .second, .val (.int p1), .val (.long p2), .second, .val (.int p3), .val (.long f), .second, .val (.int (3 : Int32)), .val (.ref b142), .val (.long f), .second, .val (.long d172), .second, .val (.long (0 : Int64)), .second, .val (.long (f + (0 : Int64))), .second, .unset, .unset, .unset, .unset, .unset]) at_194 rfl rfl ?_
        refine Go.iload (pc' := 198) at_196 rfl rfl ?_
        refine Go.i2l (pc' := 199) at_198 rfl ?_
        show Go _ _ _ _ _ _ _ _ _ _ _ _ 199 #[.val (.long p0), .second, .val (.int p1), .val (.long p2), .second, .val (.int p3), .val (.long f), .second, .val (.int (3 : Int32)), .val (.ref b142), .val (.long f), .second, .val (.long d172), .second, .val (.long (0 : Int64)), .second, .val (.long (f + (0 : Int64))), .second, .unset, .unset, .unset, .unset, .unset] [(.long (3 : Int64))]
        refine Go.lload (pc' := 201) at_199 rfl rfl ?_
        refine Go.lsub (pc' := 202) at_201 rfl ?_
        show Go _ _ _ _ _ _ _ _ _ _ _ _ 202 #[.val (.long p0), .second, .val (.int p1), .val (.long p2), .second, .val (.int p3), .val (.long f), .second, .val (.int (3 : Int32)), .val (.ref b142), .val (.long f), .second, .val (.long d172), .second, .val (.long (0 : Int64)), .second, .val (.long (f + (0 : Int64))), .second, .unset, .unset, .unset, .unset, .unset] [(.long (3 : Int64))]
        refine Go.lstore (pc' := 204) (Ls' := #[.val (.long p0), .second, .val (.int p1), .val (.long p2), .second, .val (.int p3), .val (.long f), .second, .val (.int (3 : Int32)), .val (.ref b142), .val (.long f), .second, .val (.long d172), .second, .val (.long (0 : Int64)), .second, .val (.long (f + (0 : Int64))), .second, .val (.long (3 : Int64)), .second, .unset, .unset, .unset]) at_202 rfl rfl ?_
        refine Go.aload (pc' := 206) at_204 rfl rfl rfl ?_
        refine Go.callV (cells' := 5) (slots' := 17) (pc' := 209) [] [] ((f166.keep K170).keep K175) (ww hw 67 rfl) (ww hw 68 rfl) (fun s' hs' => notFace_of_selects (args := #[]) (mvT hs' (ww hw 70 rfl))) (ww hw 70 rfl) (ww hw 69 rfl) (ww hw 3 rfl) (ww hw 71 rfl) (by decide) (c_first l Z a0 hw h175 b142 f F175_4) pd_4 rfl rfl rfl rfl rfl (nl rfl) (nl rfl) (nl rfl) (nl rfl) at_206 rfl ?_
        rintro _ _ ⟨rfl, rfl⟩
        show Go _ _ _ _ _ _ _ _ _ _ _ _ 209 #[.val (.long p0), .second, .val (.int p1), .val (.long p2), .second, .val (.int p3), .val (.long f), .second, .val (.int (3 : Int32)), .val (.ref b142), .val (.long f), .second, .val (.long d172), .second, .val (.long (0 : Int64)), .second, .val (.long (f + (0 : Int64))), .second, .val (.long (3 : Int64)), .second, .unset, .unset, .unset] [(.long f)]
        refine Go.lload (pc' := 211) at_209 rfl rfl ?_
        refine Go.lcmp (pc' := 212) at_211 rfl ?_
        refine Go.ifNo (pc' := 215) at_212 (XT.ll_ne_f (by exact (own_ax0 f) : f = (f + (0 : Int64)))) rfl ?_
        refine Go.aload (pc' := 217) at_215 rfl rfl rfl ?_
        refine Go.callV (cells' := 5) (slots' := 17) (pc' := 220) [] [] ((f166.keep K170).keep K175) (ww hw 72 rfl) (ww hw 73 rfl) (fun s' hs' => notFace_of_selects (args := #[]) (mvT hs' (ww hw 75 rfl))) (ww hw 75 rfl) (ww hw 74 rfl) (ww hw 3 rfl) (ww hw 76 rfl) (by decide) (c_size l Z a0 hw h175 b142 (3 : Int32) F175_3) pd_5 rfl rfl rfl rfl rfl (nl rfl) (nl rfl) (nl rfl) (nl rfl) at_217 rfl ?_
        rintro _ _ ⟨rfl, rfl⟩
        show Go _ _ _ _ _ _ _ _ _ _ _ _ 220 #[.val (.long p0), .second, .val (.int p1), .val (.long p2), .second, .val (.int p3), .val (.long f), .second, .val (.int (3 : Int32)), .val (.ref b142), .val (.long f), .second, .val (.long d172), .second, .val (.long (0 : Int64)), .second, .val (.long (f + (0 : Int64))), .second, .val (.long (3 : Int64)), .second, .unset, .unset, .unset] [(.int (3 : Int32))]
        refine Go.i2l (pc' := 221) at_220 rfl ?_
        show Go _ _ _ _ _ _ _ _ _ _ _ _ 221 #[.val (.long p0), .second, .val (.int p1), .val (.long p2), .second, .val (.int p3), .val (.long f), .second, .val (.int (3 : Int32)), .val (.ref b142), .val (.long f), .second, .val (.long d172), .second, .val (.long (0 : Int64)), .second, .val (.long (f + (0 : Int64))), .second, .val (.long (3 : Int64)), .second, .unset, .unset, .unset] [(.long (3 : Int64))]
        refine Go.lload (pc' := 223) at_221 rfl rfl ?_
        refine Go.lcmp (pc' := 224) at_223 rfl ?_
        refine Go.ifNo (pc' := 227) at_224 (XT.ll_ne_f (by decide)) rfl ?_
        refine Go.aload (pc' := 229) at_227 rfl rfl rfl ?_
        refine Go.callV (cells' := 5) (slots' := 17) (pc' := 232) [] [] ((f166.keep K170).keep K175) (ww hw 77 rfl) (ww hw 78 rfl) (fun s' hs' => notFace_of_selects (args := #[]) (mvT hs' (ww hw 80 rfl))) (ww hw 80 rfl) (ww hw 79 rfl) (ww hw 3 rfl) (ww hw 81 rfl) (by decide) (c_end3 l Z a0 hw h175 b142 f F175_4 F175_3) pd_4 rfl rfl rfl rfl rfl (nl rfl) (nl rfl) (nl rfl) (nl rfl) at_229 rfl ?_
        rintro _ _ ⟨rfl, rfl⟩
        show Go _ _ _ _ _ _ _ _ _ _ _ _ 232 #[.val (.long p0), .second, .val (.int p1), .val (.long p2), .second, .val (.int p3), .val (.long f), .second, .val (.int (3 : Int32)), .val (.ref b142), .val (.long f), .second, .val (.long d172), .second, .val (.long (0 : Int64)), .second, .val (.long (f + (0 : Int64))), .second, .val (.long (3 : Int64)), .second, .unset, .unset, .unset] [(.long (f + (3 : Int64)))]
        refine Go.lload (pc' := 234) at_232 rfl rfl ?_
        refine Go.iload (pc' := 236) at_234 rfl rfl ?_
        refine Go.i2l (pc' := 237) at_236 rfl ?_
        show Go _ _ _ _ _ _ _ _ _ _ _ _ 237 #[.val (.long p0), .second, .val (.int p1), .val (.long p2), .second, .val (.int p3), .val (.long f), .second, .val (.int (3 : Int32)), .val (.ref b142), .val (.long f), .second, .val (.long d172), .second, .val (.long (0 : Int64)), .second, .val (.long (f + (0 : Int64))), .second, .val (.long (3 : Int64)), .second, .unset, .unset, .unset] [(.long (3 : Int64)), (.long f), (.long (f + (3 : Int64)))]
        refine Go.ladd (pc' := 238) at_237 rfl ?_
        refine Go.lcmp (pc' := 239) at_238 rfl ?_
        refine Go.ifYes (pc' := 244) at_239 (XT.ll_eq_t rfl) (by decide) (by decide) ?_
        refine Go.aload (pc' := 246) at_244 rfl rfl rfl ?_
        refine Go.lload (pc' := 248) at_246 rfl rfl ?_
        have f180 : Arv Z h175 sa_145 ks_145 .long (4 : Int32) [(.long 0), (.long 1), (.long 2), (.long 0)] (.long 0) := (F170_5.keep K175 (ninS (Ne.symm ne151) nin0))
        have f181 : Arv Z h175 na_145 kn_145 .int (4 : Int32) [(.int 0), (.int 0), (.int 0), (.int 0)] (.int 0) := (F170_6.keep K175 (ninS (Ne.symm ne152) nin0))
        refine Go.callV (cells' := 5) (slots' := 17) (pc' := 251) [(.long (f + (0 : Int64)))] [] ((f166.keep K170).keep K175) (ww hw 82 rfl) (ww hw 83 rfl) (fun s' hs' => notFace_of_selects (args := #[]) (mvT hs' (ww hw 85 rfl))) (ww hw 85 rfl) (ww hw 84 rfl) (ww hw 3 rfl) (ww hw 86 rfl) (by decide) (c_get3_0_0 l Z a0 hw h175 b142 sa_145 ks_145 na_145 kn_145 ((f + (0 : Int64))) f wp (own_ax8 f) sp xp fp gp (((f166.keep K170).keep K175)) F175_0 F175_1 F175_2 F175_3 F175_4 f180 f181) pd_9 rfl rfl rfl rfl rfl (nl rfl) (nl rfl) (nl rfl) (nl rfl) at_248 rfl ?_
        rintro _ _ ⟨rfl, rfl⟩
        show Go _ _ _ _ _ _ _ _ _ _ _ _ 251 #[.val (.long p0), .second, .val (.int p1), .val (.long p2), .second, .val (.int p3), .val (.long f), .second, .val (.int (3 : Int32)), .val (.ref b142), .val (.long f), .second, .val (.long d172), .second, .val (.long (0 : Int64)), .second, .val (.long (f + (0 : Int64))), .second, .val (.long (3 : Int64)), .second, .unset, .unset, .unset] [(.ref wp)]
        refine Go.astore (pc' := 253) (Ls' := #[.val (.long p0), .second, .val (.int p1), .val (.long p2), .second, .val (.int p3), .val (.long f), .second, .val (.int (3 : Int32)), .val (.ref b142), .val (.long f), .second, .val (.long d172), .second, .val (.long (0 : Int64)), .second, .val (.long (f + (0 : Int64))), .second, .val (.long (3 : Int64)), .second, .val (.ref wp), .unset, .unset]) at_251 rfl rfl rfl ?_
        refine Go.aload (pc' := 255) at_253 rfl rfl rfl ?_
        refine Go.lload (pc' := 257) at_255 rfl rfl ?_
        refine Go.lconst (pc' := 258) (v := (1 : Int64)) at_257 rfl rfl ?_
        refine Go.lsub (pc' := 259) at_258 rfl ?_
        refine Go.callV (cells' := 5) (slots' := 17) (pc' := 262) [(.long ((f + (0 : Int64)) - (1 : Int64)))] [] ((f166.keep K170).keep K175) (ww hw 82 rfl) (ww hw 83 rfl) (fun s' hs' => notFace_of_selects (args := #[]) (mvT hs' (ww hw 85 rfl))) (ww hw 85 rfl) (ww hw 84 rfl) (ww hw 3 rfl) (ww hw 86 rfl) (by decide) (c_get3_0_m1 l Z a0 hw h175 b142 sa_145 ks_145 na_145 kn_145 (((f + (0 : Int64)) - (1 : Int64))) f wp (own_ax9 f) sp xp fp gp (((f166.keep K170).keep K175)) F175_0 F175_1 F175_2 F175_3 F175_4 f180 f181) pd_9 rfl rfl rfl rfl rfl (nl rfl) (nl rfl) (nl rfl) (nl rfl) at_259 rfl ?_
        rintro _ _ ⟨rfl, rfl⟩
        show Go _ _ _ _ _ _ _ _ _ _ _ _ 262 #[.val (.long p0), .second, .val (.int p1), .val (.long p2), .second, .val (.int p3), .val (.long f), .second, .val (.int (3 : Int32)), .val (.ref b142), .val (.long f), .second, .val (.long d172), .second, .val (.long (0 : Int64)), .second, .val (.long (f + (0 : Int64))), .second, .val (.long (3 : Int64)), .second, .val (.ref wp), .unset, .unset] [.null]
        refine Go.astore (pc' := 264) (Ls' := #[.val (.long p0), .second, .val (.int p1), .val (.long p2), .second, .val (.int p3), .val (.long f), .second, .val (.int (3 : Int32)), .val (.ref b142), .val (.long f), .second, .val (.long d172), .second, .val (.long (0 : Int64)), .second, .val (.long (f + (0 : Int64))), .second, .val (.long (3 : Int64)), .second, .val (.ref wp), .val .null, .unset]) at_262 rfl rfl rfl ?_
        refine Go.aload (pc' := 266) at_264 rfl rfl rfl ?_
        refine Go.nullYes (pc' := 271) at_266 rfl (by decide) (by decide) ?_
        refine Go.lload (pc' := 273) at_271 rfl rfl ?_
        refine Go.lconst (pc' := 274) (v := (0 : Int64)) at_273 rfl rfl ?_
        refine Go.lcmp (pc' := 275) at_274 rfl ?_
        refine Go.ifYes (pc' := 289) at_275 (XT.ll_ne_t (by decide)) (by decide) (by decide) ?_
        refine Go.aload (pc' := 291) at_289 rfl rfl rfl ?_
        refine Go.nullNo (pc' := 294) at_291 rfl nofun rfl ?_
        refine Go.aload (pc' := 296) at_294 rfl rfl rfl ?_
        refine Go.old (fun old184 => ?_)
        refine Go.callV (cells' := 5) (slots' := 17) (pc' := 299) [] [] (xp.ext old184.2) (ww hw 101 rfl) (ww hw 40 rfl) (fun s' hs' => notFace_of_selects (args := #[]) (mvT hs' (ww hw 42 rfl))) (ww hw 42 rfl) (ww hw 41 rfl) (ww hw 18 rfl) (ww hw 43 rfl) (by decide) (c_getSec l Z a0 hw h175 wp (0 : Int64) (fp.ext old184.2)) pd_4 rfl rfl rfl rfl rfl (nl rfl) (nl rfl) (nl rfl) (nl rfl) at_296 rfl ?_
        rintro _ _ ⟨rfl, rfl⟩
        show Go _ _ _ _ _ _ _ _ _ _ _ _ 299 #[.val (.long p0), .second, .val (.int p1), .val (.long p2), .second, .val (.int p3), .val (.long f), .second, .val (.int (3 : Int32)), .val (.ref b142), .val (.long f), .second, .val (.long d172), .second, .val (.long (0 : Int64)), .second, .val (.long (f + (0 : Int64))), .second, .val (.long (3 : Int64)), .second, .val (.ref wp), .val .null, .unset] [(.long (0 : Int64))]
        refine Go.lload (pc' := 301) at_299 rfl rfl ?_
        refine Go.lcmp (pc' := 302) at_301 rfl ?_
        refine Go.ifYes (pc' := 307) at_302 (XT.ll_eq_t (by decide)) (by decide) (by decide) ?_
        refine Go.aload (pc' := 309) at_307 rfl rfl rfl ?_
        refine Go.lload (pc' := 311) at_309 rfl rfl ?_
        refine Go.iload (pc' := 313) at_311 rfl rfl ?_
        refine Go.i2l (pc' := 314) at_313 rfl ?_
        show Go _ _ _ _ _ _ _ _ _ _ _ _ 314 #[.val (.long p0), .second, .val (.int p1), .val (.long p2), .second, .val (.int p3), .val (.long f), .second, .val (.int (3 : Int32)), .val (.ref b142), .val (.long f), .second, .val (.long d172), .second, .val (.long (0 : Int64)), .second, .val (.long (f + (0 : Int64))), .second, .val (.long (3 : Int64)), .second, .val (.ref wp), .val .null, .unset] [(.long (3 : Int64)), (.long f), (.ref b142)]
        refine Go.ladd (pc' := 315) at_314 rfl ?_
        refine Go.lconst (pc' := 316) (v := (1 : Int64)) at_315 rfl rfl ?_
        refine Go.lsub (pc' := 317) at_316 rfl ?_
        refine Go.callV (cells' := 6) (slots' := 19) (pc' := 320) [(.long ((f + (3 : Int64)) - (1 : Int64)))] [] ((f166.keep K170).keep K175) (ww hw 82 rfl) (ww hw 83 rfl) (fun s' hs' => notFace_of_selects (args := #[]) (mvT hs' (ww hw 85 rfl))) (ww hw 85 rfl) (ww hw 84 rfl) (ww hw 3 rfl) (ww hw 86 rfl) (by decide) (c_get3_0_2 l Z a0 hw h175 b142 sa_145 ks_145 na_145 kn_145 (((f + (3 : Int64)) - (1 : Int64))) f wp (own_ax26 f) sp xp fp gp (((f166.keep K170).keep K175)) F175_0 F175_1 F175_2 F175_3 F175_4 f180 f181) pd_9 rfl rfl rfl rfl rfl (nl rfl) (nl rfl) (nl rfl) (nl rfl) at_317 rfl ?_
        rintro _ h186 ⟨r_186, rfl, K186, ge_r_186, sz_r_186, F186_0, F186_1, F186_2⟩
        have sz187 : h.size ≤ r_186 := Nat.le_trans K176.1 sz_r_186
        have K188 : Keep h h186 [] := K176.trans K186 all0
        show Go _ _ _ _ _ _ _ _ _ _ _ _ 320 #[.val (.long p0), .second, .val (.int p1), .val (.long p2), .second, .val (.int p3), .val (.long f), .second, .val (.int (3 : Int32)), .val (.ref b142), .val (.long f), .second, .val (.long d172), .second, .val (.long (0 : Int64)), .second, .val (.long (f + (0 : Int64))), .second, .val (.long (3 : Int64)), .second, .val (.ref wp), .val .null, .unset] [(.ref r_186)]
        refine Go.astore (pc' := 322) (Ls' := #[.val (.long p0), .second, .val (.int p1), .val (.long p2), .second, .val (.int p3), .val (.long f), .second, .val (.int (3 : Int32)), .val (.ref b142), .val (.long f), .second, .val (.long d172), .second, .val (.long (0 : Int64)), .second, .val (.long (f + (0 : Int64))), .second, .val (.long (3 : Int64)), .second, .val (.ref wp), .val .null, .val (.ref r_186)]) at_320 rfl rfl rfl ?_
        refine Go.aload (pc' := 324) at_322 rfl rfl rfl ?_
        refine Go.nullNo (pc' := 327) at_324 rfl nofun rfl ?_
        refine Go.aload (pc' := 329) at_327 rfl rfl rfl ?_
        refine Go.callV (cells' := 6) (slots' := 19) (pc' := 332) [] [] F186_0 (ww hw 101 rfl) (ww hw 40 rfl) (fun s' hs' => notFace_of_selects (args := #[]) (mvT hs' (ww hw 42 rfl))) (ww hw 42 rfl) (ww hw 41 rfl) (ww hw 18 rfl) (ww hw 43 rfl) (by decide) (c_getSec l Z a0 hw h186 r_186 (2 : Int64) F186_1) pd_4 rfl rfl rfl rfl rfl (nl rfl) (nl rfl) (nl rfl) (nl rfl) at_329 rfl ?_
        rintro _ _ ⟨rfl, rfl⟩
        show Go _ _ _ _ _ _ _ _ _ _ _ _ 332 #[.val (.long p0), .second, .val (.int p1), .val (.long p2), .second, .val (.int p3), .val (.long f), .second, .val (.int (3 : Int32)), .val (.ref b142), .val (.long f), .second, .val (.long d172), .second, .val (.long (0 : Int64)), .second, .val (.long (f + (0 : Int64))), .second, .val (.long (3 : Int64)), .second, .val (.ref wp), .val .null, .val (.ref r_186)] [(.long (2 : Int64))]
        refine Go.iload (pc' := 334) at_332 rfl rfl ?_
        refine Go.iconst (pc' := 335) (v := (1 : Int32)) at_334 rfl rfl ?_
        refine Go.isub (pc' := 336) at_335 rfl ?_
        show Go _ _ _ _ _ _ _ _ _ _ _ _ 336 #[.val (.long p0), .second, .val (.int p1), .val (.long p2), .second, .val (.int p3), .val (.long f), .second, .val (.int (3 : Int32)), .val (.ref b142), .val (.long f), .second, .val (.long d172), .second, .val (.long (0 : Int64)), .second, .val (.long (f + (0 : Int64))), .second, .val (.long (3 : Int64)), .second, .val (.ref wp), .val .null, .val (.ref r_186)] [(.int (2 : Int32)), (.long (2 : Int64))]
        refine Go.i2l (pc' := 337) at_336 rfl ?_
        show Go _ _ _ _ _ _ _ _ _ _ _ _ 337 #[.val (.long p0), .second, .val (.int p1), .val (.long p2), .second, .val (.int p3), .val (.long f), .second, .val (.int (3 : Int32)), .val (.ref b142), .val (.long f), .second, .val (.long d172), .second, .val (.long (0 : Int64)), .second, .val (.long (f + (0 : Int64))), .second, .val (.long (3 : Int64)), .second, .val (.ref wp), .val .null, .val (.ref r_186)] [(.long (2 : Int64)), (.long (2 : Int64))]
        refine Go.lcmp (pc' := 338) at_337 rfl ?_
        refine Go.ifNo (pc' := 341) at_338 (XT.ll_ne_f (by decide)) rfl ?_
        refine Go.iconst (pc' := 342) (v := (1 : Int32)) at_341 rfl rfl ?_
        refine Go.goto (pc' := 346) at_342 (by decide) (by decide) ?_
        exact Go.retN (t := .boolean) rfl (by simp) at_346 ⟨rfl, K188⟩ (by decide) (by decide)
      ·
        refine Go.aload (pc' := 143) at_141 rfl rfl rfl ?_
        refine Go.lload (pc' := 145) at_143 rfl rfl ?_
        refine Go.callV (cells' := 5) (slots' := 17) (pc' := 148) [(.long d172)] [] (f166.keep K170) (ww hw 62 rfl) (ww hw 63 rfl) (fun s' hs' => notFace_of_selects (args := #[]) (mvT hs' (ww hw 65 rfl))) (ww hw 65 rfl) (ww hw 64 rfl) (ww hw 3 rfl) (ww hw 66 rfl) (by decide) (c_drop3_1 l Z a0 hw h170 b142 sa_145 ks_145 na_145 f d172 q174_0 q174_1 ge142 ne151 (f166.keep K170) F170_0 F170_1 F170_2 F170_3 F170_4 F170_5) pd_8 rfl rfl rfl rfl rfl (nl rfl) (nl rfl) (nl rfl) (nl rfl) at_145 rfl ?_
        rintro _ h190 ⟨rfl, K190, F190_0, F190_1, F190_2, F190_3, F190_4⟩
        have K191 : Keep h h190 [] := K171.trans K190 (allS (Or.inr sz143) all0)
        show Go _ _ _ _ _ _ _ _ _ _ _ _ 148 #[.val (.long p0), .second, .val (.int p1), .val (.long p2), .second, .val (.int p3), .val (.long f), .second, .val (.int (3 : Int32)), .val (.ref b142), .val (.long f), .second, .val (.long d172), .second, .unset, .unset, .unset, .unset, .unset, .unset, .unset, .unset, .unset] []
        refine Go.lload (pc' := 150) at_148 rfl rfl ?_
        refine Go.lload (pc' := 152) at_150 rfl rfl ?_
        refine Go.lcmp (pc' := 153) at_152 rfl ?_
        refine Go.ifYes (pc' := 162) at_153 (XT.ll_gt_t q174_0) (by decide) (by decide) ?_
        refine Go.lload (pc' := 164) at_162 rfl rfl ?_
        refine Go.lload (pc' := 166) at_164 rfl rfl ?_
        refine Go.iload (pc' := 168) at_166 rfl rfl ?_
        refine Go.i2l (pc' := 169) at_168 rfl ?_
        show Go _ _ _ _ _ _ _ _ _ _ _ _ 169 #[.val (.long p0), .second, .val (.int p1), .val (.long p2), .second, .val (.int p3), .val (.long f), .second, .val (.int (3 : Int32)), .val (.ref b142), .val (.long f), .second, .val (.long d172), .second, .unset, .unset, .unset, .unset, .unset, .unset, .unset, .unset, .unset] [(.long (3 : Int64)), (.long f), (.long d172)]
        refine Go.ladd (pc' := 170) at_169 rfl ?_
        refine Go.lcmp (pc' := 171) at_170 rfl ?_
        refine Go.ifYes (pc' := 182) at_171 (XT.ll_lt_t q174_2) (by decide) (by decide) ?_
        refine Go.lload (pc' := 184) at_182 rfl rfl ?_
        refine Go.lload (pc' := 186) at_184 rfl rfl ?_
        refine Go.lsub (pc' := 187) at_186 rfl ?_
        refine Go.lstore (pc' := 189) (Ls' := #[.val (.long p0), .second, .val (.int p1), .val (.long p2), .second, .val (.int p3), .val (.long f), .second, .val (.int (3 : Int32)), .val (.ref b142), .val (.long f), .second, .val (.long d172), .second, .val (.long (d172 - f)), .second, .unset, .unset, .unset, .unset, .unset, .unset, .unset]) at_187 rfl rfl ?_
        refine Go.lload (pc' := 191) at_189 rfl rfl ?_
        refine Go.lload (pc' := 193) at_191 rfl rfl ?_
        refine Go.ladd (pc' := 194) at_193 rfl ?_
        refine Go.lstore (pc' := 196) (Ls' := #[.val (.long p0), .second, .val (.int p1), .val (.long p2), .second, .val (.int p3), .val (.long f), .second, .val (.int (3 : Int32)), .val (.ref b142), .val (.long f), .second, .val (.long d172), .second, .val (.long (d172 - f)), .second, .val (.long (f + (d172 - f))), .second, .unset, .unset, .unset, .unset, .unset]) at_194 rfl rfl ?_
        refine Go.iload (pc' := 198) at_196 rfl rfl ?_
        refine Go.i2l (pc' := 199) at_198 rfl ?_
        show Go _ _ _ _ _ _ _ _ _ _ _ _ 199 #[.val (.long p0), .second, .val (.int p1), .val (.long p2), .second, .val (.int p3), .val (.long f), .second, .val (.int (3 : Int32)), .val (.ref b142), .val (.long f), .second, .val (.long d172), .second, .val (.long (d172 - f)), .second, .val (.long (f + (d172 - f))), .second, .unset, .unset, .unset, .unset, .unset] [(.long (3 : Int64))]
        refine Go.lload (pc' := 201) at_199 rfl rfl ?_
        refine Go.lsub (pc' := 202) at_201 rfl ?_
        refine Go.lstore (pc' := 204) (Ls' := #[.val (.long p0), .second, .val (.int p1), .val (.long p2), .second, .val (.int p3), .val (.long f), .second, .val (.int (3 : Int32)), .val (.ref b142), .val (.long f), .second, .val (.long d172), .second, .val (.long (d172 - f)), .second, .val (.long (f + (d172 - f))), .second, .val (.long ((3 : Int64) - (d172 - f))), .second, .unset, .unset, .unset]) at_202 rfl rfl ?_
        refine Go.aload (pc' := 206) at_204 rfl rfl rfl ?_
        refine Go.callV (cells' := 5) (slots' := 17) (pc' := 209) [] [] ((f166.keep K170).keep K190) (ww hw 67 rfl) (ww hw 68 rfl) (fun s' hs' => notFace_of_selects (args := #[]) (mvT hs' (ww hw 70 rfl))) (ww hw 70 rfl) (ww hw 69 rfl) (ww hw 3 rfl) (ww hw 71 rfl) (by decide) (c_first l Z a0 hw h190 b142 ((f + (1 : Int64))) F190_4) pd_4 rfl rfl rfl rfl rfl (nl rfl) (nl rfl) (nl rfl) (nl rfl) at_206 rfl ?_
        rintro _ _ ⟨rfl, rfl⟩
        show Go _ _ _ _ _ _ _ _ _ _ _ _ 209 #[.val (.long p0), .second, .val (.int p1), .val (.long p2), .second, .val (.int p3), .val (.long f), .second, .val (.int (3 : Int32)), .val (.ref b142), .val (.long f), .second, .val (.long d172), .second, .val (.long (d172 - f)), .second, .val (.long (f + (d172 - f))), .second, .val (.long ((3 : Int64) - (d172 - f))), .second, .unset, .unset, .unset] [(.long (f + (1 : Int64)))]
        refine Go.lload (pc' := 211) at_209 rfl rfl ?_
        refine Go.lcmp (pc' := 212) at_211 rfl ?_
        refine Go.ifNo (pc' := 215) at_212 (XT.ll_ne_f (by exact (own_ax15 f d172 q174_3) : (f + (1 : Int64)) = (f + (d172 - f)))) rfl ?_
        refine Go.aload (pc' := 217) at_215 rfl rfl rfl ?_
        refine Go.callV (cells' := 5) (slots' := 17) (pc' := 220) [] [] ((f166.keep K170).keep K190) (ww hw 72 rfl) (ww hw 73 rfl) (fun s' hs' => notFace_of_selects (args := #[]) (mvT hs' (ww hw 75 rfl))) (ww hw 75 rfl) (ww hw 74 rfl) (ww hw 3 rfl) (ww hw 76 rfl) (by decide) (c_size l Z a0 hw h190 b142 (2 : Int32) F190_3) pd_5 rfl rfl rfl rfl rfl (nl rfl) (nl rfl) (nl rfl) (nl rfl) at_217 rfl ?_
        rintro _ _ ⟨rfl, rfl⟩
        show Go _ _ _ _ _ _ _ _ _ _ _ _ 220 #[.val (.long p0), .second, .val (.int p1), .val (.long p2), .second, .val (.int p3), .val (.long f), .second, .val (.int (3 : Int32)), .val (.ref b142), .val (.long f), .second, .val (.long d172), .second, .val (.long (d172 - f)), .second, .val (.long (f + (d172 - f))), .second, .val (.long ((3 : Int64) - (d172 - f))), .second, .unset, .unset, .unset] [(.int (2 : Int32))]
        refine Go.i2l (pc' := 221) at_220 rfl ?_
        show Go _ _ _ _ _ _ _ _ _ _ _ _ 221 #[.val (.long p0), .second, .val (.int p1), .val (.long p2), .second, .val (.int p3), .val (.long f), .second, .val (.int (3 : Int32)), .val (.ref b142), .val (.long f), .second, .val (.long d172), .second, .val (.long (d172 - f)), .second, .val (.long (f + (d172 - f))), .second, .val (.long ((3 : Int64) - (d172 - f))), .second, .unset, .unset, .unset] [(.long (2 : Int64))]
        refine Go.lload (pc' := 223) at_221 rfl rfl ?_
        refine Go.lcmp (pc' := 224) at_223 rfl ?_
        refine Go.ifNo (pc' := 227) at_224 (XT.ll_ne_f (by exact (own_ax27 f d172 q174_3) : (2 : Int64) = ((3 : Int64) - (d172 - f)))) rfl ?_
        refine Go.aload (pc' := 229) at_227 rfl rfl rfl ?_
        refine Go.callV (cells' := 5) (slots' := 17) (pc' := 232) [] [] ((f166.keep K170).keep K190) (ww hw 77 rfl) (ww hw 78 rfl) (fun s' hs' => notFace_of_selects (args := #[]) (mvT hs' (ww hw 80 rfl))) (ww hw 80 rfl) (ww hw 79 rfl) (ww hw 3 rfl) (ww hw 81 rfl) (by decide) (c_end2 l Z a0 hw h190 b142 ((f + (1 : Int64))) F190_4 F190_3) pd_4 rfl rfl rfl rfl rfl (nl rfl) (nl rfl) (nl rfl) (nl rfl) at_229 rfl ?_
        rintro _ _ ⟨rfl, rfl⟩
        show Go _ _ _ _ _ _ _ _ _ _ _ _ 232 #[.val (.long p0), .second, .val (.int p1), .val (.long p2), .second, .val (.int p3), .val (.long f), .second, .val (.int (3 : Int32)), .val (.ref b142), .val (.long f), .second, .val (.long d172), .second, .val (.long (d172 - f)), .second, .val (.long (f + (d172 - f))), .second, .val (.long ((3 : Int64) - (d172 - f))), .second, .unset, .unset, .unset] [(.long ((f + (1 : Int64)) + (2 : Int64)))]
        refine Go.lload (pc' := 234) at_232 rfl rfl ?_
        refine Go.iload (pc' := 236) at_234 rfl rfl ?_
        refine Go.i2l (pc' := 237) at_236 rfl ?_
        show Go _ _ _ _ _ _ _ _ _ _ _ _ 237 #[.val (.long p0), .second, .val (.int p1), .val (.long p2), .second, .val (.int p3), .val (.long f), .second, .val (.int (3 : Int32)), .val (.ref b142), .val (.long f), .second, .val (.long d172), .second, .val (.long (d172 - f)), .second, .val (.long (f + (d172 - f))), .second, .val (.long ((3 : Int64) - (d172 - f))), .second, .unset, .unset, .unset] [(.long (3 : Int64)), (.long f), (.long ((f + (1 : Int64)) + (2 : Int64)))]
        refine Go.ladd (pc' := 238) at_237 rfl ?_
        refine Go.lcmp (pc' := 239) at_238 rfl ?_
        refine Go.ifYes (pc' := 244) at_239 (XT.ll_eq_t (by exact (own_ax28 f) : ((f + (1 : Int64)) + (2 : Int64)) = (f + (3 : Int64)))) (by decide) (by decide) ?_
        refine Go.aload (pc' := 246) at_244 rfl rfl rfl ?_
        refine Go.lload (pc' := 248) at_246 rfl rfl ?_
        have f195 : Arv Z h190 sa_145 ks_145 .long (4 : Int32) [(.long 0), (.long 1), (.long 2), (.long 0)] (.long 0) := (F170_5.keep K190 (ninS (Ne.symm ne151) nin0))
        have f196 : Arv Z h190 na_145 kn_145 .int (4 : Int32) [(.int 0), (.int 0), (.int 0), (.int 0)] (.int 0) := (F170_6.keep K190 (ninS (Ne.symm ne152) nin0))
        refine Go.callV (cells' := 6) (slots' := 19) (pc' := 251) [(.long (f + (d172 - f)))] [] ((f166.keep K170).keep K190) (ww hw 82 rfl) (ww hw 83 rfl) (fun s' hs' => notFace_of_selects (args := #[]) (mvT hs' (ww hw 85 rfl))) (ww hw 85 rfl) (ww hw 84 rfl) (ww hw 3 rfl) (ww hw 86 rfl) (by decide) (c_get3_1_0 l Z a0 hw h190 b142 sa_145 ks_145 na_145 kn_145 ((f + (d172 - f))) ((f + (1 : Int64))) wp (own_ax18 f d172 q174_3) sp xp fp gp (((f166.keep K170).keep K190)) F190_0 F190_1 F190_2 F190_3 F190_4 f195 f196) pd_9 rfl rfl rfl rfl rfl (nl rfl) (nl rfl) (nl rfl) (nl rfl) at_248 rfl ?_
        rintro _ h197 ⟨r_197, rfl, K197, ge_r_197, sz_r_197, F197_0, F197_1, F197_2⟩
        have sz198 : h.size ≤ r_197 := Nat.le_trans K191.1 sz_r_197
        have K199 : Keep h h197 [] := K191.trans K197 all0
        show Go _ _ _ _ _ _ _ _ _ _ _ _ 251 #[.val (.long p0), .second, .val (.int p1), .val (.long p2), .second, .val (.int p3), .val (.long f), .second, .val (.int (3 : Int32)), .val (.ref b142), .val (.long f), .second, .val (.long d172), .second, .val (.long (d172 - f)), .second, .val (.long (f + (d172 - f))), .second, .val (.long ((3 : Int64) - (d172 - f))), .second, .unset, .unset, .unset] [(.ref r_197)]
        refine Go.astore (pc' := 253) (Ls' := #[.val (.long p0), .second, .val (.int p1), .val (.long p2), .second, .val (.int p3), .val (.long f), .second, .val (.int (3 : Int32)), .val (.ref b142), .val (.long f), .second, .val (.long d172), .second, .val (.long (d172 - f)), .second, .val (.long (f + (d172 - f))), .second, .val (.long ((3 : Int64) - (d172 - f))), .second, .val (.ref r_197), .unset, .unset]) at_251 rfl rfl rfl ?_
        refine Go.aload (pc' := 255) at_253 rfl rfl rfl ?_
        refine Go.lload (pc' := 257) at_255 rfl rfl ?_
        refine Go.lconst (pc' := 258) (v := (1 : Int64)) at_257 rfl rfl ?_
        refine Go.lsub (pc' := 259) at_258 rfl ?_
        refine Go.callV (cells' := 6) (slots' := 19) (pc' := 262) [(.long ((f + (d172 - f)) - (1 : Int64)))] [] (((f166.keep K170).keep K190).keep K197) (ww hw 82 rfl) (ww hw 83 rfl) (fun s' hs' => notFace_of_selects (args := #[]) (mvT hs' (ww hw 85 rfl))) (ww hw 85 rfl) (ww hw 84 rfl) (ww hw 3 rfl) (ww hw 86 rfl) (by decide) (c_get3_1_m1 l Z a0 hw h197 b142 sa_145 ks_145 na_145 kn_145 (((f + (d172 - f)) - (1 : Int64))) ((f + (1 : Int64))) wp (own_ax19 f d172 q174_3) sp xp fp gp ((((f166.keep K170).keep K190).keep K197)) (F190_0.keep K197 nin0) (F190_1.keep K197 nin0) (F190_2.keep K197 nin0) (F190_3.keep K197 nin0) (F190_4.keep K197 nin0) (f195.keep K197 nin0) (f196.keep K197 nin0)) pd_9 rfl rfl rfl rfl rfl (nl rfl) (nl rfl) (nl rfl) (nl rfl) at_259 rfl ?_
        rintro _ _ ⟨rfl, rfl⟩
        show Go _ _ _ _ _ _ _ _ _ _ _ _ 262 #[.val (.long p0), .second, .val (.int p1), .val (.long p2), .second, .val (.int p3), .val (.long f), .second, .val (.int (3 : Int32)), .val (.ref b142), .val (.long f), .second, .val (.long d172), .second, .val (.long (d172 - f)), .second, .val (.long (f + (d172 - f))), .second, .val (.long ((3 : Int64) - (d172 - f))), .second, .val (.ref r_197), .unset, .unset] [.null]
        refine Go.astore (pc' := 264) (Ls' := #[.val (.long p0), .second, .val (.int p1), .val (.long p2), .second, .val (.int p3), .val (.long f), .second, .val (.int (3 : Int32)), .val (.ref b142), .val (.long f), .second, .val (.long d172), .second, .val (.long (d172 - f)), .second, .val (.long (f + (d172 - f))), .second, .val (.long ((3 : Int64) - (d172 - f))), .second, .val (.ref r_197), .val .null, .unset]) at_262 rfl rfl rfl ?_
        refine Go.aload (pc' := 266) at_264 rfl rfl rfl ?_
        refine Go.nullYes (pc' := 271) at_266 rfl (by decide) (by decide) ?_
        refine Go.lload (pc' := 273) at_271 rfl rfl ?_
        refine Go.lconst (pc' := 274) (v := (0 : Int64)) at_273 rfl rfl ?_
        refine Go.lcmp (pc' := 275) at_274 rfl ?_
        refine Go.ifYes (pc' := 289) at_275 (XT.ll_ne_t (by exact (own_ax29 f d172 q174_3) : ¬ (((3 : Int64) - (d172 - f)) = (0 : Int64)))) (by decide) (by decide) ?_
        refine Go.aload (pc' := 291) at_289 rfl rfl rfl ?_
        refine Go.nullNo (pc' := 294) at_291 rfl nofun rfl ?_
        refine Go.aload (pc' := 296) at_294 rfl rfl rfl ?_
        refine Go.callV (cells' := 6) (slots' := 19) (pc' := 299) [] [] F197_0 (ww hw 101 rfl) (ww hw 40 rfl) (fun s' hs' => notFace_of_selects (args := #[]) (mvT hs' (ww hw 42 rfl))) (ww hw 42 rfl) (ww hw 41 rfl) (ww hw 18 rfl) (ww hw 43 rfl) (by decide) (c_getSec l Z a0 hw h197 r_197 (1 : Int64) F197_1) pd_4 rfl rfl rfl rfl rfl (nl rfl) (nl rfl) (nl rfl) (nl rfl) at_296 rfl ?_
        rintro _ _ ⟨rfl, rfl⟩
        show Go _ _ _ _ _ _ _ _ _ _ _ _ 299 #[.val (.long p0), .second, .val (.int p1), .val (.long p2), .second, .val (.int p3), .val (.long f), .second, .val (.int (3 : Int32)), .val (.ref b142), .val (.long f), .second, .val (.long d172), .second, .val (.long (d172 - f)), .second, .val (.long (f + (d172 - f))), .second, .val (.long ((3 : Int64) - (d172 - f))), .second, .val (.ref r_197), .val .null, .unset] [(.long (1 : Int64))]
        refine Go.lload (pc' := 301) at_299 rfl rfl ?_
        refine Go.lcmp (pc' := 302) at_301 rfl ?_
        refine Go.ifYes (pc' := 307) at_302 (XT.ll_eq_t (by exact (own_ax21 f d172 q174_3) : (1 : Int64) = (d172 - f))) (by decide) (by decide) ?_
        refine Go.aload (pc' := 309) at_307 rfl rfl rfl ?_
        refine Go.lload (pc' := 311) at_309 rfl rfl ?_
        refine Go.iload (pc' := 313) at_311 rfl rfl ?_
        refine Go.i2l (pc' := 314) at_313 rfl ?_
        show Go _ _ _ _ _ _ _ _ _ _ _ _ 314 #[.val (.long p0), .second, .val (.int p1), .val (.long p2), .second, .val (.int p3), .val (.long f), .second, .val (.int (3 : Int32)), .val (.ref b142), .val (.long f), .second, .val (.long d172), .second, .val (.long (d172 - f)), .second, .val (.long (f + (d172 - f))), .second, .val (.long ((3 : Int64) - (d172 - f))), .second, .val (.ref r_197), .val .null, .unset] [(.long (3 : Int64)), (.long f), (.ref b142)]
        refine Go.ladd (pc' := 315) at_314 rfl ?_
        refine Go.lconst (pc' := 316) (v := (1 : Int64)) at_315 rfl rfl ?_
        refine Go.lsub (pc' := 317) at_316 rfl ?_
        refine Go.callV (cells' := 7) (slots' := 21) (pc' := 320) [(.long ((f + (3 : Int64)) - (1 : Int64)))] [] (((f166.keep K170).keep K190).keep K197) (ww hw 82 rfl) (ww hw 83 rfl) (fun s' hs' => notFace_of_selects (args := #[]) (mvT hs' (ww hw 85 rfl))) (ww hw 85 rfl) (ww hw 84 rfl) (ww hw 3 rfl) (ww hw 86 rfl) (by decide) (c_get3_1_1 l Z a0 hw h197 b142 sa_145 ks_145 na_145 kn_145 (((f + (3 : Int64)) - (1 : Int64))) ((f + (1 : Int64))) wp (own_ax30 f) sp xp fp gp ((((f166.keep K170).keep K190).keep K197)) (F190_0.keep K197 nin0) (F190_1.keep K197 nin0) (F190_2.keep K197 nin0) (F190_3.keep K197 nin0) (F190_4.keep K197 nin0) (f195.keep K197 nin0) (f196.keep K197 nin0)) pd_9 rfl rfl rfl rfl rfl (nl rfl) (nl rfl) (nl rfl) (nl rfl) at_317 rfl ?_
        rintro _ h202 ⟨r_202, rfl, K202, ge_r_202, sz_r_202, F202_0, F202_1, F202_2⟩
        have sz203 : h.size ≤ r_202 := Nat.le_trans K199.1 sz_r_202
        have K204 : Keep h h202 [] := K199.trans K202 all0
        show Go _ _ _ _ _ _ _ _ _ _ _ _ 320 #[.val (.long p0), .second, .val (.int p1), .val (.long p2), .second, .val (.int p3), .val (.long f), .second, .val (.int (3 : Int32)), .val (.ref b142), .val (.long f), .second, .val (.long d172), .second, .val (.long (d172 - f)), .second, .val (.long (f + (d172 - f))), .second, .val (.long ((3 : Int64) - (d172 - f))), .second, .val (.ref r_197), .val .null, .unset] [(.ref r_202)]
        refine Go.astore (pc' := 322) (Ls' := #[.val (.long p0), .second, .val (.int p1), .val (.long p2), .second, .val (.int p3), .val (.long f), .second, .val (.int (3 : Int32)), .val (.ref b142), .val (.long f), .second, .val (.long d172), .second, .val (.long (d172 - f)), .second, .val (.long (f + (d172 - f))), .second, .val (.long ((3 : Int64) - (d172 - f))), .second, .val (.ref r_197), .val .null, .val (.ref r_202)]) at_320 rfl rfl rfl ?_
        refine Go.aload (pc' := 324) at_322 rfl rfl rfl ?_
        refine Go.nullNo (pc' := 327) at_324 rfl nofun rfl ?_
        refine Go.aload (pc' := 329) at_327 rfl rfl rfl ?_
        refine Go.callV (cells' := 7) (slots' := 21) (pc' := 332) [] [] F202_0 (ww hw 101 rfl) (ww hw 40 rfl) (fun s' hs' => notFace_of_selects (args := #[]) (mvT hs' (ww hw 42 rfl))) (ww hw 42 rfl) (ww hw 41 rfl) (ww hw 18 rfl) (ww hw 43 rfl) (by decide) (c_getSec l Z a0 hw h202 r_202 (2 : Int64) F202_1) pd_4 rfl rfl rfl rfl rfl (nl rfl) (nl rfl) (nl rfl) (nl rfl) at_329 rfl ?_
        rintro _ _ ⟨rfl, rfl⟩
        show Go _ _ _ _ _ _ _ _ _ _ _ _ 332 #[.val (.long p0), .second, .val (.int p1), .val (.long p2), .second, .val (.int p3), .val (.long f), .second, .val (.int (3 : Int32)), .val (.ref b142), .val (.long f), .second, .val (.long d172), .second, .val (.long (d172 - f)), .second, .val (.long (f + (d172 - f))), .second, .val (.long ((3 : Int64) - (d172 - f))), .second, .val (.ref r_197), .val .null, .val (.ref r_202)] [(.long (2 : Int64))]
        refine Go.iload (pc' := 334) at_332 rfl rfl ?_
        refine Go.iconst (pc' := 335) (v := (1 : Int32)) at_334 rfl rfl ?_
        refine Go.isub (pc' := 336) at_335 rfl ?_
        show Go _ _ _ _ _ _ _ _ _ _ _ _ 336 #[.val (.long p0), .second, .val (.int p1), .val (.long p2), .second, .val (.int p3), .val (.long f), .second, .val (.int (3 : Int32)), .val (.ref b142), .val (.long f), .second, .val (.long d172), .second, .val (.long (d172 - f)), .second, .val (.long (f + (d172 - f))), .second, .val (.long ((3 : Int64) - (d172 - f))), .second, .val (.ref r_197), .val .null, .val (.ref r_202)] [(.int (2 : Int32)), (.long (2 : Int64))]
        refine Go.i2l (pc' := 337) at_336 rfl ?_
        show Go _ _ _ _ _ _ _ _ _ _ _ _ 337 #[.val (.long p0), .second, .val (.int p1), .val (.long p2), .second, .val (.int p3), .val (.long f), .second, .val (.int (3 : Int32)), .val (.ref b142), .val (.long f), .second, .val (.long d172), .second, .val (.long (d172 - f)), .second, .val (.long (f + (d172 - f))), .second, .val (.long ((3 : Int64) - (d172 - f))), .second, .val (.ref r_197), .val .null, .val (.ref r_202)] [(.long (2 : Int64)), (.long (2 : Int64))]
        refine Go.lcmp (pc' := 338) at_337 rfl ?_
        refine Go.ifNo (pc' := 341) at_338 (XT.ll_ne_f (by decide)) rfl ?_
        refine Go.iconst (pc' := 342) (v := (1 : Int32)) at_341 rfl rfl ?_
        refine Go.goto (pc' := 346) at_342 (by decide) (by decide) ?_
        exact Go.retN (t := .boolean) rfl (by simp) at_346 ⟨rfl, K204⟩ (by decide) (by decide)
      ·
        refine Go.aload (pc' := 143) at_141 rfl rfl rfl ?_
        refine Go.lload (pc' := 145) at_143 rfl rfl ?_
        refine Go.callV (cells' := 5) (slots' := 17) (pc' := 148) [(.long d172)] [] (f166.keep K170) (ww hw 62 rfl) (ww hw 63 rfl) (fun s' hs' => notFace_of_selects (args := #[]) (mvT hs' (ww hw 65 rfl))) (ww hw 65 rfl) (ww hw 64 rfl) (ww hw 3 rfl) (ww hw 66 rfl) (by decide) (c_drop3_2 l Z a0 hw h170 b142 sa_145 ks_145 na_145 f d172 q174_0 q174_1 q174_2 ge142 ne151 (f166.keep K170) F170_0 F170_1 F170_2 F170_3 F170_4 F170_5) pd_8 rfl rfl rfl rfl rfl (nl rfl) (nl rfl) (nl rfl) (nl rfl) at_145 rfl ?_
        rintro _ h206 ⟨rfl, K206, F206_0, F206_1, F206_2, F206_3, F206_4⟩
        have K207 : Keep h h206 [] := K171.trans K206 (allS (Or.inr sz143) all0)
        show Go _ _ _ _ _ _ _ _ _ _ _ _ 148 #[.val (.long p0), .second, .val (.int p1), .val (.long p2), .second, .val (.int p3), .val (.long f), .second, .val (.int (3 : Int32)), .val (.ref b142), .val (.long f), .second, .val (.long d172), .second, .unset, .unset, .unset, .unset, .unset, .unset, .unset, .unset, .unset] []
        refine Go.lload (pc' := 150) at_148 rfl rfl ?_
        refine Go.lload (pc' := 152) at_150 rfl rfl ?_
        refine Go.lcmp (pc' := 153) at_152 rfl ?_
        refine Go.ifYes (pc' := 162) at_153 (XT.ll_gt_t q174_0) (by decide) (by decide) ?_
        refine Go.lload (pc' := 164) at_162 rfl rfl ?_
        refine Go.lload (pc' := 166) at_164 rfl rfl ?_
        refine Go.iload (pc' := 168) at_166 rfl rfl ?_
        refine Go.i2l (pc' := 169) at_168 rfl ?_
        show Go _ _ _ _ _ _ _ _ _ _ _ _ 169 #[.val (.long p0), .second, .val (.int p1), .val (.long p2), .second, .val (.int p3), .val (.long f), .second, .val (.int (3 : Int32)), .val (.ref b142), .val (.long f), .second, .val (.long d172), .second, .unset, .unset, .unset, .unset, .unset, .unset, .unset, .unset, .unset] [(.long (3 : Int64)), (.long f), (.long d172)]
        refine Go.ladd (pc' := 170) at_169 rfl ?_
        refine Go.lcmp (pc' := 171) at_170 rfl ?_
        refine Go.ifYes (pc' := 182) at_171 (XT.ll_lt_t q174_3) (by decide) (by decide) ?_
        refine Go.lload (pc' := 184) at_182 rfl rfl ?_
        refine Go.lload (pc' := 186) at_184 rfl rfl ?_
        refine Go.lsub (pc' := 187) at_186 rfl ?_
        refine Go.lstore (pc' := 189) (Ls' := #[.val (.long p0), .second, .val (.int p1), .val (.long p2), .second, .val (.int p3), .val (.long f), .second, .val (.int (3 : Int32)), .val (.ref b142), .val (.long f), .second, .val (.long d172), .second, .val (.long (d172 - f)), .second, .unset, .unset, .unset, .unset, .unset, .unset, .unset]) at_187 rfl rfl ?_
        refine Go.lload (pc' := 191) at_189 rfl rfl ?_
        refine Go.lload (pc' := 193) at_191 rfl rfl ?_
        refine Go.ladd (pc' := 194) at_193 rfl ?_
        refine Go.lstore (pc' := 196) (Ls' := #[.val (.long p0), .second, .val (.int p1), .val (.long p2), .second, .val (.int p3), .val (.long f), .second, .val (.int (3 : Int32)), .val (.ref b142), .val (.long f), .second, .val (.long d172), .second, .val (.long (d172 - f)), .second, .val (.long (f + (d172 - f))), .second, .unset, .unset, .unset, .unset, .unset]) at_194 rfl rfl ?_
        refine Go.iload (pc' := 198) at_196 rfl rfl ?_
        refine Go.i2l (pc' := 199) at_198 rfl ?_
        show Go _ _ _ _ _ _ _ _ _ _ _ _ 199 #[.val (.long p0), .second, .val (.int p1), .val (.long p2), .second, .val (.int p3), .val (.long f), .second, .val (.int (3 : Int32)), .val (.ref b142), .val (.long f), .second, .val (.long d172), .second, .val (.long (d172 - f)), .second, .val (.long (f + (d172 - f))), .second, .unset, .unset, .unset, .unset, .unset] [(.long (3 : Int64))]
        refine Go.lload (pc' := 201) at_199 rfl rfl ?_
        refine Go.lsub (pc' := 202) at_201 rfl ?_
        refine Go.lstore (pc' := 204) (Ls' := #[.val (.long p0), .second, .val (.int p1), .val (.long p2), .second, .val (.int p3), .val (.long f), .second, .val (.int (3 : Int32)), .val (.ref b142), .val (.long f), .second, .val (.long d172), .second, .val (.long (d172 - f)), .second, .val (.long (f + (d172 - f))), .second, .val (.long ((3 : Int64) - (d172 - f))), .second, .unset, .unset, .unset]) at_202 rfl rfl ?_
        refine Go.aload (pc' := 206) at_204 rfl rfl rfl ?_
        refine Go.callV (cells' := 5) (slots' := 17) (pc' := 209) [] [] ((f166.keep K170).keep K206) (ww hw 67 rfl) (ww hw 68 rfl) (fun s' hs' => notFace_of_selects (args := #[]) (mvT hs' (ww hw 70 rfl))) (ww hw 70 rfl) (ww hw 69 rfl) (ww hw 3 rfl) (ww hw 71 rfl) (by decide) (c_first l Z a0 hw h206 b142 (((f + (1 : Int64)) + (1 : Int64))) F206_4) pd_4 rfl rfl rfl rfl rfl (nl rfl) (nl rfl) (nl rfl) (nl rfl) at_206 rfl ?_
        rintro _ _ ⟨rfl, rfl⟩
        show Go _ _ _ _ _ _ _ _ _ _ _ _ 209 #[.val (.long p0), .second, .val (.int p1), .val (.long p2), .second, .val (.int p3), .val (.long f), .second, .val (.int (3 : Int32)), .val (.ref b142), .val (.long f), .second, .val (.long d172), .second, .val (.long (d172 - f)), .second, .val (.long (f + (d172 - f))), .second, .val (.long ((3 : Int64) - (d172 - f))), .second, .unset, .unset, .unset] [(.long ((f + (1 : Int64)) + (1 : Int64)))]
        refine Go.lload (pc' := 211) at_209 rfl rfl ?_
        refine Go.lcmp (pc' := 212) at_211 rfl ?_
        refine Go.ifNo (pc' := 215) at_212 (XT.ll_ne_f (by exact (own_ax31 f d172 q174_4) : ((f + (1 : Int64)) + (1 : Int64)) = (f + (d172 - f)))) rfl ?_
        refine Go.aload (pc' := 217) at_215 rfl rfl rfl ?_
        refine Go.callV (cells' := 5) (slots' := 17) (pc' := 220) [] [] ((f166.keep K170).keep K206) (ww hw 72 rfl) (ww hw 73 rfl) (fun s' hs' => notFace_of_selects (args := #[]) (mvT hs' (ww hw 75 rfl))) (ww hw 75 rfl) (ww hw 74 rfl) (ww hw 3 rfl) (ww hw 76 rfl) (by decide) (c_size l Z a0 hw h206 b142 (1 : Int32) F206_3) pd_5 rfl rfl rfl rfl rfl (nl rfl) (nl rfl) (nl rfl) (nl rfl) at_217 rfl ?_
        rintro _ _ ⟨rfl, rfl⟩
        show Go _ _ _ _ _ _ _ _ _ _ _ _ 220 #[.val (.long p0), .second, .val (.int p1), .val (.long p2), .second, .val (.int p3), .val (.long f), .second, .val (.int (3 : Int32)), .val (.ref b142), .val (.long f), .second, .val (.long d172), .second, .val (.long (d172 - f)), .second, .val (.long (f + (d172 - f))), .second, .val (.long ((3 : Int64) - (d172 - f))), .second, .unset, .unset, .unset] [(.int (1 : Int32))]
        refine Go.i2l (pc' := 221) at_220 rfl ?_
        show Go _ _ _ _ _ _ _ _ _ _ _ _ 221 #[.val (.long p0), .second, .val (.int p1), .val (.long p2), .second, .val (.int p3), .val (.long f), .second, .val (.int (3 : Int32)), .val (.ref b142), .val (.long f), .second, .val (.long d172), .second, .val (.long (d172 - f)), .second, .val (.long (f + (d172 - f))), .second, .val (.long ((3 : Int64) - (d172 - f))), .second, .unset, .unset, .unset] [(.long (1 : Int64))]
        refine Go.lload (pc' := 223) at_221 rfl rfl ?_
        refine Go.lcmp (pc' := 224) at_223 rfl ?_
        refine Go.ifNo (pc' := 227) at_224 (XT.ll_ne_f (by exact (own_ax32 f d172 q174_4) : (1 : Int64) = ((3 : Int64) - (d172 - f)))) rfl ?_
        refine Go.aload (pc' := 229) at_227 rfl rfl rfl ?_
        refine Go.callV (cells' := 5) (slots' := 17) (pc' := 232) [] [] ((f166.keep K170).keep K206) (ww hw 77 rfl) (ww hw 78 rfl) (fun s' hs' => notFace_of_selects (args := #[]) (mvT hs' (ww hw 80 rfl))) (ww hw 80 rfl) (ww hw 79 rfl) (ww hw 3 rfl) (ww hw 81 rfl) (by decide) (c_end1 l Z a0 hw h206 b142 (((f + (1 : Int64)) + (1 : Int64))) F206_4 F206_3) pd_4 rfl rfl rfl rfl rfl (nl rfl) (nl rfl) (nl rfl) (nl rfl) at_229 rfl ?_
        rintro _ _ ⟨rfl, rfl⟩
        show Go _ _ _ _ _ _ _ _ _ _ _ _ 232 #[.val (.long p0), .second, .val (.int p1), .val (.long p2), .second, .val (.int p3), .val (.long f), .second, .val (.int (3 : Int32)), .val (.ref b142), .val (.long f), .second, .val (.long d172), .second, .val (.long (d172 - f)), .second, .val (.long (f + (d172 - f))), .second, .val (.long ((3 : Int64) - (d172 - f))), .second, .unset, .unset, .unset] [(.long (((f + (1 : Int64)) + (1 : Int64)) + (1 : Int64)))]
        refine Go.lload (pc' := 234) at_232 rfl rfl ?_
        refine Go.iload (pc' := 236) at_234 rfl rfl ?_
        refine Go.i2l (pc' := 237) at_236 rfl ?_
        show Go _ _ _ _ _ _ _ _ _ _ _ _ 237 #[.val (.long p0), .second, .val (.int p1), .val (.long p2), .second, .val (.int p3), .val (.long f), .second, .val (.int (3 : Int32)), .val (.ref b142), .val (.long f), .second, .val (.long d172), .second, .val (.long (d172 - f)), .second, .val (.long (f + (d172 - f))), .second, .val (.long ((3 : Int64) - (d172 - f))), .second, .unset, .unset, .unset] [(.long (3 : Int64)), (.long f), (.long (((f + (1 : Int64)) + (1 : Int64)) + (1 : Int64)))]
        refine Go.ladd (pc' := 238) at_237 rfl ?_
        refine Go.lcmp (pc' := 239) at_238 rfl ?_
        refine Go.ifYes (pc' := 244) at_239 (XT.ll_eq_t (by exact (own_ax33 f) : (((f + (1 : Int64)) + (1 : Int64)) + (1 : Int64)) = (f + (3 : Int64)))) (by decide) (by decide) ?_
        refine Go.aload (pc' := 246) at_244 rfl rfl rfl ?_
        refine Go.lload (pc' := 248) at_246 rfl rfl ?_
        have f211 : Arv Z h206 sa_145 ks_145 .long (4 : Int32) [(.long 0), (.long 1), (.long 2), (.long 0)] (.long 0) := (F170_5.keep K206 (ninS (Ne.symm ne151) nin0))
        have f212 : Arv Z h206 na_145 kn_145 .int (4 : Int32) [(.int 0), (.int 0), (.int 0), (.int 0)] (.int 0) := (F170_6.keep K206 (ninS (Ne.symm ne152) nin0))
        refine Go.callV (cells' := 6) (slots' := 19) (pc' := 251) [(.long (f + (d172 - f)))] [] ((f166.keep K170).keep K206) (ww hw 82 rfl) (ww hw 83 rfl) (fun s' hs' => notFace_of_selects (args := #[]) (mvT hs' (ww hw 85 rfl))) (ww hw 85 rfl) (ww hw 84 rfl) (ww hw 3 rfl) (ww hw 86 rfl) (by decide) (c_get3_2_0 l Z a0 hw h206 b142 sa_145 ks_145 na_145 kn_145 ((f + (d172 - f))) (((f + (1 : Int64)) + (1 : Int64))) wp (own_ax34 f d172 q174_4) sp xp fp gp (((f166.keep K170).keep K206)) F206_0 F206_1 F206_2 F206_3 F206_4 f211 f212) pd_9 rfl rfl rfl rfl rfl (nl rfl) (nl rfl) (nl rfl) (nl rfl) at_248 rfl ?_
        rintro _ h213 ⟨r_213, rfl, K213, ge_r_213, sz_r_213, F213_0, F213_1, F213_2⟩
        have sz214 : h.size ≤ r_213 := Nat.le_trans K207.1 sz_r_213
        have K215 : Keep h h213 [] := K207.trans K213 all0
        show Go _ _ _ _ _ _ _ _ _ _ _ _ 251 #[.val (.long p0), .second, .val (.int p1), .val (.long p2), .second, .val (.int p3), .val (.long f), .second, .val (.int (3 : Int32)), .val (.ref b142), .val (.long f), .second, .val (.long d172), .second, .val (.long (d172 - f)), .second, .val (.long (f + (d172 - f))), .second, .val (.long ((3 : Int64) - (d172 - f))), .second, .unset, .unset, .unset] [(.ref r_213)]
        refine Go.astore (pc' := 253) (Ls' := #[.val (.long p0), .second, .val (.int p1), .val (.long p2), .second, .val (.int p3), .val (.long f), .second, .val (.int (3 : Int32)), .val (.ref b142), .val (.long f), .second, .val (.long d172), .second, .val (.long (d172 - f)), .second, .val (.long (f + (d172 - f))), .second, .val (.long ((3 : Int64) - (d172 - f))), .second, .val (.ref r_213), .unset, .unset]) at_251 rfl rfl rfl ?_
        refine Go.aload (pc' := 255) at_253 rfl rfl rfl ?_
        refine Go.lload (pc' := 257) at_255 rfl rfl ?_
        refine Go.lconst (pc' := 258) (v := (1 : Int64)) at_257 rfl rfl ?_
        refine Go.lsub (pc' := 259) at_258 rfl ?_
        refine Go.callV (cells' := 6) (slots' := 19) (pc' := 262) [(.long ((f + (d172 - f)) - (1 : Int64)))] [] (((f166.keep K170).keep K206).keep K213) (ww hw 82 rfl) (ww hw 83 rfl) (fun s' hs' => notFace_of_selects (args := #[]) (mvT hs' (ww hw 85 rfl))) (ww hw 85 rfl) (ww hw 84 rfl) (ww hw 3 rfl) (ww hw 86 rfl) (by decide) (c_get3_2_m1 l Z a0 hw h213 b142 sa_145 ks_145 na_145 kn_145 (((f + (d172 - f)) - (1 : Int64))) (((f + (1 : Int64)) + (1 : Int64))) wp (own_ax35 f d172 q174_4) sp xp fp gp ((((f166.keep K170).keep K206).keep K213)) (F206_0.keep K213 nin0) (F206_1.keep K213 nin0) (F206_2.keep K213 nin0) (F206_3.keep K213 nin0) (F206_4.keep K213 nin0) (f211.keep K213 nin0) (f212.keep K213 nin0)) pd_9 rfl rfl rfl rfl rfl (nl rfl) (nl rfl) (nl rfl) (nl rfl) at_259 rfl ?_
        rintro _ _ ⟨rfl, rfl⟩
        show Go _ _ _ _ _ _ _ _ _ _ _ _ 262 #[.val (.long p0), .second, .val (.int p1), .val (.long p2), .second, .val (.int p3), .val (.long f), .second, .val (.int (3 : Int32)), .val (.ref b142), .val (.long f), .second, .val (.long d172), .second, .val (.long (d172 - f)), .second, .val (.long (f + (d172 - f))), .second, .val (.long ((3 : Int64) - (d172 - f))), .second, .val (.ref r_213), .unset, .unset] [.null]
        refine Go.astore (pc' := 264) (Ls' := #[.val (.long p0), .second, .val (.int p1), .val (.long p2), .second, .val (.int p3), .val (.long f), .second, .val (.int (3 : Int32)), .val (.ref b142), .val (.long f), .second, .val (.long d172), .second, .val (.long (d172 - f)), .second, .val (.long (f + (d172 - f))), .second, .val (.long ((3 : Int64) - (d172 - f))), .second, .val (.ref r_213), .val .null, .unset]) at_262 rfl rfl rfl ?_
        refine Go.aload (pc' := 266) at_264 rfl rfl rfl ?_
        refine Go.nullYes (pc' := 271) at_266 rfl (by decide) (by decide) ?_
        refine Go.lload (pc' := 273) at_271 rfl rfl ?_
        refine Go.lconst (pc' := 274) (v := (0 : Int64)) at_273 rfl rfl ?_
        refine Go.lcmp (pc' := 275) at_274 rfl ?_
        refine Go.ifYes (pc' := 289) at_275 (XT.ll_ne_t (by exact (own_ax36 f d172 q174_4) : ¬ (((3 : Int64) - (d172 - f)) = (0 : Int64)))) (by decide) (by decide) ?_
        refine Go.aload (pc' := 291) at_289 rfl rfl rfl ?_
        refine Go.nullNo (pc' := 294) at_291 rfl nofun rfl ?_
        refine Go.aload (pc' := 296) at_294 rfl rfl rfl ?_
        refine Go.callV (cells' := 6) (slots' := 19) (pc' := 299) [] [] F213_0 (ww hw 101 rfl) (ww hw 40 rfl) (fun s' hs' => notFace_of_selects (args := #[]) (mvT hs' (ww hw 42 rfl))) (ww hw 42 rfl) (ww hw 41 rfl) (ww hw 18 rfl) (ww hw 43 rfl) (by decide) (c_getSec l Z a0 hw h213 r_213 (2 : Int64) F213_1) pd_4 rfl rfl rfl rfl rfl (nl rfl) (nl rfl) (nl rfl) (nl rfl) at_296 rfl ?_
        rintro _ _ ⟨rfl, rfl⟩
        show Go _ _ _ _ _ _ _ _ _ _ _ _ 299 #[.val (.long p0), .second, .val (.int p1), .val (.long p2), .second, .val (.int p3), .val (.long f), .second, .val (.int (3 : Int32)), .val (.ref b142), .val (.long f), .second, .val (.long d172), .second, .val (.long (d172 - f)), .second, .val (.long (f + (d172 - f))), .second, .val (.long ((3 : Int64) - (d172 - f))), .second, .val (.ref r_213), .val .null, .unset] [(.long (2 : Int64))]
        refine Go.lload (pc' := 301) at_299 rfl rfl ?_
        refine Go.lcmp (pc' := 302) at_301 rfl ?_
        refine Go.ifYes (pc' := 307) at_302 (XT.ll_eq_t (by exact (own_ax37 f d172 q174_4) : (2 : Int64) = (d172 - f))) (by decide) (by decide) ?_
        refine Go.aload (pc' := 309) at_307 rfl rfl rfl ?_
        refine Go.lload (pc' := 311) at_309 rfl rfl ?_
        refine Go.iload (pc' := 313) at_311 rfl rfl ?_
        refine Go.i2l (pc' := 314) at_313 rfl ?_
        show Go _ _ _ _ _ _ _ _ _ _ _ _ 314 #[.val (.long p0), .second, .val (.int p1), .val (.long p2), .second, .val (.int p3), .val (.long f), .second, .val (.int (3 : Int32)), .val (.ref b142), .val (.long f), .second, .val (.long d172), .second, .val (.long (d172 - f)), .second, .val (.long (f + (d172 - f))), .second, .val (.long ((3 : Int64) - (d172 - f))), .second, .val (.ref r_213), .val .null, .unset] [(.long (3 : Int64)), (.long f), (.ref b142)]
        refine Go.ladd (pc' := 315) at_314 rfl ?_
        refine Go.lconst (pc' := 316) (v := (1 : Int64)) at_315 rfl rfl ?_
        refine Go.lsub (pc' := 317) at_316 rfl ?_
        refine Go.callV (cells' := 7) (slots' := 21) (pc' := 320) [(.long ((f + (3 : Int64)) - (1 : Int64)))] [] (((f166.keep K170).keep K206).keep K213) (ww hw 82 rfl) (ww hw 83 rfl) (fun s' hs' => notFace_of_selects (args := #[]) (mvT hs' (ww hw 85 rfl))) (ww hw 85 rfl) (ww hw 84 rfl) (ww hw 3 rfl) (ww hw 86 rfl) (by decide) (c_get3_2_0 l Z a0 hw h213 b142 sa_145 ks_145 na_145 kn_145 (((f + (3 : Int64)) - (1 : Int64))) (((f + (1 : Int64)) + (1 : Int64))) wp (own_ax38 f) sp xp fp gp ((((f166.keep K170).keep K206).keep K213)) (F206_0.keep K213 nin0) (F206_1.keep K213 nin0) (F206_2.keep K213 nin0) (F206_3.keep K213 nin0) (F206_4.keep K213 nin0) (f211.keep K213 nin0) (f212.keep K213 nin0)) pd_9 rfl rfl rfl rfl rfl (nl rfl) (nl rfl) (nl rfl) (nl rfl) at_317 rfl ?_
        rintro _ h218 ⟨r_218, rfl, K218, ge_r_218, sz_r_218, F218_0, F218_1, F218_2⟩
        have sz219 : h.size ≤ r_218 := Nat.le_trans K215.1 sz_r_218
        have K220 : Keep h h218 [] := K215.trans K218 all0
        show Go _ _ _ _ _ _ _ _ _ _ _ _ 320 #[.val (.long p0), .second, .val (.int p1), .val (.long p2), .second, .val (.int p3), .val (.long f), .second, .val (.int (3 : Int32)), .val (.ref b142), .val (.long f), .second, .val (.long d172), .second, .val (.long (d172 - f)), .second, .val (.long (f + (d172 - f))), .second, .val (.long ((3 : Int64) - (d172 - f))), .second, .val (.ref r_213), .val .null, .unset] [(.ref r_218)]
        refine Go.astore (pc' := 322) (Ls' := #[.val (.long p0), .second, .val (.int p1), .val (.long p2), .second, .val (.int p3), .val (.long f), .second, .val (.int (3 : Int32)), .val (.ref b142), .val (.long f), .second, .val (.long d172), .second, .val (.long (d172 - f)), .second, .val (.long (f + (d172 - f))), .second, .val (.long ((3 : Int64) - (d172 - f))), .second, .val (.ref r_213), .val .null, .val (.ref r_218)]) at_320 rfl rfl rfl ?_
        refine Go.aload (pc' := 324) at_322 rfl rfl rfl ?_
        refine Go.nullNo (pc' := 327) at_324 rfl nofun rfl ?_
        refine Go.aload (pc' := 329) at_327 rfl rfl rfl ?_
        refine Go.callV (cells' := 7) (slots' := 21) (pc' := 332) [] [] F218_0 (ww hw 101 rfl) (ww hw 40 rfl) (fun s' hs' => notFace_of_selects (args := #[]) (mvT hs' (ww hw 42 rfl))) (ww hw 42 rfl) (ww hw 41 rfl) (ww hw 18 rfl) (ww hw 43 rfl) (by decide) (c_getSec l Z a0 hw h218 r_218 (2 : Int64) F218_1) pd_4 rfl rfl rfl rfl rfl (nl rfl) (nl rfl) (nl rfl) (nl rfl) at_329 rfl ?_
        rintro _ _ ⟨rfl, rfl⟩
        show Go _ _ _ _ _ _ _ _ _ _ _ _ 332 #[.val (.long p0), .second, .val (.int p1), .val (.long p2), .second, .val (.int p3), .val (.long f), .second, .val (.int (3 : Int32)), .val (.ref b142), .val (.long f), .second, .val (.long d172), .second, .val (.long (d172 - f)), .second, .val (.long (f + (d172 - f))), .second, .val (.long ((3 : Int64) - (d172 - f))), .second, .val (.ref r_213), .val .null, .val (.ref r_218)] [(.long (2 : Int64))]
        refine Go.iload (pc' := 334) at_332 rfl rfl ?_
        refine Go.iconst (pc' := 335) (v := (1 : Int32)) at_334 rfl rfl ?_
        refine Go.isub (pc' := 336) at_335 rfl ?_
        show Go _ _ _ _ _ _ _ _ _ _ _ _ 336 #[.val (.long p0), .second, .val (.int p1), .val (.long p2), .second, .val (.int p3), .val (.long f), .second, .val (.int (3 : Int32)), .val (.ref b142), .val (.long f), .second, .val (.long d172), .second, .val (.long (d172 - f)), .second, .val (.long (f + (d172 - f))), .second, .val (.long ((3 : Int64) - (d172 - f))), .second, .val (.ref r_213), .val .null, .val (.ref r_218)] [(.int (2 : Int32)), (.long (2 : Int64))]
        refine Go.i2l (pc' := 337) at_336 rfl ?_
        show Go _ _ _ _ _ _ _ _ _ _ _ _ 337 #[.val (.long p0), .second, .val (.int p1), .val (.long p2), .second, .val (.int p3), .val (.long f), .second, .val (.int (3 : Int32)), .val (.ref b142), .val (.long f), .second, .val (.long d172), .second, .val (.long (d172 - f)), .second, .val (.long (f + (d172 - f))), .second, .val (.long ((3 : Int64) - (d172 - f))), .second, .val (.ref r_213), .val .null, .val (.ref r_218)] [(.long (2 : Int64)), (.long (2 : Int64))]
        refine Go.lcmp (pc' := 338) at_337 rfl ?_
        refine Go.ifNo (pc' := 341) at_338 (XT.ll_ne_f (by decide)) rfl ?_
        refine Go.iconst (pc' := 342) (v := (1 : Int32)) at_341 rfl rfl ?_
        refine Go.goto (pc' := 346) at_342 (by decide) (by decide) ?_
        exact Go.retN (t := .boolean) rfl (by simp) at_346 ⟨rfl, K220⟩ (by decide) (by decide)
      ·
        refine Go.aload (pc' := 143) at_141 rfl rfl rfl ?_
        refine Go.lload (pc' := 145) at_143 rfl rfl ?_
        refine Go.callV (cells' := 5) (slots' := 17) (pc' := 148) [(.long d172)] [] (f166.keep K170) (ww hw 62 rfl) (ww hw 63 rfl) (fun s' hs' => notFace_of_selects (args := #[]) (mvT hs' (ww hw 65 rfl))) (ww hw 65 rfl) (ww hw 64 rfl) (ww hw 3 rfl) (ww hw 66 rfl) (by decide) (c_drop3_3 l Z a0 hw h170 b142 sa_145 ks_145 na_145 f d172 q174_0 q174_1 q174_2 ge142 ne151 (f166.keep K170) F170_0 F170_1 F170_2 F170_3 F170_4 F170_5) pd_8 rfl rfl rfl rfl rfl (nl rfl) (nl rfl) (nl rfl) (nl rfl) at_145 rfl ?_
        rintro _ h222 ⟨rfl, K222, F222_0, F222_1, F222_2, F222_3, F222_4⟩
        have K223 : Keep h h222 [] := K171.trans K222 (allS (Or.inr sz143) all0)
        show Go _ _ _ _ _ _ _ _ _ _ _ _ 148 #[.val (.long p0), .second, .val (.int p1), .val (.long p2), .second, .val (.int p3), .val (.long f), .second, .val (.int (3 : Int32)), .val (.ref b142), .val (.long f), .second, .val (.long d172), .second, .unset, .unset, .unset, .unset, .unset, .unset, .unset, .unset, .unset] []
        refine Go.lload (pc' := 150) at_148 rfl rfl ?_
        refine Go.lload (pc' := 152) at_150 rfl rfl ?_
        refine Go.lcmp (pc' := 153) at_152 rfl ?_
        refine Go.ifYes (pc' := 162) at_153 (XT.ll_gt_t q174_0) (by decide) (by decide) ?_
        refine Go.lload (pc' := 164) at_162 rfl rfl ?_
        refine Go.lload (pc' := 166) at_164 rfl rfl ?_
        refine Go.iload (pc' := 168) at_166 rfl rfl ?_
        refine Go.i2l (pc' := 169) at_168 rfl ?_
        show Go _ _ _ _ _ _ _ _ _ _ _ _ 169 #[.val (.long p0), .second, .val (.int p1), .val (.long p2), .second, .val (.int p3), .val (.long f), .second, .val (.int (3 : Int32)), .val (.ref b142), .val (.long f), .second, .val (.long d172), .second, .unset, .unset, .unset, .unset, .unset, .unset, .unset, .unset, .unset] [(.long (3 : Int64)), (.long f), (.long d172)]
        refine Go.ladd (pc' := 170) at_169 rfl ?_
        refine Go.lcmp (pc' := 171) at_170 rfl ?_
        refine Go.ifNo (pc' := 174) at_171 (XT.ll_lt_f q174_3) rfl ?_
        refine Go.iload (pc' := 176) at_174 rfl rfl ?_
        refine Go.i2l (pc' := 177) at_176 rfl ?_
        show Go _ _ _ _ _ _ _ _ _ _ _ _ 177 #[.val (.long p0), .second, .val (.int p1), .val (.long p2), .second, .val (.int p3), .val (.long f), .second, .val (.int (3 : Int32)), .val (.ref b142), .val (.long f), .second, .val (.long d172), .second, .unset, .unset, .unset, .unset, .unset, .unset, .unset, .unset, .unset] [(.long (3 : Int64))]
        refine Go.lstore (pc' := 179) (Ls' := #[.val (.long p0), .second, .val (.int p1), .val (.long p2), .second, .val (.int p3), .val (.long f), .second, .val (.int (3 : Int32)), .val (.ref b142), .val (.long f), .second, .val (.long d172), .second, .val (.long (3 : Int64)), .second, .unset, .unset, .unset, .unset, .unset, .unset, .unset]) at_177 rfl rfl ?_
        refine Go.goto (pc' := 189) at_179 (by decide) (by decide) ?_
        refine Go.lload (pc' := 191) at_189 rfl rfl ?_
        refine Go.lload (pc' := 193) at_191 rfl rfl ?_
        refine Go.ladd (pc' := 194) at_193 rfl ?_
        refine Go.lstore (pc' := 196) (Ls' := #[.val (.long p0), .second, .val (.int p1), .val (.long p2), .second, .val (.int p3), .val (.long f), .second, .val (.int (3 : Int32)), .val (.ref b142), .val (.long f), .second, .val (.long d172), .second, .val (.long (3 : Int64)), .second, .val (.long (f + (3 : Int64))), .second, .unset, .unset, .unset, .unset, .unset]) at_194 rfl rfl ?_
        refine Go.iload (pc' := 198) at_196 rfl rfl ?_
        refine Go.i2l (pc' := 199) at_198 rfl ?_
        show Go _ _ _ _ _ _ _ _ _ _ _ _ 199 #[.val (.long p0), .second, .val (.int p1), .val (.long p2), .second, .val (.int p3), .val (.long f), .second, .val (.int (3 : Int32)), .val (.ref b142), .val (.long f), .second, .val (.long d172), .second, .val (.long (3 : Int64)), .second, .val (.long (f + (3 : Int64))), .second, .unset, .unset, .unset, .unset, .unset] [(.long (3 : Int64))]
        refine Go.lload (pc' := 201) at_199 rfl rfl ?_
        refine Go.lsub (pc' := 202) at_201 rfl ?_
        show Go _ _ _ _ _ _ _ _ _ _ _ _ 202 #[.val (.long p0), .second, .val (.int p1), .val (.long p2), .second, .val (.int p3), .val (.long f), .second, .val (.int (3 : Int32)), .val (.ref b142), .val (.long f), .second, .val (.long d172), .second, .val (.long (3 : Int64)), .second, .val (.long (f + (3 : Int64))), .second, .unset, .unset, .unset, .unset, .unset] [(.long (0 : Int64))]
        refine Go.lstore (pc' := 204) (Ls' := #[.val (.long p0), .second, .val (.int p1), .val (.long p2), .second, .val (.int p3), .val (.long f), .second, .val (.int (3 : Int32)), .val (.ref b142), .val (.long f), .second, .val (.long d172), .second, .val (.long (3 : Int64)), .second, .val (.long (f + (3 : Int64))), .second, .val (.long (0 : Int64)), .second, .unset, .unset, .unset]) at_202 rfl rfl ?_
        refine Go.aload (pc' := 206) at_204 rfl rfl rfl ?_
        refine Go.callV (cells' := 5) (slots' := 17) (pc' := 209) [] [] ((f166.keep K170).keep K222) (ww hw 67 rfl) (ww hw 68 rfl) (fun s' hs' => notFace_of_selects (args := #[]) (mvT hs' (ww hw 70 rfl))) (ww hw 70 rfl) (ww hw 69 rfl) (ww hw 3 rfl) (ww hw 71 rfl) (by decide) (c_first l Z a0 hw h222 b142 ((((f + (1 : Int64)) + (1 : Int64)) + (1 : Int64))) F222_4) pd_4 rfl rfl rfl rfl rfl (nl rfl) (nl rfl) (nl rfl) (nl rfl) at_206 rfl ?_
        rintro _ _ ⟨rfl, rfl⟩
        show Go _ _ _ _ _ _ _ _ _ _ _ _ 209 #[.val (.long p0), .second, .val (.int p1), .val (.long p2), .second, .val (.int p3), .val (.long f), .second, .val (.int (3 : Int32)), .val (.ref b142), .val (.long f), .second, .val (.long d172), .second, .val (.long (3 : Int64)), .second, .val (.long (f + (3 : Int64))), .second, .val (.long (0 : Int64)), .second, .unset, .unset, .unset] [(.long (((f + (1 : Int64)) + (1 : Int64)) + (1 : Int64)))]
        refine Go.lload (pc' := 211) at_209 rfl rfl ?_
        refine Go.lcmp (pc' := 212) at_211 rfl ?_
        refine Go.ifNo (pc' := 215) at_212 (XT.ll_ne_f (by exact (own_ax33 f) : (((f + (1 : Int64)) + (1 : Int64)) + (1 : Int64)) = (f + (3 : Int64)))) rfl ?_
        refine Go.aload (pc' := 217) at_215 rfl rfl rfl ?_
        refine Go.callV (cells' := 5) (slots' := 17) (pc' := 220) [] [] ((f166.keep K170).keep K222) (ww hw 72 rfl) (ww hw 73 rfl) (fun s' hs' => notFace_of_selects (args := #[]) (mvT hs' (ww hw 75 rfl))) (ww hw 75 rfl) (ww hw 74 rfl) (ww hw 3 rfl) (ww hw 76 rfl) (by decide) (c_size l Z a0 hw h222 b142 (0 : Int32) F222_3) pd_5 rfl rfl rfl rfl rfl (nl rfl) (nl rfl) (nl rfl) (nl rfl) at_217 rfl ?_
        rintro _ _ ⟨rfl, rfl⟩
        show Go _ _ _ _ _ _ _ _ _ _ _ _ 220 #[.val (.long p0), .second, .val (.int p1), .val (.long p2), .second, .val (.int p3), .val (.long f), .second, .val (.int (3 : Int32)), .val (.ref b142), .val (.long f), .second, .val (.long d172), .second, .val (.long (3 : Int64)), .second, .val (.long (f + (3 : Int64))), .second, .val (.long (0 : Int64)), .second, .unset, .unset, .unset] [(.int (0 : Int32))]
        refine Go.i2l (pc' := 221) at_220 rfl ?_
        show Go _ _ _ _ _ _ _ _ _ _ _ _ 221 #[.val (.long p0), .second, .val (.int p1), .val (.long p2), .second, .val (.int p3), .val (.long f), .second, .val (.int (3 : Int32)), .val (.ref b142), .val (.long f), .second, .val (.long d172), .second, .val (.long (3 : Int64)), .second, .val (.long (f + (3 : Int64))), .second, .val (.long (0 : Int64)), .second, .unset, .unset, .unset] [(.long (0 : Int64))]
        refine Go.lload (pc' := 223) at_221 rfl rfl ?_
        refine Go.lcmp (pc' := 224) at_223 rfl ?_
        refine Go.ifNo (pc' := 227) at_224 (XT.ll_ne_f (by decide)) rfl ?_
        refine Go.aload (pc' := 229) at_227 rfl rfl rfl ?_
        refine Go.callV (cells' := 5) (slots' := 17) (pc' := 232) [] [] ((f166.keep K170).keep K222) (ww hw 77 rfl) (ww hw 78 rfl) (fun s' hs' => notFace_of_selects (args := #[]) (mvT hs' (ww hw 80 rfl))) (ww hw 80 rfl) (ww hw 79 rfl) (ww hw 3 rfl) (ww hw 81 rfl) (by decide) (c_end0 l Z a0 hw h222 b142 ((((f + (1 : Int64)) + (1 : Int64)) + (1 : Int64))) F222_4 F222_3) pd_4 rfl rfl rfl rfl rfl (nl rfl) (nl rfl) (nl rfl) (nl rfl) at_229 rfl ?_
        rintro _ _ ⟨rfl, rfl⟩
        show Go _ _ _ _ _ _ _ _ _ _ _ _ 232 #[.val (.long p0), .second, .val (.int p1), .val (.long p2), .second, .val (.int p3), .val (.long f), .second, .val (.int (3 : Int32)), .val (.ref b142), .val (.long f), .second, .val (.long d172), .second, .val (.long (3 : Int64)), .second, .val (.long (f + (3 : Int64))), .second, .val (.long (0 : Int64)), .second, .unset, .unset, .unset] [(.long ((((f + (1 : Int64)) + (1 : Int64)) + (1 : Int64)) + (0 : Int64)))]
        refine Go.lload (pc' := 234) at_232 rfl rfl ?_
        refine Go.iload (pc' := 236) at_234 rfl rfl ?_
        refine Go.i2l (pc' := 237) at_236 rfl ?_
        show Go _ _ _ _ _ _ _ _ _ _ _ _ 237 #[.val (.long p0), .second, .val (.int p1), .val (.long p2), .second, .val (.int p3), .val (.long f), .second, .val (.int (3 : Int32)), .val (.ref b142), .val (.long f), .second, .val (.long d172), .second, .val (.long (3 : Int64)), .second, .val (.long (f + (3 : Int64))), .second, .val (.long (0 : Int64)), .second, .unset, .unset, .unset] [(.long (3 : Int64)), (.long f), (.long ((((f + (1 : Int64)) + (1 : Int64)) + (1 : Int64)) + (0 : Int64)))]
        refine Go.ladd (pc' := 238) at_237 rfl ?_
        refine Go.lcmp (pc' := 239) at_238 rfl ?_
        refine Go.ifYes (pc' := 244) at_239 (XT.ll_eq_t (by exact (own_ax39 f) : ((((f + (1 : Int64)) + (1 : Int64)) + (1 : Int64)) + (0 : Int64)) = (f + (3 : Int64)))) (by decide) (by decide) ?_
        refine Go.aload (pc' := 246) at_244 rfl rfl rfl ?_
        refine Go.lload (pc' := 248) at_246 rfl rfl ?_
        have f227 : Arv Z h222 sa_145 ks_145 .long (4 : Int32) [(.long 0), (.long 1), (.long 2), (.long 0)] (.long 0) := (F170_5.keep K222 (ninS (Ne.symm ne151) nin0))
        have f228 : Arv Z h222 na_145 kn_145 .int (4 : Int32) [(.int 0), (.int 0), (.int 0), (.int 0)] (.int 0) := (F170_6.keep K222 (ninS (Ne.symm ne152) nin0))
        refine Go.callV (cells' := 5) (slots' := 17) (pc' := 251) [(.long (f + (3 : Int64)))] [] ((f166.keep K170).keep K222) (ww hw 82 rfl) (ww hw 83 rfl) (fun s' hs' => notFace_of_selects (args := #[]) (mvT hs' (ww hw 85 rfl))) (ww hw 85 rfl) (ww hw 84 rfl) (ww hw 3 rfl) (ww hw 86 rfl) (by decide) (c_get3_3_0 l Z a0 hw h222 b142 sa_145 ks_145 na_145 kn_145 ((f + (3 : Int64))) ((((f + (1 : Int64)) + (1 : Int64)) + (1 : Int64))) wp (own_ax40 f) sp xp fp gp (((f166.keep K170).keep K222)) F222_0 F222_1 F222_2 F222_3 F222_4 f227 f228) pd_9 rfl rfl rfl rfl rfl (nl rfl) (nl rfl) (nl rfl) (nl rfl) at_248 rfl ?_
        rintro _ _ ⟨rfl, rfl⟩
        show Go _ _ _ _ _ _ _ _ _ _ _ _ 251 #[.val (.long p0), .second, .val (.int p1), .val (.long p2), .second, .val (.int p3), .val (.long f), .second, .val (.int (3 : Int32)), .val (.ref b142), .val (.long f), .second, .val (.long d172), .second, .val (.long (3 : Int64)), .second, .val (.long (f + (3 : Int64))), .second, .val (.long (0 : Int64)), .second, .unset, .unset, .unset] [.null]
        refine Go.astore (pc' := 253) (Ls' := #[.val (.long p0), .second, .val (.int p1), .val (.long p2), .second, .val (.int p3), .val (.long f), .second, .val (.int (3 : Int32)), .val (.ref b142), .val (.long f), .second, .val (.long d172), .second, .val (.long (3 : Int64)), .second, .val (.long (f + (3 : Int64))), .second, .val (.long (0 : Int64)), .second, .val .null, .unset, .unset]) at_251 rfl rfl rfl ?_
        refine Go.aload (pc' := 255) at_253 rfl rfl rfl ?_
        refine Go.lload (pc' := 257) at_255 rfl rfl ?_
        refine Go.lconst (pc' := 258) (v := (1 : Int64)) at_257 rfl rfl ?_
        refine Go.lsub (pc' := 259) at_258 rfl ?_
        refine Go.callV (cells' := 5) (slots' := 17) (pc' := 262) [(.long ((f + (3 : Int64)) - (1 : Int64)))] [] ((f166.keep K170).keep K222) (ww hw 82 rfl) (ww hw 83 rfl) (fun s' hs' => notFace_of_selects (args := #[]) (mvT hs' (ww hw 85 rfl))) (ww hw 85 rfl) (ww hw 84 rfl) (ww hw 3 rfl) (ww hw 86 rfl) (by decide) (c_get3_3_m1 l Z a0 hw h222 b142 sa_145 ks_145 na_145 kn_145 (((f + (3 : Int64)) - (1 : Int64))) ((((f + (1 : Int64)) + (1 : Int64)) + (1 : Int64))) wp (own_ax41 f) sp xp fp gp (((f166.keep K170).keep K222)) F222_0 F222_1 F222_2 F222_3 F222_4 f227 f228) pd_9 rfl rfl rfl rfl rfl (nl rfl) (nl rfl) (nl rfl) (nl rfl) at_259 rfl ?_
        rintro _ _ ⟨rfl, rfl⟩
        show Go _ _ _ _ _ _ _ _ _ _ _ _ 262 #[.val (.long p0), .second, .val (.int p1), .val (.long p2), .second, .val (.int p3), .val (.long f), .second, .val (.int (3 : Int32)), .val (.ref b142), .val (.long f), .second, .val (.long d172), .second, .val (.long (3 : Int64)), .second, .val (.long (f + (3 : Int64))), .second, .val (.long (0 : Int64)), .second, .val .null, .unset, .unset] [.null]
        refine Go.astore (pc' := 264) (Ls' := #[.val (.long p0), .second, .val (.int p1), .val (.long p2), .second, .val (.int p3), .val (.long f), .second, .val (.int (3 : Int32)), .val (.ref b142), .val (.long f), .second, .val (.long d172), .second, .val (.long (3 : Int64)), .second, .val (.long (f + (3 : Int64))), .second, .val (.long (0 : Int64)), .second, .val .null, .val .null, .unset]) at_262 rfl rfl rfl ?_
        refine Go.aload (pc' := 266) at_264 rfl rfl rfl ?_
        refine Go.nullYes (pc' := 271) at_266 rfl (by decide) (by decide) ?_
        refine Go.lload (pc' := 273) at_271 rfl rfl ?_
        refine Go.lconst (pc' := 274) (v := (0 : Int64)) at_273 rfl rfl ?_
        refine Go.lcmp (pc' := 275) at_274 rfl ?_
        refine Go.ifNo (pc' := 278) at_275 (XT.ll_ne_f (by decide)) rfl ?_
        refine Go.aload (pc' := 280) at_278 rfl rfl rfl ?_
        refine Go.nonnullNo (pc' := 283) at_280 rfl rfl ?_
        refine Go.iconst (pc' := 284) (v := (1 : Int32)) at_283 rfl rfl ?_
        refine Go.goto (pc' := 288) at_284 (by decide) (by decide) ?_
        exact Go.retN (t := .boolean) rfl (by simp) at_288 ⟨rfl, K223⟩ (by decide) (by decide)
    by_cases hc231 : (p3 &&& (1 : Int32)) = (0 : Int32)
    ·
      refine Go.ifNo (pc' := 123) at_120 (XT.i0_ne_f hc231) rfl ?_
      refine Go.lloadN (pc' := 124) at_123 rfl rfl ?_
      refine Go.goto (pc' := 139) at_124 (by decide) (by decide) ?_
      exact key173 _
    ·
      refine Go.ifYes (pc' := 127) at_120 (XT.i0_ne_t hc231) (by decide) (by decide) ?_
      refine Go.lload (pc' := 129) at_127 rfl rfl ?_
      refine Go.lloadN (pc' := 130) at_129 rfl rfl ?_
      refine Go.ldc2J (pc' := 133) (ww hw 102 rfl) at_130 rfl ?_
      refine Go.land (pc' := 134) at_133 rfl ?_
      refine Go.ldc2J (pc' := 137) (ww hw 103 rfl) at_134 rfl ?_
      refine Go.lsub (pc' := 138) at_137 rfl ?_
      refine Go.ladd (pc' := 139) at_138 rfl ?_
      exact key173 _
  ·
    rw [hk1]
    refine Go.new (pc' := 16) (cells' := 1) (slots' := 5) (ww hw 1 rfl) (ww hw 2 rfl) (ww hw 3 rfl) at_13 rfl rfl (by decide) (by decide) rfl ?_
    intro h232 b232 g232 E232 ge232 A232 D232
    have sz233 : h.size ≤ b232 := Nat.le_trans (Keep.refl h []).1 (Nat.le_of_eq g232.symm)
    have K234 : Keep h h232 [] := (Keep.refl h []).ext E232
    refine Go.dup (pc' := 17) at_16 rfl rfl ?_
    refine Go.callC (cells' := 3) (slots' := 13) (pc' := 20) [] [(.ref b232)] (a := b232) rfl rfl (ww hw 4 rfl) (ww hw 5 rfl) (ww hw 3 rfl) (ww hw 6 rfl) (by decide) (c_ringInit l Z a0 hw h232 b232 ge232 A232 ((D232 (Or.inl (ww hw 12 rfl)) (ty := (.array .long)) (by decide) : Fld Z h232 b232 "com/example/rens/rens/TimeRing" "seconds" "[J" .null)) ((D232 (Or.inl (ww hw 15 rfl)) (ty := (.array .int)) (by decide) : Fld Z h232 b232 "com/example/rens/rens/TimeRing" "nanos" "[I" .null)) ((D232 (Or.inl (ww hw 38 rfl)) (ty := .int) (by decide) : Fld Z h232 b232 "com/example/rens/rens/TimeRing" "head" "I" (.int (0 : Int32)))) ((D232 (Or.inl (ww hw 30 rfl)) (ty := .int) (by decide) : Fld Z h232 b232 "com/example/rens/rens/TimeRing" "size" "I" (.int (0 : Int32)))) ((D232 (Or.inl (ww hw 32 rfl)) (ty := .long) (by decide) : Fld Z h232 b232 "com/example/rens/rens/TimeRing" "first" "J" (.long (0 : Int64))))) pd_7 rfl rfl rfl rfl rfl (nl rfl) (nl rfl) (nl rfl) (nl rfl) at_17 rfl ?_
    rintro _ h235 ⟨sa_235, ks_235, na_235, kn_235, rfl, K235, ge_sa_235, sz_sa_235, ge_na_235, sz_na_235, ne235_0, F235_0, F235_1, F235_2, F235_3, F235_4, F235_5, F235_6⟩
    have sz236 : h.size ≤ sa_235 := Nat.le_trans K234.1 sz_sa_235
    have sz237 : h.size ≤ na_235 := Nat.le_trans K234.1 sz_na_235
    have K238 : Keep h h235 [] := K234.trans K235 (allS (Or.inr sz233) all0)
    show Go _ _ _ _ _ _ _ _ _ _ _ _ 20 #[.val (.long p0), .second, .val (.int p1), .val (.long p2), .second, .val (.int p3), .val (.long f), .second, .val (.int (4 : Int32)), .unset, .unset, .unset, .unset, .unset, .unset, .unset, .unset, .unset, .unset, .unset, .unset, .unset, .unset] [(.ref b232)]
    refine Go.astore (pc' := 22) (Ls' := #[.val (.long p0), .second, .val (.int p1), .val (.long p2), .second, .val (.int p3), .val (.long f), .second, .val (.int (4 : Int32)), .val (.ref b232), .unset, .unset, .unset, .unset, .unset, .unset, .unset, .unset, .unset, .unset, .unset, .unset, .unset]) at_20 rfl rfl rfl ?_
    refine Go.iload (pc' := 24) at_22 rfl rfl ?_
    refine Go.ifNo (pc' := 27) at_24 (XT.i0_le_f (by decide)) rfl ?_
    refine Go.aload (pc' := 29) at_27 rfl rfl rfl ?_
    refine Go.lload (pc' := 31) at_29 rfl rfl ?_
    refine Go.lconst (pc' := 32) (v := (0 : Int64)) at_31 rfl rfl ?_
    refine Go.callS (cells' := 3) (slots' := 13) (pc' := 35) [(.long (0 : Int64))] [(.long f), (.ref b232)] (ww hw 16 rfl) (ww hw 17 rfl) (ww hw 18 rfl) (ww hw 19 rfl) (by decide) (c_ofSec0 l Z a0 hw h235 wp sp xp fp gp) pd_9 rfl rfl rfl rfl rfl (nl rfl) (nl rfl) (nl rfl) (nl rfl) at_32 rfl ?_
    rintro _ _ ⟨rfl, rfl⟩
    show Go _ _ _ _ _ _ _ _ _ _ _ _ 35 #[.val (.long p0), .second, .val (.int p1), .val (.long p2), .second, .val (.int p3), .val (.long f), .second, .val (.int (4 : Int32)), .val (.ref b232), .unset, .unset, .unset, .unset, .unset, .unset, .unset, .unset, .unset, .unset, .unset, .unset, .unset] [(.ref wp), (.long f), (.ref b232)]
    refine Go.old (fun old240 => ?_)
    have ne241 : b232 ≠ sa_235 := (Nat.ne_of_lt (Nat.lt_of_lt_of_le A232.lt sz_sa_235))
    have ne242 : b232 ≠ na_235 := (Nat.ne_of_lt (Nat.lt_of_lt_of_le A232.lt sz_na_235))
    refine Go.callV (cells' := 3) (slots' := 13) (pc' := 38) [(.long f), (.ref wp)] [] (A232.keep K235) (ww hw 24 rfl) (ww hw 25 rfl) (fun s' hs' => notFace_of_selects (args := #[]) (mvT hs' (ww hw 27 rfl))) (ww hw 27 rfl) (ww hw 26 rfl) (ww hw 3 rfl) (ww hw 28 rfl) (by decide) (c_set0 l Z a0 hw h235 b232 sa_235 ks_235 na_235 kn_235 f wp ge232 ge_sa_235 ge_na_235 ne241 ne242 ne235_0 (old240.ne xp.lt ge232) (old240.ne xp.lt ge_sa_235) (old240.ne xp.lt ge_na_235) (A232.keep K235) F235_0 F235_1 F235_2 F235_3 F235_4 F235_5 F235_6 (xp.ext old240.2) (fp.ext old240.2) (gp.ext old240.2)) pd_10 rfl rfl rfl rfl rfl (nl rfl) (nl rfl) (nl rfl) (nl rfl) at_35 rfl ?_
    rintro _ h243 ⟨rfl, K243, F243_0, F243_1, F243_2, F243_3, F243_4, F243_5, F243_6⟩
    have K244 : Keep h h243 [] := K238.trans K243 (allS (Or.inr sz233) (allS (Or.inr sz236) (allS (Or.inr sz237) all0)))
    show Go _ _ _ _ _ _ _ _ _ _ _ _ 38 #[.val (.long p0), .second, .val (.int p1), .val (.long p2), .second, .val (.int p3), .val (.long f), .second, .val (.int (4 : Int32)), .val (.ref b232), .unset, .unset, .unset, .unset, .unset, .unset, .unset, .unset, .unset, .unset, .unset, .unset, .unset] []
    refine Go.iload (pc' := 40) at_38 rfl rfl ?_
    refine Go.iconst (pc' := 41) (v := (1 : Int32)) at_40 rfl rfl ?_
    refine Go.icmpNo (pc' := 44) at_41 (XT.ii_le_f (by decide)) rfl ?_
    refine Go.aload (pc' := 46) at_44 rfl rfl rfl ?_
    refine Go.lload (pc' := 48) at_46 rfl rfl ?_
    refine Go.lconst (pc' := 49) (v := (1 : Int64)) at_48 rfl rfl ?_
    refine Go.ladd (pc' := 50) at_49 rfl ?_
    refine Go.lconst (pc' := 51) (v := (1 : Int64)) at_50 rfl rfl ?_
    refine Go.callS (cells' := 4) (slots' := 15) (pc' := 54) [(.long (1 : Int64))] [(.long (f + (1 : Int64))), (.ref b232)] (ww hw 16 rfl) (ww hw 17 rfl) (ww hw 18 rfl) (ww hw 19 rfl) (by decide) (c_ofSec1 l Z a0 hw h243) pd_9 rfl rfl rfl rfl rfl (nl rfl) (nl rfl) (nl rfl) (nl rfl) at_51 rfl ?_
    rintro _ h245 ⟨r_245, rfl, K245, ge_r_245, sz_r_245, F245_0, F245_1, F245_2⟩
    have sz246 : h.size ≤ r_245 := Nat.le_trans K244.1 sz_r_245
    have K247 : Keep h h245 [] := K244.trans K245 all0
    show Go _ _ _ _ _ _ _ _ _ _ _ _ 54 #[.val (.long p0), .second, .val (.int p1), .val (.long p2), .second, .val (.int p3), .val (.long f), .second, .val (.int (4 : Int32)), .val (.ref b232), .unset, .unset, .unset, .unset, .unset, .unset, .unset, .unset, .unset, .unset, .unset, .unset, .unset] [(.ref r_245), (.long (f + (1 : Int64))), (.ref b232)]
    have ne248 : b232 ≠ r_245 := (Nat.ne_of_lt (Nat.lt_of_lt_of_le F243_4.lt sz_r_245))
    have ne249 : sa_235 ≠ r_245 := (Nat.ne_of_lt (Nat.lt_of_lt_of_le F243_5.lt sz_r_245))
    have ne250 : na_235 ≠ r_245 := (Nat.ne_of_lt (Nat.lt_of_lt_of_le F243_6.lt sz_r_245))
    refine Go.callV (cells' := 4) (slots' := 15) (pc' := 57) [(.long (f + (1 : Int64))), (.ref r_245)] [] (((A232.keep K235).keep K243).keep K245) (ww hw 24 rfl) (ww hw 25 rfl) (fun s' hs' => notFace_of_selects (args := #[]) (mvT hs' (ww hw 27 rfl))) (ww hw 27 rfl) (ww hw 26 rfl) (ww hw 3 rfl) (ww hw 28 rfl) (by decide) (c_set1 l Z a0 hw h245 b232 sa_235 ks_235 na_235 kn_235 f r_245 ge232 ge_sa_235 ge_na_235 ne241 ne242 ne235_0 (Ne.symm ne248) (Ne.symm ne249) (Ne.symm ne250) ((((A232.keep K235).keep K243).keep K245)) (F243_0.keep K245 nin0) (F243_1.keep K245 nin0) (F243_2.keep K245 nin0) (F243_3.keep K245 nin0) (F243_4.keep K245 nin0) (F243_5.keep K245 nin0) (F243_6.keep K245 nin0) F245_0 F245_1 F245_2) pd_10 rfl rfl rfl rfl rfl (nl rfl) (nl rfl) (nl rfl) (nl rfl) at_54 rfl ?_
    rintro _ h251 ⟨rfl, K251, F251_0, F251_1, F251_2, F251_3, F251_4, F251_5, F251_6⟩
    have K252 : Keep h h251 [] := K247.trans K251 (allS (Or.inr sz233) (allS (Or.inr sz236) (allS (Or.inr sz237) all0)))
    show Go _ _ _ _ _ _ _ _ _ _ _ _ 57 #[.val (.long p0), .second, .val (.int p1), .val (.long p2), .second, .val (.int p3), .val (.long f), .second, .val (.int (4 : Int32)), .val (.ref b232), .unset, .unset, .unset, .unset, .unset, .unset, .unset, .unset, .unset, .unset, .unset, .unset, .unset] []
    refine Go.iload (pc' := 59) at_57 rfl rfl ?_
    refine Go.iconst (pc' := 60) (v := (2 : Int32)) at_59 rfl rfl ?_
    refine Go.icmpNo (pc' := 63) at_60 (XT.ii_le_f (by decide)) rfl ?_
    refine Go.aload (pc' := 65) at_63 rfl rfl rfl ?_
    refine Go.lload (pc' := 67) at_65 rfl rfl ?_
    refine Go.ldc2J (pc' := 70) (ww hw 103 rfl) at_67 rfl ?_
    refine Go.ladd (pc' := 71) at_70 rfl ?_
    refine Go.ldc2J (pc' := 74) (ww hw 103 rfl) at_71 rfl ?_
    refine Go.callS (cells' := 5) (slots' := 17) (pc' := 77) [(.long (2 : Int64))] [(.long (f + (2 : Int64))), (.ref b232)] (ww hw 16 rfl) (ww hw 17 rfl) (ww hw 18 rfl) (ww hw 19 rfl) (by decide) (c_ofSec2 l Z a0 hw h251) pd_9 rfl rfl rfl rfl rfl (nl rfl) (nl rfl) (nl rfl) (nl rfl) at_74 rfl ?_
    rintro _ h253 ⟨r_253, rfl, K253, ge_r_253, sz_r_253, F253_0, F253_1, F253_2⟩
    have sz254 : h.size ≤ r_253 := Nat.le_trans K252.1 sz_r_253
    have K255 : Keep h h253 [] := K252.trans K253 all0
    show Go _ _ _ _ _ _ _ _ _ _ _ _ 77 #[.val (.long p0), .second, .val (.int p1), .val (.long p2), .second, .val (.int p3), .val (.long f), .second, .val (.int (4 : Int32)), .val (.ref b232), .unset, .unset, .unset, .unset, .unset, .unset, .unset, .unset, .unset, .unset, .unset, .unset, .unset] [(.ref r_253), (.long (f + (2 : Int64))), (.ref b232)]
    have f256 : Exa Z h253 b232 "com/example/rens/rens/TimeRing" := (((((A232.keep K235).keep K243).keep K245).keep K251).keep K253)
    have ne257 : b232 ≠ r_253 := (Nat.ne_of_lt (Nat.lt_of_lt_of_le F251_4.lt sz_r_253))
    have ne258 : sa_235 ≠ r_253 := (Nat.ne_of_lt (Nat.lt_of_lt_of_le F251_5.lt sz_r_253))
    have ne259 : na_235 ≠ r_253 := (Nat.ne_of_lt (Nat.lt_of_lt_of_le F251_6.lt sz_r_253))
    refine Go.callV (cells' := 5) (slots' := 17) (pc' := 80) [(.long (f + (2 : Int64))), (.ref r_253)] [] f256 (ww hw 24 rfl) (ww hw 25 rfl) (fun s' hs' => notFace_of_selects (args := #[]) (mvT hs' (ww hw 27 rfl))) (ww hw 27 rfl) (ww hw 26 rfl) (ww hw 3 rfl) (ww hw 28 rfl) (by decide) (c_set2 l Z a0 hw h253 b232 sa_235 ks_235 na_235 kn_235 f r_253 ge232 ge_sa_235 ge_na_235 ne241 ne242 ne235_0 (Ne.symm ne257) (Ne.symm ne258) (Ne.symm ne259) f256 (F251_0.keep K253 nin0) (F251_1.keep K253 nin0) (F251_2.keep K253 nin0) (F251_3.keep K253 nin0) (F251_4.keep K253 nin0) (F251_5.keep K253 nin0) (F251_6.keep K253 nin0) F253_0 F253_1 F253_2) pd_10 rfl rfl rfl rfl rfl (nl rfl) (nl rfl) (nl rfl) (nl rfl) at_77 rfl ?_
    rintro _ h260 ⟨rfl, K260, F260_0, F260_1, F260_2, F260_3, F260_4, F260_5, F260_6⟩
    have K261 : Keep h h260 [] := K255.trans K260 (allS (Or.inr sz233) (allS (Or.inr sz236) (allS (Or.inr sz237) all0)))
    show Go _ _ _ _ _ _ _ _ _ _ _ _ 80 #[.val (.long p0), .second, .val (.int p1), .val (.long p2), .second, .val (.int p3), .val (.long f), .second, .val (.int (4 : Int32)), .val (.ref b232), .unset, .unset, .unset, .unset, .unset, .unset, .unset, .unset, .unset, .unset, .unset, .unset, .unset] []
    refine Go.iload (pc' := 82) at_80 rfl rfl ?_
    refine Go.iconst (pc' := 83) (v := (3 : Int32)) at_82 rfl rfl ?_
    refine Go.icmpNo (pc' := 86) at_83 (XT.ii_le_f (by decide)) rfl ?_
    refine Go.aload (pc' := 88) at_86 rfl rfl rfl ?_
    refine Go.lload (pc' := 90) at_88 rfl rfl ?_
    refine Go.ldc2J (pc' := 93) (ww hw 104 rfl) at_90 rfl ?_
    refine Go.ladd (pc' := 94) at_93 rfl ?_
    refine Go.ldc2J (pc' := 97) (ww hw 104 rfl) at_94 rfl ?_
    refine Go.callS (cells' := 6) (slots' := 19) (pc' := 100) [(.long (3 : Int64))] [(.long (f + (3 : Int64))), (.ref b232)] (ww hw 16 rfl) (ww hw 17 rfl) (ww hw 18 rfl) (ww hw 19 rfl) (by decide) (c_ofSec3 l Z a0 hw h260) pd_9 rfl rfl rfl rfl rfl (nl rfl) (nl rfl) (nl rfl) (nl rfl) at_97 rfl ?_
    rintro _ h262 ⟨r_262, rfl, K262, ge_r_262, sz_r_262, F262_0, F262_1, F262_2⟩
    have sz263 : h.size ≤ r_262 := Nat.le_trans K261.1 sz_r_262
    have K264 : Keep h h262 [] := K261.trans K262 all0
    show Go _ _ _ _ _ _ _ _ _ _ _ _ 100 #[.val (.long p0), .second, .val (.int p1), .val (.long p2), .second, .val (.int p3), .val (.long f), .second, .val (.int (4 : Int32)), .val (.ref b232), .unset, .unset, .unset, .unset, .unset, .unset, .unset, .unset, .unset, .unset, .unset, .unset, .unset] [(.ref r_262), (.long (f + (3 : Int64))), (.ref b232)]
    have ne265 : b232 ≠ r_262 := (Nat.ne_of_lt (Nat.lt_of_lt_of_le F260_4.lt sz_r_262))
    have ne266 : sa_235 ≠ r_262 := (Nat.ne_of_lt (Nat.lt_of_lt_of_le F260_5.lt sz_r_262))
    have ne267 : na_235 ≠ r_262 := (Nat.ne_of_lt (Nat.lt_of_lt_of_le F260_6.lt sz_r_262))
    refine Go.callV (cells' := 6) (slots' := 19) (pc' := 103) [(.long (f + (3 : Int64))), (.ref r_262)] [] ((f256.keep K260).keep K262) (ww hw 24 rfl) (ww hw 25 rfl) (fun s' hs' => notFace_of_selects (args := #[]) (mvT hs' (ww hw 27 rfl))) (ww hw 27 rfl) (ww hw 26 rfl) (ww hw 3 rfl) (ww hw 28 rfl) (by decide) (c_set3 l Z a0 hw h262 b232 sa_235 ks_235 na_235 kn_235 f r_262 ge232 ge_sa_235 ge_na_235 ne241 ne242 ne235_0 (Ne.symm ne265) (Ne.symm ne266) (Ne.symm ne267) (((f256.keep K260).keep K262)) (F260_0.keep K262 nin0) (F260_1.keep K262 nin0) (F260_2.keep K262 nin0) (F260_3.keep K262 nin0) (F260_4.keep K262 nin0) (F260_5.keep K262 nin0) (F260_6.keep K262 nin0) F262_0 F262_1 F262_2) pd_10 rfl rfl rfl rfl rfl (nl rfl) (nl rfl) (nl rfl) (nl rfl) at_100 rfl ?_
    rintro _ h268 ⟨rfl, K268, F268_0, F268_1, F268_2, F268_3, F268_4, F268_5, F268_6⟩
    have K269 : Keep h h268 [] := K264.trans K268 (allS (Or.inr sz233) (allS (Or.inr sz236) (allS (Or.inr sz237) all0)))
    show Go _ _ _ _ _ _ _ _ _ _ _ _ 103 #[.val (.long p0), .second, .val (.int p1), .val (.long p2), .second, .val (.int p3), .val (.long f), .second, .val (.int (4 : Int32)), .val (.ref b232), .unset, .unset, .unset, .unset, .unset, .unset, .unset, .unset, .unset, .unset, .unset, .unset, .unset] []
    refine Go.iload (pc' := 105) at_103 rfl rfl ?_
    refine Go.ifYes (pc' := 112) at_105 (XT.i0_ne_t (by decide)) (by decide) (by decide) ?_
    refine Go.lload (pc' := 114) at_112 rfl rfl ?_
    refine Go.lstore (pc' := 116) (Ls' := #[.val (.long p0), .second, .val (.int p1), .val (.long p2), .second, .val (.int p3), .val (.long f), .second, .val (.int (4 : Int32)), .val (.ref b232), .val (.long f), .second, .unset, .unset, .unset, .unset, .unset, .unset, .unset, .unset, .unset, .unset, .unset]) at_114 rfl rfl ?_
    refine Go.iload (pc' := 118) at_116 rfl rfl ?_
    refine Go.iconst (pc' := 119) (v := (1 : Int32)) at_118 rfl rfl ?_
    refine Go.iand (pc' := 120) at_119 rfl ?_
    have key271 : ∀ d270 : Int64, Go l room_1 Z n0 x code maxLocals ret (fun v h' => v = some (.int (1 : Int32)) ∧ Keep h h' []) 6 19 h268 139 #[.val (.long p0), .second, .val (.int p1), .val (.long p2), .second, .val (.int p3), .val (.long f), .second, .val (.int (4 : Int32)), .val (.ref b232), .val (.long f), .second, .unset, .unset, .unset, .unset, .unset, .unset, .unset, .unset, .unset, .unset, .unset] [(.long d270)] := by
      intro d270
      refine Go.lstore (pc' := 141) (Ls' := #[.val (.long p0), .second, .val (.int p1), .val (.long p2), .second, .val (.int p3), .val (.long f), .second, .val (.int (4 : Int32)), .val (.ref b232), .val (.long f), .second, .val (.long d270), .second, .unset, .unset, .unset, .unset, .unset, .unset, .unset, .unset, .unset]) at_139 rfl rfl ?_
      obtain q272 | ⟨q272_0, q272_1, q272_2, q272_3⟩ | ⟨q272_0, q272_1, q272_2, q272_3, q272_4⟩ | ⟨q272_0, q272_1, q272_2, q272_3, q272_4, q272_5⟩ | ⟨q272_0, q272_1, q272_2, q272_3, q272_4⟩ := own_cut4 f d270 hb
      ·
        refine Go.aload (pc' := 143) at_141 rfl rfl rfl ?_
        refine Go.lload (pc' := 145) at_143 rfl rfl ?_
        refine Go.callV (cells' := 6) (slots' := 19) (pc' := 148) [(.long d270)] [] (((f256.keep K260).keep K262).keep K268) (ww hw 62 rfl) (ww hw 63 rfl) (fun s' hs' => notFace_of_selects (args := #[]) (mvT hs' (ww hw 65 rfl))) (ww hw 65 rfl) (ww hw 64 rfl) (ww hw 3 rfl) (ww hw 66 rfl) (by decide) (c_drop4_0 l Z a0 hw h268 b232 sa_235 ks_235 na_235 f d270 q272 ge232 ne241 ((((f256.keep K260).keep K262).keep K268)) F268_0 F268_1 F268_2 F268_3 F268_4 F268_5) pd_8 rfl rfl rfl rfl rfl (nl rfl) (nl rfl) (nl rfl) (nl rfl) at_145 rfl ?_
        rintro _ h273 ⟨rfl, K273, F273_0, F273_1, F273_2, F273_3, F273_4⟩
        have K274 : Keep h h273 [] := K269.trans K273 (allS (Or.inr sz233) all0)
        show Go _ _ _ _ _ _ _ _ _ _ _ _ 148 #[.val (.long p0), .second, .val (.int p1), .val (.long p2), .second, .val (.int p3), .val (.long f), .second, .val (.int (4 : Int32)), .val (.ref b232), .val (.long f), .second, .val (.long d270), .second, .unset, .unset, .unset, .unset, .unset, .unset, .unset, .unset, .unset] []
        refine Go.lload (pc' := 150) at_148 rfl rfl ?_
        refine Go.lload (pc' := 152) at_150 rfl rfl ?_
        refine Go.lcmp (pc' := 153) at_152 rfl ?_
        refine Go.ifNo (pc' := 156) at_153 (XT.ll_gt_f q272) rfl ?_
        refine Go.lconst (pc' := 157) (v := (0 : Int64)) at_156 rfl rfl ?_
        refine Go.lstore (pc' := 159) (Ls' := #[.val (.long p0), .second, .val (.int p1), .val (.long p2), .second, .val (.int p3), .val (.long f), .second, .val (.int (4 : Int32)), .val (.ref b232), .val (.long f), .second, .val (.long d270), .second, .val (.long (0 : Int64)), .second, .unset, .unset, .unset, .unset, .unset, .unset, .unset]) at_157 rfl rfl ?_
        refine Go.goto (pc' := 189) at_159 (by decide) (by decide) ?_
        refine Go.lload (pc' := 191) at_189 rfl rfl ?_
        refine Go.lload (pc' := 193) at_191 rfl rfl ?_
        refine Go.ladd (pc' := 194) at_193 rfl ?_
        refine Go.lstore (pc' := 196) (Ls' := #[.val (.long p0), .second, .val (.int p1), .val (.long p2), .second, .val (.int p3), .val (.long f), .second, .val (.int (4 : Int32)), .val (.ref b232), .val (.long f), .second, .val (.long d270), .second, .val (.long (0 : Int64)), .second, .val (.long (f + (0 : Int64))), .second, .unset, .unset, .unset, .unset, .unset]) at_194 rfl rfl ?_
        refine Go.iload (pc' := 198) at_196 rfl rfl ?_
        refine Go.i2l (pc' := 199) at_198 rfl ?_
        show Go _ _ _ _ _ _ _ _ _ _ _ _ 199 #[.val (.long p0), .second, .val (.int p1), .val (.long p2), .second, .val (.int p3), .val (.long f), .second, .val (.int (4 : Int32)), .val (.ref b232), .val (.long f), .second, .val (.long d270), .second, .val (.long (0 : Int64)), .second, .val (.long (f + (0 : Int64))), .second, .unset, .unset, .unset, .unset, .unset] [(.long (4 : Int64))]
        refine Go.lload (pc' := 201) at_199 rfl rfl ?_
        refine Go.lsub (pc' := 202) at_201 rfl ?_
        show Go _ _ _ _ _ _ _ _ _ _ _ _ 202 #[.val (.long p0), .second, .val (.int p1), .val (.long p2), .second, .val (.int p3), .val (.long f), .second, .val (.int (4 : Int32)), .val (.ref b232), .val (.long f), .second, .val (.long d270), .second, .val (.long (0 : Int64)), .second, .val (.long (f + (0 : Int64))), .second, .unset, .unset, .unset, .unset, .unset] [(.long (4 : Int64))]
        refine Go.lstore (pc' := 204) (Ls' := #[.val (.long p0), .second, .val (.int p1), .val (.long p2), .second, .val (.int p3), .val (.long f), .second, .val (.int (4 : Int32)), .val (.ref b232), .val (.long f), .second, .val (.long d270), .second, .val (.long (0 : Int64)), .second, .val (.long (f + (0 : Int64))), .second, .val (.long (4 : Int64)), .second, .unset, .unset, .unset]) at_202 rfl rfl ?_
        refine Go.aload (pc' := 206) at_204 rfl rfl rfl ?_
        have f275 : Exa Z h273 b232 "com/example/rens/rens/TimeRing" := ((((f256.keep K260).keep K262).keep K268).keep K273)
        refine Go.callV (cells' := 6) (slots' := 19) (pc' := 209) [] [] f275 (ww hw 67 rfl) (ww hw 68 rfl) (fun s' hs' => notFace_of_selects (args := #[]) (mvT hs' (ww hw 70 rfl))) (ww hw 70 rfl) (ww hw 69 rfl) (ww hw 3 rfl) (ww hw 71 rfl) (by decide) (c_first l Z a0 hw h273 b232 f F273_4) pd_4 rfl rfl rfl rfl rfl (nl rfl) (nl rfl) (nl rfl) (nl rfl) at_206 rfl ?_
        rintro _ _ ⟨rfl, rfl⟩
        show Go _ _ _ _ _ _ _ _ _ _ _ _ 209 #[.val (.long p0), .second, .val (.int p1), .val (.long p2), .second, .val (.int p3), .val (.long f), .second, .val (.int (4 : Int32)), .val (.ref b232), .val (.long f), .second, .val (.long d270), .second, .val (.long (0 : Int64)), .second, .val (.long (f + (0 : Int64))), .second, .val (.long (4 : Int64)), .second, .unset, .unset, .unset] [(.long f)]
        refine Go.lload (pc' := 211) at_209 rfl rfl ?_
        refine Go.lcmp (pc' := 212) at_211 rfl ?_
        refine Go.ifNo (pc' := 215) at_212 (XT.ll_ne_f (by exact (own_ax0 f) : f = (f + (0 : Int64)))) rfl ?_
        refine Go.aload (pc' := 217) at_215 rfl rfl rfl ?_
        refine Go.callV (cells' := 6) (slots' := 19) (pc' := 220) [] [] f275 (ww hw 72 rfl) (ww hw 73 rfl) (fun s' hs' => notFace_of_selects (args := #[]) (mvT hs' (ww hw 75 rfl))) (ww hw 75 rfl) (ww hw 74 rfl) (ww hw 3 rfl) (ww hw 76 rfl) (by decide) (c_size l Z a0 hw h273 b232 (4 : Int32) F273_3) pd_5 rfl rfl rfl rfl rfl (nl rfl) (nl rfl) (nl rfl) (nl rfl) at_217 rfl ?_
        rintro _ _ ⟨rfl, rfl⟩
        show Go _ _ _ _ _ _ _ _ _ _ _ _ 220 #[.val (.long p0), .second, .val (.int p1), .val (.long p2), .second, .val (.int p3), .val (.long f), .second, .val (.int (4 : Int32)), .val (.ref b232), .val (.long f), .second, .val (.long d270), .second, .val (.long (0 : Int64)), .second, .val (.long (f + (0 : Int64))), .second, .val (.long (4 : Int64)), .second, .unset, .unset, .unset] [(.int (4 : Int32))]
        refine Go.i2l (pc' := 221) at_220 rfl ?_
        show Go _ _ _ _ _ _ _ _ _ _ _ _ 221 #[.val (.long p0), .second, .val (.int p1), .val (.long p2), .second, .val (.int p3), .val (.long f), .second, .val (.int (4 : Int32)), .val (.ref b232), .val (.long f), .second, .val (.long d270), .second, .val (.long (0 : Int64)), .second, .val (.long (f + (0 : Int64))), .second, .val (.long (4 : Int64)), .second, .unset, .unset, .unset] [(.long (4 : Int64))]
        refine Go.lload (pc' := 223) at_221 rfl rfl ?_
        refine Go.lcmp (pc' := 224) at_223 rfl ?_
        refine Go.ifNo (pc' := 227) at_224 (XT.ll_ne_f (by decide)) rfl ?_
        refine Go.aload (pc' := 229) at_227 rfl rfl rfl ?_
        refine Go.callV (cells' := 6) (slots' := 19) (pc' := 232) [] [] f275 (ww hw 77 rfl) (ww hw 78 rfl) (fun s' hs' => notFace_of_selects (args := #[]) (mvT hs' (ww hw 80 rfl))) (ww hw 80 rfl) (ww hw 79 rfl) (ww hw 3 rfl) (ww hw 81 rfl) (by decide) (c_end4 l Z a0 hw h273 b232 f F273_4 F273_3) pd_4 rfl rfl rfl rfl rfl (nl rfl) (nl rfl) (nl rfl) (nl rfl) at_229 rfl ?_
        rintro _ _ ⟨rfl, rfl⟩
        show Go _ _ _ _ _ _ _ _ _ _ _ _ 232 #[.val (.long p0), .second, .val (.int p1), .val (.long p2), .second, .val (.int p3), .val (.long f), .second, .val (.int (4 : Int32)), .val (.ref b232), .val (.long f), .second, .val (.long d270), .second, .val (.long (0 : Int64)), .second, .val (.long (f + (0 : Int64))), .second, .val (.long (4 : Int64)), .second, .unset, .unset, .unset] [(.long (f + (4 : Int64)))]
        refine Go.lload (pc' := 234) at_232 rfl rfl ?_
        refine Go.iload (pc' := 236) at_234 rfl rfl ?_
        refine Go.i2l (pc' := 237) at_236 rfl ?_
        show Go _ _ _ _ _ _ _ _ _ _ _ _ 237 #[.val (.long p0), .second, .val (.int p1), .val (.long p2), .second, .val (.int p3), .val (.long f), .second, .val (.int (4 : Int32)), .val (.ref b232), .val (.long f), .second, .val (.long d270), .second, .val (.long (0 : Int64)), .second, .val (.long (f + (0 : Int64))), .second, .val (.long (4 : Int64)), .second, .unset, .unset, .unset] [(.long (4 : Int64)), (.long f), (.long (f + (4 : Int64)))]
        refine Go.ladd (pc' := 238) at_237 rfl ?_
        refine Go.lcmp (pc' := 239) at_238 rfl ?_
        refine Go.ifYes (pc' := 244) at_239 (XT.ll_eq_t rfl) (by decide) (by decide) ?_
        refine Go.aload (pc' := 246) at_244 rfl rfl rfl ?_
        refine Go.lload (pc' := 248) at_246 rfl rfl ?_
        have f279 : Arv Z h273 sa_235 ks_235 .long (4 : Int32) [(.long 0), (.long 1), (.long 2), (.long 3)] (.long 0) := (F268_5.keep K273 (ninS (Ne.symm ne241) nin0))
        have f280 : Arv Z h273 na_235 kn_235 .int (4 : Int32) [(.int 0), (.int 0), (.int 0), (.int 0)] (.int 0) := (F268_6.keep K273 (ninS (Ne.symm ne242) nin0))
        refine Go.callV (cells' := 6) (slots' := 19) (pc' := 251) [(.long (f + (0 : Int64)))] [] f275 (ww hw 82 rfl) (ww hw 83 rfl) (fun s' hs' => notFace_of_selects (args := #[]) (mvT hs' (ww hw 85 rfl))) (ww hw 85 rfl) (ww hw 84 rfl) (ww hw 3 rfl) (ww hw 86 rfl) (by decide) (c_get4_0_0 l Z a0 hw h273 b232 sa_235 ks_235 na_235 kn_235 ((f + (0 : Int64))) f wp (own_ax8 f) sp xp fp gp f275 F273_0 F273_1 F273_2 F273_3 F273_4 f279 f280) pd_9 rfl rfl rfl rfl rfl (nl rfl) (nl rfl) (nl rfl) (nl rfl) at_248 rfl ?_
        rintro _ _ ⟨rfl, rfl⟩
        show Go _ _ _ _ _ _ _ _ _ _ _ _ 251 #[.val (.long p0), .second, .val (.int p1), .val (.long p2), .second, .val (.int p3), .val (.long f), .second, .val (.int (4 : Int32)), .val (.ref b232), .val (.long f), .second, .val (.long d270), .second, .val (.long (0 : Int64)), .second, .val (.long (f + (0 : Int64))), .second, .val (.long (4 : Int64)), .second, .unset, .unset, .unset] [(.ref wp)]
        refine Go.astore (pc' := 253) (Ls' := #[.val (.long p0), .second, .val (.int p1), .val (.long p2), .second, .val (.int p3), .val (.long f), .second, .val (.int (4 : Int32)), .val (.ref b232), .val (.long f), .second, .val (.long d270), .second, .val (.long (0 : Int64)), .second, .val (.long (f + (0 : Int64))), .second, .val (.long (4 : Int64)), .second, .val (.ref wp), .unset, .unset]) at_251 rfl rfl rfl ?_
        refine Go.aload (pc' := 255) at_253 rfl rfl rfl ?_
        refine Go.lload (pc' := 257) at_255 rfl rfl ?_
        refine Go.lconst (pc' := 258) (v := (1 : Int64)) at_257 rfl rfl ?_
        refine Go.lsub (pc' := 259) at_258 rfl ?_
        refine Go.callV (cells' := 6) (slots' := 19) (pc' := 262) [(.long ((f + (0 : Int64)) - (1 : Int64)))] [] f275 (ww hw 82 rfl) (ww hw 83 rfl) (fun s' hs' => notFace_of_selects (args := #[]) (mvT hs' (ww hw 85 rfl))) (ww hw 85 rfl) (ww hw 84 rfl) (ww hw 3 rfl) (ww hw 86 rfl) (by decide) (c_get4_0_m1 l Z a0 hw h273 b232 sa_235 ks_235 na_235 kn_235 (((f + (0 : Int64)) - (1 : Int64))) f wp (own_ax9 f) sp xp fp gp f275 F273_0 F273_1 F273_2 F273_3 F273_4 f279 f280) pd_9 rfl rfl rfl rfl rfl (nl rfl) (nl rfl) (nl rfl) (nl rfl) at_259 rfl ?_
        rintro _ _ ⟨rfl, rfl⟩
        show Go _ _ _ _ _ _ _ _ _ _ _ _ 262 #[.val (.long p0), .second, .val (.int p1), .val (.long p2), .second, .val (.int p3), .val (.long f), .second, .val (.int (4 : Int32)), .val (.ref b232), .val (.long f), .second, .val (.long d270), .second, .val (.long (0 : Int64)), .second, .val (.long (f + (0 : Int64))), .second, .val (.long (4 : Int64)), .second, .val (.ref wp), .unset, .unset] [.null]
        refine Go.astore (pc' := 264) (Ls' := #[.val (.long p0), .second, .val (.int p1), .val (.long p2), .second, .val (.int p3), .val (.long f), .second, .val (.int (4 : Int32)), .val (.ref b232), .val (.long f), .second, .val (.long d270), .second, .val (.long (0 : Int64)), .second, .val (.long (f + (0 : Int64))), .second, .val (.long (4 : Int64)), .second, .val (.ref wp), .val .null, .unset]) at_262 rfl rfl rfl ?_
        refine Go.aload (pc' := 266) at_264 rfl rfl rfl ?_
        refine Go.nullYes (pc' := 271) at_266 rfl (by decide) (by decide) ?_
        refine Go.lload (pc' := 273) at_271 rfl rfl ?_
        refine Go.lconst (pc' := 274) (v := (0 : Int64)) at_273 rfl rfl ?_
        refine Go.lcmp (pc' := 275) at_274 rfl ?_
        refine Go.ifYes (pc' := 289) at_275 (XT.ll_ne_t (by decide)) (by decide) (by decide) ?_
        refine Go.aload (pc' := 291) at_289 rfl rfl rfl ?_
        refine Go.nullNo (pc' := 294) at_291 rfl nofun rfl ?_
        refine Go.aload (pc' := 296) at_294 rfl rfl rfl ?_
        refine Go.old (fun old283 => ?_)
        refine Go.callV (cells' := 6) (slots' := 19) (pc' := 299) [] [] (xp.ext old283.2) (ww hw 101 rfl) (ww hw 40 rfl) (fun s' hs' => notFace_of_selects (args := #[]) (mvT hs' (ww hw 42 rfl))) (ww hw 42 rfl) (ww hw 41 rfl) (ww hw 18 rfl) (ww hw 43 rfl) (by decide) (c_getSec l Z a0 hw h273 wp (0 : Int64) (fp.ext old283.2)) pd_4 rfl rfl rfl rfl rfl (nl rfl) (nl rfl) (nl rfl) (nl rfl) at_296 rfl ?_
        rintro _ _ ⟨rfl, rfl⟩
        show Go _ _ _ _ _ _ _ _ _ _ _ _ 299 #[.val (.long p0), .second, .val (.int p1), .val (.long p2), .second, .val (.int p3), .val (.long f), .second, .val (.int (4 : Int32)), .val (.ref b232), .val (.long f), .second, .val (.long d270), .second, .val (.long (0 : Int64)), .second, .val (.long (f + (0 : Int64))), .second, .val (.long (4 : Int64)), .second, .val (.ref wp), .val .null, .unset] [(.long (0 : Int64))]
        refine Go.lload (pc' := 301) at_299 rfl rfl ?_
        refine Go.lcmp (pc' := 302) at_301 rfl ?_
        refine Go.ifYes (pc' := 307) at_302 (XT.ll_eq_t (by decide)) (by decide) (by decide) ?_
        refine Go.aload (pc' := 309) at_307 rfl rfl rfl ?_
        refine Go.lload (pc' := 311) at_309 rfl rfl ?_
        refine Go.iload (pc' := 313) at_311 rfl rfl ?_
        refine Go.i2l (pc' := 314) at_313 rfl ?_
        show Go _ _ _ _ _ _ _ _ _ _ _ _ 314 #[.val (.long p0), .second, .val (.int p1), .val (.long p2), .second, .val (.int p3), .val (.long f), .second, .val (.int (4 : Int32)), .val (.ref b232), .val (.long f), .second, .val (.long d270), .second, .val (.long (0 : Int64)), .second, .val (.long (f + (0 : Int64))), .second, .val (.long (4 : Int64)), .second, .val (.ref wp), .val .null, .unset] [(.long (4 : Int64)), (.long f), (.ref b232)]
        refine Go.ladd (pc' := 315) at_314 rfl ?_
        refine Go.lconst (pc' := 316) (v := (1 : Int64)) at_315 rfl rfl ?_
        refine Go.lsub (pc' := 317) at_316 rfl ?_
        refine Go.callV (cells' := 7) (slots' := 21) (pc' := 320) [(.long ((f + (4 : Int64)) - (1 : Int64)))] [] f275 (ww hw 82 rfl) (ww hw 83 rfl) (fun s' hs' => notFace_of_selects (args := #[]) (mvT hs' (ww hw 85 rfl))) (ww hw 85 rfl) (ww hw 84 rfl) (ww hw 3 rfl) (ww hw 86 rfl) (by decide) (c_get4_0_3 l Z a0 hw h273 b232 sa_235 ks_235 na_235 kn_235 (((f + (4 : Int64)) - (1 : Int64))) f wp (own_ax42 f) sp xp fp gp f275 F273_0 F273_1 F273_2 F273_3 F273_4 f279 f280) pd_9 rfl rfl rfl rfl rfl (nl rfl) (nl rfl) (nl rfl) (nl rfl) at_317 rfl ?_
        rintro _ h285 ⟨r_285, rfl, K285, ge_r_285, sz_r_285, F285_0, F285_1, F285_2⟩
        have sz286 : h.size ≤ r_285 := Nat.le_trans K274.1 sz_r_285
        have K287 : Keep h h285 [] := K274.trans K285 all0
        show Go _ _ _ _ _ _ _ _ _ _ _ _ 320 #[.val (.long p0), .second, .val (.int p1), .val (.long p2), .second, .val (.int p3), .val (.long f), .second, .val (.int (4 : Int32)), .val (.ref b232), .val (.long f), .second, .val (.long d270), .second, .val (.long (0 : Int64)), .second, .val (.long (f + (0 : Int64))), .second, .val (.long (4 : Int64)), .second, .val (.ref wp), .val .null, .unset] [(.ref r_285)]
        refine Go.astore (pc' := 322) (Ls' := #[.val (.long p0), .second, .val (.int p1), .val (.long p2), .second, .val (.int p3), .val (.long f), .second, .val (.int (4 : Int32)), .val (.ref b232), .val (.long f), .second, .val (.long d270), .second, .val (.long (0 : Int64)), .second, .val (.long (f + (0 : Int64))), .second, .val (.long (4 : Int64)), .second, .val (.ref wp), .val .null, .val (.ref r_285)]) at_320 rfl rfl rfl ?_
        refine Go.aload (pc' := 324) at_322 rfl rfl rfl ?_
        refine Go.nullNo (pc' := 327) at_324 rfl nofun rfl ?_
        refine Go.aload (pc' := 329) at_327 rfl rfl rfl ?_
        refine Go.callV (cells' := 7) (slots' := 21) (pc' := 332) [] [] F285_0 (ww hw 101 rfl) (ww hw 40 rfl) (fun s' hs' => notFace_of_selects (args := #[]) (mvT hs' (ww hw 42 rfl))) (ww hw 42 rfl) (ww hw 41 rfl) (ww hw 18 rfl) (ww hw 43 rfl) (by decide) (c_getSec l Z a0 hw h285 r_285 (3 : Int64) F285_1) pd_4 rfl rfl rfl rfl rfl (nl rfl) (nl rfl) (nl rfl) (nl rfl) at_329 rfl ?_
        rintro _ _ ⟨rfl, rfl⟩
        show Go _ _ _ _ _ _ _ _ _ _ _ _ 332 #[.val (.long p0), .second, .val (.int p1), .val (.long p2), .second, .val (.int p3), .val (.long f), .second, .val (.int (4 : Int32)), .val (.ref b232), .val (.long f), .second, .val (.long d270), .second, .val (.long (0 : Int64)), .second, .val (.long (f + (0 : Int64))), .second, .val (.long (4 : Int64)), .second, .val (.ref wp), .val .null, .val (.ref r_285)] [(.long (3 : Int64))]
        refine Go.iload (pc' := 334) at_332 rfl rfl ?_
        refine Go.iconst (pc' := 335) (v := (1 : Int32)) at_334 rfl rfl ?_
        refine Go.isub (pc' := 336) at_335 rfl ?_
        show Go _ _ _ _ _ _ _ _ _ _ _ _ 336 #[.val (.long p0), .second, .val (.int p1), .val (.long p2), .second, .val (.int p3), .val (.long f), .second, .val (.int (4 : Int32)), .val (.ref b232), .val (.long f), .second, .val (.long d270), .second, .val (.long (0 : Int64)), .second, .val (.long (f + (0 : Int64))), .second, .val (.long (4 : Int64)), .second, .val (.ref wp), .val .null, .val (.ref r_285)] [(.int (3 : Int32)), (.long (3 : Int64))]
        refine Go.i2l (pc' := 337) at_336 rfl ?_
        show Go _ _ _ _ _ _ _ _ _ _ _ _ 337 #[.val (.long p0), .second, .val (.int p1), .val (.long p2), .second, .val (.int p3), .val (.long f), .second, .val (.int (4 : Int32)), .val (.ref b232), .val (.long f), .second, .val (.long d270), .second, .val (.long (0 : Int64)), .second, .val (.long (f + (0 : Int64))), .second, .val (.long (4 : Int64)), .second, .val (.ref wp), .val .null, .val (.ref r_285)] [(.long (3 : Int64)), (.long (3 : Int64))]
        refine Go.lcmp (pc' := 338) at_337 rfl ?_
        refine Go.ifNo (pc' := 341) at_338 (XT.ll_ne_f (by decide)) rfl ?_
        refine Go.iconst (pc' := 342) (v := (1 : Int32)) at_341 rfl rfl ?_
        refine Go.goto (pc' := 346) at_342 (by decide) (by decide) ?_
        exact Go.retN (t := .boolean) rfl (by simp) at_346 ⟨rfl, K287⟩ (by decide) (by decide)
      ·
        refine Go.aload (pc' := 143) at_141 rfl rfl rfl ?_
        refine Go.lload (pc' := 145) at_143 rfl rfl ?_
        refine Go.callV (cells' := 6) (slots' := 19) (pc' := 148) [(.long d270)] [] (((f256.keep K260).keep K262).keep K268) (ww hw 62 rfl) (ww hw 63 rfl) (fun s' hs' => notFace_of_selects (args := #[]) (mvT hs' (ww hw 65 rfl))) (ww hw 65 rfl) (ww hw 64 rfl) (ww hw 3 rfl) (ww hw 66 rfl) (by decide) (c_drop4_1 l Z a0 hw h268 b232 sa_235 ks_235 na_235 f d270 q272_0 q272_1 ge232 ne241 ((((f256.keep K260).keep K262).keep K268)) F268_0 F268_1 F268_2 F268_3 F268_4 F268_5) pd_8 rfl rfl rfl rfl rfl (nl rfl) (nl rfl) (nl rfl) (nl rfl) at_145 rfl ?_
        rintro _ h289 ⟨rfl, K289, F289_0, F289_1, F289_2, F289_3, F289_4⟩
        have K290 : Keep h h289 [] := K269.trans K289 (allS (Or.inr sz233) all0)
        show Go _ _ _ _ _ _ _ _ _ _ _ _ 148 #[.val (.long p0), .second, .val (.int p1), .val (.long p2), .second, .val (.int p3), .val (.long f), .second, .val (.int (4 : Int32)), .val (.ref b232), .val (.long f), .second, .val (.long d270), .second, .unset, .unset, .unset, .unset, .unset, .unset, .unset, .unset, .unset] []
        refine Go.lload (pc' := 150) at_148 rfl rfl ?_
        refine Go.lload (pc' := 152) at_150 rfl rfl ?_
        refine Go.lcmp (pc' := 153) at_152 rfl ?_
        refine Go.ifYes (pc' := 162) at_153 (XT.ll_gt_t q272_0) (by decide) (by decide) ?_
        refine Go.lload (pc' := 164) at_162 rfl rfl ?_
        refine Go.lload (pc' := 166) at_164 rfl rfl ?_
        refine Go.iload (pc' := 168) at_166 rfl rfl ?_
        refine Go.i2l (pc' := 169) at_168 rfl ?_
        show Go _ _ _ _ _ _ _ _ _ _ _ _ 169 #[.val (.long p0), .second, .val (.int p1), .val (.long p2), .second, .val (.int p3), .val (.long f), .second, .val (.int (4 : Int32)), .val (.ref b232), .val (.long f), .second, .val (.long d270), .second, .unset, .unset, .unset, .unset, .unset, .unset, .unset, .unset, .unset] [(.long (4 : Int64)), (.long f), (.long d270)]
        refine Go.ladd (pc' := 170) at_169 rfl ?_
        refine Go.lcmp (pc' := 171) at_170 rfl ?_
        refine Go.ifYes (pc' := 182) at_171 (XT.ll_lt_t q272_2) (by decide) (by decide) ?_
        refine Go.lload (pc' := 184) at_182 rfl rfl ?_
        refine Go.lload (pc' := 186) at_184 rfl rfl ?_
        refine Go.lsub (pc' := 187) at_186 rfl ?_
        refine Go.lstore (pc' := 189) (Ls' := #[.val (.long p0), .second, .val (.int p1), .val (.long p2), .second, .val (.int p3), .val (.long f), .second, .val (.int (4 : Int32)), .val (.ref b232), .val (.long f), .second, .val (.long d270), .second, .val (.long (d270 - f)), .second, .unset, .unset, .unset, .unset, .unset, .unset, .unset]) at_187 rfl rfl ?_
        refine Go.lload (pc' := 191) at_189 rfl rfl ?_
        refine Go.lload (pc' := 193) at_191 rfl rfl ?_
        refine Go.ladd (pc' := 194) at_193 rfl ?_
        refine Go.lstore (pc' := 196) (Ls' := #[.val (.long p0), .second, .val (.int p1), .val (.long p2), .second, .val (.int p3), .val (.long f), .second, .val (.int (4 : Int32)), .val (.ref b232), .val (.long f), .second, .val (.long d270), .second, .val (.long (d270 - f)), .second, .val (.long (f + (d270 - f))), .second, .unset, .unset, .unset, .unset, .unset]) at_194 rfl rfl ?_
        refine Go.iload (pc' := 198) at_196 rfl rfl ?_
        refine Go.i2l (pc' := 199) at_198 rfl ?_
        show Go _ _ _ _ _ _ _ _ _ _ _ _ 199 #[.val (.long p0), .second, .val (.int p1), .val (.long p2), .second, .val (.int p3), .val (.long f), .second, .val (.int (4 : Int32)), .val (.ref b232), .val (.long f), .second, .val (.long d270), .second, .val (.long (d270 - f)), .second, .val (.long (f + (d270 - f))), .second, .unset, .unset, .unset, .unset, .unset] [(.long (4 : Int64))]
        refine Go.lload (pc' := 201) at_199 rfl rfl ?_
        refine Go.lsub (pc' := 202) at_201 rfl ?_
        refine Go.lstore (pc' := 204) (Ls' := #[.val (.long p0), .second, .val (.int p1), .val (.long p2), .second, .val (.int p3), .val (.long f), .second, .val (.int (4 : Int32)), .val (.ref b232), .val (.long f), .second, .val (.long d270), .second, .val (.long (d270 - f)), .second, .val (.long (f + (d270 - f))), .second, .val (.long ((4 : Int64) - (d270 - f))), .second, .unset, .unset, .unset]) at_202 rfl rfl ?_
        refine Go.aload (pc' := 206) at_204 rfl rfl rfl ?_
        have f291 : Exa Z h289 b232 "com/example/rens/rens/TimeRing" := ((((f256.keep K260).keep K262).keep K268).keep K289)
        refine Go.callV (cells' := 6) (slots' := 19) (pc' := 209) [] [] f291 (ww hw 67 rfl) (ww hw 68 rfl) (fun s' hs' => notFace_of_selects (args := #[]) (mvT hs' (ww hw 70 rfl))) (ww hw 70 rfl) (ww hw 69 rfl) (ww hw 3 rfl) (ww hw 71 rfl) (by decide) (c_first l Z a0 hw h289 b232 ((f + (1 : Int64))) F289_4) pd_4 rfl rfl rfl rfl rfl (nl rfl) (nl rfl) (nl rfl) (nl rfl) at_206 rfl ?_
        rintro _ _ ⟨rfl, rfl⟩
        show Go _ _ _ _ _ _ _ _ _ _ _ _ 209 #[.val (.long p0), .second, .val (.int p1), .val (.long p2), .second, .val (.int p3), .val (.long f), .second, .val (.int (4 : Int32)), .val (.ref b232), .val (.long f), .second, .val (.long d270), .second, .val (.long (d270 - f)), .second, .val (.long (f + (d270 - f))), .second, .val (.long ((4 : Int64) - (d270 - f))), .second, .unset, .unset, .unset] [(.long (f + (1 : Int64)))]
        refine Go.lload (pc' := 211) at_209 rfl rfl ?_
        refine Go.lcmp (pc' := 212) at_211 rfl ?_
        refine Go.ifNo (pc' := 215) at_212 (XT.ll_ne_f (by exact (own_ax15 f d270 q272_3) : (f + (1 : Int64)) = (f + (d270 - f)))) rfl ?_
        refine Go.aload (pc' := 217) at_215 rfl rfl rfl ?_
        refine Go.callV (cells' := 6) (slots' := 19) (pc' := 220) [] [] f291 (ww hw 72 rfl) (ww hw 73 rfl) (fun s' hs' => notFace_of_selects (args := #[]) (mvT hs' (ww hw 75 rfl))) (ww hw 75 rfl) (ww hw 74 rfl) (ww hw 3 rfl) (ww hw 76 rfl) (by decide) (c_size l Z a0 hw h289 b232 (3 : Int32) F289_3) pd_5 rfl rfl rfl rfl rfl (nl rfl) (nl rfl) (nl rfl) (nl rfl) at_217 rfl ?_
        rintro _ _ ⟨rfl, rfl⟩
        show Go _ _ _ _ _ _ _ _ _ _ _ _ 220 #[.val (.long p0), .second, .val (.int p1), .val (.long p2), .second, .val (.int p3), .val (.long f), .second, .val (.int (4 : Int32)), .val (.ref b232), .val (.long f), .second, .val (.long d270), .second, .val (.long (d270 - f)), .second, .val (.long (f + (d270 - f))), .second, .val (.long ((4 : Int64) - (d270 - f))), .second, .unset, .unset, .unset] [(.int (3 : Int32))]
        refine Go.i2l (pc' := 221) at_220 rfl ?_
        show Go _ _ _ _ _ _ _ _ _ _ _ _ 221 #[.val (.long p0), .second, .val (.int p1), .val (.long p2), .second, .val (.int p3), .val (.long f), .second, .val (.int (4 : Int32)), .val (.ref b232), .val (.long f), .second, .val (.long d270), .second, .val (.long (d270 - f)), .second, .val (.long (f + (d270 - f))), .second, .val (.long ((4 : Int64) - (d270 - f))), .second, .unset, .unset, .unset] [(.long (3 : Int64))]
        refine Go.lload (pc' := 223) at_221 rfl rfl ?_
        refine Go.lcmp (pc' := 224) at_223 rfl ?_
        refine Go.ifNo (pc' := 227) at_224 (XT.ll_ne_f (by exact (own_ax43 f d270 q272_3) : (3 : Int64) = ((4 : Int64) - (d270 - f)))) rfl ?_
        refine Go.aload (pc' := 229) at_227 rfl rfl rfl ?_
        refine Go.callV (cells' := 6) (slots' := 19) (pc' := 232) [] [] f291 (ww hw 77 rfl) (ww hw 78 rfl) (fun s' hs' => notFace_of_selects (args := #[]) (mvT hs' (ww hw 80 rfl))) (ww hw 80 rfl) (ww hw 79 rfl) (ww hw 3 rfl) (ww hw 81 rfl) (by decide) (c_end3 l Z a0 hw h289 b232 ((f + (1 : Int64))) F289_4 F289_3) pd_4 rfl rfl rfl rfl rfl (nl rfl) (nl rfl) (nl rfl) (nl rfl) at_229 rfl ?_
        rintro _ _ ⟨rfl, rfl⟩
        show Go _ _ _ _ _ _ _ _ _ _ _ _ 232 #[.val (.long p0), .second, .val (.int p1), .val (.long p2), .second, .val (.int p3), .val (.long f), .second, .val (.int (4 : Int32)), .val (.ref b232), .val (.long f), .second, .val (.long d270), .second, .val (.long (d270 - f)), .second, .val (.long (f + (d270 - f))), .second, .val (.long ((4 : Int64) - (d270 - f))), .second, .unset, .unset, .unset] [(.long ((f + (1 : Int64)) + (3 : Int64)))]
        refine Go.lload (pc' := 234) at_232 rfl rfl ?_
        refine Go.iload (pc' := 236) at_234 rfl rfl ?_
        refine Go.i2l (pc' := 237) at_236 rfl ?_
        show Go _ _ _ _ _ _ _ _ _ _ _ _ 237 #[.val (.long p0), .second, .val (.int p1), .val (.long p2), .second, .val (.int p3), .val (.long f), .second, .val (.int (4 : Int32)), .val (.ref b232), .val (.long f), .second, .val (.long d270), .second, .val (.long (d270 - f)), .second, .val (.long (f + (d270 - f))), .second, .val (.long ((4 : Int64) - (d270 - f))), .second, .unset, .unset, .unset] [(.long (4 : Int64)), (.long f), (.long ((f + (1 : Int64)) + (3 : Int64)))]
        refine Go.ladd (pc' := 238) at_237 rfl ?_
        refine Go.lcmp (pc' := 239) at_238 rfl ?_
        refine Go.ifYes (pc' := 244) at_239 (XT.ll_eq_t (by exact (own_ax44 f) : ((f + (1 : Int64)) + (3 : Int64)) = (f + (4 : Int64)))) (by decide) (by decide) ?_
        refine Go.aload (pc' := 246) at_244 rfl rfl rfl ?_
        refine Go.lload (pc' := 248) at_246 rfl rfl ?_
        have f295 : Arv Z h289 sa_235 ks_235 .long (4 : Int32) [(.long 0), (.long 1), (.long 2), (.long 3)] (.long 0) := (F268_5.keep K289 (ninS (Ne.symm ne241) nin0))
        have f296 : Arv Z h289 na_235 kn_235 .int (4 : Int32) [(.int 0), (.int 0), (.int 0), (.int 0)] (.int 0) := (F268_6.keep K289 (ninS (Ne.symm ne242) nin0))
        refine Go.callV (cells' := 7) (slots' := 21) (pc' := 251) [(.long (f + (d270 - f)))] [] f291 (ww hw 82 rfl) (ww hw 83 rfl) (fun s' hs' => notFace_of_selects (args := #[]) (mvT hs' (ww hw 85 rfl))) (ww hw 85 rfl) (ww hw 84 rfl) (ww hw 3 rfl) (ww hw 86 rfl) (by decide) (c_get4_1_0 l Z a0 hw h289 b232 sa_235 ks_235 na_235 kn_235 ((f + (d270 - f))) ((f + (1 : Int64))) wp (own_ax18 f d270 q272_3) sp xp fp gp f291 F289_0 F289_1 F289_2 F289_3 F289_4 f295 f296) pd_9 rfl rfl rfl rfl rfl (nl rfl) (nl rfl) (nl rfl) (nl rfl) at_248 rfl ?_
        rintro _ h297 ⟨r_297, rfl, K297, ge_r_297, sz_r_297, F297_0, F297_1, F297_2⟩
        have sz298 : h.size ≤ r_297 := Nat.le_trans K290.1 sz_r_297
        have K299 : Keep h h297 [] := K290.trans K297 all0
        show Go _ _ _ _ _ _ _ _ _ _ _ _ 251 #[.val (.long p0), .second, .val (.int p1), .val (.long p2), .second, .val (.int p3), .val (.long f), .second, .val (.int (4 : Int32)), .val (.ref b232), .val (.long f), .second, .val (.long d270), .second, .val (.long (d270 - f)), .second, .val (.long (f + (d270 - f))), .second, .val (.long ((4 : Int64) - (d270 - f))), .second, .unset, .unset, .unset] [(.ref r_297)]
        refine Go.astore (pc' := 253) (Ls' := #[.val (.long p0), .second, .val (.int p1), .val (.long p2), .second, .val (.int p3), .val (.long f), .second, .val (.int (4 : Int32)), .val (.ref b232), .val (.long f), .second, .val (.long d270), .second, .val (.long (d270 - f)), .second, .val (.long (f + (d270 - f))), .second, .val (.long ((4 : Int64) - (d270 - f))), .second, .val (.ref r_297), .unset, .unset]) at_251 rfl rfl rfl ?_
        refine Go.aload (pc' := 255) at_253 rfl rfl rfl ?_
        refine Go.lload (pc' := 257) at_255 rfl rfl ?_
        refine Go.lconst (pc' := 258) (v := (1 : Int64)) at_257 rfl rfl ?_
        refine Go.lsub (pc' := 259) at_258 rfl ?_
        refine Go.callV (cells' := 7) (slots' := 21) (pc' := 262) [(.long ((f + (d270 - f)) - (1 : Int64)))] [] (f291.keep K297) (ww hw 82 rfl) (ww hw 83 rfl) (fun s' hs' => notFace_of_selects (args := #[]) (mvT hs' (ww hw 85 rfl))) (ww hw 85 rfl) (ww hw 84 rfl) (ww hw 3 rfl) (ww hw 86 rfl) (by decide) (c_get4_1_m1 l Z a0 hw h297 b232 sa_235 ks_235 na_235 kn_235 (((f + (d270 - f)) - (1 : Int64))) ((f + (1 : Int64))) wp (own_ax19 f d270 q272_3) sp xp fp gp (f291.keep K297) (F289_0.keep K297 nin0) (F289_1.keep K297 nin0) (F289_2.keep K297 nin0) (F289_3.keep K297 nin0) (F289_4.keep K297 nin0) (f295.keep K297 nin0) (f296.keep K297 nin0)) pd_9 rfl rfl rfl rfl rfl (nl rfl) (nl rfl) (nl rfl) (nl rfl) at_259 rfl ?_
        rintro _ _ ⟨rfl, rfl⟩
        show Go _ _ _ _ _ _ _ _ _ _ _ _ 262 #[.val (.long p0), .second, .val (.int p1), .val (.long p2), .second, .val (.int p3), .val (.long f), .second, .val (.int (4 : Int32)), .val (.ref b232), .val (.long f), .second, .val (.long d270), .second, .val (.long (d270 - f)), .second, .val (.long (f + (d270 - f))), .second, .val (.long ((4 : Int64) - (d270 - f))), .second, .val (.ref r_297), .unset, .unset] [.null]
        refine Go.astore (pc' := 264) (Ls' := #[.val (.long p0), .second, .val (.int p1), .val (.long p2), .second, .val (.int p3), .val (.long f), .second, .val (.int (4 : Int32)), .val (.ref b232), .val (.long f), .second, .val (.long d270), .second, .val (.long (d270 - f)), .second, .val (.long (f + (d270 - f))), .second, .val (.long ((4 : Int64) - (d270 - f))), .second, .val (.ref r_297), .val .null, .unset]) at_262 rfl rfl rfl ?_
        refine Go.aload (pc' := 266) at_264 rfl rfl rfl ?_
        refine Go.nullYes (pc' := 271) at_266 rfl (by decide) (by decide) ?_
        refine Go.lload (pc' := 273) at_271 rfl rfl ?_
        refine Go.lconst (pc' := 274) (v := (0 : Int64)) at_273 rfl rfl ?_
        refine Go.lcmp (pc' := 275) at_274 rfl ?_
        refine Go.ifYes (pc' := 289) at_275 (XT.ll_ne_t (by exact (own_ax45 f d270 q272_3) : ¬ (((4 : Int64) - (d270 - f)) = (0 : Int64)))) (by decide) (by decide) ?_
        refine Go.aload (pc' := 291) at_289 rfl rfl rfl ?_
        refine Go.nullNo (pc' := 294) at_291 rfl nofun rfl ?_
        refine Go.aload (pc' := 296) at_294 rfl rfl rfl ?_
        refine Go.callV (cells' := 7) (slots' := 21) (pc' := 299) [] [] F297_0 (ww hw 101 rfl) (ww hw 40 rfl) (fun s' hs' => notFace_of_selects (args := #[]) (mvT hs' (ww hw 42 rfl))) (ww hw 42 rfl) (ww hw 41 rfl) (ww hw 18 rfl) (ww hw 43 rfl) (by decide) (c_getSec l Z a0 hw h297 r_297 (1 : Int64) F297_1) pd_4 rfl rfl rfl rfl rfl (nl rfl) (nl rfl) (nl rfl) (nl rfl) at_296 rfl ?_
        rintro _ _ ⟨rfl, rfl⟩
        show Go _ _ _ _ _ _ _ _ _ _ _ _ 299 #[.val (.long p0), .second, .val (.int p1), .val (.long p2), .second, .val (.int p3), .val (.long f), .second, .val (.int (4 : Int32)), .val (.ref b232), .val (.long f), .second, .val (.long d270), .second, .val (.long (d270 - f)), .second, .val (.long (f + (d270 - f))), .second, .val (.long ((4 : Int64) - (d270 - f))), .second, .val (.ref r_297), .val .null, .unset] [(.long (1 : Int64))]
        refine Go.lload (pc' := 301) at_299 rfl rfl ?_
        refine Go.lcmp (pc' := 302) at_301 rfl ?_
        refine Go.ifYes (pc' := 307) at_302 (XT.ll_eq_t (by exact (own_ax21 f d270 q272_3) : (1 : Int64) = (d270 - f))) (by decide) (by decide) ?_
        refine Go.aload (pc' := 309) at_307 rfl rfl rfl ?_
        refine Go.lload (pc' := 311) at_309 rfl rfl ?_
        refine Go.iload (pc' := 313) at_311 rfl rfl ?_
        refine Go.i2l (pc' := 314) at_313 rfl ?_
        show Go _ _ _ _ _ _ _ _ _ _ _ _ 314 #[.val (.long p0), .second, .val (.int p1), .val (.long p2), .second, .val (.int p3), .val (.long f), .second, .val (.int (4 : Int32)), .val (.ref b232), .val (.long f), .second, .val (.long d270), .second, .val (.long (d270 - f)), .second, .val (.long (f + (d270 - f))), .second, .val (.long ((4 : Int64) - (d270 - f))), .second, .val (.ref r_297), .val .null, .unset] [(.long (4 : Int64)), (.long f), (.ref b232)]
        refine Go.ladd (pc' := 315) at_314 rfl ?_
        refine Go.lconst (pc' := 316) (v := (1 : Int64)) at_315 rfl rfl ?_
        refine Go.lsub (pc' := 317) at_316 rfl ?_
        refine Go.callV (cells' := 8) (slots' := 23) (pc' := 320) [(.long ((f + (4 : Int64)) - (1 : Int64)))] [] (f291.keep K297) (ww hw 82 rfl) (ww hw 83 rfl) (fun s' hs' => notFace_of_selects (args := #[]) (mvT hs' (ww hw 85 rfl))) (ww hw 85 rfl) (ww hw 84 rfl) (ww hw 3 rfl) (ww hw 86 rfl) (by decide) (c_get4_1_2 l Z a0 hw h297 b232 sa_235 ks_235 na_235 kn_235 (((f + (4 : Int64)) - (1 : Int64))) ((f + (1 : Int64))) wp (own_ax46 f) sp xp fp gp (f291.keep K297) (F289_0.keep K297 nin0) (F289_1.keep K297 nin0) (F289_2.keep K297 nin0) (F289_3.keep K297 nin0) (F289_4.keep K297 nin0) (f295.keep K297 nin0) (f296.keep K297 nin0)) pd_9 rfl rfl rfl rfl rfl (nl rfl) (nl rfl) (nl rfl) (nl rfl) at_317 rfl ?_
        rintro _ h302 ⟨r_302, rfl, K302, ge_r_302, sz_r_302, F302_0, F302_1, F302_2⟩
        have sz303 : h.size ≤ r_302 := Nat.le_trans K299.1 sz_r_302
        have K304 : Keep h h302 [] := K299.trans K302 all0
        show Go _ _ _ _ _ _ _ _ _ _ _ _ 320 #[.val (.long p0), .second, .val (.int p1), .val (.long p2), .second, .val (.int p3), .val (.long f), .second, .val (.int (4 : Int32)), .val (.ref b232), .val (.long f), .second, .val (.long d270), .second, .val (.long (d270 - f)), .second, .val (.long (f + (d270 - f))), .second, .val (.long ((4 : Int64) - (d270 - f))), .second, .val (.ref r_297), .val .null, .unset] [(.ref r_302)]
        refine Go.astore (pc' := 322) (Ls' := #[.val (.long p0), .second, .val (.int p1), .val (.long p2), .second, .val (.int p3), .val (.long f), .second, .val (.int (4 : Int32)), .val (.ref b232), .val (.long f), .second, .val (.long d270), .second, .val (.long (d270 - f)), .second, .val (.long (f + (d270 - f))), .second, .val (.long ((4 : Int64) - (d270 - f))), .second, .val (.ref r_297), .val .null, .val (.ref r_302)]) at_320 rfl rfl rfl ?_
        refine Go.aload (pc' := 324) at_322 rfl rfl rfl ?_
        refine Go.nullNo (pc' := 327) at_324 rfl nofun rfl ?_
        refine Go.aload (pc' := 329) at_327 rfl rfl rfl ?_
        refine Go.callV (cells' := 8) (slots' := 23) (pc' := 332) [] [] F302_0 (ww hw 101 rfl) (ww hw 40 rfl) (fun s' hs' => notFace_of_selects (args := #[]) (mvT hs' (ww hw 42 rfl))) (ww hw 42 rfl) (ww hw 41 rfl) (ww hw 18 rfl) (ww hw 43 rfl) (by decide) (c_getSec l Z a0 hw h302 r_302 (3 : Int64) F302_1) pd_4 rfl rfl rfl rfl rfl (nl rfl) (nl rfl) (nl rfl) (nl rfl) at_329 rfl ?_
        rintro _ _ ⟨rfl, rfl⟩
        show Go _ _ _ _ _ _ _ _ _ _ _ _ 332 #[.val (.long p0), .second, .val (.int p1), .val (.long p2), .second, .val (.int p3), .val (.long f), .second, .val (.int (4 : Int32)), .val (.ref b232), .val (.long f), .second, .val (.long d270), .second, .val (.long (d270 - f)), .second, .val (.long (f + (d270 - f))), .second, .val (.long ((4 : Int64) - (d270 - f))), .second, .val (.ref r_297), .val .null, .val (.ref r_302)] [(.long (3 : Int64))]
        refine Go.iload (pc' := 334) at_332 rfl rfl ?_
        refine Go.iconst (pc' := 335) (v := (1 : Int32)) at_334 rfl rfl ?_
        refine Go.isub (pc' := 336) at_335 rfl ?_
        show Go _ _ _ _ _ _ _ _ _ _ _ _ 336 #[.val (.long p0), .second, .val (.int p1), .val (.long p2), .second, .val (.int p3), .val (.long f), .second, .val (.int (4 : Int32)), .val (.ref b232), .val (.long f), .second, .val (.long d270), .second, .val (.long (d270 - f)), .second, .val (.long (f + (d270 - f))), .second, .val (.long ((4 : Int64) - (d270 - f))), .second, .val (.ref r_297), .val .null, .val (.ref r_302)] [(.int (3 : Int32)), (.long (3 : Int64))]
        refine Go.i2l (pc' := 337) at_336 rfl ?_
        show Go _ _ _ _ _ _ _ _ _ _ _ _ 337 #[.val (.long p0), .second, .val (.int p1), .val (.long p2), .second, .val (.int p3), .val (.long f), .second, .val (.int (4 : Int32)), .val (.ref b232), .val (.long f), .second, .val (.long d270), .second, .val (.long (d270 - f)), .second, .val (.long (f + (d270 - f))), .second, .val (.long ((4 : Int64) - (d270 - f))), .second, .val (.ref r_297), .val .null, .val (.ref r_302)] [(.long (3 : Int64)), (.long (3 : Int64))]
        refine Go.lcmp (pc' := 338) at_337 rfl ?_
        refine Go.ifNo (pc' := 341) at_338 (XT.ll_ne_f (by decide)) rfl ?_
        refine Go.iconst (pc' := 342) (v := (1 : Int32)) at_341 rfl rfl ?_
        refine Go.goto (pc' := 346) at_342 (by decide) (by decide) ?_
        exact Go.retN (t := .boolean) rfl (by simp) at_346 ⟨rfl, K304⟩ (by decide) (by decide)
      ·
        refine Go.aload (pc' := 143) at_141 rfl rfl rfl ?_
        refine Go.lload (pc' := 145) at_143 rfl rfl ?_
        refine Go.callV (cells' := 6) (slots' := 19) (pc' := 148) [(.long d270)] [] (((f256.keep K260).keep K262).keep K268) (ww hw 62 rfl) (ww hw 63 rfl) (fun s' hs' => notFace_of_selects (args := #[]) (mvT hs' (ww hw 65 rfl))) (ww hw 65 rfl) (ww hw 64 rfl) (ww hw 3 rfl) (ww hw 66 rfl) (by decide) (c_drop4_2 l Z a0 hw h268 b232 sa_235 ks_235 na_235 f d270 q272_0 q272_1 q272_2 ge232 ne241 ((((f256.keep K260).keep K262).keep K268)) F268_0 F268_1 F268_2 F268_3 F268_4 F268_5) pd_8 rfl rfl rfl rfl rfl (nl rfl) (nl rfl) (nl rfl) (nl rfl) at_145 rfl ?_
        rintro _ h306 ⟨rfl, K306, F306_0, F306_1, F306_2, F306_3, F306_4⟩
        have K307 : Keep h h306 [] := K269.trans K306 (allS (Or.inr sz233) all0)
        show Go _ _ _ _ _ _ _ _ _ _ _ _ 148 #[.val (.long p0), .second, .val (.int p1), .val (.long p2), .second, .val (.int p3), .val (.long f), .second, .val (.int (4 : Int32)), .val (.ref b232), .val (.long f), .second, .val (.long d270), .second, .unset, .unset, .unset, .unset, .unset, .unset, .unset, .unset, .unset] []
        refine Go.lload (pc' := 150) at_148 rfl rfl ?_
        refine Go.lload (pc' := 152) at_150 rfl rfl ?_
        refine Go.lcmp (pc' := 153) at_152 rfl ?_
        refine Go.ifYes (pc' := 162) at_153 (XT.ll_gt_t q272_0) (by decide) (by decide) ?_
        refine Go.lload (pc' := 164) at_162 rfl rfl ?_
        refine Go.lload (pc' := 166) at_164 rfl rfl ?_
        refine Go.iload (pc' := 168) at_166 rfl rfl ?_
        refine Go.i2l (pc' := 169) at_168 rfl ?_
        show Go _ _ _ _ _ _ _ _ _ _ _ _ 169 #[.val (.long p0), .second, .val (.int p1), .val (.long p2), .second, .val (.int p3), .val (.long f), .second, .val (.int (4 : Int32)), .val (.ref b232), .val (.long f), .second, .val (.long d270), .second, .unset, .unset, .unset, .unset, .unset, .unset, .unset, .unset, .unset] [(.long (4 : Int64)), (.long f), (.long d270)]
        refine Go.ladd (pc' := 170) at_169 rfl ?_
        refine Go.lcmp (pc' := 171) at_170 rfl ?_
        refine Go.ifYes (pc' := 182) at_171 (XT.ll_lt_t q272_3) (by decide) (by decide) ?_
        refine Go.lload (pc' := 184) at_182 rfl rfl ?_
        refine Go.lload (pc' := 186) at_184 rfl rfl ?_
        refine Go.lsub (pc' := 187) at_186 rfl ?_
        refine Go.lstore (pc' := 189) (Ls' := #[.val (.long p0), .second, .val (.int p1), .val (.long p2), .second, .val (.int p3), .val (.long f), .second, .val (.int (4 : Int32)), .val (.ref b232), .val (.long f), .second, .val (.long d270), .second, .val (.long (d270 - f)), .second, .unset, .unset, .unset, .unset, .unset, .unset, .unset]) at_187 rfl rfl ?_
        refine Go.lload (pc' := 191) at_189 rfl rfl ?_
        refine Go.lload (pc' := 193) at_191 rfl rfl ?_
        refine Go.ladd (pc' := 194) at_193 rfl ?_
        refine Go.lstore (pc' := 196) (Ls' := #[.val (.long p0), .second, .val (.int p1), .val (.long p2), .second, .val (.int p3), .val (.long f), .second, .val (.int (4 : Int32)), .val (.ref b232), .val (.long f), .second, .val (.long d270), .second, .val (.long (d270 - f)), .second, .val (.long (f + (d270 - f))), .second, .unset, .unset, .unset, .unset, .unset]) at_194 rfl rfl ?_
        refine Go.iload (pc' := 198) at_196 rfl rfl ?_
        refine Go.i2l (pc' := 199) at_198 rfl ?_
        show Go _ _ _ _ _ _ _ _ _ _ _ _ 199 #[.val (.long p0), .second, .val (.int p1), .val (.long p2), .second, .val (.int p3), .val (.long f), .second, .val (.int (4 : Int32)), .val (.ref b232), .val (.long f), .second, .val (.long d270), .second, .val (.long (d270 - f)), .second, .val (.long (f + (d270 - f))), .second, .unset, .unset, .unset, .unset, .unset] [(.long (4 : Int64))]
        refine Go.lload (pc' := 201) at_199 rfl rfl ?_
        refine Go.lsub (pc' := 202) at_201 rfl ?_
        refine Go.lstore (pc' := 204) (Ls' := #[.val (.long p0), .second, .val (.int p1), .val (.long p2), .second, .val (.int p3), .val (.long f), .second, .val (.int (4 : Int32)), .val (.ref b232), .val (.long f), .second, .val (.long d270), .second, .val (.long (d270 - f)), .second, .val (.long (f + (d270 - f))), .second, .val (.long ((4 : Int64) - (d270 - f))), .second, .unset, .unset, .unset]) at_202 rfl rfl ?_
        refine Go.aload (pc' := 206) at_204 rfl rfl rfl ?_
        have f308 : Exa Z h306 b232 "com/example/rens/rens/TimeRing" := ((((f256.keep K260).keep K262).keep K268).keep K306)
        refine Go.callV (cells' := 6) (slots' := 19) (pc' := 209) [] [] f308 (ww hw 67 rfl) (ww hw 68 rfl) (fun s' hs' => notFace_of_selects (args := #[]) (mvT hs' (ww hw 70 rfl))) (ww hw 70 rfl) (ww hw 69 rfl) (ww hw 3 rfl) (ww hw 71 rfl) (by decide) (c_first l Z a0 hw h306 b232 (((f + (1 : Int64)) + (1 : Int64))) F306_4) pd_4 rfl rfl rfl rfl rfl (nl rfl) (nl rfl) (nl rfl) (nl rfl) at_206 rfl ?_
        rintro _ _ ⟨rfl, rfl⟩
        show Go _ _ _ _ _ _ _ _ _ _ _ _ 209 #[.val (.long p0), .second, .val (.int p1), .val (.long p2), .second, .val (.int p3), .val (.long f), .second, .val (.int (4 : Int32)), .val (.ref b232), .val (.long f), .second, .val (.long d270), .second, .val (.long (d270 - f)), .second, .val (.long (f + (d270 - f))), .second, .val (.long ((4 : Int64) - (d270 - f))), .second, .unset, .unset, .unset] [(.long ((f + (1 : Int64)) + (1 : Int64)))]
        refine Go.lload (pc' := 211) at_209 rfl rfl ?_
        refine Go.lcmp (pc' := 212) at_211 rfl ?_
        refine Go.ifNo (pc' := 215) at_212 (XT.ll_ne_f (by exact (own_ax31 f d270 q272_4) : ((f + (1 : Int64)) + (1 : Int64)) = (f + (d270 - f)))) rfl ?_
        refine Go.aload (pc' := 217) at_215 rfl rfl rfl ?_
        refine Go.callV (cells' := 6) (slots' := 19) (pc' := 220) [] [] f308 (ww hw 72 rfl) (ww hw 73 rfl) (fun s' hs' => notFace_of_selects (args := #[]) (mvT hs' (ww hw 75 rfl))) (ww hw 75 rfl) (ww hw 74 rfl) (ww hw 3 rfl) (ww hw 76 rfl) (by decide) (c_size l Z a0 hw h306 b232 (2 : Int32) F306_3) pd_5 rfl rfl rfl rfl rfl (nl rfl) (nl rfl) (nl rfl) (nl rfl) at_217 rfl ?_
        rintro _ _ ⟨rfl, rfl⟩
        show Go _ _ _ _ _ _ _ _ _ _ _ _ 220 #[.val (.long p0), .second, .val (.int p1), .val (.long p2), .second, .val (.int p3), .val (.long f), .second, .val (.int (4 : Int32)), .val (.ref b232), .val (.long f), .second, .val (.long d270), .second, .val (.long (d270 - f)), .second, .val (.long (f + (d270 - f))), .second, .val (.long ((4 : Int64) - (d270 - f))), .second, .unset, .unset, .unset] [(.int (2 : Int32))]
        refine Go.i2l (pc' := 221) at_220 rfl ?_
        show Go _ _ _ _ _ _ _ _ _ _ _ _ 221 #[.val (.long p0), .second, .val (.int p1), .val (.long p2), .second, .val (.int p3), .val (.long f), .second, .val (.int (4 : Int32)), .val (.ref b232), .val (.long f), .second, .val (.long d270), .second, .val (.long (d270 - f)), .second, .val (.long (f + (d270 - f))), .second, .val (.long ((4 : Int64) - (d270 - f))), .second, .unset, .unset, .unset] [(.long (2 : Int64))]
        refine Go.lload (pc' := 223) at_221 rfl rfl ?_
        refine Go.lcmp (pc' := 224) at_223 rfl ?_
        refine Go.ifNo (pc' := 227) at_224 (XT.ll_ne_f (by exact (own_ax47 f d270 q272_4) : (2 : Int64) = ((4 : Int64) - (d270 - f)))) rfl ?_
        refine Go.aload (pc' := 229) at_227 rfl rfl rfl ?_
        refine Go.callV (cells' := 6) (slots' := 19) (pc' := 232) [] [] f308 (ww hw 77 rfl) (ww hw 78 rfl) (fun s' hs' => notFace_of_selects (args := #[]) (mvT hs' (ww hw 80 rfl))) (ww hw 80 rfl) (ww hw 79 rfl) (ww hw 3 rfl) (ww hw 81 rfl) (by decide) (c_end2 l Z a0 hw h306 b232 (((f + (1 : Int64)) + (1 : Int64))) F306_4 F306_3) pd_4 rfl rfl rfl rfl rfl (nl rfl) (nl rfl) (nl rfl) (nl rfl) at_229 rfl ?_
        rintro _ _ ⟨rfl, rfl⟩
        show Go _ _ _ _ _ _ _ _ _ _ _ _ 232 #[.val (.long p0), .second, .val (.int p1), .val (.long p2), .second, .val (.int p3), .val (.long f), .second, .val (.int (4 : Int32)), .val (.ref b232), .val (.long f), .second, .val (.long d270), .second, .val (.long (d270 - f)), .second, .val (.long (f + (d270 - f))), .second, .val (.long ((4 : Int64) - (d270 - f))), .second, .unset, .unset, .unset] [(.long (((f + (1 : Int64)) + (1 : Int64)) + (2 : Int64)))]
        refine Go.lload (pc' := 234) at_232 rfl rfl ?_
        refine Go.iload (pc' := 236) at_234 rfl rfl ?_
        refine Go.i2l (pc' := 237) at_236 rfl ?_
        show Go _ _ _ _ _ _ _ _ _ _ _ _ 237 #[.val (.long p0), .second, .val (.int p1), .val (.long p2), .second, .val (.int p3), .val (.long f), .second, .val (.int (4 : Int32)), .val (.ref b232), .val (.long f), .second, .val (.long d270), .second, .val (.long (d270 - f)), .second, .val (.long (f + (d270 - f))), .second, .val (.long ((4 : Int64) - (d270 - f))), .second, .unset, .unset, .unset] [(.long (4 : Int64)), (.long f), (.long (((f + (1 : Int64)) + (1 : Int64)) + (2 : Int64)))]
        refine Go.ladd (pc' := 238) at_237 rfl ?_
        refine Go.lcmp (pc' := 239) at_238 rfl ?_
        refine Go.ifYes (pc' := 244) at_239 (XT.ll_eq_t (by exact (own_ax48 f) : (((f + (1 : Int64)) + (1 : Int64)) + (2 : Int64)) = (f + (4 : Int64)))) (by decide) (by decide) ?_
        refine Go.aload (pc' := 246) at_244 rfl rfl rfl ?_
        refine Go.lload (pc' := 248) at_246 rfl rfl ?_
        have f312 : Arv Z h306 sa_235 ks_235 .long (4 : Int32) [(.long 0), (.long 1), (.long 2), (.long 3)] (.long 0) := (F268_5.keep K306 (ninS (Ne.symm ne241) nin0))
        have f313 : Arv Z h306 na_235 kn_235 .int (4 : Int32) [(.int 0), (.int 0), (.int 0), (.int 0)] (.int 0) := (F268_6.keep K306 (ninS (Ne.symm ne242) nin0))
        refine Go.callV (cells' := 7) (slots' := 21) (pc' := 251) [(.long (f + (d270 - f)))] [] f308 (ww hw 82 rfl) (ww hw 83 rfl) (fun s' hs' => notFace_of_selects (args := #[]) (mvT hs' (ww hw 85 rfl))) (ww hw 85 rfl) (ww hw 84 rfl) (ww hw 3 rfl) (ww hw 86 rfl) (by decide) (c_get4_2_0 l Z a0 hw h306 b232 sa_235 ks_235 na_235 kn_235 ((f + (d270 - f))) (((f + (1 : Int64)) + (1 : Int64))) wp (own_ax34 f d270 q272_4) sp xp fp gp f308 F306_0 F306_1 F306_2 F306_3 F306_4 f312 f313) pd_9 rfl rfl rfl rfl rfl (nl rfl) (nl rfl) (nl rfl) (nl rfl) at_248 rfl ?_
        rintro _ h314 ⟨r_314, rfl, K314, ge_r_314, sz_r_314, F314_0, F314_1, F314_2⟩
        have sz315 : h.size ≤ r_314 := Nat.le_trans K307.1 sz_r_314
        have K316 : Keep h h314 [] := K307.trans K314 all0
        show Go _ _ _ _ _ _ _ _ _ _ _ _ 251 #[.val (.long p0), .second, .val (.int p1), .val (.long p2), .second, .val (.int p3), .val (.long f), .second, .val (.int (4 : Int32)), .val (.ref b232), .val (.long f), .second, .val (.long d270), .second, .val (.long (d270 - f)), .second, .val (.long (f + (d270 - f))), .second, .val (.long ((4 : Int64) - (d270 - f))), .second, .unset, .unset, .unset] [(.ref r_314)]
        refine Go.astore (pc' := 253) (Ls' := #[.val (.long p0), .second, .val (.int p1), .val (.long p2), .second, .val (.int p3), .val (.long f), .second, .val (.int (4 : Int32)), .val (.ref b232), .val (.long f), .second, .val (.long d270), .second, .val (.long (d270 - f)), .second, .val (.long (f + (d270 - f))), .second, .val (.long ((4 : Int64) - (d270 - f))), .second, .val (.ref r_314), .unset, .unset]) at_251 rfl rfl rfl ?_
        refine Go.aload (pc' := 255) at_253 rfl rfl rfl ?_
        refine Go.lload (pc' := 257) at_255 rfl rfl ?_
        refine Go.lconst (pc' := 258) (v := (1 : Int64)) at_257 rfl rfl ?_
        refine Go.lsub (pc' := 259) at_258 rfl ?_
        refine Go.callV (cells' := 7) (slots' := 21) (pc' := 262) [(.long ((f + (d270 - f)) - (1 : Int64)))] [] (f308.keep K314) (ww hw 82 rfl) (ww hw 83 rfl) (fun s' hs' => notFace_of_selects (args := #[]) (mvT hs' (ww hw 85 rfl))) (ww hw 85 rfl) (ww hw 84 rfl) (ww hw 3 rfl) (ww hw 86 rfl) (by decide) (c_get4_2_m1 l Z a0 hw h314 b232 sa_235 ks_235 na_235 kn_235 (((f + (d270 - f)) - (1 : Int64))) (((f + (1 : Int64)) + (1 : Int64))) wp (own_ax35 f d270 q272_4) sp xp fp gp (f308.keep K314) (F306_0.keep K314 nin0) (F306_1.keep K314 nin0) (F306_2.keep K314 nin0) (F306_3.keep K314 nin0) (F306_4.keep K314 nin0) (f312.keep K314 nin0) (f313.keep K314 nin0)) pd_9 rfl rfl rfl rfl rfl (nl rfl) (nl rfl) (nl rfl) (nl rfl) at_259 rfl ?_
        rintro _ _ ⟨rfl, rfl⟩
        show Go _ _ _ _ _ _ _ _ _ _ _ _ 262 #[.val (.long p0), .second, .val (.int p1), .val (.long p2), .second, .val (.int p3), .val (.long f), .second, .val (.int (4 : Int32)), .val (.ref b232), .val (.long f), .second, .val (.long d270), .second, .val (.long (d270 - f)), .second, .val (.long (f + (d270 - f))), .second, .val (.long ((4 : Int64) - (d270 - f))), .second, .val (.ref r_314), .unset, .unset] [.null]
        refine Go.astore (pc' := 264) (Ls' := #[.val (.long p0), .second, .val (.int p1), .val (.long p2), .second, .val (.int p3), .val (.long f), .second, .val (.int (4 : Int32)), .val (.ref b232), .val (.long f), .second, .val (.long d270), .second, .val (.long (d270 - f)), .second, .val (.long (f + (d270 - f))), .second, .val (.long ((4 : Int64) - (d270 - f))), .second, .val (.ref r_314), .val .null, .unset]) at_262 rfl rfl rfl ?_
        refine Go.aload (pc' := 266) at_264 rfl rfl rfl ?_
        refine Go.nullYes (pc' := 271) at_266 rfl (by decide) (by decide) ?_
        refine Go.lload (pc' := 273) at_271 rfl rfl ?_
        refine Go.lconst (pc' := 274) (v := (0 : Int64)) at_273 rfl rfl ?_
        refine Go.lcmp (pc' := 275) at_274 rfl ?_
        refine Go.ifYes (pc' := 289) at_275 (XT.ll_ne_t (by exact (own_ax49 f d270 q272_4) : ¬ (((4 : Int64) - (d270 - f)) = (0 : Int64)))) (by decide) (by decide) ?_
        refine Go.aload (pc' := 291) at_289 rfl rfl rfl ?_
        refine Go.nullNo (pc' := 294) at_291 rfl nofun rfl ?_
        refine Go.aload (pc' := 296) at_294 rfl rfl rfl ?_
        refine Go.callV (cells' := 7) (slots' := 21) (pc' := 299) [] [] F314_0 (ww hw 101 rfl) (ww hw 40 rfl) (fun s' hs' => notFace_of_selects (args := #[]) (mvT hs' (ww hw 42 rfl))) (ww hw 42 rfl) (ww hw 41 rfl) (ww hw 18 rfl) (ww hw 43 rfl) (by decide) (c_getSec l Z a0 hw h314 r_314 (2 : Int64) F314_1) pd_4 rfl rfl rfl rfl rfl (nl rfl) (nl rfl) (nl rfl) (nl rfl) at_296 rfl ?_
        rintro _ _ ⟨rfl, rfl⟩
        show Go _ _ _ _ _ _ _ _ _ _ _ _ 299 #[.val (.long p0), .second, .val (.int p1), .val (.long p2), .second, .val (.int p3), .val (.long f), .second, .val (.int (4 : Int32)), .val (.ref b232), .val (.long f), .second, .val (.long d270), .second, .val (.long (d270 - f)), .second, .val (.long (f + (d270 - f))), .second, .val (.long ((4 : Int64) - (d270 - f))), .second, .val (.ref r_314), .val .null, .unset] [(.long (2 : Int64))]
        refine Go.lload (pc' := 301) at_299 rfl rfl ?_
        refine Go.lcmp (pc' := 302) at_301 rfl ?_
        refine Go.ifYes (pc' := 307) at_302 (XT.ll_eq_t (by exact (own_ax37 f d270 q272_4) : (2 : Int64) = (d270 - f))) (by decide) (by decide) ?_
        refine Go.aload (pc' := 309) at_307 rfl rfl rfl ?_
        refine Go.lload (pc' := 311) at_309 rfl rfl ?_
        refine Go.iload (pc' := 313) at_311 rfl rfl ?_
        refine Go.i2l (pc' := 314) at_313 rfl ?_
        show Go _ _ _ _ _ _ _ _ _ _ _ _ 314 #[.val (.long p0), .second, .val (.int p1), .val (.long p2), .second, .val (.int p3), .val (.long f), .second, .val (.int (4 : Int32)), .val (.ref b232), .val (.long f), .second, .val (.long d270), .second, .val (.long (d270 - f)), .second, .val (.long (f + (d270 - f))), .second, .val (.long ((4 : Int64) - (d270 - f))), .second, .val (.ref r_314), .val .null, .unset] [(.long (4 : Int64)), (.long f), (.ref b232)]
        refine Go.ladd (pc' := 315) at_314 rfl ?_
        refine Go.lconst (pc' := 316) (v := (1 : Int64)) at_315 rfl rfl ?_
        refine Go.lsub (pc' := 317) at_316 rfl ?_
        refine Go.callV (cells' := 8) (slots' := 23) (pc' := 320) [(.long ((f + (4 : Int64)) - (1 : Int64)))] [] (f308.keep K314) (ww hw 82 rfl) (ww hw 83 rfl) (fun s' hs' => notFace_of_selects (args := #[]) (mvT hs' (ww hw 85 rfl))) (ww hw 85 rfl) (ww hw 84 rfl) (ww hw 3 rfl) (ww hw 86 rfl) (by decide) (c_get4_2_1 l Z a0 hw h314 b232 sa_235 ks_235 na_235 kn_235 (((f + (4 : Int64)) - (1 : Int64))) (((f + (1 : Int64)) + (1 : Int64))) wp (own_ax50 f) sp xp fp gp (f308.keep K314) (F306_0.keep K314 nin0) (F306_1.keep K314 nin0) (F306_2.keep K314 nin0) (F306_3.keep K314 nin0) (F306_4.keep K314 nin0) (f312.keep K314 nin0) (f313.keep K314 nin0)) pd_9 rfl rfl rfl rfl rfl (nl rfl) (nl rfl) (nl rfl) (nl rfl) at_317 rfl ?_
        rintro _ h319 ⟨r_319, rfl, K319, ge_r_319, sz_r_319, F319_0, F319_1, F319_2⟩
        have sz320 : h.size ≤ r_319 := Nat.le_trans K316.1 sz_r_319
        have K321 : Keep h h319 [] := K316.trans K319 all0
        show Go _ _ _ _ _ _ _ _ _ _ _ _ 320 #[.val (.long p0), .second, .val (.int p1), .val (.long p2), .second, .val (.int p3), .val (.long f), .second, .val (.int (4 : Int32)), .val (.ref b232), .val (.long f), .second, .val (.long d270), .second, .val (.long (d270 - f)), .second, .val (.long (f + (d270 - f))), .second, .val (.long ((4 : Int64) - (d270 - f))), .second, .val (.ref r_314), .val .null, .unset] [(.ref r_319)]
        refine Go.astore (pc' := 322) (Ls' := #[.val (.long p0), .second, .val (.int p1), .val (.long p2), .second, .val (.int p3), .val (.long f), .second, .val (.int (4 : Int32)), .val (.ref b232), .val (.long f), .second, .val (.long d270), .second, .val (.long (d270 - f)), .second, .val (.long (f + (d270 - f))), .second, .val (.long ((4 : Int64) - (d270 - f))), .second, .val (.ref r_314), .val .null, .val (.ref r_319)]) at_320 rfl rfl rfl ?_
        refine Go.aload (pc' := 324) at_322 rfl rfl rfl ?_
        refine Go.nullNo (pc' := 327) at_324 rfl nofun rfl ?_
        refine Go.aload (pc' := 329) at_327 rfl rfl rfl ?_
        refine Go.callV (cells' := 8) (slots' := 23) (pc' := 332) [] [] F319_0 (ww hw 101 rfl) (ww hw 40 rfl) (fun s' hs' => notFace_of_selects (args := #[]) (mvT hs' (ww hw 42 rfl))) (ww hw 42 rfl) (ww hw 41 rfl) (ww hw 18 rfl) (ww hw 43 rfl) (by decide) (c_getSec l Z a0 hw h319 r_319 (3 : Int64) F319_1) pd_4 rfl rfl rfl rfl rfl (nl rfl) (nl rfl) (nl rfl) (nl rfl) at_329 rfl ?_
        rintro _ _ ⟨rfl, rfl⟩
        show Go _ _ _ _ _ _ _ _ _ _ _ _ 332 #[.val (.long p0), .second, .val (.int p1), .val (.long p2), .second, .val (.int p3), .val (.long f), .second, .val (.int (4 : Int32)), .val (.ref b232), .val (.long f), .second, .val (.long d270), .second, .val (.long (d270 - f)), .second, .val (.long (f + (d270 - f))), .second, .val (.long ((4 : Int64) - (d270 - f))), .second, .val (.ref r_314), .val .null, .val (.ref r_319)] [(.long (3 : Int64))]
        refine Go.iload (pc' := 334) at_332 rfl rfl ?_
        refine Go.iconst (pc' := 335) (v := (1 : Int32)) at_334 rfl rfl ?_
        refine Go.isub (pc' := 336) at_335 rfl ?_
        show Go _ _ _ _ _ _ _ _ _ _ _ _ 336 #[.val (.long p0), .second, .val (.int p1), .val (.long p2), .second, .val (.int p3), .val (.long f), .second, .val (.int (4 : Int32)), .val (.ref b232), .val (.long f), .second, .val (.long d270), .second, .val (.long (d270 - f)), .second, .val (.long (f + (d270 - f))), .second, .val (.long ((4 : Int64) - (d270 - f))), .second, .val (.ref r_314), .val .null, .val (.ref r_319)] [(.int (3 : Int32)), (.long (3 : Int64))]
        refine Go.i2l (pc' := 337) at_336 rfl ?_
        show Go _ _ _ _ _ _ _ _ _ _ _ _ 337 #[.val (.long p0), .second, .val (.int p1), .val (.long p2), .second, .val (.int p3), .val (.long f), .second, .val (.int (4 : Int32)), .val (.ref b232), .val (.long f), .second, .val (.long d270), .second, .val (.long (d270 - f)), .second, .val (.long (f + (d270 - f))), .second, .val (.long ((4 : Int64) - (d270 - f))), .second, .val (.ref r_314), .val .null, .val (.ref r_319)] [(.long (3 : Int64)), (.long (3 : Int64))]
        refine Go.lcmp (pc' := 338) at_337 rfl ?_
        refine Go.ifNo (pc' := 341) at_338 (XT.ll_ne_f (by decide)) rfl ?_
        refine Go.iconst (pc' := 342) (v := (1 : Int32)) at_341 rfl rfl ?_
        refine Go.goto (pc' := 346) at_342 (by decide) (by decide) ?_
        exact Go.retN (t := .boolean) rfl (by simp) at_346 ⟨rfl, K321⟩ (by decide) (by decide)
      ·
        refine Go.aload (pc' := 143) at_141 rfl rfl rfl ?_
        refine Go.lload (pc' := 145) at_143 rfl rfl ?_
        refine Go.callV (cells' := 6) (slots' := 19) (pc' := 148) [(.long d270)] [] (((f256.keep K260).keep K262).keep K268) (ww hw 62 rfl) (ww hw 63 rfl) (fun s' hs' => notFace_of_selects (args := #[]) (mvT hs' (ww hw 65 rfl))) (ww hw 65 rfl) (ww hw 64 rfl) (ww hw 3 rfl) (ww hw 66 rfl) (by decide) (c_drop4_3 l Z a0 hw h268 b232 sa_235 ks_235 na_235 f d270 q272_0 q272_1 q272_2 q272_3 ge232 ne241 ((((f256.keep K260).keep K262).keep K268)) F268_0 F268_1 F268_2 F268_3 F268_4 F268_5) pd_8 rfl rfl rfl rfl rfl (nl rfl) (nl rfl) (nl rfl) (nl rfl) at_145 rfl ?_
        rintro _ h323 ⟨rfl, K323, F323_0, F323_1, F323_2, F323_3, F323_4⟩
        have K324 : Keep h h323 [] := K269.trans K323 (allS (Or.inr sz233) all0)
        show Go _ _ _ _ _ _ _ _ _ _ _ _ 148 #[.val (.long p0), .second, .val (.int p1), .val (.long p2), .second, .val (.int p3), .val (.long f), .second, .val (.int (4 : Int32)), .val (.ref b232), .val (.long f), .second, .val (.long d270), .second, .unset, .unset, .unset, .unset, .unset, .unset, .unset, .unset, .unset] []
        refine Go.lload (pc' := 150) at_148 rfl rfl ?_
        refine Go.lload (pc' := 152) at_150 rfl rfl ?_
        refine Go.lcmp (pc' := 153) at_152 rfl ?_
        refine Go.ifYes (pc' := 162) at_153 (XT.ll_gt_t q272_0) (by decide) (by decide) ?_
        refine Go.lload (pc' := 164) at_162 rfl rfl ?_
        refine Go.lload (pc' := 166) at_164 rfl rfl ?_
        refine Go.iload (pc' := 168) at_166 rfl rfl ?_
        refine Go.i2l (pc' := 169) at_168 rfl ?_
        show Go _ _ _ _ _ _ _ _ _ _ _ _ 169 #[.val (.long p0), .second, .val (.int p1), .val (.long p2), .second, .val (.int p3), .val (.long f), .second, .val (.int (4 : Int32)), .val (.ref b232), .val (.long f), .second, .val (.long d270), .second, .unset, .unset, .unset, .unset, .unset, .unset, .unset, .unset, .unset] [(.long (4 : Int64)), (.long f), (.long d270)]
        refine Go.ladd (pc' := 170) at_169 rfl ?_
        refine Go.lcmp (pc' := 171) at_170 rfl ?_
        refine Go.ifYes (pc' := 182) at_171 (XT.ll_lt_t q272_4) (by decide) (by decide) ?_
        refine Go.lload (pc' := 184) at_182 rfl rfl ?_
        refine Go.lload (pc' := 186) at_184 rfl rfl ?_
        refine Go.lsub (pc' := 187) at_186 rfl ?_
        refine Go.lstore (pc' := 189) (Ls' := #[.val (.long p0), .second, .val (.int p1), .val (.long p2), .second, .val (.int p3), .val (.long f), .second, .val (.int (4 : Int32)), .val (.ref b232), .val (.long f), .second, .val (.long d270), .second, .val (.long (d270 - f)), .second, .unset, .unset, .unset, .unset, .unset, .unset, .unset]) at_187 rfl rfl ?_
        refine Go.lload (pc' := 191) at_189 rfl rfl ?_
        refine Go.lload (pc' := 193) at_191 rfl rfl ?_
        refine Go.ladd (pc' := 194) at_193 rfl ?_
        refine Go.lstore (pc' := 196) (Ls' := #[.val (.long p0), .second, .val (.int p1), .val (.long p2), .second, .val (.int p3), .val (.long f), .second, .val (.int (4 : Int32)), .val (.ref b232), .val (.long f), .second, .val (.long d270), .second, .val (.long (d270 - f)), .second, .val (.long (f + (d270 - f))), .second, .unset, .unset, .unset, .unset, .unset]) at_194 rfl rfl ?_
        refine Go.iload (pc' := 198) at_196 rfl rfl ?_
        refine Go.i2l (pc' := 199) at_198 rfl ?_
        show Go _ _ _ _ _ _ _ _ _ _ _ _ 199 #[.val (.long p0), .second, .val (.int p1), .val (.long p2), .second, .val (.int p3), .val (.long f), .second, .val (.int (4 : Int32)), .val (.ref b232), .val (.long f), .second, .val (.long d270), .second, .val (.long (d270 - f)), .second, .val (.long (f + (d270 - f))), .second, .unset, .unset, .unset, .unset, .unset] [(.long (4 : Int64))]
        refine Go.lload (pc' := 201) at_199 rfl rfl ?_
        refine Go.lsub (pc' := 202) at_201 rfl ?_
        refine Go.lstore (pc' := 204) (Ls' := #[.val (.long p0), .second, .val (.int p1), .val (.long p2), .second, .val (.int p3), .val (.long f), .second, .val (.int (4 : Int32)), .val (.ref b232), .val (.long f), .second, .val (.long d270), .second, .val (.long (d270 - f)), .second, .val (.long (f + (d270 - f))), .second, .val (.long ((4 : Int64) - (d270 - f))), .second, .unset, .unset, .unset]) at_202 rfl rfl ?_
        refine Go.aload (pc' := 206) at_204 rfl rfl rfl ?_
        have f325 : Exa Z h323 b232 "com/example/rens/rens/TimeRing" := ((((f256.keep K260).keep K262).keep K268).keep K323)
        refine Go.callV (cells' := 6) (slots' := 19) (pc' := 209) [] [] f325 (ww hw 67 rfl) (ww hw 68 rfl) (fun s' hs' => notFace_of_selects (args := #[]) (mvT hs' (ww hw 70 rfl))) (ww hw 70 rfl) (ww hw 69 rfl) (ww hw 3 rfl) (ww hw 71 rfl) (by decide) (c_first l Z a0 hw h323 b232 ((((f + (1 : Int64)) + (1 : Int64)) + (1 : Int64))) F323_4) pd_4 rfl rfl rfl rfl rfl (nl rfl) (nl rfl) (nl rfl) (nl rfl) at_206 rfl ?_
        rintro _ _ ⟨rfl, rfl⟩
        show Go _ _ _ _ _ _ _ _ _ _ _ _ 209 #[.val (.long p0), .second, .val (.int p1), .val (.long p2), .second, .val (.int p3), .val (.long f), .second, .val (.int (4 : Int32)), .val (.ref b232), .val (.long f), .second, .val (.long d270), .second, .val (.long (d270 - f)), .second, .val (.long (f + (d270 - f))), .second, .val (.long ((4 : Int64) - (d270 - f))), .second, .unset, .unset, .unset] [(.long (((f + (1 : Int64)) + (1 : Int64)) + (1 : Int64)))]
        refine Go.lload (pc' := 211) at_209 rfl rfl ?_
        refine Go.lcmp (pc' := 212) at_211 rfl ?_
        refine Go.ifNo (pc' := 215) at_212 (XT.ll_ne_f (by exact (own_ax51 f d270 q272_5) : (((f + (1 : Int64)) + (1 : Int64)) + (1 : Int64)) = (f + (d270 - f)))) rfl ?_
        refine Go.aload (pc' := 217) at_215 rfl rfl rfl ?_
        refine Go.callV (cells' := 6) (slots' := 19) (pc' := 220) [] [] f325 (ww hw 72 rfl) (ww hw 73 rfl) (fun s' hs' => notFace_of_selects (args := #[]) (mvT hs' (ww hw 75 rfl))) (ww hw 75 rfl) (ww hw 74 rfl) (ww hw 3 rfl) (ww hw 76 rfl) (by decide) (c_size l Z a0 hw h323 b232 (1 : Int32) F323_3) pd_5 rfl rfl rfl rfl rfl (nl rfl) (nl rfl) (nl rfl) (nl rfl) at_217 rfl ?_
        rintro _ _ ⟨rfl, rfl⟩
        show Go _ _ _ _ _ _ _ _ _ _ _ _ 220 #[.val (.long p0), .second, .val (.int p1), .val (.long p2), .second, .val (.int p3), .val (.long f), .second, .val (.int (4 : Int32)), .val (.ref b232), .val (.long f), .second, .val (.long d270), .second, .val (.long (d270 - f)), .second, .val (.long (f + (d270 - f))), .second, .val (.long ((4 : Int64) - (d270 - f))), .second, .unset, .unset, .unset] [(.int (1 : Int32))]
        refine Go.i2l (pc' := 221) at_220 rfl ?_
        show Go _ _ _ _ _ _ _ _ _ _ _ _ 221 #[.val (.long p0), .second, .val (.int p1), .val (.long p2), .second, .val (.int p3), .val (.long f), .second, .val (.int (4 : Int32)), .val (.ref b232), .val (.long f), .second, .val (.long d270), .second, .val (.long (d270 - f)), .second, .val (.long (f + (d270 - f))), .second, .val (.long ((4 : Int64) - (d270 - f))), .second, .unset, .unset, .unset] [(.long (1 : Int64))]
        refine Go.lload (pc' := 223) at_221 rfl rfl ?_
        refine Go.lcmp (pc' := 224) at_223 rfl ?_
        refine Go.ifNo (pc' := 227) at_224 (XT.ll_ne_f (by exact (own_ax52 f d270 q272_5) : (1 : Int64) = ((4 : Int64) - (d270 - f)))) rfl ?_
        refine Go.aload (pc' := 229) at_227 rfl rfl rfl ?_
        refine Go.callV (cells' := 6) (slots' := 19) (pc' := 232) [] [] f325 (ww hw 77 rfl) (ww hw 78 rfl) (fun s' hs' => notFace_of_selects (args := #[]) (mvT hs' (ww hw 80 rfl))) (ww hw 80 rfl) (ww hw 79 rfl) (ww hw 3 rfl) (ww hw 81 rfl) (by decide) (c_end1 l Z a0 hw h323 b232 ((((f + (1 : Int64)) + (1 : Int64)) + (1 : Int64))) F323_4 F323_3) pd_4 rfl rfl rfl rfl rfl (nl rfl) (nl rfl) (nl rfl) (nl rfl) at_229 rfl ?_
        rintro _ _ ⟨rfl, rfl⟩
        show Go _ _ _ _ _ _ _ _ _ _ _ _ 232 #[.val (.long p0), .second, .val (.int p1), .val (.long p2), .second, .val (.int p3), .val (.long f), .second, .val (.int (4 : Int32)), .val (.ref b232), .val (.long f), .second, .val (.long d270), .second, .val (.long (d270 - f)), .second, .val (.long (f + (d270 - f))), .second, .val (.long ((4 : Int64) - (d270 - f))), .second, .unset, .unset, .unset] [(.long ((((f + (1 : Int64)) + (1 : Int64)) + (1 : Int64)) + (1 : Int64)))]
        refine Go.lload (pc' := 234) at_232 rfl rfl ?_
        refine Go.iload (pc' := 236) at_234 rfl rfl ?_
        refine Go.i2l (pc' := 237) at_236 rfl ?_
        show Go _ _ _ _ _ _ _ _ _ _ _ _ 237 #[.val (.long p0), .second, .val (.int p1), .val (.long p2), .second, .val (.int p3), .val (.long f), .second, .val (.int (4 : Int32)), .val (.ref b232), .val (.long f), .second, .val (.long d270), .second, .val (.long (d270 - f)), .second, .val (.long (f + (d270 - f))), .second, .val (.long ((4 : Int64) - (d270 - f))), .second, .unset, .unset, .unset] [(.long (4 : Int64)), (.long f), (.long ((((f + (1 : Int64)) + (1 : Int64)) + (1 : Int64)) + (1 : Int64)))]
        refine Go.ladd (pc' := 238) at_237 rfl ?_
        refine Go.lcmp (pc' := 239) at_238 rfl ?_
        refine Go.ifYes (pc' := 244) at_239 (XT.ll_eq_t (by exact (own_ax53 f) : ((((f + (1 : Int64)) + (1 : Int64)) + (1 : Int64)) + (1 : Int64)) = (f + (4 : Int64)))) (by decide) (by decide) ?_
        refine Go.aload (pc' := 246) at_244 rfl rfl rfl ?_
        refine Go.lload (pc' := 248) at_246 rfl rfl ?_
        have f329 : Arv Z h323 sa_235 ks_235 .long (4 : Int32) [(.long 0), (.long 1), (.long 2), (.long 3)] (.long 0) := (F268_5.keep K323 (ninS (Ne.symm ne241) nin0))
        have f330 : Arv Z h323 na_235 kn_235 .int (4 : Int32) [(.int 0), (.int 0), (.int 0), (.int 0)] (.int 0) := (F268_6.keep K323 (ninS (Ne.symm ne242) nin0))
        refine Go.callV (cells' := 7) (slots' := 21) (pc' := 251) [(.long (f + (d270 - f)))] [] f325 (ww hw 82 rfl) (ww hw 83 rfl) (fun s' hs' => notFace_of_selects (args := #[]) (mvT hs' (ww hw 85 rfl))) (ww hw 85 rfl) (ww hw 84 rfl) (ww hw 3 rfl) (ww hw 86 rfl) (by decide) (c_get4_3_0 l Z a0 hw h323 b232 sa_235 ks_235 na_235 kn_235 ((f + (d270 - f))) ((((f + (1 : Int64)) + (1 : Int64)) + (1 : Int64))) wp (own_ax54 f d270 q272_5) sp xp fp gp f325 F323_0 F323_1 F323_2 F323_3 F323_4 f329 f330) pd_9 rfl rfl rfl rfl rfl (nl rfl) (nl rfl) (nl rfl) (nl rfl) at_248 rfl ?_
        rintro _ h331 ⟨r_331, rfl, K331, ge_r_331, sz_r_331, F331_0, F331_1, F331_2⟩
        have sz332 : h.size ≤ r_331 := Nat.le_trans K324.1 sz_r_331
        have K333 : Keep h h331 [] := K324.trans K331 all0
        show Go _ _ _ _ _ _ _ _ _ _ _ _ 251 #[.val (.long p0), .second, .val (.int p1), .val (.long p2), .second, .val (.int p3), .val (.long f), .second, .val (.int (4 : Int32)), .val (.ref b232), .val (.long f), .second, .val (.long d270), .second, .val (.long (d270 - f)), .second, .val (.long (f + (d270 - f))), .second, .val (.long ((4 : Int64) - (d270 - f))), .second, .unset, .unset, .unset] [(.ref r_331)]
        refine Go.astore (pc' := 253) (Ls' := #[.val (.long p0), .second, .val (.int p1), .val (.long p2), .second, .val (.int p3), .val (.long f), .second, .val (.int (4 : Int32)), .val (.ref b232), .val (.long f), .second, .val (.long d270), .second, .val (.long (d270 - f)), .second, .val (.long (f + (d270 - f))), .second, .val (.long ((4 : Int64) - (d270 - f))), .second, .val (.ref r_331), .unset, .unset]) at_251 rfl rfl rfl ?_
        refine Go.aload (pc' := 255) at_253 rfl rfl rfl ?_
        refine Go.lload (pc' := 257) at_255 rfl rfl ?_
        refine Go.lconst (pc' := 258) (v := (1 : Int64)) at_257 rfl rfl ?_
        refine Go.lsub (pc' := 259) at_258 rfl ?_
        refine Go.callV (cells' := 7) (slots' := 21) (pc' := 262) [(.long ((f + (d270 - f)) - (1 : Int64)))] [] (f325.keep K331) (ww hw 82 rfl) (ww hw 83 rfl) (fun s' hs' => notFace_of_selects (args := #[]) (mvT hs' (ww hw 85 rfl))) (ww hw 85 rfl) (ww hw 84 rfl) (ww hw 3 rfl) (ww hw 86 rfl) (by decide) (c_get4_3_m1 l Z a0 hw h331 b232 sa_235 ks_235 na_235 kn_235 (((f + (d270 - f)) - (1 : Int64))) ((((f + (1 : Int64)) + (1 : Int64)) + (1 : Int64))) wp (own_ax55 f d270 q272_5) sp xp fp gp (f325.keep K331) (F323_0.keep K331 nin0) (F323_1.keep K331 nin0) (F323_2.keep K331 nin0) (F323_3.keep K331 nin0) (F323_4.keep K331 nin0) (f329.keep K331 nin0) (f330.keep K331 nin0)) pd_9 rfl rfl rfl rfl rfl (nl rfl) (nl rfl) (nl rfl) (nl rfl) at_259 rfl ?_
        rintro _ _ ⟨rfl, rfl⟩
        show Go _ _ _ _ _ _ _ _ _ _ _ _ 262 #[.val (.long p0), .second, .val (.int p1), .val (.long p2), .second, .val (.int p3), .val (.long f), .second, .val (.int (4 : Int32)), .val (.ref b232), .val (.long f), .second, .val (.long d270), .second, .val (.long (d270 - f)), .second, .val (.long (f + (d270 - f))), .second, .val (.long ((4 : Int64) - (d270 - f))), .second, .val (.ref r_331), .unset, .unset] [.null]
        refine Go.astore (pc' := 264) (Ls' := #[.val (.long p0), .second, .val (.int p1), .val (.long p2), .second, .val (.int p3), .val (.long f), .second, .val (.int (4 : Int32)), .val (.ref b232), .val (.long f), .second, .val (.long d270), .second, .val (.long (d270 - f)), .second, .val (.long (f + (d270 - f))), .second, .val (.long ((4 : Int64) - (d270 - f))), .second, .val (.ref r_331), .val .null, .unset]) at_262 rfl rfl rfl ?_
        refine Go.aload (pc' := 266) at_264 rfl rfl rfl ?_
        refine Go.nullYes (pc' := 271) at_266 rfl (by decide) (by decide) ?_
        refine Go.lload (pc' := 273) at_271 rfl rfl ?_
        refine Go.lconst (pc' := 274) (v := (0 : Int64)) at_273 rfl rfl ?_
        refine Go.lcmp (pc' := 275) at_274 rfl ?_
        refine Go.ifYes (pc' := 289) at_275 (XT.ll_ne_t (by exact (own_ax56 f d270 q272_5) : ¬ (((4 : Int64) - (d270 - f)) = (0 : Int64)))) (by decide) (by decide) ?_
        refine Go.aload (pc' := 291) at_289 rfl rfl rfl ?_
        refine Go.nullNo (pc' := 294) at_291 rfl nofun rfl ?_
        refine Go.aload (pc' := 296) at_294 rfl rfl rfl ?_
        refine Go.callV (cells' := 7) (slots' := 21) (pc' := 299) [] [] F331_0 (ww hw 101 rfl) (ww hw 40 rfl) (fun s' hs' => notFace_of_selects (args := #[]) (mvT hs' (ww hw 42 rfl))) (ww hw 42 rfl) (ww hw 41 rfl) (ww hw 18 rfl) (ww hw 43 rfl) (by decide) (c_getSec l Z a0 hw h331 r_331 (3 : Int64) F331_1) pd_4 rfl rfl rfl rfl rfl (nl rfl) (nl rfl) (nl rfl) (nl rfl) at_296 rfl ?_
        rintro _ _ ⟨rfl, rfl⟩
        show Go _ _ _ _ _ _ _ _ _ _ _ _ 299 #[.val (.long p0), .second, .val (.int p1), .val (.long p2), .second, .val (.int p3), .val (.long f), .second, .val (.int (4 : Int32)), .val (.ref b232), .val (.long f), .second, .val (.long d270), .second, .val (.long (d270 - f)), .second, .val (.long (f + (d270 - f))), .second, .val (.long ((4 : Int64) - (d270 - f))), .second, .val (.ref r_331), .val .null, .unset] [(.long (3 : Int64))]
        refine Go.lload (pc' := 301) at_299 rfl rfl ?_
        refine Go.lcmp (pc' := 302) at_301 rfl ?_
        refine Go.ifYes (pc' := 307) at_302 (XT.ll_eq_t (by exact (own_ax57 f d270 q272_5) : (3 : Int64) = (d270 - f))) (by decide) (by decide) ?_
        refine Go.aload (pc' := 309) at_307 rfl rfl rfl ?_
        refine Go.lload (pc' := 311) at_309 rfl rfl ?_
        refine Go.iload (pc' := 313) at_311 rfl rfl ?_
        refine Go.i2l (pc' := 314) at_313 rfl ?_
        show Go _ _ _ _ _ _ _ _ _ _ _ _ 314 #[.val (.long p0), .second, .val (.int p1), .val (.long p2), .second, .val (.int p3), .val (.long f), .second, .val (.int (4 : Int32)), .val (.ref b232), .val (.long f), .second, .val (.long d270), .second, .val (.long (d270 - f)), .second, .val (.long (f + (d270 - f))), .second, .val (.long ((4 : Int64) - (d270 - f))), .second, .val (.ref r_331), .val .null, .unset] [(.long (4 : Int64)), (.long f), (.ref b232)]
        refine Go.ladd (pc' := 315) at_314 rfl ?_
        refine Go.lconst (pc' := 316) (v := (1 : Int64)) at_315 rfl rfl ?_
        refine Go.lsub (pc' := 317) at_316 rfl ?_
        refine Go.callV (cells' := 8) (slots' := 23) (pc' := 320) [(.long ((f + (4 : Int64)) - (1 : Int64)))] [] (f325.keep K331) (ww hw 82 rfl) (ww hw 83 rfl) (fun s' hs' => notFace_of_selects (args := #[]) (mvT hs' (ww hw 85 rfl))) (ww hw 85 rfl) (ww hw 84 rfl) (ww hw 3 rfl) (ww hw 86 rfl) (by decide) (c_get4_3_0 l Z a0 hw h331 b232 sa_235 ks_235 na_235 kn_235 (((f + (4 : Int64)) - (1 : Int64))) ((((f + (1 : Int64)) + (1 : Int64)) + (1 : Int64))) wp (own_ax58 f) sp xp fp gp (f325.keep K331) (F323_0.keep K331 nin0) (F323_1.keep K331 nin0) (F323_2.keep K331 nin0) (F323_3.keep K331 nin0) (F323_4.keep K331 nin0) (f329.keep K331 nin0) (f330.keep K331 nin0)) pd_9 rfl rfl rfl rfl rfl (nl rfl) (nl rfl) (nl rfl) (nl rfl) at_317 rfl ?_
        rintro _ h336 ⟨r_336, rfl, K336, ge_r_336, sz_r_336, F336_0, F336_1, F336_2⟩
        have sz337 : h.size ≤ r_336 := Nat.le_trans K333.1 sz_r_336
        have K338 : Keep h h336 [] := K333.trans K336 all0
        show Go _ _ _ _ _ _ _ _ _ _ _ _ 320 #[.val (.long p0), .second, .val (.int p1), .val (.long p2), .second, .val (.int p3), .val (.long f), .second, .val (.int (4 : Int32)), .val (.ref b232), .val (.long f), .second, .val (.long d270), .second, .val (.long (d270 - f)), .second, .val (.long (f + (d270 - f))), .second, .val (.long ((4 : Int64) - (d270 - f))), .second, .val (.ref r_331), .val .null, .unset] [(.ref r_336)]
        refine Go.astore (pc' := 322) (Ls' := #[.val (.long p0), .second, .val (.int p1), .val (.long p2), .second, .val (.int p3), .val (.long f), .second, .val (.int (4 : Int32)), .val (.ref b232), .val (.long f), .second, .val (.long d270), .second, .val (.long (d270 - f)), .second, .val (.long (f + (d270 - f))), .second, .val (.long ((4 : Int64) - (d270 - f))), .second, .val (.ref r_331), .val .null, .val (.ref r_336)]) at_320 rfl rfl rfl ?_
        refine Go.aload (pc' := 324) at_322 rfl rfl rfl ?_
        refine Go.nullNo (pc' := 327) at_324 rfl nofun rfl ?_
        refine Go.aload (pc' := 329) at_327 rfl rfl rfl ?_
        refine Go.callV (cells' := 8) (slots' := 23) (pc' := 332) [] [] F336_0 (ww hw 101 rfl) (ww hw 40 rfl) (fun s' hs' => notFace_of_selects (args := #[]) (mvT hs' (ww hw 42 rfl))) (ww hw 42 rfl) (ww hw 41 rfl) (ww hw 18 rfl) (ww hw 43 rfl) (by decide) (c_getSec l Z a0 hw h336 r_336 (3 : Int64) F336_1) pd_4 rfl rfl rfl rfl rfl (nl rfl) (nl rfl) (nl rfl) (nl rfl) at_329 rfl ?_
        rintro _ _ ⟨rfl, rfl⟩
        show Go _ _ _ _ _ _ _ _ _ _ _ _ 332 #[.val (.long p0), .second, .val (.int p1), .val (.long p2), .second, .val (.int p3), .val (.long f), .second, .val (.int (4 : Int32)), .val (.ref b232), .val (.long f), .second, .val (.long d270), .second, .val (.long (d270 - f)), .second, .val (.long (f + (d270 - f))), .second, .val (.long ((4 : Int64) - (d270 - f))), .second, .val (.ref r_331), .val .null, .val (.ref r_336)] [(.long (3 : Int64))]
        refine Go.iload (pc' := 334) at_332 rfl rfl ?_
        refine Go.iconst (pc' := 335) (v := (1 : Int32)) at_334 rfl rfl ?_
        refine Go.isub (pc' := 336) at_335 rfl ?_
        show Go _ _ _ _ _ _ _ _ _ _ _ _ 336 #[.val (.long p0), .second, .val (.int p1), .val (.long p2), .second, .val (.int p3), .val (.long f), .second, .val (.int (4 : Int32)), .val (.ref b232), .val (.long f), .second, .val (.long d270), .second, .val (.long (d270 - f)), .second, .val (.long (f + (d270 - f))), .second, .val (.long ((4 : Int64) - (d270 - f))), .second, .val (.ref r_331), .val .null, .val (.ref r_336)] [(.int (3 : Int32)), (.long (3 : Int64))]
        refine Go.i2l (pc' := 337) at_336 rfl ?_
        show Go _ _ _ _ _ _ _ _ _ _ _ _ 337 #[.val (.long p0), .second, .val (.int p1), .val (.long p2), .second, .val (.int p3), .val (.long f), .second, .val (.int (4 : Int32)), .val (.ref b232), .val (.long f), .second, .val (.long d270), .second, .val (.long (d270 - f)), .second, .val (.long (f + (d270 - f))), .second, .val (.long ((4 : Int64) - (d270 - f))), .second, .val (.ref r_331), .val .null, .val (.ref r_336)] [(.long (3 : Int64)), (.long (3 : Int64))]
        refine Go.lcmp (pc' := 338) at_337 rfl ?_
        refine Go.ifNo (pc' := 341) at_338 (XT.ll_ne_f (by decide)) rfl ?_
        refine Go.iconst (pc' := 342) (v := (1 : Int32)) at_341 rfl rfl ?_
        refine Go.goto (pc' := 346) at_342 (by decide) (by decide) ?_
        exact Go.retN (t := .boolean) rfl (by simp) at_346 ⟨rfl, K338⟩ (by decide) (by decide)
      ·
        refine Go.aload (pc' := 143) at_141 rfl rfl rfl ?_
        refine Go.lload (pc' := 145) at_143 rfl rfl ?_
        refine Go.callV (cells' := 6) (slots' := 19) (pc' := 148) [(.long d270)] [] (((f256.keep K260).keep K262).keep K268) (ww hw 62 rfl) (ww hw 63 rfl) (fun s' hs' => notFace_of_selects (args := #[]) (mvT hs' (ww hw 65 rfl))) (ww hw 65 rfl) (ww hw 64 rfl) (ww hw 3 rfl) (ww hw 66 rfl) (by decide) (c_drop4_4 l Z a0 hw h268 b232 sa_235 ks_235 na_235 f d270 q272_0 q272_1 q272_2 q272_3 ge232 ne241 ((((f256.keep K260).keep K262).keep K268)) F268_0 F268_1 F268_2 F268_3 F268_4 F268_5) pd_8 rfl rfl rfl rfl rfl (nl rfl) (nl rfl) (nl rfl) (nl rfl) at_145 rfl ?_
        rintro _ h340 ⟨rfl, K340, F340_0, F340_1, F340_2, F340_3, F340_4⟩
        have K341 : Keep h h340 [] := K269.trans K340 (allS (Or.inr sz233) all0)
        show Go _ _ _ _ _ _ _ _ _ _ _ _ 148 #[.val (.long p0), .second, .val (.int p1), .val (.long p2), .second, .val (.int p3), .val (.long f), .second, .val (.int (4 : Int32)), .val (.ref b232), .val (.long f), .second, .val (.long d270), .second, .unset, .unset, .unset, .unset, .unset, .unset, .unset, .unset, .unset] []
        refine Go.lload (pc' := 150) at_148 rfl rfl ?_
        refine Go.lload (pc' := 152) at_150 rfl rfl ?_
        refine Go.lcmp (pc' := 153) at_152 rfl ?_
        refine Go.ifYes (pc' := 162) at_153 (XT.ll_gt_t q272_0) (by decide) (by decide) ?_
        refine Go.lload (pc' := 164) at_162 rfl rfl ?_
        refine Go.lload (pc' := 166) at_164 rfl rfl ?_
        refine Go.iload (pc' := 168) at_166 rfl rfl ?_
        refine Go.i2l (pc' := 169) at_168 rfl ?_
        show Go _ _ _ _ _ _ _ _ _ _ _ _ 169 #[.val (.long p0), .second, .val (.int p1), .val (.long p2), .second, .val (.int p3), .val (.long f), .second, .val (.int (4 : Int32)), .val (.ref b232), .val (.long f), .second, .val (.long d270), .second, .unset, .unset, .unset, .unset, .unset, .unset, .unset, .unset, .unset] [(.long (4 : Int64)), (.long f), (.long d270)]
        refine Go.ladd (pc' := 170) at_169 rfl ?_
        refine Go.lcmp (pc' := 171) at_170 rfl ?_
        refine Go.ifNo (pc' := 174) at_171 (XT.ll_lt_f q272_4) rfl ?_
        refine Go.iload (pc' := 176) at_174 rfl rfl ?_
        refine Go.i2l (pc' := 177) at_176 rfl ?_
        show Go _ _ _ _ _ _ _ _ _ _ _ _ 177 #[.val (.long p0), .second, .val (.int p1), .val (.long p2), .second, .val (.int p3), .val (.long f), .second, .val (.int (4 : Int32)), .val (.ref b232), .val (.long f), .second, .val (.long d270), .second, .unset, .unset, .unset, .unset, .unset, .unset, .unset, .unset, .unset] [(.long (4 : Int64))]
        refine Go.lstore (pc' := 179) (Ls' := #[.val (.long p0), .second, .val (.int p1), .val (.long p2), .second, .val (.int p3), .val (.long f), .second, .val (.int (4 : Int32)), .val (.ref b232), .val (.long f), .second, .val (.long d270), .second, .val (.long (4 : Int64)), .second, .unset, .unset, .unset, .unset, .unset, .unset, .unset]) at_177 rfl rfl ?_
        refine Go.goto (pc' := 189) at_179 (by decide) (by decide) ?_
        refine Go.lload (pc' := 191) at_189 rfl rfl ?_
        refine Go.lload (pc' := 193) at_191 rfl rfl ?_
        refine Go.ladd (pc' := 194) at_193 rfl ?_
        refine Go.lstore (pc' := 196) (Ls' := #[.val (.long p0), .second, .val (.int p1), .val (.long p2), .second, .val (.int p3), .val (.long f), .second, .val (.int (4 : Int32)), .val (.ref b232), .val (.long f), .second, .val (.long d270), .second, .val (.long (4 : Int64)), .second, .val (.long (f + (4 : Int64))), .second, .unset, .unset, .unset, .unset, .unset]) at_194 rfl rfl ?_
        refine Go.iload (pc' := 198) at_196 rfl rfl ?_
        refine Go.i2l (pc' := 199) at_198 rfl ?_
        show Go _ _ _ _ _ _ _ _ _ _ _ _ 199 #[.val (.long p0), .second, .val (.int p1), .val (.long p2), .second, .val (.int p3), .val (.long f), .second, .val (.int (4 : Int32)), .val (.ref b232), .val (.long f), .second, .val (.long d270), .second, .val (.long (4 : Int64)), .second, .val (.long (f + (4 : Int64))), .second, .unset, .unset, .unset, .unset, .unset] [(.long (4 : Int64))]
        refine Go.lload (pc' := 201) at_199 rfl rfl ?_
        refine Go.lsub (pc' := 202) at_201 rfl ?_
        show Go _ _ _ _ _ _ _ _ _ _ _ _ 202 #[.val (.long p0), .second, .val (.int p1), .val (.long p2), .second, .val (.int p3), .val (.long f), .second, .val (.int (4 : Int32)), .val (.ref b232), .val (.long f), .second, .val (.long d270), .second, .val (.long (4 : Int64)), .second, .val (.long (f + (4 : Int64))), .second, .unset, .unset, .unset, .unset, .unset] [(.long (0 : Int64))]
        refine Go.lstore (pc' := 204) (Ls' := #[.val (.long p0), .second, .val (.int p1), .val (.long p2), .second, .val (.int p3), .val (.long f), .second, .val (.int (4 : Int32)), .val (.ref b232), .val (.long f), .second, .val (.long d270), .second, .val (.long (4 : Int64)), .second, .val (.long (f + (4 : Int64))), .second, .val (.long (0 : Int64)), .second, .unset, .unset, .unset]) at_202 rfl rfl ?_
        refine Go.aload (pc' := 206) at_204 rfl rfl rfl ?_
        have f342 : Exa Z h340 b232 "com/example/rens/rens/TimeRing" := ((((f256.keep K260).keep K262).keep K268).keep K340)
        refine Go.callV (cells' := 6) (slots' := 19) (pc' := 209) [] [] f342 (ww hw 67 rfl) (ww hw 68 rfl) (fun s' hs' => notFace_of_selects (args := #[]) (mvT hs' (ww hw 70 rfl))) (ww hw 70 rfl) (ww hw 69 rfl) (ww hw 3 rfl) (ww hw 71 rfl) (by decide) (c_first l Z a0 hw h340 b232 (((((f + (1 : Int64)) + (1 : Int64)) + (1 : Int64)) + (1 : Int64))) F340_4) pd_4 rfl rfl rfl rfl rfl (nl rfl) (nl rfl) (nl rfl) (nl rfl) at_206 rfl ?_
        rintro _ _ ⟨rfl, rfl⟩
        show Go _ _ _ _ _ _ _ _ _ _ _ _ 209 #[.val (.long p0), .second, .val (.int p1), .val (.long p2), .second, .val (.int p3), .val (.long f), .second, .val (.int (4 : Int32)), .val (.ref b232), .val (.long f), .second, .val (.long d270), .second, .val (.long (4 : Int64)), .second, .val (.long (f + (4 : Int64))), .second, .val (.long (0 : Int64)), .second, .unset, .unset, .unset] [(.long ((((f + (1 : Int64)) + (1 : Int64)) + (1 : Int64)) + (1 : Int64)))]
        refine Go.lload (pc' := 211) at_209 rfl rfl ?_
        refine Go.lcmp (pc' := 212) at_211 rfl ?_
        refine Go.ifNo (pc' := 215) at_212 (XT.ll_ne_f (by exact (own_ax53 f) : ((((f + (1 : Int64)) + (1 : Int64)) + (1 : Int64)) + (1 : Int64)) = (f + (4 : Int64)))) rfl ?_
        refine Go.aload (pc' := 217) at_215 rfl rfl rfl ?_
        refine Go.callV (cells' := 6) (slots' := 19) (pc' := 220) [] [] f342 (ww hw 72 rfl) (ww hw 73 rfl) (fun s' hs' => notFace_of_selects (args := #[]) (mvT hs' (ww hw 75 rfl))) (ww hw 75 rfl) (ww hw 74 rfl) (ww hw 3 rfl) (ww hw 76 rfl) (by decide) (c_size l Z a0 hw h340 b232 (0 : Int32) F340_3) pd_5 rfl rfl rfl rfl rfl (nl rfl) (nl rfl) (nl rfl) (nl rfl) at_217 rfl ?_
        rintro _ _ ⟨rfl, rfl⟩
        show Go _ _ _ _ _ _ _ _ _ _ _ _ 220 #[.val (.long p0), .second, .val (.int p1), .val (.long p2), .second, .val (.int p3), .val (.long f), .second, .val (.int (4 : Int32)), .val (.ref b232), .val (.long f), .second, .val (.long d270), .second, .val (.long (4 : Int64)), .second, .val (.long (f + (4 : Int64))), .second, .val (.long (0 : Int64)), .second, .unset, .unset, .unset] [(.int (0 : Int32))]
        refine Go.i2l (pc' := 221) at_220 rfl ?_
        show Go _ _ _ _ _ _ _ _ _ _ _ _ 221 #[.val (.long p0), .second, .val (.int p1), .val (.long p2), .second, .val (.int p3), .val (.long f), .second, .val (.int (4 : Int32)), .val (.ref b232), .val (.long f), .second, .val (.long d270), .second, .val (.long (4 : Int64)), .second, .val (.long (f + (4 : Int64))), .second, .val (.long (0 : Int64)), .second, .unset, .unset, .unset] [(.long (0 : Int64))]
        refine Go.lload (pc' := 223) at_221 rfl rfl ?_
        refine Go.lcmp (pc' := 224) at_223 rfl ?_
        refine Go.ifNo (pc' := 227) at_224 (XT.ll_ne_f (by decide)) rfl ?_
        refine Go.aload (pc' := 229) at_227 rfl rfl rfl ?_
        refine Go.callV (cells' := 6) (slots' := 19) (pc' := 232) [] [] f342 (ww hw 77 rfl) (ww hw 78 rfl) (fun s' hs' => notFace_of_selects (args := #[]) (mvT hs' (ww hw 80 rfl))) (ww hw 80 rfl) (ww hw 79 rfl) (ww hw 3 rfl) (ww hw 81 rfl) (by decide) (c_end0 l Z a0 hw h340 b232 (((((f + (1 : Int64)) + (1 : Int64)) + (1 : Int64)) + (1 : Int64))) F340_4 F340_3) pd_4 rfl rfl rfl rfl rfl (nl rfl) (nl rfl) (nl rfl) (nl rfl) at_229 rfl ?_
        rintro _ _ ⟨rfl, rfl⟩
        show Go _ _ _ _ _ _ _ _ _ _ _ _ 232 #[.val (.long p0), .second, .val (.int p1), .val (.long p2), .second, .val (.int p3), .val (.long f), .second, .val (.int (4 : Int32)), .val (.ref b232), .val (.long f), .second, .val (.long d270), .second, .val (.long (4 : Int64)), .second, .val (.long (f + (4 : Int64))), .second, .val (.long (0 : Int64)), .second, .unset, .unset, .unset] [(.long (((((f + (1 : Int64)) + (1 : Int64)) + (1 : Int64)) + (1 : Int64)) + (0 : Int64)))]
        refine Go.lload (pc' := 234) at_232 rfl rfl ?_
        refine Go.iload (pc' := 236) at_234 rfl rfl ?_
        refine Go.i2l (pc' := 237) at_236 rfl ?_
        show Go _ _ _ _ _ _ _ _ _ _ _ _ 237 #[.val (.long p0), .second, .val (.int p1), .val (.long p2), .second, .val (.int p3), .val (.long f), .second, .val (.int (4 : Int32)), .val (.ref b232), .val (.long f), .second, .val (.long d270), .second, .val (.long (4 : Int64)), .second, .val (.long (f + (4 : Int64))), .second, .val (.long (0 : Int64)), .second, .unset, .unset, .unset] [(.long (4 : Int64)), (.long f), (.long (((((f + (1 : Int64)) + (1 : Int64)) + (1 : Int64)) + (1 : Int64)) + (0 : Int64)))]
        refine Go.ladd (pc' := 238) at_237 rfl ?_
        refine Go.lcmp (pc' := 239) at_238 rfl ?_
        refine Go.ifYes (pc' := 244) at_239 (XT.ll_eq_t (by exact (own_ax59 f) : (((((f + (1 : Int64)) + (1 : Int64)) + (1 : Int64)) + (1 : Int64)) + (0 : Int64)) = (f + (4 : Int64)))) (by decide) (by decide) ?_
        refine Go.aload (pc' := 246) at_244 rfl rfl rfl ?_
        refine Go.lload (pc' := 248) at_246 rfl rfl ?_
        have f346 : Arv Z h340 sa_235 ks_235 .long (4 : Int32) [(.long 0), (.long 1), (.long 2), (.long 3)] (.long 0) := (F268_5.keep K340 (ninS (Ne.symm ne241) nin0))
        have f347 : Arv Z h340 na_235 kn_235 .int (4 : Int32) [(.int 0), (.int 0), (.int 0), (.int 0)] (.int 0) := (F268_6.keep K340 (ninS (Ne.symm ne242) nin0))
        refine Go.callV (cells' := 6) (slots' := 19) (pc' := 251) [(.long (f + (4 : Int64)))] [] f342 (ww hw 82 rfl) (ww hw 83 rfl) (fun s' hs' => notFace_of_selects (args := #[]) (mvT hs' (ww hw 85 rfl))) (ww hw 85 rfl) (ww hw 84 rfl) (ww hw 3 rfl) (ww hw 86 rfl) (by decide) (c_get4_4_0 l Z a0 hw h340 b232 sa_235 ks_235 na_235 kn_235 ((f + (4 : Int64))) (((((f + (1 : Int64)) + (1 : Int64)) + (1 : Int64)) + (1 : Int64))) wp (own_ax60 f) sp xp fp gp f342 F340_0 F340_1 F340_2 F340_3 F340_4 f346 f347) pd_9 rfl rfl rfl rfl rfl (nl rfl) (nl rfl) (nl rfl) (nl rfl) at_248 rfl ?_
        rintro _ _ ⟨rfl, rfl⟩
        show Go _ _ _ _ _ _ _ _ _ _ _ _ 251 #[.val (.long p0), .second, .val (.int p1), .val (.long p2), .second, .val (.int p3), .val (.long f), .second, .val (.int (4 : Int32)), .val (.ref b232), .val (.long f), .second, .val (.long d270), .second, .val (.long (4 : Int64)), .second, .val (.long (f + (4 : Int64))), .second, .val (.long (0 : Int64)), .second, .unset, .unset, .unset] [.null]
        refine Go.astore (pc' := 253) (Ls' := #[.val (.long p0), .second, .val (.int p1), .val (.long p2), .second, .val (.int p3), .val (.long f), .second, .val (.int (4 : Int32)), .val (.ref b232), .val (.long f), .second, .val (.long d270), .second, .val (.long (4 : Int64)), .second, .val (.long (f + (4 : Int64))), .second, .val (.long (0 : Int64)), .second, .val .null, .unset, .unset]) at_251 rfl rfl rfl ?_
        refine Go.aload (pc' := 255) at_253 rfl rfl rfl ?_
        refine Go.lload (pc' := 257) at_255 rfl rfl ?_
        refine Go.lconst (pc' := 258) (v := (1 : Int64)) at_257 rfl rfl ?_
        refine Go.lsub (pc' := 259) at_258 rfl ?_
        refine Go.callV (cells' := 6) (slots' := 19) (pc' := 262) [(.long ((f + (4 : Int64)) - (1 : Int64)))] [] f342 (ww hw 82 rfl) (ww hw 83 rfl) (fun s' hs' => notFace_of_selects (args := #[]) (mvT hs' (ww hw 85 rfl))) (ww hw 85 rfl) (ww hw 84 rfl) (ww hw 3 rfl) (ww hw 86 rfl) (by decide) (c_get4_4_m1 l Z a0 hw h340 b232 sa_235 ks_235 na_235 kn_235 (((f + (4 : Int64)) - (1 : Int64))) (((((f + (1 : Int64)) + (1 : Int64)) + (1 : Int64)) + (1 : Int64))) wp (own_ax61 f) sp xp fp gp f342 F340_0 F340_1 F340_2 F340_3 F340_4 f346 f347) pd_9 rfl rfl rfl rfl rfl (nl rfl) (nl rfl) (nl rfl) (nl rfl) at_259 rfl ?_
        rintro _ _ ⟨rfl, rfl⟩
        show Go _ _ _ _ _ _ _ _ _ _ _ _ 262 #[.val (.long p0), .second, .val (.int p1), .val (.long p2), .second, .val (.int p3), .val (.long f), .second, .val (.int (4 : Int32)), .val (.ref b232), .val (.long f), .second, .val (.long d270), .second, .val (.long (4 : Int64)), .second, .val (.long (f + (4 : Int64))), .second, .val (.long (0 : Int64)), .second, .val .null, .unset, .unset] [.null]
        refine Go.astore (pc' := 264) (Ls' := #[.val (.long p0), .second, .val (.int p1), .val (.long p2), .second, .val (.int p3), .val (.long f), .second, .val (.int (4 : Int32)), .val (.ref b232), .val (.long f), .second, .val (.long d270), .second, .val (.long (4 : Int64)), .second, .val (.long (f + (4 : Int64))), .second, .val (.long (0 : Int64)), .second, .val .null, .val .null, .unset]) at_262 rfl rfl rfl ?_
        refine Go.aload (pc' := 266) at_264 rfl rfl rfl ?_
        refine Go.nullYes (pc' := 271) at_266 rfl (by decide) (by decide) ?_
        refine Go.lload (pc' := 273) at_271 rfl rfl ?_
        refine Go.lconst (pc' := 274) (v := (0 : Int64)) at_273 rfl rfl ?_
        refine Go.lcmp (pc' := 275) at_274 rfl ?_
        refine Go.ifNo (pc' := 278) at_275 (XT.ll_ne_f (by decide)) rfl ?_
        refine Go.aload (pc' := 280) at_278 rfl rfl rfl ?_
        refine Go.nonnullNo (pc' := 283) at_280 rfl rfl ?_
        refine Go.iconst (pc' := 284) (v := (1 : Int32)) at_283 rfl rfl ?_
        refine Go.goto (pc' := 288) at_284 (by decide) (by decide) ?_
        exact Go.retN (t := .boolean) rfl (by simp) at_288 ⟨rfl, K341⟩ (by decide) (by decide)
    by_cases hc350 : (p3 &&& (1 : Int32)) = (0 : Int32)
    ·
      refine Go.ifNo (pc' := 123) at_120 (XT.i0_ne_f hc350) rfl ?_
      refine Go.lloadN (pc' := 124) at_123 rfl rfl ?_
      refine Go.goto (pc' := 139) at_124 (by decide) (by decide) ?_
      exact key271 _
    ·
      refine Go.ifYes (pc' := 127) at_120 (XT.i0_ne_t hc350) (by decide) (by decide) ?_
      refine Go.lload (pc' := 129) at_127 rfl rfl ?_
      refine Go.lloadN (pc' := 130) at_129 rfl rfl ?_
      refine Go.ldc2J (pc' := 133) (ww hw 102 rfl) at_130 rfl ?_
      refine Go.land (pc' := 134) at_133 rfl ?_
      refine Go.ldc2J (pc' := 137) (ww hw 103 rfl) at_134 rfl ?_
      refine Go.lsub (pc' := 138) at_137 rfl ?_
      refine Go.ladd (pc' := 139) at_138 rfl ?_
      exact key271 _
set_option maxRecDepth 65536 in
set_option maxHeartbeats 4000000 in
theorem comes_1 {Post : Tables → Env → Array Value → State → Outcome → State → Prop} (hpost : ∀ tb e args s v u, (limb_1_1.after args s (.returned v) u = true ∧ limb_1_2.after args s (.returned v) u = true ∧ True) → FrameEnd s (.returned v) u (Jvm.fieldLocs frame_1_writes args s ++ Jvm.arrayLocs frame_1_arrays args s ++ Jvm.staticLocs frame_1_statics s) 24 128 → Post tb e args s (.returned v) u) :
    ArmFor flags0 classFile x code maxLocals ret World_1 tables_1 room_1 Calls_1 rest_1 Pre_1 Post := by
  intro l hfl _ _ p e ha hc hk s m args below hf hA hF happ hP
  obtain ⟨hcalls, hrest, hpre⟩ := hP
  obtain ⟨-, -, -, hnamed, -, -, -, hat⟩ := (Spec.applies_iff hf).mp happ
  obtain ⟨hg, hn⟩ := and_e (Cond.before_iff.mp (show (Jvm.Cond.and given_1 narrow_1).before args s = true from hpre))
  obtain ⟨g1, g2⟩ := and_e hg
  obtain ⟨g3, g4⟩ := and_e g2
  obtain ⟨g5, g6⟩ := and_e g4
  obtain ⟨g7, g8⟩ := and_e g6
  obtain ⟨w0, w1, w2, w3, rfl⟩ : ∃ w0 w1 w2 w3 : Value, args = #[w0, w1, w2, w3] := by
    have hs : args.size = 4 := by simpa [Cond.value, given_1] using g1
    obtain ⟨L⟩ := args
    match L, hs with
    | [w0, w1, w2, w3], _ => exact ⟨w0, w1, w2, w3, rfl⟩
  have hw := fun d (hd : d ∈ tables_1) => atoms_spec (ws := Jvm.Cond.code x code maxLocals ret :: tables_1) hat d (List.mem_cons_of_mem _ hd)
  have hfit : Fit s := fun {y c} hc i hi => by
    obtain ⟨ha, rfl⟩ := Array.getElem?_eq_some_iff.mp hc
    have q := List.all_eq_true.mp ((Array.all_eq_true_iff_forall_mem.mp hF) _ (Array.getElem_mem ha)) i (List.mem_range.mpr hi)
    simpa [Array.getElem?_eq_getElem hi] using q
  obtain ⟨hsets, hown0⟩ := atoms_of _ (rest_1_c_eq ▸ (show rest_1_c.before _ s = true from hrest))
  have hr0 := Cond.before_iff.mp hown0
  obtain ⟨i0, ei0⟩ := isL_v g3
  obtain rfl : w0 = (.long i0) := Option.some.inj ei0
  obtain ⟨i1, ei1⟩ := is_v g5
  obtain rfl : w1 = (.int i1) := Option.some.inj ei1
  obtain ⟨i2, ei2⟩ := isL_v g7
  obtain rfl : w2 = (.long i2) := Option.some.inj ei2
  obtain ⟨i3, ei3⟩ := is_v g8
  obtain rfl : w3 = (.int i3) := Option.some.inj ei3
  obtain ⟨wp, ev_wp⟩ := exa_v (Cond.before_iff.mp (hsets _ (List.mem_of_getElem? (i := 2) rfl)))
  have exa_wp := Exa.start ev_wp (Cond.before_iff.mp (hsets _ (List.mem_of_getElem? (i := 2) rfl)))
  have sta_wp := Sta.start ev_wp (Or.inl (hsets _ (List.mem_of_getElem? (i := 1) rfl)))
  have sec_wp := own_fld ev_wp (own_eqJ (Cond.before_iff.mp (hsets _ (List.mem_of_getElem? (i := 3) rfl))))
  have nan_wp := own_fld ev_wp (own_eqI (Cond.before_iff.mp (hsets _ (List.mem_of_getElem? (i := 4) rfl))))
  obtain ⟨n, o, h1, h2, h3, _, L, rfl, ⟨hQ, N⟩, hq⟩ := c_law l s _ hw s.heap i0 i1 i2 i3 wp sta_wp exa_wp sec_wp nan_wp (Old.start s) tables_1 p e ha hc hk s m _ below hf ((Spec.applies_iff_loose hf).mp happ).1 ⟨rfl, State.Warmed39.refl s, rfl⟩ trivial
  obtain rfl := hQ.1
  refine ⟨n, _, h1, h2, h3, hpost _ _ _ _ _ _ ⟨Cond.after_iff.mpr rfl, Cond.after_iff.mpr (eq_i res_at (Term.int_eval (1)) rfl), trivial⟩ ⟨hq.1, hq.2.1, (hq.2.2.sift fun y hy => Or.inr (N y hy)).mono (by decide) (by decide)⟩⟩
theorem main_1_1 : Claimed_1_1 := comes_1 fun _ _ _ _ _ _ h hF => ⟨h.1, hF⟩
theorem main_1_2 : Claimed_1_2 := comes_1 fun _ _ _ _ _ _ h hF => ⟨h.2.1, hF⟩

end Jvm.Pilot.@@N@@
namespace Jvm.Pilot.@@N@@
open Jvm Jvm.ClassFile Sem Op Lib Jvm.Free Jvm.Stand Jvm.Pilot.@@N@@.Jvm.D
/-! MADE BY PROGRAM (witnessworld.py) out of the Statement's table words and the real class files: 17 classes; the members and pool entries that the words name. The judged class is class 1, her method 1. -/
namespace start1
open Jvm.ClassFile
def u (s : String) : CpInfo := .utf8 (stringToUtf16 s)
/-- a pool by its gaps: so many unusable entries, then the entry; so many at the end -/
def gap : Nat → List CpInfo → List CpInfo
  | 0, r => r
  | n + 1, r => .unusable :: gap n r
def poolList (es : List (Nat × CpInfo)) (last : Nat) : List CpInfo := es.foldr (fun e r => gap e.1 (e.2 :: r)) (gap last [])
def pool (es : List (Nat × CpInfo)) (last : Nat) : Array CpInfo := ⟨poolList es last⟩
def fileOf (pool : Array CpInfo) (this : Nat) (attrs : Array Attribute := #[]) (ms : Array MethodInfo := #[]) (fl : Nat := 33) (sup : Nat := 0) (ifs : Array Nat := #[]) (fds : Array FieldInfo := #[]) : ClassFile where
  minorVersion := 0
  majorVersion := 65
  constantPool := pool
  accessFlags := fl
  thisClass := this
  superClass := sup
  interfaces := ifs
  fields := fds
  methods := ms
  attributes := attrs
def plain (name : String) (sup : Option ClassId) : Class where
  name := name
  kind := .ordinary
  loader := none
  accessFlags := 33
  super := sup
  interfaces := #[]
  cf := none
  fields := #[]
  methods := #[]
  instanceTypes := #[]
  staticTypes := #[]
  resolved := #[]
  callSites := []
  init := .initialized
  statics := none
  mirror := none

def pool0 : Array CpInfo := pool [(5, u "<init>"), (0, u "()V"), (1, .class_ 10), (1, u "java/lang/Object")] 113

def k0c0 : Code := { maxStack := 0, maxLocals := 1, code := object_method_1_code, exceptionTable := #[], attributes := #[] }
def k0m0 : Method := { name := "<init>", desc := "()V", sig := { parameters := [], returnType := none }, accessFlags := 1, code := some k0c0 }
/-- java/lang/Object -/
def k0 : Class := { plain "java/lang/Object" none with
  accessFlags := 33
  interfaces := #[]
  cf := some (fileOf pool0 8 #[] #[{ accessFlags := 1, nameIndex := 5, descriptorIndex := 6, attributes := #[] }] 33 0 #[] #[])
  fields := #[]
  methods := #[k0m0]
  instanceTypes := #[]
  staticTypes := #[]
  resolved := Array.replicate 124 none
  statics := none }

def pool1 : Array CpInfo := pool [(2, .class_ 4), (0, .nameAndType 5 6), (0, u "java/lang/Object"), (0, u "<init>"), (0, u "()V"), (0, .integer 2147483647), (0, .class_ 9), (0, u "com/example/rens/rens/TimeRing"), (0, .methodref 8 3), (0, .methodref 12 13), (0, .class_ 14), (0, .nameAndType 15 16), (0, u "java/time/Instant"), (0, u "ofEpochSecond"), (0, u "(J)Ljava/time/Instant;"), (0, .methodref 8 18), (0, .nameAndType 19 20), (0, u "set"), (0, u "(JLjava/time/Instant;)V"), (0, .long 2), (1, .long 3), (1, .long 7), (1, .methodref 8 28), (0, .nameAndType 29 30), (0, u "dropBefore"), (0, u "(J)V"), (0, .methodref 8 32), (0, .nameAndType 33 34), (0, u "first"), (0, u "()J"), (0, .methodref 8 36), (0, .nameAndType 37 38), (0, u "size"), (0, u "()I"), (0, .methodref 8 40), (0, .nameAndType 41 34), (0, u "end"), (0, .methodref 8 43), (0, .nameAndType 44 16), (0, u "get"), (0, .methodref 12 46), (0, .nameAndType 47 34), (0, u "getEpochSecond"), (0, .class_ 49), (0, u "com/example/rens/rens/TimeRingDropBeforePinLaw"), (2, u "law"), (0, u "(JIJI)Z")] 3

def k1m0 : Method := { name := "<init>", desc := "()V", sig := { parameters := [], returnType := none }, accessFlags := 1, code := none }
def k1c1 : Code := { maxStack := 6, maxLocals := 23, code := code, exceptionTable := #[], attributes := #[] }
def k1m1 : Method := { name := "law", desc := "(JIJI)Z", sig := { parameters := [.long, .int, .long, .int], returnType := some .boolean }, accessFlags := 9, code := some k1c1 }
/-- com/example/rens/rens/TimeRingDropBeforePinLaw -/
def k1 : Class := { plain "com/example/rens/rens/TimeRingDropBeforePinLaw" (some 0) with
  accessFlags := 49
  interfaces := #[]
  cf := some (fileOf pool1 48 #[] #[{ accessFlags := 1, nameIndex := 5, descriptorIndex := 6, attributes := #[] }, { accessFlags := 9, nameIndex := 52, descriptorIndex := 53, attributes := #[] }] 49 2 #[] #[])
  fields := #[]
  methods := #[k1m0, k1m1]
  instanceTypes := #[]
  staticTypes := #[]
  resolved := Array.replicate 57 none
  statics := none }

def pool2 : Array CpInfo := pool [(1, .methodref 2 3), (0, .class_ 4), (0, .nameAndType 5 6), (0, u "java/lang/Object"), (0, u "<init>"), (0, u "()V"), (0, .fieldref 8 9), (0, .class_ 10), (0, .nameAndType 11 12), (0, u "com/example/rens/rens/TimeRing"), (0, u "seconds"), (0, u "[J"), (0, .fieldref 8 14), (0, .nameAndType 15 16), (0, u "nanos"), (0, u "[I"), (0, .fieldref 8 18), (0, .nameAndType 19 20), (0, u "first"), (0, u "J"), (0, .fieldref 8 22), (0, .nameAndType 23 24), (0, u "size"), (0, u "I"), (0, .methodref 8 26), (0, .nameAndType 27 28), (0, u "slot"), (0, u "(J)I"), (0, .methodref 30 31), (0, .class_ 32), (0, .nameAndType 33 34), (0, u "java/time/Instant"), (0, u "ofEpochSecond"), (0, u "(JJ)Ljava/time/Instant;"), (12, .methodref 30 48), (0, .nameAndType 49 50), (0, u "getEpochSecond"), (0, u "()J"), (0, .methodref 30 52), (0, .nameAndType 53 54), (0, u "getNano"), (0, u "()I"), (0, .fieldref 8 56), (0, .nameAndType 57 24), (0, u "head"), (2, u "end"), (0, u "get"), (0, u "(J)Ljava/time/Instant;"), (1, u "set"), (0, u "(JLjava/time/Instant;)V"), (0, u "dropBefore"), (0, u "(J)V")] 19

def k2c0 : Code := { maxStack := 2, maxLocals := 1, code := prog_22_method_1_code, exceptionTable := #[], attributes := #[] }
def k2m0 : Method := { name := "<init>", desc := "()V", sig := { parameters := [], returnType := none }, accessFlags := 0, code := some k2c0 }
def k2c1 : Code := { maxStack := 2, maxLocals := 1, code := prog_22_method_2_code, exceptionTable := #[], attributes := #[] }
def k2m1 : Method := { name := "first", desc := "()J", sig := { parameters := [], returnType := some .long }, accessFlags := 0, code := some k2c1 }
def k2c2 : Code := { maxStack := 4, maxLocals := 1, code := prog_22_method_3_code, exceptionTable := #[], attributes := #[] }
def k2m2 : Method := { name := "end", desc := "()J", sig := { parameters := [], returnType := some .long }, accessFlags := 0, code := some k2c2 }
def k2c3 : Code := { maxStack := 1, maxLocals := 1, code := prog_22_method_4_code, exceptionTable := #[], attributes := #[] }
def k2m3 : Method := { name := "size", desc := "()I", sig := { parameters := [], returnType := some .int }, accessFlags := 0, code := some k2c3 }
def k2c4 : Code := { maxStack := 4, maxLocals := 6, code := prog_22_method_5_code, exceptionTable := #[], attributes := #[] }
def k2m4 : Method := { name := "get", desc := "(J)Ljava/time/Instant;", sig := { parameters := [.long], returnType := some (.object "java/time/Instant") }, accessFlags := 0, code := some k2c4 }
def k2c5 : Code := { maxStack := 8, maxLocals := 5, code := prog_22_method_6_code, exceptionTable := #[], attributes := #[] }
def k2m5 : Method := { name := "set", desc := "(JLjava/time/Instant;)V", sig := { parameters := [.long, (.object "java/time/Instant")], returnType := none }, accessFlags := 0, code := some k2c5 }
def k2c6 : Code := { maxStack := 5, maxLocals := 3, code := prog_22_method_7_code, exceptionTable := #[], attributes := #[] }
def k2m6 : Method := { name := "dropBefore", desc := "(J)V", sig := { parameters := [.long], returnType := none }, accessFlags := 0, code := some k2c6 }
def k2c7 : Code := { maxStack := 4, maxLocals := 3, code := prog_22_method_8_code, exceptionTable := #[], attributes := #[] }
def k2m7 : Method := { name := "slot", desc := "(J)I", sig := { parameters := [.long], returnType := some .int }, accessFlags := 2, code := some k2c7 }
/-- com/example/rens/rens/TimeRing -/
def k2 : Class := { plain "com/example/rens/rens/TimeRing" (some 0) with
  accessFlags := 32
  interfaces := #[]
  cf := some (fileOf pool2 8 #[] #[{ accessFlags := 0, nameIndex := 5, descriptorIndex := 6, attributes := #[] }, { accessFlags := 0, nameIndex := 19, descriptorIndex := 50, attributes := #[] }, { accessFlags := 0, nameIndex := 60, descriptorIndex := 50, attributes := #[] }, { accessFlags := 0, nameIndex := 23, descriptorIndex := 54, attributes := #[] }, { accessFlags := 0, nameIndex := 61, descriptorIndex := 62, attributes := #[] }, { accessFlags := 0, nameIndex := 64, descriptorIndex := 65, attributes := #[] }, { accessFlags := 0, nameIndex := 66, descriptorIndex := 67, attributes := #[] }, { accessFlags := 2, nameIndex := 27, descriptorIndex := 28, attributes := #[] }] 32 2 #[] #[{ accessFlags := 2, nameIndex := 11, descriptorIndex := 12, attributes := #[] }, { accessFlags := 2, nameIndex := 15, descriptorIndex := 16, attributes := #[] }, { accessFlags := 2, nameIndex := 57, descriptorIndex := 24, attributes := #[] }, { accessFlags := 2, nameIndex := 23, descriptorIndex := 24, attributes := #[] }, { accessFlags := 2, nameIndex := 19, descriptorIndex := 20, attributes := #[] }])
  fields := #[{ name := "seconds", type := (.array .long), accessFlags := 2, slot := 0, constantValue := 0 }, { name := "nanos", type := (.array .int), accessFlags := 2, slot := 1, constantValue := 0 }, { name := "head", type := .int, accessFlags := 2, slot := 2, constantValue := 0 }, { name := "size", type := .int, accessFlags := 2, slot := 3, constantValue := 0 }, { name := "first", type := .long, accessFlags := 2, slot := 4, constantValue := 0 }]
  methods := #[k2m0, k2m1, k2m2, k2m3, k2m4, k2m5, k2m6, k2m7]
  instanceTypes := #[(.array .long), (.array .int), .int, .int, .long]
  staticTypes := #[]
  resolved := Array.replicate 87 none
  statics := none }

def pool3 : Array CpInfo := pool [(4, .class_ 6), (1, u "java/time/temporal/TemporalAccessor"), (95, .class_ 103), (0, u "java/lang/Object")] 21

/-- java/time/temporal/TemporalAccessor -/
def k3 : Class := { plain "java/time/temporal/TemporalAccessor" (some 0) with
  accessFlags := 1537
  interfaces := #[]
  cf := some (fileOf pool3 4 #[] #[] 1537 102 #[] #[])
  fields := #[]
  methods := #[]
  instanceTypes := #[]
  staticTypes := #[]
  resolved := Array.replicate 125 none
  statics := none }

def pool4 : Array CpInfo := pool [(22, .class_ 24), (1, u "java/time/temporal/Temporal"), (2, .class_ 28), (0, u "java/lang/Object"), (0, .class_ 30), (0, u "java/time/temporal/TemporalAccessor")] 25

/-- java/time/temporal/Temporal -/
def k4 : Class := { plain "java/time/temporal/Temporal" (some 0) with
  accessFlags := 1537
  interfaces := #[3]
  cf := some (fileOf pool4 22 #[] #[] 1537 27 #[29] #[])
  fields := #[]
  methods := #[]
  instanceTypes := #[]
  staticTypes := #[]
  resolved := Array.replicate 56 none
  statics := none }

def pool5 : Array CpInfo := pool [(1, .class_ 2), (0, u "java/time/temporal/TemporalAdjuster"), (0, .class_ 4), (0, u "java/lang/Object")] 6

/-- java/time/temporal/TemporalAdjuster -/
def k5 : Class := { plain "java/time/temporal/TemporalAdjuster" (some 0) with
  accessFlags := 1537
  interfaces := #[]
  cf := some (fileOf pool5 1 #[] #[] 1537 3 #[] #[])
  fields := #[]
  methods := #[]
  instanceTypes := #[]
  staticTypes := #[]
  resolved := Array.replicate 11 none
  statics := none }

def pool6 : Array CpInfo := pool [(1, .class_ 2), (0, u "java/lang/Comparable"), (0, .class_ 4), (0, u "java/lang/Object")] 7

/-- java/lang/Comparable -/
def k6 : Class := { plain "java/lang/Comparable" (some 0) with
  accessFlags := 1537
  interfaces := #[]
  cf := some (fileOf pool6 1 #[] #[] 1537 3 #[] #[])
  fields := #[]
  methods := #[]
  instanceTypes := #[]
  staticTypes := #[]
  resolved := Array.replicate 12 none
  statics := none }

def pool7 : Array CpInfo := pool [(1, .class_ 2), (0, u "java/io/Serializable"), (0, .class_ 4), (0, u "java/lang/Object")] 2

/-- java/io/Serializable -/
def k7 : Class := { plain "java/io/Serializable" (some 0) with
  accessFlags := 1537
  interfaces := #[]
  cf := some (fileOf pool7 1 #[] #[] 1537 3 #[] #[])
  fields := #[]
  methods := #[]
  instanceTypes := #[]
  staticTypes := #[]
  resolved := Array.replicate 7 none
  statics := none }

def pool8 : Array CpInfo := pool [(20, .methodref 21 22), (0, .class_ 23), (0, .nameAndType 24 25), (0, u "java/time/Instant"), (0, u "create"), (0, u "(JI)Ljava/time/Instant;"), (0, .long 1000000000), (1, .methodref 29 30), (0, .class_ 31), (0, .nameAndType 32 33), (0, u "java/lang/Math"), (0, u "floorDiv"), (0, u "(JJ)J"), (0, .methodref 29 35), (0, .nameAndType 36 33), (0, u "addExact"), (0, .methodref 29 38), (0, .nameAndType 39 33), (0, u "floorMod"), (30, u "ofEpochSecond"), (0, u "(JJ)Ljava/time/Instant;"), (5, .nameAndType 78 79), (0, u "<init>"), (0, u "()V"), (41, .fieldref 21 122), (0, .nameAndType 123 124), (0, u "EPOCH"), (0, u "Ljava/time/Instant;"), (0, .long 18415187059542332416), (1, .long 31556889864403199), (6, .methodref 21 135), (0, .nameAndType 78 136), (0, u "(JI)V"), (0, .methodref 138 77), (0, .class_ 139), (0, u "java/lang/Object"), (0, .fieldref 21 141), (0, .nameAndType 142 143), (0, u "seconds"), (0, u "J"), (0, .fieldref 21 145), (0, .nameAndType 146 147), (0, u "nanos"), (0, u "I"), (28, .class_ 178), (1, u "java/time/temporal/Temporal"), (3, .class_ 184), (1, u "java/time/Instant$1"), (5, u "()I"), (17, .class_ 210), (1, u "java/time/temporal/TemporalAdjuster"), (21, u "()J"), (14, u "(J)Ljava/time/Instant;"), (175, u "MIN"), (4, u "MAX"), (0, .class_ 430), (0, u "java/lang/Comparable"), (0, .class_ 432), (0, u "java/io/Serializable"), (0, u "MIN_SECOND"), (1, u "MAX_SECOND"), (0, u "serialVersionUID"), (33, u "getEpochSecond"), (0, u "getNano")] 107

def k8c0 : Code := { maxStack := 3, maxLocals := 2, code := jdk_2320_method_3_code, exceptionTable := #[], attributes := #[] }
def k8m0 : Method := { name := "ofEpochSecond", desc := "(J)Ljava/time/Instant;", sig := { parameters := [.long], returnType := some (.object "java/time/Instant") }, accessFlags := 9, code := some k8c0 }
def k8c1 : Code := { maxStack := 6, maxLocals := 7, code := jdk_2320_method_4_code, exceptionTable := #[], attributes := #[] }
def k8m1 : Method := { name := "ofEpochSecond", desc := "(JJ)Ljava/time/Instant;", sig := { parameters := [.long, .long], returnType := some (.object "java/time/Instant") }, accessFlags := 9, code := some k8c1 }
def k8c2 : Code := { maxStack := 5, maxLocals := 3, code := jdk_2320_method_8_code, exceptionTable := #[], attributes := #[] }
def k8m2 : Method := { name := "create", desc := "(JI)Ljava/time/Instant;", sig := { parameters := [.long, .int], returnType := some (.object "java/time/Instant") }, accessFlags := 10, code := some k8c2 }
def k8c3 : Code := { maxStack := 3, maxLocals := 4, code := jdk_2320_method_9_code, exceptionTable := #[], attributes := #[] }
def k8m3 : Method := { name := "<init>", desc := "(JI)V", sig := { parameters := [.long, .int], returnType := none }, accessFlags := 2, code := some k8c3 }
def k8c4 : Code := { maxStack := 2, maxLocals := 1, code := jdk_2320_method_15_code, exceptionTable := #[], attributes := #[] }
def k8m4 : Method := { name := "getEpochSecond", desc := "()J", sig := { parameters := [], returnType := some .long }, accessFlags := 1, code := some k8c4 }
def k8c5 : Code := { maxStack := 1, maxLocals := 1, code := jdk_2320_method_16_code, exceptionTable := #[], attributes := #[] }
def k8m5 : Method := { name := "getNano", desc := "()I", sig := { parameters := [], returnType := some .int }, accessFlags := 1, code := some k8c5 }
/-- java/time/Instant -/
def k8 : Class := { plain "java/time/Instant" (some 0) with
  accessFlags := 49
  interfaces := #[4, 5, 6, 7]
  cf := some (fileOf pool8 21 #[.nestMembers #[182]] #[{ accessFlags := 9, nameIndex := 70, descriptorIndex := 247, attributes := #[] }, { accessFlags := 9, nameIndex := 70, descriptorIndex := 71, attributes := #[] }, { accessFlags := 10, nameIndex := 24, descriptorIndex := 25, attributes := #[] }, { accessFlags := 2, nameIndex := 78, descriptorIndex := 136, attributes := #[] }, { accessFlags := 1, nameIndex := 470, descriptorIndex := 232, attributes := #[] }, { accessFlags := 1, nameIndex := 471, descriptorIndex := 190, attributes := #[] }] 49 138 #[176, 208, 429, 431] #[{ accessFlags := 25, nameIndex := 123, descriptorIndex := 124, attributes := #[] }, { accessFlags := 26, nameIndex := 433, descriptorIndex := 143, attributes := #[] }, { accessFlags := 26, nameIndex := 435, descriptorIndex := 143, attributes := #[] }, { accessFlags := 25, nameIndex := 423, descriptorIndex := 124, attributes := #[] }, { accessFlags := 25, nameIndex := 428, descriptorIndex := 124, attributes := #[] }, { accessFlags := 26, nameIndex := 436, descriptorIndex := 143, attributes := #[] }, { accessFlags := 18, nameIndex := 142, descriptorIndex := 143, attributes := #[] }, { accessFlags := 18, nameIndex := 146, descriptorIndex := 147, attributes := #[] }])
  fields := #[{ name := "EPOCH", type := (.object "java/time/Instant"), accessFlags := 25, slot := 0, constantValue := 0 }, { name := "MIN_SECOND", type := .long, accessFlags := 26, slot := 1, constantValue := 0 }, { name := "MAX_SECOND", type := .long, accessFlags := 26, slot := 2, constantValue := 0 }, { name := "MIN", type := (.object "java/time/Instant"), accessFlags := 25, slot := 3, constantValue := 0 }, { name := "MAX", type := (.object "java/time/Instant"), accessFlags := 25, slot := 4, constantValue := 0 }, { name := "serialVersionUID", type := .long, accessFlags := 26, slot := 5, constantValue := 0 }, { name := "seconds", type := .long, accessFlags := 18, slot := 0, constantValue := 0 }, { name := "nanos", type := .int, accessFlags := 18, slot := 1, constantValue := 0 }]
  methods := #[k8m0, k8m1, k8m2, k8m3, k8m4, k8m5]
  instanceTypes := #[.long, .int]
  staticTypes := #[(.object "java/time/Instant"), .long, .long, (.object "java/time/Instant"), (.object "java/time/Instant"), .long]
  resolved := Array.replicate 579 none
  statics := some 0 }

def pool9 : Array CpInfo := pool [(1, .class_ 2), (0, u "java/lang/Math"), (1, .class_ 6), (1, u "java/lang/Object"), (0, u "<init>"), (0, u "()V"), (89, .class_ 100), (1, u "java/lang/Math$RandomNumberGeneratorHolder"), (20, u "(JJ)J"), (23, u "floorDiv"), (2, u "floorMod"), (23, u "negativeZeroFloatBits"), (0, u "J"), (2, u "negativeZeroDoubleBits"), (68, u "$assertionsDisabled"), (0, u "Z"), (91, u "twoToTheDoubleScaleDown"), (0, u "D"), (4, u "twoToTheDoubleScaleUp"), (9, u "E"), (3, u "PI"), (2, u "TAU"), (2, u "DEGREES_TO_RADIANS"), (0, u "RADIANS_TO_DEGREES"), (27, u "addExact")] 66

def k9m0 : Method := { name := "<init>", desc := "()V", sig := { parameters := [], returnType := none }, accessFlags := 2, code := none }
def k9c1 : Code := { maxStack := 6, maxLocals := 6, code := jdk_29_method_25_code, exceptionTable := #[], attributes := #[] }
def k9m1 : Method := { name := "addExact", desc := "(JJ)J", sig := { parameters := [.long, .long], returnType := some .long }, accessFlags := 9, code := some k9c1 }
def k9c2 : Code := { maxStack := 4, maxLocals := 6, code := jdk_29_method_49_code, exceptionTable := #[], attributes := #[] }
def k9m2 : Method := { name := "floorDiv", desc := "(JJ)J", sig := { parameters := [.long, .long], returnType := some .long }, accessFlags := 9, code := some k9c2 }
def k9c3 : Code := { maxStack := 4, maxLocals := 6, code := jdk_29_method_52_code, exceptionTable := #[], attributes := #[] }
def k9m3 : Method := { name := "floorMod", desc := "(JJ)J", sig := { parameters := [.long, .long], returnType := some .long }, accessFlags := 9, code := some k9c3 }
/-- java/lang/Math -/
def k9 : Class := { plain "java/lang/Math" (some 0) with
  accessFlags := 49
  interfaces := #[]
  cf := some (fileOf pool9 1 #[.nestMembers #[98]] #[{ accessFlags := 2, nameIndex := 7, descriptorIndex := 8, attributes := #[] }, { accessFlags := 9, nameIndex := 393, descriptorIndex := 121, attributes := #[] }, { accessFlags := 9, nameIndex := 145, descriptorIndex := 121, attributes := #[] }, { accessFlags := 9, nameIndex := 148, descriptorIndex := 121, attributes := #[] }] 49 4 #[] #[{ accessFlags := 25, nameIndex := 354, descriptorIndex := 339, attributes := #[] }, { accessFlags := 25, nameIndex := 358, descriptorIndex := 339, attributes := #[] }, { accessFlags := 25, nameIndex := 361, descriptorIndex := 339, attributes := #[] }, { accessFlags := 26, nameIndex := 364, descriptorIndex := 339, attributes := #[] }, { accessFlags := 26, nameIndex := 365, descriptorIndex := 339, attributes := #[] }, { accessFlags := 26, nameIndex := 172, descriptorIndex := 173, attributes := #[] }, { accessFlags := 26, nameIndex := 176, descriptorIndex := 173, attributes := #[] }, { accessFlags := 8, nameIndex := 344, descriptorIndex := 339, attributes := #[] }, { accessFlags := 8, nameIndex := 338, descriptorIndex := 339, attributes := #[] }, { accessFlags := 4120, nameIndex := 245, descriptorIndex := 246, attributes := #[] }])
  fields := #[{ name := "E", type := .double, accessFlags := 25, slot := 0, constantValue := 0 }, { name := "PI", type := .double, accessFlags := 25, slot := 1, constantValue := 0 }, { name := "TAU", type := .double, accessFlags := 25, slot := 2, constantValue := 0 }, { name := "DEGREES_TO_RADIANS", type := .double, accessFlags := 26, slot := 3, constantValue := 0 }, { name := "RADIANS_TO_DEGREES", type := .double, accessFlags := 26, slot := 4, constantValue := 0 }, { name := "negativeZeroFloatBits", type := .long, accessFlags := 26, slot := 5, constantValue := 0 }, { name := "negativeZeroDoubleBits", type := .long, accessFlags := 26, slot := 6, constantValue := 0 }, { name := "twoToTheDoubleScaleUp", type := .double, accessFlags := 8, slot := 7, constantValue := 0 }, { name := "twoToTheDoubleScaleDown", type := .double, accessFlags := 8, slot := 8, constantValue := 0 }, { name := "$assertionsDisabled", type := .boolean, accessFlags := 4120, slot := 9, constantValue := 0 }]
  methods := #[k9m0, k9m1, k9m2, k9m3]
  instanceTypes := #[]
  staticTypes := #[.double, .double, .double, .double, .double, .long, .long, .double, .double, .boolean]
  resolved := Array.replicate 460 none
  statics := none }

def pool10 : Array CpInfo := pool [(1, u "java/lang/Cloneable"), (0, .class_ 1), (0, u "java/lang/Object"), (0, .class_ 3)] 3

/-- java/lang/Cloneable -/
def k10 : Class := { plain "java/lang/Cloneable" (some 0) with
  accessFlags := 1537
  interfaces := #[]
  cf := some (fileOf pool10 2 #[] #[] 1537 4 #[] #[])
  fields := #[]
  methods := #[]
  instanceTypes := #[]
  staticTypes := #[]
  resolved := Array.replicate 8 none
  statics := none }

/-- the primitive byte -/
def k11 : Class := { plain "byte" none with kind := .primitive 'B', accessFlags := 0x411 }
/-- [B -/
def k12 : Class := { plain "[B" (some 0) with kind := .array 11 .byte, interfaces := #[10, 7], accessFlags := 1041 }

/-- the primitive int -/
def k13 : Class := { plain "int" none with kind := .primitive 'I', accessFlags := 0x411 }
/-- [I -/
def k14 : Class := { plain "[I" (some 0) with kind := .array 13 .int, interfaces := #[10, 7], accessFlags := 1041 }

/-- the primitive long -/
def k15 : Class := { plain "long" none with kind := .primitive 'J', accessFlags := 0x411 }
/-- [J -/
def k16 : Class := { plain "[J" (some 0) with kind := .array 15 .long, interfaces := #[10, 7], accessFlags := 1041 }

def heap : Heap := #[{ cls := 8, slots := #[.ref 1, .long 0, .long 0, .null, .null, .long 0], vm := .statics 8 },
  { cls := 8, slots := #[.long 0, .int 0], vm := .none }]
def classes : Array Class := #[k0, k1, k2, k3, k4, k5, k6, k7, k8, k9, k10, k11, k12, k13, k14, k15, k16]
def interned : List (Array UInt16 × Addr) := []
def slotsUsed : Nat := 8
def theMethod : MethodId := ⟨1, 1⟩
def args0 : Array Value := #[.long 100, .int 3, .long 13, .int 0]
def aboutOver (below : List Frame) : State where
  vm := { classes := classes, interned := interned.toArray }
  heap := heap
  slotsUsed := slotsUsed
  threads := #[{ frames := .invoking theMethod args0 :: below }]
def below0 : List Frame := [.native { method := ⟨0, 0⟩, args := #[] }]
def about1 : State := aboutOver below0
def p0 : Program := .bare "" "" ""
def e0 : Env := launch0.env 0 0 0
theorem w_frames : about1.frames = Frame.invoking theMethod args0 :: below0 := rfl
set_option maxRecDepth 65536 in
theorem w_args : argsFit about1.vm theMethod args0 = true := by decide +kernel
set_option maxRecDepth 65536 in
theorem w_heap : heapFits about1 = true := by decide +kernel
set_option maxRecDepth 65536 in
theorem w_runnable : about1.curStatus? = some .runnable := by decide +kernel
set_option maxRecDepth 65536 in
theorem w_alone : about1.alone = true := by decide +kernel
set_option maxRecDepth 65536 in
theorem w_named : about1.methodNamed? x = some theMethod := by decide +kernel
set_option maxRecDepth 65536 in
theorem w_hears : about1.hears theMethod below0 = true := by decide +kernel
set_option maxRecDepth 65536 in
theorem w_ripe : about1.ripe theMethod args0 below0 = true := by decide +kernel
theorem w_running : about1.status = .running := rfl
set_option maxRecDepth 65536 in
theorem w_room : about1.hasRoom e0.platform room_1 = true :=
  launch0.hasRoom_least _ room_1 (by decide +kernel) (by decide +kernel) (by decide +kernel) (by decide +kernel) (by decide +kernel) (by decide +kernel)
theorem allAtoms_all (ts : List Jvm.Cond) (a : Array Jvm.Value) (st : Jvm.State) : (allAtoms ts).before a st = ts.all (fun c => c.before a st) := by
  induction ts with
  | nil => rfl
  | cons c t ih =>
    show (Jvm.Cond.and c (allAtoms t)).before a st = _
    rw [Jvm.Cond.before_and, ih, List.all_cons]
def words1 : List Jvm.Cond := Jvm.Cond.code x code maxLocals ret :: tables_1
/-- a 'code' word, met by the world's own term for the bytes: nothing is compared byte by byte -/
theorem code_word {y : MethodName} {bytes : ByteArray} {mx : Nat} {rt : Option FieldType} {a : Array Value} {s : State} {m : MethodId} {meth : Method} {c : Code} (h1 : s.methodNamed? y = some m) (h2 : s.vm.method? m = some meth) (h3 : meth.code = some c) (h4 : c.code = bytes)
    (h5 : (c.maxLocals == mx && c.exceptionTable.isEmpty && decide (c.maxStack ≤ mostOperands) && decide (meth.sig.returnType = rt) && !meth.locks && decide (parseMethodDescriptor y.desc = some meth.sig)) = true) : (Jvm.Cond.code y bytes mx rt).before a s = true := by
  simp only [Bool.and_eq_true, beq_iff_eq, Bool.not_eq_true', decide_eq_true_eq] at h5
  obtain ⟨⟨⟨⟨⟨g1, g2⟩, g3⟩, g4⟩, g5⟩, g6⟩ := h5
  simp [Cond.before, Cond.holds, Cond.value, h1, h2, h3, h4, g1, g2, g3, g4, g5, g6]
def isCode : Jvm.Cond → Bool
  | .code _ _ _ _ => true
  | _ => false
theorem all_split {L : List Jvm.Cond} {P : Jvm.Cond → Bool} (h1 : L.all (fun c => isCode c || P c) = true) (h2 : ∀ c ∈ L.filter isCode, P c = true) : L.all P = true := by
  refine List.all_eq_true.mpr fun c hc => ?_
  have h := List.all_eq_true.mp h1 c hc
  rcases Bool.eq_false_or_eq_true (isCode c) with hi | hi
  · exact h2 c (List.mem_filter.mpr ⟨hc, hi⟩)
  · simpa [hi] using h
set_option maxRecDepth 65536 in
theorem w_c0 : (Jvm.Cond.code x code maxLocals ret).before args0 about1 = true := code_word (m := ⟨1, 1⟩) (meth := k1m1) (c := k1c1) (by decide +kernel) rfl rfl rfl (by decide +kernel)
set_option maxRecDepth 65536 in
theorem w_c1 : (Jvm.Cond.code ({ cls := "com/example/rens/rens/TimeRing", name := "<init>", desc := "()V" } : Jvm.MethodName) prog_22_method_1_code (1 : Nat) (Option.none : Option Jvm.ClassFile.FieldType)).before args0 about1 = true := code_word (m := ⟨2, 0⟩) (meth := k2m0) (c := k2c0) (by decide +kernel) rfl rfl rfl (by decide +kernel)
set_option maxRecDepth 65536 in
theorem w_c2 : (Jvm.Cond.code ({ cls := "java/lang/Object", name := "<init>", desc := "()V" } : Jvm.MethodName) object_method_1_code (1 : Nat) (Option.none : Option Jvm.ClassFile.FieldType)).before args0 about1 = true := code_word (m := ⟨0, 0⟩) (meth := k0m0) (c := k0c0) (by decide +kernel) rfl rfl rfl (by decide +kernel)
set_option maxRecDepth 65536 in
theorem w_c3 : (Jvm.Cond.code ({ cls := "java/time/Instant", name := "ofEpochSecond", desc := "(J)Ljava/time/Instant;" } : Jvm.MethodName) jdk_2320_method_3_code (2 : Nat) (Option.some (Jvm.ClassFile.FieldType.object "java/time/Instant"))).before args0 about1 = true := code_word (m := ⟨8, 0⟩) (meth := k8m0) (c := k8c0) (by decide +kernel) rfl rfl rfl (by decide +kernel)
set_option maxRecDepth 65536 in
theorem w_c4 : (Jvm.Cond.code ({ cls := "java/time/Instant", name := "create", desc := "(JI)Ljava/time/Instant;" } : Jvm.MethodName) jdk_2320_method_8_code (3 : Nat) (Option.some (Jvm.ClassFile.FieldType.object "java/time/Instant"))).before args0 about1 = true := code_word (m := ⟨8, 2⟩) (meth := k8m2) (c := k8c2) (by decide +kernel) rfl rfl rfl (by decide +kernel)
set_option maxRecDepth 65536 in
theorem w_c5 : (Jvm.Cond.code ({ cls := "com/example/rens/rens/TimeRing", name := "set", desc := "(JLjava/time/Instant;)V" } : Jvm.MethodName) prog_22_method_6_code (5 : Nat) (Option.none : Option Jvm.ClassFile.FieldType)).before args0 about1 = true := code_word (m := ⟨2, 5⟩) (meth := k2m5) (c := k2c5) (by decide +kernel) rfl rfl rfl (by decide +kernel)
set_option maxRecDepth 65536 in
theorem w_c6 : (Jvm.Cond.code ({ cls := "com/example/rens/rens/TimeRing", name := "slot", desc := "(J)I" } : Jvm.MethodName) prog_22_method_8_code (3 : Nat) (Option.some Jvm.ClassFile.FieldType.int)).before args0 about1 = true := code_word (m := ⟨2, 7⟩) (meth := k2m7) (c := k2c7) (by decide +kernel) rfl rfl rfl (by decide +kernel)
set_option maxRecDepth 65536 in
theorem w_c7 : (Jvm.Cond.code ({ cls := "java/time/Instant", name := "getEpochSecond", desc := "()J" } : Jvm.MethodName) jdk_2320_method_15_code (1 : Nat) (Option.some Jvm.ClassFile.FieldType.long)).before args0 about1 = true := code_word (m := ⟨8, 4⟩) (meth := k8m4) (c := k8c4) (by decide +kernel) rfl rfl rfl (by decide +kernel)
set_option maxRecDepth 65536 in
theorem w_c8 : (Jvm.Cond.code ({ cls := "java/time/Instant", name := "getNano", desc := "()I" } : Jvm.MethodName) jdk_2320_method_16_code (1 : Nat) (Option.some Jvm.ClassFile.FieldType.int)).before args0 about1 = true := code_word (m := ⟨8, 5⟩) (meth := k8m5) (c := k8c5) (by decide +kernel) rfl rfl rfl (by decide +kernel)
set_option maxRecDepth 65536 in
theorem w_c9 : (Jvm.Cond.code ({ cls := "java/time/Instant", name := "<init>", desc := "(JI)V" } : Jvm.MethodName) jdk_2320_method_9_code (4 : Nat) (Option.none : Option Jvm.ClassFile.FieldType)).before args0 about1 = true := code_word (m := ⟨8, 3⟩) (meth := k8m3) (c := k8c3) (by decide +kernel) rfl rfl rfl (by decide +kernel)
set_option maxRecDepth 65536 in
theorem w_c10 : (Jvm.Cond.code ({ cls := "com/example/rens/rens/TimeRing", name := "dropBefore", desc := "(J)V" } : Jvm.MethodName) prog_22_method_7_code (3 : Nat) (Option.none : Option Jvm.ClassFile.FieldType)).before args0 about1 = true := code_word (m := ⟨2, 6⟩) (meth := k2m6) (c := k2c6) (by decide +kernel) rfl rfl rfl (by decide +kernel)
set_option maxRecDepth 65536 in
theorem w_c11 : (Jvm.Cond.code ({ cls := "com/example/rens/rens/TimeRing", name := "first", desc := "()J" } : Jvm.MethodName) prog_22_method_2_code (1 : Nat) (Option.some Jvm.ClassFile.FieldType.long)).before args0 about1 = true := code_word (m := ⟨2, 1⟩) (meth := k2m1) (c := k2c1) (by decide +kernel) rfl rfl rfl (by decide +kernel)
set_option maxRecDepth 65536 in
theorem w_c12 : (Jvm.Cond.code ({ cls := "com/example/rens/rens/TimeRing", name := "size", desc := "()I" } : Jvm.MethodName) prog_22_method_4_code (1 : Nat) (Option.some Jvm.ClassFile.FieldType.int)).before args0 about1 = true := code_word (m := ⟨2, 3⟩) (meth := k2m3) (c := k2c3) (by decide +kernel) rfl rfl rfl (by decide +kernel)
set_option maxRecDepth 65536 in
theorem w_c13 : (Jvm.Cond.code ({ cls := "com/example/rens/rens/TimeRing", name := "end", desc := "()J" } : Jvm.MethodName) prog_22_method_3_code (1 : Nat) (Option.some Jvm.ClassFile.FieldType.long)).before args0 about1 = true := code_word (m := ⟨2, 2⟩) (meth := k2m2) (c := k2c2) (by decide +kernel) rfl rfl rfl (by decide +kernel)
set_option maxRecDepth 65536 in
theorem w_c14 : (Jvm.Cond.code ({ cls := "com/example/rens/rens/TimeRing", name := "get", desc := "(J)Ljava/time/Instant;" } : Jvm.MethodName) prog_22_method_5_code (6 : Nat) (Option.some (Jvm.ClassFile.FieldType.object "java/time/Instant"))).before args0 about1 = true := code_word (m := ⟨2, 4⟩) (meth := k2m4) (c := k2c4) (by decide +kernel) rfl rfl rfl (by decide +kernel)
set_option maxRecDepth 65536 in
theorem w_c15 : (Jvm.Cond.code ({ cls := "java/time/Instant", name := "ofEpochSecond", desc := "(JJ)Ljava/time/Instant;" } : Jvm.MethodName) jdk_2320_method_4_code (7 : Nat) (Option.some (Jvm.ClassFile.FieldType.object "java/time/Instant"))).before args0 about1 = true := code_word (m := ⟨8, 1⟩) (meth := k8m1) (c := k8c1) (by decide +kernel) rfl rfl rfl (by decide +kernel)
set_option maxRecDepth 65536 in
theorem w_c16 : (Jvm.Cond.code ({ cls := "java/lang/Math", name := "floorDiv", desc := "(JJ)J" } : Jvm.MethodName) jdk_29_method_49_code (6 : Nat) (Option.some Jvm.ClassFile.FieldType.long)).before args0 about1 = true := code_word (m := ⟨9, 2⟩) (meth := k9m2) (c := k9c2) (by decide +kernel) rfl rfl rfl (by decide +kernel)
set_option maxRecDepth 65536 in
theorem w_c17 : (Jvm.Cond.code ({ cls := "java/lang/Math", name := "addExact", desc := "(JJ)J" } : Jvm.MethodName) jdk_29_method_25_code (6 : Nat) (Option.some Jvm.ClassFile.FieldType.long)).before args0 about1 = true := code_word (m := ⟨9, 1⟩) (meth := k9m1) (c := k9c1) (by decide +kernel) rfl rfl rfl (by decide +kernel)
set_option maxRecDepth 65536 in
theorem w_c18 : (Jvm.Cond.code ({ cls := "java/lang/Math", name := "floorMod", desc := "(JJ)J" } : Jvm.MethodName) jdk_29_method_52_code (6 : Nat) (Option.some Jvm.ClassFile.FieldType.long)).before args0 about1 = true := code_word (m := ⟨9, 3⟩) (meth := k9m3) (c := k9c3) (by decide +kernel) rfl rfl rfl (by decide +kernel)
def codes1 : List Jvm.Cond := [Jvm.Cond.code x code maxLocals ret, Jvm.Cond.code ({ cls := "com/example/rens/rens/TimeRing", name := "<init>", desc := "()V" } : Jvm.MethodName) prog_22_method_1_code (1 : Nat) (Option.none : Option Jvm.ClassFile.FieldType), Jvm.Cond.code ({ cls := "java/lang/Object", name := "<init>", desc := "()V" } : Jvm.MethodName) object_method_1_code (1 : Nat) (Option.none : Option Jvm.ClassFile.FieldType), Jvm.Cond.code ({ cls := "java/time/Instant", name := "ofEpochSecond", desc := "(J)Ljava/time/Instant;" } : Jvm.MethodName) jdk_2320_method_3_code (2 : Nat) (Option.some (Jvm.ClassFile.FieldType.object "java/time/Instant")), Jvm.Cond.code ({ cls := "java/time/Instant", name := "create", desc := "(JI)Ljava/time/Instant;" } : Jvm.MethodName) jdk_2320_method_8_code (3 : Nat) (Option.some (Jvm.ClassFile.FieldType.object "java/time/Instant")), Jvm.Cond.code ({ cls := "com/example/rens/rens/TimeRing", name := "set", desc := "(JLjava/time/Instant;)V" } : Jvm.MethodName) prog_22_method_6_code (5 : Nat) (Option.none : Option Jvm.ClassFile.FieldType), Jvm.Cond.code ({ cls := "com/example/rens/rens/TimeRing", name := "slot", desc := "(J)I" } : Jvm.MethodName) prog_22_method_8_code (3 : Nat) (Option.some Jvm.ClassFile.FieldType.int), Jvm.Cond.code ({ cls := "java/time/Instant", name := "getEpochSecond", desc := "()J" } : Jvm.MethodName) jdk_2320_method_15_code (1 : Nat) (Option.some Jvm.ClassFile.FieldType.long), Jvm.Cond.code ({ cls := "java/time/Instant", name := "getNano", desc := "()I" } : Jvm.MethodName) jdk_2320_method_16_code (1 : Nat) (Option.some Jvm.ClassFile.FieldType.int), Jvm.Cond.code ({ cls := "java/time/Instant", name := "<init>", desc := "(JI)V" } : Jvm.MethodName) jdk_2320_method_9_code (4 : Nat) (Option.none : Option Jvm.ClassFile.FieldType), Jvm.Cond.code ({ cls := "com/example/rens/rens/TimeRing", name := "dropBefore", desc := "(J)V" } : Jvm.MethodName) prog_22_method_7_code (3 : Nat) (Option.none : Option Jvm.ClassFile.FieldType), Jvm.Cond.code ({ cls := "com/example/rens/rens/TimeRing", name := "first", desc := "()J" } : Jvm.MethodName) prog_22_method_2_code (1 : Nat) (Option.some Jvm.ClassFile.FieldType.long), Jvm.Cond.code ({ cls := "com/example/rens/rens/TimeRing", name := "size", desc := "()I" } : Jvm.MethodName) prog_22_method_4_code (1 : Nat) (Option.some Jvm.ClassFile.FieldType.int), Jvm.Cond.code ({ cls := "com/example/rens/rens/TimeRing", name := "end", desc := "()J" } : Jvm.MethodName) prog_22_method_3_code (1 : Nat) (Option.some Jvm.ClassFile.FieldType.long), Jvm.Cond.code ({ cls := "com/example/rens/rens/TimeRing", name := "get", desc := "(J)Ljava/time/Instant;" } : Jvm.MethodName) prog_22_method_5_code (6 : Nat) (Option.some (Jvm.ClassFile.FieldType.object "java/time/Instant")), Jvm.Cond.code ({ cls := "java/time/Instant", name := "ofEpochSecond", desc := "(JJ)Ljava/time/Instant;" } : Jvm.MethodName) jdk_2320_method_4_code (7 : Nat) (Option.some (Jvm.ClassFile.FieldType.object "java/time/Instant")), Jvm.Cond.code ({ cls := "java/lang/Math", name := "floorDiv", desc := "(JJ)J" } : Jvm.MethodName) jdk_29_method_49_code (6 : Nat) (Option.some Jvm.ClassFile.FieldType.long), Jvm.Cond.code ({ cls := "java/lang/Math", name := "addExact", desc := "(JJ)J" } : Jvm.MethodName) jdk_29_method_25_code (6 : Nat) (Option.some Jvm.ClassFile.FieldType.long), Jvm.Cond.code ({ cls := "java/lang/Math", name := "floorMod", desc := "(JJ)J" } : Jvm.MethodName) jdk_29_method_52_code (6 : Nat) (Option.some Jvm.ClassFile.FieldType.long)]
set_option maxRecDepth 65536 in
theorem codes_eq : words1.filter isCode = codes1 := rfl
theorem w_codes : ∀ c ∈ words1.filter isCode, c.before args0 about1 = true := by
  rw [codes_eq]
  intro c hc
  simp only [codes1, List.mem_cons, List.not_mem_nil, or_false] at hc
  rcases hc with rfl | rfl | rfl | rfl | rfl | rfl | rfl | rfl | rfl | rfl | rfl | rfl | rfl | rfl | rfl | rfl | rfl | rfl | rfl
  · exact w_c0
  · exact w_c1
  · exact w_c2
  · exact w_c3
  · exact w_c4
  · exact w_c5
  · exact w_c6
  · exact w_c7
  · exact w_c8
  · exact w_c9
  · exact w_c10
  · exact w_c11
  · exact w_c12
  · exact w_c13
  · exact w_c14
  · exact w_c15
  · exact w_c16
  · exact w_c17
  · exact w_c18
set_option maxRecDepth 65536 in
theorem w_t1 : (words1.take 24).all (fun c => isCode c || c.before args0 about1) = true := by decide +kernel
set_option maxRecDepth 65536 in
theorem w_t2 : ((words1.drop 24).take 24).all (fun c => isCode c || c.before args0 about1) = true := by decide +kernel
set_option maxRecDepth 65536 in
theorem w_t3 : (((words1.drop 24).drop 24).take 24).all (fun c => isCode c || c.before args0 about1) = true := by decide +kernel
set_option maxRecDepth 65536 in
theorem w_t4 : ((((words1.drop 24).drop 24).drop 24).take 24).all (fun c => isCode c || c.before args0 about1) = true := by decide +kernel
set_option maxRecDepth 65536 in
theorem w_t5 : ((((words1.drop 24).drop 24).drop 24).drop 24).all (fun c => isCode c || c.before args0 about1) = true := by decide +kernel
theorem w_tables : (allAtoms (Jvm.Cond.code x code maxLocals ret :: tables_1)).before args0 about1 = true := by
  rw [allAtoms_all]
  show words1.all (fun c => c.before args0 about1) = true
  refine all_split ?_ w_codes
  rw [← List.take_append_drop 24 words1, List.all_append, w_t1, ← List.take_append_drop 24 (words1.drop 24), List.all_append, w_t2, ← List.take_append_drop 24 ((words1.drop 24).drop 24), List.all_append, w_t3, ← List.take_append_drop 24 (((words1.drop 24).drop 24).drop 24), List.all_append, w_t4, w_t5]
  rfl
set_option maxRecDepth 65536 in
theorem w_rest : rest_1_c.before args0 about1 = true := by decide +kernel
set_option maxRecDepth 65536 in
theorem w_case : (Jvm.Cond.and given_1 narrow_1).before args0 about1 = true := by decide +kernel
theorem w_applies : (headSpec (Jvm.Cond.code x code maxLocals ret :: tables_1) room_1).applies x e0.platform about1 = true :=
  (Spec.applies_iff w_frames).mpr ⟨w_running, w_runnable, w_alone, w_named, w_hears, w_ripe, w_room, w_tables⟩
set_option maxRecDepth 65536 in
theorem atStart : AtStart classFile x code maxLocals ret World_1 tables_1 room_1 Calls_1 rest_1 Pre_1 launch0 p0 e0 about1 theMethod args0 below0 :=
  ⟨lists_1, trivial, launch0.admits_env _ _ _, launch0.least_env, fairChoices_fair.cas, fairChoices_fair.clock, w_frames, w_args, w_heap, w_applies, trivial, w_rest, w_case⟩
end start1
theorem witness_1 : WitnessClaimed_1 := ⟨start1.p0, start1.e0, start1.about1, start1.theMethod, start1.args0, start1.below0, start1.atStart⟩
end Jvm.Pilot.@@N@@
