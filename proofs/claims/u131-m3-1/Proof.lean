import JvmDerived
import JvmDerived.Pilot.@@N@@Statement
import JvmDerived.Pilot.@@N@@Code
set_option linter.unusedVariables false
set_option linter.unusedSimpArgs false
namespace Jvm.OwnGo
open Jvm Jvm.ClassFile Sem Op Lib Jvm.Free Jvm.Stand Jvm.LawKit Jvm.RoadKit
/-- the setting of one body's run -/
def Cx (p : Program) (l : Launch) (e : Env) (R : Room) (s : State) (m : MethodId) (meth : Method) (c : Code) (Z : State) (n0 : Nat) (y : MethodName) (code : ByteArray) (ml : Nat) (ret : Option FieldType) : Prop :=
  p.tables.exec = Jvm.exec ∧ Z.Warmed39 s.vm ∧ s.vm.findClass y.cls = some m.cls ∧ c.code = code ∧ c.maxLocals = ml ∧ meth.sig.returnType = ret ∧ meth.locks = false ∧ meth.name = y.name ∧ Old Z n0 s.heap
/-- from pc, with these locals, this stack and this heap, the body of y returns, Q holds of what it returns and leaves, and it has written in cells at or above n0 alone -/
def Go (l : Launch) (R : Room) (Z : State) (n0 : Nat) (y : MethodName) (code : ByteArray) (ml : Nat) (ret : Option FieldType) (Q : Option Value → Heap → Prop) (cells slots : Nat) (h : Heap) (pc : Nat) (Ls : Array Slot) (st : List Value) : Prop :=
  ∀ (p : Program) (e : Env) (s : State) (m : MethodId) (args : Array Value) (below : List Frame) (meth : Method) (c : Code) (T : State) (locs : List Loc),
    Cx p l e R s m meth c Z n0 y code ml ret → Stand p l e R s m args below meth c T locs cells slots → Fr n0 locs → T.heap = h →
    ∃ s₂ o, Steps p.tables e below (T.setTop (mkF m pc Ls st)) s₂ ∧ s₂.status = .running ∧ Ended s₂ below o ∧ ∃ v L, o = .returned v ∧ (Q v s₂.heap ∧ Fr n0 L) ∧ FrameEnd s o s₂ L R.cells R.slots
/-- what a body called with these arguments at the heap h does -/
def Con (l : Launch) (y : MethodName) (code : ByteArray) (ml : Nat) (ret : Option FieldType) (R : Room) (Z : State) (n0 : Nat) (as : Array Value) (h : Heap) (Q : Option Value → Heap → Prop) : Prop :=
  Old Z n0 h → ∀ ws, MetFree l y (head1 (Jvm.Cond.code y code ml ret :: ws) R) (fun a U => a = as ∧ Z.Warmed39 U.vm ∧ U.heap = h) (fun _ _ _ _ _ => True)
    (fun _ U o U' => ∃ v L, o = .returned v ∧ (Q v U'.heap ∧ Fr n0 L) ∧ FrameEnd U o U' L R.cells R.slots)
def Mi (Z : State) (C : String) (mr : Addr) : Prop := ∃ (c : ClassId) (k : Class), Z.vm.findClass C = some c ∧ Z.vm.classes[c]? = some k ∧ k.mirror = some mr
theorem Mi.at {Z s : State} {C : String} {mr : Addr} (M : Mi Z C mr) (hZ : Z.Warmed39 s.vm) : ∃ (c : ClassId) (k : Class), s.vm.findClass C = some c ∧ s.vm.classes[c]? = some k ∧ k.mirror = some mr := by
  obtain ⟨c, k, m1, m2, m3⟩ := M
  obtain ⟨k', q, ek⟩ := hZ.alike.2.2 _ _ m2
  exact ⟨c, k', by rw [hZ.alike.findClass]; exact m1, q, by rw [ek]; exact m3⟩
theorem own_sto {Z : State} {h : Heap} {a b : Addr} {kA : ClassId} {ty : FieldType} {z : Int32} {vs : List Value} {dv : Value} {C : String} (F : Arv Z h a kA ty z vs dv) (O : Ovr Z kA C) (I : Ins Z h b C true) : Sto Z h a (.ref b) := by
  obtain ⟨c, A, q, -⟩ := F; exact Sto.ofV A q O I
theorem own_nar (t : FieldType) {v : Value} (h : v.isRef = true) : narrow t v = v := by cases v <;> first | rfl | (cases t <;> rfl) | (simp [Value.isRef] at h)
theorem own_fits {t : FieldType} {v : Value} (ht : t.isReference = true) (h : v.isRef = true) : fits t v = true := by cases t <;> first | (cases ht; done) | (cases v <;> first | rfl | (simp [Value.isRef] at h))
theorem own_old {p : Program} {l : Launch} {e : Env} {R : Room} {s : State} {m : MethodId} {args : Array Value} {below : List Frame} {meth : Method} {c : Code} {T : State} {locs : List Loc} {cells slots n0 : Nat} {Z : State} {h : Heap} (O : Old Z n0 s.heap) (X : Stand p l e R s m args below meth c T locs cells slots) (N : Fr n0 locs) (eT : T.heap = h) : Old Z n0 h := by
  subst eT
  obtain ⟨-, g1, -, -, -, g2⟩ := X.same
  refine ⟨O.1, Nat.le_trans O.2.1 g1, fun a c ha => ?_⟩
  obtain ⟨c', q1, q2, q3, q4⟩ := g2 a c (O.2.2 a c ha)
  have hlt : a < n0 := O.1 ▸ (Array.getElem?_eq_some_iff.mp ha).1
  have e1 : c'.slots = c.slots := Array.ext_getElem? fun i => q4 i fun hm => absurd (N _ hm) (Nat.not_le.mpr hlt)
  have e2 : c' = c := by rw [q2, e1]
  rw [← e2]; exact q1
section Rules
variable {l : Launch} {R : Room} {Z : State} {n0 : Nat} {y : MethodName} {code : ByteArray} {ml : Nat} {ret : Option FieldType} {Q : Option Value → Heap → Prop} {cells slots : Nat} {h : Heap} {pc pc' : Nat} {Ls Ls' : Array Slot} {st st' rest : List Value} {a0 : Array Value}
theorem Con.of_go {as : Array Value} (hp : plainFor y = true) (he : ∀ m, entryFrame m as ml = mkF m 0 Ls []) (k : Go l R Z n0 y code ml ret Q 0 0 h 0 Ls []) : Con l y code ml ret R Z n0 as h Q := by
  intro hn ws
  refine MetFree.of_bodySF hp hisR ?_
  intro p e s m args below meth c s₁ Bd hml0 hP hK
  obtain ⟨rfl, hZ, hh⟩ := hP
  have e0 : s₁.heap = h := by rw [← hh, Bd.state]; rfl
  have X0 : Stand p l e R s m args below meth c s₁ [] 0 0 := Stand.of_body Bd
  obtain ⟨s₂, o, h1, h2, h3, h4⟩ := k p e s m args below meth c s₁ [] ⟨Bd.exec, hZ, findClass_of_methodNamed Bd.named, Bd.bytes, hml0, Bd.returns, Bd.notSynchronized, (name_of_methodNamed Bd.named Bd.method).1, by rw [hh]; exact hn⟩ X0 (Fr.nil n0) e0
  exact ⟨s₂, o, castTop (he m) h1, h2, h3, h4⟩
theorem Con.mono {as : Array Value} {Q' : Option Value → Heap → Prop} (k : Con l y code ml ret R Z n0 as h Q) (hq : ∀ v h', Q v h' → Q' v h') : Con l y code ml ret R Z n0 as h Q' := by
  intro hn ws
  refine (k hn ws).mono (fun _ _ q => q) (fun _ _ _ _ _ q => q) ?_
  rintro a U o U' hP ⟨v, L, e, ⟨q, N⟩, r⟩
  exact ⟨v, L, e, ⟨hq _ _ q, N⟩, r⟩
theorem Go.mono {Q' : Option Value → Heap → Prop} (k : Go l R Z n0 y code ml ret Q' cells slots h pc Ls st) (hq : ∀ v h', Q' v h' → Q v h') : Go l R Z n0 y code ml ret Q cells slots h pc Ls st := by
  intro p e s m args below meth c T locs C X N eT
  obtain ⟨s₂, o, h1, h2, h3, v, L, h4, ⟨h5, h6⟩, h7⟩ := k p e s m args below meth c T locs C X N eT
  exact ⟨s₂, o, h1, h2, h3, v, L, h4, ⟨hq _ _ h5, h6⟩, h7⟩
theorem Go.more {cells' slots' : Nat} (k : Go l R Z n0 y code ml ret Q cells' slots' h pc Ls st) (hc : cells ≤ cells') (hs : slots ≤ slots') : Go l R Z n0 y code ml ret Q cells slots h pc Ls st := by
  intro p e s m args below meth c T locs C X N eT
  exact k p e s m args below meth c T locs C (X.more hc hs) N eT
theorem Go.old (k : Old Z n0 h → Go l R Z n0 y code ml ret Q cells slots h pc Ls st) : Go l R Z n0 y code ml ret Q cells slots h pc Ls st := by
  intro p e s m args below meth c T locs C X N eT
  exact k (own_old C.2.2.2.2.2.2.2.2 X N eT) p e s m args below meth c T locs C X N eT
theorem Go.step (hst : ∀ {p : Program} {e : Env} {s : State} {m : MethodId} {args : Array Value} {below : List Frame} {meth : Method} {c : Code} {T : State} {locs : List Loc} {target : State},
      Cx p l e R s m meth c Z n0 y code ml ret → Stand p l e R s m args below meth c T locs cells slots → T.heap = h → Steps p.tables e below (T.setTop (mkF m pc' Ls' st')) target → Steps p.tables e below (T.setTop (mkF m pc Ls st)) target)
    (k : Go l R Z n0 y code ml ret Q cells slots h pc' Ls' st') : Go l R Z n0 y code ml ret Q cells slots h pc Ls st := by
  intro p e s m args below meth c T locs C X N eT
  obtain ⟨s₂, o, h1, h2⟩ := k p e s m args below meth c T locs C X N eT
  exact ⟨s₂, o, hst C X eT h1, h2⟩
theorem Go.law {cells' slots' : Nat} {P : Heap → Prop} (hst : ∀ {p : Program} {e : Env} {s : State} {m : MethodId} {args : Array Value} {below : List Frame} {meth : Method} {c : Code} {T : State} {locs : List Loc},
      Cx p l e R s m meth c Z n0 y code ml ret → Stand p l e R s m args below meth c T locs cells slots → Fr n0 locs → T.heap = h → n0 ≤ h.size →
      ∃ T' locs' h', Stand p l e R s m args below meth c T' locs' cells' slots' ∧ Fr n0 locs' ∧ T'.heap = h' ∧ P h' ∧ ∀ target, Steps p.tables e below (T'.setTop (mkF m pc' Ls' st')) target → Steps p.tables e below (T.setTop (mkF m pc Ls st)) target)
    (k : ∀ h', P h' → Go l R Z n0 y code ml ret Q cells' slots' h' pc' Ls' st') : Go l R Z n0 y code ml ret Q cells slots h pc Ls st := by
  intro p e s m args below meth c T locs C X N eT
  have hold : Old Z n0 h := own_old C.2.2.2.2.2.2.2.2 X N eT
  obtain ⟨T', locs', h', X', N', e', hP, st⟩ := hst C X N eT (hold.1 ▸ hold.2.1)
  obtain ⟨s₂, o, h1, h2⟩ := k h' hP p e s m args below meth c T' locs' C X' N' e'
  exact ⟨s₂, o, st _ h1, h2⟩
theorem Go.iloadN {k : Fin 4} {v : Int32} (hd : decode code pc = .ok (.iload_n k, 1)) (hl : Ls[k.val]? = some (.val (.int v))) (hp : pc + 1 = pc') (k : Go l R Z n0 y code ml ret Q cells slots h pc' Ls (.int v :: st)) : Go l R Z n0 y code ml ret Q cells slots h pc Ls st := Go.step (fun C X _ q => by subst hp; exact XS.iloadN X.here C.1 rfl (hb C.2.2.2.1 hd) hl q) k
theorem Go.iload {k : Nat} {v : Int32} (hd : decode code pc = .ok (.iload k, 2)) (hl : Ls[k]? = some (.val (.int v))) (hp : pc + 2 = pc') (k : Go l R Z n0 y code ml ret Q cells slots h pc' Ls (.int v :: st)) : Go l R Z n0 y code ml ret Q cells slots h pc Ls st := Go.step (fun C X _ q => by subst hp; exact XS.iload X.here C.1 rfl (hb C.2.2.2.1 hd) hl q) k
theorem Go.lloadN {k : Fin 4} {v : Int64} (hd : decode code pc = .ok (.lload_n k, 1)) (hl : Ls[k.val]? = some (.val (.long v))) (hp : pc + 1 = pc') (k : Go l R Z n0 y code ml ret Q cells slots h pc' Ls (.long v :: st)) : Go l R Z n0 y code ml ret Q cells slots h pc Ls st := Go.step (fun C X _ q => by subst hp; exact XT.lloadN X.here C.1 rfl (hb C.2.2.2.1 hd) hl q) k
theorem Go.lload {k : Nat} {v : Int64} (hd : decode code pc = .ok (.lload k, 2)) (hl : Ls[k]? = some (.val (.long v))) (hp : pc + 2 = pc') (k : Go l R Z n0 y code ml ret Q cells slots h pc' Ls (.long v :: st)) : Go l R Z n0 y code ml ret Q cells slots h pc Ls st := Go.step (fun C X _ q => by subst hp; exact XT.lload X.here C.1 rfl (hb C.2.2.2.1 hd) hl q) k
theorem Go.aloadN {k : Fin 4} {v : Value} (hd : decode code pc = .ok (.aload_n k, 1)) (hl : Ls[k.val]? = some (.val v)) (hv : v.isRef = true) (hp : pc + 1 = pc') (k : Go l R Z n0 y code ml ret Q cells slots h pc' Ls (v :: st)) : Go l R Z n0 y code ml ret Q cells slots h pc Ls st := Go.step (fun C X _ q => by subst hp; exact XS.aloadN X.here C.1 rfl (hb C.2.2.2.1 hd) hl hv q) k
theorem Go.aload {k : Nat} {v : Value} (hd : decode code pc = .ok (.aload k, 2)) (hl : Ls[k]? = some (.val v)) (hv : v.isRef = true) (hp : pc + 2 = pc') (k : Go l R Z n0 y code ml ret Q cells slots h pc' Ls (v :: st)) : Go l R Z n0 y code ml ret Q cells slots h pc Ls st := Go.step (fun C X _ q => by subst hp; exact XS.aload X.here C.1 rfl (hb C.2.2.2.1 hd) hl hv q) k
theorem Go.istoreN {k : Fin 4} {v : Int32} (hd : decode code pc = .ok (.istore_n k, 1)) (hl : storeLocals Ls k.val (.int v) = some Ls') (hp : pc + 1 = pc') (k : Go l R Z n0 y code ml ret Q cells slots h pc' Ls' st) : Go l R Z n0 y code ml ret Q cells slots h pc Ls (.int v :: st) := Go.step (fun C X _ q => by subst hp; exact XS.istoreN X.here C.1 rfl (hb C.2.2.2.1 hd) rfl hl q) k
theorem Go.istore {k : Nat} {v : Int32} (hd : decode code pc = .ok (.istore k, 2)) (hl : storeLocals Ls k (.int v) = some Ls') (hp : pc + 2 = pc') (k : Go l R Z n0 y code ml ret Q cells slots h pc' Ls' st) : Go l R Z n0 y code ml ret Q cells slots h pc Ls (.int v :: st) := Go.step (fun C X _ q => by subst hp; exact XS.istore X.here C.1 rfl (hb C.2.2.2.1 hd) rfl hl q) k
theorem Go.lstoreN {k : Fin 4} {v : Int64} (hd : decode code pc = .ok (.lstore_n k, 1)) (hl : storeLocals Ls k.val (.long v) = some Ls') (hp : pc + 1 = pc') (k : Go l R Z n0 y code ml ret Q cells slots h pc' Ls' st) : Go l R Z n0 y code ml ret Q cells slots h pc Ls (.long v :: st) := Go.step (fun C X _ q => by subst hp; exact XT.lstoreN X.here C.1 rfl (hb C.2.2.2.1 hd) rfl hl q) k
theorem Go.lstore {k : Nat} {v : Int64} (hd : decode code pc = .ok (.lstore k, 2)) (hl : storeLocals Ls k (.long v) = some Ls') (hp : pc + 2 = pc') (k : Go l R Z n0 y code ml ret Q cells slots h pc' Ls' st) : Go l R Z n0 y code ml ret Q cells slots h pc Ls (.long v :: st) := Go.step (fun C X _ q => by subst hp; exact XT.lstore X.here C.1 rfl (hb C.2.2.2.1 hd) rfl hl q) k
theorem Go.astoreN {k : Fin 4} {v : Value} (hd : decode code pc = .ok (.astore_n k, 1)) (hv : v.isRef = true) (hl : storeLocals Ls k.val v = some Ls') (hp : pc + 1 = pc') (k : Go l R Z n0 y code ml ret Q cells slots h pc' Ls' st) : Go l R Z n0 y code ml ret Q cells slots h pc Ls (v :: st) := Go.step (fun C X _ q => by subst hp; exact XS.astoreN X.here C.1 rfl (hb C.2.2.2.1 hd) rfl hv hl q) k
theorem Go.astore {k : Nat} {v : Value} (hd : decode code pc = .ok (.astore k, 2)) (hv : v.isRef = true) (hl : storeLocals Ls k v = some Ls') (hp : pc + 2 = pc') (k : Go l R Z n0 y code ml ret Q cells slots h pc' Ls' st) : Go l R Z n0 y code ml ret Q cells slots h pc Ls (v :: st) := Go.step (fun C X _ q => by subst hp; exact XS.astore X.here C.1 rfl (hb C.2.2.2.1 hd) rfl hv hl q) k
theorem Go.iconst {i : Int} {v : Int32} (hd : decode code pc = .ok (.iconst i, 1)) (hv : Int32.ofInt i = v) (hp : pc + 1 = pc') (k : Go l R Z n0 y code ml ret Q cells slots h pc' Ls (.int v :: st)) : Go l R Z n0 y code ml ret Q cells slots h pc Ls st := Go.step (fun C X _ q => by subst hp; exact (by subst hv; exact XS.iconst X.here C.1 rfl (hb C.2.2.2.1 hd) q)) k
theorem Go.bipush {i : Int} {v : Int32} (hd : decode code pc = .ok (.bipush i, 2)) (hv : (Int8.ofInt i).toInt32 = v) (hp : pc + 2 = pc') (k : Go l R Z n0 y code ml ret Q cells slots h pc' Ls (.int v :: st)) : Go l R Z n0 y code ml ret Q cells slots h pc Ls st := Go.step (fun C X _ q => by subst hp; exact (by subst hv; exact XS.bipush X.here C.1 rfl (hb C.2.2.2.1 hd) q)) k
theorem Go.sipush {i : Int} {v : Int32} (hd : decode code pc = .ok (.sipush i, 3)) (hv : (Int16.ofInt i).toInt32 = v) (hp : pc + 3 = pc') (k : Go l R Z n0 y code ml ret Q cells slots h pc' Ls (.int v :: st)) : Go l R Z n0 y code ml ret Q cells slots h pc Ls st := Go.step (fun C X _ q => by subst hp; exact (by subst hv; exact XS.sipush X.here C.1 rfl (hb C.2.2.2.1 hd) q)) k
theorem Go.lconst {i : Fin 2} {v : Int64} (hd : decode code pc = .ok (.lconst i, 1)) (hv : Int64.ofNat i = v) (hp : pc + 1 = pc') (k : Go l R Z n0 y code ml ret Q cells slots h pc' Ls (.long v :: st)) : Go l R Z n0 y code ml ret Q cells slots h pc Ls st := Go.step (fun C X _ q => by subst hp; exact XT.lconstV X.here C.1 rfl v (hb C.2.2.2.1 hd) hv q) k
theorem Go.aconstNull (hd : decode code pc = .ok (.aconst_null, 1)) (hp : pc + 1 = pc') (k : Go l R Z n0 y code ml ret Q cells slots h pc' Ls (.null :: st)) : Go l R Z n0 y code ml ret Q cells slots h pc Ls st := Go.step (fun C X _ q => by subst hp; exact XS.aconstNull X.here C.1 rfl (hb C.2.2.2.1 hd) q) k
theorem Go.ldcI {i : Nat} {v : Int32} (w : (Jvm.Cond.constant y.cls i v).before a0 Z = true) (hd : decode code pc = .ok (.ldc i, 2)) (hp : pc + 2 = pc') (k : Go l R Z n0 y code ml ret Q cells slots h pc' Ls (.int v :: st)) : Go l R Z n0 y code ml ret Q cells slots h pc Ls st := Go.step (fun C X _ q => by subst hp; exact Jvm.Stand.ldcI X C.1 C.2.2.1 (mvT C.2.1 w) rfl (hb C.2.2.2.1 hd) q) k
theorem Go.ldcWI {i : Nat} {v : Int32} (w : (Jvm.Cond.constant y.cls i v).before a0 Z = true) (hd : decode code pc = .ok (.ldc_w i, 3)) (hp : pc + 3 = pc') (k : Go l R Z n0 y code ml ret Q cells slots h pc' Ls (.int v :: st)) : Go l R Z n0 y code ml ret Q cells slots h pc Ls st := Go.step (fun C X _ q => by subst hp; exact Jvm.Stand.ldcWI X C.1 C.2.2.1 (mvT C.2.1 w) rfl (hb C.2.2.2.1 hd) q) k
theorem Go.ldc2J {i : Nat} {v : Int64} (w : (Jvm.Cond.constantLong y.cls i v).before a0 Z = true) (hd : decode code pc = .ok (.ldc2_w i, 3)) (hp : pc + 3 = pc') (k : Go l R Z n0 y code ml ret Q cells slots h pc' Ls (.long v :: st)) : Go l R Z n0 y code ml ret Q cells slots h pc Ls st := Go.step (fun C X _ q => by subst hp; exact Jvm.Stand.ldc2J X C.1 C.2.2.1 (mvT C.2.1 w) rfl (hb C.2.2.2.1 hd) q) k
theorem Go.iadd {a b : Int32} (hd : decode code pc = .ok (.iadd, 1)) (hp : pc + 1 = pc') (k : Go l R Z n0 y code ml ret Q cells slots h pc' Ls (.int (a + b) :: st)) : Go l R Z n0 y code ml ret Q cells slots h pc Ls (.int b :: .int a :: st) := Go.step (fun C X _ q => by subst hp; exact XS.iadd X.here C.1 rfl (hb C.2.2.2.1 hd) rfl q) k
theorem Go.isub {a b : Int32} (hd : decode code pc = .ok (.isub, 1)) (hp : pc + 1 = pc') (k : Go l R Z n0 y code ml ret Q cells slots h pc' Ls (.int (a - b) :: st)) : Go l R Z n0 y code ml ret Q cells slots h pc Ls (.int b :: .int a :: st) := Go.step (fun C X _ q => by subst hp; exact XS.isub X.here C.1 rfl (hb C.2.2.2.1 hd) rfl q) k
theorem Go.imul {a b : Int32} (hd : decode code pc = .ok (.imul, 1)) (hp : pc + 1 = pc') (k : Go l R Z n0 y code ml ret Q cells slots h pc' Ls (.int (a * b) :: st)) : Go l R Z n0 y code ml ret Q cells slots h pc Ls (.int b :: .int a :: st) := Go.step (fun C X _ q => by subst hp; exact XS.imul X.here C.1 rfl (hb C.2.2.2.1 hd) rfl q) k
theorem Go.iand {a b : Int32} (hd : decode code pc = .ok (.iand, 1)) (hp : pc + 1 = pc') (k : Go l R Z n0 y code ml ret Q cells slots h pc' Ls (.int (a &&& b) :: st)) : Go l R Z n0 y code ml ret Q cells slots h pc Ls (.int b :: .int a :: st) := Go.step (fun C X _ q => by subst hp; exact XS.iand X.here C.1 rfl (hb C.2.2.2.1 hd) rfl q) k
theorem Go.ior {a b : Int32} (hd : decode code pc = .ok (.ior, 1)) (hp : pc + 1 = pc') (k : Go l R Z n0 y code ml ret Q cells slots h pc' Ls (.int (a ||| b) :: st)) : Go l R Z n0 y code ml ret Q cells slots h pc Ls (.int b :: .int a :: st) := Go.step (fun C X _ q => by subst hp; exact XT.ior X.here C.1 rfl (hb C.2.2.2.1 hd) rfl q) k
theorem Go.ixor {a b : Int32} (hd : decode code pc = .ok (.ixor, 1)) (hp : pc + 1 = pc') (k : Go l R Z n0 y code ml ret Q cells slots h pc' Ls (.int (a ^^^ b) :: st)) : Go l R Z n0 y code ml ret Q cells slots h pc Ls (.int b :: .int a :: st) := Go.step (fun C X _ q => by subst hp; exact XT.ixor X.here C.1 rfl (hb C.2.2.2.1 hd) rfl q) k
theorem Go.ladd {a b : Int64} (hd : decode code pc = .ok (.ladd, 1)) (hp : pc + 1 = pc') (k : Go l R Z n0 y code ml ret Q cells slots h pc' Ls (.long (a + b) :: st)) : Go l R Z n0 y code ml ret Q cells slots h pc Ls (.long b :: .long a :: st) := Go.step (fun C X _ q => by subst hp; exact XT.ladd X.here C.1 rfl (hb C.2.2.2.1 hd) rfl q) k
theorem Go.lsub {a b : Int64} (hd : decode code pc = .ok (.lsub, 1)) (hp : pc + 1 = pc') (k : Go l R Z n0 y code ml ret Q cells slots h pc' Ls (.long (a - b) :: st)) : Go l R Z n0 y code ml ret Q cells slots h pc Ls (.long b :: .long a :: st) := Go.step (fun C X _ q => by subst hp; exact XT.lsub X.here C.1 rfl (hb C.2.2.2.1 hd) rfl q) k
theorem Go.lmul {a b : Int64} (hd : decode code pc = .ok (.lmul, 1)) (hp : pc + 1 = pc') (k : Go l R Z n0 y code ml ret Q cells slots h pc' Ls (.long (a * b) :: st)) : Go l R Z n0 y code ml ret Q cells slots h pc Ls (.long b :: .long a :: st) := Go.step (fun C X _ q => by subst hp; exact XT.lmul X.here C.1 rfl (hb C.2.2.2.1 hd) rfl q) k
theorem Go.land {a b : Int64} (hd : decode code pc = .ok (.land, 1)) (hp : pc + 1 = pc') (k : Go l R Z n0 y code ml ret Q cells slots h pc' Ls (.long (a &&& b) :: st)) : Go l R Z n0 y code ml ret Q cells slots h pc Ls (.long b :: .long a :: st) := Go.step (fun C X _ q => by subst hp; exact XT.land X.here C.1 rfl (hb C.2.2.2.1 hd) rfl q) k
theorem Go.lor {a b : Int64} (hd : decode code pc = .ok (.lor, 1)) (hp : pc + 1 = pc') (k : Go l R Z n0 y code ml ret Q cells slots h pc' Ls (.long (a ||| b) :: st)) : Go l R Z n0 y code ml ret Q cells slots h pc Ls (.long b :: .long a :: st) := Go.step (fun C X _ q => by subst hp; exact XT.lor X.here C.1 rfl (hb C.2.2.2.1 hd) rfl q) k
theorem Go.lxor {a b : Int64} (hd : decode code pc = .ok (.lxor, 1)) (hp : pc + 1 = pc') (k : Go l R Z n0 y code ml ret Q cells slots h pc' Ls (.long (a ^^^ b) :: st)) : Go l R Z n0 y code ml ret Q cells slots h pc Ls (.long b :: .long a :: st) := Go.step (fun C X _ q => by subst hp; exact XT.lxor X.here C.1 rfl (hb C.2.2.2.1 hd) rfl q) k
theorem Go.ishl {a b : Int32} (hd : decode code pc = .ok (.ishl, 1)) (hp : pc + 1 = pc') (k : Go l R Z n0 y code ml ret Q cells slots h pc' Ls (.int (a <<< (b &&& 31)) :: st)) : Go l R Z n0 y code ml ret Q cells slots h pc Ls (.int b :: .int a :: st) := Go.step (fun C X _ q => by subst hp; exact XT.ishl X.here C.1 rfl (hb C.2.2.2.1 hd) rfl q) k
theorem Go.ishr {a b : Int32} (hd : decode code pc = .ok (.ishr, 1)) (hp : pc + 1 = pc') (k : Go l R Z n0 y code ml ret Q cells slots h pc' Ls (.int (a >>> (b &&& 31)) :: st)) : Go l R Z n0 y code ml ret Q cells slots h pc Ls (.int b :: .int a :: st) := Go.step (fun C X _ q => by subst hp; exact XT.ishr X.here C.1 rfl (hb C.2.2.2.1 hd) rfl q) k
theorem Go.iushr {a b : Int32} (hd : decode code pc = .ok (.iushr, 1)) (hp : pc + 1 = pc') (k : Go l R Z n0 y code ml ret Q cells slots h pc' Ls (.int (XT.ushr a b) :: st)) : Go l R Z n0 y code ml ret Q cells slots h pc Ls (.int b :: .int a :: st) := Go.step (fun C X _ q => by subst hp; exact XT.iushr X.here C.1 rfl (hb C.2.2.2.1 hd) rfl q) k
theorem Go.lshr {a : Int64} {b : Int32} (hd : decode code pc = .ok (.lshr, 1)) (hp : pc + 1 = pc') (k : Go l R Z n0 y code ml ret Q cells slots h pc' Ls (.long (a >>> (b.toInt64 &&& 63)) :: st)) : Go l R Z n0 y code ml ret Q cells slots h pc Ls (.int b :: .long a :: st) := Go.step (fun C X _ q => by subst hp; exact XT.lshr X.here C.1 rfl (hb C.2.2.2.1 hd) rfl q) k
theorem Go.lshl {a : Int64} {b : Int32} (hd : decode code pc = .ok (.lshl, 1)) (hp : pc + 1 = pc') (k : Go l R Z n0 y code ml ret Q cells slots h pc' Ls (.long (a <<< (b.toInt64 &&& 63)) :: st)) : Go l R Z n0 y code ml ret Q cells slots h pc Ls (.int b :: .long a :: st) := Go.step (fun C X _ q => by subst hp; exact XT.lshl X.here C.1 rfl (hb C.2.2.2.1 hd) rfl q) k
theorem Go.lushr {a : Int64} {b : Int32} (hd : decode code pc = .ok (.lushr, 1)) (hp : pc + 1 = pc') (k : Go l R Z n0 y code ml ret Q cells slots h pc' Ls (.long (XT.ushrL a b) :: st)) : Go l R Z n0 y code ml ret Q cells slots h pc Ls (.int b :: .long a :: st) := Go.step (fun C X _ q => by subst hp; exact XT.lushr X.here C.1 rfl (hb C.2.2.2.1 hd) rfl q) k
theorem Go.irem {a b : Int32} (hd : decode code pc = .ok (.irem, 1)) (hz : b ≠ 0) (hp : pc + 1 = pc') (k : Go l R Z n0 y code ml ret Q cells slots h pc' Ls (.int (a % b) :: st)) : Go l R Z n0 y code ml ret Q cells slots h pc Ls (.int b :: .int a :: st) := Go.step (fun C X _ q => by subst hp; exact iremM X C.1 rfl (hb C.2.2.2.1 hd) rfl hz q) k
theorem Go.idiv {a b : Int32} (hd : decode code pc = .ok (.idiv, 1)) (hz : b ≠ 0) (hp : pc + 1 = pc') (k : Go l R Z n0 y code ml ret Q cells slots h pc' Ls (.int (a / b) :: st)) : Go l R Z n0 y code ml ret Q cells slots h pc Ls (.int b :: .int a :: st) := Go.step (fun C X _ q => by subst hp; exact XS.idiv X.here C.1 rfl (hb C.2.2.2.1 hd) rfl hz q) k
theorem Go.ldiv {a b : Int64} (hd : decode code pc = .ok (.ldiv, 1)) (hz : b ≠ 0) (hp : pc + 1 = pc') (k : Go l R Z n0 y code ml ret Q cells slots h pc' Ls (.long (a / b) :: st)) : Go l R Z n0 y code ml ret Q cells slots h pc Ls (.long b :: .long a :: st) := Go.step (fun C X _ q => by subst hp; exact XT.ldiv X.here C.1 rfl (hb C.2.2.2.1 hd) rfl hz q) k
theorem Go.lrem {a b : Int64} (hd : decode code pc = .ok (.lrem, 1)) (hz : b ≠ 0) (hp : pc + 1 = pc') (k : Go l R Z n0 y code ml ret Q cells slots h pc' Ls (.long (a - (a / b) * b) :: st)) : Go l R Z n0 y code ml ret Q cells slots h pc Ls (.long b :: .long a :: st) := Go.step (fun C X _ q => by subst hp; exact XT.lrem X.here C.1 rfl (hb C.2.2.2.1 hd) rfl hz q) k
theorem Go.ineg {a : Int32} (hd : decode code pc = .ok (.ineg, 1)) (hp : pc + 1 = pc') (k : Go l R Z n0 y code ml ret Q cells slots h pc' Ls (.int (-a) :: st)) : Go l R Z n0 y code ml ret Q cells slots h pc Ls (.int a :: st) := Go.step (fun C X _ q => by subst hp; exact XS.ineg X.here C.1 rfl (hb C.2.2.2.1 hd) rfl q) k
theorem Go.lneg {a : Int64} (hd : decode code pc = .ok (.lneg, 1)) (hp : pc + 1 = pc') (k : Go l R Z n0 y code ml ret Q cells slots h pc' Ls (.long (-a) :: st)) : Go l R Z n0 y code ml ret Q cells slots h pc Ls (.long a :: st) := Go.step (fun C X _ q => by subst hp; exact XT.lneg X.here C.1 rfl (hb C.2.2.2.1 hd) rfl q) k
theorem Go.i2l {a : Int32} (hd : decode code pc = .ok (.i2l, 1)) (hp : pc + 1 = pc') (k : Go l R Z n0 y code ml ret Q cells slots h pc' Ls (.long a.toInt64 :: st)) : Go l R Z n0 y code ml ret Q cells slots h pc Ls (.int a :: st) := Go.step (fun C X _ q => by subst hp; exact XT.i2l X.here C.1 rfl (hb C.2.2.2.1 hd) rfl q) k
theorem Go.l2i {a : Int64} (hd : decode code pc = .ok (.l2i, 1)) (hp : pc + 1 = pc') (k : Go l R Z n0 y code ml ret Q cells slots h pc' Ls (.int a.toInt32 :: st)) : Go l R Z n0 y code ml ret Q cells slots h pc Ls (.long a :: st) := Go.step (fun C X _ q => by subst hp; exact XT.l2i X.here C.1 rfl (hb C.2.2.2.1 hd) rfl q) k
theorem Go.i2b {a : Int32} (hd : decode code pc = .ok (.i2b, 1)) (hp : pc + 1 = pc') (k : Go l R Z n0 y code ml ret Q cells slots h pc' Ls (.int a.toInt8.toInt32 :: st)) : Go l R Z n0 y code ml ret Q cells slots h pc Ls (.int a :: st) := Go.step (fun C X _ q => by subst hp; exact XT.i2b X.here C.1 rfl (hb C.2.2.2.1 hd) rfl q) k
theorem Go.i2c {a : Int32} (hd : decode code pc = .ok (.i2c, 1)) (hp : pc + 1 = pc') (k : Go l R Z n0 y code ml ret Q cells slots h pc' Ls (.int a.toUInt32.toUInt16.toUInt32.toInt32 :: st)) : Go l R Z n0 y code ml ret Q cells slots h pc Ls (.int a :: st) := Go.step (fun C X _ q => by subst hp; exact XT.i2c X.here C.1 rfl (hb C.2.2.2.1 hd) rfl q) k
theorem Go.lcmp {a b : Int64} (hd : decode code pc = .ok (.lcmp, 1)) (hp : pc + 1 = pc') (k : Go l R Z n0 y code ml ret Q cells slots h pc' Ls (.int (XT.cmpL a b) :: st)) : Go l R Z n0 y code ml ret Q cells slots h pc Ls (.long b :: .long a :: st) := Go.step (fun C X _ q => by subst hp; exact XT.lcmp X.here C.1 rfl (hb C.2.2.2.1 hd) rfl q) k
theorem Go.iinc {k : Nat} {i : Int} {v w : Int32} (hd : decode code pc = .ok (.iinc k i, 3)) (hv : Int32.ofInt i = w) (hl : Ls[k]? = some (.val (.int v))) (hl' : storeLocals Ls k (.int (v + w)) = some Ls') (hp : pc + 3 = pc') (k : Go l R Z n0 y code ml ret Q cells slots h pc' Ls' st) : Go l R Z n0 y code ml ret Q cells slots h pc Ls st := Go.step (fun C X _ q => by subst hp; exact XT.iincV X.here C.1 rfl w (hb C.2.2.2.1 hd) hv hl hl' q) k
theorem Go.dup {v : Value} (hd : decode code pc = .ok (.dup, 1)) (hc : v.category = 1) (hp : pc + 1 = pc') (k : Go l R Z n0 y code ml ret Q cells slots h pc' Ls (v :: v :: st)) : Go l R Z n0 y code ml ret Q cells slots h pc Ls (v :: st) := Go.step (fun C X _ q => by subst hp; exact XS.dup X.here C.1 rfl (hb C.2.2.2.1 hd) rfl hc q) k
theorem Go.pop {v : Value} (hd : decode code pc = .ok (.pop, 1)) (hc : v.category = 1) (hp : pc + 1 = pc') (k : Go l R Z n0 y code ml ret Q cells slots h pc' Ls st) : Go l R Z n0 y code ml ret Q cells slots h pc Ls (v :: st) := Go.step (fun C X _ q => by subst hp; exact XT.pop X.here C.1 rfl (hb C.2.2.2.1 hd) rfl hc q) k
theorem Go.dupX1 {v w : Value} (hd : decode code pc = .ok (.dup_x1, 1)) (hc : v.category = 1) (hc' : w.category = 1) (hp : pc + 1 = pc') (k : Go l R Z n0 y code ml ret Q cells slots h pc' Ls (v :: w :: v :: st)) : Go l R Z n0 y code ml ret Q cells slots h pc Ls (v :: w :: st) := Go.step (fun C X _ q => by subst hp; exact XT.dupX1 X.here C.1 rfl (hb C.2.2.2.1 hd) rfl hc hc' q) k
theorem Go.dup2 {v w : Value} (hd : decode code pc = .ok (.dup2, 1)) (hc : v.category = 1) (hc' : w.category = 1) (hp : pc + 1 = pc') (k : Go l R Z n0 y code ml ret Q cells slots h pc' Ls (v :: w :: v :: w :: st)) : Go l R Z n0 y code ml ret Q cells slots h pc Ls (v :: w :: st) := Go.step (fun C X _ q => by subst hp; exact XT.dup2 X.here C.1 rfl (hb C.2.2.2.1 hd) rfl hc hc' q) k
theorem Go.dup2L {a : Int64} (hd : decode code pc = .ok (.dup2, 1)) (hp : pc + 1 = pc') (k : Go l R Z n0 y code ml ret Q cells slots h pc' Ls (.long a :: .long a :: st)) : Go l R Z n0 y code ml ret Q cells slots h pc Ls (.long a :: st) := Go.step (fun C X _ q => by subst hp; exact XT.dup2L X.here C.1 rfl (hb C.2.2.2.1 hd) rfl q) k
theorem Go.goto {o : Int} (hd : decode code pc = .ok (.goto o, 3)) (ho : 0 ≤ (pc : Int) + o := by decide) (hp : ((pc : Int) + o).toNat = pc' := by decide) (k : Go l R Z n0 y code ml ret Q cells slots h pc' Ls st) : Go l R Z n0 y code ml ret Q cells slots h pc Ls st := Go.step (fun C X _ q => XS.goto X.here C.1 rfl rfl (hb C.2.2.2.1 hd) ho hp q) k
theorem Go.ifYes {o : Int} {cd : ClassFile.Cond} {a : Int32} (hd : decode code pc = .ok (.ifCond cd o, 3)) (hc : ifCond.holds cd a = true) (ho : 0 ≤ (pc : Int) + o := by decide) (hp : ((pc : Int) + o).toNat = pc' := by decide) (k : Go l R Z n0 y code ml ret Q cells slots h pc' Ls st) : Go l R Z n0 y code ml ret Q cells slots h pc Ls (.int a :: st) := Go.step (fun C X _ q => XS.ifYes X.here C.1 rfl rfl (hb C.2.2.2.1 hd) rfl hc ho hp q) k
theorem Go.icmpYes {o : Int} {cd : ClassFile.Cond} {a b : Int32} (hd : decode code pc = .ok (.if_icmp cd o, 3)) (hc : if_icmp.holds cd a b = true) (ho : 0 ≤ (pc : Int) + o := by decide) (hp : ((pc : Int) + o).toNat = pc' := by decide) (k : Go l R Z n0 y code ml ret Q cells slots h pc' Ls st) : Go l R Z n0 y code ml ret Q cells slots h pc Ls (.int b :: .int a :: st) := Go.step (fun C X _ q => XS.icmpYes X.here C.1 rfl rfl (hb C.2.2.2.1 hd) rfl hc ho hp q) k
theorem Go.acmpYes {o : Int} {cd : ClassFile.ACond} {a b : Value} (hd : decode code pc = .ok (.if_acmp cd o, 3)) (ha : a.isRef = true) (hb' : b.isRef = true) (hc : XT.acmp cd a b = true) (ho : 0 ≤ (pc : Int) + o := by decide) (hp : ((pc : Int) + o).toNat = pc' := by decide) (k : Go l R Z n0 y code ml ret Q cells slots h pc' Ls st) : Go l R Z n0 y code ml ret Q cells slots h pc Ls (b :: a :: st) := Go.step (fun C X _ q => XT.acmpYes X.here C.1 rfl rfl (hb C.2.2.2.1 hd) rfl ha hb' hc ho hp q) k
theorem Go.nullYes {o : Int} {a : Value} (hd : decode code pc = .ok (.ifnull o, 3)) (hv : a = .null) (ho : 0 ≤ (pc : Int) + o := by decide) (hp : ((pc : Int) + o).toNat = pc' := by decide) (k : Go l R Z n0 y code ml ret Q cells slots h pc' Ls st) : Go l R Z n0 y code ml ret Q cells slots h pc Ls (a :: st) := Go.step (fun C X _ q => XT.nullYes X.here C.1 rfl rfl (hb C.2.2.2.1 hd) rfl hv ho hp q) k
theorem Go.nonnullYes {o : Int} {a : Value} (hd : decode code pc = .ok (.ifnonnull o, 3)) (ha : a.isRef = true) (hv : ¬ a = .null) (ho : 0 ≤ (pc : Int) + o := by decide) (hp : ((pc : Int) + o).toNat = pc' := by decide) (k : Go l R Z n0 y code ml ret Q cells slots h pc' Ls st) : Go l R Z n0 y code ml ret Q cells slots h pc Ls (a :: st) := Go.step (fun C X _ q => XT.nonnullYes X.here C.1 rfl rfl (hb C.2.2.2.1 hd) rfl ha hv ho hp q) k
theorem Go.ifNo {o : Int} {cd : ClassFile.Cond} {a : Int32} (hd : decode code pc = .ok (.ifCond cd o, 3)) (hc : ifCond.holds cd a = false) (hp : pc + 3 = pc') (k : Go l R Z n0 y code ml ret Q cells slots h pc' Ls st) : Go l R Z n0 y code ml ret Q cells slots h pc Ls (.int a :: st) := Go.step (fun C X _ q => by subst hp; exact XS.ifNo X.here C.1 rfl (hb C.2.2.2.1 hd) rfl hc q) k
theorem Go.icmpNo {o : Int} {cd : ClassFile.Cond} {a b : Int32} (hd : decode code pc = .ok (.if_icmp cd o, 3)) (hc : if_icmp.holds cd a b = false) (hp : pc + 3 = pc') (k : Go l R Z n0 y code ml ret Q cells slots h pc' Ls st) : Go l R Z n0 y code ml ret Q cells slots h pc Ls (.int b :: .int a :: st) := Go.step (fun C X _ q => by subst hp; exact XS.icmpNo X.here C.1 rfl (hb C.2.2.2.1 hd) rfl hc q) k
theorem Go.acmpNo {o : Int} {cd : ClassFile.ACond} {a b : Value} (hd : decode code pc = .ok (.if_acmp cd o, 3)) (ha : a.isRef = true) (hb' : b.isRef = true) (hc : XT.acmp cd a b = false) (hp : pc + 3 = pc') (k : Go l R Z n0 y code ml ret Q cells slots h pc' Ls st) : Go l R Z n0 y code ml ret Q cells slots h pc Ls (b :: a :: st) := Go.step (fun C X _ q => by subst hp; exact XT.acmpNo X.here C.1 rfl (hb C.2.2.2.1 hd) rfl ha hb' hc q) k
theorem Go.nullNo {o : Int} {a : Value} (hd : decode code pc = .ok (.ifnull o, 3)) (ha : a.isRef = true) (hv : ¬ a = .null) (hp : pc + 3 = pc') (k : Go l R Z n0 y code ml ret Q cells slots h pc' Ls st) : Go l R Z n0 y code ml ret Q cells slots h pc Ls (a :: st) := Go.step (fun C X _ q => by subst hp; exact XT.nullNo X.here C.1 rfl (hb C.2.2.2.1 hd) rfl ha hv q) k
theorem Go.nonnullNo {o : Int} {a : Value} (hd : decode code pc = .ok (.ifnonnull o, 3)) (hv : a = .null) (hp : pc + 3 = pc') (k : Go l R Z n0 y code ml ret Q cells slots h pc' Ls st) : Go l R Z n0 y code ml ret Q cells slots h pc Ls (a :: st) := Go.step (fun C X _ q => by subst hp; exact XT.nonnullNo X.here C.1 rfl (hb C.2.2.2.1 hd) rfl hv q) k
theorem Go.tsw {a : Int32} {dflt low high o : Int} {offs : Array Int} {len : Nat} (hd : decode code pc = .ok (.tableswitch dflt low high offs, len)) (hin : ¬ (a.toInt < low ∨ a.toInt > high)) (hoff : offs[(a.toInt - low).toNat]? = some o) (ho : 0 ≤ (pc : Int) + o) (hp : ((pc : Int) + o).toNat = pc') (k : Go l R Z n0 y code ml ret Q cells slots h pc' Ls st) : Go l R Z n0 y code ml ret Q cells slots h pc Ls (.int a :: st) := Go.step (fun C X _ q => XS.tswIn X.here C.1 rfl rfl (hb C.2.2.2.1 hd) rfl hin hoff ho hp q) k
theorem Go.tswOut {a : Int32} {dflt low high : Int} {offs : Array Int} {len : Nat} (hd : decode code pc = .ok (.tableswitch dflt low high offs, len)) (hout : a.toInt < low ∨ a.toInt > high) (ho : 0 ≤ (pc : Int) + dflt) (hp : ((pc : Int) + dflt).toNat = pc') (k : Go l R Z n0 y code ml ret Q cells slots h pc' Ls st) : Go l R Z n0 y code ml ret Q cells slots h pc Ls (.int a :: st) := Go.step (fun C X _ q => XS.tswOut X.here C.1 rfl rfl (hb C.2.2.2.1 hd) rfl hout ho hp q) k
theorem Go.getstatic {host : String} {R0 O n d : String} {i : Nat} (w : (Jvm.Cond.fieldLink y.cls i R0 n d).before a0 Z = true ∨ (Jvm.Cond.fieldLinkNest y.cls i R0 n d host).before a0 Z = true) (via : Via Z R0 O n d) {v : Value} (F : Sta Z h O n d v) (hd : decode code pc = .ok (.getstatic i, 3)) (hp : pc + 3 = pc') (k : Go l R Z n0 y code ml ret Q cells slots h pc' Ls (v :: st)) : Go l R Z n0 y code ml ret Q cells slots h pc Ls st := by
  refine Go.law (P := fun h' => h' = h) (fun C X N eT _ => ?_) (fun h' e => e ▸ k)
  subst hp
  obtain ⟨T', X', e', st⟩ := getS2 X C.1 C.2.1 C.2.2.1 w via eT F (g := mkF _ pc Ls st) rfl (hb C.2.2.2.1 hd)
  exact ⟨T', _, h, X', N, e', rfl, st⟩
theorem Go.getfield {host : String} {R0 O n d : String} {i : Nat} (w : (Jvm.Cond.fieldLink y.cls i R0 n d).before a0 Z = true ∨ (Jvm.Cond.fieldLinkNest y.cls i R0 n d host).before a0 Z = true) (via : Via Z R0 O n d) {v : Value} {a : Addr} (F : Fld Z h a O n d v) (hd : decode code pc = .ok (.getfield i, 3)) (hp : pc + 3 = pc') (k : Go l R Z n0 y code ml ret Q cells slots h pc' Ls (v :: st)) : Go l R Z n0 y code ml ret Q cells slots h pc Ls (.ref a :: st) := by
  refine Go.law (P := fun h' => h' = h) (fun C X N eT _ => ?_) (fun h' e => e ▸ k)
  subst hp
  obtain ⟨T', X', e', st⟩ := getF X C.1 C.2.1 C.2.2.1 w via eT F (g := mkF _ pc Ls (.ref a :: st)) rfl rfl (hb C.2.2.2.1 hd)
  exact ⟨T', _, h, X', N, e', rfl, st⟩
theorem Go.castY {K : String} {i : Nat} {a : Addr} (w : (Jvm.Cond.classLink y.cls i K).before a0 Z = true) (F : Ins Z h a K true) (hd : decode code pc = .ok (.checkcast i, 3)) (hp : pc + 3 = pc') (k : Go l R Z n0 y code ml ret Q cells slots h pc' Ls (.ref a :: st)) : Go l R Z n0 y code ml ret Q cells slots h pc Ls (.ref a :: st) := by
  refine Go.law (P := fun h' => h' = h) (fun C X N eT _ => ?_) (fun h' e => e ▸ k)
  subst hp
  obtain ⟨T', X', e', st⟩ := castY X C.1 C.2.1 C.2.2.1 w eT F (g := mkF _ pc Ls (.ref a :: st)) rfl rfl (hb C.2.2.2.1 hd)
  exact ⟨T', _, h, X', N, e', rfl, st⟩
theorem Go.instY {K : String} {i : Nat} {a : Addr} (w : (Jvm.Cond.classLink y.cls i K).before a0 Z = true) (F : Ins Z h a K true) (hd : decode code pc = .ok (.instanceof i, 3)) (hp : pc + 3 = pc') (k : Go l R Z n0 y code ml ret Q cells slots h pc' Ls (.int 1 :: st)) : Go l R Z n0 y code ml ret Q cells slots h pc Ls (.ref a :: st) := by
  refine Go.law (P := fun h' => h' = h) (fun C X N eT _ => ?_) (fun h' e => e ▸ k)
  subst hp
  obtain ⟨T', X', e', st⟩ := instY X C.1 C.2.1 C.2.2.1 w eT F (g := mkF _ pc Ls (.ref a :: st)) rfl rfl (hb C.2.2.2.1 hd)
  exact ⟨T', _, h, X', N, e', rfl, st⟩
theorem Go.instNo {K C' : String} {i : Nat} {a : Addr} (w : (Jvm.Cond.classLink y.cls i K).before a0 Z = true) (E : Exa Z h a C') (F : ∃ c t, Z.vm.findClass C' = some c ∧ Z.vm.findClass K = some t ∧ Z.vm.assignable c t = false) (hd : decode code pc = .ok (.instanceof i, 3)) (hp : pc + 3 = pc') (k : Go l R Z n0 y code ml ret Q cells slots h pc' Ls (.int 0 :: st)) : Go l R Z n0 y code ml ret Q cells slots h pc Ls (.ref a :: st) := by
  refine Go.law (P := fun h' => h' = h) (fun C X N eT _ => ?_) (fun h' e => e ▸ k)
  subst hp
  obtain ⟨T', X', e', st⟩ := instNo X C.1 C.2.1 C.2.2.1 w eT E F (g := mkF _ pc Ls (.ref a :: st)) rfl rfl (hb C.2.2.2.1 hd)
  exact ⟨T', _, h, X', N, e', rfl, st⟩
theorem Go.castNull {i : Nat} (hd : decode code pc = .ok (.checkcast i, 3)) (hp : pc + 3 = pc') (k : Go l R Z n0 y code ml ret Q cells slots h pc' Ls (.null :: st)) : Go l R Z n0 y code ml ret Q cells slots h pc Ls (.null :: st) := Go.step (fun C X _ q => by subst hp; exact (X.checkcastNull C.1 (g := mkF _ pc Ls (.null :: st)) rfl rfl (hb C.2.2.2.1 hd) _ q)) k
theorem Go.initO {i : Nat} {a : Addr} (w1 : (Jvm.Cond.methodLink y.cls i Lib.objectInit).before a0 Z = true) (w2 : (Jvm.Cond.instanceMethod Lib.objectInit).before a0 Z = true) (w3 : (Jvm.Cond.code Lib.objectInit ⟨#[0xb1]⟩ 1 none).before a0 Z = true) (hd : decode code pc = .ok (.invokespecial i, 3)) (hz : Ls.size = ml) (hf : 1 ≤ R.frames := by decide) (hl : (st.map fun v => v.category).sum + 12 ≤ R.locals := by decide) (hp : pc + 3 = pc') (k : Go l R Z n0 y code ml ret Q cells slots h pc' Ls st) : Go l R Z n0 y code ml ret Q cells slots h pc Ls (.ref a :: st) := by
  refine Go.law (P := fun h' => h' = h) (fun C X N eT _ => ?_) (fun h' e => e ▸ k)
  subst hp
  obtain ⟨T', X', e', st⟩ := initO X C.1 C.2.1 C.2.2.1 w1 w2 w3 eT (g := mkF _ pc Ls (.ref a :: st)) rfl (by rw [C.2.2.2.2.1]; exact hz) rfl (hb C.2.2.2.1 hd) hf (W := (st.map fun v => v.category).sum) (by simp) hl
  exact ⟨T', _, h, X', N, e', rfl, st⟩
theorem Go.getClass {i : Nat} {a mr : Addr} {C' : String} (w1 : (Jvm.Cond.methodLink y.cls i ⟨"java/lang/Object", "getClass", "()Ljava/lang/Class;"⟩).before a0 Z = true) (w2 : (Jvm.Cond.declares ⟨"java/lang/Object", "getClass", "()Ljava/lang/Class;"⟩).before a0 Z = true) (w3 : (Jvm.Cond.noSuperclass "java/lang/Object").before a0 Z = true) (w4 : (Jvm.Cond.selects C' ⟨"java/lang/Object", "getClass", "()Ljava/lang/Class;"⟩ ⟨"java/lang/Object", "getClass", "()Ljava/lang/Class;"⟩).before a0 Z = true) (w5 : (Jvm.Cond.instanceMethod ⟨"java/lang/Object", "getClass", "()Ljava/lang/Class;"⟩).before a0 Z = true) (w6 : (Jvm.Cond.native ⟨"java/lang/Object", "getClass", "()Ljava/lang/Class;"⟩).before a0 Z = true) (E : Exa Z h a C') (M : Mi Z C' mr) (hd : decode code pc = .ok (.invokevirtual i, 3)) (hz : Ls.size = ml) (hf : 1 ≤ R.frames := by decide) (hl : (st.map fun v => v.category).sum + (nativeFrameWords "java/lang/Object" "getClass" 1 + 11) ≤ R.locals := by decide) (hp : pc + 3 = pc') (k : Go l R Z n0 y code ml ret Q cells slots h pc' Ls (.ref mr :: st)) : Go l R Z n0 y code ml ret Q cells slots h pc Ls (.ref a :: st) := by
  refine Go.law (P := fun h' => h' = h) (fun C X N eT _ => ?_) (fun h' e => e ▸ k)
  subst hp
  obtain ⟨cB, kB, i1, i2, i3⟩ := isOf C.2.1 eT E
  obtain ⟨cc, kc, m1, m2, m3⟩ := M.at C.2.1
  cases i1.symm.trans m1
  obtain ⟨vm', X', st⟩ := X.getClassOf C.1 C.2.2.1 (mvT C.2.1 w1) (mvT C.2.1 w2) (nf_top (args := #[]) (mvT C.2.1 w3)) (mvT C.2.1 w4) (mvT C.2.1 w5) (mvT C.2.1 w6) m1 i3 m2 m3 (g := mkF _ pc Ls (.ref a :: st)) rfl (by rw [C.2.2.2.2.1]; exact hz) rfl (hb C.2.2.2.1 hd) hf (by simpa using hl)
  exact ⟨_, _, h, X', N, eT, rfl, st⟩
theorem Go.ldcMirror {i : Nat} {mr : Addr} {C' : String} (w : (Jvm.Cond.classLink y.cls i C').before a0 Z = true) (M : Mi Z C' mr) (hd : decode code pc = .ok (.ldc i, 2)) (hp : pc + 2 = pc') (k : Go l R Z n0 y code ml ret Q cells slots h pc' Ls (.ref mr :: st)) : Go l R Z n0 y code ml ret Q cells slots h pc Ls st := by
  refine Go.law (P := fun h' => h' = h) (fun C X N eT _ => ?_) (fun h' e => e ▸ k)
  subst hp
  obtain ⟨cc, kc, m1, m2, m3⟩ := M.at C.2.1
  obtain ⟨vm', X', st⟩ := X.ldcMirror C.1 C.2.2.1 (mvT C.2.1 w) (a := mr) (by simp [Term.eval, m1, m2, m3]) (g := mkF _ pc Ls st) rfl (hb C.2.2.2.1 hd)
  exact ⟨_, _, h, X', N, eT, rfl, st⟩
theorem Go.putfield {host : String} {R0 O n d : String} {i : Nat} (w : (Jvm.Cond.fieldLink y.cls i R0 n d).before a0 Z = true ∨ (Jvm.Cond.fieldLinkNest y.cls i R0 n d host).before a0 Z = true) {ty : FieldType} {C' : String} {kk : Nat} (via : Via Z R0 O n d) {v old : Value} {a : Addr} (F : Fld Z h a O n d old) (E : Exa Z h a C') (L : (Jvm.Cond.lays C' O n d).before a0 Z = true ∨ ((Jvm.Cond.laysFinal C' O n d).before a0 Z = true ∧ y.cls = O ∧ y.name = "<init>")) (wi : (Jvm.Cond.instantiable C' kk).before a0 Z = true) (hty : parseFieldDescriptor d = some ty) (hn : narrow ty v = v) (hf : fits ty v = true) (ha : n0 ≤ a) (hd : decode code pc = .ok (.putfield i, 3)) (hp : pc + 3 = pc') (k : ∀ h', Wr h h' a (Jvm.RoadKit.slotOf Z O n d) v → Go l R Z n0 y code ml ret Q cells slots h' pc' Ls st) : Go l R Z n0 y code ml ret Q cells slots h pc Ls (v :: .ref a :: st) := by
  refine Go.law (P := fun h' => Wr h h' a (Jvm.RoadKit.slotOf Z O n d) v) (fun C X N eT hn => ?_) (k)
  subst hp
  obtain ⟨T', h', X', e', W, st⟩ := putF X C.1 C.2.1 C.2.2.1 w via eT F E (L.imp id fun q => ⟨q.1, q.2.1, C.2.2.2.2.2.2.2.1.trans q.2.2⟩) wi hty ‹narrow ty v = v› hf (g := mkF _ pc Ls (v :: .ref a :: st)) rfl rfl (hb C.2.2.2.1 hd)
  exact ⟨T', _, h', X', Fr.snoc X' N ha, e', W, st⟩
theorem Go.putfieldN {R0 O n d : String} {i : Nat} (w : (Jvm.Cond.fieldLink y.cls i R0 n d).before a0 Z = true) {ty : FieldType} {C' : String} {kk : Nat} (via : Via Z R0 O n d) {v v' : Int32} {old : Value} {a : Addr} (F : Fld Z h a O n d old) (E : Exa Z h a C') (L : (Jvm.Cond.lays C' O n d).before a0 Z = true ∨ ((Jvm.Cond.laysFinal C' O n d).before a0 Z = true ∧ y.cls = O ∧ y.name = "<init>")) (wi : (Jvm.Cond.instantiable C' kk).before a0 Z = true) (hty : parseFieldDescriptor d = some ty) (hn : narrow ty (.int v) = .int v') (hf : fits ty (.int v') = true) (ha : n0 ≤ a) (hd : decode code pc = .ok (.putfield i, 3)) (hp : pc + 3 = pc') (k : ∀ h', Wr h h' a (Jvm.RoadKit.slotOf Z O n d) (.int v') → Go l R Z n0 y code ml ret Q cells slots h' pc' Ls st) : Go l R Z n0 y code ml ret Q cells slots h pc Ls (.int v :: .ref a :: st) := by
  refine Go.law (P := fun h' => Wr h h' a (Jvm.RoadKit.slotOf Z O n d) (.int v')) (fun C X N eT hn => ?_) (k)
  subst hp
  obtain ⟨T', h', X', e', W, st⟩ := putFN X C.1 C.2.1 C.2.2.1 w via eT F E (L.imp id fun q => ⟨q.1, q.2.1, C.2.2.2.2.2.2.2.1.trans q.2.2⟩) wi hty ‹narrow ty (.int v) = .int v'› hf (g := mkF _ pc Ls (.int v :: .ref a :: st)) rfl rfl (hb C.2.2.2.1 hd)
  exact ⟨T', _, h', X', Fr.snoc X' N ha, e', W, st⟩
theorem Go.new {C' : String} {i n cells' slots' : Nat} (w : (Jvm.Cond.classLink y.cls i C').before a0 Z = true) (wi : (Jvm.Cond.instantiable C' n).before a0 Z = true) (wz : (Jvm.Cond.initialized C').before a0 Z = true) (hd : decode code pc = .ok (.new i, 3)) (hc' : cells + 1 = cells') (hs' : slots + n = slots') (hc : cells' ≤ R.cells := by decide) (hl : slots' ≤ R.slots := by decide) (hp : pc + 3 = pc') (k : ∀ (h' : Heap) (b : Addr), b = h.size → Ext h h' → n0 ≤ b → Exa Z h' b C' → (∀ {O nm d : String} {ty : FieldType}, Laid Z a0 C' O nm d → parseFieldDescriptor d = some ty → Fld Z h' b O nm d (defaultValue ty)) → Go l R Z n0 y code ml ret Q cells' slots' h' pc' Ls (.ref b :: st)) : Go l R Z n0 y code ml ret Q cells slots h pc Ls st := by
  refine Go.law (P := fun h' => (Ext h h' ∧ n0 ≤ h.size ∧ Exa Z h' h.size C' ∧ ∀ {O nm d : String} {ty : FieldType}, Laid Z a0 C' O nm d → parseFieldDescriptor d = some ty → Fld Z h' h.size O nm d (defaultValue ty))) (fun C X N eT hn => ?_) (fun h' q => k h' h.size rfl q.1 q.2.1 q.2.2.1 q.2.2.2)
  subst hp
  subst hc' hs'
  obtain ⟨T', h', X', e', E, A, D, -, st⟩ := newO X C.1 C.2.1 C.2.2.1 w wi wz eT (g := mkF _ pc Ls st) rfl (hb C.2.2.2.1 hd) hc hl
  exact ⟨T', _, h', X', N, e', ⟨E, hn, A, D⟩, st⟩
theorem Go.newarray {aty : ArrayType} {ad : String} {n : Int32} {cap cells' slots' : Nat} (w : (Jvm.Cond.arrayClass (newarray.typeOf aty)).before a0 Z = true) (hd : decode code pc = .ok (.newarray aty, 2)) (had : "[" ++ (newarray.typeOf aty).toString = ad) (hn' : ¬ n < 0) (hcap : n.toNatClampNeg ≤ cap) (hc' : cells + 1 = cells') (hs' : slots + cap = slots') (hb8 : cap * 8 ≤ 536870912 := by decide) (hc : cells' ≤ R.cells := by decide) (hl : slots' ≤ R.slots := by decide) (hp : pc + 2 = pc') (k : ∀ (h' : Heap) (b : Addr), b = h.size → Ext h h' → n0 ≤ b → ∀ cA, Arv Z h' b cA (newarray.typeOf aty) n [] (defaultValue (newarray.typeOf aty)) → Exa Z h' b ad → Go l R Z n0 y code ml ret Q cells' slots' h' pc' Ls (.ref b :: st)) : Go l R Z n0 y code ml ret Q cells slots h pc Ls (.int n :: st) := by
  refine Go.law (P := fun h' => (Ext h h' ∧ n0 ≤ h.size ∧ ∃ cA, Arv Z h' h.size cA (newarray.typeOf aty) n [] (defaultValue (newarray.typeOf aty)) ∧ Exa Z h' h.size ad)) (fun C X N eT hn => ?_) (fun h' q => q.2.2.elim fun cA u => k h' h.size rfl q.1 q.2.1 cA u.1 u.2)
  subst hp
  subst hc' hs'
  obtain ⟨T', h', cA, X', e', E, A, A2, st⟩ := newPE X C.1 C.2.1 w eT (g := mkF _ pc Ls (.int n :: st)) rfl (hb C.2.2.2.1 hd) rfl hn' hcap hb8 hc hl had
  exact ⟨T', _, h', X', N, e', ⟨E, hn, cA, Arv.new A hn', A2⟩, st⟩
theorem Go.anewarray {C' ad : String} {i : Nat} {n : Int32} {cap cells' slots' : Nat} (w : (Jvm.Cond.classLink y.cls i C').before a0 Z = true) (w2 : (Jvm.Cond.arrayOver (.object C')).before a0 Z = true) (hd : decode code pc = .ok (.anewarray i, 3)) (had : "[" ++ (FieldType.object C').toString = ad) (hn' : ¬ n < 0) (hcap : n.toNatClampNeg ≤ cap) (hc' : cells + 1 = cells') (hs' : slots + cap = slots') (hb8 : cap * 8 ≤ 536870912 := by decide) (hc : cells' ≤ R.cells := by decide) (hl : slots' ≤ R.slots := by decide) (hp : pc + 3 = pc') (k : ∀ (h' : Heap) (b : Addr), b = h.size → Ext h h' → n0 ≤ b → ∀ cA, Arv Z h' b cA (.object C') n [] .null → Exa Z h' b ad → Ovr Z cA C' → Go l R Z n0 y code ml ret Q cells' slots' h' pc' Ls (.ref b :: st)) : Go l R Z n0 y code ml ret Q cells slots h pc Ls (.int n :: st) := by
  refine Go.law (P := fun h' => (Ext h h' ∧ n0 ≤ h.size ∧ ∃ cA, Arv Z h' h.size cA (.object C') n [] .null ∧ Exa Z h' h.size ad ∧ Ovr Z cA C')) (fun C X N eT hn => ?_) (fun h' q => q.2.2.elim fun cA u => k h' h.size rfl q.1 q.2.1 cA u.1 u.2.1 u.2.2)
  subst hp
  subst hc' hs'
  obtain ⟨T', h', cA, X', e', E, A, A2, O, st⟩ := newRE X C.1 C.2.1 C.2.2.1 w w2 eT (g := mkF _ pc Ls (.int n :: st)) rfl (hb C.2.2.2.1 hd) rfl hn' hcap hb8 hc hl had
  exact ⟨T', _, h', X', N, e', ⟨E, hn, cA, Arv.new A hn', A2, O⟩, st⟩
theorem Go.arraycopy {i : Nat} {a b : Addr} {kA kB : ClassId} {ty ty' : FieldType} {z z' sp dp nn : Int32} {vs vd us vd' : List Value} {dv dd : Value} (w1 : (Jvm.Cond.methodLink y.cls i Jvm.Stand.acN).before a0 Z = true) (w2 : (Jvm.Cond.native Jvm.Stand.acN).before a0 Z = true) (w3 : (Jvm.Cond.static Jvm.Stand.acN).before a0 Z = true) (w4 : (Jvm.Cond.initialized "java/lang/System").before a0 Z = true)
    (A : Arv Z h a kA ty z vs dv) (B : Arv Z h b kB ty' z' vd dd) (hty : (ty = ty' ∧ refKind ty = false) ∨ (refKind ty = true ∧ refKind ty' = true ∧ StoL Z h b us)) (h1 : ¬ sp < 0) (h2 : ¬ dp < 0) (h3 : ¬ nn < 0) (h4 : sp.toNatClampNeg + nn.toNatClampNeg ≤ z.toNatClampNeg) (h5 : dp.toNatClampNeg + nn.toNatClampNeg ≤ z'.toNatClampNeg)
    (hus : us = (List.range nn.toNatClampNeg).map fun i => vs.getD (sp.toNatClampNeg + i) dv) (hl : dp.toNatClampNeg + nn.toNatClampNeg ≤ vd.length) (hvd : vd.take dp.toNatClampNeg ++ us ++ vd.drop (dp.toNatClampNeg + nn.toNatClampNeg) = vd') (ge : n0 ≤ b) (hd : decode code pc = .ok (.invokestatic i, 3)) (hz : Ls.size = ml) (hf : 1 ≤ R.frames := by decide) (hlo : (st.map fun v => v.category).sum + (nativeFrameWords "java/lang/System" "arraycopy" 5 + 11) ≤ R.locals := by decide) (hp : pc + 3 = pc')
    (k : ∀ h', Keep h h' [b] → Arv Z h' b kB ty' z' vd' dd → Go l R Z n0 y code ml ret Q cells slots h' pc' Ls st) : Go l R Z n0 y code ml ret Q cells slots h pc Ls (.int nn :: .int dp :: .ref b :: .int sp :: .ref a :: st) := by
  refine Go.law (P := fun h' => Keep h h' [b] ∧ Arv Z h' b kB ty' z' vd' dd) (fun C X N eT hn => ?_) (fun h' q => k h' q.1 q.2)
  subst hp hvd
  obtain ⟨T', h', L, X', e', N', K, V, st⟩ := cpA X C.1 C.2.1 C.2.2.1 w1 w2 w3 w4 eT A B hty h1 h2 h3 h4 h5 hus hl N ge (g := mkF _ pc Ls (.int nn :: .int dp :: .ref b :: .int sp :: .ref a :: st)) rfl (by rw [C.2.2.2.2.1]; exact hz) rfl (hb C.2.2.2.1 hd) hf (W := (st.map fun v => v.category).sum) (by simp) hlo
  exact ⟨T', L, h', X', N', e', ⟨K, V⟩, st⟩
theorem Go.iastore {a : Addr} {kA : ClassId} {z j : Int32} {vs : List Value} {dv : Value} {v : Int32} {i : Nat} (F : Arv Z h a kA .int z vs dv) (ha : n0 ≤ a) (hd : decode code pc = .ok (.iastore, 1)) (hj : ¬ j < 0) (hjz : j < z) (hi : j.toNatClampNeg = i) (hil : i < vs.length) (hp : pc + 1 = pc') (k : ∀ h', Wr h h' a i (.int v) → Arv Z h' a kA .int z (vs.set i (.int v)) dv → Go l R Z n0 y code ml ret Q cells slots h' pc' Ls st) : Go l R Z n0 y code ml ret Q cells slots h pc Ls (.int v :: .int j :: .ref a :: st) := by
  refine Go.law (P := fun h' => (Wr h h' a i (.int v) ∧ Arv Z h' a kA .int z (vs.set i (.int v)) dv)) (fun C X N eT hn => ?_) (fun h' q => k h' q.1 q.2)
  subst hp
  obtain ⟨cl, A, q1, S, q3, H, G⟩ := F
  obtain ⟨T', h', X', e', W, st⟩ := stI X C.1 C.2.1 eT A (j := j) (inb_of S ⟨hj, hjz⟩) (g := mkF _ pc Ls (.int v :: .int j :: .ref a :: st)) rfl rfl (hb C.2.2.2.1 hd)
  have V := Arv.set A q1 S q3 H G rfl W i hi hil
  subst hi
  exact ⟨T', _, h', X', Fr.snoc X' N ha, e', ⟨W, V⟩, st⟩
theorem Go.lastore {a : Addr} {kA : ClassId} {z j : Int32} {vs : List Value} {dv : Value} {v : Int64} {i : Nat} (F : Arv Z h a kA .long z vs dv) (ha : n0 ≤ a) (hd : decode code pc = .ok (.lastore, 1)) (hj : ¬ j < 0) (hjz : j < z) (hi : j.toNatClampNeg = i) (hil : i < vs.length) (hp : pc + 1 = pc') (k : ∀ h', Wr h h' a i (.long v) → Arv Z h' a kA .long z (vs.set i (.long v)) dv → Go l R Z n0 y code ml ret Q cells slots h' pc' Ls st) : Go l R Z n0 y code ml ret Q cells slots h pc Ls (.long v :: .int j :: .ref a :: st) := by
  refine Go.law (P := fun h' => (Wr h h' a i (.long v) ∧ Arv Z h' a kA .long z (vs.set i (.long v)) dv)) (fun C X N eT hn => ?_) (fun h' q => k h' q.1 q.2)
  subst hp
  obtain ⟨cl, A, q1, S, q3, H, G⟩ := F
  obtain ⟨T', h', X', e', W, st⟩ := stJ X C.1 C.2.1 eT A (j := j) (inb_of S ⟨hj, hjz⟩) (g := mkF _ pc Ls (.long v :: .int j :: .ref a :: st)) rfl rfl (hb C.2.2.2.1 hd)
  have V := Arv.set A q1 S q3 H G rfl W i hi hil
  subst hi
  exact ⟨T', _, h', X', Fr.snoc X' N ha, e', ⟨W, V⟩, st⟩
theorem Go.castore {a : Addr} {kA : ClassId} {z j : Int32} {vs : List Value} {dv : Value} {v : Int32} {i : Nat} (F : Arv Z h a kA .char z vs dv) (ha : n0 ≤ a) (hd : decode code pc = .ok (.castore, 1)) (hj : ¬ j < 0) (hjz : j < z) (hi : j.toNatClampNeg = i) (hil : i < vs.length) (hp : pc + 1 = pc') (k : ∀ h', Wr h h' a i (.int (nar .char v)) → Arv Z h' a kA .char z (vs.set i (.int (nar .char v))) dv → Go l R Z n0 y code ml ret Q cells slots h' pc' Ls st) : Go l R Z n0 y code ml ret Q cells slots h pc Ls (.int v :: .int j :: .ref a :: st) := by
  refine Go.law (P := fun h' => (Wr h h' a i (.int (nar .char v)) ∧ Arv Z h' a kA .char z (vs.set i (.int (nar .char v))) dv)) (fun C X N eT hn => ?_) (fun h' q => k h' q.1 q.2)
  subst hp
  obtain ⟨cl, A, q1, S, q3, H, G⟩ := F
  obtain ⟨T', h', X', e', W, st⟩ := stC X C.1 C.2.1 eT A (j := j) (inb_of S ⟨hj, hjz⟩) (g := mkF _ pc Ls (.int v :: .int j :: .ref a :: st)) rfl rfl (hb C.2.2.2.1 hd)
  have V := Arv.set A q1 S q3 H G (fits_nar_char v) W i hi hil
  subst hi
  exact ⟨T', _, h', X', Fr.snoc X' N ha, e', ⟨W, V⟩, st⟩
theorem Go.bastore {a : Addr} {kA : ClassId} {z j : Int32} {vs : List Value} {dv : Value} {v : Int32} {i : Nat} (F : Arv Z h a kA .byte z vs dv) (ha : n0 ≤ a) (hd : decode code pc = .ok (.bastore, 1)) (hj : ¬ j < 0) (hjz : j < z) (hi : j.toNatClampNeg = i) (hil : i < vs.length) (hp : pc + 1 = pc') (k : ∀ h', Wr h h' a i (.int v.toInt8.toInt32) → Arv Z h' a kA .byte z (vs.set i (.int v.toInt8.toInt32)) dv → Go l R Z n0 y code ml ret Q cells slots h' pc' Ls st) : Go l R Z n0 y code ml ret Q cells slots h pc Ls (.int v :: .int j :: .ref a :: st) := by
  refine Go.law (P := fun h' => (Wr h h' a i (.int v.toInt8.toInt32) ∧ Arv Z h' a kA .byte z (vs.set i (.int v.toInt8.toInt32)) dv)) (fun C X N eT hn => ?_) (fun h' q => k h' q.1 q.2)
  subst hp
  obtain ⟨cl, A, q1, S, q3, H, G⟩ := F
  obtain ⟨T', h', X', e', W, st⟩ := stB X C.1 C.2.1 eT A (j := j) (inb_of S ⟨hj, hjz⟩) (g := mkF _ pc Ls (.int v :: .int j :: .ref a :: st)) rfl rfl (hb C.2.2.2.1 hd)
  have V := Arv.set A q1 S q3 H G (fits_nar_byte v) W i hi hil
  subst hi
  exact ⟨T', _, h', X', Fr.snoc X' N ha, e', ⟨W, V⟩, st⟩
theorem Go.aastore {a : Addr} {kA : ClassId} {ty : FieldType} {z j : Int32} {vs : List Value} {dv v : Value} {i : Nat} (F : Arv Z h a kA ty z vs dv) (ha : n0 ≤ a) (hty : ty.isReference = true) (hfit : fits ty v = true) (Fs : Sto Z h a v) (hd : decode code pc = .ok (.aastore, 1)) (hj : ¬ j < 0) (hjz : j < z) (hi : j.toNatClampNeg = i) (hil : i < vs.length) (hp : pc + 1 = pc') (k : ∀ h', Wr h h' a i v → Arv Z h' a kA ty z (vs.set i v) dv → Go l R Z n0 y code ml ret Q cells slots h' pc' Ls st) : Go l R Z n0 y code ml ret Q cells slots h pc Ls (v :: .int j :: .ref a :: st) := by
  refine Go.law (P := fun h' => (Wr h h' a i v ∧ Arv Z h' a kA ty z (vs.set i v) dv)) (fun C X N eT hn => ?_) (fun h' q => k h' q.1 q.2)
  subst hp
  obtain ⟨cl, A, q1, S, q3, H, G⟩ := F
  obtain ⟨T', h', X', e', W, st⟩ := stR X C.1 C.2.1 eT A (j := j) (inb_of S ⟨hj, hjz⟩) hty Fs (g := mkF _ pc Ls (v :: .int j :: .ref a :: st)) rfl rfl (hb C.2.2.2.1 hd)
  have V := Arv.set A q1 S q3 H G hfit W i hi hil
  subst hi
  exact ⟨T', _, h', X', Fr.snoc X' N ha, e', ⟨W, V⟩, st⟩
theorem Go.iaload {a : Addr} {kA : ClassId} {z j : Int32} {vs : List Value} {dv : Value} {v : Int32} (F : Arv Z h a kA .int z vs dv) (hd : decode code pc = .ok (.iaload, 1)) (hj : ¬ j < 0) (hjz : j < z) (hv : vs.getD j.toNatClampNeg dv = .int v) (hp : pc + 1 = pc') (k : Go l R Z n0 y code ml ret Q cells slots h pc' Ls (.int v :: st)) : Go l R Z n0 y code ml ret Q cells slots h pc Ls (.int j :: .ref a :: st) := by
  refine Go.step (fun C X eT q => ?_) k
  subst hp
  obtain ⟨cl, A, q1, S, q3, H, G⟩ := F
  have hin := inb_of S ⟨hj, hjz⟩
  exact X.iaload C.1 (j := j) (v := .int v) (by rw [eT]; exact A.1) (State.isArrayOf_alike C.2.1.alike A.2.1) A.2.2 hin (Has.at H hin hv) (g := mkF _ pc Ls (.int j :: .ref a :: st)) rfl rfl (hb C.2.2.2.1 hd) _ q
theorem Go.laload {a : Addr} {kA : ClassId} {z j : Int32} {vs : List Value} {dv : Value} {v : Int64} (F : Arv Z h a kA .long z vs dv) (hd : decode code pc = .ok (.laload, 1)) (hj : ¬ j < 0) (hjz : j < z) (hv : vs.getD j.toNatClampNeg dv = .long v) (hp : pc + 1 = pc') (k : Go l R Z n0 y code ml ret Q cells slots h pc' Ls (.long v :: st)) : Go l R Z n0 y code ml ret Q cells slots h pc Ls (.int j :: .ref a :: st) := by
  refine Go.step (fun C X eT q => ?_) k
  subst hp
  obtain ⟨cl, A, q1, S, q3, H, G⟩ := F
  have hin := inb_of S ⟨hj, hjz⟩
  exact X.laload C.1 (j := j) (v := .long v) (by rw [eT]; exact A.1) (State.isArrayOf_alike C.2.1.alike A.2.1) A.2.2 hin (Has.at H hin hv) (g := mkF _ pc Ls (.int j :: .ref a :: st)) rfl rfl (hb C.2.2.2.1 hd) _ q
theorem Go.caload {a : Addr} {kA : ClassId} {z j : Int32} {vs : List Value} {dv : Value} {v : Int32} (F : Arv Z h a kA .char z vs dv) (hd : decode code pc = .ok (.caload, 1)) (hj : ¬ j < 0) (hjz : j < z) (hv : vs.getD j.toNatClampNeg dv = .int v) (hp : pc + 1 = pc') (k : Go l R Z n0 y code ml ret Q cells slots h pc' Ls (.int v :: st)) : Go l R Z n0 y code ml ret Q cells slots h pc Ls (.int j :: .ref a :: st) := by
  refine Go.step (fun C X eT q => ?_) k
  subst hp
  obtain ⟨cl, A, q1, S, q3, H, G⟩ := F
  have hin := inb_of S ⟨hj, hjz⟩
  exact X.caload C.1 (j := j) (v := .int v) (by rw [eT]; exact A.1) (State.isArrayOf_alike C.2.1.alike A.2.1) A.2.2 hin (Has.at H hin hv) (g := mkF _ pc Ls (.int j :: .ref a :: st)) rfl rfl (hb C.2.2.2.1 hd) _ q
theorem Go.baload {a : Addr} {kA : ClassId} {z j : Int32} {vs : List Value} {dv : Value} {v : Int32} (F : Arv Z h a kA .byte z vs dv) (hd : decode code pc = .ok (.baload, 1)) (hj : ¬ j < 0) (hjz : j < z) (hv : vs.getD j.toNatClampNeg dv = .int v) (hp : pc + 1 = pc') (k : Go l R Z n0 y code ml ret Q cells slots h pc' Ls (.int v :: st)) : Go l R Z n0 y code ml ret Q cells slots h pc Ls (.int j :: .ref a :: st) := by
  refine Go.step (fun C X eT q => ?_) k
  subst hp
  obtain ⟨cl, A, q1, S, q3, H, G⟩ := F
  have hin := inb_of S ⟨hj, hjz⟩
  exact X.baloadBytes C.1 (j := j) (v := .int v) (by rw [eT]; exact A.1) (State.isArrayOf_alike C.2.1.alike A.2.1) A.2.2 hin (Has.at H hin hv) (g := mkF _ pc Ls (.int j :: .ref a :: st)) rfl rfl (hb C.2.2.2.1 hd) _ q
theorem Go.aaload {a : Addr} {kA : ClassId} {z j : Int32} {vs : List Value} {dv : Value} {v : Value} {ty : FieldType} (F : Arv Z h a kA ty z vs dv) (hty : ty.isReference = true) (hd : decode code pc = .ok (.aaload, 1)) (hj : ¬ j < 0) (hjz : j < z) (hv : vs.getD j.toNatClampNeg dv = v) (hp : pc + 1 = pc') (k : Go l R Z n0 y code ml ret Q cells slots h pc' Ls (v :: st)) : Go l R Z n0 y code ml ret Q cells slots h pc Ls (.int j :: .ref a :: st) := by
  refine Go.step (fun C X eT q => ?_) k
  subst hp
  obtain ⟨cl, A, q1, S, q3, H, G⟩ := F
  have hin := inb_of S ⟨hj, hjz⟩
  exact X.aaload C.1 (j := j) (v := v) (by rw [eT]; exact A.1) (State.isArrayOf_alike C.2.1.alike A.2.1) hty A.2.2 hin (Has.at H hin hv) (g := mkF _ pc Ls (.int j :: .ref a :: st)) rfl rfl (hb C.2.2.2.1 hd) _ q
theorem Go.arraylength {a : Addr} {kA : ClassId} {ty : FieldType} {z : Int32} {vs : List Value} {dv : Value} (F : Arv Z h a kA ty z vs dv) (hd : decode code pc = .ok (.arraylength, 1)) (hp : pc + 1 = pc') (k : Go l R Z n0 y code ml ret Q cells slots h pc' Ls (.int z :: st)) : Go l R Z n0 y code ml ret Q cells slots h pc Ls (.ref a :: st) := by
  refine Go.step (fun C X eT q => ?_) k
  subst hp
  obtain ⟨cl, A, q1, S, q3, H, G⟩ := F
  refine X.arraylength C.1 (by rw [eT]; exact A.1) (State.isArrayOf_alike C.2.1.alike A.2.1) (g := mkF _ pc Ls (.ref a :: st)) rfl rfl (hb C.2.2.2.1 hd) _ ?_
  rw [len_of S q3]
  exact q
theorem Go.retV (hr : ret = none) (hd : decode code pc = .ok (.return_, 1)) (hq : Q none h) (hc : cells ≤ R.cells := by decide) (hs : slots ≤ R.slots := by decide) : Go l R Z n0 y code ml ret Q cells slots h pc Ls [] := by
  intro p e s m args below meth c T locs C X N eT
  obtain ⟨fs, hr', hrun, hended, hW, hsame⟩ := X.leave (v := none) (fun _ => rfl) C.2.2.2.2.2.2.1
  refine ⟨_, _, X.returnOut C.1 (C.2.2.2.2.2.1.trans hr) (hb C.2.2.2.1 hd) hr', hrun, hended, _, locs, rfl, ⟨?_, N⟩, ⟨_, rfl⟩, hW, hsame.mono hc hs⟩
  show Q _ T.heap
  rw [eT]; exact hq
theorem Go.retN {t : FieldType} {v : Int32} (hr : ret = some t) (ht : t = .boolean ∨ t = .byte ∨ t = .char ∨ t = .short) (hd : decode code pc = .ok (.ireturn, 1)) (hq : Q (some (.int (nar t v))) h) (hc : cells ≤ R.cells := by decide) (hs : slots ≤ R.slots := by decide) : Go l R Z n0 y code ml ret Q cells slots h pc Ls (.int v :: st) := by
  intro p e s m args below meth c T locs C X N eT
  obtain ⟨fs, hr', hrun, hended, hW, hsame⟩ := X.leave (v := some (.int (nar t v))) (fun q => by rw [C.2.2.2.2.2.1, hr] at q; cases q) C.2.2.2.2.2.2.1
  refine ⟨_, _, Jvm.RoadKit.retN X C.1 (C.2.2.2.2.2.1.trans hr) ht (hb C.2.2.2.1 hd) hr', hrun, hended, _, locs, rfl, ⟨?_, N⟩, ⟨_, rfl⟩, hW, hsame.mono hc hs⟩
  show Q _ T.heap
  rw [eT]; exact hq
theorem Go.retI {v : Int32} (hr : ret = some .int) (hd : decode code pc = .ok (.ireturn, 1)) (hq : Q (some (.int v)) h) (hc : cells ≤ R.cells := by decide) (hs : slots ≤ R.slots := by decide) : Go l R Z n0 y code ml ret Q cells slots h pc Ls (.int v :: st) := by
  intro p e s m args below meth c T locs C X N eT
  obtain ⟨fs, hr', hrun, hended, hW, hsame⟩ := X.leave (v := some (.int v)) (fun q => by rw [C.2.2.2.2.2.1, hr] at q; cases q) C.2.2.2.2.2.2.1
  refine ⟨_, _, retOut X C.1 (C.2.2.2.2.2.1.trans hr) rfl (Or.inl ⟨rfl, Or.inl rfl, _, rfl⟩) (hb C.2.2.2.1 hd) hr', hrun, hended, _, locs, rfl, ⟨?_, N⟩, ⟨_, rfl⟩, hW, hsame.mono hc hs⟩
  show Q _ T.heap
  rw [eT]; exact hq
theorem Go.retJ {v : Int64} (hr : ret = some .long) (hd : decode code pc = .ok (.lreturn, 1)) (hq : Q (some (.long v)) h) (hc : cells ≤ R.cells := by decide) (hs : slots ≤ R.slots := by decide) : Go l R Z n0 y code ml ret Q cells slots h pc Ls (.long v :: st) := by
  intro p e s m args below meth c T locs C X N eT
  obtain ⟨fs, hr', hrun, hended, hW, hsame⟩ := X.leave (v := some (.long v)) (fun q => by rw [C.2.2.2.2.2.1, hr] at q; cases q) C.2.2.2.2.2.2.1
  refine ⟨_, _, retOut X C.1 (C.2.2.2.2.2.1.trans hr) rfl (Or.inr (Or.inl ⟨rfl, rfl, _, rfl⟩)) (hb C.2.2.2.1 hd) hr', hrun, hended, _, locs, rfl, ⟨?_, N⟩, ⟨_, rfl⟩, hW, hsame.mono hc hs⟩
  show Q _ T.heap
  rw [eT]; exact hq
theorem Go.retR {t : FieldType} {v : Value} (hr : ret = some t) (ht : t.isReference = true) (hv : v.isRef = true) (hn : narrow t v = v) (hd : decode code pc = .ok (.areturn, 1)) (hq : Q (some v) h) (hc : cells ≤ R.cells := by decide) (hs : slots ≤ R.slots := by decide) : Go l R Z n0 y code ml ret Q cells slots h pc Ls (v :: st) := by
  intro p e s m args below meth c T locs C X N eT
  obtain ⟨fs, hr', hrun, hended, hW, hsame⟩ := X.leave (v := some v) (fun q => by rw [C.2.2.2.2.2.1, hr] at q; cases q) C.2.2.2.2.2.2.1
  refine ⟨_, _, retOut X C.1 (C.2.2.2.2.2.1.trans hr) hn (Or.inr (Or.inr (Or.inr (Or.inr ⟨rfl, ht, hv⟩)))) (hb C.2.2.2.1 hd) hr', hrun, hended, _, locs, rfl, ⟨?_, N⟩, ⟨_, rfl⟩, hW, hsame.mono hc hs⟩
  show Q _ T.heap
  rw [eT]; exact hq
theorem Go.callS {z : MethodName} {zc : ByteArray} {zm : Nat} {zr : Option FieldType} {rm : Room} {Q' : Option Value → Heap → Prop} {cells' slots' i : Nat} (argsL rest : List Value) {ps : List FieldType} {r : Option FieldType} (w1 : (Jvm.Cond.methodLink y.cls i z).before a0 Z = true) (w2 : (Jvm.Cond.static z).before a0 Z = true) (wi : (Jvm.Cond.initialized z.cls).before a0 Z = true) (wc : (Jvm.Cond.code z zc zm zr).before a0 Z = true) (hy : z.cls ≠ "java/lang/invoke/MethodHandle" ∧ z.cls ≠ "java/lang/invoke/VarHandle") (hK : Con l z zc zm zr rm Z n0 argsL.toArray h Q') (hpd : parseMethodDescriptor z.desc = some ⟨ps, r⟩) (hlen : argsL.length = ps.length) (hst : st = argsL.reverse ++ rest) (hz : Ls.size = ml) (hc' : cells + rm.cells = cells') (hs' : slots + rm.slots = slots') (hfr : rm.frames + 1 ≤ R.frames := by decide) (hlo : (rest.map fun v => v.category).sum + (zm + 11) + rm.locals ≤ R.locals := by decide) (hc : cells' ≤ R.cells := by decide) (hs : slots' ≤ R.slots := by decide) (hd : decode code pc = .ok (.invokestatic i, 3)) (hp : pc + 3 = pc')
    (k : ∀ v h', Q' v h' → Go l R Z n0 y code ml ret Q cells' slots' h' pc' Ls (v.toList ++ rest)) : Go l R Z n0 y code ml ret Q cells slots h pc Ls st := by
  intro p e s m args below meth c T locs C X N eT
  subst hc' hs' hp hst
  have hold : Old Z n0 h := own_old C.2.2.2.2.2.2.2.2 X N eT
  obtain ⟨v, _, ⟨T', L', k', n'⟩, -, X', ⟨Lc, hQ, l', y', z'⟩, st⟩ := Jvm.LawKit.callS X C.1 (y := z) C.2.2.1 (mvT C.2.1 w1) (mvT C.2.1 w2) (mvT C.2.1 wi) (mvT C.2.1 wc) hy (backOf (W := (rest.map fun v => v.category).sum) (Q := fun v h L => Q' v h ∧ Fr n0 L) (hK hold []) C.2.1 wc wi hfr hlo) (g := mkF m pc Ls (argsL.reverse ++ rest)) rfl (by rw [C.2.2.2.2.1]; exact hz) (argsL := argsL) (rest := rest) (lenOf hpd hlen) rfl (by simp) (hb C.2.2.2.1 hd) (fun _ _ => ⟨rfl, eT, hc, hs⟩)
  dsimp only [Pt.U, Pt.locs, Pt.cells, Pt.slots] at X' l' y' z' st hQ
  subst l' y' z'
  obtain ⟨s₂, o, h1, h2⟩ := k v _ hQ.1 p e s m args below meth c T' _ C X' (Fr.app N hQ.2) rfl
  exact ⟨s₂, o, st _ h1, h2⟩
theorem Go.callC {z : MethodName} {zc : ByteArray} {zm : Nat} {zr : Option FieldType} {rm : Room} {Q' : Option Value → Heap → Prop} {cells' slots' i : Nat} (argsL rest : List Value) {ps : List FieldType} {r : Option FieldType} {a : Addr} (hzi : z.name = "<init>") (hzr : zr = none) (w1 : (Jvm.Cond.methodLink y.cls i z).before a0 Z = true) (w2 : (Jvm.Cond.instanceMethod z).before a0 Z = true) (wi : (Jvm.Cond.initialized z.cls).before a0 Z = true) (wc : (Jvm.Cond.code z zc zm zr).before a0 Z = true) (hy : z.cls ≠ "java/lang/invoke/MethodHandle" ∧ z.cls ≠ "java/lang/invoke/VarHandle") (hK : Con l z zc zm zr rm Z n0 (.ref a :: argsL).toArray h Q') (hpd : parseMethodDescriptor z.desc = some ⟨ps, r⟩) (hlen : argsL.length = ps.length) (hst : st = argsL.reverse ++ .ref a :: rest) (hz : Ls.size = ml) (hc' : cells + rm.cells = cells') (hs' : slots + rm.slots = slots') (hfr : rm.frames + 1 ≤ R.frames := by decide) (hlo : (rest.map fun v => v.category).sum + (zm + 11) + rm.locals ≤ R.locals := by decide) (hc : cells' ≤ R.cells := by decide) (hs : slots' ≤ R.slots := by decide) (hd : decode code pc = .ok (.invokespecial i, 3)) (hp : pc + 3 = pc')
    (k : ∀ v h', Q' v h' → Go l R Z n0 y code ml ret Q cells' slots' h' pc' Ls (v.toList ++ rest)) : Go l R Z n0 y code ml ret Q cells slots h pc Ls st := by
  intro p e s m args below meth c T locs C X N eT
  subst hc' hs' hp hst
  have hold : Old Z n0 h := own_old C.2.2.2.2.2.2.2.2 X N eT
  subst hzr
  obtain ⟨v, _, ⟨T', L', k', n'⟩, -, X', ⟨Lc, hQ, l', y', z'⟩, st⟩ := X.specialBack C.1 (y := z) hzi C.2.2.1 (mvT C.2.1 w1) (mvT C.2.1 w2) (mvT C.2.1 wc) hy (backOf (W := (rest.map fun v => v.category).sum) (Q := fun v h L => Q' v h ∧ Fr n0 L) (hK hold []) C.2.1 wc wi hfr hlo) (g := mkF m pc Ls (argsL.reverse ++ .ref a :: rest)) rfl (by rw [C.2.2.2.2.1]; exact hz) (Steps.refl _) (a := a) (argsL := argsL) (rest := rest) (lenOf hpd hlen) rfl (by simp) (hb C.2.2.2.1 hd) (fun _ _ => ⟨rfl, eT, hc, hs⟩)
  dsimp only [Pt.U, Pt.locs, Pt.cells, Pt.slots] at X' l' y' z' st hQ
  subst l' y' z'
  obtain ⟨s₂, o, h1, h2⟩ := k v _ hQ.1 p e s m args below meth c T' _ C X' (Fr.app N hQ.2) rfl
  exact ⟨s₂, o, st.trans h1, h2⟩
theorem Go.callCN {z : MethodName} {zc : ByteArray} {zm : Nat} {zr : Option FieldType} {rm : Room} {Q' : Option Value → Heap → Prop} {cells' slots' i : Nat} (argsL rest : List Value) {ps : List FieldType} {r : Option FieldType} {a : Addr} {host : String} (hzi : z.name = "<init>") (hzr : zr = none) (w1 : (Jvm.Cond.methodLinkNest y.cls i z host).before a0 Z = true) (w2 : (Jvm.Cond.instanceMethod z).before a0 Z = true) (wi : (Jvm.Cond.initialized z.cls).before a0 Z = true) (wc : (Jvm.Cond.code z zc zm zr).before a0 Z = true) (hy : z.cls ≠ "java/lang/invoke/MethodHandle" ∧ z.cls ≠ "java/lang/invoke/VarHandle") (hK : Con l z zc zm zr rm Z n0 (.ref a :: argsL).toArray h Q') (hpd : parseMethodDescriptor z.desc = some ⟨ps, r⟩) (hlen : argsL.length = ps.length) (hst : st = argsL.reverse ++ .ref a :: rest) (hz : Ls.size = ml) (hc' : cells + rm.cells = cells') (hs' : slots + rm.slots = slots') (hfr : rm.frames + 1 ≤ R.frames := by decide) (hlo : (rest.map fun v => v.category).sum + (zm + 11) + rm.locals ≤ R.locals := by decide) (hc : cells' ≤ R.cells := by decide) (hs : slots' ≤ R.slots := by decide) (hd : decode code pc = .ok (.invokespecial i, 3)) (hp : pc + 3 = pc')
    (k : ∀ v h', Q' v h' → Go l R Z n0 y code ml ret Q cells' slots' h' pc' Ls (v.toList ++ rest)) : Go l R Z n0 y code ml ret Q cells slots h pc Ls st := by
  intro p e s m args below meth c T locs C X N eT
  subst hc' hs' hp hst
  have hold : Old Z n0 h := own_old C.2.2.2.2.2.2.2.2 X N eT
  subst hzr
  obtain ⟨v, _, ⟨T', L', k', n'⟩, -, X', ⟨Lc, hQ, l', y', z'⟩, st⟩ := X.specialBackNest C.1 (y := z) hzi C.2.2.1 ((Cond.methodLinkNest_wide C.2.1 w1 :)) (mvT C.2.1 w2) (mvT C.2.1 wc) hy (backOf (W := (rest.map fun v => v.category).sum) (Q := fun v h L => Q' v h ∧ Fr n0 L) (hK hold []) C.2.1 wc wi hfr hlo) (g := mkF m pc Ls (argsL.reverse ++ .ref a :: rest)) rfl (by rw [C.2.2.2.2.1]; exact hz) (Steps.refl _) (a := a) (argsL := argsL) (rest := rest) (lenOf hpd hlen) rfl (by simp) (hb C.2.2.2.1 hd) (fun _ _ => ⟨rfl, eT, hc, hs⟩)
  dsimp only [Pt.U, Pt.locs, Pt.cells, Pt.slots] at X' l' y' z' st hQ
  subst l' y' z'
  obtain ⟨s₂, o, h1, h2⟩ := k v _ hQ.1 p e s m args below meth c T' _ C X' (Fr.app N hQ.2) rfl
  exact ⟨s₂, o, st.trans h1, h2⟩
theorem Go.callV {z : MethodName} {zc : ByteArray} {zm : Nat} {zr : Option FieldType} {rm : Room} {Q' : Option Value → Heap → Prop} {cells' slots' i : Nat} (argsL rest : List Value) {ps : List FieldType} {r : Option FieldType} {a : Addr} {x' : MethodName} {C' : String} (E : Exa Z h a C') (w1 : (Jvm.Cond.methodLink y.cls i x').before a0 Z = true) (w2 : (Jvm.Cond.declares x').before a0 Z = true) (nf : ∀ s' : State, Z.Warmed39 s'.vm → NotFace s' x') (w3 : (Jvm.Cond.selects C' x' z).before a0 Z = true) (w4 : (Jvm.Cond.instanceMethod z).before a0 Z = true) (wi : (Jvm.Cond.initialized z.cls).before a0 Z = true) (wc : (Jvm.Cond.code z zc zm zr).before a0 Z = true) (hy : x'.cls ≠ "java/lang/invoke/MethodHandle" ∧ x'.cls ≠ "java/lang/invoke/VarHandle") (hK : Con l z zc zm zr rm Z n0 (.ref a :: argsL).toArray h Q') (hpd : parseMethodDescriptor x'.desc = some ⟨ps, r⟩) (hlen : argsL.length = ps.length) (hst : st = argsL.reverse ++ .ref a :: rest) (hz : Ls.size = ml) (hc' : cells + rm.cells = cells') (hs' : slots + rm.slots = slots') (hfr : rm.frames + 1 ≤ R.frames := by decide) (hlo : (rest.map fun v => v.category).sum + (zm + 11) + rm.locals ≤ R.locals := by decide) (hc : cells' ≤ R.cells := by decide) (hs : slots' ≤ R.slots := by decide) (hd : decode code pc = .ok (.invokevirtual i, 3)) (hp : pc + 3 = pc')
    (k : ∀ v h', Q' v h' → Go l R Z n0 y code ml ret Q cells' slots' h' pc' Ls (v.toList ++ rest)) : Go l R Z n0 y code ml ret Q cells slots h pc Ls st := by
  intro p e s m args below meth c T locs C X N eT
  subst hc' hs' hp hst
  have hold : Old Z n0 h := own_old C.2.2.2.2.2.2.2.2 X N eT
  obtain ⟨cq, kq, qa, qb, qc⟩ := isOf C.2.1 eT E
  obtain ⟨v, _, ⟨T', L', k', n'⟩, -, X', ⟨Lc, hQ, l', y', z'⟩, st⟩ := X.virtualBack C.1 (y := x') (z := z) C.2.2.1 (mvT C.2.1 w1) (mvT C.2.1 w2) (nf s C.2.1) (mvT C.2.1 w3) (mvT C.2.1 w4) hy (backOf (W := (rest.map fun v => v.category).sum) (Q := fun v h L => Q' v h ∧ Fr n0 L) (hK hold []) C.2.1 wc wi hfr hlo) qa qc (g := mkF m pc Ls (argsL.reverse ++ .ref a :: rest)) rfl (by rw [C.2.2.2.2.1]; exact hz) (Steps.refl _) (argsL := argsL) (rest := rest) (lenOf hpd hlen) rfl (by simp) (hb C.2.2.2.1 hd) (fun _ _ => ⟨rfl, eT, hc, hs⟩)
  dsimp only [Pt.U, Pt.locs, Pt.cells, Pt.slots] at X' l' y' z' st hQ
  subst l' y' z'
  obtain ⟨s₂, o, h1, h2⟩ := k v _ hQ.1 p e s m args below meth c T' _ C X' (Fr.app N hQ.2) rfl
  exact ⟨s₂, o, st.trans h1, h2⟩
theorem Go.callU {z : MethodName} {zc : ByteArray} {zm : Nat} {zr : Option FieldType} {rm : Room} {Q' : Option Value → Heap → Prop} {cells' slots' i : Nat} (argsL rest : List Value) {ps : List FieldType} {r : Option FieldType} {a : Addr} {x' : MethodName} {C' owner : String} (E : Exa Z h a C') (w1 : (Jvm.Cond.methodLink y.cls i x').before a0 Z = true) (w2 : (Jvm.Cond.sameMethod x'.cls owner x'.name x'.desc).before a0 Z = true) (w5 : (Jvm.Cond.declares ⟨owner, x'.name, x'.desc⟩).before a0 Z = true) (w3 : (Jvm.Cond.selects C' x' z).before a0 Z = true) (w4 : (Jvm.Cond.instanceMethod z).before a0 Z = true) (wi : (Jvm.Cond.initialized z.cls).before a0 Z = true) (wc : (Jvm.Cond.code z zc zm zr).before a0 Z = true) (hy : owner ≠ "java/lang/invoke/MethodHandle" ∧ owner ≠ "java/lang/invoke/VarHandle") (hK : Con l z zc zm zr rm Z n0 (.ref a :: argsL).toArray h Q') (hpd : parseMethodDescriptor x'.desc = some ⟨ps, r⟩) (hlen : argsL.length = ps.length) (hst : st = argsL.reverse ++ .ref a :: rest) (hz : Ls.size = ml) (hc' : cells + rm.cells = cells') (hs' : slots + rm.slots = slots') (hfr : rm.frames + 1 ≤ R.frames := by decide) (hlo : (rest.map fun v => v.category).sum + (zm + 11) + rm.locals ≤ R.locals := by decide) (hc : cells' ≤ R.cells := by decide) (hs : slots' ≤ R.slots := by decide) (hd : decode code pc = .ok (.invokevirtual i, 3)) (hp : pc + 3 = pc')
    (k : ∀ v h', Q' v h' → Go l R Z n0 y code ml ret Q cells' slots' h' pc' Ls (v.toList ++ rest)) : Go l R Z n0 y code ml ret Q cells slots h pc Ls st := by
  intro p e s m args below meth c T locs C X N eT
  subst hc' hs' hp hst
  have hold : Old Z n0 h := own_old C.2.2.2.2.2.2.2.2 X N eT
  obtain ⟨cq, kq, qa, qb, qc⟩ := isOf C.2.1 eT E
  obtain ⟨v, _, ⟨T', L', k', n'⟩, -, X', ⟨Lc, hQ, l', y', z'⟩, st⟩ := X.virtualBackUp C.1 (x := x') (y := z) C.2.2.1 (mvT C.2.1 w1) (mvT C.2.1 w2) (mvT C.2.1 w5) hy (mvT C.2.1 w3) (mvT C.2.1 w4) (backOf (W := (rest.map fun v => v.category).sum) (Q := fun v h L => Q' v h ∧ Fr n0 L) (hK hold []) C.2.1 wc wi hfr hlo) qa qc (g := mkF m pc Ls (argsL.reverse ++ .ref a :: rest)) rfl (by rw [C.2.2.2.2.1]; exact hz) (Steps.refl _) (argsL := argsL) (rest := rest) (lenOf hpd hlen) rfl (by simp) (hb C.2.2.2.1 hd) (fun _ _ => ⟨rfl, eT, hc, hs⟩)
  dsimp only [Pt.U, Pt.locs, Pt.cells, Pt.slots] at X' l' y' z' st hQ
  subst l' y' z'
  obtain ⟨s₂, o, h1, h2⟩ := k v _ hQ.1 p e s m args below meth c T' _ C X' (Fr.app N hQ.2) rfl
  exact ⟨s₂, o, st.trans h1, h2⟩
theorem Go.callP {z : MethodName} {zc : ByteArray} {zm : Nat} {zr : Option FieldType} {rm : Room} {Q' : Option Value → Heap → Prop} {cells' slots' i : Nat} (argsL rest : List Value) {ps : List FieldType} {r : Option FieldType} {a : Addr} {C' : String} (E : Exa Z h a C') (w1 : (Jvm.Cond.methodLink y.cls i z).before a0 Z = true) (w2 : (Jvm.Cond.instanceMethod z).before a0 Z = true) (w3 : (Jvm.Cond.selects z.cls z z).before a0 Z = true) (w4 : (Jvm.Cond.privateMethod z).before a0 Z = true) (wi : (Jvm.Cond.initialized z.cls).before a0 Z = true) (wc : (Jvm.Cond.code z zc zm zr).before a0 Z = true) (hy : z.cls ≠ "java/lang/invoke/MethodHandle" ∧ z.cls ≠ "java/lang/invoke/VarHandle") (hK : Con l z zc zm zr rm Z n0 (.ref a :: argsL).toArray h Q') (hpd : parseMethodDescriptor z.desc = some ⟨ps, r⟩) (hlen : argsL.length = ps.length) (hst : st = argsL.reverse ++ .ref a :: rest) (hz : Ls.size = ml) (hc' : cells + rm.cells = cells') (hs' : slots + rm.slots = slots') (hfr : rm.frames + 1 ≤ R.frames := by decide) (hlo : (rest.map fun v => v.category).sum + (zm + 11) + rm.locals ≤ R.locals := by decide) (hc : cells' ≤ R.cells := by decide) (hs : slots' ≤ R.slots := by decide) (hd : decode code pc = .ok (.invokevirtual i, 3)) (hp : pc + 3 = pc')
    (k : ∀ v h', Q' v h' → Go l R Z n0 y code ml ret Q cells' slots' h' pc' Ls (v.toList ++ rest)) : Go l R Z n0 y code ml ret Q cells slots h pc Ls st := by
  intro p e s m args below meth c T locs C X N eT
  subst hc' hs' hp hst
  have hold : Old Z n0 h := own_old C.2.2.2.2.2.2.2.2 X N eT
  obtain ⟨cq, qa, qb⟩ := E.cell
  obtain ⟨v, _, ⟨T', L', k', n'⟩, -, X', ⟨Lc, hQ, l', y', z'⟩, st⟩ := X.privateBack C.1 (y := z) C.2.2.1 (mvT C.2.1 w1) (mvT C.2.1 w2) (mvT C.2.1 w3) (Cond.privateMethod_at (mvP C.2.1 w4 (args := #[]))) (mvT C.2.1 wc) hy (backOf (W := (rest.map fun v => v.category).sum) (Q := fun v h L => Q' v h ∧ Fr n0 L) (hK hold []) C.2.1 wc wi hfr hlo) (g := mkF m pc Ls (argsL.reverse ++ .ref a :: rest)) rfl (by rw [C.2.2.2.2.1]; exact hz) (Steps.refl _) (a := a) (by rw [eT]; exact qa) qb (argsL := argsL) (rest := rest) (lenOf hpd hlen) rfl (by simp) (hb C.2.2.2.1 hd) (fun _ _ => ⟨rfl, eT, hc, hs⟩)
  dsimp only [Pt.U, Pt.locs, Pt.cells, Pt.slots] at X' l' y' z' st hQ
  subst l' y' z'
  obtain ⟨s₂, o, h1, h2⟩ := k v _ hQ.1 p e s m args below meth c T' _ C X' (Fr.app N hQ.2) rfl
  exact ⟨s₂, o, st.trans h1, h2⟩
theorem Go.callI {z : MethodName} {zc : ByteArray} {zm : Nat} {zr : Option FieldType} {rm : Room} {Q' : Option Value → Heap → Prop} {cells' slots' i : Nat} (argsL rest : List Value) {ps : List FieldType} {r : Option FieldType} {a : Addr} {x' : MethodName} {C' : String} {cnt : Nat} (E : Exa Z h a C') (w1 : (Jvm.Cond.methodLink y.cls i x').before a0 Z = true) (w2 : (Jvm.Cond.declares x').before a0 Z = true) (w3 : (Jvm.Cond.interfaceMethod x'.cls x'.cls x'.name x'.desc).before a0 Z = true) (w4 : (Jvm.Cond.selects C' x' z).before a0 Z = true) (w5 : (Jvm.Cond.instanceMethod z).before a0 Z = true) (w6 : (Jvm.Cond.publicMethod z).before a0 Z = true) (w7 : (Jvm.Cond.unhidden C' x'.name x'.desc).before a0 Z = true) (w8 : (Jvm.Cond.castable C' x'.cls).before a0 Z = true) (wi : (Jvm.Cond.initialized z.cls).before a0 Z = true) (wc : (Jvm.Cond.code z zc zm zr).before a0 Z = true) (hy : x'.cls ≠ "java/lang/invoke/MethodHandle" ∧ x'.cls ≠ "java/lang/invoke/VarHandle") (hK : Con l z zc zm zr rm Z n0 (.ref a :: argsL).toArray h Q') (hpd : parseMethodDescriptor x'.desc = some ⟨ps, r⟩) (hlen : argsL.length = ps.length) (hst : st = argsL.reverse ++ .ref a :: rest) (hz : Ls.size = ml) (hc' : cells + rm.cells = cells') (hs' : slots + rm.slots = slots') (hfr : rm.frames + 1 ≤ R.frames := by decide) (hlo : (rest.map fun v => v.category).sum + (zm + 11) + rm.locals ≤ R.locals := by decide) (hc : cells' ≤ R.cells := by decide) (hs : slots' ≤ R.slots := by decide) (hd : decode code pc = .ok (.invokeinterface i cnt, 5)) (hp : pc + 5 = pc')
    (k : ∀ v h', Q' v h' → Go l R Z n0 y code ml ret Q cells' slots' h' pc' Ls (v.toList ++ rest)) : Go l R Z n0 y code ml ret Q cells slots h pc Ls st := by
  intro p e s m args below meth c T locs C X N eT
  subst hc' hs' hp hst
  have hold : Old Z n0 h := own_old C.2.2.2.2.2.2.2.2 X N eT
  obtain ⟨cq, kq, qa, qb, qc⟩ := isOf C.2.1 eT E
  obtain ⟨v, _, ⟨T', L', k', n'⟩, -, X', ⟨Lc, hQ, l', y', z'⟩, st⟩ := X.interfaceBack C.1 (xi := x') (y := z) C.2.2.1 (mvT C.2.1 w1) (mvT C.2.1 w2) (mvT C.2.1 w3 (hd := by simp [Cond.onTables, Cond.keepsFace, Cond.keeps, Cond.steady, Cond.faceAtom]; exact hy)) (mvT C.2.1 w4) (mvT C.2.1 w5) (mvT C.2.1 w6) (mvT C.2.1 w7) (mvT C.2.1 w8) hy (backOf (W := (rest.map fun v => v.category).sum) (Q := fun v h L => Q' v h ∧ Fr n0 L) (hK hold []) C.2.1 wc wi hfr hlo) qa qb qc (g := mkF m pc Ls (argsL.reverse ++ .ref a :: rest)) rfl (by rw [C.2.2.2.2.1]; exact hz) (Steps.refl _) (argsL := argsL) (rest := rest) (lenOf hpd hlen) rfl (by simp) (hb C.2.2.2.1 hd) (fun _ _ => ⟨rfl, eT, hc, hs⟩)
  dsimp only [Pt.U, Pt.locs, Pt.cells, Pt.slots] at X' l' y' z' st hQ
  subst l' y' z'
  obtain ⟨s₂, o, h1, h2⟩ := k v _ hQ.1 p e s m args below meth c T' _ C X' (Fr.app N hQ.2) rfl
  exact ⟨s₂, o, st.trans h1, h2⟩
end Rules
end Jvm.OwnGo
namespace Jvm.OwnNum
theorem mask (x m : Int32) (hm : 0 ≤ m.toInt) : 0 ≤ (x &&& m).toInt ∧ (x &&& m).toInt ≤ m.toInt := by
  have e : ∀ z : Int32, z.toInt = z.toBitVec.toInt := fun _ => rfl
  have hb : (x &&& m).toBitVec = x.toBitVec &&& m.toBitVec := rfl
  rw [e] at hm
  rw [e (x &&& m), e m, hb]
  have h1 : 2 * m.toBitVec.toNat < 2 ^ 32 := by
    rw [BitVec.toInt_eq_toNat_cond] at hm
    split at hm
    · assumption
    · have := m.toBitVec.isLt; omega
  have h2 : (x.toBitVec &&& m.toBitVec).toNat ≤ m.toBitVec.toNat := by
    rw [BitVec.toNat_and]; exact Nat.and_le_right
  rw [BitVec.toInt_eq_toNat_of_lt (x := m.toBitVec) h1, BitVec.toInt_eq_toNat_of_lt (x := x.toBitVec &&& m.toBitVec) (by omega)]
  omega
theorem modr (y k : Int32) (hy : 0 ≤ y.toInt) (hk : 0 < k.toInt) : 0 ≤ (y % k).toInt ∧ (y % k).toInt < k.toInt := by
  rw [Int32.toInt_mod]
  exact ⟨Int.tmod_nonneg _ hy, Int.tmod_lt_of_pos _ hk⟩
theorem maskmod (x k : Int32) (hk : 0 < k.toInt) : 0 ≤ ((x &&& 2147483647) % k).toInt ∧ ((x &&& 2147483647) % k).toInt < k.toInt := modr _ k (mask x 2147483647 (by decide)).1 hk
theorem eqI {a k : Int32} (h : a.toInt = k.toInt) : a = k := Int32.toInt_inj.mp h
end Jvm.OwnNum
namespace Jvm.OwnNum
theorem lremE (x y : Int64) : x - (x / y) * y = x % y := by
  apply Int64.toInt_inj.mp
  rw [Int64.toInt_mod, Int64.toInt_sub, Int64.toInt_mul, Int64.toInt_div]
  have h := Int.mul_tdiv_add_tmod x.toInt y.toInt
  have e : (x.toInt - ((x.toInt.tdiv y.toInt).bmod (2^64) * y.toInt).bmod (2^64)).bmod (2^64) = (x.toInt - (x.toInt.tdiv y.toInt * y.toInt)).bmod (2^64) := by
    simp
  rw [e]
  have q : x.toInt - x.toInt.tdiv y.toInt * y.toInt = x.toInt.tmod y.toInt := by
    rw [Int.mul_comm]; omega
  rw [q]
  have h1 := Int64.le_toInt (x % y)
  have h2 := Int64.toInt_lt (x % y)
  rw [Int64.toInt_mod] at h1 h2
  exact Int.bmod_eq_of_le_mul_two (by omega) (by omega)
theorem mask64 (x m : Int64) (hm : 0 ≤ m.toInt) : 0 ≤ (x &&& m).toInt ∧ (x &&& m).toInt ≤ m.toInt := by
  have e : ∀ z : Int64, z.toInt = z.toBitVec.toInt := fun _ => rfl
  have hb : (x &&& m).toBitVec = x.toBitVec &&& m.toBitVec := rfl
  rw [e] at hm
  rw [e (x &&& m), e m, hb]
  have h1 : 2 * m.toBitVec.toNat < 2 ^ 64 := by
    rw [BitVec.toInt_eq_toNat_cond] at hm
    split at hm
    · assumption
    · have := m.toBitVec.isLt; omega
  have h2 : (x.toBitVec &&& m.toBitVec).toNat ≤ m.toBitVec.toNat := by
    rw [BitVec.toNat_and]; exact Nat.and_le_right
  rw [BitVec.toInt_eq_toNat_of_lt (x := m.toBitVec) h1, BitVec.toInt_eq_toNat_of_lt (x := x.toBitVec &&& m.toBitVec) (by omega)]
  omega
theorem maskmod64 (x m k : Int64) (hm : 0 ≤ m.toInt) (hk : 0 < k.toInt) : 0 ≤ ((x &&& m) - ((x &&& m) / k) * k).toInt ∧ ((x &&& m) - ((x &&& m) / k) * k).toInt < k.toInt := by
  rw [lremE, Int64.toInt_mod]
  exact ⟨Int.tmod_nonneg _ (mask64 x m hm).1, Int.tmod_lt_of_pos _ hk⟩
theorem narrowI (x : Int64) (h1 : 0 ≤ x.toInt) (h2 : x.toInt < 2147483648) : x.toInt32.toInt = x.toInt := by
  rw [Int64.toInt_toInt32]
  exact Int.bmod_eq_of_le_mul_two (by omega) (by omega)
theorem lmod5 (x : Int64) : 0 ≤ (((x &&& (9223372036854775807 : Int64)) - ((x &&& (9223372036854775807 : Int64)) / (5 : Int64)) * (5 : Int64)).toInt32).toInt ∧ (((x &&& (9223372036854775807 : Int64)) - ((x &&& (9223372036854775807 : Int64)) / (5 : Int64)) * (5 : Int64)).toInt32).toInt < 5 := by
  have h := maskmod64 x 9223372036854775807 5 (by decide) (by decide)
  have e5 : (5 : Int64).toInt = 5 := by decide
  rw [e5] at h
  rw [narrowI _ h.1 (by omega)]
  exact h
end Jvm.OwnNum
namespace Jvm.OwnGo
open Jvm Jvm.ClassFile Sem Op Lib Jvm.Free Jvm.Stand Jvm.LawKit Jvm.RoadKit
section Sheet
variable {args : Array Value} {s : State} {t : Term} {a : Addr}
theorem own_eqI {k : Int32} (h : (Jvm.Cond.eq t (.int k)).value args s none s [] = some true) : t.eval args s none [] s = some (.int k) := by
  simp only [Cond.value, Term.eval] at h
  cases ht : t.eval args s none [] s with
  | none => simp [ht] at h
  | some x => cases x <;> simp [ht] at h ⊢; exact h
theorem own_eqJ {k : Int64} (h : (Jvm.Cond.eq t (.long k)).value args s none s [] = some true) : t.eval args s none [] s = some (.long k) := by
  simp only [Cond.value, Term.eval] at h
  cases ht : t.eval args s none [] s with
  | none => simp [ht] at h
  | some x => cases x <;> simp [ht] at h ⊢; exact h
theorem own_eqR {u : Term} {b : Addr} (hu : u.eval args s none [] s = some (.ref b)) (h : (Jvm.Cond.eq t u).value args s none s [] = some true) : t.eval args s none [] s = some (.ref b) := by
  simp only [Cond.value, hu] at h
  cases ht : t.eval args s none [] s with
  | none => simp [ht] at h
  | some x => cases x <;> simp [ht] at h ⊢; exact h
theorem own_fld {C n d : String} {v : Value} (ht : t.eval args s none [] s = some (.ref a)) (h : (Term.field t C n d).eval args s none [] s = some v) : Jvm.RoadKit.Fld s s.heap a C n d v :=
  Fld.start (by rw [← fld_at (C := C) (n := n) (dd := d) ht]; exact h)
theorem own_arr {ty : FieldType} {n : Int32} (ev : t.eval args s none [] s = some (.ref a)) (hx : (Jvm.Cond.arrayOf t ty).value args s none s [] = some true) (hl : (Term.length t).eval args s none [] s = some (.int n)) :
    ∃ c, Arr s s.heap a c ty ∧ c.slots.size < 2 ^ 31 ∧ c.slots.size.toInt32 = n := by
  obtain ⟨c, A⟩ := Arr.start ev hx
  have e := A.fin (Vm.Alike.refl _)
  refine ⟨c, A, ?_⟩
  simp only [Term.eval, ev, Option.bind_eq_bind, Option.bind_some, e] at hl
  split at hl
  · rename_i q; exact ⟨q, by simpa using hl⟩
  · cases hl
theorem own_elem {ty : FieldType} {j : Int32} {c : Cell} {v : Value} (ev : t.eval args s none [] s = some (.ref a)) (A : Arr s s.heap a c ty) (hj : ¬ j < 0) (h : (Term.elem t (.int j)).eval args s none [] s = some v) : c.slots[j.toNatClampNeg]? = some v := by
  rw [elem_f ev (Term.int_eval j) (A.fin (Vm.Alike.refl _)) hj] at h; exact h
end Sheet
end Jvm.OwnGo
namespace Jvm.OwnGo
open Jvm Jvm.ClassFile Sem Op Lib Jvm.Free Jvm.Stand Jvm.LawKit Jvm.RoadKit
theorem own_arvAny {s : State} {a : Addr} {c : Cell} {ty : FieldType} {n : Int32} {dv : Value} (hf : Fit s) (A : Arr s s.heap a c ty) (q : c.slots.size < 2 ^ 31) (e : c.slots.size.toInt32 = n) (hn : ¬ n < 0) : Jvm.RoadKit.Arv s s.heap a c.cls ty n c.slots.toList dv := by
  have S : c.slots.size = n.toNatClampNeg := by rw [← e]; simp only [Int32.toNatClampNeg, len_toInt q]; rfl
  have H : Has c c.slots.toList dv := fun k hk => by simp [List.getD_eq_getElem?_getD, hk]
  refine ⟨c, A, rfl, S, hn, H, fun j hj => ?_⟩
  have hi := idx_in hj q
  obtain ⟨v, h1, h2⟩ := elem_fit hf A hi
  have ej : (j.toInt32).toNatClampNeg = j := by
    simp only [Int32.toNatClampNeg, len_toInt (Nat.lt_trans hj q)]; rfl
  rw [ej, H j hj] at h1
  cases h1
  exact h2
end Jvm.OwnGo
namespace Jvm.OwnGo
open Jvm Jvm.ClassFile Sem Op Lib Jvm.Free Jvm.Stand Jvm.LawKit Jvm.RoadKit
theorem own_eqV {args : Array Value} {s : State} {t u : Term} {idx : List Nat} {k : Int32} (hu : u.eval args s none idx s = some (.int k)) (h : (Jvm.Cond.eq t u).value args s none s idx = some true) : t.eval args s none idx s = some (.int k) := by
  simp only [Cond.value, hu] at h
  cases ht : t.eval args s none idx s with
  | none => simp [ht] at h
  | some x => cases x <;> simp [ht] at h ⊢; exact h
theorem own_static_idx {args : Array Value} {s : State} {C n d : String} {v : Value} (h : (Term.static C n d).eval args s none [] s = some v) (idx : List Nat) : (Term.static C n d).eval args s none idx s = some v := by
  simp only [Term.eval] at h ⊢; exact h
theorem own_i128 (i : Int32) (h1 : ¬ i < -128) (h2 : ¬ 127 < i) : ¬ i + 128 < 0 ∧ i + 128 < 256 ∧ (i + 128).toNatClampNeg < 256 := by
  rw [Int32.lt_iff_toInt_lt] at h1 h2
  have e1 : (-128 : Int32).toInt = -128 := by decide
  have e2 : (127 : Int32).toInt = 127 := by decide
  have e3 : (128 : Int32).toInt = 128 := by decide
  rw [e1] at h1; rw [e2] at h2
  have e : (i + 128).toInt = i.toInt + 128 := by
    rw [Int32.toInt_add, e3]; exact Int.bmod_eq_of_le_mul_two (by omega) (by omega)
  refine ⟨?_, ?_, ?_⟩
  · rw [Int32.lt_iff_toInt_lt, e]; have : (0 : Int32).toInt = 0 := by decide
    omega
  · rw [Int32.lt_iff_toInt_lt, e]; have : (256 : Int32).toInt = 256 := by decide
    omega
  · simp only [Int32.toNatClampNeg, e]; omega
theorem own_cache {args : Array Value} {s : State} {a : Addr} {c : Cell} {ct : Term} (ev : ∀ idx, ct.eval args s none idx s = some (.ref a)) (A : Arr s s.heap a c (.object "java/lang/Integer")) (hsz : c.slots.size < 2 ^ 31) (hn : c.slots.size.toInt32 = 256)
    (hall : (Jvm.Cond.all ct (.and (.exactly (.elem ct (.index 0)) "java/lang/Integer") (.eq (.field (.elem ct (.index 0)) "java/lang/Integer" "value" "I") (.sub (.index 0) (.int 128))))).value args s none s [] = some true) :
    ∀ i : Int32, ¬ i < -128 → ¬ 127 < i → ∃ w, c.slots.toList.getD (i + 128).toNatClampNeg .null = .ref w ∧ Jvm.RoadKit.Exa s s.heap w "java/lang/Integer" ∧ Jvm.RoadKit.Fld s s.heap w "java/lang/Integer" "value" "I" (.int i) := by
  intro i h1 h2
  obtain ⟨b1, b2, b3⟩ := own_i128 i h1 h2
  have hat := A.fin (Vm.Alike.refl _)
  have S : c.slots.size = 256 := by
    have : c.slots.size = (256 : Int32).toNatClampNeg := by rw [← hn]; simp only [Int32.toNatClampNeg, len_toInt hsz]; rfl
    rw [this]; decide
  have q := Cond.all_elim (ev []) hat hall (i + 128).toNatClampNeg (by rw [S]; exact b3)
  obtain ⟨q1, q2⟩ := and_e q
  have ei : (Term.index 0).eval args s none [(i + 128).toNatClampNeg] s = some (.int (i + 128)) := idx_at b1
  obtain ⟨w, ew⟩ := exa_v q1
  have ew' := ew
  rw [elem_f (ev _) ei hat b1] at ew'
  have es : (Term.sub (.index 0) (.int 128)).eval args s none [(i + 128).toNatClampNeg] s = some (.int i) := by
    have e0 : i + 128 - 128 = i := by
      rw [Int32.sub_eq_add_neg, Int32.add_assoc]; simp
    have e1 := (back32 b1).1
    simp [Term.eval, e1, e0]
  have ef := own_eqV es q2
  refine ⟨w, ?_, exa_at ew q1, Fld.start ?_⟩
  · rw [List.getD_eq_getElem?_getD, Array.getElem?_toList, ew']; rfl
  · rw [← fld_at (C := "java/lang/Integer") (n := "value") (dd := "I") ew]; exact ef
end Jvm.OwnGo
namespace Jvm.OwnGo
open Jvm Jvm.ClassFile Sem Op Lib Jvm.Free Jvm.Stand Jvm.LawKit Jvm.RoadKit
theorem own_nroot {Z : State} {a0 : Array Value} {O K : String} {n : Nat} (w : (Jvm.Cond.noSuperclass O).before a0 Z = true) (wk : (Jvm.Cond.instantiable K n).before a0 Z = true) (hn : O ≠ K) : NS Z O K := by
  obtain ⟨c, k, h1, h2, h3, -, -⟩ := Cond.noSuperclass_spec w
  obtain ⟨t, kt, g1, -⟩ := Cond.instantiable_spec wk
  have ne := ids_ne h1 g1 hn
  refine ⟨c, t, h1, g1, fun fuel => ?_⟩
  cases fuel with
  | zero => rfl
  | succ f => simp [Vm.isSubclassAux, ne, h2, h3]
theorem own_nno {Z : State} {a0 : Array Value} {C S K : String} {n : Nat} (w : (Jvm.Cond.superclass C S).before a0 Z = true) (wk : (Jvm.Cond.instantiable K n).before a0 Z = true) (nn : NS Z C K) (hn : C ≠ K) : ∃ c t, Z.vm.findClass C = some c ∧ Z.vm.findClass K = some t ∧ Z.vm.assignable c t = false := by
  obtain ⟨c, t, h0, g0, n3⟩ := nn
  obtain ⟨p, k, kp, h1, h2, h3, h4, h5, -, h7⟩ := Cond.superclass_spec h0 w
  obtain ⟨t', kt, g1, g2, g3, g4, -⟩ := Cond.instantiable_spec wk
  cases g0.symm.trans g1
  have gi : kt.isInterface = false := by
    cases q : kt.isInterface with
    | false => rfl
    | true => simp [q] at g4
  have ne := ids_ne h0 g0 hn
  refine ⟨c, t, h0, g0, ?_⟩
  show Z.vm.assignableAux (255 + 1) c t = false
  simp [Vm.assignableAux, ne, h2, g2, h5, g3, gi, Vm.isSubclass, n3]
end Jvm.OwnGo
namespace Jvm.Pilot.@@N@@
open Jvm Jvm.ClassFile Sem Op Lib Jvm.Free Jvm.Stand Jvm.LawKit Jvm.RoadKit Bundle Jvm.OwnGo Jvm.Pilot.@@N@@.Jvm.D
theorem own_mod13 (x : Int32) : (x &&& (2147483647 : Int32)) % (13 : Int32) = (0 : Int32) ∨ (x &&& (2147483647 : Int32)) % (13 : Int32) = (1 : Int32) ∨ (x &&& (2147483647 : Int32)) % (13 : Int32) = (2 : Int32) ∨ (x &&& (2147483647 : Int32)) % (13 : Int32) = (3 : Int32) ∨ (x &&& (2147483647 : Int32)) % (13 : Int32) = (4 : Int32) ∨ (x &&& (2147483647 : Int32)) % (13 : Int32) = (5 : Int32) ∨ (x &&& (2147483647 : Int32)) % (13 : Int32) = (6 : Int32) ∨ (x &&& (2147483647 : Int32)) % (13 : Int32) = (7 : Int32) ∨ (x &&& (2147483647 : Int32)) % (13 : Int32) = (8 : Int32) ∨ (x &&& (2147483647 : Int32)) % (13 : Int32) = (9 : Int32) ∨ (x &&& (2147483647 : Int32)) % (13 : Int32) = (10 : Int32) ∨ (x &&& (2147483647 : Int32)) % (13 : Int32) = (11 : Int32) ∨ (x &&& (2147483647 : Int32)) % (13 : Int32) = (12 : Int32) := by
  obtain ⟨h1, h2⟩ := OwnNum.maskmod x 13 (by decide)
  have e : (13 : Int32).toInt = 13 := by decide
  have e' : (12 : Int32).toInt = 12 := by decide
  generalize (x &&& (2147483647 : Int32)) % (13 : Int32) = z at h1 h2 ⊢
  have q : z.toInt = 0 ∨ z.toInt = 1 ∨ z.toInt = 2 ∨ z.toInt = 3 ∨ z.toInt = 4 ∨ z.toInt = 5 ∨ z.toInt = 6 ∨ z.toInt = 7 ∨ z.toInt = 8 ∨ z.toInt = 9 ∨ z.toInt = 10 ∨ z.toInt = 11 ∨ z.toInt = 12 := by omega
  rcases q with q | q | q | q | q | q | q | q | q | q | q | q | q
  · exact Or.inl (OwnNum.eqI (q.trans (by decide)))
  · exact Or.inr (Or.inl (OwnNum.eqI (q.trans (by decide))))
  · exact Or.inr (Or.inr (Or.inl (OwnNum.eqI (q.trans (by decide)))))
  · exact Or.inr (Or.inr (Or.inr (Or.inl (OwnNum.eqI (q.trans (by decide))))))
  · exact Or.inr (Or.inr (Or.inr (Or.inr (Or.inl (OwnNum.eqI (q.trans (by decide)))))))
  · exact Or.inr (Or.inr (Or.inr (Or.inr (Or.inr (Or.inl (OwnNum.eqI (q.trans (by decide))))))))
  · exact Or.inr (Or.inr (Or.inr (Or.inr (Or.inr (Or.inr (Or.inl (OwnNum.eqI (q.trans (by decide)))))))))
  · exact Or.inr (Or.inr (Or.inr (Or.inr (Or.inr (Or.inr (Or.inr (Or.inl (OwnNum.eqI (q.trans (by decide))))))))))
  · exact Or.inr (Or.inr (Or.inr (Or.inr (Or.inr (Or.inr (Or.inr (Or.inr (Or.inl (OwnNum.eqI (q.trans (by decide)))))))))))
  · exact Or.inr (Or.inr (Or.inr (Or.inr (Or.inr (Or.inr (Or.inr (Or.inr (Or.inr (Or.inl (OwnNum.eqI (q.trans (by decide))))))))))))
  · exact Or.inr (Or.inr (Or.inr (Or.inr (Or.inr (Or.inr (Or.inr (Or.inr (Or.inr (Or.inr (Or.inl (OwnNum.eqI (q.trans (by decide)))))))))))))
  · exact Or.inr (Or.inr (Or.inr (Or.inr (Or.inr (Or.inr (Or.inr (Or.inr (Or.inr (Or.inr (Or.inr (Or.inl (OwnNum.eqI (q.trans (by decide))))))))))))))
  · exact Or.inr (Or.inr (Or.inr (Or.inr (Or.inr (Or.inr (Or.inr (Or.inr (Or.inr (Or.inr (Or.inr (Or.inr ((OwnNum.eqI (q.trans (by decide)))))))))))))))
theorem d1_0 : decode method_3_code 0 = .ok (.iload_n 0, 1) := by decide +kernel
theorem d1_1 : decode method_3_code 1 = .ok (.ifCond .ne 7, 3) := by decide +kernel
theorem d1_4 : decode method_3_code 4 = .ok (.getstatic 24, 3) := by decide +kernel
theorem d1_7 : decode method_3_code 7 = .ok (.areturn, 1) := by decide +kernel
theorem pn_0 : plainName "com/example/rens/rens/filter/XPathAxisIsDisjointPinLaw" = true := by first | (simp [plainName, overriddenIn]; done) | decide +kernel
set_option maxRecDepth 65536 in
set_option maxHeartbeats 4000000 in
theorem c_pick0 (l : Launch) (Z : State) (a0 : Array Value) (hw : ∀ d ∈ tables_1, d.before a0 Z = true) {n0 : Nat} (h : Heap) (w0 : Addr) (s0 : Sta Z Z.heap "com/example/rens/rens/filter/XPathAxis" "ANCESTOR" "Lcom/example/rens/rens/filter/XPathAxis;" (.ref w0)) :
    Con l (⟨"com/example/rens/rens/filter/XPathAxisIsDisjointPinLaw", "pick", "(I)Lcom/example/rens/rens/filter/XPathAxis;"⟩ : MethodName) method_3_code 1 (some (.object "com/example/rens/rens/filter/XPathAxis")) ({ frames := 0, cells := 0, slots := 0, locals := 0 } : Room) Z n0 #[(.int (0 : Int32))] h (fun v h' => v = some (.ref w0) ∧ h = h') := by
  refine Con.of_go (plainFor_of_name pn_0) (Ls := #[.val (.int (0 : Int32))]) (fun m => by first | (simp [entryFrame, mkF, argsToLocals, Value.category]; done) | rfl) ?_
  refine Go.iloadN (pc' := 1) d1_0 rfl rfl ?_
  refine Go.ifNo (pc' := 4) d1_1 (XT.i0_ne_f (by decide)) rfl ?_
  refine Go.old (fun old1 => ?_)
  refine Go.getstatic (pc' := 7) (host := "") (Or.inl (hw _ (List.mem_of_getElem? (i := 5) rfl))) Via.refl (s0.ext old1.2) d1_4 rfl ?_
  exact Go.retR rfl rfl rfl rfl d1_7 ⟨rfl, rfl⟩ (by decide) (by decide)
theorem d2_0 : decode method_4_code 0 = .ok (.iload_n 0, 1) := by decide +kernel
theorem d2_1 : decode method_4_code 1 = .ok (.iconst 2, 1) := by decide +kernel
theorem d2_2 : decode method_4_code 2 = .ok (.if_icmp .ne 5, 3) := by decide +kernel
theorem d2_7 : decode method_4_code 7 = .ok (.iload_n 0, 1) := by decide +kernel
theorem d2_8 : decode method_4_code 8 = .ok (.iconst 3, 1) := by decide +kernel
theorem d2_9 : decode method_4_code 9 = .ok (.if_icmp .ne 5, 3) := by decide +kernel
theorem d2_14 : decode method_4_code 14 = .ok (.iload_n 0, 1) := by decide +kernel
theorem d2_15 : decode method_4_code 15 = .ok (.bipush 8, 2) := by decide +kernel
theorem d2_17 : decode method_4_code 17 = .ok (.if_icmp .ne 5, 3) := by decide +kernel
theorem d2_22 : decode method_4_code 22 = .ok (.iload_n 0, 1) := by decide +kernel
theorem d2_23 : decode method_4_code 23 = .ok (.bipush 12, 2) := by decide +kernel
theorem d2_25 : decode method_4_code 25 = .ok (.if_icmp .ne 5, 3) := by decide +kernel
theorem d2_30 : decode method_4_code 30 = .ok (.iconst 0, 1) := by decide +kernel
theorem d2_31 : decode method_4_code 31 = .ok (.ireturn, 1) := by decide +kernel
set_option maxRecDepth 65536 in
set_option maxHeartbeats 4000000 in
theorem c_one0 (l : Launch) (Z : State) (a0 : Array Value) (hw : ∀ d ∈ tables_1, d.before a0 Z = true) {n0 : Nat} (h : Heap) :
    Con l (⟨"com/example/rens/rens/filter/XPathAxisIsDisjointPinLaw", "oneToOne", "(I)Z"⟩ : MethodName) method_4_code 1 (some .boolean) ({ frames := 0, cells := 0, slots := 0, locals := 0 } : Room) Z n0 #[(.int (0 : Int32))] h (fun v h' => v = some (.int (0 : Int32)) ∧ h = h') := by
  refine Con.of_go (plainFor_of_name pn_0) (Ls := #[.val (.int (0 : Int32))]) (fun m => by first | (simp [entryFrame, mkF, argsToLocals, Value.category]; done) | rfl) ?_
  refine Go.iloadN (pc' := 1) d2_0 rfl rfl ?_
  refine Go.iconst (pc' := 2) (v := (2 : Int32)) d2_1 rfl rfl ?_
  refine Go.icmpYes (pc' := 7) d2_2 (XT.ii_ne_t (by decide)) (by decide) (by decide) ?_
  refine Go.iloadN (pc' := 8) d2_7 rfl rfl ?_
  refine Go.iconst (pc' := 9) (v := (3 : Int32)) d2_8 rfl rfl ?_
  refine Go.icmpYes (pc' := 14) d2_9 (XT.ii_ne_t (by decide)) (by decide) (by decide) ?_
  refine Go.iloadN (pc' := 15) d2_14 rfl rfl ?_
  refine Go.bipush (pc' := 17) (v := (8 : Int32)) d2_15 rfl rfl ?_
  refine Go.icmpYes (pc' := 22) d2_17 (XT.ii_ne_t (by decide)) (by decide) (by decide) ?_
  refine Go.iloadN (pc' := 23) d2_22 rfl rfl ?_
  refine Go.bipush (pc' := 25) (v := (12 : Int32)) d2_23 rfl rfl ?_
  refine Go.icmpYes (pc' := 30) d2_25 (XT.ii_ne_t (by decide)) (by decide) (by decide) ?_
  refine Go.iconst (pc' := 31) (v := (0 : Int32)) d2_30 rfl rfl ?_
  exact Go.retN (t := .boolean) rfl (by simp) d2_31 ⟨rfl, rfl⟩ (by decide) (by decide)
theorem d3_0 : decode prog_50_method_6_code 0 = .ok (.aload_n 0, 1) := by decide +kernel
theorem d3_1 : decode prog_50_method_6_code 1 = .ok (.getstatic 13, 3) := by decide +kernel
theorem d3_4 : decode prog_50_method_6_code 4 = .ok (.if_acmp .eq 24, 3) := by decide +kernel
theorem d3_7 : decode prog_50_method_6_code 7 = .ok (.aload_n 0, 1) := by decide +kernel
theorem d3_8 : decode prog_50_method_6_code 8 = .ok (.getstatic 10, 3) := by decide +kernel
theorem d3_11 : decode prog_50_method_6_code 11 = .ok (.if_acmp .eq 17, 3) := by decide +kernel
theorem d3_14 : decode prog_50_method_6_code 14 = .ok (.aload_n 0, 1) := by decide +kernel
theorem d3_15 : decode prog_50_method_6_code 15 = .ok (.getstatic 28, 3) := by decide +kernel
theorem d3_18 : decode prog_50_method_6_code 18 = .ok (.if_acmp .eq 10, 3) := by decide +kernel
theorem d3_21 : decode prog_50_method_6_code 21 = .ok (.aload_n 0, 1) := by decide +kernel
theorem d3_22 : decode prog_50_method_6_code 22 = .ok (.getstatic 40, 3) := by decide +kernel
theorem d3_25 : decode prog_50_method_6_code 25 = .ok (.if_acmp .ne 7, 3) := by decide +kernel
theorem d3_32 : decode prog_50_method_6_code 32 = .ok (.iconst 0, 1) := by decide +kernel
theorem d3_33 : decode prog_50_method_6_code 33 = .ok (.ireturn, 1) := by decide +kernel
theorem pn_1 : plainName "com/example/rens/rens/filter/XPathAxis" = true := by first | (simp [plainName, overriddenIn]; done) | decide +kernel
set_option maxRecDepth 65536 in
set_option maxHeartbeats 4000000 in
theorem c_dis0 (l : Launch) (Z : State) (a0 : Array Value) (hw : ∀ d ∈ tables_1, d.before a0 Z = true) {n0 : Nat} (h : Heap) (w0 : Addr) (w3 : Addr) (w2 : Addr) (w8 : Addr) (w12 : Addr) (s_CHILD : Sta Z Z.heap "com/example/rens/rens/filter/XPathAxis" "CHILD" "Lcom/example/rens/rens/filter/XPathAxis;" (.ref w3)) (s_ATTRIBUTE : Sta Z Z.heap "com/example/rens/rens/filter/XPathAxis" "ATTRIBUTE" "Lcom/example/rens/rens/filter/XPathAxis;" (.ref w2)) (s_NAMESPACE : Sta Z Z.heap "com/example/rens/rens/filter/XPathAxis" "NAMESPACE" "Lcom/example/rens/rens/filter/XPathAxis;" (.ref w8)) (s_SELF : Sta Z Z.heap "com/example/rens/rens/filter/XPathAxis" "SELF" "Lcom/example/rens/rens/filter/XPathAxis;" (.ref w12)) (x_ANCESTOR : Exa Z Z.heap w0 "com/example/rens/rens/filter/XPathAxis$1") (x_CHILD : Exa Z Z.heap w3 "com/example/rens/rens/filter/XPathAxis$4") (x_ATTRIBUTE : Exa Z Z.heap w2 "com/example/rens/rens/filter/XPathAxis$3") (x_NAMESPACE : Exa Z Z.heap w8 "com/example/rens/rens/filter/XPathAxis$9") (x_SELF : Exa Z Z.heap w12 "com/example/rens/rens/filter/XPathAxis$13") :
    Con l (⟨"com/example/rens/rens/filter/XPathAxis", "isDisjoint", "()Z"⟩ : MethodName) prog_50_method_6_code 1 (some .boolean) ({ frames := 0, cells := 0, slots := 0, locals := 0 } : Room) Z n0 #[(.ref w0)] h (fun v h' => v = some (.int (0 : Int32)) ∧ h = h') := by
  refine Con.of_go (plainFor_of_name pn_1) (Ls := #[.val (.ref w0)]) (fun m => by first | (simp [entryFrame, mkF, argsToLocals, Value.category]; done) | rfl) ?_
  refine Go.aloadN (pc' := 1) d3_0 rfl rfl rfl ?_
  refine Go.old (fun old1 => ?_)
  refine Go.getstatic (pc' := 4) (host := "") (Or.inl (hw _ (List.mem_of_getElem? (i := 16) rfl))) Via.refl (s_CHILD.ext old1.2) d3_1 rfl ?_
  refine Go.acmpNo (pc' := 7) d3_4 rfl rfl (XT.aa_eq_f (fun q => (ne_exa x_ANCESTOR x_CHILD (by decide)) (Value.ref.inj q))) rfl ?_
  refine Go.aloadN (pc' := 8) d3_7 rfl rfl rfl ?_
  refine Go.getstatic (pc' := 11) (host := "") (Or.inl (hw _ (List.mem_of_getElem? (i := 18) rfl))) Via.refl (s_ATTRIBUTE.ext old1.2) d3_8 rfl ?_
  refine Go.acmpNo (pc' := 14) d3_11 rfl rfl (XT.aa_eq_f (fun q => (ne_exa x_ANCESTOR x_ATTRIBUTE (by decide)) (Value.ref.inj q))) rfl ?_
  refine Go.aloadN (pc' := 15) d3_14 rfl rfl rfl ?_
  refine Go.getstatic (pc' := 18) (host := "") (Or.inl (hw _ (List.mem_of_getElem? (i := 20) rfl))) Via.refl (s_NAMESPACE.ext old1.2) d3_15 rfl ?_
  refine Go.acmpNo (pc' := 21) d3_18 rfl rfl (XT.aa_eq_f (fun q => (ne_exa x_ANCESTOR x_NAMESPACE (by decide)) (Value.ref.inj q))) rfl ?_
  refine Go.aloadN (pc' := 22) d3_21 rfl rfl rfl ?_
  refine Go.getstatic (pc' := 25) (host := "") (Or.inl (hw _ (List.mem_of_getElem? (i := 22) rfl))) Via.refl (s_SELF.ext old1.2) d3_22 rfl ?_
  refine Go.acmpYes (pc' := 32) d3_25 rfl rfl (XT.aa_ne_t (fun q => (ne_exa x_ANCESTOR x_SELF (by decide)) (Value.ref.inj q))) (by decide) (by decide) ?_
  refine Go.iconst (pc' := 33) (v := (0 : Int32)) d3_32 rfl rfl ?_
  exact Go.retN (t := .boolean) rfl (by simp) d3_33 ⟨rfl, rfl⟩ (by decide) (by decide)
theorem d1_8 : decode method_3_code 8 = .ok (.iload_n 0, 1) := by decide +kernel
theorem d1_9 : decode method_3_code 9 = .ok (.iconst 1, 1) := by decide +kernel
theorem d1_10 : decode method_3_code 10 = .ok (.if_icmp .ne 7, 3) := by decide +kernel
theorem d1_13 : decode method_3_code 13 = .ok (.getstatic 28, 3) := by decide +kernel
theorem d1_16 : decode method_3_code 16 = .ok (.areturn, 1) := by decide +kernel
set_option maxRecDepth 65536 in
set_option maxHeartbeats 4000000 in
theorem c_pick1 (l : Launch) (Z : State) (a0 : Array Value) (hw : ∀ d ∈ tables_1, d.before a0 Z = true) {n0 : Nat} (h : Heap) (w1 : Addr) (s1 : Sta Z Z.heap "com/example/rens/rens/filter/XPathAxis" "ANCESTOR_OR_SELF" "Lcom/example/rens/rens/filter/XPathAxis;" (.ref w1)) :
    Con l (⟨"com/example/rens/rens/filter/XPathAxisIsDisjointPinLaw", "pick", "(I)Lcom/example/rens/rens/filter/XPathAxis;"⟩ : MethodName) method_3_code 1 (some (.object "com/example/rens/rens/filter/XPathAxis")) ({ frames := 0, cells := 0, slots := 0, locals := 0 } : Room) Z n0 #[(.int (1 : Int32))] h (fun v h' => v = some (.ref w1) ∧ h = h') := by
  refine Con.of_go (plainFor_of_name pn_0) (Ls := #[.val (.int (1 : Int32))]) (fun m => by first | (simp [entryFrame, mkF, argsToLocals, Value.category]; done) | rfl) ?_
  refine Go.iloadN (pc' := 1) d1_0 rfl rfl ?_
  refine Go.ifYes (pc' := 8) d1_1 (XT.i0_ne_t (by decide)) (by decide) (by decide) ?_
  refine Go.iloadN (pc' := 9) d1_8 rfl rfl ?_
  refine Go.iconst (pc' := 10) (v := (1 : Int32)) d1_9 rfl rfl ?_
  refine Go.icmpNo (pc' := 13) d1_10 (XT.ii_ne_f (by decide)) rfl ?_
  refine Go.old (fun old1 => ?_)
  refine Go.getstatic (pc' := 16) (host := "") (Or.inl (hw _ (List.mem_of_getElem? (i := 43) rfl))) Via.refl (s1.ext old1.2) d1_13 rfl ?_
  exact Go.retR rfl rfl rfl rfl d1_16 ⟨rfl, rfl⟩ (by decide) (by decide)
set_option maxRecDepth 65536 in
set_option maxHeartbeats 4000000 in
theorem c_one1 (l : Launch) (Z : State) (a0 : Array Value) (hw : ∀ d ∈ tables_1, d.before a0 Z = true) {n0 : Nat} (h : Heap) :
    Con l (⟨"com/example/rens/rens/filter/XPathAxisIsDisjointPinLaw", "oneToOne", "(I)Z"⟩ : MethodName) method_4_code 1 (some .boolean) ({ frames := 0, cells := 0, slots := 0, locals := 0 } : Room) Z n0 #[(.int (1 : Int32))] h (fun v h' => v = some (.int (0 : Int32)) ∧ h = h') := by
  refine Con.of_go (plainFor_of_name pn_0) (Ls := #[.val (.int (1 : Int32))]) (fun m => by first | (simp [entryFrame, mkF, argsToLocals, Value.category]; done) | rfl) ?_
  refine Go.iloadN (pc' := 1) d2_0 rfl rfl ?_
  refine Go.iconst (pc' := 2) (v := (2 : Int32)) d2_1 rfl rfl ?_
  refine Go.icmpYes (pc' := 7) d2_2 (XT.ii_ne_t (by decide)) (by decide) (by decide) ?_
  refine Go.iloadN (pc' := 8) d2_7 rfl rfl ?_
  refine Go.iconst (pc' := 9) (v := (3 : Int32)) d2_8 rfl rfl ?_
  refine Go.icmpYes (pc' := 14) d2_9 (XT.ii_ne_t (by decide)) (by decide) (by decide) ?_
  refine Go.iloadN (pc' := 15) d2_14 rfl rfl ?_
  refine Go.bipush (pc' := 17) (v := (8 : Int32)) d2_15 rfl rfl ?_
  refine Go.icmpYes (pc' := 22) d2_17 (XT.ii_ne_t (by decide)) (by decide) (by decide) ?_
  refine Go.iloadN (pc' := 23) d2_22 rfl rfl ?_
  refine Go.bipush (pc' := 25) (v := (12 : Int32)) d2_23 rfl rfl ?_
  refine Go.icmpYes (pc' := 30) d2_25 (XT.ii_ne_t (by decide)) (by decide) (by decide) ?_
  refine Go.iconst (pc' := 31) (v := (0 : Int32)) d2_30 rfl rfl ?_
  exact Go.retN (t := .boolean) rfl (by simp) d2_31 ⟨rfl, rfl⟩ (by decide) (by decide)
set_option maxRecDepth 65536 in
set_option maxHeartbeats 4000000 in
theorem c_dis1 (l : Launch) (Z : State) (a0 : Array Value) (hw : ∀ d ∈ tables_1, d.before a0 Z = true) {n0 : Nat} (h : Heap) (w1 : Addr) (w3 : Addr) (w2 : Addr) (w8 : Addr) (w12 : Addr) (s_CHILD : Sta Z Z.heap "com/example/rens/rens/filter/XPathAxis" "CHILD" "Lcom/example/rens/rens/filter/XPathAxis;" (.ref w3)) (s_ATTRIBUTE : Sta Z Z.heap "com/example/rens/rens/filter/XPathAxis" "ATTRIBUTE" "Lcom/example/rens/rens/filter/XPathAxis;" (.ref w2)) (s_NAMESPACE : Sta Z Z.heap "com/example/rens/rens/filter/XPathAxis" "NAMESPACE" "Lcom/example/rens/rens/filter/XPathAxis;" (.ref w8)) (s_SELF : Sta Z Z.heap "com/example/rens/rens/filter/XPathAxis" "SELF" "Lcom/example/rens/rens/filter/XPathAxis;" (.ref w12)) (x_ANCESTOR_OR_SELF : Exa Z Z.heap w1 "com/example/rens/rens/filter/XPathAxis$2") (x_CHILD : Exa Z Z.heap w3 "com/example/rens/rens/filter/XPathAxis$4") (x_ATTRIBUTE : Exa Z Z.heap w2 "com/example/rens/rens/filter/XPathAxis$3") (x_NAMESPACE : Exa Z Z.heap w8 "com/example/rens/rens/filter/XPathAxis$9") (x_SELF : Exa Z Z.heap w12 "com/example/rens/rens/filter/XPathAxis$13") :
    Con l (⟨"com/example/rens/rens/filter/XPathAxis", "isDisjoint", "()Z"⟩ : MethodName) prog_50_method_6_code 1 (some .boolean) ({ frames := 0, cells := 0, slots := 0, locals := 0 } : Room) Z n0 #[(.ref w1)] h (fun v h' => v = some (.int (0 : Int32)) ∧ h = h') := by
  refine Con.of_go (plainFor_of_name pn_1) (Ls := #[.val (.ref w1)]) (fun m => by first | (simp [entryFrame, mkF, argsToLocals, Value.category]; done) | rfl) ?_
  refine Go.aloadN (pc' := 1) d3_0 rfl rfl rfl ?_
  refine Go.old (fun old1 => ?_)
  refine Go.getstatic (pc' := 4) (host := "") (Or.inl (hw _ (List.mem_of_getElem? (i := 16) rfl))) Via.refl (s_CHILD.ext old1.2) d3_1 rfl ?_
  refine Go.acmpNo (pc' := 7) d3_4 rfl rfl (XT.aa_eq_f (fun q => (ne_exa x_ANCESTOR_OR_SELF x_CHILD (by decide)) (Value.ref.inj q))) rfl ?_
  refine Go.aloadN (pc' := 8) d3_7 rfl rfl rfl ?_
  refine Go.getstatic (pc' := 11) (host := "") (Or.inl (hw _ (List.mem_of_getElem? (i := 18) rfl))) Via.refl (s_ATTRIBUTE.ext old1.2) d3_8 rfl ?_
  refine Go.acmpNo (pc' := 14) d3_11 rfl rfl (XT.aa_eq_f (fun q => (ne_exa x_ANCESTOR_OR_SELF x_ATTRIBUTE (by decide)) (Value.ref.inj q))) rfl ?_
  refine Go.aloadN (pc' := 15) d3_14 rfl rfl rfl ?_
  refine Go.getstatic (pc' := 18) (host := "") (Or.inl (hw _ (List.mem_of_getElem? (i := 20) rfl))) Via.refl (s_NAMESPACE.ext old1.2) d3_15 rfl ?_
  refine Go.acmpNo (pc' := 21) d3_18 rfl rfl (XT.aa_eq_f (fun q => (ne_exa x_ANCESTOR_OR_SELF x_NAMESPACE (by decide)) (Value.ref.inj q))) rfl ?_
  refine Go.aloadN (pc' := 22) d3_21 rfl rfl rfl ?_
  refine Go.getstatic (pc' := 25) (host := "") (Or.inl (hw _ (List.mem_of_getElem? (i := 22) rfl))) Via.refl (s_SELF.ext old1.2) d3_22 rfl ?_
  refine Go.acmpYes (pc' := 32) d3_25 rfl rfl (XT.aa_ne_t (fun q => (ne_exa x_ANCESTOR_OR_SELF x_SELF (by decide)) (Value.ref.inj q))) (by decide) (by decide) ?_
  refine Go.iconst (pc' := 33) (v := (0 : Int32)) d3_32 rfl rfl ?_
  exact Go.retN (t := .boolean) rfl (by simp) d3_33 ⟨rfl, rfl⟩ (by decide) (by decide)
theorem d1_17 : decode method_3_code 17 = .ok (.iload_n 0, 1) := by decide +kernel
theorem d1_18 : decode method_3_code 18 = .ok (.iconst 2, 1) := by decide +kernel
theorem d1_19 : decode method_3_code 19 = .ok (.if_icmp .ne 7, 3) := by decide +kernel
theorem d1_22 : decode method_3_code 22 = .ok (.getstatic 31, 3) := by decide +kernel
theorem d1_25 : decode method_3_code 25 = .ok (.areturn, 1) := by decide +kernel
set_option maxRecDepth 65536 in
set_option maxHeartbeats 4000000 in
theorem c_pick2 (l : Launch) (Z : State) (a0 : Array Value) (hw : ∀ d ∈ tables_1, d.before a0 Z = true) {n0 : Nat} (h : Heap) (w2 : Addr) (s2 : Sta Z Z.heap "com/example/rens/rens/filter/XPathAxis" "ATTRIBUTE" "Lcom/example/rens/rens/filter/XPathAxis;" (.ref w2)) :
    Con l (⟨"com/example/rens/rens/filter/XPathAxisIsDisjointPinLaw", "pick", "(I)Lcom/example/rens/rens/filter/XPathAxis;"⟩ : MethodName) method_3_code 1 (some (.object "com/example/rens/rens/filter/XPathAxis")) ({ frames := 0, cells := 0, slots := 0, locals := 0 } : Room) Z n0 #[(.int (2 : Int32))] h (fun v h' => v = some (.ref w2) ∧ h = h') := by
  refine Con.of_go (plainFor_of_name pn_0) (Ls := #[.val (.int (2 : Int32))]) (fun m => by first | (simp [entryFrame, mkF, argsToLocals, Value.category]; done) | rfl) ?_
  refine Go.iloadN (pc' := 1) d1_0 rfl rfl ?_
  refine Go.ifYes (pc' := 8) d1_1 (XT.i0_ne_t (by decide)) (by decide) (by decide) ?_
  refine Go.iloadN (pc' := 9) d1_8 rfl rfl ?_
  refine Go.iconst (pc' := 10) (v := (1 : Int32)) d1_9 rfl rfl ?_
  refine Go.icmpYes (pc' := 17) d1_10 (XT.ii_ne_t (by decide)) (by decide) (by decide) ?_
  refine Go.iloadN (pc' := 18) d1_17 rfl rfl ?_
  refine Go.iconst (pc' := 19) (v := (2 : Int32)) d1_18 rfl rfl ?_
  refine Go.icmpNo (pc' := 22) d1_19 (XT.ii_ne_f (by decide)) rfl ?_
  refine Go.old (fun old1 => ?_)
  refine Go.getstatic (pc' := 25) (host := "") (Or.inl (hw _ (List.mem_of_getElem? (i := 38) rfl))) Via.refl (s2.ext old1.2) d1_22 rfl ?_
  exact Go.retR rfl rfl rfl rfl d1_25 ⟨rfl, rfl⟩ (by decide) (by decide)
theorem d2_5 : decode method_4_code 5 = .ok (.iconst 1, 1) := by decide +kernel
theorem d2_6 : decode method_4_code 6 = .ok (.ireturn, 1) := by decide +kernel
set_option maxRecDepth 65536 in
set_option maxHeartbeats 4000000 in
theorem c_one2 (l : Launch) (Z : State) (a0 : Array Value) (hw : ∀ d ∈ tables_1, d.before a0 Z = true) {n0 : Nat} (h : Heap) :
    Con l (⟨"com/example/rens/rens/filter/XPathAxisIsDisjointPinLaw", "oneToOne", "(I)Z"⟩ : MethodName) method_4_code 1 (some .boolean) ({ frames := 0, cells := 0, slots := 0, locals := 0 } : Room) Z n0 #[(.int (2 : Int32))] h (fun v h' => v = some (.int (1 : Int32)) ∧ h = h') := by
  refine Con.of_go (plainFor_of_name pn_0) (Ls := #[.val (.int (2 : Int32))]) (fun m => by first | (simp [entryFrame, mkF, argsToLocals, Value.category]; done) | rfl) ?_
  refine Go.iloadN (pc' := 1) d2_0 rfl rfl ?_
  refine Go.iconst (pc' := 2) (v := (2 : Int32)) d2_1 rfl rfl ?_
  refine Go.icmpNo (pc' := 5) d2_2 (XT.ii_ne_f (by decide)) rfl ?_
  refine Go.iconst (pc' := 6) (v := (1 : Int32)) d2_5 rfl rfl ?_
  exact Go.retN (t := .boolean) rfl (by simp) d2_6 ⟨rfl, rfl⟩ (by decide) (by decide)
theorem d3_28 : decode prog_50_method_6_code 28 = .ok (.iconst 1, 1) := by decide +kernel
theorem d3_29 : decode prog_50_method_6_code 29 = .ok (.goto 4, 3) := by decide +kernel
set_option maxRecDepth 65536 in
set_option maxHeartbeats 4000000 in
theorem c_dis2 (l : Launch) (Z : State) (a0 : Array Value) (hw : ∀ d ∈ tables_1, d.before a0 Z = true) {n0 : Nat} (h : Heap) (w2 : Addr) (w3 : Addr) (w8 : Addr) (w12 : Addr) (s_ATTRIBUTE : Sta Z Z.heap "com/example/rens/rens/filter/XPathAxis" "ATTRIBUTE" "Lcom/example/rens/rens/filter/XPathAxis;" (.ref w2)) (s_CHILD : Sta Z Z.heap "com/example/rens/rens/filter/XPathAxis" "CHILD" "Lcom/example/rens/rens/filter/XPathAxis;" (.ref w3)) (s_NAMESPACE : Sta Z Z.heap "com/example/rens/rens/filter/XPathAxis" "NAMESPACE" "Lcom/example/rens/rens/filter/XPathAxis;" (.ref w8)) (s_SELF : Sta Z Z.heap "com/example/rens/rens/filter/XPathAxis" "SELF" "Lcom/example/rens/rens/filter/XPathAxis;" (.ref w12)) (x_ATTRIBUTE : Exa Z Z.heap w2 "com/example/rens/rens/filter/XPathAxis$3") (x_CHILD : Exa Z Z.heap w3 "com/example/rens/rens/filter/XPathAxis$4") (x_NAMESPACE : Exa Z Z.heap w8 "com/example/rens/rens/filter/XPathAxis$9") (x_SELF : Exa Z Z.heap w12 "com/example/rens/rens/filter/XPathAxis$13") :
    Con l (⟨"com/example/rens/rens/filter/XPathAxis", "isDisjoint", "()Z"⟩ : MethodName) prog_50_method_6_code 1 (some .boolean) ({ frames := 0, cells := 0, slots := 0, locals := 0 } : Room) Z n0 #[(.ref w2)] h (fun v h' => v = some (.int (1 : Int32)) ∧ h = h') := by
  refine Con.of_go (plainFor_of_name pn_1) (Ls := #[.val (.ref w2)]) (fun m => by first | (simp [entryFrame, mkF, argsToLocals, Value.category]; done) | rfl) ?_
  refine Go.aloadN (pc' := 1) d3_0 rfl rfl rfl ?_
  refine Go.old (fun old1 => ?_)
  refine Go.getstatic (pc' := 4) (host := "") (Or.inl (hw _ (List.mem_of_getElem? (i := 16) rfl))) Via.refl (s_CHILD.ext old1.2) d3_1 rfl ?_
  refine Go.acmpNo (pc' := 7) d3_4 rfl rfl (XT.aa_eq_f (fun q => (ne_exa x_ATTRIBUTE x_CHILD (by decide)) (Value.ref.inj q))) rfl ?_
  refine Go.aloadN (pc' := 8) d3_7 rfl rfl rfl ?_
  refine Go.getstatic (pc' := 11) (host := "") (Or.inl (hw _ (List.mem_of_getElem? (i := 18) rfl))) Via.refl (s_ATTRIBUTE.ext old1.2) d3_8 rfl ?_
  refine Go.acmpYes (pc' := 28) d3_11 rfl rfl (XT.aa_eq_t rfl) (by decide) (by decide) ?_
  refine Go.iconst (pc' := 29) (v := (1 : Int32)) d3_28 rfl rfl ?_
  refine Go.goto (pc' := 33) d3_29 (by decide) (by decide) ?_
  exact Go.retN (t := .boolean) rfl (by simp) d3_33 ⟨rfl, rfl⟩ (by decide) (by decide)
theorem d1_26 : decode method_3_code 26 = .ok (.iload_n 0, 1) := by decide +kernel
theorem d1_27 : decode method_3_code 27 = .ok (.iconst 3, 1) := by decide +kernel
theorem d1_28 : decode method_3_code 28 = .ok (.if_icmp .ne 7, 3) := by decide +kernel
theorem d1_31 : decode method_3_code 31 = .ok (.getstatic 34, 3) := by decide +kernel
theorem d1_34 : decode method_3_code 34 = .ok (.areturn, 1) := by decide +kernel
set_option maxRecDepth 65536 in
set_option maxHeartbeats 4000000 in
theorem c_pick3 (l : Launch) (Z : State) (a0 : Array Value) (hw : ∀ d ∈ tables_1, d.before a0 Z = true) {n0 : Nat} (h : Heap) (w3 : Addr) (s3 : Sta Z Z.heap "com/example/rens/rens/filter/XPathAxis" "CHILD" "Lcom/example/rens/rens/filter/XPathAxis;" (.ref w3)) :
    Con l (⟨"com/example/rens/rens/filter/XPathAxisIsDisjointPinLaw", "pick", "(I)Lcom/example/rens/rens/filter/XPathAxis;"⟩ : MethodName) method_3_code 1 (some (.object "com/example/rens/rens/filter/XPathAxis")) ({ frames := 0, cells := 0, slots := 0, locals := 0 } : Room) Z n0 #[(.int (3 : Int32))] h (fun v h' => v = some (.ref w3) ∧ h = h') := by
  refine Con.of_go (plainFor_of_name pn_0) (Ls := #[.val (.int (3 : Int32))]) (fun m => by first | (simp [entryFrame, mkF, argsToLocals, Value.category]; done) | rfl) ?_
  refine Go.iloadN (pc' := 1) d1_0 rfl rfl ?_
  refine Go.ifYes (pc' := 8) d1_1 (XT.i0_ne_t (by decide)) (by decide) (by decide) ?_
  refine Go.iloadN (pc' := 9) d1_8 rfl rfl ?_
  refine Go.iconst (pc' := 10) (v := (1 : Int32)) d1_9 rfl rfl ?_
  refine Go.icmpYes (pc' := 17) d1_10 (XT.ii_ne_t (by decide)) (by decide) (by decide) ?_
  refine Go.iloadN (pc' := 18) d1_17 rfl rfl ?_
  refine Go.iconst (pc' := 19) (v := (2 : Int32)) d1_18 rfl rfl ?_
  refine Go.icmpYes (pc' := 26) d1_19 (XT.ii_ne_t (by decide)) (by decide) (by decide) ?_
  refine Go.iloadN (pc' := 27) d1_26 rfl rfl ?_
  refine Go.iconst (pc' := 28) (v := (3 : Int32)) d1_27 rfl rfl ?_
  refine Go.icmpNo (pc' := 31) d1_28 (XT.ii_ne_f (by decide)) rfl ?_
  refine Go.old (fun old1 => ?_)
  refine Go.getstatic (pc' := 34) (host := "") (Or.inl (hw _ (List.mem_of_getElem? (i := 24) rfl))) Via.refl (s3.ext old1.2) d1_31 rfl ?_
  exact Go.retR rfl rfl rfl rfl d1_34 ⟨rfl, rfl⟩ (by decide) (by decide)
theorem d2_12 : decode method_4_code 12 = .ok (.iconst 1, 1) := by decide +kernel
theorem d2_13 : decode method_4_code 13 = .ok (.ireturn, 1) := by decide +kernel
set_option maxRecDepth 65536 in
set_option maxHeartbeats 4000000 in
theorem c_one3 (l : Launch) (Z : State) (a0 : Array Value) (hw : ∀ d ∈ tables_1, d.before a0 Z = true) {n0 : Nat} (h : Heap) :
    Con l (⟨"com/example/rens/rens/filter/XPathAxisIsDisjointPinLaw", "oneToOne", "(I)Z"⟩ : MethodName) method_4_code 1 (some .boolean) ({ frames := 0, cells := 0, slots := 0, locals := 0 } : Room) Z n0 #[(.int (3 : Int32))] h (fun v h' => v = some (.int (1 : Int32)) ∧ h = h') := by
  refine Con.of_go (plainFor_of_name pn_0) (Ls := #[.val (.int (3 : Int32))]) (fun m => by first | (simp [entryFrame, mkF, argsToLocals, Value.category]; done) | rfl) ?_
  refine Go.iloadN (pc' := 1) d2_0 rfl rfl ?_
  refine Go.iconst (pc' := 2) (v := (2 : Int32)) d2_1 rfl rfl ?_
  refine Go.icmpYes (pc' := 7) d2_2 (XT.ii_ne_t (by decide)) (by decide) (by decide) ?_
  refine Go.iloadN (pc' := 8) d2_7 rfl rfl ?_
  refine Go.iconst (pc' := 9) (v := (3 : Int32)) d2_8 rfl rfl ?_
  refine Go.icmpNo (pc' := 12) d2_9 (XT.ii_ne_f (by decide)) rfl ?_
  refine Go.iconst (pc' := 13) (v := (1 : Int32)) d2_12 rfl rfl ?_
  exact Go.retN (t := .boolean) rfl (by simp) d2_13 ⟨rfl, rfl⟩ (by decide) (by decide)
set_option maxRecDepth 65536 in
set_option maxHeartbeats 4000000 in
theorem c_dis3 (l : Launch) (Z : State) (a0 : Array Value) (hw : ∀ d ∈ tables_1, d.before a0 Z = true) {n0 : Nat} (h : Heap) (w3 : Addr) (w2 : Addr) (w8 : Addr) (w12 : Addr) (s_CHILD : Sta Z Z.heap "com/example/rens/rens/filter/XPathAxis" "CHILD" "Lcom/example/rens/rens/filter/XPathAxis;" (.ref w3)) (s_ATTRIBUTE : Sta Z Z.heap "com/example/rens/rens/filter/XPathAxis" "ATTRIBUTE" "Lcom/example/rens/rens/filter/XPathAxis;" (.ref w2)) (s_NAMESPACE : Sta Z Z.heap "com/example/rens/rens/filter/XPathAxis" "NAMESPACE" "Lcom/example/rens/rens/filter/XPathAxis;" (.ref w8)) (s_SELF : Sta Z Z.heap "com/example/rens/rens/filter/XPathAxis" "SELF" "Lcom/example/rens/rens/filter/XPathAxis;" (.ref w12)) (x_CHILD : Exa Z Z.heap w3 "com/example/rens/rens/filter/XPathAxis$4") (x_ATTRIBUTE : Exa Z Z.heap w2 "com/example/rens/rens/filter/XPathAxis$3") (x_NAMESPACE : Exa Z Z.heap w8 "com/example/rens/rens/filter/XPathAxis$9") (x_SELF : Exa Z Z.heap w12 "com/example/rens/rens/filter/XPathAxis$13") :
    Con l (⟨"com/example/rens/rens/filter/XPathAxis", "isDisjoint", "()Z"⟩ : MethodName) prog_50_method_6_code 1 (some .boolean) ({ frames := 0, cells := 0, slots := 0, locals := 0 } : Room) Z n0 #[(.ref w3)] h (fun v h' => v = some (.int (1 : Int32)) ∧ h = h') := by
  refine Con.of_go (plainFor_of_name pn_1) (Ls := #[.val (.ref w3)]) (fun m => by first | (simp [entryFrame, mkF, argsToLocals, Value.category]; done) | rfl) ?_
  refine Go.aloadN (pc' := 1) d3_0 rfl rfl rfl ?_
  refine Go.old (fun old1 => ?_)
  refine Go.getstatic (pc' := 4) (host := "") (Or.inl (hw _ (List.mem_of_getElem? (i := 16) rfl))) Via.refl (s_CHILD.ext old1.2) d3_1 rfl ?_
  refine Go.acmpYes (pc' := 28) d3_4 rfl rfl (XT.aa_eq_t rfl) (by decide) (by decide) ?_
  refine Go.iconst (pc' := 29) (v := (1 : Int32)) d3_28 rfl rfl ?_
  refine Go.goto (pc' := 33) d3_29 (by decide) (by decide) ?_
  exact Go.retN (t := .boolean) rfl (by simp) d3_33 ⟨rfl, rfl⟩ (by decide) (by decide)
theorem d1_35 : decode method_3_code 35 = .ok (.iload_n 0, 1) := by decide +kernel
theorem d1_36 : decode method_3_code 36 = .ok (.iconst 4, 1) := by decide +kernel
theorem d1_37 : decode method_3_code 37 = .ok (.if_icmp .ne 7, 3) := by decide +kernel
theorem d1_40 : decode method_3_code 40 = .ok (.getstatic 37, 3) := by decide +kernel
theorem d1_43 : decode method_3_code 43 = .ok (.areturn, 1) := by decide +kernel
set_option maxRecDepth 65536 in
set_option maxHeartbeats 4000000 in
theorem c_pick4 (l : Launch) (Z : State) (a0 : Array Value) (hw : ∀ d ∈ tables_1, d.before a0 Z = true) {n0 : Nat} (h : Heap) (w4 : Addr) (s4 : Sta Z Z.heap "com/example/rens/rens/filter/XPathAxis" "DESCENDANT" "Lcom/example/rens/rens/filter/XPathAxis;" (.ref w4)) :
    Con l (⟨"com/example/rens/rens/filter/XPathAxisIsDisjointPinLaw", "pick", "(I)Lcom/example/rens/rens/filter/XPathAxis;"⟩ : MethodName) method_3_code 1 (some (.object "com/example/rens/rens/filter/XPathAxis")) ({ frames := 0, cells := 0, slots := 0, locals := 0 } : Room) Z n0 #[(.int (4 : Int32))] h (fun v h' => v = some (.ref w4) ∧ h = h') := by
  refine Con.of_go (plainFor_of_name pn_0) (Ls := #[.val (.int (4 : Int32))]) (fun m => by first | (simp [entryFrame, mkF, argsToLocals, Value.category]; done) | rfl) ?_
  refine Go.iloadN (pc' := 1) d1_0 rfl rfl ?_
  refine Go.ifYes (pc' := 8) d1_1 (XT.i0_ne_t (by decide)) (by decide) (by decide) ?_
  refine Go.iloadN (pc' := 9) d1_8 rfl rfl ?_
  refine Go.iconst (pc' := 10) (v := (1 : Int32)) d1_9 rfl rfl ?_
  refine Go.icmpYes (pc' := 17) d1_10 (XT.ii_ne_t (by decide)) (by decide) (by decide) ?_
  refine Go.iloadN (pc' := 18) d1_17 rfl rfl ?_
  refine Go.iconst (pc' := 19) (v := (2 : Int32)) d1_18 rfl rfl ?_
  refine Go.icmpYes (pc' := 26) d1_19 (XT.ii_ne_t (by decide)) (by decide) (by decide) ?_
  refine Go.iloadN (pc' := 27) d1_26 rfl rfl ?_
  refine Go.iconst (pc' := 28) (v := (3 : Int32)) d1_27 rfl rfl ?_
  refine Go.icmpYes (pc' := 35) d1_28 (XT.ii_ne_t (by decide)) (by decide) (by decide) ?_
  refine Go.iloadN (pc' := 36) d1_35 rfl rfl ?_
  refine Go.iconst (pc' := 37) (v := (4 : Int32)) d1_36 rfl rfl ?_
  refine Go.icmpNo (pc' := 40) d1_37 (XT.ii_ne_f (by decide)) rfl ?_
  refine Go.old (fun old1 => ?_)
  refine Go.getstatic (pc' := 43) (host := "") (Or.inl (hw _ (List.mem_of_getElem? (i := 53) rfl))) Via.refl (s4.ext old1.2) d1_40 rfl ?_
  exact Go.retR rfl rfl rfl rfl d1_43 ⟨rfl, rfl⟩ (by decide) (by decide)
set_option maxRecDepth 65536 in
set_option maxHeartbeats 4000000 in
theorem c_one4 (l : Launch) (Z : State) (a0 : Array Value) (hw : ∀ d ∈ tables_1, d.before a0 Z = true) {n0 : Nat} (h : Heap) :
    Con l (⟨"com/example/rens/rens/filter/XPathAxisIsDisjointPinLaw", "oneToOne", "(I)Z"⟩ : MethodName) method_4_code 1 (some .boolean) ({ frames := 0, cells := 0, slots := 0, locals := 0 } : Room) Z n0 #[(.int (4 : Int32))] h (fun v h' => v = some (.int (0 : Int32)) ∧ h = h') := by
  refine Con.of_go (plainFor_of_name pn_0) (Ls := #[.val (.int (4 : Int32))]) (fun m => by first | (simp [entryFrame, mkF, argsToLocals, Value.category]; done) | rfl) ?_
  refine Go.iloadN (pc' := 1) d2_0 rfl rfl ?_
  refine Go.iconst (pc' := 2) (v := (2 : Int32)) d2_1 rfl rfl ?_
  refine Go.icmpYes (pc' := 7) d2_2 (XT.ii_ne_t (by decide)) (by decide) (by decide) ?_
  refine Go.iloadN (pc' := 8) d2_7 rfl rfl ?_
  refine Go.iconst (pc' := 9) (v := (3 : Int32)) d2_8 rfl rfl ?_
  refine Go.icmpYes (pc' := 14) d2_9 (XT.ii_ne_t (by decide)) (by decide) (by decide) ?_
  refine Go.iloadN (pc' := 15) d2_14 rfl rfl ?_
  refine Go.bipush (pc' := 17) (v := (8 : Int32)) d2_15 rfl rfl ?_
  refine Go.icmpYes (pc' := 22) d2_17 (XT.ii_ne_t (by decide)) (by decide) (by decide) ?_
  refine Go.iloadN (pc' := 23) d2_22 rfl rfl ?_
  refine Go.bipush (pc' := 25) (v := (12 : Int32)) d2_23 rfl rfl ?_
  refine Go.icmpYes (pc' := 30) d2_25 (XT.ii_ne_t (by decide)) (by decide) (by decide) ?_
  refine Go.iconst (pc' := 31) (v := (0 : Int32)) d2_30 rfl rfl ?_
  exact Go.retN (t := .boolean) rfl (by simp) d2_31 ⟨rfl, rfl⟩ (by decide) (by decide)
set_option maxRecDepth 65536 in
set_option maxHeartbeats 4000000 in
theorem c_dis4 (l : Launch) (Z : State) (a0 : Array Value) (hw : ∀ d ∈ tables_1, d.before a0 Z = true) {n0 : Nat} (h : Heap) (w4 : Addr) (w3 : Addr) (w2 : Addr) (w8 : Addr) (w12 : Addr) (s_CHILD : Sta Z Z.heap "com/example/rens/rens/filter/XPathAxis" "CHILD" "Lcom/example/rens/rens/filter/XPathAxis;" (.ref w3)) (s_ATTRIBUTE : Sta Z Z.heap "com/example/rens/rens/filter/XPathAxis" "ATTRIBUTE" "Lcom/example/rens/rens/filter/XPathAxis;" (.ref w2)) (s_NAMESPACE : Sta Z Z.heap "com/example/rens/rens/filter/XPathAxis" "NAMESPACE" "Lcom/example/rens/rens/filter/XPathAxis;" (.ref w8)) (s_SELF : Sta Z Z.heap "com/example/rens/rens/filter/XPathAxis" "SELF" "Lcom/example/rens/rens/filter/XPathAxis;" (.ref w12)) (x_DESCENDANT : Exa Z Z.heap w4 "com/example/rens/rens/filter/XPathAxis$5") (x_CHILD : Exa Z Z.heap w3 "com/example/rens/rens/filter/XPathAxis$4") (x_ATTRIBUTE : Exa Z Z.heap w2 "com/example/rens/rens/filter/XPathAxis$3") (x_NAMESPACE : Exa Z Z.heap w8 "com/example/rens/rens/filter/XPathAxis$9") (x_SELF : Exa Z Z.heap w12 "com/example/rens/rens/filter/XPathAxis$13") :
    Con l (⟨"com/example/rens/rens/filter/XPathAxis", "isDisjoint", "()Z"⟩ : MethodName) prog_50_method_6_code 1 (some .boolean) ({ frames := 0, cells := 0, slots := 0, locals := 0 } : Room) Z n0 #[(.ref w4)] h (fun v h' => v = some (.int (0 : Int32)) ∧ h = h') := by
  refine Con.of_go (plainFor_of_name pn_1) (Ls := #[.val (.ref w4)]) (fun m => by first | (simp [entryFrame, mkF, argsToLocals, Value.category]; done) | rfl) ?_
  refine Go.aloadN (pc' := 1) d3_0 rfl rfl rfl ?_
  refine Go.old (fun old1 => ?_)
  refine Go.getstatic (pc' := 4) (host := "") (Or.inl (hw _ (List.mem_of_getElem? (i := 16) rfl))) Via.refl (s_CHILD.ext old1.2) d3_1 rfl ?_
  refine Go.acmpNo (pc' := 7) d3_4 rfl rfl (XT.aa_eq_f (fun q => (ne_exa x_DESCENDANT x_CHILD (by decide)) (Value.ref.inj q))) rfl ?_
  refine Go.aloadN (pc' := 8) d3_7 rfl rfl rfl ?_
  refine Go.getstatic (pc' := 11) (host := "") (Or.inl (hw _ (List.mem_of_getElem? (i := 18) rfl))) Via.refl (s_ATTRIBUTE.ext old1.2) d3_8 rfl ?_
  refine Go.acmpNo (pc' := 14) d3_11 rfl rfl (XT.aa_eq_f (fun q => (ne_exa x_DESCENDANT x_ATTRIBUTE (by decide)) (Value.ref.inj q))) rfl ?_
  refine Go.aloadN (pc' := 15) d3_14 rfl rfl rfl ?_
  refine Go.getstatic (pc' := 18) (host := "") (Or.inl (hw _ (List.mem_of_getElem? (i := 20) rfl))) Via.refl (s_NAMESPACE.ext old1.2) d3_15 rfl ?_
  refine Go.acmpNo (pc' := 21) d3_18 rfl rfl (XT.aa_eq_f (fun q => (ne_exa x_DESCENDANT x_NAMESPACE (by decide)) (Value.ref.inj q))) rfl ?_
  refine Go.aloadN (pc' := 22) d3_21 rfl rfl rfl ?_
  refine Go.getstatic (pc' := 25) (host := "") (Or.inl (hw _ (List.mem_of_getElem? (i := 22) rfl))) Via.refl (s_SELF.ext old1.2) d3_22 rfl ?_
  refine Go.acmpYes (pc' := 32) d3_25 rfl rfl (XT.aa_ne_t (fun q => (ne_exa x_DESCENDANT x_SELF (by decide)) (Value.ref.inj q))) (by decide) (by decide) ?_
  refine Go.iconst (pc' := 33) (v := (0 : Int32)) d3_32 rfl rfl ?_
  exact Go.retN (t := .boolean) rfl (by simp) d3_33 ⟨rfl, rfl⟩ (by decide) (by decide)
theorem d1_44 : decode method_3_code 44 = .ok (.iload_n 0, 1) := by decide +kernel
theorem d1_45 : decode method_3_code 45 = .ok (.iconst 5, 1) := by decide +kernel
theorem d1_46 : decode method_3_code 46 = .ok (.if_icmp .ne 7, 3) := by decide +kernel
theorem d1_49 : decode method_3_code 49 = .ok (.getstatic 40, 3) := by decide +kernel
theorem d1_52 : decode method_3_code 52 = .ok (.areturn, 1) := by decide +kernel
set_option maxRecDepth 65536 in
set_option maxHeartbeats 4000000 in
theorem c_pick5 (l : Launch) (Z : State) (a0 : Array Value) (hw : ∀ d ∈ tables_1, d.before a0 Z = true) {n0 : Nat} (h : Heap) (w5 : Addr) (s5 : Sta Z Z.heap "com/example/rens/rens/filter/XPathAxis" "DESCENDANT_OR_SELF" "Lcom/example/rens/rens/filter/XPathAxis;" (.ref w5)) :
    Con l (⟨"com/example/rens/rens/filter/XPathAxisIsDisjointPinLaw", "pick", "(I)Lcom/example/rens/rens/filter/XPathAxis;"⟩ : MethodName) method_3_code 1 (some (.object "com/example/rens/rens/filter/XPathAxis")) ({ frames := 0, cells := 0, slots := 0, locals := 0 } : Room) Z n0 #[(.int (5 : Int32))] h (fun v h' => v = some (.ref w5) ∧ h = h') := by
  refine Con.of_go (plainFor_of_name pn_0) (Ls := #[.val (.int (5 : Int32))]) (fun m => by first | (simp [entryFrame, mkF, argsToLocals, Value.category]; done) | rfl) ?_
  refine Go.iloadN (pc' := 1) d1_0 rfl rfl ?_
  refine Go.ifYes (pc' := 8) d1_1 (XT.i0_ne_t (by decide)) (by decide) (by decide) ?_
  refine Go.iloadN (pc' := 9) d1_8 rfl rfl ?_
  refine Go.iconst (pc' := 10) (v := (1 : Int32)) d1_9 rfl rfl ?_
  refine Go.icmpYes (pc' := 17) d1_10 (XT.ii_ne_t (by decide)) (by decide) (by decide) ?_
  refine Go.iloadN (pc' := 18) d1_17 rfl rfl ?_
  refine Go.iconst (pc' := 19) (v := (2 : Int32)) d1_18 rfl rfl ?_
  refine Go.icmpYes (pc' := 26) d1_19 (XT.ii_ne_t (by decide)) (by decide) (by decide) ?_
  refine Go.iloadN (pc' := 27) d1_26 rfl rfl ?_
  refine Go.iconst (pc' := 28) (v := (3 : Int32)) d1_27 rfl rfl ?_
  refine Go.icmpYes (pc' := 35) d1_28 (XT.ii_ne_t (by decide)) (by decide) (by decide) ?_
  refine Go.iloadN (pc' := 36) d1_35 rfl rfl ?_
  refine Go.iconst (pc' := 37) (v := (4 : Int32)) d1_36 rfl rfl ?_
  refine Go.icmpYes (pc' := 44) d1_37 (XT.ii_ne_t (by decide)) (by decide) (by decide) ?_
  refine Go.iloadN (pc' := 45) d1_44 rfl rfl ?_
  refine Go.iconst (pc' := 46) (v := (5 : Int32)) d1_45 rfl rfl ?_
  refine Go.icmpNo (pc' := 49) d1_46 (XT.ii_ne_f (by decide)) rfl ?_
  refine Go.old (fun old1 => ?_)
  refine Go.getstatic (pc' := 52) (host := "") (Or.inl (hw _ (List.mem_of_getElem? (i := 29) rfl))) Via.refl (s5.ext old1.2) d1_49 rfl ?_
  exact Go.retR rfl rfl rfl rfl d1_52 ⟨rfl, rfl⟩ (by decide) (by decide)
set_option maxRecDepth 65536 in
set_option maxHeartbeats 4000000 in
theorem c_one5 (l : Launch) (Z : State) (a0 : Array Value) (hw : ∀ d ∈ tables_1, d.before a0 Z = true) {n0 : Nat} (h : Heap) :
    Con l (⟨"com/example/rens/rens/filter/XPathAxisIsDisjointPinLaw", "oneToOne", "(I)Z"⟩ : MethodName) method_4_code 1 (some .boolean) ({ frames := 0, cells := 0, slots := 0, locals := 0 } : Room) Z n0 #[(.int (5 : Int32))] h (fun v h' => v = some (.int (0 : Int32)) ∧ h = h') := by
  refine Con.of_go (plainFor_of_name pn_0) (Ls := #[.val (.int (5 : Int32))]) (fun m => by first | (simp [entryFrame, mkF, argsToLocals, Value.category]; done) | rfl) ?_
  refine Go.iloadN (pc' := 1) d2_0 rfl rfl ?_
  refine Go.iconst (pc' := 2) (v := (2 : Int32)) d2_1 rfl rfl ?_
  refine Go.icmpYes (pc' := 7) d2_2 (XT.ii_ne_t (by decide)) (by decide) (by decide) ?_
  refine Go.iloadN (pc' := 8) d2_7 rfl rfl ?_
  refine Go.iconst (pc' := 9) (v := (3 : Int32)) d2_8 rfl rfl ?_
  refine Go.icmpYes (pc' := 14) d2_9 (XT.ii_ne_t (by decide)) (by decide) (by decide) ?_
  refine Go.iloadN (pc' := 15) d2_14 rfl rfl ?_
  refine Go.bipush (pc' := 17) (v := (8 : Int32)) d2_15 rfl rfl ?_
  refine Go.icmpYes (pc' := 22) d2_17 (XT.ii_ne_t (by decide)) (by decide) (by decide) ?_
  refine Go.iloadN (pc' := 23) d2_22 rfl rfl ?_
  refine Go.bipush (pc' := 25) (v := (12 : Int32)) d2_23 rfl rfl ?_
  refine Go.icmpYes (pc' := 30) d2_25 (XT.ii_ne_t (by decide)) (by decide) (by decide) ?_
  refine Go.iconst (pc' := 31) (v := (0 : Int32)) d2_30 rfl rfl ?_
  exact Go.retN (t := .boolean) rfl (by simp) d2_31 ⟨rfl, rfl⟩ (by decide) (by decide)
set_option maxRecDepth 65536 in
set_option maxHeartbeats 4000000 in
theorem c_dis5 (l : Launch) (Z : State) (a0 : Array Value) (hw : ∀ d ∈ tables_1, d.before a0 Z = true) {n0 : Nat} (h : Heap) (w5 : Addr) (w3 : Addr) (w2 : Addr) (w8 : Addr) (w12 : Addr) (s_CHILD : Sta Z Z.heap "com/example/rens/rens/filter/XPathAxis" "CHILD" "Lcom/example/rens/rens/filter/XPathAxis;" (.ref w3)) (s_ATTRIBUTE : Sta Z Z.heap "com/example/rens/rens/filter/XPathAxis" "ATTRIBUTE" "Lcom/example/rens/rens/filter/XPathAxis;" (.ref w2)) (s_NAMESPACE : Sta Z Z.heap "com/example/rens/rens/filter/XPathAxis" "NAMESPACE" "Lcom/example/rens/rens/filter/XPathAxis;" (.ref w8)) (s_SELF : Sta Z Z.heap "com/example/rens/rens/filter/XPathAxis" "SELF" "Lcom/example/rens/rens/filter/XPathAxis;" (.ref w12)) (x_DESCENDANT_OR_SELF : Exa Z Z.heap w5 "com/example/rens/rens/filter/XPathAxis$6") (x_CHILD : Exa Z Z.heap w3 "com/example/rens/rens/filter/XPathAxis$4") (x_ATTRIBUTE : Exa Z Z.heap w2 "com/example/rens/rens/filter/XPathAxis$3") (x_NAMESPACE : Exa Z Z.heap w8 "com/example/rens/rens/filter/XPathAxis$9") (x_SELF : Exa Z Z.heap w12 "com/example/rens/rens/filter/XPathAxis$13") :
    Con l (⟨"com/example/rens/rens/filter/XPathAxis", "isDisjoint", "()Z"⟩ : MethodName) prog_50_method_6_code 1 (some .boolean) ({ frames := 0, cells := 0, slots := 0, locals := 0 } : Room) Z n0 #[(.ref w5)] h (fun v h' => v = some (.int (0 : Int32)) ∧ h = h') := by
  refine Con.of_go (plainFor_of_name pn_1) (Ls := #[.val (.ref w5)]) (fun m => by first | (simp [entryFrame, mkF, argsToLocals, Value.category]; done) | rfl) ?_
  refine Go.aloadN (pc' := 1) d3_0 rfl rfl rfl ?_
  refine Go.old (fun old1 => ?_)
  refine Go.getstatic (pc' := 4) (host := "") (Or.inl (hw _ (List.mem_of_getElem? (i := 16) rfl))) Via.refl (s_CHILD.ext old1.2) d3_1 rfl ?_
  refine Go.acmpNo (pc' := 7) d3_4 rfl rfl (XT.aa_eq_f (fun q => (ne_exa x_DESCENDANT_OR_SELF x_CHILD (by decide)) (Value.ref.inj q))) rfl ?_
  refine Go.aloadN (pc' := 8) d3_7 rfl rfl rfl ?_
  refine Go.getstatic (pc' := 11) (host := "") (Or.inl (hw _ (List.mem_of_getElem? (i := 18) rfl))) Via.refl (s_ATTRIBUTE.ext old1.2) d3_8 rfl ?_
  refine Go.acmpNo (pc' := 14) d3_11 rfl rfl (XT.aa_eq_f (fun q => (ne_exa x_DESCENDANT_OR_SELF x_ATTRIBUTE (by decide)) (Value.ref.inj q))) rfl ?_
  refine Go.aloadN (pc' := 15) d3_14 rfl rfl rfl ?_
  refine Go.getstatic (pc' := 18) (host := "") (Or.inl (hw _ (List.mem_of_getElem? (i := 20) rfl))) Via.refl (s_NAMESPACE.ext old1.2) d3_15 rfl ?_
  refine Go.acmpNo (pc' := 21) d3_18 rfl rfl (XT.aa_eq_f (fun q => (ne_exa x_DESCENDANT_OR_SELF x_NAMESPACE (by decide)) (Value.ref.inj q))) rfl ?_
  refine Go.aloadN (pc' := 22) d3_21 rfl rfl rfl ?_
  refine Go.getstatic (pc' := 25) (host := "") (Or.inl (hw _ (List.mem_of_getElem? (i := 22) rfl))) Via.refl (s_SELF.ext old1.2) d3_22 rfl ?_
  refine Go.acmpYes (pc' := 32) d3_25 rfl rfl (XT.aa_ne_t (fun q => (ne_exa x_DESCENDANT_OR_SELF x_SELF (by decide)) (Value.ref.inj q))) (by decide) (by decide) ?_
  refine Go.iconst (pc' := 33) (v := (0 : Int32)) d3_32 rfl rfl ?_
  exact Go.retN (t := .boolean) rfl (by simp) d3_33 ⟨rfl, rfl⟩ (by decide) (by decide)
theorem d1_53 : decode method_3_code 53 = .ok (.iload_n 0, 1) := by decide +kernel
theorem d1_54 : decode method_3_code 54 = .ok (.bipush 6, 2) := by decide +kernel
theorem d1_56 : decode method_3_code 56 = .ok (.if_icmp .ne 7, 3) := by decide +kernel
theorem d1_59 : decode method_3_code 59 = .ok (.getstatic 43, 3) := by decide +kernel
theorem d1_62 : decode method_3_code 62 = .ok (.areturn, 1) := by decide +kernel
set_option maxRecDepth 65536 in
set_option maxHeartbeats 4000000 in
theorem c_pick6 (l : Launch) (Z : State) (a0 : Array Value) (hw : ∀ d ∈ tables_1, d.before a0 Z = true) {n0 : Nat} (h : Heap) (w6 : Addr) (s6 : Sta Z Z.heap "com/example/rens/rens/filter/XPathAxis" "FOLLOWING" "Lcom/example/rens/rens/filter/XPathAxis;" (.ref w6)) :
    Con l (⟨"com/example/rens/rens/filter/XPathAxisIsDisjointPinLaw", "pick", "(I)Lcom/example/rens/rens/filter/XPathAxis;"⟩ : MethodName) method_3_code 1 (some (.object "com/example/rens/rens/filter/XPathAxis")) ({ frames := 0, cells := 0, slots := 0, locals := 0 } : Room) Z n0 #[(.int (6 : Int32))] h (fun v h' => v = some (.ref w6) ∧ h = h') := by
  refine Con.of_go (plainFor_of_name pn_0) (Ls := #[.val (.int (6 : Int32))]) (fun m => by first | (simp [entryFrame, mkF, argsToLocals, Value.category]; done) | rfl) ?_
  refine Go.iloadN (pc' := 1) d1_0 rfl rfl ?_
  refine Go.ifYes (pc' := 8) d1_1 (XT.i0_ne_t (by decide)) (by decide) (by decide) ?_
  refine Go.iloadN (pc' := 9) d1_8 rfl rfl ?_
  refine Go.iconst (pc' := 10) (v := (1 : Int32)) d1_9 rfl rfl ?_
  refine Go.icmpYes (pc' := 17) d1_10 (XT.ii_ne_t (by decide)) (by decide) (by decide) ?_
  refine Go.iloadN (pc' := 18) d1_17 rfl rfl ?_
  refine Go.iconst (pc' := 19) (v := (2 : Int32)) d1_18 rfl rfl ?_
  refine Go.icmpYes (pc' := 26) d1_19 (XT.ii_ne_t (by decide)) (by decide) (by decide) ?_
  refine Go.iloadN (pc' := 27) d1_26 rfl rfl ?_
  refine Go.iconst (pc' := 28) (v := (3 : Int32)) d1_27 rfl rfl ?_
  refine Go.icmpYes (pc' := 35) d1_28 (XT.ii_ne_t (by decide)) (by decide) (by decide) ?_
  refine Go.iloadN (pc' := 36) d1_35 rfl rfl ?_
  refine Go.iconst (pc' := 37) (v := (4 : Int32)) d1_36 rfl rfl ?_
  refine Go.icmpYes (pc' := 44) d1_37 (XT.ii_ne_t (by decide)) (by decide) (by decide) ?_
  refine Go.iloadN (pc' := 45) d1_44 rfl rfl ?_
  refine Go.iconst (pc' := 46) (v := (5 : Int32)) d1_45 rfl rfl ?_
  refine Go.icmpYes (pc' := 53) d1_46 (XT.ii_ne_t (by decide)) (by decide) (by decide) ?_
  refine Go.iloadN (pc' := 54) d1_53 rfl rfl ?_
  refine Go.bipush (pc' := 56) (v := (6 : Int32)) d1_54 rfl rfl ?_
  refine Go.icmpNo (pc' := 59) d1_56 (XT.ii_ne_f (by decide)) rfl ?_
  refine Go.old (fun old1 => ?_)
  refine Go.getstatic (pc' := 62) (host := "") (Or.inl (hw _ (List.mem_of_getElem? (i := 26) rfl))) Via.refl (s6.ext old1.2) d1_59 rfl ?_
  exact Go.retR rfl rfl rfl rfl d1_62 ⟨rfl, rfl⟩ (by decide) (by decide)
set_option maxRecDepth 65536 in
set_option maxHeartbeats 4000000 in
theorem c_one6 (l : Launch) (Z : State) (a0 : Array Value) (hw : ∀ d ∈ tables_1, d.before a0 Z = true) {n0 : Nat} (h : Heap) :
    Con l (⟨"com/example/rens/rens/filter/XPathAxisIsDisjointPinLaw", "oneToOne", "(I)Z"⟩ : MethodName) method_4_code 1 (some .boolean) ({ frames := 0, cells := 0, slots := 0, locals := 0 } : Room) Z n0 #[(.int (6 : Int32))] h (fun v h' => v = some (.int (0 : Int32)) ∧ h = h') := by
  refine Con.of_go (plainFor_of_name pn_0) (Ls := #[.val (.int (6 : Int32))]) (fun m => by first | (simp [entryFrame, mkF, argsToLocals, Value.category]; done) | rfl) ?_
  refine Go.iloadN (pc' := 1) d2_0 rfl rfl ?_
  refine Go.iconst (pc' := 2) (v := (2 : Int32)) d2_1 rfl rfl ?_
  refine Go.icmpYes (pc' := 7) d2_2 (XT.ii_ne_t (by decide)) (by decide) (by decide) ?_
  refine Go.iloadN (pc' := 8) d2_7 rfl rfl ?_
  refine Go.iconst (pc' := 9) (v := (3 : Int32)) d2_8 rfl rfl ?_
  refine Go.icmpYes (pc' := 14) d2_9 (XT.ii_ne_t (by decide)) (by decide) (by decide) ?_
  refine Go.iloadN (pc' := 15) d2_14 rfl rfl ?_
  refine Go.bipush (pc' := 17) (v := (8 : Int32)) d2_15 rfl rfl ?_
  refine Go.icmpYes (pc' := 22) d2_17 (XT.ii_ne_t (by decide)) (by decide) (by decide) ?_
  refine Go.iloadN (pc' := 23) d2_22 rfl rfl ?_
  refine Go.bipush (pc' := 25) (v := (12 : Int32)) d2_23 rfl rfl ?_
  refine Go.icmpYes (pc' := 30) d2_25 (XT.ii_ne_t (by decide)) (by decide) (by decide) ?_
  refine Go.iconst (pc' := 31) (v := (0 : Int32)) d2_30 rfl rfl ?_
  exact Go.retN (t := .boolean) rfl (by simp) d2_31 ⟨rfl, rfl⟩ (by decide) (by decide)
set_option maxRecDepth 65536 in
set_option maxHeartbeats 4000000 in
theorem c_dis6 (l : Launch) (Z : State) (a0 : Array Value) (hw : ∀ d ∈ tables_1, d.before a0 Z = true) {n0 : Nat} (h : Heap) (w6 : Addr) (w3 : Addr) (w2 : Addr) (w8 : Addr) (w12 : Addr) (s_CHILD : Sta Z Z.heap "com/example/rens/rens/filter/XPathAxis" "CHILD" "Lcom/example/rens/rens/filter/XPathAxis;" (.ref w3)) (s_ATTRIBUTE : Sta Z Z.heap "com/example/rens/rens/filter/XPathAxis" "ATTRIBUTE" "Lcom/example/rens/rens/filter/XPathAxis;" (.ref w2)) (s_NAMESPACE : Sta Z Z.heap "com/example/rens/rens/filter/XPathAxis" "NAMESPACE" "Lcom/example/rens/rens/filter/XPathAxis;" (.ref w8)) (s_SELF : Sta Z Z.heap "com/example/rens/rens/filter/XPathAxis" "SELF" "Lcom/example/rens/rens/filter/XPathAxis;" (.ref w12)) (x_FOLLOWING : Exa Z Z.heap w6 "com/example/rens/rens/filter/XPathAxis$7") (x_CHILD : Exa Z Z.heap w3 "com/example/rens/rens/filter/XPathAxis$4") (x_ATTRIBUTE : Exa Z Z.heap w2 "com/example/rens/rens/filter/XPathAxis$3") (x_NAMESPACE : Exa Z Z.heap w8 "com/example/rens/rens/filter/XPathAxis$9") (x_SELF : Exa Z Z.heap w12 "com/example/rens/rens/filter/XPathAxis$13") :
    Con l (⟨"com/example/rens/rens/filter/XPathAxis", "isDisjoint", "()Z"⟩ : MethodName) prog_50_method_6_code 1 (some .boolean) ({ frames := 0, cells := 0, slots := 0, locals := 0 } : Room) Z n0 #[(.ref w6)] h (fun v h' => v = some (.int (0 : Int32)) ∧ h = h') := by
  refine Con.of_go (plainFor_of_name pn_1) (Ls := #[.val (.ref w6)]) (fun m => by first | (simp [entryFrame, mkF, argsToLocals, Value.category]; done) | rfl) ?_
  refine Go.aloadN (pc' := 1) d3_0 rfl rfl rfl ?_
  refine Go.old (fun old1 => ?_)
  refine Go.getstatic (pc' := 4) (host := "") (Or.inl (hw _ (List.mem_of_getElem? (i := 16) rfl))) Via.refl (s_CHILD.ext old1.2) d3_1 rfl ?_
  refine Go.acmpNo (pc' := 7) d3_4 rfl rfl (XT.aa_eq_f (fun q => (ne_exa x_FOLLOWING x_CHILD (by decide)) (Value.ref.inj q))) rfl ?_
  refine Go.aloadN (pc' := 8) d3_7 rfl rfl rfl ?_
  refine Go.getstatic (pc' := 11) (host := "") (Or.inl (hw _ (List.mem_of_getElem? (i := 18) rfl))) Via.refl (s_ATTRIBUTE.ext old1.2) d3_8 rfl ?_
  refine Go.acmpNo (pc' := 14) d3_11 rfl rfl (XT.aa_eq_f (fun q => (ne_exa x_FOLLOWING x_ATTRIBUTE (by decide)) (Value.ref.inj q))) rfl ?_
  refine Go.aloadN (pc' := 15) d3_14 rfl rfl rfl ?_
  refine Go.getstatic (pc' := 18) (host := "") (Or.inl (hw _ (List.mem_of_getElem? (i := 20) rfl))) Via.refl (s_NAMESPACE.ext old1.2) d3_15 rfl ?_
  refine Go.acmpNo (pc' := 21) d3_18 rfl rfl (XT.aa_eq_f (fun q => (ne_exa x_FOLLOWING x_NAMESPACE (by decide)) (Value.ref.inj q))) rfl ?_
  refine Go.aloadN (pc' := 22) d3_21 rfl rfl rfl ?_
  refine Go.getstatic (pc' := 25) (host := "") (Or.inl (hw _ (List.mem_of_getElem? (i := 22) rfl))) Via.refl (s_SELF.ext old1.2) d3_22 rfl ?_
  refine Go.acmpYes (pc' := 32) d3_25 rfl rfl (XT.aa_ne_t (fun q => (ne_exa x_FOLLOWING x_SELF (by decide)) (Value.ref.inj q))) (by decide) (by decide) ?_
  refine Go.iconst (pc' := 33) (v := (0 : Int32)) d3_32 rfl rfl ?_
  exact Go.retN (t := .boolean) rfl (by simp) d3_33 ⟨rfl, rfl⟩ (by decide) (by decide)
theorem d1_63 : decode method_3_code 63 = .ok (.iload_n 0, 1) := by decide +kernel
theorem d1_64 : decode method_3_code 64 = .ok (.bipush 7, 2) := by decide +kernel
theorem d1_66 : decode method_3_code 66 = .ok (.if_icmp .ne 7, 3) := by decide +kernel
theorem d1_69 : decode method_3_code 69 = .ok (.getstatic 46, 3) := by decide +kernel
theorem d1_72 : decode method_3_code 72 = .ok (.areturn, 1) := by decide +kernel
set_option maxRecDepth 65536 in
set_option maxHeartbeats 4000000 in
theorem c_pick7 (l : Launch) (Z : State) (a0 : Array Value) (hw : ∀ d ∈ tables_1, d.before a0 Z = true) {n0 : Nat} (h : Heap) (w7 : Addr) (s7 : Sta Z Z.heap "com/example/rens/rens/filter/XPathAxis" "FOLLOWING_SIBLING" "Lcom/example/rens/rens/filter/XPathAxis;" (.ref w7)) :
    Con l (⟨"com/example/rens/rens/filter/XPathAxisIsDisjointPinLaw", "pick", "(I)Lcom/example/rens/rens/filter/XPathAxis;"⟩ : MethodName) method_3_code 1 (some (.object "com/example/rens/rens/filter/XPathAxis")) ({ frames := 0, cells := 0, slots := 0, locals := 0 } : Room) Z n0 #[(.int (7 : Int32))] h (fun v h' => v = some (.ref w7) ∧ h = h') := by
  refine Con.of_go (plainFor_of_name pn_0) (Ls := #[.val (.int (7 : Int32))]) (fun m => by first | (simp [entryFrame, mkF, argsToLocals, Value.category]; done) | rfl) ?_
  refine Go.iloadN (pc' := 1) d1_0 rfl rfl ?_
  refine Go.ifYes (pc' := 8) d1_1 (XT.i0_ne_t (by decide)) (by decide) (by decide) ?_
  refine Go.iloadN (pc' := 9) d1_8 rfl rfl ?_
  refine Go.iconst (pc' := 10) (v := (1 : Int32)) d1_9 rfl rfl ?_
  refine Go.icmpYes (pc' := 17) d1_10 (XT.ii_ne_t (by decide)) (by decide) (by decide) ?_
  refine Go.iloadN (pc' := 18) d1_17 rfl rfl ?_
  refine Go.iconst (pc' := 19) (v := (2 : Int32)) d1_18 rfl rfl ?_
  refine Go.icmpYes (pc' := 26) d1_19 (XT.ii_ne_t (by decide)) (by decide) (by decide) ?_
  refine Go.iloadN (pc' := 27) d1_26 rfl rfl ?_
  refine Go.iconst (pc' := 28) (v := (3 : Int32)) d1_27 rfl rfl ?_
  refine Go.icmpYes (pc' := 35) d1_28 (XT.ii_ne_t (by decide)) (by decide) (by decide) ?_
  refine Go.iloadN (pc' := 36) d1_35 rfl rfl ?_
  refine Go.iconst (pc' := 37) (v := (4 : Int32)) d1_36 rfl rfl ?_
  refine Go.icmpYes (pc' := 44) d1_37 (XT.ii_ne_t (by decide)) (by decide) (by decide) ?_
  refine Go.iloadN (pc' := 45) d1_44 rfl rfl ?_
  refine Go.iconst (pc' := 46) (v := (5 : Int32)) d1_45 rfl rfl ?_
  refine Go.icmpYes (pc' := 53) d1_46 (XT.ii_ne_t (by decide)) (by decide) (by decide) ?_
  refine Go.iloadN (pc' := 54) d1_53 rfl rfl ?_
  refine Go.bipush (pc' := 56) (v := (6 : Int32)) d1_54 rfl rfl ?_
  refine Go.icmpYes (pc' := 63) d1_56 (XT.ii_ne_t (by decide)) (by decide) (by decide) ?_
  refine Go.iloadN (pc' := 64) d1_63 rfl rfl ?_
  refine Go.bipush (pc' := 66) (v := (7 : Int32)) d1_64 rfl rfl ?_
  refine Go.icmpNo (pc' := 69) d1_66 (XT.ii_ne_f (by decide)) rfl ?_
  refine Go.old (fun old1 => ?_)
  refine Go.getstatic (pc' := 72) (host := "") (Or.inl (hw _ (List.mem_of_getElem? (i := 32) rfl))) Via.refl (s7.ext old1.2) d1_69 rfl ?_
  exact Go.retR rfl rfl rfl rfl d1_72 ⟨rfl, rfl⟩ (by decide) (by decide)
set_option maxRecDepth 65536 in
set_option maxHeartbeats 4000000 in
theorem c_one7 (l : Launch) (Z : State) (a0 : Array Value) (hw : ∀ d ∈ tables_1, d.before a0 Z = true) {n0 : Nat} (h : Heap) :
    Con l (⟨"com/example/rens/rens/filter/XPathAxisIsDisjointPinLaw", "oneToOne", "(I)Z"⟩ : MethodName) method_4_code 1 (some .boolean) ({ frames := 0, cells := 0, slots := 0, locals := 0 } : Room) Z n0 #[(.int (7 : Int32))] h (fun v h' => v = some (.int (0 : Int32)) ∧ h = h') := by
  refine Con.of_go (plainFor_of_name pn_0) (Ls := #[.val (.int (7 : Int32))]) (fun m => by first | (simp [entryFrame, mkF, argsToLocals, Value.category]; done) | rfl) ?_
  refine Go.iloadN (pc' := 1) d2_0 rfl rfl ?_
  refine Go.iconst (pc' := 2) (v := (2 : Int32)) d2_1 rfl rfl ?_
  refine Go.icmpYes (pc' := 7) d2_2 (XT.ii_ne_t (by decide)) (by decide) (by decide) ?_
  refine Go.iloadN (pc' := 8) d2_7 rfl rfl ?_
  refine Go.iconst (pc' := 9) (v := (3 : Int32)) d2_8 rfl rfl ?_
  refine Go.icmpYes (pc' := 14) d2_9 (XT.ii_ne_t (by decide)) (by decide) (by decide) ?_
  refine Go.iloadN (pc' := 15) d2_14 rfl rfl ?_
  refine Go.bipush (pc' := 17) (v := (8 : Int32)) d2_15 rfl rfl ?_
  refine Go.icmpYes (pc' := 22) d2_17 (XT.ii_ne_t (by decide)) (by decide) (by decide) ?_
  refine Go.iloadN (pc' := 23) d2_22 rfl rfl ?_
  refine Go.bipush (pc' := 25) (v := (12 : Int32)) d2_23 rfl rfl ?_
  refine Go.icmpYes (pc' := 30) d2_25 (XT.ii_ne_t (by decide)) (by decide) (by decide) ?_
  refine Go.iconst (pc' := 31) (v := (0 : Int32)) d2_30 rfl rfl ?_
  exact Go.retN (t := .boolean) rfl (by simp) d2_31 ⟨rfl, rfl⟩ (by decide) (by decide)
set_option maxRecDepth 65536 in
set_option maxHeartbeats 4000000 in
theorem c_dis7 (l : Launch) (Z : State) (a0 : Array Value) (hw : ∀ d ∈ tables_1, d.before a0 Z = true) {n0 : Nat} (h : Heap) (w7 : Addr) (w3 : Addr) (w2 : Addr) (w8 : Addr) (w12 : Addr) (s_CHILD : Sta Z Z.heap "com/example/rens/rens/filter/XPathAxis" "CHILD" "Lcom/example/rens/rens/filter/XPathAxis;" (.ref w3)) (s_ATTRIBUTE : Sta Z Z.heap "com/example/rens/rens/filter/XPathAxis" "ATTRIBUTE" "Lcom/example/rens/rens/filter/XPathAxis;" (.ref w2)) (s_NAMESPACE : Sta Z Z.heap "com/example/rens/rens/filter/XPathAxis" "NAMESPACE" "Lcom/example/rens/rens/filter/XPathAxis;" (.ref w8)) (s_SELF : Sta Z Z.heap "com/example/rens/rens/filter/XPathAxis" "SELF" "Lcom/example/rens/rens/filter/XPathAxis;" (.ref w12)) (x_FOLLOWING_SIBLING : Exa Z Z.heap w7 "com/example/rens/rens/filter/XPathAxis$8") (x_CHILD : Exa Z Z.heap w3 "com/example/rens/rens/filter/XPathAxis$4") (x_ATTRIBUTE : Exa Z Z.heap w2 "com/example/rens/rens/filter/XPathAxis$3") (x_NAMESPACE : Exa Z Z.heap w8 "com/example/rens/rens/filter/XPathAxis$9") (x_SELF : Exa Z Z.heap w12 "com/example/rens/rens/filter/XPathAxis$13") :
    Con l (⟨"com/example/rens/rens/filter/XPathAxis", "isDisjoint", "()Z"⟩ : MethodName) prog_50_method_6_code 1 (some .boolean) ({ frames := 0, cells := 0, slots := 0, locals := 0 } : Room) Z n0 #[(.ref w7)] h (fun v h' => v = some (.int (0 : Int32)) ∧ h = h') := by
  refine Con.of_go (plainFor_of_name pn_1) (Ls := #[.val (.ref w7)]) (fun m => by first | (simp [entryFrame, mkF, argsToLocals, Value.category]; done) | rfl) ?_
  refine Go.aloadN (pc' := 1) d3_0 rfl rfl rfl ?_
  refine Go.old (fun old1 => ?_)
  refine Go.getstatic (pc' := 4) (host := "") (Or.inl (hw _ (List.mem_of_getElem? (i := 16) rfl))) Via.refl (s_CHILD.ext old1.2) d3_1 rfl ?_
  refine Go.acmpNo (pc' := 7) d3_4 rfl rfl (XT.aa_eq_f (fun q => (ne_exa x_FOLLOWING_SIBLING x_CHILD (by decide)) (Value.ref.inj q))) rfl ?_
  refine Go.aloadN (pc' := 8) d3_7 rfl rfl rfl ?_
  refine Go.getstatic (pc' := 11) (host := "") (Or.inl (hw _ (List.mem_of_getElem? (i := 18) rfl))) Via.refl (s_ATTRIBUTE.ext old1.2) d3_8 rfl ?_
  refine Go.acmpNo (pc' := 14) d3_11 rfl rfl (XT.aa_eq_f (fun q => (ne_exa x_FOLLOWING_SIBLING x_ATTRIBUTE (by decide)) (Value.ref.inj q))) rfl ?_
  refine Go.aloadN (pc' := 15) d3_14 rfl rfl rfl ?_
  refine Go.getstatic (pc' := 18) (host := "") (Or.inl (hw _ (List.mem_of_getElem? (i := 20) rfl))) Via.refl (s_NAMESPACE.ext old1.2) d3_15 rfl ?_
  refine Go.acmpNo (pc' := 21) d3_18 rfl rfl (XT.aa_eq_f (fun q => (ne_exa x_FOLLOWING_SIBLING x_NAMESPACE (by decide)) (Value.ref.inj q))) rfl ?_
  refine Go.aloadN (pc' := 22) d3_21 rfl rfl rfl ?_
  refine Go.getstatic (pc' := 25) (host := "") (Or.inl (hw _ (List.mem_of_getElem? (i := 22) rfl))) Via.refl (s_SELF.ext old1.2) d3_22 rfl ?_
  refine Go.acmpYes (pc' := 32) d3_25 rfl rfl (XT.aa_ne_t (fun q => (ne_exa x_FOLLOWING_SIBLING x_SELF (by decide)) (Value.ref.inj q))) (by decide) (by decide) ?_
  refine Go.iconst (pc' := 33) (v := (0 : Int32)) d3_32 rfl rfl ?_
  exact Go.retN (t := .boolean) rfl (by simp) d3_33 ⟨rfl, rfl⟩ (by decide) (by decide)
theorem d1_73 : decode method_3_code 73 = .ok (.iload_n 0, 1) := by decide +kernel
theorem d1_74 : decode method_3_code 74 = .ok (.bipush 8, 2) := by decide +kernel
theorem d1_76 : decode method_3_code 76 = .ok (.if_icmp .ne 7, 3) := by decide +kernel
theorem d1_79 : decode method_3_code 79 = .ok (.getstatic 49, 3) := by decide +kernel
theorem d1_82 : decode method_3_code 82 = .ok (.areturn, 1) := by decide +kernel
set_option maxRecDepth 65536 in
set_option maxHeartbeats 4000000 in
theorem c_pick8 (l : Launch) (Z : State) (a0 : Array Value) (hw : ∀ d ∈ tables_1, d.before a0 Z = true) {n0 : Nat} (h : Heap) (w8 : Addr) (s8 : Sta Z Z.heap "com/example/rens/rens/filter/XPathAxis" "NAMESPACE" "Lcom/example/rens/rens/filter/XPathAxis;" (.ref w8)) :
    Con l (⟨"com/example/rens/rens/filter/XPathAxisIsDisjointPinLaw", "pick", "(I)Lcom/example/rens/rens/filter/XPathAxis;"⟩ : MethodName) method_3_code 1 (some (.object "com/example/rens/rens/filter/XPathAxis")) ({ frames := 0, cells := 0, slots := 0, locals := 0 } : Room) Z n0 #[(.int (8 : Int32))] h (fun v h' => v = some (.ref w8) ∧ h = h') := by
  refine Con.of_go (plainFor_of_name pn_0) (Ls := #[.val (.int (8 : Int32))]) (fun m => by first | (simp [entryFrame, mkF, argsToLocals, Value.category]; done) | rfl) ?_
  refine Go.iloadN (pc' := 1) d1_0 rfl rfl ?_
  refine Go.ifYes (pc' := 8) d1_1 (XT.i0_ne_t (by decide)) (by decide) (by decide) ?_
  refine Go.iloadN (pc' := 9) d1_8 rfl rfl ?_
  refine Go.iconst (pc' := 10) (v := (1 : Int32)) d1_9 rfl rfl ?_
  refine Go.icmpYes (pc' := 17) d1_10 (XT.ii_ne_t (by decide)) (by decide) (by decide) ?_
  refine Go.iloadN (pc' := 18) d1_17 rfl rfl ?_
  refine Go.iconst (pc' := 19) (v := (2 : Int32)) d1_18 rfl rfl ?_
  refine Go.icmpYes (pc' := 26) d1_19 (XT.ii_ne_t (by decide)) (by decide) (by decide) ?_
  refine Go.iloadN (pc' := 27) d1_26 rfl rfl ?_
  refine Go.iconst (pc' := 28) (v := (3 : Int32)) d1_27 rfl rfl ?_
  refine Go.icmpYes (pc' := 35) d1_28 (XT.ii_ne_t (by decide)) (by decide) (by decide) ?_
  refine Go.iloadN (pc' := 36) d1_35 rfl rfl ?_
  refine Go.iconst (pc' := 37) (v := (4 : Int32)) d1_36 rfl rfl ?_
  refine Go.icmpYes (pc' := 44) d1_37 (XT.ii_ne_t (by decide)) (by decide) (by decide) ?_
  refine Go.iloadN (pc' := 45) d1_44 rfl rfl ?_
  refine Go.iconst (pc' := 46) (v := (5 : Int32)) d1_45 rfl rfl ?_
  refine Go.icmpYes (pc' := 53) d1_46 (XT.ii_ne_t (by decide)) (by decide) (by decide) ?_
  refine Go.iloadN (pc' := 54) d1_53 rfl rfl ?_
  refine Go.bipush (pc' := 56) (v := (6 : Int32)) d1_54 rfl rfl ?_
  refine Go.icmpYes (pc' := 63) d1_56 (XT.ii_ne_t (by decide)) (by decide) (by decide) ?_
  refine Go.iloadN (pc' := 64) d1_63 rfl rfl ?_
  refine Go.bipush (pc' := 66) (v := (7 : Int32)) d1_64 rfl rfl ?_
  refine Go.icmpYes (pc' := 73) d1_66 (XT.ii_ne_t (by decide)) (by decide) (by decide) ?_
  refine Go.iloadN (pc' := 74) d1_73 rfl rfl ?_
  refine Go.bipush (pc' := 76) (v := (8 : Int32)) d1_74 rfl rfl ?_
  refine Go.icmpNo (pc' := 79) d1_76 (XT.ii_ne_f (by decide)) rfl ?_
  refine Go.old (fun old1 => ?_)
  refine Go.getstatic (pc' := 82) (host := "") (Or.inl (hw _ (List.mem_of_getElem? (i := 46) rfl))) Via.refl (s8.ext old1.2) d1_79 rfl ?_
  exact Go.retR rfl rfl rfl rfl d1_82 ⟨rfl, rfl⟩ (by decide) (by decide)
theorem d2_20 : decode method_4_code 20 = .ok (.iconst 1, 1) := by decide +kernel
theorem d2_21 : decode method_4_code 21 = .ok (.ireturn, 1) := by decide +kernel
set_option maxRecDepth 65536 in
set_option maxHeartbeats 4000000 in
theorem c_one8 (l : Launch) (Z : State) (a0 : Array Value) (hw : ∀ d ∈ tables_1, d.before a0 Z = true) {n0 : Nat} (h : Heap) :
    Con l (⟨"com/example/rens/rens/filter/XPathAxisIsDisjointPinLaw", "oneToOne", "(I)Z"⟩ : MethodName) method_4_code 1 (some .boolean) ({ frames := 0, cells := 0, slots := 0, locals := 0 } : Room) Z n0 #[(.int (8 : Int32))] h (fun v h' => v = some (.int (1 : Int32)) ∧ h = h') := by
  refine Con.of_go (plainFor_of_name pn_0) (Ls := #[.val (.int (8 : Int32))]) (fun m => by first | (simp [entryFrame, mkF, argsToLocals, Value.category]; done) | rfl) ?_
  refine Go.iloadN (pc' := 1) d2_0 rfl rfl ?_
  refine Go.iconst (pc' := 2) (v := (2 : Int32)) d2_1 rfl rfl ?_
  refine Go.icmpYes (pc' := 7) d2_2 (XT.ii_ne_t (by decide)) (by decide) (by decide) ?_
  refine Go.iloadN (pc' := 8) d2_7 rfl rfl ?_
  refine Go.iconst (pc' := 9) (v := (3 : Int32)) d2_8 rfl rfl ?_
  refine Go.icmpYes (pc' := 14) d2_9 (XT.ii_ne_t (by decide)) (by decide) (by decide) ?_
  refine Go.iloadN (pc' := 15) d2_14 rfl rfl ?_
  refine Go.bipush (pc' := 17) (v := (8 : Int32)) d2_15 rfl rfl ?_
  refine Go.icmpNo (pc' := 20) d2_17 (XT.ii_ne_f (by decide)) rfl ?_
  refine Go.iconst (pc' := 21) (v := (1 : Int32)) d2_20 rfl rfl ?_
  exact Go.retN (t := .boolean) rfl (by simp) d2_21 ⟨rfl, rfl⟩ (by decide) (by decide)
set_option maxRecDepth 65536 in
set_option maxHeartbeats 4000000 in
theorem c_dis8 (l : Launch) (Z : State) (a0 : Array Value) (hw : ∀ d ∈ tables_1, d.before a0 Z = true) {n0 : Nat} (h : Heap) (w8 : Addr) (w3 : Addr) (w2 : Addr) (w12 : Addr) (s_NAMESPACE : Sta Z Z.heap "com/example/rens/rens/filter/XPathAxis" "NAMESPACE" "Lcom/example/rens/rens/filter/XPathAxis;" (.ref w8)) (s_CHILD : Sta Z Z.heap "com/example/rens/rens/filter/XPathAxis" "CHILD" "Lcom/example/rens/rens/filter/XPathAxis;" (.ref w3)) (s_ATTRIBUTE : Sta Z Z.heap "com/example/rens/rens/filter/XPathAxis" "ATTRIBUTE" "Lcom/example/rens/rens/filter/XPathAxis;" (.ref w2)) (s_SELF : Sta Z Z.heap "com/example/rens/rens/filter/XPathAxis" "SELF" "Lcom/example/rens/rens/filter/XPathAxis;" (.ref w12)) (x_NAMESPACE : Exa Z Z.heap w8 "com/example/rens/rens/filter/XPathAxis$9") (x_CHILD : Exa Z Z.heap w3 "com/example/rens/rens/filter/XPathAxis$4") (x_ATTRIBUTE : Exa Z Z.heap w2 "com/example/rens/rens/filter/XPathAxis$3") (x_SELF : Exa Z Z.heap w12 "com/example/rens/rens/filter/XPathAxis$13") :
    Con l (⟨"com/example/rens/rens/filter/XPathAxis", "isDisjoint", "()Z"⟩ : MethodName) prog_50_method_6_code 1 (some .boolean) ({ frames := 0, cells := 0, slots := 0, locals := 0 } : Room) Z n0 #[(.ref w8)] h (fun v h' => v = some (.int (1 : Int32)) ∧ h = h') := by
  refine Con.of_go (plainFor_of_name pn_1) (Ls := #[.val (.ref w8)]) (fun m => by first | (simp [entryFrame, mkF, argsToLocals, Value.category]; done) | rfl) ?_
  refine Go.aloadN (pc' := 1) d3_0 rfl rfl rfl ?_
  refine Go.old (fun old1 => ?_)
  refine Go.getstatic (pc' := 4) (host := "") (Or.inl (hw _ (List.mem_of_getElem? (i := 16) rfl))) Via.refl (s_CHILD.ext old1.2) d3_1 rfl ?_
  refine Go.acmpNo (pc' := 7) d3_4 rfl rfl (XT.aa_eq_f (fun q => (ne_exa x_NAMESPACE x_CHILD (by decide)) (Value.ref.inj q))) rfl ?_
  refine Go.aloadN (pc' := 8) d3_7 rfl rfl rfl ?_
  refine Go.getstatic (pc' := 11) (host := "") (Or.inl (hw _ (List.mem_of_getElem? (i := 18) rfl))) Via.refl (s_ATTRIBUTE.ext old1.2) d3_8 rfl ?_
  refine Go.acmpNo (pc' := 14) d3_11 rfl rfl (XT.aa_eq_f (fun q => (ne_exa x_NAMESPACE x_ATTRIBUTE (by decide)) (Value.ref.inj q))) rfl ?_
  refine Go.aloadN (pc' := 15) d3_14 rfl rfl rfl ?_
  refine Go.getstatic (pc' := 18) (host := "") (Or.inl (hw _ (List.mem_of_getElem? (i := 20) rfl))) Via.refl (s_NAMESPACE.ext old1.2) d3_15 rfl ?_
  refine Go.acmpYes (pc' := 28) d3_18 rfl rfl (XT.aa_eq_t rfl) (by decide) (by decide) ?_
  refine Go.iconst (pc' := 29) (v := (1 : Int32)) d3_28 rfl rfl ?_
  refine Go.goto (pc' := 33) d3_29 (by decide) (by decide) ?_
  exact Go.retN (t := .boolean) rfl (by simp) d3_33 ⟨rfl, rfl⟩ (by decide) (by decide)
theorem d1_83 : decode method_3_code 83 = .ok (.iload_n 0, 1) := by decide +kernel
theorem d1_84 : decode method_3_code 84 = .ok (.bipush 9, 2) := by decide +kernel
theorem d1_86 : decode method_3_code 86 = .ok (.if_icmp .ne 7, 3) := by decide +kernel
theorem d1_89 : decode method_3_code 89 = .ok (.getstatic 52, 3) := by decide +kernel
theorem d1_92 : decode method_3_code 92 = .ok (.areturn, 1) := by decide +kernel
set_option maxRecDepth 65536 in
set_option maxHeartbeats 4000000 in
theorem c_pick9 (l : Launch) (Z : State) (a0 : Array Value) (hw : ∀ d ∈ tables_1, d.before a0 Z = true) {n0 : Nat} (h : Heap) (w9 : Addr) (s9 : Sta Z Z.heap "com/example/rens/rens/filter/XPathAxis" "PARENT" "Lcom/example/rens/rens/filter/XPathAxis;" (.ref w9)) :
    Con l (⟨"com/example/rens/rens/filter/XPathAxisIsDisjointPinLaw", "pick", "(I)Lcom/example/rens/rens/filter/XPathAxis;"⟩ : MethodName) method_3_code 1 (some (.object "com/example/rens/rens/filter/XPathAxis")) ({ frames := 0, cells := 0, slots := 0, locals := 0 } : Room) Z n0 #[(.int (9 : Int32))] h (fun v h' => v = some (.ref w9) ∧ h = h') := by
  refine Con.of_go (plainFor_of_name pn_0) (Ls := #[.val (.int (9 : Int32))]) (fun m => by first | (simp [entryFrame, mkF, argsToLocals, Value.category]; done) | rfl) ?_
  refine Go.iloadN (pc' := 1) d1_0 rfl rfl ?_
  refine Go.ifYes (pc' := 8) d1_1 (XT.i0_ne_t (by decide)) (by decide) (by decide) ?_
  refine Go.iloadN (pc' := 9) d1_8 rfl rfl ?_
  refine Go.iconst (pc' := 10) (v := (1 : Int32)) d1_9 rfl rfl ?_
  refine Go.icmpYes (pc' := 17) d1_10 (XT.ii_ne_t (by decide)) (by decide) (by decide) ?_
  refine Go.iloadN (pc' := 18) d1_17 rfl rfl ?_
  refine Go.iconst (pc' := 19) (v := (2 : Int32)) d1_18 rfl rfl ?_
  refine Go.icmpYes (pc' := 26) d1_19 (XT.ii_ne_t (by decide)) (by decide) (by decide) ?_
  refine Go.iloadN (pc' := 27) d1_26 rfl rfl ?_
  refine Go.iconst (pc' := 28) (v := (3 : Int32)) d1_27 rfl rfl ?_
  refine Go.icmpYes (pc' := 35) d1_28 (XT.ii_ne_t (by decide)) (by decide) (by decide) ?_
  refine Go.iloadN (pc' := 36) d1_35 rfl rfl ?_
  refine Go.iconst (pc' := 37) (v := (4 : Int32)) d1_36 rfl rfl ?_
  refine Go.icmpYes (pc' := 44) d1_37 (XT.ii_ne_t (by decide)) (by decide) (by decide) ?_
  refine Go.iloadN (pc' := 45) d1_44 rfl rfl ?_
  refine Go.iconst (pc' := 46) (v := (5 : Int32)) d1_45 rfl rfl ?_
  refine Go.icmpYes (pc' := 53) d1_46 (XT.ii_ne_t (by decide)) (by decide) (by decide) ?_
  refine Go.iloadN (pc' := 54) d1_53 rfl rfl ?_
  refine Go.bipush (pc' := 56) (v := (6 : Int32)) d1_54 rfl rfl ?_
  refine Go.icmpYes (pc' := 63) d1_56 (XT.ii_ne_t (by decide)) (by decide) (by decide) ?_
  refine Go.iloadN (pc' := 64) d1_63 rfl rfl ?_
  refine Go.bipush (pc' := 66) (v := (7 : Int32)) d1_64 rfl rfl ?_
  refine Go.icmpYes (pc' := 73) d1_66 (XT.ii_ne_t (by decide)) (by decide) (by decide) ?_
  refine Go.iloadN (pc' := 74) d1_73 rfl rfl ?_
  refine Go.bipush (pc' := 76) (v := (8 : Int32)) d1_74 rfl rfl ?_
  refine Go.icmpYes (pc' := 83) d1_76 (XT.ii_ne_t (by decide)) (by decide) (by decide) ?_
  refine Go.iloadN (pc' := 84) d1_83 rfl rfl ?_
  refine Go.bipush (pc' := 86) (v := (9 : Int32)) d1_84 rfl rfl ?_
  refine Go.icmpNo (pc' := 89) d1_86 (XT.ii_ne_f (by decide)) rfl ?_
  refine Go.old (fun old1 => ?_)
  refine Go.getstatic (pc' := 92) (host := "") (Or.inl (hw _ (List.mem_of_getElem? (i := 35) rfl))) Via.refl (s9.ext old1.2) d1_89 rfl ?_
  exact Go.retR rfl rfl rfl rfl d1_92 ⟨rfl, rfl⟩ (by decide) (by decide)
set_option maxRecDepth 65536 in
set_option maxHeartbeats 4000000 in
theorem c_one9 (l : Launch) (Z : State) (a0 : Array Value) (hw : ∀ d ∈ tables_1, d.before a0 Z = true) {n0 : Nat} (h : Heap) :
    Con l (⟨"com/example/rens/rens/filter/XPathAxisIsDisjointPinLaw", "oneToOne", "(I)Z"⟩ : MethodName) method_4_code 1 (some .boolean) ({ frames := 0, cells := 0, slots := 0, locals := 0 } : Room) Z n0 #[(.int (9 : Int32))] h (fun v h' => v = some (.int (0 : Int32)) ∧ h = h') := by
  refine Con.of_go (plainFor_of_name pn_0) (Ls := #[.val (.int (9 : Int32))]) (fun m => by first | (simp [entryFrame, mkF, argsToLocals, Value.category]; done) | rfl) ?_
  refine Go.iloadN (pc' := 1) d2_0 rfl rfl ?_
  refine Go.iconst (pc' := 2) (v := (2 : Int32)) d2_1 rfl rfl ?_
  refine Go.icmpYes (pc' := 7) d2_2 (XT.ii_ne_t (by decide)) (by decide) (by decide) ?_
  refine Go.iloadN (pc' := 8) d2_7 rfl rfl ?_
  refine Go.iconst (pc' := 9) (v := (3 : Int32)) d2_8 rfl rfl ?_
  refine Go.icmpYes (pc' := 14) d2_9 (XT.ii_ne_t (by decide)) (by decide) (by decide) ?_
  refine Go.iloadN (pc' := 15) d2_14 rfl rfl ?_
  refine Go.bipush (pc' := 17) (v := (8 : Int32)) d2_15 rfl rfl ?_
  refine Go.icmpYes (pc' := 22) d2_17 (XT.ii_ne_t (by decide)) (by decide) (by decide) ?_
  refine Go.iloadN (pc' := 23) d2_22 rfl rfl ?_
  refine Go.bipush (pc' := 25) (v := (12 : Int32)) d2_23 rfl rfl ?_
  refine Go.icmpYes (pc' := 30) d2_25 (XT.ii_ne_t (by decide)) (by decide) (by decide) ?_
  refine Go.iconst (pc' := 31) (v := (0 : Int32)) d2_30 rfl rfl ?_
  exact Go.retN (t := .boolean) rfl (by simp) d2_31 ⟨rfl, rfl⟩ (by decide) (by decide)
set_option maxRecDepth 65536 in
set_option maxHeartbeats 4000000 in
theorem c_dis9 (l : Launch) (Z : State) (a0 : Array Value) (hw : ∀ d ∈ tables_1, d.before a0 Z = true) {n0 : Nat} (h : Heap) (w9 : Addr) (w3 : Addr) (w2 : Addr) (w8 : Addr) (w12 : Addr) (s_CHILD : Sta Z Z.heap "com/example/rens/rens/filter/XPathAxis" "CHILD" "Lcom/example/rens/rens/filter/XPathAxis;" (.ref w3)) (s_ATTRIBUTE : Sta Z Z.heap "com/example/rens/rens/filter/XPathAxis" "ATTRIBUTE" "Lcom/example/rens/rens/filter/XPathAxis;" (.ref w2)) (s_NAMESPACE : Sta Z Z.heap "com/example/rens/rens/filter/XPathAxis" "NAMESPACE" "Lcom/example/rens/rens/filter/XPathAxis;" (.ref w8)) (s_SELF : Sta Z Z.heap "com/example/rens/rens/filter/XPathAxis" "SELF" "Lcom/example/rens/rens/filter/XPathAxis;" (.ref w12)) (x_PARENT : Exa Z Z.heap w9 "com/example/rens/rens/filter/XPathAxis$10") (x_CHILD : Exa Z Z.heap w3 "com/example/rens/rens/filter/XPathAxis$4") (x_ATTRIBUTE : Exa Z Z.heap w2 "com/example/rens/rens/filter/XPathAxis$3") (x_NAMESPACE : Exa Z Z.heap w8 "com/example/rens/rens/filter/XPathAxis$9") (x_SELF : Exa Z Z.heap w12 "com/example/rens/rens/filter/XPathAxis$13") :
    Con l (⟨"com/example/rens/rens/filter/XPathAxis", "isDisjoint", "()Z"⟩ : MethodName) prog_50_method_6_code 1 (some .boolean) ({ frames := 0, cells := 0, slots := 0, locals := 0 } : Room) Z n0 #[(.ref w9)] h (fun v h' => v = some (.int (0 : Int32)) ∧ h = h') := by
  refine Con.of_go (plainFor_of_name pn_1) (Ls := #[.val (.ref w9)]) (fun m => by first | (simp [entryFrame, mkF, argsToLocals, Value.category]; done) | rfl) ?_
  refine Go.aloadN (pc' := 1) d3_0 rfl rfl rfl ?_
  refine Go.old (fun old1 => ?_)
  refine Go.getstatic (pc' := 4) (host := "") (Or.inl (hw _ (List.mem_of_getElem? (i := 16) rfl))) Via.refl (s_CHILD.ext old1.2) d3_1 rfl ?_
  refine Go.acmpNo (pc' := 7) d3_4 rfl rfl (XT.aa_eq_f (fun q => (ne_exa x_PARENT x_CHILD (by decide)) (Value.ref.inj q))) rfl ?_
  refine Go.aloadN (pc' := 8) d3_7 rfl rfl rfl ?_
  refine Go.getstatic (pc' := 11) (host := "") (Or.inl (hw _ (List.mem_of_getElem? (i := 18) rfl))) Via.refl (s_ATTRIBUTE.ext old1.2) d3_8 rfl ?_
  refine Go.acmpNo (pc' := 14) d3_11 rfl rfl (XT.aa_eq_f (fun q => (ne_exa x_PARENT x_ATTRIBUTE (by decide)) (Value.ref.inj q))) rfl ?_
  refine Go.aloadN (pc' := 15) d3_14 rfl rfl rfl ?_
  refine Go.getstatic (pc' := 18) (host := "") (Or.inl (hw _ (List.mem_of_getElem? (i := 20) rfl))) Via.refl (s_NAMESPACE.ext old1.2) d3_15 rfl ?_
  refine Go.acmpNo (pc' := 21) d3_18 rfl rfl (XT.aa_eq_f (fun q => (ne_exa x_PARENT x_NAMESPACE (by decide)) (Value.ref.inj q))) rfl ?_
  refine Go.aloadN (pc' := 22) d3_21 rfl rfl rfl ?_
  refine Go.getstatic (pc' := 25) (host := "") (Or.inl (hw _ (List.mem_of_getElem? (i := 22) rfl))) Via.refl (s_SELF.ext old1.2) d3_22 rfl ?_
  refine Go.acmpYes (pc' := 32) d3_25 rfl rfl (XT.aa_ne_t (fun q => (ne_exa x_PARENT x_SELF (by decide)) (Value.ref.inj q))) (by decide) (by decide) ?_
  refine Go.iconst (pc' := 33) (v := (0 : Int32)) d3_32 rfl rfl ?_
  exact Go.retN (t := .boolean) rfl (by simp) d3_33 ⟨rfl, rfl⟩ (by decide) (by decide)
theorem d1_93 : decode method_3_code 93 = .ok (.iload_n 0, 1) := by decide +kernel
theorem d1_94 : decode method_3_code 94 = .ok (.bipush 10, 2) := by decide +kernel
theorem d1_96 : decode method_3_code 96 = .ok (.if_icmp .ne 7, 3) := by decide +kernel
theorem d1_99 : decode method_3_code 99 = .ok (.getstatic 55, 3) := by decide +kernel
theorem d1_102 : decode method_3_code 102 = .ok (.areturn, 1) := by decide +kernel
set_option maxRecDepth 65536 in
set_option maxHeartbeats 4000000 in
theorem c_pick10 (l : Launch) (Z : State) (a0 : Array Value) (hw : ∀ d ∈ tables_1, d.before a0 Z = true) {n0 : Nat} (h : Heap) (w10 : Addr) (s10 : Sta Z Z.heap "com/example/rens/rens/filter/XPathAxis" "PRECEDING" "Lcom/example/rens/rens/filter/XPathAxis;" (.ref w10)) :
    Con l (⟨"com/example/rens/rens/filter/XPathAxisIsDisjointPinLaw", "pick", "(I)Lcom/example/rens/rens/filter/XPathAxis;"⟩ : MethodName) method_3_code 1 (some (.object "com/example/rens/rens/filter/XPathAxis")) ({ frames := 0, cells := 0, slots := 0, locals := 0 } : Room) Z n0 #[(.int (10 : Int32))] h (fun v h' => v = some (.ref w10) ∧ h = h') := by
  refine Con.of_go (plainFor_of_name pn_0) (Ls := #[.val (.int (10 : Int32))]) (fun m => by first | (simp [entryFrame, mkF, argsToLocals, Value.category]; done) | rfl) ?_
  refine Go.iloadN (pc' := 1) d1_0 rfl rfl ?_
  refine Go.ifYes (pc' := 8) d1_1 (XT.i0_ne_t (by decide)) (by decide) (by decide) ?_
  refine Go.iloadN (pc' := 9) d1_8 rfl rfl ?_
  refine Go.iconst (pc' := 10) (v := (1 : Int32)) d1_9 rfl rfl ?_
  refine Go.icmpYes (pc' := 17) d1_10 (XT.ii_ne_t (by decide)) (by decide) (by decide) ?_
  refine Go.iloadN (pc' := 18) d1_17 rfl rfl ?_
  refine Go.iconst (pc' := 19) (v := (2 : Int32)) d1_18 rfl rfl ?_
  refine Go.icmpYes (pc' := 26) d1_19 (XT.ii_ne_t (by decide)) (by decide) (by decide) ?_
  refine Go.iloadN (pc' := 27) d1_26 rfl rfl ?_
  refine Go.iconst (pc' := 28) (v := (3 : Int32)) d1_27 rfl rfl ?_
  refine Go.icmpYes (pc' := 35) d1_28 (XT.ii_ne_t (by decide)) (by decide) (by decide) ?_
  refine Go.iloadN (pc' := 36) d1_35 rfl rfl ?_
  refine Go.iconst (pc' := 37) (v := (4 : Int32)) d1_36 rfl rfl ?_
  refine Go.icmpYes (pc' := 44) d1_37 (XT.ii_ne_t (by decide)) (by decide) (by decide) ?_
  refine Go.iloadN (pc' := 45) d1_44 rfl rfl ?_
  refine Go.iconst (pc' := 46) (v := (5 : Int32)) d1_45 rfl rfl ?_
  refine Go.icmpYes (pc' := 53) d1_46 (XT.ii_ne_t (by decide)) (by decide) (by decide) ?_
  refine Go.iloadN (pc' := 54) d1_53 rfl rfl ?_
  refine Go.bipush (pc' := 56) (v := (6 : Int32)) d1_54 rfl rfl ?_
  refine Go.icmpYes (pc' := 63) d1_56 (XT.ii_ne_t (by decide)) (by decide) (by decide) ?_
  refine Go.iloadN (pc' := 64) d1_63 rfl rfl ?_
  refine Go.bipush (pc' := 66) (v := (7 : Int32)) d1_64 rfl rfl ?_
  refine Go.icmpYes (pc' := 73) d1_66 (XT.ii_ne_t (by decide)) (by decide) (by decide) ?_
  refine Go.iloadN (pc' := 74) d1_73 rfl rfl ?_
  refine Go.bipush (pc' := 76) (v := (8 : Int32)) d1_74 rfl rfl ?_
  refine Go.icmpYes (pc' := 83) d1_76 (XT.ii_ne_t (by decide)) (by decide) (by decide) ?_
  refine Go.iloadN (pc' := 84) d1_83 rfl rfl ?_
  refine Go.bipush (pc' := 86) (v := (9 : Int32)) d1_84 rfl rfl ?_
  refine Go.icmpYes (pc' := 93) d1_86 (XT.ii_ne_t (by decide)) (by decide) (by decide) ?_
  refine Go.iloadN (pc' := 94) d1_93 rfl rfl ?_
  refine Go.bipush (pc' := 96) (v := (10 : Int32)) d1_94 rfl rfl ?_
  refine Go.icmpNo (pc' := 99) d1_96 (XT.ii_ne_f (by decide)) rfl ?_
  refine Go.old (fun old1 => ?_)
  refine Go.getstatic (pc' := 102) (host := "") (Or.inl (hw _ (List.mem_of_getElem? (i := 48) rfl))) Via.refl (s10.ext old1.2) d1_99 rfl ?_
  exact Go.retR rfl rfl rfl rfl d1_102 ⟨rfl, rfl⟩ (by decide) (by decide)
set_option maxRecDepth 65536 in
set_option maxHeartbeats 4000000 in
theorem c_one10 (l : Launch) (Z : State) (a0 : Array Value) (hw : ∀ d ∈ tables_1, d.before a0 Z = true) {n0 : Nat} (h : Heap) :
    Con l (⟨"com/example/rens/rens/filter/XPathAxisIsDisjointPinLaw", "oneToOne", "(I)Z"⟩ : MethodName) method_4_code 1 (some .boolean) ({ frames := 0, cells := 0, slots := 0, locals := 0 } : Room) Z n0 #[(.int (10 : Int32))] h (fun v h' => v = some (.int (0 : Int32)) ∧ h = h') := by
  refine Con.of_go (plainFor_of_name pn_0) (Ls := #[.val (.int (10 : Int32))]) (fun m => by first | (simp [entryFrame, mkF, argsToLocals, Value.category]; done) | rfl) ?_
  refine Go.iloadN (pc' := 1) d2_0 rfl rfl ?_
  refine Go.iconst (pc' := 2) (v := (2 : Int32)) d2_1 rfl rfl ?_
  refine Go.icmpYes (pc' := 7) d2_2 (XT.ii_ne_t (by decide)) (by decide) (by decide) ?_
  refine Go.iloadN (pc' := 8) d2_7 rfl rfl ?_
  refine Go.iconst (pc' := 9) (v := (3 : Int32)) d2_8 rfl rfl ?_
  refine Go.icmpYes (pc' := 14) d2_9 (XT.ii_ne_t (by decide)) (by decide) (by decide) ?_
  refine Go.iloadN (pc' := 15) d2_14 rfl rfl ?_
  refine Go.bipush (pc' := 17) (v := (8 : Int32)) d2_15 rfl rfl ?_
  refine Go.icmpYes (pc' := 22) d2_17 (XT.ii_ne_t (by decide)) (by decide) (by decide) ?_
  refine Go.iloadN (pc' := 23) d2_22 rfl rfl ?_
  refine Go.bipush (pc' := 25) (v := (12 : Int32)) d2_23 rfl rfl ?_
  refine Go.icmpYes (pc' := 30) d2_25 (XT.ii_ne_t (by decide)) (by decide) (by decide) ?_
  refine Go.iconst (pc' := 31) (v := (0 : Int32)) d2_30 rfl rfl ?_
  exact Go.retN (t := .boolean) rfl (by simp) d2_31 ⟨rfl, rfl⟩ (by decide) (by decide)
set_option maxRecDepth 65536 in
set_option maxHeartbeats 4000000 in
theorem c_dis10 (l : Launch) (Z : State) (a0 : Array Value) (hw : ∀ d ∈ tables_1, d.before a0 Z = true) {n0 : Nat} (h : Heap) (w10 : Addr) (w3 : Addr) (w2 : Addr) (w8 : Addr) (w12 : Addr) (s_CHILD : Sta Z Z.heap "com/example/rens/rens/filter/XPathAxis" "CHILD" "Lcom/example/rens/rens/filter/XPathAxis;" (.ref w3)) (s_ATTRIBUTE : Sta Z Z.heap "com/example/rens/rens/filter/XPathAxis" "ATTRIBUTE" "Lcom/example/rens/rens/filter/XPathAxis;" (.ref w2)) (s_NAMESPACE : Sta Z Z.heap "com/example/rens/rens/filter/XPathAxis" "NAMESPACE" "Lcom/example/rens/rens/filter/XPathAxis;" (.ref w8)) (s_SELF : Sta Z Z.heap "com/example/rens/rens/filter/XPathAxis" "SELF" "Lcom/example/rens/rens/filter/XPathAxis;" (.ref w12)) (x_PRECEDING : Exa Z Z.heap w10 "com/example/rens/rens/filter/XPathAxis$11") (x_CHILD : Exa Z Z.heap w3 "com/example/rens/rens/filter/XPathAxis$4") (x_ATTRIBUTE : Exa Z Z.heap w2 "com/example/rens/rens/filter/XPathAxis$3") (x_NAMESPACE : Exa Z Z.heap w8 "com/example/rens/rens/filter/XPathAxis$9") (x_SELF : Exa Z Z.heap w12 "com/example/rens/rens/filter/XPathAxis$13") :
    Con l (⟨"com/example/rens/rens/filter/XPathAxis", "isDisjoint", "()Z"⟩ : MethodName) prog_50_method_6_code 1 (some .boolean) ({ frames := 0, cells := 0, slots := 0, locals := 0 } : Room) Z n0 #[(.ref w10)] h (fun v h' => v = some (.int (0 : Int32)) ∧ h = h') := by
  refine Con.of_go (plainFor_of_name pn_1) (Ls := #[.val (.ref w10)]) (fun m => by first | (simp [entryFrame, mkF, argsToLocals, Value.category]; done) | rfl) ?_
  refine Go.aloadN (pc' := 1) d3_0 rfl rfl rfl ?_
  refine Go.old (fun old1 => ?_)
  refine Go.getstatic (pc' := 4) (host := "") (Or.inl (hw _ (List.mem_of_getElem? (i := 16) rfl))) Via.refl (s_CHILD.ext old1.2) d3_1 rfl ?_
  refine Go.acmpNo (pc' := 7) d3_4 rfl rfl (XT.aa_eq_f (fun q => (ne_exa x_PRECEDING x_CHILD (by decide)) (Value.ref.inj q))) rfl ?_
  refine Go.aloadN (pc' := 8) d3_7 rfl rfl rfl ?_
  refine Go.getstatic (pc' := 11) (host := "") (Or.inl (hw _ (List.mem_of_getElem? (i := 18) rfl))) Via.refl (s_ATTRIBUTE.ext old1.2) d3_8 rfl ?_
  refine Go.acmpNo (pc' := 14) d3_11 rfl rfl (XT.aa_eq_f (fun q => (ne_exa x_PRECEDING x_ATTRIBUTE (by decide)) (Value.ref.inj q))) rfl ?_
  refine Go.aloadN (pc' := 15) d3_14 rfl rfl rfl ?_
  refine Go.getstatic (pc' := 18) (host := "") (Or.inl (hw _ (List.mem_of_getElem? (i := 20) rfl))) Via.refl (s_NAMESPACE.ext old1.2) d3_15 rfl ?_
  refine Go.acmpNo (pc' := 21) d3_18 rfl rfl (XT.aa_eq_f (fun q => (ne_exa x_PRECEDING x_NAMESPACE (by decide)) (Value.ref.inj q))) rfl ?_
  refine Go.aloadN (pc' := 22) d3_21 rfl rfl rfl ?_
  refine Go.getstatic (pc' := 25) (host := "") (Or.inl (hw _ (List.mem_of_getElem? (i := 22) rfl))) Via.refl (s_SELF.ext old1.2) d3_22 rfl ?_
  refine Go.acmpYes (pc' := 32) d3_25 rfl rfl (XT.aa_ne_t (fun q => (ne_exa x_PRECEDING x_SELF (by decide)) (Value.ref.inj q))) (by decide) (by decide) ?_
  refine Go.iconst (pc' := 33) (v := (0 : Int32)) d3_32 rfl rfl ?_
  exact Go.retN (t := .boolean) rfl (by simp) d3_33 ⟨rfl, rfl⟩ (by decide) (by decide)
theorem d1_103 : decode method_3_code 103 = .ok (.iload_n 0, 1) := by decide +kernel
theorem d1_104 : decode method_3_code 104 = .ok (.bipush 11, 2) := by decide +kernel
theorem d1_106 : decode method_3_code 106 = .ok (.if_icmp .ne 7, 3) := by decide +kernel
theorem d1_109 : decode method_3_code 109 = .ok (.getstatic 58, 3) := by decide +kernel
theorem d1_112 : decode method_3_code 112 = .ok (.areturn, 1) := by decide +kernel
set_option maxRecDepth 65536 in
set_option maxHeartbeats 4000000 in
theorem c_pick11 (l : Launch) (Z : State) (a0 : Array Value) (hw : ∀ d ∈ tables_1, d.before a0 Z = true) {n0 : Nat} (h : Heap) (w11 : Addr) (s11 : Sta Z Z.heap "com/example/rens/rens/filter/XPathAxis" "PRECEDING_SIBLING" "Lcom/example/rens/rens/filter/XPathAxis;" (.ref w11)) :
    Con l (⟨"com/example/rens/rens/filter/XPathAxisIsDisjointPinLaw", "pick", "(I)Lcom/example/rens/rens/filter/XPathAxis;"⟩ : MethodName) method_3_code 1 (some (.object "com/example/rens/rens/filter/XPathAxis")) ({ frames := 0, cells := 0, slots := 0, locals := 0 } : Room) Z n0 #[(.int (11 : Int32))] h (fun v h' => v = some (.ref w11) ∧ h = h') := by
  refine Con.of_go (plainFor_of_name pn_0) (Ls := #[.val (.int (11 : Int32))]) (fun m => by first | (simp [entryFrame, mkF, argsToLocals, Value.category]; done) | rfl) ?_
  refine Go.iloadN (pc' := 1) d1_0 rfl rfl ?_
  refine Go.ifYes (pc' := 8) d1_1 (XT.i0_ne_t (by decide)) (by decide) (by decide) ?_
  refine Go.iloadN (pc' := 9) d1_8 rfl rfl ?_
  refine Go.iconst (pc' := 10) (v := (1 : Int32)) d1_9 rfl rfl ?_
  refine Go.icmpYes (pc' := 17) d1_10 (XT.ii_ne_t (by decide)) (by decide) (by decide) ?_
  refine Go.iloadN (pc' := 18) d1_17 rfl rfl ?_
  refine Go.iconst (pc' := 19) (v := (2 : Int32)) d1_18 rfl rfl ?_
  refine Go.icmpYes (pc' := 26) d1_19 (XT.ii_ne_t (by decide)) (by decide) (by decide) ?_
  refine Go.iloadN (pc' := 27) d1_26 rfl rfl ?_
  refine Go.iconst (pc' := 28) (v := (3 : Int32)) d1_27 rfl rfl ?_
  refine Go.icmpYes (pc' := 35) d1_28 (XT.ii_ne_t (by decide)) (by decide) (by decide) ?_
  refine Go.iloadN (pc' := 36) d1_35 rfl rfl ?_
  refine Go.iconst (pc' := 37) (v := (4 : Int32)) d1_36 rfl rfl ?_
  refine Go.icmpYes (pc' := 44) d1_37 (XT.ii_ne_t (by decide)) (by decide) (by decide) ?_
  refine Go.iloadN (pc' := 45) d1_44 rfl rfl ?_
  refine Go.iconst (pc' := 46) (v := (5 : Int32)) d1_45 rfl rfl ?_
  refine Go.icmpYes (pc' := 53) d1_46 (XT.ii_ne_t (by decide)) (by decide) (by decide) ?_
  refine Go.iloadN (pc' := 54) d1_53 rfl rfl ?_
  refine Go.bipush (pc' := 56) (v := (6 : Int32)) d1_54 rfl rfl ?_
  refine Go.icmpYes (pc' := 63) d1_56 (XT.ii_ne_t (by decide)) (by decide) (by decide) ?_
  refine Go.iloadN (pc' := 64) d1_63 rfl rfl ?_
  refine Go.bipush (pc' := 66) (v := (7 : Int32)) d1_64 rfl rfl ?_
  refine Go.icmpYes (pc' := 73) d1_66 (XT.ii_ne_t (by decide)) (by decide) (by decide) ?_
  refine Go.iloadN (pc' := 74) d1_73 rfl rfl ?_
  refine Go.bipush (pc' := 76) (v := (8 : Int32)) d1_74 rfl rfl ?_
  refine Go.icmpYes (pc' := 83) d1_76 (XT.ii_ne_t (by decide)) (by decide) (by decide) ?_
  refine Go.iloadN (pc' := 84) d1_83 rfl rfl ?_
  refine Go.bipush (pc' := 86) (v := (9 : Int32)) d1_84 rfl rfl ?_
  refine Go.icmpYes (pc' := 93) d1_86 (XT.ii_ne_t (by decide)) (by decide) (by decide) ?_
  refine Go.iloadN (pc' := 94) d1_93 rfl rfl ?_
  refine Go.bipush (pc' := 96) (v := (10 : Int32)) d1_94 rfl rfl ?_
  refine Go.icmpYes (pc' := 103) d1_96 (XT.ii_ne_t (by decide)) (by decide) (by decide) ?_
  refine Go.iloadN (pc' := 104) d1_103 rfl rfl ?_
  refine Go.bipush (pc' := 106) (v := (11 : Int32)) d1_104 rfl rfl ?_
  refine Go.icmpNo (pc' := 109) d1_106 (XT.ii_ne_f (by decide)) rfl ?_
  refine Go.old (fun old1 => ?_)
  refine Go.getstatic (pc' := 112) (host := "") (Or.inl (hw _ (List.mem_of_getElem? (i := 40) rfl))) Via.refl (s11.ext old1.2) d1_109 rfl ?_
  exact Go.retR rfl rfl rfl rfl d1_112 ⟨rfl, rfl⟩ (by decide) (by decide)
set_option maxRecDepth 65536 in
set_option maxHeartbeats 4000000 in
theorem c_one11 (l : Launch) (Z : State) (a0 : Array Value) (hw : ∀ d ∈ tables_1, d.before a0 Z = true) {n0 : Nat} (h : Heap) :
    Con l (⟨"com/example/rens/rens/filter/XPathAxisIsDisjointPinLaw", "oneToOne", "(I)Z"⟩ : MethodName) method_4_code 1 (some .boolean) ({ frames := 0, cells := 0, slots := 0, locals := 0 } : Room) Z n0 #[(.int (11 : Int32))] h (fun v h' => v = some (.int (0 : Int32)) ∧ h = h') := by
  refine Con.of_go (plainFor_of_name pn_0) (Ls := #[.val (.int (11 : Int32))]) (fun m => by first | (simp [entryFrame, mkF, argsToLocals, Value.category]; done) | rfl) ?_
  refine Go.iloadN (pc' := 1) d2_0 rfl rfl ?_
  refine Go.iconst (pc' := 2) (v := (2 : Int32)) d2_1 rfl rfl ?_
  refine Go.icmpYes (pc' := 7) d2_2 (XT.ii_ne_t (by decide)) (by decide) (by decide) ?_
  refine Go.iloadN (pc' := 8) d2_7 rfl rfl ?_
  refine Go.iconst (pc' := 9) (v := (3 : Int32)) d2_8 rfl rfl ?_
  refine Go.icmpYes (pc' := 14) d2_9 (XT.ii_ne_t (by decide)) (by decide) (by decide) ?_
  refine Go.iloadN (pc' := 15) d2_14 rfl rfl ?_
  refine Go.bipush (pc' := 17) (v := (8 : Int32)) d2_15 rfl rfl ?_
  refine Go.icmpYes (pc' := 22) d2_17 (XT.ii_ne_t (by decide)) (by decide) (by decide) ?_
  refine Go.iloadN (pc' := 23) d2_22 rfl rfl ?_
  refine Go.bipush (pc' := 25) (v := (12 : Int32)) d2_23 rfl rfl ?_
  refine Go.icmpYes (pc' := 30) d2_25 (XT.ii_ne_t (by decide)) (by decide) (by decide) ?_
  refine Go.iconst (pc' := 31) (v := (0 : Int32)) d2_30 rfl rfl ?_
  exact Go.retN (t := .boolean) rfl (by simp) d2_31 ⟨rfl, rfl⟩ (by decide) (by decide)
set_option maxRecDepth 65536 in
set_option maxHeartbeats 4000000 in
theorem c_dis11 (l : Launch) (Z : State) (a0 : Array Value) (hw : ∀ d ∈ tables_1, d.before a0 Z = true) {n0 : Nat} (h : Heap) (w11 : Addr) (w3 : Addr) (w2 : Addr) (w8 : Addr) (w12 : Addr) (s_CHILD : Sta Z Z.heap "com/example/rens/rens/filter/XPathAxis" "CHILD" "Lcom/example/rens/rens/filter/XPathAxis;" (.ref w3)) (s_ATTRIBUTE : Sta Z Z.heap "com/example/rens/rens/filter/XPathAxis" "ATTRIBUTE" "Lcom/example/rens/rens/filter/XPathAxis;" (.ref w2)) (s_NAMESPACE : Sta Z Z.heap "com/example/rens/rens/filter/XPathAxis" "NAMESPACE" "Lcom/example/rens/rens/filter/XPathAxis;" (.ref w8)) (s_SELF : Sta Z Z.heap "com/example/rens/rens/filter/XPathAxis" "SELF" "Lcom/example/rens/rens/filter/XPathAxis;" (.ref w12)) (x_PRECEDING_SIBLING : Exa Z Z.heap w11 "com/example/rens/rens/filter/XPathAxis$12") (x_CHILD : Exa Z Z.heap w3 "com/example/rens/rens/filter/XPathAxis$4") (x_ATTRIBUTE : Exa Z Z.heap w2 "com/example/rens/rens/filter/XPathAxis$3") (x_NAMESPACE : Exa Z Z.heap w8 "com/example/rens/rens/filter/XPathAxis$9") (x_SELF : Exa Z Z.heap w12 "com/example/rens/rens/filter/XPathAxis$13") :
    Con l (⟨"com/example/rens/rens/filter/XPathAxis", "isDisjoint", "()Z"⟩ : MethodName) prog_50_method_6_code 1 (some .boolean) ({ frames := 0, cells := 0, slots := 0, locals := 0 } : Room) Z n0 #[(.ref w11)] h (fun v h' => v = some (.int (0 : Int32)) ∧ h = h') := by
  refine Con.of_go (plainFor_of_name pn_1) (Ls := #[.val (.ref w11)]) (fun m => by first | (simp [entryFrame, mkF, argsToLocals, Value.category]; done) | rfl) ?_
  refine Go.aloadN (pc' := 1) d3_0 rfl rfl rfl ?_
  refine Go.old (fun old1 => ?_)
  refine Go.getstatic (pc' := 4) (host := "") (Or.inl (hw _ (List.mem_of_getElem? (i := 16) rfl))) Via.refl (s_CHILD.ext old1.2) d3_1 rfl ?_
  refine Go.acmpNo (pc' := 7) d3_4 rfl rfl (XT.aa_eq_f (fun q => (ne_exa x_PRECEDING_SIBLING x_CHILD (by decide)) (Value.ref.inj q))) rfl ?_
  refine Go.aloadN (pc' := 8) d3_7 rfl rfl rfl ?_
  refine Go.getstatic (pc' := 11) (host := "") (Or.inl (hw _ (List.mem_of_getElem? (i := 18) rfl))) Via.refl (s_ATTRIBUTE.ext old1.2) d3_8 rfl ?_
  refine Go.acmpNo (pc' := 14) d3_11 rfl rfl (XT.aa_eq_f (fun q => (ne_exa x_PRECEDING_SIBLING x_ATTRIBUTE (by decide)) (Value.ref.inj q))) rfl ?_
  refine Go.aloadN (pc' := 15) d3_14 rfl rfl rfl ?_
  refine Go.getstatic (pc' := 18) (host := "") (Or.inl (hw _ (List.mem_of_getElem? (i := 20) rfl))) Via.refl (s_NAMESPACE.ext old1.2) d3_15 rfl ?_
  refine Go.acmpNo (pc' := 21) d3_18 rfl rfl (XT.aa_eq_f (fun q => (ne_exa x_PRECEDING_SIBLING x_NAMESPACE (by decide)) (Value.ref.inj q))) rfl ?_
  refine Go.aloadN (pc' := 22) d3_21 rfl rfl rfl ?_
  refine Go.getstatic (pc' := 25) (host := "") (Or.inl (hw _ (List.mem_of_getElem? (i := 22) rfl))) Via.refl (s_SELF.ext old1.2) d3_22 rfl ?_
  refine Go.acmpYes (pc' := 32) d3_25 rfl rfl (XT.aa_ne_t (fun q => (ne_exa x_PRECEDING_SIBLING x_SELF (by decide)) (Value.ref.inj q))) (by decide) (by decide) ?_
  refine Go.iconst (pc' := 33) (v := (0 : Int32)) d3_32 rfl rfl ?_
  exact Go.retN (t := .boolean) rfl (by simp) d3_33 ⟨rfl, rfl⟩ (by decide) (by decide)
theorem d1_113 : decode method_3_code 113 = .ok (.getstatic 61, 3) := by decide +kernel
theorem d1_116 : decode method_3_code 116 = .ok (.areturn, 1) := by decide +kernel
set_option maxRecDepth 65536 in
set_option maxHeartbeats 4000000 in
theorem c_pick12 (l : Launch) (Z : State) (a0 : Array Value) (hw : ∀ d ∈ tables_1, d.before a0 Z = true) {n0 : Nat} (h : Heap) (w12 : Addr) (s12 : Sta Z Z.heap "com/example/rens/rens/filter/XPathAxis" "SELF" "Lcom/example/rens/rens/filter/XPathAxis;" (.ref w12)) :
    Con l (⟨"com/example/rens/rens/filter/XPathAxisIsDisjointPinLaw", "pick", "(I)Lcom/example/rens/rens/filter/XPathAxis;"⟩ : MethodName) method_3_code 1 (some (.object "com/example/rens/rens/filter/XPathAxis")) ({ frames := 0, cells := 0, slots := 0, locals := 0 } : Room) Z n0 #[(.int (12 : Int32))] h (fun v h' => v = some (.ref w12) ∧ h = h') := by
  refine Con.of_go (plainFor_of_name pn_0) (Ls := #[.val (.int (12 : Int32))]) (fun m => by first | (simp [entryFrame, mkF, argsToLocals, Value.category]; done) | rfl) ?_
  refine Go.iloadN (pc' := 1) d1_0 rfl rfl ?_
  refine Go.ifYes (pc' := 8) d1_1 (XT.i0_ne_t (by decide)) (by decide) (by decide) ?_
  refine Go.iloadN (pc' := 9) d1_8 rfl rfl ?_
  refine Go.iconst (pc' := 10) (v := (1 : Int32)) d1_9 rfl rfl ?_
  refine Go.icmpYes (pc' := 17) d1_10 (XT.ii_ne_t (by decide)) (by decide) (by decide) ?_
  refine Go.iloadN (pc' := 18) d1_17 rfl rfl ?_
  refine Go.iconst (pc' := 19) (v := (2 : Int32)) d1_18 rfl rfl ?_
  refine Go.icmpYes (pc' := 26) d1_19 (XT.ii_ne_t (by decide)) (by decide) (by decide) ?_
  refine Go.iloadN (pc' := 27) d1_26 rfl rfl ?_
  refine Go.iconst (pc' := 28) (v := (3 : Int32)) d1_27 rfl rfl ?_
  refine Go.icmpYes (pc' := 35) d1_28 (XT.ii_ne_t (by decide)) (by decide) (by decide) ?_
  refine Go.iloadN (pc' := 36) d1_35 rfl rfl ?_
  refine Go.iconst (pc' := 37) (v := (4 : Int32)) d1_36 rfl rfl ?_
  refine Go.icmpYes (pc' := 44) d1_37 (XT.ii_ne_t (by decide)) (by decide) (by decide) ?_
  refine Go.iloadN (pc' := 45) d1_44 rfl rfl ?_
  refine Go.iconst (pc' := 46) (v := (5 : Int32)) d1_45 rfl rfl ?_
  refine Go.icmpYes (pc' := 53) d1_46 (XT.ii_ne_t (by decide)) (by decide) (by decide) ?_
  refine Go.iloadN (pc' := 54) d1_53 rfl rfl ?_
  refine Go.bipush (pc' := 56) (v := (6 : Int32)) d1_54 rfl rfl ?_
  refine Go.icmpYes (pc' := 63) d1_56 (XT.ii_ne_t (by decide)) (by decide) (by decide) ?_
  refine Go.iloadN (pc' := 64) d1_63 rfl rfl ?_
  refine Go.bipush (pc' := 66) (v := (7 : Int32)) d1_64 rfl rfl ?_
  refine Go.icmpYes (pc' := 73) d1_66 (XT.ii_ne_t (by decide)) (by decide) (by decide) ?_
  refine Go.iloadN (pc' := 74) d1_73 rfl rfl ?_
  refine Go.bipush (pc' := 76) (v := (8 : Int32)) d1_74 rfl rfl ?_
  refine Go.icmpYes (pc' := 83) d1_76 (XT.ii_ne_t (by decide)) (by decide) (by decide) ?_
  refine Go.iloadN (pc' := 84) d1_83 rfl rfl ?_
  refine Go.bipush (pc' := 86) (v := (9 : Int32)) d1_84 rfl rfl ?_
  refine Go.icmpYes (pc' := 93) d1_86 (XT.ii_ne_t (by decide)) (by decide) (by decide) ?_
  refine Go.iloadN (pc' := 94) d1_93 rfl rfl ?_
  refine Go.bipush (pc' := 96) (v := (10 : Int32)) d1_94 rfl rfl ?_
  refine Go.icmpYes (pc' := 103) d1_96 (XT.ii_ne_t (by decide)) (by decide) (by decide) ?_
  refine Go.iloadN (pc' := 104) d1_103 rfl rfl ?_
  refine Go.bipush (pc' := 106) (v := (11 : Int32)) d1_104 rfl rfl ?_
  refine Go.icmpYes (pc' := 113) d1_106 (XT.ii_ne_t (by decide)) (by decide) (by decide) ?_
  refine Go.old (fun old1 => ?_)
  refine Go.getstatic (pc' := 116) (host := "") (Or.inl (hw _ (List.mem_of_getElem? (i := 51) rfl))) Via.refl (s12.ext old1.2) d1_113 rfl ?_
  exact Go.retR rfl rfl rfl rfl d1_116 ⟨rfl, rfl⟩ (by decide) (by decide)
theorem d2_28 : decode method_4_code 28 = .ok (.iconst 1, 1) := by decide +kernel
theorem d2_29 : decode method_4_code 29 = .ok (.ireturn, 1) := by decide +kernel
set_option maxRecDepth 65536 in
set_option maxHeartbeats 4000000 in
theorem c_one12 (l : Launch) (Z : State) (a0 : Array Value) (hw : ∀ d ∈ tables_1, d.before a0 Z = true) {n0 : Nat} (h : Heap) :
    Con l (⟨"com/example/rens/rens/filter/XPathAxisIsDisjointPinLaw", "oneToOne", "(I)Z"⟩ : MethodName) method_4_code 1 (some .boolean) ({ frames := 0, cells := 0, slots := 0, locals := 0 } : Room) Z n0 #[(.int (12 : Int32))] h (fun v h' => v = some (.int (1 : Int32)) ∧ h = h') := by
  refine Con.of_go (plainFor_of_name pn_0) (Ls := #[.val (.int (12 : Int32))]) (fun m => by first | (simp [entryFrame, mkF, argsToLocals, Value.category]; done) | rfl) ?_
  refine Go.iloadN (pc' := 1) d2_0 rfl rfl ?_
  refine Go.iconst (pc' := 2) (v := (2 : Int32)) d2_1 rfl rfl ?_
  refine Go.icmpYes (pc' := 7) d2_2 (XT.ii_ne_t (by decide)) (by decide) (by decide) ?_
  refine Go.iloadN (pc' := 8) d2_7 rfl rfl ?_
  refine Go.iconst (pc' := 9) (v := (3 : Int32)) d2_8 rfl rfl ?_
  refine Go.icmpYes (pc' := 14) d2_9 (XT.ii_ne_t (by decide)) (by decide) (by decide) ?_
  refine Go.iloadN (pc' := 15) d2_14 rfl rfl ?_
  refine Go.bipush (pc' := 17) (v := (8 : Int32)) d2_15 rfl rfl ?_
  refine Go.icmpYes (pc' := 22) d2_17 (XT.ii_ne_t (by decide)) (by decide) (by decide) ?_
  refine Go.iloadN (pc' := 23) d2_22 rfl rfl ?_
  refine Go.bipush (pc' := 25) (v := (12 : Int32)) d2_23 rfl rfl ?_
  refine Go.icmpNo (pc' := 28) d2_25 (XT.ii_ne_f (by decide)) rfl ?_
  refine Go.iconst (pc' := 29) (v := (1 : Int32)) d2_28 rfl rfl ?_
  exact Go.retN (t := .boolean) rfl (by simp) d2_29 ⟨rfl, rfl⟩ (by decide) (by decide)
set_option maxRecDepth 65536 in
set_option maxHeartbeats 4000000 in
theorem c_dis12 (l : Launch) (Z : State) (a0 : Array Value) (hw : ∀ d ∈ tables_1, d.before a0 Z = true) {n0 : Nat} (h : Heap) (w12 : Addr) (w3 : Addr) (w2 : Addr) (w8 : Addr) (s_SELF : Sta Z Z.heap "com/example/rens/rens/filter/XPathAxis" "SELF" "Lcom/example/rens/rens/filter/XPathAxis;" (.ref w12)) (s_CHILD : Sta Z Z.heap "com/example/rens/rens/filter/XPathAxis" "CHILD" "Lcom/example/rens/rens/filter/XPathAxis;" (.ref w3)) (s_ATTRIBUTE : Sta Z Z.heap "com/example/rens/rens/filter/XPathAxis" "ATTRIBUTE" "Lcom/example/rens/rens/filter/XPathAxis;" (.ref w2)) (s_NAMESPACE : Sta Z Z.heap "com/example/rens/rens/filter/XPathAxis" "NAMESPACE" "Lcom/example/rens/rens/filter/XPathAxis;" (.ref w8)) (x_SELF : Exa Z Z.heap w12 "com/example/rens/rens/filter/XPathAxis$13") (x_CHILD : Exa Z Z.heap w3 "com/example/rens/rens/filter/XPathAxis$4") (x_ATTRIBUTE : Exa Z Z.heap w2 "com/example/rens/rens/filter/XPathAxis$3") (x_NAMESPACE : Exa Z Z.heap w8 "com/example/rens/rens/filter/XPathAxis$9") :
    Con l (⟨"com/example/rens/rens/filter/XPathAxis", "isDisjoint", "()Z"⟩ : MethodName) prog_50_method_6_code 1 (some .boolean) ({ frames := 0, cells := 0, slots := 0, locals := 0 } : Room) Z n0 #[(.ref w12)] h (fun v h' => v = some (.int (1 : Int32)) ∧ h = h') := by
  refine Con.of_go (plainFor_of_name pn_1) (Ls := #[.val (.ref w12)]) (fun m => by first | (simp [entryFrame, mkF, argsToLocals, Value.category]; done) | rfl) ?_
  refine Go.aloadN (pc' := 1) d3_0 rfl rfl rfl ?_
  refine Go.old (fun old1 => ?_)
  refine Go.getstatic (pc' := 4) (host := "") (Or.inl (hw _ (List.mem_of_getElem? (i := 16) rfl))) Via.refl (s_CHILD.ext old1.2) d3_1 rfl ?_
  refine Go.acmpNo (pc' := 7) d3_4 rfl rfl (XT.aa_eq_f (fun q => (ne_exa x_SELF x_CHILD (by decide)) (Value.ref.inj q))) rfl ?_
  refine Go.aloadN (pc' := 8) d3_7 rfl rfl rfl ?_
  refine Go.getstatic (pc' := 11) (host := "") (Or.inl (hw _ (List.mem_of_getElem? (i := 18) rfl))) Via.refl (s_ATTRIBUTE.ext old1.2) d3_8 rfl ?_
  refine Go.acmpNo (pc' := 14) d3_11 rfl rfl (XT.aa_eq_f (fun q => (ne_exa x_SELF x_ATTRIBUTE (by decide)) (Value.ref.inj q))) rfl ?_
  refine Go.aloadN (pc' := 15) d3_14 rfl rfl rfl ?_
  refine Go.getstatic (pc' := 18) (host := "") (Or.inl (hw _ (List.mem_of_getElem? (i := 20) rfl))) Via.refl (s_NAMESPACE.ext old1.2) d3_15 rfl ?_
  refine Go.acmpNo (pc' := 21) d3_18 rfl rfl (XT.aa_eq_f (fun q => (ne_exa x_SELF x_NAMESPACE (by decide)) (Value.ref.inj q))) rfl ?_
  refine Go.aloadN (pc' := 22) d3_21 rfl rfl rfl ?_
  refine Go.getstatic (pc' := 25) (host := "") (Or.inl (hw _ (List.mem_of_getElem? (i := 22) rfl))) Via.refl (s_SELF.ext old1.2) d3_22 rfl ?_
  refine Go.acmpNo (pc' := 28) d3_25 rfl rfl (XT.aa_ne_f rfl) rfl ?_
  refine Go.iconst (pc' := 29) (v := (1 : Int32)) d3_28 rfl rfl ?_
  refine Go.goto (pc' := 33) d3_29 (by decide) (by decide) ?_
  exact Go.retN (t := .boolean) rfl (by simp) d3_33 ⟨rfl, rfl⟩ (by decide) (by decide)
theorem pd_0 : parseMethodDescriptor "(I)Lcom/example/rens/rens/filter/XPathAxis;" = some ⟨[.int], some (.object "com/example/rens/rens/filter/XPathAxis")⟩ := by decide +kernel
theorem pd_1 : parseMethodDescriptor "(I)Z" = some ⟨[.int], some .boolean⟩ := by decide +kernel
theorem pd_2 : parseMethodDescriptor "()Z" = some ⟨[], some .boolean⟩ := by decide +kernel
set_option maxRecDepth 65536 in
set_option maxHeartbeats 4000000 in
theorem c_law (l : Launch) (Z : State) (a0 : Array Value) (hw : ∀ d ∈ tables_1, d.before a0 Z = true) {n0 : Nat} (h : Heap) (p1 : Int32) (w0 : Addr) (w1 : Addr) (w2 : Addr) (w3 : Addr) (w4 : Addr) (w5 : Addr) (w6 : Addr) (w7 : Addr) (w8 : Addr) (w9 : Addr) (w10 : Addr) (w11 : Addr) (w12 : Addr) (s0 : Sta Z Z.heap "com/example/rens/rens/filter/XPathAxis" "ANCESTOR" "Lcom/example/rens/rens/filter/XPathAxis;" (.ref w0)) (s1 : Sta Z Z.heap "com/example/rens/rens/filter/XPathAxis" "ANCESTOR_OR_SELF" "Lcom/example/rens/rens/filter/XPathAxis;" (.ref w1)) (s2 : Sta Z Z.heap "com/example/rens/rens/filter/XPathAxis" "ATTRIBUTE" "Lcom/example/rens/rens/filter/XPathAxis;" (.ref w2)) (s3 : Sta Z Z.heap "com/example/rens/rens/filter/XPathAxis" "CHILD" "Lcom/example/rens/rens/filter/XPathAxis;" (.ref w3)) (s4 : Sta Z Z.heap "com/example/rens/rens/filter/XPathAxis" "DESCENDANT" "Lcom/example/rens/rens/filter/XPathAxis;" (.ref w4)) (s5 : Sta Z Z.heap "com/example/rens/rens/filter/XPathAxis" "DESCENDANT_OR_SELF" "Lcom/example/rens/rens/filter/XPathAxis;" (.ref w5)) (s6 : Sta Z Z.heap "com/example/rens/rens/filter/XPathAxis" "FOLLOWING" "Lcom/example/rens/rens/filter/XPathAxis;" (.ref w6)) (s7 : Sta Z Z.heap "com/example/rens/rens/filter/XPathAxis" "FOLLOWING_SIBLING" "Lcom/example/rens/rens/filter/XPathAxis;" (.ref w7)) (s8 : Sta Z Z.heap "com/example/rens/rens/filter/XPathAxis" "NAMESPACE" "Lcom/example/rens/rens/filter/XPathAxis;" (.ref w8)) (s9 : Sta Z Z.heap "com/example/rens/rens/filter/XPathAxis" "PARENT" "Lcom/example/rens/rens/filter/XPathAxis;" (.ref w9)) (s10 : Sta Z Z.heap "com/example/rens/rens/filter/XPathAxis" "PRECEDING" "Lcom/example/rens/rens/filter/XPathAxis;" (.ref w10)) (s11 : Sta Z Z.heap "com/example/rens/rens/filter/XPathAxis" "PRECEDING_SIBLING" "Lcom/example/rens/rens/filter/XPathAxis;" (.ref w11)) (s12 : Sta Z Z.heap "com/example/rens/rens/filter/XPathAxis" "SELF" "Lcom/example/rens/rens/filter/XPathAxis;" (.ref w12)) (x0 : Exa Z Z.heap w0 "com/example/rens/rens/filter/XPathAxis$1") (x1 : Exa Z Z.heap w1 "com/example/rens/rens/filter/XPathAxis$2") (x2 : Exa Z Z.heap w2 "com/example/rens/rens/filter/XPathAxis$3") (x3 : Exa Z Z.heap w3 "com/example/rens/rens/filter/XPathAxis$4") (x4 : Exa Z Z.heap w4 "com/example/rens/rens/filter/XPathAxis$5") (x5 : Exa Z Z.heap w5 "com/example/rens/rens/filter/XPathAxis$6") (x6 : Exa Z Z.heap w6 "com/example/rens/rens/filter/XPathAxis$7") (x7 : Exa Z Z.heap w7 "com/example/rens/rens/filter/XPathAxis$8") (x8 : Exa Z Z.heap w8 "com/example/rens/rens/filter/XPathAxis$9") (x9 : Exa Z Z.heap w9 "com/example/rens/rens/filter/XPathAxis$10") (x10 : Exa Z Z.heap w10 "com/example/rens/rens/filter/XPathAxis$11") (x11 : Exa Z Z.heap w11 "com/example/rens/rens/filter/XPathAxis$12") (x12 : Exa Z Z.heap w12 "com/example/rens/rens/filter/XPathAxis$13") :
    Con l x code maxLocals ret room_1 Z n0 #[(.int p1)] h (fun v h' => v = some (.int (1 : Int32)) ∧ h = h') := by
  refine Con.of_go (plainFor_of_name pn_0) (Ls := #[.val (.int p1), .unset, .unset, .unset]) (fun m => by first | (simp [entryFrame, mkF, argsToLocals, Value.category, maxLocals]; done) | rfl) ?_
  refine Go.iloadN (pc' := 1) at_0 rfl rfl ?_
  refine Go.ldcI (pc' := 3) (hw _ (List.mem_of_getElem? (i := 0) rfl)) at_1 rfl ?_
  refine Go.iand (pc' := 4) at_3 rfl ?_
  refine Go.bipush (pc' := 6) (v := (13 : Int32)) at_4 rfl rfl ?_
  refine Go.irem (pc' := 7) at_6 (by decide) rfl ?_
  refine Go.istoreN (pc' := 8) (Ls' := #[.val (.int p1), .val (.int ((p1 &&& (2147483647 : Int32)) % (13 : Int32))), .unset, .unset]) at_7 rfl rfl ?_
  obtain hk1 | hk1 | hk1 | hk1 | hk1 | hk1 | hk1 | hk1 | hk1 | hk1 | hk1 | hk1 | hk1 := own_mod13 p1
  ·
    rw [hk1]
    refine Go.iloadN (pc' := 9) at_8 rfl rfl ?_
    refine Go.callS (cells' := 0) (slots' := 0) (pc' := 12) [(.int (0 : Int32))] [] (hw _ (List.mem_of_getElem? (i := 1) rfl)) (hw _ (List.mem_of_getElem? (i := 2) rfl)) (hw _ (List.mem_of_getElem? (i := 3) rfl)) (hw _ (List.mem_of_getElem? (i := 4) rfl)) (by decide) (c_pick0 l Z a0 hw h w0 s0) pd_0 rfl rfl rfl rfl rfl (by decide) (by decide) (by decide) (by decide) at_9 rfl ?_
    rintro _ _ ⟨rfl, rfl⟩
    show Go _ _ _ _ _ _ _ _ _ _ _ _ 12 #[.val (.int p1), .val (.int (0 : Int32)), .unset, .unset] [(.ref w0)]
    refine Go.astoreN (pc' := 13) (Ls' := #[.val (.int p1), .val (.int (0 : Int32)), .val (.ref w0), .unset]) at_12 rfl rfl rfl ?_
    refine Go.iloadN (pc' := 14) at_13 rfl rfl ?_
    refine Go.callS (cells' := 0) (slots' := 0) (pc' := 17) [(.int (0 : Int32))] [] (hw _ (List.mem_of_getElem? (i := 8) rfl)) (hw _ (List.mem_of_getElem? (i := 9) rfl)) (hw _ (List.mem_of_getElem? (i := 3) rfl)) (hw _ (List.mem_of_getElem? (i := 10) rfl)) (by decide) (c_one0 l Z a0 hw h) pd_1 rfl rfl rfl rfl rfl (by decide) (by decide) (by decide) (by decide) at_14 rfl ?_
    rintro _ _ ⟨rfl, rfl⟩
    show Go _ _ _ _ _ _ _ _ _ _ _ _ 17 #[.val (.int p1), .val (.int (0 : Int32)), .val (.ref w0), .unset] [(.int (0 : Int32))]
    refine Go.istoreN (pc' := 18) (Ls' := #[.val (.int p1), .val (.int (0 : Int32)), .val (.ref w0), .val (.int (0 : Int32))]) at_17 rfl rfl ?_
    refine Go.aloadN (pc' := 19) at_18 rfl rfl rfl ?_
    refine Go.old (fun old4 => ?_)
    refine Go.callV (cells' := 0) (slots' := 0) (pc' := 22) [] [] (x0.ext old4.2) (hw _ (List.mem_of_getElem? (i := 11) rfl)) (hw _ (List.mem_of_getElem? (i := 12) rfl)) (fun s' hs' => notFace_of_selects (args := #[]) (mvT hs' (hw _ (List.mem_of_getElem? (i := 14) rfl)))) (hw _ (List.mem_of_getElem? (i := 14) rfl)) (hw _ (List.mem_of_getElem? (i := 13) rfl)) (hw _ (List.mem_of_getElem? (i := 6) rfl)) (hw _ (List.mem_of_getElem? (i := 15) rfl)) (by decide) (c_dis0 l Z a0 hw h w0 w3 w2 w8 w12 s3 s2 s8 s12 x0 x3 x2 x8 x12) pd_2 rfl rfl rfl rfl rfl (by decide) (by decide) (by decide) (by decide) at_19 rfl ?_
    rintro _ _ ⟨rfl, rfl⟩
    show Go _ _ _ _ _ _ _ _ _ _ _ _ 22 #[.val (.int p1), .val (.int (0 : Int32)), .val (.ref w0), .val (.int (0 : Int32))] [(.int (0 : Int32))]
    refine Go.iloadN (pc' := 23) at_22 rfl rfl ?_
    refine Go.icmpNo (pc' := 26) at_23 (XT.ii_ne_f (by decide)) rfl ?_
    refine Go.iconst (pc' := 27) (v := (1 : Int32)) at_26 rfl rfl ?_
    refine Go.goto (pc' := 31) at_27 (by decide) (by decide) ?_
    exact Go.retN (t := .boolean) rfl (by simp) at_31 ⟨rfl, rfl⟩ (by decide) (by decide)
  ·
    rw [hk1]
    refine Go.iloadN (pc' := 9) at_8 rfl rfl ?_
    refine Go.callS (cells' := 0) (slots' := 0) (pc' := 12) [(.int (1 : Int32))] [] (hw _ (List.mem_of_getElem? (i := 1) rfl)) (hw _ (List.mem_of_getElem? (i := 2) rfl)) (hw _ (List.mem_of_getElem? (i := 3) rfl)) (hw _ (List.mem_of_getElem? (i := 4) rfl)) (by decide) (c_pick1 l Z a0 hw h w1 s1) pd_0 rfl rfl rfl rfl rfl (by decide) (by decide) (by decide) (by decide) at_9 rfl ?_
    rintro _ _ ⟨rfl, rfl⟩
    show Go _ _ _ _ _ _ _ _ _ _ _ _ 12 #[.val (.int p1), .val (.int (1 : Int32)), .unset, .unset] [(.ref w1)]
    refine Go.astoreN (pc' := 13) (Ls' := #[.val (.int p1), .val (.int (1 : Int32)), .val (.ref w1), .unset]) at_12 rfl rfl rfl ?_
    refine Go.iloadN (pc' := 14) at_13 rfl rfl ?_
    refine Go.callS (cells' := 0) (slots' := 0) (pc' := 17) [(.int (1 : Int32))] [] (hw _ (List.mem_of_getElem? (i := 8) rfl)) (hw _ (List.mem_of_getElem? (i := 9) rfl)) (hw _ (List.mem_of_getElem? (i := 3) rfl)) (hw _ (List.mem_of_getElem? (i := 10) rfl)) (by decide) (c_one1 l Z a0 hw h) pd_1 rfl rfl rfl rfl rfl (by decide) (by decide) (by decide) (by decide) at_14 rfl ?_
    rintro _ _ ⟨rfl, rfl⟩
    show Go _ _ _ _ _ _ _ _ _ _ _ _ 17 #[.val (.int p1), .val (.int (1 : Int32)), .val (.ref w1), .unset] [(.int (0 : Int32))]
    refine Go.istoreN (pc' := 18) (Ls' := #[.val (.int p1), .val (.int (1 : Int32)), .val (.ref w1), .val (.int (0 : Int32))]) at_17 rfl rfl ?_
    refine Go.aloadN (pc' := 19) at_18 rfl rfl rfl ?_
    refine Go.old (fun old8 => ?_)
    refine Go.callV (cells' := 0) (slots' := 0) (pc' := 22) [] [] (x1.ext old8.2) (hw _ (List.mem_of_getElem? (i := 11) rfl)) (hw _ (List.mem_of_getElem? (i := 12) rfl)) (fun s' hs' => notFace_of_selects (args := #[]) (mvT hs' (hw _ (List.mem_of_getElem? (i := 14) rfl)))) (hw _ (List.mem_of_getElem? (i := 45) rfl)) (hw _ (List.mem_of_getElem? (i := 13) rfl)) (hw _ (List.mem_of_getElem? (i := 6) rfl)) (hw _ (List.mem_of_getElem? (i := 15) rfl)) (by decide) (c_dis1 l Z a0 hw h w1 w3 w2 w8 w12 s3 s2 s8 s12 x1 x3 x2 x8 x12) pd_2 rfl rfl rfl rfl rfl (by decide) (by decide) (by decide) (by decide) at_19 rfl ?_
    rintro _ _ ⟨rfl, rfl⟩
    show Go _ _ _ _ _ _ _ _ _ _ _ _ 22 #[.val (.int p1), .val (.int (1 : Int32)), .val (.ref w1), .val (.int (0 : Int32))] [(.int (0 : Int32))]
    refine Go.iloadN (pc' := 23) at_22 rfl rfl ?_
    refine Go.icmpNo (pc' := 26) at_23 (XT.ii_ne_f (by decide)) rfl ?_
    refine Go.iconst (pc' := 27) (v := (1 : Int32)) at_26 rfl rfl ?_
    refine Go.goto (pc' := 31) at_27 (by decide) (by decide) ?_
    exact Go.retN (t := .boolean) rfl (by simp) at_31 ⟨rfl, rfl⟩ (by decide) (by decide)
  ·
    rw [hk1]
    refine Go.iloadN (pc' := 9) at_8 rfl rfl ?_
    refine Go.callS (cells' := 0) (slots' := 0) (pc' := 12) [(.int (2 : Int32))] [] (hw _ (List.mem_of_getElem? (i := 1) rfl)) (hw _ (List.mem_of_getElem? (i := 2) rfl)) (hw _ (List.mem_of_getElem? (i := 3) rfl)) (hw _ (List.mem_of_getElem? (i := 4) rfl)) (by decide) (c_pick2 l Z a0 hw h w2 s2) pd_0 rfl rfl rfl rfl rfl (by decide) (by decide) (by decide) (by decide) at_9 rfl ?_
    rintro _ _ ⟨rfl, rfl⟩
    show Go _ _ _ _ _ _ _ _ _ _ _ _ 12 #[.val (.int p1), .val (.int (2 : Int32)), .unset, .unset] [(.ref w2)]
    refine Go.astoreN (pc' := 13) (Ls' := #[.val (.int p1), .val (.int (2 : Int32)), .val (.ref w2), .unset]) at_12 rfl rfl rfl ?_
    refine Go.iloadN (pc' := 14) at_13 rfl rfl ?_
    refine Go.callS (cells' := 0) (slots' := 0) (pc' := 17) [(.int (2 : Int32))] [] (hw _ (List.mem_of_getElem? (i := 8) rfl)) (hw _ (List.mem_of_getElem? (i := 9) rfl)) (hw _ (List.mem_of_getElem? (i := 3) rfl)) (hw _ (List.mem_of_getElem? (i := 10) rfl)) (by decide) (c_one2 l Z a0 hw h) pd_1 rfl rfl rfl rfl rfl (by decide) (by decide) (by decide) (by decide) at_14 rfl ?_
    rintro _ _ ⟨rfl, rfl⟩
    show Go _ _ _ _ _ _ _ _ _ _ _ _ 17 #[.val (.int p1), .val (.int (2 : Int32)), .val (.ref w2), .unset] [(.int (1 : Int32))]
    refine Go.istoreN (pc' := 18) (Ls' := #[.val (.int p1), .val (.int (2 : Int32)), .val (.ref w2), .val (.int (1 : Int32))]) at_17 rfl rfl ?_
    refine Go.aloadN (pc' := 19) at_18 rfl rfl rfl ?_
    refine Go.old (fun old12 => ?_)
    refine Go.callV (cells' := 0) (slots' := 0) (pc' := 22) [] [] (x2.ext old12.2) (hw _ (List.mem_of_getElem? (i := 11) rfl)) (hw _ (List.mem_of_getElem? (i := 12) rfl)) (fun s' hs' => notFace_of_selects (args := #[]) (mvT hs' (hw _ (List.mem_of_getElem? (i := 14) rfl)))) (hw _ (List.mem_of_getElem? (i := 39) rfl)) (hw _ (List.mem_of_getElem? (i := 13) rfl)) (hw _ (List.mem_of_getElem? (i := 6) rfl)) (hw _ (List.mem_of_getElem? (i := 15) rfl)) (by decide) (c_dis2 l Z a0 hw h w2 w3 w8 w12 s2 s3 s8 s12 x2 x3 x8 x12) pd_2 rfl rfl rfl rfl rfl (by decide) (by decide) (by decide) (by decide) at_19 rfl ?_
    rintro _ _ ⟨rfl, rfl⟩
    show Go _ _ _ _ _ _ _ _ _ _ _ _ 22 #[.val (.int p1), .val (.int (2 : Int32)), .val (.ref w2), .val (.int (1 : Int32))] [(.int (1 : Int32))]
    refine Go.iloadN (pc' := 23) at_22 rfl rfl ?_
    refine Go.icmpNo (pc' := 26) at_23 (XT.ii_ne_f (by decide)) rfl ?_
    refine Go.iconst (pc' := 27) (v := (1 : Int32)) at_26 rfl rfl ?_
    refine Go.goto (pc' := 31) at_27 (by decide) (by decide) ?_
    exact Go.retN (t := .boolean) rfl (by simp) at_31 ⟨rfl, rfl⟩ (by decide) (by decide)
  ·
    rw [hk1]
    refine Go.iloadN (pc' := 9) at_8 rfl rfl ?_
    refine Go.callS (cells' := 0) (slots' := 0) (pc' := 12) [(.int (3 : Int32))] [] (hw _ (List.mem_of_getElem? (i := 1) rfl)) (hw _ (List.mem_of_getElem? (i := 2) rfl)) (hw _ (List.mem_of_getElem? (i := 3) rfl)) (hw _ (List.mem_of_getElem? (i := 4) rfl)) (by decide) (c_pick3 l Z a0 hw h w3 s3) pd_0 rfl rfl rfl rfl rfl (by decide) (by decide) (by decide) (by decide) at_9 rfl ?_
    rintro _ _ ⟨rfl, rfl⟩
    show Go _ _ _ _ _ _ _ _ _ _ _ _ 12 #[.val (.int p1), .val (.int (3 : Int32)), .unset, .unset] [(.ref w3)]
    refine Go.astoreN (pc' := 13) (Ls' := #[.val (.int p1), .val (.int (3 : Int32)), .val (.ref w3), .unset]) at_12 rfl rfl rfl ?_
    refine Go.iloadN (pc' := 14) at_13 rfl rfl ?_
    refine Go.callS (cells' := 0) (slots' := 0) (pc' := 17) [(.int (3 : Int32))] [] (hw _ (List.mem_of_getElem? (i := 8) rfl)) (hw _ (List.mem_of_getElem? (i := 9) rfl)) (hw _ (List.mem_of_getElem? (i := 3) rfl)) (hw _ (List.mem_of_getElem? (i := 10) rfl)) (by decide) (c_one3 l Z a0 hw h) pd_1 rfl rfl rfl rfl rfl (by decide) (by decide) (by decide) (by decide) at_14 rfl ?_
    rintro _ _ ⟨rfl, rfl⟩
    show Go _ _ _ _ _ _ _ _ _ _ _ _ 17 #[.val (.int p1), .val (.int (3 : Int32)), .val (.ref w3), .unset] [(.int (1 : Int32))]
    refine Go.istoreN (pc' := 18) (Ls' := #[.val (.int p1), .val (.int (3 : Int32)), .val (.ref w3), .val (.int (1 : Int32))]) at_17 rfl rfl ?_
    refine Go.aloadN (pc' := 19) at_18 rfl rfl rfl ?_
    refine Go.old (fun old16 => ?_)
    refine Go.callV (cells' := 0) (slots' := 0) (pc' := 22) [] [] (x3.ext old16.2) (hw _ (List.mem_of_getElem? (i := 11) rfl)) (hw _ (List.mem_of_getElem? (i := 12) rfl)) (fun s' hs' => notFace_of_selects (args := #[]) (mvT hs' (hw _ (List.mem_of_getElem? (i := 14) rfl)))) (hw _ (List.mem_of_getElem? (i := 25) rfl)) (hw _ (List.mem_of_getElem? (i := 13) rfl)) (hw _ (List.mem_of_getElem? (i := 6) rfl)) (hw _ (List.mem_of_getElem? (i := 15) rfl)) (by decide) (c_dis3 l Z a0 hw h w3 w2 w8 w12 s3 s2 s8 s12 x3 x2 x8 x12) pd_2 rfl rfl rfl rfl rfl (by decide) (by decide) (by decide) (by decide) at_19 rfl ?_
    rintro _ _ ⟨rfl, rfl⟩
    show Go _ _ _ _ _ _ _ _ _ _ _ _ 22 #[.val (.int p1), .val (.int (3 : Int32)), .val (.ref w3), .val (.int (1 : Int32))] [(.int (1 : Int32))]
    refine Go.iloadN (pc' := 23) at_22 rfl rfl ?_
    refine Go.icmpNo (pc' := 26) at_23 (XT.ii_ne_f (by decide)) rfl ?_
    refine Go.iconst (pc' := 27) (v := (1 : Int32)) at_26 rfl rfl ?_
    refine Go.goto (pc' := 31) at_27 (by decide) (by decide) ?_
    exact Go.retN (t := .boolean) rfl (by simp) at_31 ⟨rfl, rfl⟩ (by decide) (by decide)
  ·
    rw [hk1]
    refine Go.iloadN (pc' := 9) at_8 rfl rfl ?_
    refine Go.callS (cells' := 0) (slots' := 0) (pc' := 12) [(.int (4 : Int32))] [] (hw _ (List.mem_of_getElem? (i := 1) rfl)) (hw _ (List.mem_of_getElem? (i := 2) rfl)) (hw _ (List.mem_of_getElem? (i := 3) rfl)) (hw _ (List.mem_of_getElem? (i := 4) rfl)) (by decide) (c_pick4 l Z a0 hw h w4 s4) pd_0 rfl rfl rfl rfl rfl (by decide) (by decide) (by decide) (by decide) at_9 rfl ?_
    rintro _ _ ⟨rfl, rfl⟩
    show Go _ _ _ _ _ _ _ _ _ _ _ _ 12 #[.val (.int p1), .val (.int (4 : Int32)), .unset, .unset] [(.ref w4)]
    refine Go.astoreN (pc' := 13) (Ls' := #[.val (.int p1), .val (.int (4 : Int32)), .val (.ref w4), .unset]) at_12 rfl rfl rfl ?_
    refine Go.iloadN (pc' := 14) at_13 rfl rfl ?_
    refine Go.callS (cells' := 0) (slots' := 0) (pc' := 17) [(.int (4 : Int32))] [] (hw _ (List.mem_of_getElem? (i := 8) rfl)) (hw _ (List.mem_of_getElem? (i := 9) rfl)) (hw _ (List.mem_of_getElem? (i := 3) rfl)) (hw _ (List.mem_of_getElem? (i := 10) rfl)) (by decide) (c_one4 l Z a0 hw h) pd_1 rfl rfl rfl rfl rfl (by decide) (by decide) (by decide) (by decide) at_14 rfl ?_
    rintro _ _ ⟨rfl, rfl⟩
    show Go _ _ _ _ _ _ _ _ _ _ _ _ 17 #[.val (.int p1), .val (.int (4 : Int32)), .val (.ref w4), .unset] [(.int (0 : Int32))]
    refine Go.istoreN (pc' := 18) (Ls' := #[.val (.int p1), .val (.int (4 : Int32)), .val (.ref w4), .val (.int (0 : Int32))]) at_17 rfl rfl ?_
    refine Go.aloadN (pc' := 19) at_18 rfl rfl rfl ?_
    refine Go.old (fun old20 => ?_)
    refine Go.callV (cells' := 0) (slots' := 0) (pc' := 22) [] [] (x4.ext old20.2) (hw _ (List.mem_of_getElem? (i := 11) rfl)) (hw _ (List.mem_of_getElem? (i := 12) rfl)) (fun s' hs' => notFace_of_selects (args := #[]) (mvT hs' (hw _ (List.mem_of_getElem? (i := 14) rfl)))) (hw _ (List.mem_of_getElem? (i := 55) rfl)) (hw _ (List.mem_of_getElem? (i := 13) rfl)) (hw _ (List.mem_of_getElem? (i := 6) rfl)) (hw _ (List.mem_of_getElem? (i := 15) rfl)) (by decide) (c_dis4 l Z a0 hw h w4 w3 w2 w8 w12 s3 s2 s8 s12 x4 x3 x2 x8 x12) pd_2 rfl rfl rfl rfl rfl (by decide) (by decide) (by decide) (by decide) at_19 rfl ?_
    rintro _ _ ⟨rfl, rfl⟩
    show Go _ _ _ _ _ _ _ _ _ _ _ _ 22 #[.val (.int p1), .val (.int (4 : Int32)), .val (.ref w4), .val (.int (0 : Int32))] [(.int (0 : Int32))]
    refine Go.iloadN (pc' := 23) at_22 rfl rfl ?_
    refine Go.icmpNo (pc' := 26) at_23 (XT.ii_ne_f (by decide)) rfl ?_
    refine Go.iconst (pc' := 27) (v := (1 : Int32)) at_26 rfl rfl ?_
    refine Go.goto (pc' := 31) at_27 (by decide) (by decide) ?_
    exact Go.retN (t := .boolean) rfl (by simp) at_31 ⟨rfl, rfl⟩ (by decide) (by decide)
  ·
    rw [hk1]
    refine Go.iloadN (pc' := 9) at_8 rfl rfl ?_
    refine Go.callS (cells' := 0) (slots' := 0) (pc' := 12) [(.int (5 : Int32))] [] (hw _ (List.mem_of_getElem? (i := 1) rfl)) (hw _ (List.mem_of_getElem? (i := 2) rfl)) (hw _ (List.mem_of_getElem? (i := 3) rfl)) (hw _ (List.mem_of_getElem? (i := 4) rfl)) (by decide) (c_pick5 l Z a0 hw h w5 s5) pd_0 rfl rfl rfl rfl rfl (by decide) (by decide) (by decide) (by decide) at_9 rfl ?_
    rintro _ _ ⟨rfl, rfl⟩
    show Go _ _ _ _ _ _ _ _ _ _ _ _ 12 #[.val (.int p1), .val (.int (5 : Int32)), .unset, .unset] [(.ref w5)]
    refine Go.astoreN (pc' := 13) (Ls' := #[.val (.int p1), .val (.int (5 : Int32)), .val (.ref w5), .unset]) at_12 rfl rfl rfl ?_
    refine Go.iloadN (pc' := 14) at_13 rfl rfl ?_
    refine Go.callS (cells' := 0) (slots' := 0) (pc' := 17) [(.int (5 : Int32))] [] (hw _ (List.mem_of_getElem? (i := 8) rfl)) (hw _ (List.mem_of_getElem? (i := 9) rfl)) (hw _ (List.mem_of_getElem? (i := 3) rfl)) (hw _ (List.mem_of_getElem? (i := 10) rfl)) (by decide) (c_one5 l Z a0 hw h) pd_1 rfl rfl rfl rfl rfl (by decide) (by decide) (by decide) (by decide) at_14 rfl ?_
    rintro _ _ ⟨rfl, rfl⟩
    show Go _ _ _ _ _ _ _ _ _ _ _ _ 17 #[.val (.int p1), .val (.int (5 : Int32)), .val (.ref w5), .unset] [(.int (0 : Int32))]
    refine Go.istoreN (pc' := 18) (Ls' := #[.val (.int p1), .val (.int (5 : Int32)), .val (.ref w5), .val (.int (0 : Int32))]) at_17 rfl rfl ?_
    refine Go.aloadN (pc' := 19) at_18 rfl rfl rfl ?_
    refine Go.old (fun old24 => ?_)
    refine Go.callV (cells' := 0) (slots' := 0) (pc' := 22) [] [] (x5.ext old24.2) (hw _ (List.mem_of_getElem? (i := 11) rfl)) (hw _ (List.mem_of_getElem? (i := 12) rfl)) (fun s' hs' => notFace_of_selects (args := #[]) (mvT hs' (hw _ (List.mem_of_getElem? (i := 14) rfl)))) (hw _ (List.mem_of_getElem? (i := 31) rfl)) (hw _ (List.mem_of_getElem? (i := 13) rfl)) (hw _ (List.mem_of_getElem? (i := 6) rfl)) (hw _ (List.mem_of_getElem? (i := 15) rfl)) (by decide) (c_dis5 l Z a0 hw h w5 w3 w2 w8 w12 s3 s2 s8 s12 x5 x3 x2 x8 x12) pd_2 rfl rfl rfl rfl rfl (by decide) (by decide) (by decide) (by decide) at_19 rfl ?_
    rintro _ _ ⟨rfl, rfl⟩
    show Go _ _ _ _ _ _ _ _ _ _ _ _ 22 #[.val (.int p1), .val (.int (5 : Int32)), .val (.ref w5), .val (.int (0 : Int32))] [(.int (0 : Int32))]
    refine Go.iloadN (pc' := 23) at_22 rfl rfl ?_
    refine Go.icmpNo (pc' := 26) at_23 (XT.ii_ne_f (by decide)) rfl ?_
    refine Go.iconst (pc' := 27) (v := (1 : Int32)) at_26 rfl rfl ?_
    refine Go.goto (pc' := 31) at_27 (by decide) (by decide) ?_
    exact Go.retN (t := .boolean) rfl (by simp) at_31 ⟨rfl, rfl⟩ (by decide) (by decide)
  ·
    rw [hk1]
    refine Go.iloadN (pc' := 9) at_8 rfl rfl ?_
    refine Go.callS (cells' := 0) (slots' := 0) (pc' := 12) [(.int (6 : Int32))] [] (hw _ (List.mem_of_getElem? (i := 1) rfl)) (hw _ (List.mem_of_getElem? (i := 2) rfl)) (hw _ (List.mem_of_getElem? (i := 3) rfl)) (hw _ (List.mem_of_getElem? (i := 4) rfl)) (by decide) (c_pick6 l Z a0 hw h w6 s6) pd_0 rfl rfl rfl rfl rfl (by decide) (by decide) (by decide) (by decide) at_9 rfl ?_
    rintro _ _ ⟨rfl, rfl⟩
    show Go _ _ _ _ _ _ _ _ _ _ _ _ 12 #[.val (.int p1), .val (.int (6 : Int32)), .unset, .unset] [(.ref w6)]
    refine Go.astoreN (pc' := 13) (Ls' := #[.val (.int p1), .val (.int (6 : Int32)), .val (.ref w6), .unset]) at_12 rfl rfl rfl ?_
    refine Go.iloadN (pc' := 14) at_13 rfl rfl ?_
    refine Go.callS (cells' := 0) (slots' := 0) (pc' := 17) [(.int (6 : Int32))] [] (hw _ (List.mem_of_getElem? (i := 8) rfl)) (hw _ (List.mem_of_getElem? (i := 9) rfl)) (hw _ (List.mem_of_getElem? (i := 3) rfl)) (hw _ (List.mem_of_getElem? (i := 10) rfl)) (by decide) (c_one6 l Z a0 hw h) pd_1 rfl rfl rfl rfl rfl (by decide) (by decide) (by decide) (by decide) at_14 rfl ?_
    rintro _ _ ⟨rfl, rfl⟩
    show Go _ _ _ _ _ _ _ _ _ _ _ _ 17 #[.val (.int p1), .val (.int (6 : Int32)), .val (.ref w6), .unset] [(.int (0 : Int32))]
    refine Go.istoreN (pc' := 18) (Ls' := #[.val (.int p1), .val (.int (6 : Int32)), .val (.ref w6), .val (.int (0 : Int32))]) at_17 rfl rfl ?_
    refine Go.aloadN (pc' := 19) at_18 rfl rfl rfl ?_
    refine Go.old (fun old28 => ?_)
    refine Go.callV (cells' := 0) (slots' := 0) (pc' := 22) [] [] (x6.ext old28.2) (hw _ (List.mem_of_getElem? (i := 11) rfl)) (hw _ (List.mem_of_getElem? (i := 12) rfl)) (fun s' hs' => notFace_of_selects (args := #[]) (mvT hs' (hw _ (List.mem_of_getElem? (i := 14) rfl)))) (hw _ (List.mem_of_getElem? (i := 28) rfl)) (hw _ (List.mem_of_getElem? (i := 13) rfl)) (hw _ (List.mem_of_getElem? (i := 6) rfl)) (hw _ (List.mem_of_getElem? (i := 15) rfl)) (by decide) (c_dis6 l Z a0 hw h w6 w3 w2 w8 w12 s3 s2 s8 s12 x6 x3 x2 x8 x12) pd_2 rfl rfl rfl rfl rfl (by decide) (by decide) (by decide) (by decide) at_19 rfl ?_
    rintro _ _ ⟨rfl, rfl⟩
    show Go _ _ _ _ _ _ _ _ _ _ _ _ 22 #[.val (.int p1), .val (.int (6 : Int32)), .val (.ref w6), .val (.int (0 : Int32))] [(.int (0 : Int32))]
    refine Go.iloadN (pc' := 23) at_22 rfl rfl ?_
    refine Go.icmpNo (pc' := 26) at_23 (XT.ii_ne_f (by decide)) rfl ?_
    refine Go.iconst (pc' := 27) (v := (1 : Int32)) at_26 rfl rfl ?_
    refine Go.goto (pc' := 31) at_27 (by decide) (by decide) ?_
    exact Go.retN (t := .boolean) rfl (by simp) at_31 ⟨rfl, rfl⟩ (by decide) (by decide)
  ·
    rw [hk1]
    refine Go.iloadN (pc' := 9) at_8 rfl rfl ?_
    refine Go.callS (cells' := 0) (slots' := 0) (pc' := 12) [(.int (7 : Int32))] [] (hw _ (List.mem_of_getElem? (i := 1) rfl)) (hw _ (List.mem_of_getElem? (i := 2) rfl)) (hw _ (List.mem_of_getElem? (i := 3) rfl)) (hw _ (List.mem_of_getElem? (i := 4) rfl)) (by decide) (c_pick7 l Z a0 hw h w7 s7) pd_0 rfl rfl rfl rfl rfl (by decide) (by decide) (by decide) (by decide) at_9 rfl ?_
    rintro _ _ ⟨rfl, rfl⟩
    show Go _ _ _ _ _ _ _ _ _ _ _ _ 12 #[.val (.int p1), .val (.int (7 : Int32)), .unset, .unset] [(.ref w7)]
    refine Go.astoreN (pc' := 13) (Ls' := #[.val (.int p1), .val (.int (7 : Int32)), .val (.ref w7), .unset]) at_12 rfl rfl rfl ?_
    refine Go.iloadN (pc' := 14) at_13 rfl rfl ?_
    refine Go.callS (cells' := 0) (slots' := 0) (pc' := 17) [(.int (7 : Int32))] [] (hw _ (List.mem_of_getElem? (i := 8) rfl)) (hw _ (List.mem_of_getElem? (i := 9) rfl)) (hw _ (List.mem_of_getElem? (i := 3) rfl)) (hw _ (List.mem_of_getElem? (i := 10) rfl)) (by decide) (c_one7 l Z a0 hw h) pd_1 rfl rfl rfl rfl rfl (by decide) (by decide) (by decide) (by decide) at_14 rfl ?_
    rintro _ _ ⟨rfl, rfl⟩
    show Go _ _ _ _ _ _ _ _ _ _ _ _ 17 #[.val (.int p1), .val (.int (7 : Int32)), .val (.ref w7), .unset] [(.int (0 : Int32))]
    refine Go.istoreN (pc' := 18) (Ls' := #[.val (.int p1), .val (.int (7 : Int32)), .val (.ref w7), .val (.int (0 : Int32))]) at_17 rfl rfl ?_
    refine Go.aloadN (pc' := 19) at_18 rfl rfl rfl ?_
    refine Go.old (fun old32 => ?_)
    refine Go.callV (cells' := 0) (slots' := 0) (pc' := 22) [] [] (x7.ext old32.2) (hw _ (List.mem_of_getElem? (i := 11) rfl)) (hw _ (List.mem_of_getElem? (i := 12) rfl)) (fun s' hs' => notFace_of_selects (args := #[]) (mvT hs' (hw _ (List.mem_of_getElem? (i := 14) rfl)))) (hw _ (List.mem_of_getElem? (i := 34) rfl)) (hw _ (List.mem_of_getElem? (i := 13) rfl)) (hw _ (List.mem_of_getElem? (i := 6) rfl)) (hw _ (List.mem_of_getElem? (i := 15) rfl)) (by decide) (c_dis7 l Z a0 hw h w7 w3 w2 w8 w12 s3 s2 s8 s12 x7 x3 x2 x8 x12) pd_2 rfl rfl rfl rfl rfl (by decide) (by decide) (by decide) (by decide) at_19 rfl ?_
    rintro _ _ ⟨rfl, rfl⟩
    show Go _ _ _ _ _ _ _ _ _ _ _ _ 22 #[.val (.int p1), .val (.int (7 : Int32)), .val (.ref w7), .val (.int (0 : Int32))] [(.int (0 : Int32))]
    refine Go.iloadN (pc' := 23) at_22 rfl rfl ?_
    refine Go.icmpNo (pc' := 26) at_23 (XT.ii_ne_f (by decide)) rfl ?_
    refine Go.iconst (pc' := 27) (v := (1 : Int32)) at_26 rfl rfl ?_
    refine Go.goto (pc' := 31) at_27 (by decide) (by decide) ?_
    exact Go.retN (t := .boolean) rfl (by simp) at_31 ⟨rfl, rfl⟩ (by decide) (by decide)
  ·
    rw [hk1]
    refine Go.iloadN (pc' := 9) at_8 rfl rfl ?_
    refine Go.callS (cells' := 0) (slots' := 0) (pc' := 12) [(.int (8 : Int32))] [] (hw _ (List.mem_of_getElem? (i := 1) rfl)) (hw _ (List.mem_of_getElem? (i := 2) rfl)) (hw _ (List.mem_of_getElem? (i := 3) rfl)) (hw _ (List.mem_of_getElem? (i := 4) rfl)) (by decide) (c_pick8 l Z a0 hw h w8 s8) pd_0 rfl rfl rfl rfl rfl (by decide) (by decide) (by decide) (by decide) at_9 rfl ?_
    rintro _ _ ⟨rfl, rfl⟩
    show Go _ _ _ _ _ _ _ _ _ _ _ _ 12 #[.val (.int p1), .val (.int (8 : Int32)), .unset, .unset] [(.ref w8)]
    refine Go.astoreN (pc' := 13) (Ls' := #[.val (.int p1), .val (.int (8 : Int32)), .val (.ref w8), .unset]) at_12 rfl rfl rfl ?_
    refine Go.iloadN (pc' := 14) at_13 rfl rfl ?_
    refine Go.callS (cells' := 0) (slots' := 0) (pc' := 17) [(.int (8 : Int32))] [] (hw _ (List.mem_of_getElem? (i := 8) rfl)) (hw _ (List.mem_of_getElem? (i := 9) rfl)) (hw _ (List.mem_of_getElem? (i := 3) rfl)) (hw _ (List.mem_of_getElem? (i := 10) rfl)) (by decide) (c_one8 l Z a0 hw h) pd_1 rfl rfl rfl rfl rfl (by decide) (by decide) (by decide) (by decide) at_14 rfl ?_
    rintro _ _ ⟨rfl, rfl⟩
    show Go _ _ _ _ _ _ _ _ _ _ _ _ 17 #[.val (.int p1), .val (.int (8 : Int32)), .val (.ref w8), .unset] [(.int (1 : Int32))]
    refine Go.istoreN (pc' := 18) (Ls' := #[.val (.int p1), .val (.int (8 : Int32)), .val (.ref w8), .val (.int (1 : Int32))]) at_17 rfl rfl ?_
    refine Go.aloadN (pc' := 19) at_18 rfl rfl rfl ?_
    refine Go.old (fun old36 => ?_)
    refine Go.callV (cells' := 0) (slots' := 0) (pc' := 22) [] [] (x8.ext old36.2) (hw _ (List.mem_of_getElem? (i := 11) rfl)) (hw _ (List.mem_of_getElem? (i := 12) rfl)) (fun s' hs' => notFace_of_selects (args := #[]) (mvT hs' (hw _ (List.mem_of_getElem? (i := 14) rfl)))) (hw _ (List.mem_of_getElem? (i := 47) rfl)) (hw _ (List.mem_of_getElem? (i := 13) rfl)) (hw _ (List.mem_of_getElem? (i := 6) rfl)) (hw _ (List.mem_of_getElem? (i := 15) rfl)) (by decide) (c_dis8 l Z a0 hw h w8 w3 w2 w12 s8 s3 s2 s12 x8 x3 x2 x12) pd_2 rfl rfl rfl rfl rfl (by decide) (by decide) (by decide) (by decide) at_19 rfl ?_
    rintro _ _ ⟨rfl, rfl⟩
    show Go _ _ _ _ _ _ _ _ _ _ _ _ 22 #[.val (.int p1), .val (.int (8 : Int32)), .val (.ref w8), .val (.int (1 : Int32))] [(.int (1 : Int32))]
    refine Go.iloadN (pc' := 23) at_22 rfl rfl ?_
    refine Go.icmpNo (pc' := 26) at_23 (XT.ii_ne_f (by decide)) rfl ?_
    refine Go.iconst (pc' := 27) (v := (1 : Int32)) at_26 rfl rfl ?_
    refine Go.goto (pc' := 31) at_27 (by decide) (by decide) ?_
    exact Go.retN (t := .boolean) rfl (by simp) at_31 ⟨rfl, rfl⟩ (by decide) (by decide)
  ·
    rw [hk1]
    refine Go.iloadN (pc' := 9) at_8 rfl rfl ?_
    refine Go.callS (cells' := 0) (slots' := 0) (pc' := 12) [(.int (9 : Int32))] [] (hw _ (List.mem_of_getElem? (i := 1) rfl)) (hw _ (List.mem_of_getElem? (i := 2) rfl)) (hw _ (List.mem_of_getElem? (i := 3) rfl)) (hw _ (List.mem_of_getElem? (i := 4) rfl)) (by decide) (c_pick9 l Z a0 hw h w9 s9) pd_0 rfl rfl rfl rfl rfl (by decide) (by decide) (by decide) (by decide) at_9 rfl ?_
    rintro _ _ ⟨rfl, rfl⟩
    show Go _ _ _ _ _ _ _ _ _ _ _ _ 12 #[.val (.int p1), .val (.int (9 : Int32)), .unset, .unset] [(.ref w9)]
    refine Go.astoreN (pc' := 13) (Ls' := #[.val (.int p1), .val (.int (9 : Int32)), .val (.ref w9), .unset]) at_12 rfl rfl rfl ?_
    refine Go.iloadN (pc' := 14) at_13 rfl rfl ?_
    refine Go.callS (cells' := 0) (slots' := 0) (pc' := 17) [(.int (9 : Int32))] [] (hw _ (List.mem_of_getElem? (i := 8) rfl)) (hw _ (List.mem_of_getElem? (i := 9) rfl)) (hw _ (List.mem_of_getElem? (i := 3) rfl)) (hw _ (List.mem_of_getElem? (i := 10) rfl)) (by decide) (c_one9 l Z a0 hw h) pd_1 rfl rfl rfl rfl rfl (by decide) (by decide) (by decide) (by decide) at_14 rfl ?_
    rintro _ _ ⟨rfl, rfl⟩
    show Go _ _ _ _ _ _ _ _ _ _ _ _ 17 #[.val (.int p1), .val (.int (9 : Int32)), .val (.ref w9), .unset] [(.int (0 : Int32))]
    refine Go.istoreN (pc' := 18) (Ls' := #[.val (.int p1), .val (.int (9 : Int32)), .val (.ref w9), .val (.int (0 : Int32))]) at_17 rfl rfl ?_
    refine Go.aloadN (pc' := 19) at_18 rfl rfl rfl ?_
    refine Go.old (fun old40 => ?_)
    refine Go.callV (cells' := 0) (slots' := 0) (pc' := 22) [] [] (x9.ext old40.2) (hw _ (List.mem_of_getElem? (i := 11) rfl)) (hw _ (List.mem_of_getElem? (i := 12) rfl)) (fun s' hs' => notFace_of_selects (args := #[]) (mvT hs' (hw _ (List.mem_of_getElem? (i := 14) rfl)))) (hw _ (List.mem_of_getElem? (i := 37) rfl)) (hw _ (List.mem_of_getElem? (i := 13) rfl)) (hw _ (List.mem_of_getElem? (i := 6) rfl)) (hw _ (List.mem_of_getElem? (i := 15) rfl)) (by decide) (c_dis9 l Z a0 hw h w9 w3 w2 w8 w12 s3 s2 s8 s12 x9 x3 x2 x8 x12) pd_2 rfl rfl rfl rfl rfl (by decide) (by decide) (by decide) (by decide) at_19 rfl ?_
    rintro _ _ ⟨rfl, rfl⟩
    show Go _ _ _ _ _ _ _ _ _ _ _ _ 22 #[.val (.int p1), .val (.int (9 : Int32)), .val (.ref w9), .val (.int (0 : Int32))] [(.int (0 : Int32))]
    refine Go.iloadN (pc' := 23) at_22 rfl rfl ?_
    refine Go.icmpNo (pc' := 26) at_23 (XT.ii_ne_f (by decide)) rfl ?_
    refine Go.iconst (pc' := 27) (v := (1 : Int32)) at_26 rfl rfl ?_
    refine Go.goto (pc' := 31) at_27 (by decide) (by decide) ?_
    exact Go.retN (t := .boolean) rfl (by simp) at_31 ⟨rfl, rfl⟩ (by decide) (by decide)
  ·
    rw [hk1]
    refine Go.iloadN (pc' := 9) at_8 rfl rfl ?_
    refine Go.callS (cells' := 0) (slots' := 0) (pc' := 12) [(.int (10 : Int32))] [] (hw _ (List.mem_of_getElem? (i := 1) rfl)) (hw _ (List.mem_of_getElem? (i := 2) rfl)) (hw _ (List.mem_of_getElem? (i := 3) rfl)) (hw _ (List.mem_of_getElem? (i := 4) rfl)) (by decide) (c_pick10 l Z a0 hw h w10 s10) pd_0 rfl rfl rfl rfl rfl (by decide) (by decide) (by decide) (by decide) at_9 rfl ?_
    rintro _ _ ⟨rfl, rfl⟩
    show Go _ _ _ _ _ _ _ _ _ _ _ _ 12 #[.val (.int p1), .val (.int (10 : Int32)), .unset, .unset] [(.ref w10)]
    refine Go.astoreN (pc' := 13) (Ls' := #[.val (.int p1), .val (.int (10 : Int32)), .val (.ref w10), .unset]) at_12 rfl rfl rfl ?_
    refine Go.iloadN (pc' := 14) at_13 rfl rfl ?_
    refine Go.callS (cells' := 0) (slots' := 0) (pc' := 17) [(.int (10 : Int32))] [] (hw _ (List.mem_of_getElem? (i := 8) rfl)) (hw _ (List.mem_of_getElem? (i := 9) rfl)) (hw _ (List.mem_of_getElem? (i := 3) rfl)) (hw _ (List.mem_of_getElem? (i := 10) rfl)) (by decide) (c_one10 l Z a0 hw h) pd_1 rfl rfl rfl rfl rfl (by decide) (by decide) (by decide) (by decide) at_14 rfl ?_
    rintro _ _ ⟨rfl, rfl⟩
    show Go _ _ _ _ _ _ _ _ _ _ _ _ 17 #[.val (.int p1), .val (.int (10 : Int32)), .val (.ref w10), .unset] [(.int (0 : Int32))]
    refine Go.istoreN (pc' := 18) (Ls' := #[.val (.int p1), .val (.int (10 : Int32)), .val (.ref w10), .val (.int (0 : Int32))]) at_17 rfl rfl ?_
    refine Go.aloadN (pc' := 19) at_18 rfl rfl rfl ?_
    refine Go.old (fun old44 => ?_)
    refine Go.callV (cells' := 0) (slots' := 0) (pc' := 22) [] [] (x10.ext old44.2) (hw _ (List.mem_of_getElem? (i := 11) rfl)) (hw _ (List.mem_of_getElem? (i := 12) rfl)) (fun s' hs' => notFace_of_selects (args := #[]) (mvT hs' (hw _ (List.mem_of_getElem? (i := 14) rfl)))) (hw _ (List.mem_of_getElem? (i := 50) rfl)) (hw _ (List.mem_of_getElem? (i := 13) rfl)) (hw _ (List.mem_of_getElem? (i := 6) rfl)) (hw _ (List.mem_of_getElem? (i := 15) rfl)) (by decide) (c_dis10 l Z a0 hw h w10 w3 w2 w8 w12 s3 s2 s8 s12 x10 x3 x2 x8 x12) pd_2 rfl rfl rfl rfl rfl (by decide) (by decide) (by decide) (by decide) at_19 rfl ?_
    rintro _ _ ⟨rfl, rfl⟩
    show Go _ _ _ _ _ _ _ _ _ _ _ _ 22 #[.val (.int p1), .val (.int (10 : Int32)), .val (.ref w10), .val (.int (0 : Int32))] [(.int (0 : Int32))]
    refine Go.iloadN (pc' := 23) at_22 rfl rfl ?_
    refine Go.icmpNo (pc' := 26) at_23 (XT.ii_ne_f (by decide)) rfl ?_
    refine Go.iconst (pc' := 27) (v := (1 : Int32)) at_26 rfl rfl ?_
    refine Go.goto (pc' := 31) at_27 (by decide) (by decide) ?_
    exact Go.retN (t := .boolean) rfl (by simp) at_31 ⟨rfl, rfl⟩ (by decide) (by decide)
  ·
    rw [hk1]
    refine Go.iloadN (pc' := 9) at_8 rfl rfl ?_
    refine Go.callS (cells' := 0) (slots' := 0) (pc' := 12) [(.int (11 : Int32))] [] (hw _ (List.mem_of_getElem? (i := 1) rfl)) (hw _ (List.mem_of_getElem? (i := 2) rfl)) (hw _ (List.mem_of_getElem? (i := 3) rfl)) (hw _ (List.mem_of_getElem? (i := 4) rfl)) (by decide) (c_pick11 l Z a0 hw h w11 s11) pd_0 rfl rfl rfl rfl rfl (by decide) (by decide) (by decide) (by decide) at_9 rfl ?_
    rintro _ _ ⟨rfl, rfl⟩
    show Go _ _ _ _ _ _ _ _ _ _ _ _ 12 #[.val (.int p1), .val (.int (11 : Int32)), .unset, .unset] [(.ref w11)]
    refine Go.astoreN (pc' := 13) (Ls' := #[.val (.int p1), .val (.int (11 : Int32)), .val (.ref w11), .unset]) at_12 rfl rfl rfl ?_
    refine Go.iloadN (pc' := 14) at_13 rfl rfl ?_
    refine Go.callS (cells' := 0) (slots' := 0) (pc' := 17) [(.int (11 : Int32))] [] (hw _ (List.mem_of_getElem? (i := 8) rfl)) (hw _ (List.mem_of_getElem? (i := 9) rfl)) (hw _ (List.mem_of_getElem? (i := 3) rfl)) (hw _ (List.mem_of_getElem? (i := 10) rfl)) (by decide) (c_one11 l Z a0 hw h) pd_1 rfl rfl rfl rfl rfl (by decide) (by decide) (by decide) (by decide) at_14 rfl ?_
    rintro _ _ ⟨rfl, rfl⟩
    show Go _ _ _ _ _ _ _ _ _ _ _ _ 17 #[.val (.int p1), .val (.int (11 : Int32)), .val (.ref w11), .unset] [(.int (0 : Int32))]
    refine Go.istoreN (pc' := 18) (Ls' := #[.val (.int p1), .val (.int (11 : Int32)), .val (.ref w11), .val (.int (0 : Int32))]) at_17 rfl rfl ?_
    refine Go.aloadN (pc' := 19) at_18 rfl rfl rfl ?_
    refine Go.old (fun old48 => ?_)
    refine Go.callV (cells' := 0) (slots' := 0) (pc' := 22) [] [] (x11.ext old48.2) (hw _ (List.mem_of_getElem? (i := 11) rfl)) (hw _ (List.mem_of_getElem? (i := 12) rfl)) (fun s' hs' => notFace_of_selects (args := #[]) (mvT hs' (hw _ (List.mem_of_getElem? (i := 14) rfl)))) (hw _ (List.mem_of_getElem? (i := 42) rfl)) (hw _ (List.mem_of_getElem? (i := 13) rfl)) (hw _ (List.mem_of_getElem? (i := 6) rfl)) (hw _ (List.mem_of_getElem? (i := 15) rfl)) (by decide) (c_dis11 l Z a0 hw h w11 w3 w2 w8 w12 s3 s2 s8 s12 x11 x3 x2 x8 x12) pd_2 rfl rfl rfl rfl rfl (by decide) (by decide) (by decide) (by decide) at_19 rfl ?_
    rintro _ _ ⟨rfl, rfl⟩
    show Go _ _ _ _ _ _ _ _ _ _ _ _ 22 #[.val (.int p1), .val (.int (11 : Int32)), .val (.ref w11), .val (.int (0 : Int32))] [(.int (0 : Int32))]
    refine Go.iloadN (pc' := 23) at_22 rfl rfl ?_
    refine Go.icmpNo (pc' := 26) at_23 (XT.ii_ne_f (by decide)) rfl ?_
    refine Go.iconst (pc' := 27) (v := (1 : Int32)) at_26 rfl rfl ?_
    refine Go.goto (pc' := 31) at_27 (by decide) (by decide) ?_
    exact Go.retN (t := .boolean) rfl (by simp) at_31 ⟨rfl, rfl⟩ (by decide) (by decide)
  ·
    rw [hk1]
    refine Go.iloadN (pc' := 9) at_8 rfl rfl ?_
    refine Go.callS (cells' := 0) (slots' := 0) (pc' := 12) [(.int (12 : Int32))] [] (hw _ (List.mem_of_getElem? (i := 1) rfl)) (hw _ (List.mem_of_getElem? (i := 2) rfl)) (hw _ (List.mem_of_getElem? (i := 3) rfl)) (hw _ (List.mem_of_getElem? (i := 4) rfl)) (by decide) (c_pick12 l Z a0 hw h w12 s12) pd_0 rfl rfl rfl rfl rfl (by decide) (by decide) (by decide) (by decide) at_9 rfl ?_
    rintro _ _ ⟨rfl, rfl⟩
    show Go _ _ _ _ _ _ _ _ _ _ _ _ 12 #[.val (.int p1), .val (.int (12 : Int32)), .unset, .unset] [(.ref w12)]
    refine Go.astoreN (pc' := 13) (Ls' := #[.val (.int p1), .val (.int (12 : Int32)), .val (.ref w12), .unset]) at_12 rfl rfl rfl ?_
    refine Go.iloadN (pc' := 14) at_13 rfl rfl ?_
    refine Go.callS (cells' := 0) (slots' := 0) (pc' := 17) [(.int (12 : Int32))] [] (hw _ (List.mem_of_getElem? (i := 8) rfl)) (hw _ (List.mem_of_getElem? (i := 9) rfl)) (hw _ (List.mem_of_getElem? (i := 3) rfl)) (hw _ (List.mem_of_getElem? (i := 10) rfl)) (by decide) (c_one12 l Z a0 hw h) pd_1 rfl rfl rfl rfl rfl (by decide) (by decide) (by decide) (by decide) at_14 rfl ?_
    rintro _ _ ⟨rfl, rfl⟩
    show Go _ _ _ _ _ _ _ _ _ _ _ _ 17 #[.val (.int p1), .val (.int (12 : Int32)), .val (.ref w12), .unset] [(.int (1 : Int32))]
    refine Go.istoreN (pc' := 18) (Ls' := #[.val (.int p1), .val (.int (12 : Int32)), .val (.ref w12), .val (.int (1 : Int32))]) at_17 rfl rfl ?_
    refine Go.aloadN (pc' := 19) at_18 rfl rfl rfl ?_
    refine Go.old (fun old52 => ?_)
    refine Go.callV (cells' := 0) (slots' := 0) (pc' := 22) [] [] (x12.ext old52.2) (hw _ (List.mem_of_getElem? (i := 11) rfl)) (hw _ (List.mem_of_getElem? (i := 12) rfl)) (fun s' hs' => notFace_of_selects (args := #[]) (mvT hs' (hw _ (List.mem_of_getElem? (i := 14) rfl)))) (hw _ (List.mem_of_getElem? (i := 52) rfl)) (hw _ (List.mem_of_getElem? (i := 13) rfl)) (hw _ (List.mem_of_getElem? (i := 6) rfl)) (hw _ (List.mem_of_getElem? (i := 15) rfl)) (by decide) (c_dis12 l Z a0 hw h w12 w3 w2 w8 s12 s3 s2 s8 x12 x3 x2 x8) pd_2 rfl rfl rfl rfl rfl (by decide) (by decide) (by decide) (by decide) at_19 rfl ?_
    rintro _ _ ⟨rfl, rfl⟩
    show Go _ _ _ _ _ _ _ _ _ _ _ _ 22 #[.val (.int p1), .val (.int (12 : Int32)), .val (.ref w12), .val (.int (1 : Int32))] [(.int (1 : Int32))]
    refine Go.iloadN (pc' := 23) at_22 rfl rfl ?_
    refine Go.icmpNo (pc' := 26) at_23 (XT.ii_ne_f (by decide)) rfl ?_
    refine Go.iconst (pc' := 27) (v := (1 : Int32)) at_26 rfl rfl ?_
    refine Go.goto (pc' := 31) at_27 (by decide) (by decide) ?_
    exact Go.retN (t := .boolean) rfl (by simp) at_31 ⟨rfl, rfl⟩ (by decide) (by decide)
set_option maxRecDepth 65536 in
set_option maxHeartbeats 4000000 in
theorem comes_1 {Post : Tables → Env → Array Value → State → Outcome → State → Prop} (hpost : ∀ tb e args s v u, (limb_1_1.after args s (.returned v) u = true ∧ limb_1_2.after args s (.returned v) u = true ∧ True) → FrameEnd s (.returned v) u (Jvm.fieldLocs frame_1_writes args s ++ Jvm.arrayLocs frame_1_arrays args s ++ Jvm.staticLocs frame_1_statics s) 0 0 → Post tb e args s (.returned v) u) :
    ArmFor flags0 classFile x code maxLocals ret World_1 tables_1 room_1 Calls_1 rest_1 Pre_1 Post := by
  intro l hfl _ _ p e ha hc hk s m args below hf hA hF happ hP
  obtain ⟨hcalls, hrest, hpre⟩ := hP
  obtain ⟨-, -, -, hnamed, -, -, -, hat⟩ := (Spec.applies_iff hf).mp happ
  obtain ⟨hg, hn⟩ := and_e (Cond.before_iff.mp (show (Jvm.Cond.and given_1 narrow_1).before args s = true from hpre))
  obtain ⟨g1, g2⟩ := and_e hg
  obtain ⟨w0, rfl⟩ : ∃ w0 : Value, args = #[w0] := by
    have hs : args.size = 1 := by simpa [Cond.value, given_1] using g1
    obtain ⟨L⟩ := args
    match L, hs with
    | [w0], _ => exact ⟨w0, rfl⟩
  have hw := fun d (hd : d ∈ tables_1) => atoms_spec (ws := Jvm.Cond.code x code maxLocals ret :: tables_1) hat d (List.mem_cons_of_mem _ hd)
  have hfit : Fit s := fun {y c} hc i hi => by
    obtain ⟨ha, rfl⟩ := Array.getElem?_eq_some_iff.mp hc
    have q := List.all_eq_true.mp ((Array.all_eq_true_iff_forall_mem.mp hF) _ (Array.getElem_mem ha)) i (List.mem_range.mpr hi)
    simpa [Array.getElem?_eq_getElem hi] using q
  obtain ⟨i0, ei0⟩ := is_v g2
  obtain rfl : w0 = (.int i0) := Option.some.inj ei0
  obtain ⟨q0, r0⟩ := and_e hn
  obtain ⟨w0a, ew0⟩ := exa_v q0
  have x0 := Exa.start ew0 q0
  have s0 := Sta.start ew0 (Or.inr ⟨hw _ (List.mem_of_getElem? (i := 6) rfl), hw _ (List.mem_of_getElem? (i := 7) rfl)⟩)
  obtain ⟨q3, r3⟩ := and_e r0
  obtain ⟨w3a, ew3⟩ := exa_v q3
  have x3 := Exa.start ew3 q3
  have s3 := Sta.start ew3 (Or.inr ⟨hw _ (List.mem_of_getElem? (i := 6) rfl), hw _ (List.mem_of_getElem? (i := 17) rfl)⟩)
  obtain ⟨q2, r2⟩ := and_e r3
  obtain ⟨w2a, ew2⟩ := exa_v q2
  have x2 := Exa.start ew2 q2
  have s2 := Sta.start ew2 (Or.inr ⟨hw _ (List.mem_of_getElem? (i := 6) rfl), hw _ (List.mem_of_getElem? (i := 19) rfl)⟩)
  obtain ⟨q8, r8⟩ := and_e r2
  obtain ⟨w8a, ew8⟩ := exa_v q8
  have x8 := Exa.start ew8 q8
  have s8 := Sta.start ew8 (Or.inr ⟨hw _ (List.mem_of_getElem? (i := 6) rfl), hw _ (List.mem_of_getElem? (i := 21) rfl)⟩)
  obtain ⟨q12, r12⟩ := and_e r8
  obtain ⟨w12a, ew12⟩ := exa_v q12
  have x12 := Exa.start ew12 q12
  have s12 := Sta.start ew12 (Or.inr ⟨hw _ (List.mem_of_getElem? (i := 6) rfl), hw _ (List.mem_of_getElem? (i := 23) rfl)⟩)
  obtain ⟨q6, r6⟩ := and_e r12
  obtain ⟨w6a, ew6⟩ := exa_v q6
  have x6 := Exa.start ew6 q6
  have s6 := Sta.start ew6 (Or.inr ⟨hw _ (List.mem_of_getElem? (i := 6) rfl), hw _ (List.mem_of_getElem? (i := 27) rfl)⟩)
  obtain ⟨q5, r5⟩ := and_e r6
  obtain ⟨w5a, ew5⟩ := exa_v q5
  have x5 := Exa.start ew5 q5
  have s5 := Sta.start ew5 (Or.inr ⟨hw _ (List.mem_of_getElem? (i := 6) rfl), hw _ (List.mem_of_getElem? (i := 30) rfl)⟩)
  obtain ⟨q7, r7⟩ := and_e r5
  obtain ⟨w7a, ew7⟩ := exa_v q7
  have x7 := Exa.start ew7 q7
  have s7 := Sta.start ew7 (Or.inr ⟨hw _ (List.mem_of_getElem? (i := 6) rfl), hw _ (List.mem_of_getElem? (i := 33) rfl)⟩)
  obtain ⟨q9, r9⟩ := and_e r7
  obtain ⟨w9a, ew9⟩ := exa_v q9
  have x9 := Exa.start ew9 q9
  have s9 := Sta.start ew9 (Or.inr ⟨hw _ (List.mem_of_getElem? (i := 6) rfl), hw _ (List.mem_of_getElem? (i := 36) rfl)⟩)
  obtain ⟨q11, r11⟩ := and_e r9
  obtain ⟨w11a, ew11⟩ := exa_v q11
  have x11 := Exa.start ew11 q11
  have s11 := Sta.start ew11 (Or.inr ⟨hw _ (List.mem_of_getElem? (i := 6) rfl), hw _ (List.mem_of_getElem? (i := 41) rfl)⟩)
  obtain ⟨q1, r1⟩ := and_e r11
  obtain ⟨w1a, ew1⟩ := exa_v q1
  have x1 := Exa.start ew1 q1
  have s1 := Sta.start ew1 (Or.inr ⟨hw _ (List.mem_of_getElem? (i := 6) rfl), hw _ (List.mem_of_getElem? (i := 44) rfl)⟩)
  obtain ⟨q10, r10⟩ := and_e r1
  obtain ⟨w10a, ew10⟩ := exa_v q10
  have x10 := Exa.start ew10 q10
  have s10 := Sta.start ew10 (Or.inr ⟨hw _ (List.mem_of_getElem? (i := 6) rfl), hw _ (List.mem_of_getElem? (i := 49) rfl)⟩)
  obtain ⟨w4a, ew4⟩ := exa_v r10
  have x4 := Exa.start ew4 r10
  have s4 := Sta.start ew4 (Or.inr ⟨hw _ (List.mem_of_getElem? (i := 6) rfl), hw _ (List.mem_of_getElem? (i := 54) rfl)⟩)
  obtain ⟨n, o, h1, h2, h3, _, L, rfl, ⟨hQ, N⟩, hq⟩ := c_law l s _ hw s.heap i0 w0a w1a w2a w3a w4a w5a w6a w7a w8a w9a w10a w11a w12a s0 s1 s2 s3 s4 s5 s6 s7 s8 s9 s10 s11 s12 x0 x1 x2 x3 x4 x5 x6 x7 x8 x9 x10 x11 x12 (Old.start s) tables_1 p e ha hc hk s m _ below hf ((Spec.applies_iff_loose hf).mp happ).1 ⟨rfl, State.Warmed39.refl s, rfl⟩ trivial
  obtain rfl := hQ.1
  refine ⟨n, _, h1, h2, h3, hpost _ _ _ _ _ _ ⟨Cond.after_iff.mpr rfl, Cond.after_iff.mpr (eq_i res_at (Term.int_eval (1)) rfl), trivial⟩ ⟨hq.1, hq.2.1, (hq.2.2.sift fun y hy => Or.inr (N y hy)).mono (by decide) (by decide)⟩⟩
theorem main_1_1 : Claimed_1_1 := comes_1 fun _ _ _ _ _ _ h hF => ⟨h.1, hF⟩
theorem main_1_2 : Claimed_1_2 := comes_1 fun _ _ _ _ _ _ h hF => ⟨h.2.1, hF⟩

end Jvm.Pilot.@@N@@
namespace Jvm.Pilot.@@N@@
open Jvm Jvm.ClassFile Sem Op Lib Jvm.Free Jvm.Stand Jvm.Pilot.@@N@@.Jvm.D
/-! MADE BY PROGRAM (witnessworld.py) out of the Statement's table words and the real class files: 25 classes; the members and pool entries that the words name. The judged class is class 1, her method 1. -/
namespace start1
open Jvm.ClassFile
def u (s : String) : CpInfo := .utf8 (stringToUtf16 s)
/-- a pool by its gaps: so many unusable entries, then the entry; so many at the end -/
def gap : Nat → List CpInfo → List CpInfo
  | 0, r => r
  | n + 1, r => .unusable :: gap n r
def poolList (es : List (Nat × CpInfo)) (last : Nat) : List CpInfo := es.foldr (fun e r => gap e.1 (e.2 :: r)) (gap last [])
def pool (es : List (Nat × CpInfo)) (last : Nat) : Array CpInfo := ⟨poolList es last⟩
def fileOf (pool : Array CpInfo) (this : Nat) (attrs : Array Attribute := #[]) (ms : Array MethodInfo := #[]) (fl : Nat := 33) (sup : Nat := 0) (ifs : Array Nat := #[]) (fds : Array FieldInfo := #[]) : ClassFile where
  minorVersion := 0
  majorVersion := 65
  constantPool := pool
  accessFlags := fl
  thisClass := this
  superClass := sup
  interfaces := ifs
  fields := fds
  methods := ms
  attributes := attrs
def plain (name : String) (sup : Option ClassId) : Class where
  name := name
  kind := .ordinary
  loader := none
  accessFlags := 33
  super := sup
  interfaces := #[]
  cf := none
  fields := #[]
  methods := #[]
  instanceTypes := #[]
  staticTypes := #[]
  resolved := #[]
  callSites := []
  init := .initialized
  statics := none
  mirror := none

def pool0 : Array CpInfo := pool [(5, u "<init>"), (0, u "()V"), (1, .class_ 10), (1, u "java/lang/Object")] 113

def k0m0 : Method := { name := "<init>", desc := "()V", sig := { parameters := [], returnType := none }, accessFlags := 1, code := none }
/-- java/lang/Object -/
def k0 : Class := { plain "java/lang/Object" none with
  accessFlags := 33
  interfaces := #[]
  cf := some (fileOf pool0 8 #[] #[{ accessFlags := 1, nameIndex := 5, descriptorIndex := 6, attributes := #[] }] 33 0 #[] #[])
  fields := #[]
  methods := #[k0m0]
  instanceTypes := #[]
  staticTypes := #[]
  resolved := Array.replicate 124 none
  statics := none }

def pool1 : Array CpInfo := pool [(2, .class_ 4), (1, u "java/lang/Object"), (0, u "<init>"), (0, u "()V"), (0, .integer 2147483647), (0, .methodref 9 10), (0, .class_ 11), (0, .nameAndType 12 13), (0, u "com/example/rens/rens/filter/XPathAxisIsDisjointPinLaw"), (0, u "pick"), (0, u "(I)Lcom/example/rens/rens/filter/XPathAxis;"), (0, .methodref 9 15), (0, .nameAndType 16 17), (0, u "oneToOne"), (0, u "(I)Z"), (0, .methodref 19 20), (0, .class_ 21), (0, .nameAndType 22 23), (0, u "com/example/rens/rens/filter/XPathAxis"), (0, u "isDisjoint"), (0, u "()Z"), (0, .fieldref 19 25), (0, .nameAndType 26 27), (0, u "ANCESTOR"), (0, u "Lcom/example/rens/rens/filter/XPathAxis;"), (0, .fieldref 19 29), (0, .nameAndType 30 27), (0, u "ANCESTOR_OR_SELF"), (0, .fieldref 19 32), (0, .nameAndType 33 27), (0, u "ATTRIBUTE"), (0, .fieldref 19 35), (0, .nameAndType 36 27), (0, u "CHILD"), (0, .fieldref 19 38), (0, .nameAndType 39 27), (0, u "DESCENDANT"), (0, .fieldref 19 41), (0, .nameAndType 42 27), (0, u "DESCENDANT_OR_SELF"), (0, .fieldref 19 44), (0, .nameAndType 45 27), (0, u "FOLLOWING"), (0, .fieldref 19 47), (0, .nameAndType 48 27), (0, u "FOLLOWING_SIBLING"), (0, .fieldref 19 50), (0, .nameAndType 51 27), (0, u "NAMESPACE"), (0, .fieldref 19 53), (0, .nameAndType 54 27), (0, u "PARENT"), (0, .fieldref 19 56), (0, .nameAndType 57 27), (0, u "PRECEDING"), (0, .fieldref 19 59), (0, .nameAndType 60 27), (0, u "PRECEDING_SIBLING"), (0, .fieldref 19 62), (0, .nameAndType 63 27), (0, u "SELF"), (2, u "law")] 3

def k1m0 : Method := { name := "<init>", desc := "()V", sig := { parameters := [], returnType := none }, accessFlags := 1, code := none }
def k1c1 : Code := { maxStack := 2, maxLocals := 4, code := code, exceptionTable := #[], attributes := #[] }
def k1m1 : Method := { name := "law", desc := "(I)Z", sig := { parameters := [.int], returnType := some .boolean }, accessFlags := 9, code := some k1c1 }
def k1c2 : Code := { maxStack := 2, maxLocals := 1, code := method_3_code, exceptionTable := #[], attributes := #[] }
def k1m2 : Method := { name := "pick", desc := "(I)Lcom/example/rens/rens/filter/XPathAxis;", sig := { parameters := [.int], returnType := some (.object "com/example/rens/rens/filter/XPathAxis") }, accessFlags := 10, code := some k1c2 }
def k1c3 : Code := { maxStack := 2, maxLocals := 1, code := method_4_code, exceptionTable := #[], attributes := #[] }
def k1m3 : Method := { name := "oneToOne", desc := "(I)Z", sig := { parameters := [.int], returnType := some .boolean }, accessFlags := 10, code := some k1c3 }
/-- com/example/rens/rens/filter/XPathAxisIsDisjointPinLaw -/
def k1 : Class := { plain "com/example/rens/rens/filter/XPathAxisIsDisjointPinLaw" (some 0) with
  accessFlags := 49
  interfaces := #[]
  cf := some (fileOf pool1 9 #[] #[{ accessFlags := 1, nameIndex := 5, descriptorIndex := 6, attributes := #[] }, { accessFlags := 9, nameIndex := 66, descriptorIndex := 17, attributes := #[] }, { accessFlags := 10, nameIndex := 12, descriptorIndex := 13, attributes := #[] }, { accessFlags := 10, nameIndex := 16, descriptorIndex := 17, attributes := #[] }] 49 2 #[] #[])
  fields := #[]
  methods := #[k1m0, k1m1, k1m2, k1m3]
  instanceTypes := #[]
  staticTypes := #[]
  resolved := Array.replicate 70 none
  statics := none }

def pool2 : Array CpInfo := pool [(1, .class_ 2), (0, u "java/lang/constant/Constable"), (0, .class_ 4), (0, u "java/lang/Object")] 6

/-- java/lang/constant/Constable -/
def k2 : Class := { plain "java/lang/constant/Constable" (some 0) with
  accessFlags := 1537
  interfaces := #[]
  cf := some (fileOf pool2 1 #[] #[] 1537 3 #[] #[])
  fields := #[]
  methods := #[]
  instanceTypes := #[]
  staticTypes := #[]
  resolved := Array.replicate 11 none
  statics := none }

def pool3 : Array CpInfo := pool [(1, .class_ 2), (0, u "java/lang/Comparable"), (0, .class_ 4), (0, u "java/lang/Object")] 7

/-- java/lang/Comparable -/
def k3 : Class := { plain "java/lang/Comparable" (some 0) with
  accessFlags := 1537
  interfaces := #[]
  cf := some (fileOf pool3 1 #[] #[] 1537 3 #[] #[])
  fields := #[]
  methods := #[]
  instanceTypes := #[]
  staticTypes := #[]
  resolved := Array.replicate 12 none
  statics := none }

def pool4 : Array CpInfo := pool [(1, .class_ 2), (0, u "java/io/Serializable"), (0, .class_ 4), (0, u "java/lang/Object")] 2

/-- java/io/Serializable -/
def k4 : Class := { plain "java/io/Serializable" (some 0) with
  accessFlags := 1537
  interfaces := #[]
  cf := some (fileOf pool4 1 #[] #[] 1537 3 #[] #[])
  fields := #[]
  methods := #[]
  instanceTypes := #[]
  staticTypes := #[]
  resolved := Array.replicate 7 none
  statics := none }

def pool5 : Array CpInfo := pool [(2, .class_ 4), (1, u "java/lang/Enum"), (0, u "name"), (0, u "Ljava/lang/String;"), (2, u "ordinal"), (0, u "I"), (1, .class_ 14), (1, u "java/lang/Object"), (4, u "hash"), (86, .class_ 108), (1, u "java/lang/Enum$EnumDesc"), (2, .class_ 112), (0, u "java/lang/constant/Constable"), (0, .class_ 114), (0, u "java/lang/Comparable"), (0, .class_ 116), (0, u "java/io/Serializable")] 87

/-- java/lang/Enum -/
def k5 : Class := { plain "java/lang/Enum" (some 0) with
  accessFlags := 1057
  interfaces := #[2, 3, 4]
  cf := some (fileOf pool5 2 #[.nestMembers #[106]] #[] 1057 12 #[111, 113, 115] #[{ accessFlags := 18, nameIndex := 5, descriptorIndex := 6, attributes := #[] }, { accessFlags := 18, nameIndex := 9, descriptorIndex := 10, attributes := #[] }, { accessFlags := 2, nameIndex := 19, descriptorIndex := 10, attributes := #[] }])
  fields := #[{ name := "name", type := (.object "java/lang/String"), accessFlags := 18, slot := 0, constantValue := 0 }, { name := "ordinal", type := .int, accessFlags := 18, slot := 1, constantValue := 0 }, { name := "hash", type := .int, accessFlags := 2, slot := 2, constantValue := 0 }]
  methods := #[]
  instanceTypes := #[(.object "java/lang/String"), .int, .int]
  staticTypes := #[]
  resolved := Array.replicate 204 none
  statics := none }

def pool6 : Array CpInfo := pool [(1, .class_ 2), (0, u "com/example/rens/rens/filter/XPathAxis"), (2, u "ANCESTOR"), (0, u "Lcom/example/rens/rens/filter/XPathAxis;"), (2, u "ANCESTOR_OR_SELF"), (0, .fieldref 1 11), (0, .nameAndType 12 6), (0, u "ATTRIBUTE"), (0, .fieldref 1 14), (0, .nameAndType 15 6), (0, u "CHILD"), (2, u "DESCENDANT"), (2, u "DESCENDANT_OR_SELF"), (2, u "FOLLOWING"), (2, u "FOLLOWING_SIBLING"), (0, .fieldref 1 29), (0, .nameAndType 30 6), (0, u "NAMESPACE"), (2, u "PARENT"), (2, u "PRECEDING"), (2, u "PRECEDING_SIBLING"), (0, .fieldref 1 41), (0, .nameAndType 42 6), (0, u "SELF"), (2, u "$VALUES"), (0, u "[Lcom/example/rens/rens/filter/XPathAxis;"), (6, .class_ 55), (1, u "java/lang/Enum"), (8, u "axisName"), (0, u "Ljava/lang/String;"), (2, u "reverse"), (0, u "Z"), (89, .class_ 160), (0, u "com/example/rens/rens/filter/XPathAxis$1"), (6, .class_ 168), (0, u "com/example/rens/rens/filter/XPathAxis$2"), (4, .class_ 174), (0, u "com/example/rens/rens/filter/XPathAxis$3"), (4, .class_ 180), (0, u "com/example/rens/rens/filter/XPathAxis$4"), (4, .class_ 186), (0, u "com/example/rens/rens/filter/XPathAxis$5"), (4, .class_ 192), (0, u "com/example/rens/rens/filter/XPathAxis$6"), (4, .class_ 198), (0, u "com/example/rens/rens/filter/XPathAxis$7"), (4, .class_ 204), (0, u "com/example/rens/rens/filter/XPathAxis$8"), (4, .class_ 210), (0, u "com/example/rens/rens/filter/XPathAxis$9"), (4, .class_ 216), (0, u "com/example/rens/rens/filter/XPathAxis$10"), (3, .class_ 221), (0, u "com/example/rens/rens/filter/XPathAxis$11"), (4, .class_ 227), (0, u "com/example/rens/rens/filter/XPathAxis$12"), (4, .class_ 233), (0, u "com/example/rens/rens/filter/XPathAxis$13"), (15, u "()Z"), (0, u "isDisjoint")] 42

def k6c0 : Code := { maxStack := 2, maxLocals := 1, code := prog_50_method_6_code, exceptionTable := #[], attributes := #[] }
def k6m0 : Method := { name := "isDisjoint", desc := "()Z", sig := { parameters := [], returnType := some .boolean }, accessFlags := 0, code := some k6c0 }
/-- com/example/rens/rens/filter/XPathAxis -/
def k6 : Class := { plain "com/example/rens/rens/filter/XPathAxis" (some 5) with
  accessFlags := 17440
  interfaces := #[]
  cf := some (fileOf pool6 1 #[.nestMembers #[232, 226, 220, 215, 209, 203, 197, 191, 185, 179, 173, 167, 159]] #[{ accessFlags := 0, nameIndex := 250, descriptorIndex := 249, attributes := #[] }] 17440 53 #[] #[{ accessFlags := 16409, nameIndex := 5, descriptorIndex := 6, attributes := #[] }, { accessFlags := 16409, nameIndex := 9, descriptorIndex := 6, attributes := #[] }, { accessFlags := 16409, nameIndex := 12, descriptorIndex := 6, attributes := #[] }, { accessFlags := 16409, nameIndex := 15, descriptorIndex := 6, attributes := #[] }, { accessFlags := 16409, nameIndex := 18, descriptorIndex := 6, attributes := #[] }, { accessFlags := 16409, nameIndex := 21, descriptorIndex := 6, attributes := #[] }, { accessFlags := 16409, nameIndex := 24, descriptorIndex := 6, attributes := #[] }, { accessFlags := 16409, nameIndex := 27, descriptorIndex := 6, attributes := #[] }, { accessFlags := 16409, nameIndex := 30, descriptorIndex := 6, attributes := #[] }, { accessFlags := 16409, nameIndex := 33, descriptorIndex := 6, attributes := #[] }, { accessFlags := 16409, nameIndex := 36, descriptorIndex := 6, attributes := #[] }, { accessFlags := 16409, nameIndex := 39, descriptorIndex := 6, attributes := #[] }, { accessFlags := 16409, nameIndex := 42, descriptorIndex := 6, attributes := #[] }, { accessFlags := 18, nameIndex := 64, descriptorIndex := 65, attributes := #[] }, { accessFlags := 18, nameIndex := 68, descriptorIndex := 69, attributes := #[] }, { accessFlags := 4122, nameIndex := 45, descriptorIndex := 46, attributes := #[] }])
  fields := #[{ name := "ANCESTOR", type := (.object "com/example/rens/rens/filter/XPathAxis"), accessFlags := 16409, slot := 0, constantValue := 0 }, { name := "ANCESTOR_OR_SELF", type := (.object "com/example/rens/rens/filter/XPathAxis"), accessFlags := 16409, slot := 1, constantValue := 0 }, { name := "ATTRIBUTE", type := (.object "com/example/rens/rens/filter/XPathAxis"), accessFlags := 16409, slot := 2, constantValue := 0 }, { name := "CHILD", type := (.object "com/example/rens/rens/filter/XPathAxis"), accessFlags := 16409, slot := 3, constantValue := 0 }, { name := "DESCENDANT", type := (.object "com/example/rens/rens/filter/XPathAxis"), accessFlags := 16409, slot := 4, constantValue := 0 }, { name := "DESCENDANT_OR_SELF", type := (.object "com/example/rens/rens/filter/XPathAxis"), accessFlags := 16409, slot := 5, constantValue := 0 }, { name := "FOLLOWING", type := (.object "com/example/rens/rens/filter/XPathAxis"), accessFlags := 16409, slot := 6, constantValue := 0 }, { name := "FOLLOWING_SIBLING", type := (.object "com/example/rens/rens/filter/XPathAxis"), accessFlags := 16409, slot := 7, constantValue := 0 }, { name := "NAMESPACE", type := (.object "com/example/rens/rens/filter/XPathAxis"), accessFlags := 16409, slot := 8, constantValue := 0 }, { name := "PARENT", type := (.object "com/example/rens/rens/filter/XPathAxis"), accessFlags := 16409, slot := 9, constantValue := 0 }, { name := "PRECEDING", type := (.object "com/example/rens/rens/filter/XPathAxis"), accessFlags := 16409, slot := 10, constantValue := 0 }, { name := "PRECEDING_SIBLING", type := (.object "com/example/rens/rens/filter/XPathAxis"), accessFlags := 16409, slot := 11, constantValue := 0 }, { name := "SELF", type := (.object "com/example/rens/rens/filter/XPathAxis"), accessFlags := 16409, slot := 12, constantValue := 0 }, { name := "axisName", type := (.object "java/lang/String"), accessFlags := 18, slot := 3, constantValue := 0 }, { name := "reverse", type := .boolean, accessFlags := 18, slot := 4, constantValue := 0 }, { name := "$VALUES", type := (.array (.object "com/example/rens/rens/filter/XPathAxis")), accessFlags := 4122, slot := 13, constantValue := 0 }]
  methods := #[k6m0]
  instanceTypes := #[(.object "java/lang/String"), .int, .int, (.object "java/lang/String"), .boolean]
  staticTypes := #[(.object "com/example/rens/rens/filter/XPathAxis"), (.object "com/example/rens/rens/filter/XPathAxis"), (.object "com/example/rens/rens/filter/XPathAxis"), (.object "com/example/rens/rens/filter/XPathAxis"), (.object "com/example/rens/rens/filter/XPathAxis"), (.object "com/example/rens/rens/filter/XPathAxis"), (.object "com/example/rens/rens/filter/XPathAxis"), (.object "com/example/rens/rens/filter/XPathAxis"), (.object "com/example/rens/rens/filter/XPathAxis"), (.object "com/example/rens/rens/filter/XPathAxis"), (.object "com/example/rens/rens/filter/XPathAxis"), (.object "com/example/rens/rens/filter/XPathAxis"), (.object "com/example/rens/rens/filter/XPathAxis"), (.array (.object "com/example/rens/rens/filter/XPathAxis"))]
  resolved := Array.replicate 293 none
  statics := some 0 }

def pool7 : Array CpInfo := pool [(2, .class_ 4), (1, u "com/example/rens/rens/filter/XPathAxis"), (14, .class_ 20), (0, u "com/example/rens/rens/filter/XPathAxis$1")] 10

/-- com/example/rens/rens/filter/XPathAxis$1 -/
def k7 : Class := { plain "com/example/rens/rens/filter/XPathAxis$1" (some 6) with
  accessFlags := 16432
  interfaces := #[]
  cf := some (fileOf pool7 19 #[.nestHost 2] #[] 16432 2 #[] #[])
  fields := #[]
  methods := #[]
  instanceTypes := #[(.object "java/lang/String"), .int, .int, (.object "java/lang/String"), .boolean]
  staticTypes := #[]
  resolved := Array.replicate 31 none
  statics := none }

def pool8 : Array CpInfo := pool [(2, .class_ 4), (1, u "com/example/rens/rens/filter/XPathAxis"), (17, .class_ 23), (0, u "com/example/rens/rens/filter/XPathAxis$4")] 10

/-- com/example/rens/rens/filter/XPathAxis$4 -/
def k8 : Class := { plain "com/example/rens/rens/filter/XPathAxis$4" (some 6) with
  accessFlags := 16432
  interfaces := #[]
  cf := some (fileOf pool8 22 #[.nestHost 2] #[] 16432 2 #[] #[])
  fields := #[]
  methods := #[]
  instanceTypes := #[(.object "java/lang/String"), .int, .int, (.object "java/lang/String"), .boolean]
  staticTypes := #[]
  resolved := Array.replicate 34 none
  statics := none }

def pool9 : Array CpInfo := pool [(2, .class_ 4), (1, u "com/example/rens/rens/filter/XPathAxis"), (13, .class_ 20), (1, u "com/example/rens/rens/filter/XPathAxis$7")] 23

/-- com/example/rens/rens/filter/XPathAxis$7 -/
def k9 : Class := { plain "com/example/rens/rens/filter/XPathAxis$7" (some 6) with
  accessFlags := 16432
  interfaces := #[]
  cf := some (fileOf pool9 18 #[.nestHost 2] #[] 16432 2 #[] #[])
  fields := #[]
  methods := #[]
  instanceTypes := #[(.object "java/lang/String"), .int, .int, (.object "java/lang/String"), .boolean]
  staticTypes := #[]
  resolved := Array.replicate 44 none
  statics := none }

def pool10 : Array CpInfo := pool [(2, .class_ 4), (1, u "com/example/rens/rens/filter/XPathAxis"), (7, .class_ 14), (1, u "com/example/rens/rens/filter/XPathAxis$6")] 13

/-- com/example/rens/rens/filter/XPathAxis$6 -/
def k10 : Class := { plain "com/example/rens/rens/filter/XPathAxis$6" (some 6) with
  accessFlags := 16432
  interfaces := #[]
  cf := some (fileOf pool10 12 #[.nestHost 2] #[] 16432 2 #[] #[])
  fields := #[]
  methods := #[]
  instanceTypes := #[(.object "java/lang/String"), .int, .int, (.object "java/lang/String"), .boolean]
  staticTypes := #[]
  resolved := Array.replicate 28 none
  statics := none }

def pool11 : Array CpInfo := pool [(2, .class_ 4), (1, u "com/example/rens/rens/filter/XPathAxis"), (14, .class_ 20), (0, u "com/example/rens/rens/filter/XPathAxis$8")] 10

/-- com/example/rens/rens/filter/XPathAxis$8 -/
def k11 : Class := { plain "com/example/rens/rens/filter/XPathAxis$8" (some 6) with
  accessFlags := 16432
  interfaces := #[]
  cf := some (fileOf pool11 19 #[.nestHost 2] #[] 16432 2 #[] #[])
  fields := #[]
  methods := #[]
  instanceTypes := #[(.object "java/lang/String"), .int, .int, (.object "java/lang/String"), .boolean]
  staticTypes := #[]
  resolved := Array.replicate 31 none
  statics := none }

def pool12 : Array CpInfo := pool [(2, .class_ 4), (1, u "com/example/rens/rens/filter/XPathAxis"), (14, .class_ 20), (0, u "com/example/rens/rens/filter/XPathAxis$10")] 10

/-- com/example/rens/rens/filter/XPathAxis$10 -/
def k12 : Class := { plain "com/example/rens/rens/filter/XPathAxis$10" (some 6) with
  accessFlags := 16432
  interfaces := #[]
  cf := some (fileOf pool12 19 #[.nestHost 2] #[] 16432 2 #[] #[])
  fields := #[]
  methods := #[]
  instanceTypes := #[(.object "java/lang/String"), .int, .int, (.object "java/lang/String"), .boolean]
  staticTypes := #[]
  resolved := Array.replicate 31 none
  statics := none }

def pool13 : Array CpInfo := pool [(2, .class_ 4), (1, u "com/example/rens/rens/filter/XPathAxis"), (16, .class_ 22), (0, u "com/example/rens/rens/filter/XPathAxis$3")] 29

/-- com/example/rens/rens/filter/XPathAxis$3 -/
def k13 : Class := { plain "com/example/rens/rens/filter/XPathAxis$3" (some 6) with
  accessFlags := 16432
  interfaces := #[]
  cf := some (fileOf pool13 21 #[.nestHost 2] #[] 16432 2 #[] #[])
  fields := #[]
  methods := #[]
  instanceTypes := #[(.object "java/lang/String"), .int, .int, (.object "java/lang/String"), .boolean]
  staticTypes := #[]
  resolved := Array.replicate 52 none
  statics := none }

def pool14 : Array CpInfo := pool [(2, .class_ 4), (1, u "com/example/rens/rens/filter/XPathAxis"), (14, .class_ 20), (0, u "com/example/rens/rens/filter/XPathAxis$12")] 10

/-- com/example/rens/rens/filter/XPathAxis$12 -/
def k14 : Class := { plain "com/example/rens/rens/filter/XPathAxis$12" (some 6) with
  accessFlags := 16432
  interfaces := #[]
  cf := some (fileOf pool14 19 #[.nestHost 2] #[] 16432 2 #[] #[])
  fields := #[]
  methods := #[]
  instanceTypes := #[(.object "java/lang/String"), .int, .int, (.object "java/lang/String"), .boolean]
  staticTypes := #[]
  resolved := Array.replicate 31 none
  statics := none }

def pool15 : Array CpInfo := pool [(2, .class_ 4), (1, u "com/example/rens/rens/filter/XPathAxis"), (7, .class_ 14), (1, u "com/example/rens/rens/filter/XPathAxis$2")] 13

/-- com/example/rens/rens/filter/XPathAxis$2 -/
def k15 : Class := { plain "com/example/rens/rens/filter/XPathAxis$2" (some 6) with
  accessFlags := 16432
  interfaces := #[]
  cf := some (fileOf pool15 12 #[.nestHost 2] #[] 16432 2 #[] #[])
  fields := #[]
  methods := #[]
  instanceTypes := #[(.object "java/lang/String"), .int, .int, (.object "java/lang/String"), .boolean]
  staticTypes := #[]
  resolved := Array.replicate 28 none
  statics := none }

def pool16 : Array CpInfo := pool [(2, .class_ 4), (1, u "com/example/rens/rens/filter/XPathAxis"), (22, .class_ 28), (0, u "com/example/rens/rens/filter/XPathAxis$9")] 10

/-- com/example/rens/rens/filter/XPathAxis$9 -/
def k16 : Class := { plain "com/example/rens/rens/filter/XPathAxis$9" (some 6) with
  accessFlags := 16432
  interfaces := #[]
  cf := some (fileOf pool16 27 #[.nestHost 2] #[] 16432 2 #[] #[])
  fields := #[]
  methods := #[]
  instanceTypes := #[(.object "java/lang/String"), .int, .int, (.object "java/lang/String"), .boolean]
  staticTypes := #[]
  resolved := Array.replicate 39 none
  statics := none }

def pool17 : Array CpInfo := pool [(2, .class_ 4), (1, u "com/example/rens/rens/filter/XPathAxis"), (24, .class_ 30), (0, u "com/example/rens/rens/filter/XPathAxis$11")] 10

/-- com/example/rens/rens/filter/XPathAxis$11 -/
def k17 : Class := { plain "com/example/rens/rens/filter/XPathAxis$11" (some 6) with
  accessFlags := 16432
  interfaces := #[]
  cf := some (fileOf pool17 29 #[.nestHost 2] #[] 16432 2 #[] #[])
  fields := #[]
  methods := #[]
  instanceTypes := #[(.object "java/lang/String"), .int, .int, (.object "java/lang/String"), .boolean]
  staticTypes := #[]
  resolved := Array.replicate 41 none
  statics := none }

def pool18 : Array CpInfo := pool [(2, .class_ 4), (1, u "com/example/rens/rens/filter/XPathAxis"), (6, .class_ 12), (0, u "com/example/rens/rens/filter/XPathAxis$13")] 9

/-- com/example/rens/rens/filter/XPathAxis$13 -/
def k18 : Class := { plain "com/example/rens/rens/filter/XPathAxis$13" (some 6) with
  accessFlags := 16432
  interfaces := #[]
  cf := some (fileOf pool18 11 #[.nestHost 2] #[] 16432 2 #[] #[])
  fields := #[]
  methods := #[]
  instanceTypes := #[(.object "java/lang/String"), .int, .int, (.object "java/lang/String"), .boolean]
  staticTypes := #[]
  resolved := Array.replicate 22 none
  statics := none }

def pool19 : Array CpInfo := pool [(2, .class_ 4), (1, u "com/example/rens/rens/filter/XPathAxis"), (18, .class_ 24), (0, u "com/example/rens/rens/filter/XPathAxis$5")] 10

/-- com/example/rens/rens/filter/XPathAxis$5 -/
def k19 : Class := { plain "com/example/rens/rens/filter/XPathAxis$5" (some 6) with
  accessFlags := 16432
  interfaces := #[]
  cf := some (fileOf pool19 23 #[.nestHost 2] #[] 16432 2 #[] #[])
  fields := #[]
  methods := #[]
  instanceTypes := #[(.object "java/lang/String"), .int, .int, (.object "java/lang/String"), .boolean]
  staticTypes := #[]
  resolved := Array.replicate 35 none
  statics := none }

def pool20 : Array CpInfo := pool [(1, u "java/lang/Cloneable"), (0, .class_ 1), (0, u "java/lang/Object"), (0, .class_ 3)] 3

/-- java/lang/Cloneable -/
def k20 : Class := { plain "java/lang/Cloneable" (some 0) with
  accessFlags := 1537
  interfaces := #[]
  cf := some (fileOf pool20 2 #[] #[] 1537 4 #[] #[])
  fields := #[]
  methods := #[]
  instanceTypes := #[]
  staticTypes := #[]
  resolved := Array.replicate 8 none
  statics := none }

/-- the primitive byte -/
def k21 : Class := { plain "byte" none with kind := .primitive 'B', accessFlags := 0x411 }
/-- [B -/
def k22 : Class := { plain "[B" (some 0) with kind := .array 21 .byte, interfaces := #[20, 4], accessFlags := 1041 }

/-- the primitive int -/
def k23 : Class := { plain "int" none with kind := .primitive 'I', accessFlags := 0x411 }
/-- [I -/
def k24 : Class := { plain "[I" (some 0) with kind := .array 23 .int, interfaces := #[20, 4], accessFlags := 1041 }

def heap : Heap := #[{ cls := 6, slots := #[.ref 1, .ref 2, .ref 3, .ref 4, .ref 5, .ref 6, .ref 7, .ref 8, .ref 9, .ref 10, .ref 11, .ref 12, .ref 13, .null], vm := .statics 6 },
  { cls := 7, slots := #[.null, .int 0, .int 0, .null, .int 0], vm := .none },
  { cls := 15, slots := #[.null, .int 1, .int 0, .null, .int 0], vm := .none },
  { cls := 13, slots := #[.null, .int 2, .int 0, .null, .int 0], vm := .none },
  { cls := 8, slots := #[.null, .int 3, .int 0, .null, .int 0], vm := .none },
  { cls := 19, slots := #[.null, .int 4, .int 0, .null, .int 0], vm := .none },
  { cls := 10, slots := #[.null, .int 5, .int 0, .null, .int 0], vm := .none },
  { cls := 9, slots := #[.null, .int 6, .int 0, .null, .int 0], vm := .none },
  { cls := 11, slots := #[.null, .int 7, .int 0, .null, .int 0], vm := .none },
  { cls := 16, slots := #[.null, .int 8, .int 0, .null, .int 0], vm := .none },
  { cls := 12, slots := #[.null, .int 9, .int 0, .null, .int 0], vm := .none },
  { cls := 17, slots := #[.null, .int 10, .int 0, .null, .int 0], vm := .none },
  { cls := 14, slots := #[.null, .int 11, .int 0, .null, .int 0], vm := .none },
  { cls := 18, slots := #[.null, .int 12, .int 0, .null, .int 0], vm := .none }]
def classes : Array Class := #[k0, k1, k2, k3, k4, k5, k6, k7, k8, k9, k10, k11, k12, k13, k14, k15, k16, k17, k18, k19, k20, k21, k22, k23, k24]
def interned : List (Array UInt16 × Addr) := []
def slotsUsed : Nat := 79
def theMethod : MethodId := ⟨1, 1⟩
def args0 : Array Value := #[.int 5]
def aboutOver (below : List Frame) : State where
  vm := { classes := classes, interned := interned.toArray }
  heap := heap
  slotsUsed := slotsUsed
  threads := #[{ frames := .invoking theMethod args0 :: below }]
def below0 : List Frame := [.native { method := ⟨0, 0⟩, args := #[] }]
def about1 : State := aboutOver below0
def p0 : Program := .bare "" "" ""
def e0 : Env := launch0.env 0 0 0
theorem w_frames : about1.frames = Frame.invoking theMethod args0 :: below0 := rfl
set_option maxRecDepth 65536 in
theorem w_args : argsFit about1.vm theMethod args0 = true := by decide +kernel
set_option maxRecDepth 65536 in
theorem w_heap : heapFits about1 = true := by decide +kernel
set_option maxRecDepth 65536 in
theorem w_runnable : about1.curStatus? = some .runnable := by decide +kernel
set_option maxRecDepth 65536 in
theorem w_alone : about1.alone = true := by decide +kernel
set_option maxRecDepth 65536 in
theorem w_named : about1.methodNamed? x = some theMethod := by decide +kernel
set_option maxRecDepth 65536 in
theorem w_hears : about1.hears theMethod below0 = true := by decide +kernel
set_option maxRecDepth 65536 in
theorem w_ripe : about1.ripe theMethod args0 below0 = true := by decide +kernel
theorem w_running : about1.status = .running := rfl
set_option maxRecDepth 65536 in
theorem w_room : about1.hasRoom e0.platform room_1 = true :=
  launch0.hasRoom_least _ room_1 (by decide +kernel) (by decide +kernel) (by decide +kernel) (by decide +kernel) (by decide +kernel) (by decide +kernel)
theorem allAtoms_all (ts : List Jvm.Cond) (a : Array Jvm.Value) (st : Jvm.State) : (allAtoms ts).before a st = ts.all (fun c => c.before a st) := by
  induction ts with
  | nil => rfl
  | cons c t ih =>
    show (Jvm.Cond.and c (allAtoms t)).before a st = _
    rw [Jvm.Cond.before_and, ih, List.all_cons]
def words1 : List Jvm.Cond := Jvm.Cond.code x code maxLocals ret :: tables_1
/-- a 'code' word, met by the world's own term for the bytes: nothing is compared byte by byte -/
theorem code_word {y : MethodName} {bytes : ByteArray} {mx : Nat} {rt : Option FieldType} {a : Array Value} {s : State} {m : MethodId} {meth : Method} {c : Code} (h1 : s.methodNamed? y = some m) (h2 : s.vm.method? m = some meth) (h3 : meth.code = some c) (h4 : c.code = bytes)
    (h5 : (c.maxLocals == mx && c.exceptionTable.isEmpty && decide (c.maxStack ≤ mostOperands) && decide (meth.sig.returnType = rt) && !meth.locks && decide (parseMethodDescriptor y.desc = some meth.sig)) = true) : (Jvm.Cond.code y bytes mx rt).before a s = true := by
  simp only [Bool.and_eq_true, beq_iff_eq, Bool.not_eq_true', decide_eq_true_eq] at h5
  obtain ⟨⟨⟨⟨⟨g1, g2⟩, g3⟩, g4⟩, g5⟩, g6⟩ := h5
  simp [Cond.before, Cond.holds, Cond.value, h1, h2, h3, h4, g1, g2, g3, g4, g5, g6]
def isCode : Jvm.Cond → Bool
  | .code _ _ _ _ => true
  | _ => false
theorem all_split {L : List Jvm.Cond} {P : Jvm.Cond → Bool} (h1 : L.all (fun c => isCode c || P c) = true) (h2 : ∀ c ∈ L.filter isCode, P c = true) : L.all P = true := by
  refine List.all_eq_true.mpr fun c hc => ?_
  have h := List.all_eq_true.mp h1 c hc
  rcases Bool.eq_false_or_eq_true (isCode c) with hi | hi
  · exact h2 c (List.mem_filter.mpr ⟨hc, hi⟩)
  · simpa [hi] using h
set_option maxRecDepth 65536 in
theorem w_c0 : (Jvm.Cond.code x code maxLocals ret).before args0 about1 = true := code_word (m := ⟨1, 1⟩) (meth := k1m1) (c := k1c1) (by decide +kernel) rfl rfl rfl (by decide +kernel)
set_option maxRecDepth 65536 in
theorem w_c1 : (Jvm.Cond.code ({ cls := "com/example/rens/rens/filter/XPathAxisIsDisjointPinLaw", name := "pick", desc := "(I)Lcom/example/rens/rens/filter/XPathAxis;" } : Jvm.MethodName) method_3_code (1 : Nat) (Option.some (Jvm.ClassFile.FieldType.object "com/example/rens/rens/filter/XPathAxis"))).before args0 about1 = true := code_word (m := ⟨1, 2⟩) (meth := k1m2) (c := k1c2) (by decide +kernel) rfl rfl rfl (by decide +kernel)
set_option maxRecDepth 65536 in
theorem w_c2 : (Jvm.Cond.code ({ cls := "com/example/rens/rens/filter/XPathAxisIsDisjointPinLaw", name := "oneToOne", desc := "(I)Z" } : Jvm.MethodName) method_4_code (1 : Nat) (Option.some Jvm.ClassFile.FieldType.boolean)).before args0 about1 = true := code_word (m := ⟨1, 3⟩) (meth := k1m3) (c := k1c3) (by decide +kernel) rfl rfl rfl (by decide +kernel)
set_option maxRecDepth 65536 in
theorem w_c3 : (Jvm.Cond.code ({ cls := "com/example/rens/rens/filter/XPathAxis", name := "isDisjoint", desc := "()Z" } : Jvm.MethodName) prog_50_method_6_code (1 : Nat) (Option.some Jvm.ClassFile.FieldType.boolean)).before args0 about1 = true := code_word (m := ⟨6, 0⟩) (meth := k6m0) (c := k6c0) (by decide +kernel) rfl rfl rfl (by decide +kernel)
def codes1 : List Jvm.Cond := [Jvm.Cond.code x code maxLocals ret, Jvm.Cond.code ({ cls := "com/example/rens/rens/filter/XPathAxisIsDisjointPinLaw", name := "pick", desc := "(I)Lcom/example/rens/rens/filter/XPathAxis;" } : Jvm.MethodName) method_3_code (1 : Nat) (Option.some (Jvm.ClassFile.FieldType.object "com/example/rens/rens/filter/XPathAxis")), Jvm.Cond.code ({ cls := "com/example/rens/rens/filter/XPathAxisIsDisjointPinLaw", name := "oneToOne", desc := "(I)Z" } : Jvm.MethodName) method_4_code (1 : Nat) (Option.some Jvm.ClassFile.FieldType.boolean), Jvm.Cond.code ({ cls := "com/example/rens/rens/filter/XPathAxis", name := "isDisjoint", desc := "()Z" } : Jvm.MethodName) prog_50_method_6_code (1 : Nat) (Option.some Jvm.ClassFile.FieldType.boolean)]
set_option maxRecDepth 65536 in
theorem codes_eq : words1.filter isCode = codes1 := rfl
theorem w_codes : ∀ c ∈ words1.filter isCode, c.before args0 about1 = true := by
  rw [codes_eq]
  intro c hc
  simp only [codes1, List.mem_cons, List.not_mem_nil, or_false] at hc
  rcases hc with rfl | rfl | rfl | rfl
  · exact w_c0
  · exact w_c1
  · exact w_c2
  · exact w_c3
set_option maxRecDepth 65536 in
theorem w_t1 : (words1.take 24).all (fun c => isCode c || c.before args0 about1) = true := by decide +kernel
set_option maxRecDepth 65536 in
theorem w_t2 : ((words1.drop 24).take 24).all (fun c => isCode c || c.before args0 about1) = true := by decide +kernel
set_option maxRecDepth 65536 in
theorem w_t3 : ((words1.drop 24).drop 24).all (fun c => isCode c || c.before args0 about1) = true := by decide +kernel
theorem w_tables : (allAtoms (Jvm.Cond.code x code maxLocals ret :: tables_1)).before args0 about1 = true := by
  rw [allAtoms_all]
  show words1.all (fun c => c.before args0 about1) = true
  refine all_split ?_ w_codes
  rw [← List.take_append_drop 24 words1, List.all_append, w_t1, ← List.take_append_drop 24 (words1.drop 24), List.all_append, w_t2, w_t3]
  rfl
set_option maxRecDepth 65536 in
theorem w_case : (Jvm.Cond.and given_1 narrow_1).before args0 about1 = true := by decide +kernel
theorem w_applies : (headSpec (Jvm.Cond.code x code maxLocals ret :: tables_1) room_1).applies x e0.platform about1 = true :=
  (Spec.applies_iff w_frames).mpr ⟨w_running, w_runnable, w_alone, w_named, w_hears, w_ripe, w_room, w_tables⟩
theorem atStart : AtStart classFile x code maxLocals ret World_1 tables_1 room_1 Calls_1 rest_1 Pre_1 launch0 p0 e0 about1 theMethod args0 below0 :=
  ⟨lists_1, trivial, launch0.admits_env _ _ _, launch0.least_env, fairChoices_fair.cas, fairChoices_fair.clock, w_frames, w_args, w_heap, w_applies, trivial, trivial, w_case⟩
end start1
theorem witness_1 : WitnessClaimed_1 := ⟨start1.p0, start1.e0, start1.about1, start1.theMethod, start1.args0, start1.below0, start1.atStart⟩
end Jvm.Pilot.@@N@@
