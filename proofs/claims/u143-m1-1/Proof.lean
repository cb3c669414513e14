import JvmDerived
import JvmDerived.Pilot.@@N@@Statement
import JvmDerived.Pilot.@@N@@Code
set_option linter.unusedVariables false
set_option linter.unusedSimpArgs false
namespace Jvm.OwnGo
open Jvm Jvm.ClassFile Sem Op Lib Jvm.Free Jvm.Stand Jvm.LawKit Jvm.RoadKit
/-- the setting of one body's run -/
def Cx (p : Program) (l : Launch) (e : Env) (R : Room) (s : State) (m : MethodId) (meth : Method) (c : Code) (Z : State) (n0 : Nat) (y : MethodName) (code : ByteArray) (ml : Nat) (ret : Option FieldType) : Prop :=
  p.tables.exec = Jvm.exec ∧ Z.Warmed39 s.vm ∧ s.vm.findClass y.cls = some m.cls ∧ c.code = code ∧ c.maxLocals = ml ∧ meth.sig.returnType = ret ∧ meth.locks = false ∧ meth.name = y.name ∧ Old Z n0 s.heap
/-- from pc, with these locals, this stack and this heap, the body of y returns, Q holds of what it returns and leaves, and it has written in cells at or above n0 alone -/
def Go (l : Launch) (R : Room) (Z : State) (n0 : Nat) (y : MethodName) (code : ByteArray) (ml : Nat) (ret : Option FieldType) (Q : Option Value → Heap → Prop) (cells slots : Nat) (h : Heap) (pc : Nat) (Ls : Array Slot) (st : List Value) : Prop :=
  ∀ (p : Program) (e : Env) (s : State) (m : MethodId) (args : Array Value) (below : List Frame) (meth : Method) (c : Code) (T : State) (locs : List Loc),
    Cx p l e R s m meth c Z n0 y code ml ret → Stand p l e R s m args below meth c T locs cells slots → Fr n0 locs → T.heap = h →
    ∃ s₂ o, Steps p.tables e below (T.setTop (mkF m pc Ls st)) s₂ ∧ s₂.status = .running ∧ Ended s₂ below o ∧ ∃ v L, o = .returned v ∧ (Q v s₂.heap ∧ Fr n0 L) ∧ FrameEnd s o s₂ L R.cells R.slots
/-- what a body called with these arguments at the heap h does -/
def Con (l : Launch) (y : MethodName) (code : ByteArray) (ml : Nat) (ret : Option FieldType) (R : Room) (Z : State) (n0 : Nat) (as : Array Value) (h : Heap) (Q : Option Value → Heap → Prop) : Prop :=
  Old Z n0 h → ∀ ws, MetFree l y (head1 (Jvm.Cond.code y code ml ret :: ws) R) (fun a U => a = as ∧ Z.Warmed39 U.vm ∧ U.heap = h) (fun _ _ _ _ _ => True)
    (fun _ U o U' => ∃ v L, o = .returned v ∧ (Q v U'.heap ∧ Fr n0 L) ∧ FrameEnd U o U' L R.cells R.slots)
def Mi (Z : State) (C : String) (mr : Addr) : Prop := ∃ (c : ClassId) (k : Class), Z.vm.findClass C = some c ∧ Z.vm.classes[c]? = some k ∧ k.mirror = some mr
theorem Mi.at {Z s : State} {C : String} {mr : Addr} (M : Mi Z C mr) (hZ : Z.Warmed39 s.vm) : ∃ (c : ClassId) (k : Class), s.vm.findClass C = some c ∧ s.vm.classes[c]? = some k ∧ k.mirror = some mr := by
  obtain ⟨c, k, m1, m2, m3⟩ := M
  obtain ⟨k', q, ek⟩ := hZ.alike.2.2 _ _ m2
  exact ⟨c, k', by rw [hZ.alike.findClass]; exact m1, q, by rw [ek]; exact m3⟩
theorem own_sto {Z : State} {h : Heap} {a b : Addr} {kA : ClassId} {ty : FieldType} {z : Int32} {vs : List Value} {dv : Value} {C : String} (F : Arv Z h a kA ty z vs dv) (O : Ovr Z kA C) (I : Ins Z h b C true) : Sto Z h a (.ref b) := by
  obtain ⟨c, A, q, -⟩ := F; exact Sto.ofV A q O I
theorem own_nar (t : FieldType) {v : Value} (h : v.isRef = true) : narrow t v = v := by cases v <;> first | rfl | (cases t <;> rfl) | (simp [Value.isRef] at h)
theorem own_fits {t : FieldType} {v : Value} (ht : t.isReference = true) (h : v.isRef = true) : fits t v = true := by cases t <;> first | (cases ht; done) | (cases v <;> first | rfl | (simp [Value.isRef] at h))
theorem own_old {p : Program} {l : Launch} {e : Env} {R : Room} {s : State} {m : MethodId} {args : Array Value} {below : List Frame} {meth : Method} {c : Code} {T : State} {locs : List Loc} {cells slots n0 : Nat} {Z : State} {h : Heap} (O : Old Z n0 s.heap) (X : Stand p l e R s m args below meth c T locs cells slots) (N : Fr n0 locs) (eT : T.heap = h) : Old Z n0 h := by
  subst eT
  obtain ⟨-, g1, -, -, -, g2⟩ := X.same
  refine ⟨O.1, Nat.le_trans O.2.1 g1, fun a c ha => ?_⟩
  obtain ⟨c', q1, q2, q3, q4⟩ := g2 a c (O.2.2 a c ha)
  have hlt : a < n0 := O.1 ▸ (Array.getElem?_eq_some_iff.mp ha).1
  have e1 : c'.slots = c.slots := Array.ext_getElem? fun i => q4 i fun hm => absurd (N _ hm) (Nat.not_le.mpr hlt)
  have e2 : c' = c := by rw [q2, e1]
  rw [← e2]; exact q1
section Rules
variable {l : Launch} {R : Room} {Z : State} {n0 : Nat} {y : MethodName} {code : ByteArray} {ml : Nat} {ret : Option FieldType} {Q : Option Value → Heap → Prop} {cells slots : Nat} {h : Heap} {pc pc' : Nat} {Ls Ls' : Array Slot} {st st' rest : List Value} {a0 : Array Value}
theorem Con.of_go {as : Array Value} (hp : plainFor y = true) (he : ∀ m, entryFrame m as ml = mkF m 0 Ls []) (k : Go l R Z n0 y code ml ret Q 0 0 h 0 Ls []) : Con l y code ml ret R Z n0 as h Q := by
  intro hn ws
  refine MetFree.of_bodySF hp hisR ?_
  intro p e s m args below meth c s₁ Bd hml0 hP hK
  obtain ⟨rfl, hZ, hh⟩ := hP
  have e0 : s₁.heap = h := by rw [← hh, Bd.state]; rfl
  have X0 : Stand p l e R s m args below meth c s₁ [] 0 0 := Stand.of_body Bd
  obtain ⟨s₂, o, h1, h2, h3, h4⟩ := k p e s m args below meth c s₁ [] ⟨Bd.exec, hZ, findClass_of_methodNamed Bd.named, Bd.bytes, hml0, Bd.returns, Bd.notSynchronized, (name_of_methodNamed Bd.named Bd.method).1, by rw [hh]; exact hn⟩ X0 (Fr.nil n0) e0
  exact ⟨s₂, o, castTop (he m) h1, h2, h3, h4⟩
theorem Con.mono {as : Array Value} {Q' : Option Value → Heap → Prop} (k : Con l y code ml ret R Z n0 as h Q) (hq : ∀ v h', Q v h' → Q' v h') : Con l y code ml ret R Z n0 as h Q' := by
  intro hn ws
  refine (k hn ws).mono (fun _ _ q => q) (fun _ _ _ _ _ q => q) ?_
  rintro a U o U' hP ⟨v, L, e, ⟨q, N⟩, r⟩
  exact ⟨v, L, e, ⟨hq _ _ q, N⟩, r⟩
theorem Go.mono {Q' : Option Value → Heap → Prop} (k : Go l R Z n0 y code ml ret Q' cells slots h pc Ls st) (hq : ∀ v h', Q' v h' → Q v h') : Go l R Z n0 y code ml ret Q cells slots h pc Ls st := by
  intro p e s m args below meth c T locs C X N eT
  obtain ⟨s₂, o, h1, h2, h3, v, L, h4, ⟨h5, h6⟩, h7⟩ := k p e s m args below meth c T locs C X N eT
  exact ⟨s₂, o, h1, h2, h3, v, L, h4, ⟨hq _ _ h5, h6⟩, h7⟩
theorem Go.more {cells' slots' : Nat} (k : Go l R Z n0 y code ml ret Q cells' slots' h pc Ls st) (hc : cells ≤ cells') (hs : slots ≤ slots') : Go l R Z n0 y code ml ret Q cells slots h pc Ls st := by
  intro p e s m args below meth c T locs C X N eT
  exact k p e s m args below meth c T locs C (X.more hc hs) N eT
theorem Go.old (k : Old Z n0 h → Go l R Z n0 y code ml ret Q cells slots h pc Ls st) : Go l R Z n0 y code ml ret Q cells slots h pc Ls st := by
  intro p e s m args below meth c T locs C X N eT
  exact k (own_old C.2.2.2.2.2.2.2.2 X N eT) p e s m args below meth c T locs C X N eT
theorem Go.step (hst : ∀ {p : Program} {e : Env} {s : State} {m : MethodId} {args : Array Value} {below : List Frame} {meth : Method} {c : Code} {T : State} {locs : List Loc} {target : State},
      Cx p l e R s m meth c Z n0 y code ml ret → Stand p l e R s m args below meth c T locs cells slots → T.heap = h → Steps p.tables e below (T.setTop (mkF m pc' Ls' st')) target → Steps p.tables e below (T.setTop (mkF m pc Ls st)) target)
    (k : Go l R Z n0 y code ml ret Q cells slots h pc' Ls' st') : Go l R Z n0 y code ml ret Q cells slots h pc Ls st := by
  intro p e s m args below meth c T locs C X N eT
  obtain ⟨s₂, o, h1, h2⟩ := k p e s m args below meth c T locs C X N eT
  exact ⟨s₂, o, hst C X eT h1, h2⟩
theorem Go.law {cells' slots' : Nat} {P : Heap → Prop} (hst : ∀ {p : Program} {e : Env} {s : State} {m : MethodId} {args : Array Value} {below : List Frame} {meth : Method} {c : Code} {T : State} {locs : List Loc},
      Cx p l e R s m meth c Z n0 y code ml ret → Stand p l e R s m args below meth c T locs cells slots → Fr n0 locs → T.heap = h → n0 ≤ h.size →
      ∃ T' locs' h', Stand p l e R s m args below meth c T' locs' cells' slots' ∧ Fr n0 locs' ∧ T'.heap = h' ∧ P h' ∧ ∀ target, Steps p.tables e below (T'.setTop (mkF m pc' Ls' st')) target → Steps p.tables e below (T.setTop (mkF m pc Ls st)) target)
    (k : ∀ h', P h' → Go l R Z n0 y code ml ret Q cells' slots' h' pc' Ls' st') : Go l R Z n0 y code ml ret Q cells slots h pc Ls st := by
  intro p e s m args below meth c T locs C X N eT
  have hold : Old Z n0 h := own_old C.2.2.2.2.2.2.2.2 X N eT
  obtain ⟨T', locs', h', X', N', e', hP, st⟩ := hst C X N eT (hold.1 ▸ hold.2.1)
  obtain ⟨s₂, o, h1, h2⟩ := k h' hP p e s m args below meth c T' locs' C X' N' e'
  exact ⟨s₂, o, st _ h1, h2⟩
theorem Go.iloadN {k : Fin 4} {v : Int32} (hd : decode code pc = .ok (.iload_n k, 1)) (hl : Ls[k.val]? = some (.val (.int v))) (hp : pc + 1 = pc') (k : Go l R Z n0 y code ml ret Q cells slots h pc' Ls (.int v :: st)) : Go l R Z n0 y code ml ret Q cells slots h pc Ls st := Go.step (fun C X _ q => by subst hp; exact XS.iloadN X.here C.1 rfl (hb C.2.2.2.1 hd) hl q) k
theorem Go.iload {k : Nat} {v : Int32} (hd : decode code pc = .ok (.iload k, 2)) (hl : Ls[k]? = some (.val (.int v))) (hp : pc + 2 = pc') (k : Go l R Z n0 y code ml ret Q cells slots h pc' Ls (.int v :: st)) : Go l R Z n0 y code ml ret Q cells slots h pc Ls st := Go.step (fun C X _ q => by subst hp; exact XS.iload X.here C.1 rfl (hb C.2.2.2.1 hd) hl q) k
theorem Go.lloadN {k : Fin 4} {v : Int64} (hd : decode code pc = .ok (.lload_n k, 1)) (hl : Ls[k.val]? = some (.val (.long v))) (hp : pc + 1 = pc') (k : Go l R Z n0 y code ml ret Q cells slots h pc' Ls (.long v :: st)) : Go l R Z n0 y code ml ret Q cells slots h pc Ls st := Go.step (fun C X _ q => by subst hp; exact XT.lloadN X.here C.1 rfl (hb C.2.2.2.1 hd) hl q) k
theorem Go.lload {k : Nat} {v : Int64} (hd : decode code pc = .ok (.lload k, 2)) (hl : Ls[k]? = some (.val (.long v))) (hp : pc + 2 = pc') (k : Go l R Z n0 y code ml ret Q cells slots h pc' Ls (.long v :: st)) : Go l R Z n0 y code ml ret Q cells slots h pc Ls st := Go.step (fun C X _ q => by subst hp; exact XT.lload X.here C.1 rfl (hb C.2.2.2.1 hd) hl q) k
theorem Go.aloadN {k : Fin 4} {v : Value} (hd : decode code pc = .ok (.aload_n k, 1)) (hl : Ls[k.val]? = some (.val v)) (hv : v.isRef = true) (hp : pc + 1 = pc') (k : Go l R Z n0 y code ml ret Q cells slots h pc' Ls (v :: st)) : Go l R Z n0 y code ml ret Q cells slots h pc Ls st := Go.step (fun C X _ q => by subst hp; exact XS.aloadN X.here C.1 rfl (hb C.2.2.2.1 hd) hl hv q) k
theorem Go.aload {k : Nat} {v : Value} (hd : decode code pc = .ok (.aload k, 2)) (hl : Ls[k]? = some (.val v)) (hv : v.isRef = true) (hp : pc + 2 = pc') (k : Go l R Z n0 y code ml ret Q cells slots h pc' Ls (v :: st)) : Go l R Z n0 y code ml ret Q cells slots h pc Ls st := Go.step (fun C X _ q => by subst hp; exact XS.aload X.here C.1 rfl (hb C.2.2.2.1 hd) hl hv q) k
theorem Go.istoreN {k : Fin 4} {v : Int32} (hd : decode code pc = .ok (.istore_n k, 1)) (hl : storeLocals Ls k.val (.int v) = some Ls') (hp : pc + 1 = pc') (k : Go l R Z n0 y code ml ret Q cells slots h pc' Ls' st) : Go l R Z n0 y code ml ret Q cells slots h pc Ls (.int v :: st) := Go.step (fun C X _ q => by subst hp; exact XS.istoreN X.here C.1 rfl (hb C.2.2.2.1 hd) rfl hl q) k
theorem Go.istore {k : Nat} {v : Int32} (hd : decode code pc = .ok (.istore k, 2)) (hl : storeLocals Ls k (.int v) = some Ls') (hp : pc + 2 = pc') (k : Go l R Z n0 y code ml ret Q cells slots h pc' Ls' st) : Go l R Z n0 y code ml ret Q cells slots h pc Ls (.int v :: st) := Go.step (fun C X _ q => by subst hp; exact XS.istore X.here C.1 rfl (hb C.2.2.2.1 hd) rfl hl q) k
theorem Go.lstoreN {k : Fin 4} {v : Int64} (hd : decode code pc = .ok (.lstore_n k, 1)) (hl : storeLocals Ls k.val (.long v) = some Ls') (hp : pc + 1 = pc') (k : Go l R Z n0 y code ml ret Q cells slots h pc' Ls' st) : Go l R Z n0 y code ml ret Q cells slots h pc Ls (.long v :: st) := Go.step (fun C X _ q => by subst hp; exact XT.lstoreN X.here C.1 rfl (hb C.2.2.2.1 hd) rfl hl q) k
theorem Go.lstore {k : Nat} {v : Int64} (hd : decode code pc = .ok (.lstore k, 2)) (hl : storeLocals Ls k (.long v) = some Ls') (hp : pc + 2 = pc') (k : Go l R Z n0 y code ml ret Q cells slots h pc' Ls' st) : Go l R Z n0 y code ml ret Q cells slots h pc Ls (.long v :: st) := Go.step (fun C X _ q => by subst hp; exact XT.lstore X.here C.1 rfl (hb C.2.2.2.1 hd) rfl hl q) k
theorem Go.astoreN {k : Fin 4} {v : Value} (hd : decode code pc = .ok (.astore_n k, 1)) (hv : v.isRef = true) (hl : storeLocals Ls k.val v = some Ls') (hp : pc + 1 = pc') (k : Go l R Z n0 y code ml ret Q cells slots h pc' Ls' st) : Go l R Z n0 y code ml ret Q cells slots h pc Ls (v :: st) := Go.step (fun C X _ q => by subst hp; exact XS.astoreN X.here C.1 rfl (hb C.2.2.2.1 hd) rfl hv hl q) k
theorem Go.astore {k : Nat} {v : Value} (hd : decode code pc = .ok (.astore k, 2)) (hv : v.isRef = true) (hl : storeLocals Ls k v = some Ls') (hp : pc + 2 = pc') (k : Go l R Z n0 y code ml ret Q cells slots h pc' Ls' st) : Go l R Z n0 y code ml ret Q cells slots h pc Ls (v :: st) := Go.step (fun C X _ q => by subst hp; exact XS.astore X.here C.1 rfl (hb C.2.2.2.1 hd) rfl hv hl q) k
theorem Go.iconst {i : Int} {v : Int32} (hd : decode code pc = .ok (.iconst i, 1)) (hv : Int32.ofInt i = v) (hp : pc + 1 = pc') (k : Go l R Z n0 y code ml ret Q cells slots h pc' Ls (.int v :: st)) : Go l R Z n0 y code ml ret Q cells slots h pc Ls st := Go.step (fun C X _ q => by subst hp; exact (by subst hv; exact XS.iconst X.here C.1 rfl (hb C.2.2.2.1 hd) q)) k
theorem Go.bipush {i : Int} {v : Int32} (hd : decode code pc = .ok (.bipush i, 2)) (hv : (Int8.ofInt i).toInt32 = v) (hp : pc + 2 = pc') (k : Go l R Z n0 y code ml ret Q cells slots h pc' Ls (.int v :: st)) : Go l R Z n0 y code ml ret Q cells slots h pc Ls st := Go.step (fun C X _ q => by subst hp; exact (by subst hv; exact XS.bipush X.here C.1 rfl (hb C.2.2.2.1 hd) q)) k
theorem Go.sipush {i : Int} {v : Int32} (hd : decode code pc = .ok (.sipush i, 3)) (hv : (Int16.ofInt i).toInt32 = v) (hp : pc + 3 = pc') (k : Go l R Z n0 y code ml ret Q cells slots h pc' Ls (.int v :: st)) : Go l R Z n0 y code ml ret Q cells slots h pc Ls st := Go.step (fun C X _ q => by subst hp; exact (by subst hv; exact XS.sipush X.here C.1 rfl (hb C.2.2.2.1 hd) q)) k
theorem Go.lconst {i : Fin 2} {v : Int64} (hd : decode code pc = .ok (.lconst i, 1)) (hv : Int64.ofNat i = v) (hp : pc + 1 = pc') (k : Go l R Z n0 y code ml ret Q cells slots h pc' Ls (.long v :: st)) : Go l R Z n0 y code ml ret Q cells slots h pc Ls st := Go.step (fun C X _ q => by subst hp; exact XT.lconstV X.here C.1 rfl v (hb C.2.2.2.1 hd) hv q) k
theorem Go.aconstNull (hd : decode code pc = .ok (.aconst_null, 1)) (hp : pc + 1 = pc') (k : Go l R Z n0 y code ml ret Q cells slots h pc' Ls (.null :: st)) : Go l R Z n0 y code ml ret Q cells slots h pc Ls st := Go.step (fun C X _ q => by subst hp; exact XS.aconstNull X.here C.1 rfl (hb C.2.2.2.1 hd) q) k
theorem Go.ldcI {i : Nat} {v : Int32} (w : (Jvm.Cond.constant y.cls i v).before a0 Z = true) (hd : decode code pc = .ok (.ldc i, 2)) (hp : pc + 2 = pc') (k : Go l R Z n0 y code ml ret Q cells slots h pc' Ls (.int v :: st)) : Go l R Z n0 y code ml ret Q cells slots h pc Ls st := Go.step (fun C X _ q => by subst hp; exact Jvm.Stand.ldcI X C.1 C.2.2.1 (mvT C.2.1 w) rfl (hb C.2.2.2.1 hd) q) k
theorem Go.ldcWI {i : Nat} {v : Int32} (w : (Jvm.Cond.constant y.cls i v).before a0 Z = true) (hd : decode code pc = .ok (.ldc_w i, 3)) (hp : pc + 3 = pc') (k : Go l R Z n0 y code ml ret Q cells slots h pc' Ls (.int v :: st)) : Go l R Z n0 y code ml ret Q cells slots h pc Ls st := Go.step (fun C X _ q => by subst hp; exact Jvm.Stand.ldcWI X C.1 C.2.2.1 (mvT C.2.1 w) rfl (hb C.2.2.2.1 hd) q) k
theorem Go.ldc2J {i : Nat} {v : Int64} (w : (Jvm.Cond.constantLong y.cls i v).before a0 Z = true) (hd : decode code pc = .ok (.ldc2_w i, 3)) (hp : pc + 3 = pc') (k : Go l R Z n0 y code ml ret Q cells slots h pc' Ls (.long v :: st)) : Go l R Z n0 y code ml ret Q cells slots h pc Ls st := Go.step (fun C X _ q => by subst hp; exact Jvm.Stand.ldc2J X C.1 C.2.2.1 (mvT C.2.1 w) rfl (hb C.2.2.2.1 hd) q) k
theorem Go.iadd {a b : Int32} (hd : decode code pc = .ok (.iadd, 1)) (hp : pc + 1 = pc') (k : Go l R Z n0 y code ml ret Q cells slots h pc' Ls (.int (a + b) :: st)) : Go l R Z n0 y code ml ret Q cells slots h pc Ls (.int b :: .int a :: st) := Go.step (fun C X _ q => by subst hp; exact XS.iadd X.here C.1 rfl (hb C.2.2.2.1 hd) rfl q) k
theorem Go.isub {a b : Int32} (hd : decode code pc = .ok (.isub, 1)) (hp : pc + 1 = pc') (k : Go l R Z n0 y code ml ret Q cells slots h pc' Ls (.int (a - b) :: st)) : Go l R Z n0 y code ml ret Q cells slots h pc Ls (.int b :: .int a :: st) := Go.step (fun C X _ q => by subst hp; exact XS.isub X.here C.1 rfl (hb C.2.2.2.1 hd) rfl q) k
theorem Go.imul {a b : Int32} (hd : decode code pc = .ok (.imul, 1)) (hp : pc + 1 = pc') (k : Go l R Z n0 y code ml ret Q cells slots h pc' Ls (.int (a * b) :: st)) : Go l R Z n0 y code ml ret Q cells slots h pc Ls (.int b :: .int a :: st) := Go.step (fun C X _ q => by subst hp; exact XS.imul X.here C.1 rfl (hb C.2.2.2.1 hd) rfl q) k
theorem Go.iand {a b : Int32} (hd : decode code pc = .ok (.iand, 1)) (hp : pc + 1 = pc') (k : Go l R Z n0 y code ml ret Q cells slots h pc' Ls (.int (a &&& b) :: st)) : Go l R Z n0 y code ml ret Q cells slots h pc Ls (.int b :: .int a :: st) := Go.step (fun C X _ q => by subst hp; exact XS.iand X.here C.1 rfl (hb C.2.2.2.1 hd) rfl q) k
theorem Go.ior {a b : Int32} (hd : decode code pc = .ok (.ior, 1)) (hp : pc + 1 = pc') (k : Go l R Z n0 y code ml ret Q cells slots h pc' Ls (.int (a ||| b) :: st)) : Go l R Z n0 y code ml ret Q cells slots h pc Ls (.int b :: .int a :: st) := Go.step (fun C X _ q => by subst hp; exact XT.ior X.here C.1 rfl (hb C.2.2.2.1 hd) rfl q) k
theorem Go.ixor {a b : Int32} (hd : decode code pc = .ok (.ixor, 1)) (hp : pc + 1 = pc') (k : Go l R Z n0 y code ml ret Q cells slots h pc' Ls (.int (a ^^^ b) :: st)) : Go l R Z n0 y code ml ret Q cells slots h pc Ls (.int b :: .int a :: st) := Go.step (fun C X _ q => by subst hp; exact XT.ixor X.here C.1 rfl (hb C.2.2.2.1 hd) rfl q) k
theorem Go.ladd {a b : Int64} (hd : decode code pc = .ok (.ladd, 1)) (hp : pc + 1 = pc') (k : Go l R Z n0 y code ml ret Q cells slots h pc' Ls (.long (a + b) :: st)) : Go l R Z n0 y code ml ret Q cells slots h pc Ls (.long b :: .long a :: st) := Go.step (fun C X _ q => by subst hp; exact XT.ladd X.here C.1 rfl (hb C.2.2.2.1 hd) rfl q) k
theorem Go.lsub {a b : Int64} (hd : decode code pc = .ok (.lsub, 1)) (hp : pc + 1 = pc') (k : Go l R Z n0 y code ml ret Q cells slots h pc' Ls (.long (a - b) :: st)) : Go l R Z n0 y code ml ret Q cells slots h pc Ls (.long b :: .long a :: st) := Go.step (fun C X _ q => by subst hp; exact XT.lsub X.here C.1 rfl (hb C.2.2.2.1 hd) rfl q) k
theorem Go.lmul {a b : Int64} (hd : decode code pc = .ok (.lmul, 1)) (hp : pc + 1 = pc') (k : Go l R Z n0 y code ml ret Q cells slots h pc' Ls (.long (a * b) :: st)) : Go l R Z n0 y code ml ret Q cells slots h pc Ls (.long b :: .long a :: st) := Go.step (fun C X _ q => by subst hp; exact XT.lmul X.here C.1 rfl (hb C.2.2.2.1 hd) rfl q) k
theorem Go.land {a b : Int64} (hd : decode code pc = .ok (.land, 1)) (hp : pc + 1 = pc') (k : Go l R Z n0 y code ml ret Q cells slots h pc' Ls (.long (a &&& b) :: st)) : Go l R Z n0 y code ml ret Q cells slots h pc Ls (.long b :: .long a :: st) := Go.step (fun C X _ q => by subst hp; exact XT.land X.here C.1 rfl (hb C.2.2.2.1 hd) rfl q) k
theorem Go.lor {a b : Int64} (hd : decode code pc = .ok (.lor, 1)) (hp : pc + 1 = pc') (k : Go l R Z n0 y code ml ret Q cells slots h pc' Ls (.long (a ||| b) :: st)) : Go l R Z n0 y code ml ret Q cells slots h pc Ls (.long b :: .long a :: st) := Go.step (fun C X _ q => by subst hp; exact XT.lor X.here C.1 rfl (hb C.2.2.2.1 hd) rfl q) k
theorem Go.lxor {a b : Int64} (hd : decode code pc = .ok (.lxor, 1)) (hp : pc + 1 = pc') (k : Go l R Z n0 y code ml ret Q cells slots h pc' Ls (.long (a ^^^ b) :: st)) : Go l R Z n0 y code ml ret Q cells slots h pc Ls (.long b :: .long a :: st) := Go.step (fun C X _ q => by subst hp; exact XT.lxor X.here C.1 rfl (hb C.2.2.2.1 hd) rfl q) k
theorem Go.ishl {a b : Int32} (hd : decode code pc = .ok (.ishl, 1)) (hp : pc + 1 = pc') (k : Go l R Z n0 y code ml ret Q cells slots h pc' Ls (.int (a <<< (b &&& 31)) :: st)) : Go l R Z n0 y code ml ret Q cells slots h pc Ls (.int b :: .int a :: st) := Go.step (fun C X _ q => by subst hp; exact XT.ishl X.here C.1 rfl (hb C.2.2.2.1 hd) rfl q) k
theorem Go.ishr {a b : Int32} (hd : decode code pc = .ok (.ishr, 1)) (hp : pc + 1 = pc') (k : Go l R Z n0 y code ml ret Q cells slots h pc' Ls (.int (a >>> (b &&& 31)) :: st)) : Go l R Z n0 y code ml ret Q cells slots h pc Ls (.int b :: .int a :: st) := Go.step (fun C X _ q => by subst hp; exact XT.ishr X.here C.1 rfl (hb C.2.2.2.1 hd) rfl q) k
theorem Go.iushr {a b : Int32} (hd : decode code pc = .ok (.iushr, 1)) (hp : pc + 1 = pc') (k : Go l R Z n0 y code ml ret Q cells slots h pc' Ls (.int (XT.ushr a b) :: st)) : Go l R Z n0 y code ml ret Q cells slots h pc Ls (.int b :: .int a :: st) := Go.step (fun C X _ q => by subst hp; exact XT.iushr X.here C.1 rfl (hb C.2.2.2.1 hd) rfl q) k
theorem Go.lshr {a : Int64} {b : Int32} (hd : decode code pc = .ok (.lshr, 1)) (hp : pc + 1 = pc') (k : Go l R Z n0 y code ml ret Q cells slots h pc' Ls (.long (a >>> (b.toInt64 &&& 63)) :: st)) : Go l R Z n0 y code ml ret Q cells slots h pc Ls (.int b :: .long a :: st) := Go.step (fun C X _ q => by subst hp; exact XT.lshr X.here C.1 rfl (hb C.2.2.2.1 hd) rfl q) k
theorem Go.lshl {a : Int64} {b : Int32} (hd : decode code pc = .ok (.lshl, 1)) (hp : pc + 1 = pc') (k : Go l R Z n0 y code ml ret Q cells slots h pc' Ls (.long (a <<< (b.toInt64 &&& 63)) :: st)) : Go l R Z n0 y code ml ret Q cells slots h pc Ls (.int b :: .long a :: st) := Go.step (fun C X _ q => by subst hp; exact XT.lshl X.here C.1 rfl (hb C.2.2.2.1 hd) rfl q) k
theorem Go.lushr {a : Int64} {b : Int32} (hd : decode code pc = .ok (.lushr, 1)) (hp : pc + 1 = pc') (k : Go l R Z n0 y code ml ret Q cells slots h pc' Ls (.long (XT.ushrL a b) :: st)) : Go l R Z n0 y code ml ret Q cells slots h pc Ls (.int b :: .long a :: st) := Go.step (fun C X _ q => by subst hp; exact XT.lushr X.here C.1 rfl (hb C.2.2.2.1 hd) rfl q) k
theorem Go.irem {a b : Int32} (hd : decode code pc = .ok (.irem, 1)) (hz : b ≠ 0) (hp : pc + 1 = pc') (k : Go l R Z n0 y code ml ret Q cells slots h pc' Ls (.int (a % b) :: st)) : Go l R Z n0 y code ml ret Q cells slots h pc Ls (.int b :: .int a :: st) := Go.step (fun C X _ q => by subst hp; exact iremM X C.1 rfl (hb C.2.2.2.1 hd) rfl hz q) k
theorem Go.idiv {a b : Int32} (hd : decode code pc = .ok (.idiv, 1)) (hz : b ≠ 0) (hp : pc + 1 = pc') (k : Go l R Z n0 y code ml ret Q cells slots h pc' Ls (.int (a / b) :: st)) : Go l R Z n0 y code ml ret Q cells slots h pc Ls (.int b :: .int a :: st) := Go.step (fun C X _ q => by subst hp; exact XS.idiv X.here C.1 rfl (hb C.2.2.2.1 hd) rfl hz q) k
theorem Go.ldiv {a b : Int64} (hd : decode code pc = .ok (.ldiv, 1)) (hz : b ≠ 0) (hp : pc + 1 = pc') (k : Go l R Z n0 y code ml ret Q cells slots h pc' Ls (.long (a / b) :: st)) : Go l R Z n0 y code ml ret Q cells slots h pc Ls (.long b :: .long a :: st) := Go.step (fun C X _ q => by subst hp; exact XT.ldiv X.here C.1 rfl (hb C.2.2.2.1 hd) rfl hz q) k
theorem Go.lrem {a b : Int64} (hd : decode code pc = .ok (.lrem, 1)) (hz : b ≠ 0) (hp : pc + 1 = pc') (k : Go l R Z n0 y code ml ret Q cells slots h pc' Ls (.long (a - (a / b) * b) :: st)) : Go l R Z n0 y code ml ret Q cells slots h pc Ls (.long b :: .long a :: st) := Go.step (fun C X _ q => by subst hp; exact XT.lrem X.here C.1 rfl (hb C.2.2.2.1 hd) rfl hz q) k
theorem Go.ineg {a : Int32} (hd : decode code pc = .ok (.ineg, 1)) (hp : pc + 1 = pc') (k : Go l R Z n0 y code ml ret Q cells slots h pc' Ls (.int (-a) :: st)) : Go l R Z n0 y code ml ret Q cells slots h pc Ls (.int a :: st) := Go.step (fun C X _ q => by subst hp; exact XS.ineg X.here C.1 rfl (hb C.2.2.2.1 hd) rfl q) k
theorem Go.lneg {a : Int64} (hd : decode code pc = .ok (.lneg, 1)) (hp : pc + 1 = pc') (k : Go l R Z n0 y code ml ret Q cells slots h pc' Ls (.long (-a) :: st)) : Go l R Z n0 y code ml ret Q cells slots h pc Ls (.long a :: st) := Go.step (fun C X _ q => by subst hp; exact XT.lneg X.here C.1 rfl (hb C.2.2.2.1 hd) rfl q) k
theorem Go.i2l {a : Int32} (hd : decode code pc = .ok (.i2l, 1)) (hp : pc + 1 = pc') (k : Go l R Z n0 y code ml ret Q cells slots h pc' Ls (.long a.toInt64 :: st)) : Go l R Z n0 y code ml ret Q cells slots h pc Ls (.int a :: st) := Go.step (fun C X _ q => by subst hp; exact XT.i2l X.here C.1 rfl (hb C.2.2.2.1 hd) rfl q) k
theorem Go.l2i {a : Int64} (hd : decode code pc = .ok (.l2i, 1)) (hp : pc + 1 = pc') (k : Go l R Z n0 y code ml ret Q cells slots h pc' Ls (.int a.toInt32 :: st)) : Go l R Z n0 y code ml ret Q cells slots h pc Ls (.long a :: st) := Go.step (fun C X _ q => by subst hp; exact XT.l2i X.here C.1 rfl (hb C.2.2.2.1 hd) rfl q) k
theorem Go.i2b {a : Int32} (hd : decode code pc = .ok (.i2b, 1)) (hp : pc + 1 = pc') (k : Go l R Z n0 y code ml ret Q cells slots h pc' Ls (.int a.toInt8.toInt32 :: st)) : Go l R Z n0 y code ml ret Q cells slots h pc Ls (.int a :: st) := Go.step (fun C X _ q => by subst hp; exact XT.i2b X.here C.1 rfl (hb C.2.2.2.1 hd) rfl q) k
theorem Go.i2c {a : Int32} (hd : decode code pc = .ok (.i2c, 1)) (hp : pc + 1 = pc') (k : Go l R Z n0 y code ml ret Q cells slots h pc' Ls (.int a.toUInt32.toUInt16.toUInt32.toInt32 :: st)) : Go l R Z n0 y code ml ret Q cells slots h pc Ls (.int a :: st) := Go.step (fun C X _ q => by subst hp; exact XT.i2c X.here C.1 rfl (hb C.2.2.2.1 hd) rfl q) k
theorem Go.lcmp {a b : Int64} (hd : decode code pc = .ok (.lcmp, 1)) (hp : pc + 1 = pc') (k : Go l R Z n0 y code ml ret Q cells slots h pc' Ls (.int (XT.cmpL a b) :: st)) : Go l R Z n0 y code ml ret Q cells slots h pc Ls (.long b :: .long a :: st) := Go.step (fun C X _ q => by subst hp; exact XT.lcmp X.here C.1 rfl (hb C.2.2.2.1 hd) rfl q) k
theorem Go.iinc {k : Nat} {i : Int} {v w : Int32} (hd : decode code pc = .ok (.iinc k i, 3)) (hv : Int32.ofInt i = w) (hl : Ls[k]? = some (.val (.int v))) (hl' : storeLocals Ls k (.int (v + w)) = some Ls') (hp : pc + 3 = pc') (k : Go l R Z n0 y code ml ret Q cells slots h pc' Ls' st) : Go l R Z n0 y code ml ret Q cells slots h pc Ls st := Go.step (fun C X _ q => by subst hp; exact XT.iincV X.here C.1 rfl w (hb C.2.2.2.1 hd) hv hl hl' q) k
theorem Go.dup {v : Value} (hd : decode code pc = .ok (.dup, 1)) (hc : v.category = 1) (hp : pc + 1 = pc') (k : Go l R Z n0 y code ml ret Q cells slots h pc' Ls (v :: v :: st)) : Go l R Z n0 y code ml ret Q cells slots h pc Ls (v :: st) := Go.step (fun C X _ q => by subst hp; exact XS.dup X.here C.1 rfl (hb C.2.2.2.1 hd) rfl hc q) k
theorem Go.pop {v : Value} (hd : decode code pc = .ok (.pop, 1)) (hc : v.category = 1) (hp : pc + 1 = pc') (k : Go l R Z n0 y code ml ret Q cells slots h pc' Ls st) : Go l R Z n0 y code ml ret Q cells slots h pc Ls (v :: st) := Go.step (fun C X _ q => by subst hp; exact XT.pop X.here C.1 rfl (hb C.2.2.2.1 hd) rfl hc q) k
theorem Go.dupX1 {v w : Value} (hd : decode code pc = .ok (.dup_x1, 1)) (hc : v.category = 1) (hc' : w.category = 1) (hp : pc + 1 = pc') (k : Go l R Z n0 y code ml ret Q cells slots h pc' Ls (v :: w :: v :: st)) : Go l R Z n0 y code ml ret Q cells slots h pc Ls (v :: w :: st) := Go.step (fun C X _ q => by subst hp; exact XT.dupX1 X.here C.1 rfl (hb C.2.2.2.1 hd) rfl hc hc' q) k
theorem Go.dup2 {v w : Value} (hd : decode code pc = .ok (.dup2, 1)) (hc : v.category = 1) (hc' : w.category = 1) (hp : pc + 1 = pc') (k : Go l R Z n0 y code ml ret Q cells slots h pc' Ls (v :: w :: v :: w :: st)) : Go l R Z n0 y code ml ret Q cells slots h pc Ls (v :: w :: st) := Go.step (fun C X _ q => by subst hp; exact XT.dup2 X.here C.1 rfl (hb C.2.2.2.1 hd) rfl hc hc' q) k
theorem Go.dup2L {a : Int64} (hd : decode code pc = .ok (.dup2, 1)) (hp : pc + 1 = pc') (k : Go l R Z n0 y code ml ret Q cells slots h pc' Ls (.long a :: .long a :: st)) : Go l R Z n0 y code ml ret Q cells slots h pc Ls (.long a :: st) := Go.step (fun C X _ q => by subst hp; exact XT.dup2L X.here C.1 rfl (hb C.2.2.2.1 hd) rfl q) k
theorem Go.goto {o : Int} (hd : decode code pc = .ok (.goto o, 3)) (ho : 0 ≤ (pc : Int) + o := by decide) (hp : ((pc : Int) + o).toNat = pc' := by decide) (k : Go l R Z n0 y code ml ret Q cells slots h pc' Ls st) : Go l R Z n0 y code ml ret Q cells slots h pc Ls st := Go.step (fun C X _ q => XS.goto X.here C.1 rfl rfl (hb C.2.2.2.1 hd) ho hp q) k
theorem Go.ifYes {o : Int} {cd : ClassFile.Cond} {a : Int32} (hd : decode code pc = .ok (.ifCond cd o, 3)) (hc : ifCond.holds cd a = true) (ho : 0 ≤ (pc : Int) + o := by decide) (hp : ((pc : Int) + o).toNat = pc' := by decide) (k : Go l R Z n0 y code ml ret Q cells slots h pc' Ls st) : Go l R Z n0 y code ml ret Q cells slots h pc Ls (.int a :: st) := Go.step (fun C X _ q => XS.ifYes X.here C.1 rfl rfl (hb C.2.2.2.1 hd) rfl hc ho hp q) k
theorem Go.icmpYes {o : Int} {cd : ClassFile.Cond} {a b : Int32} (hd : decode code pc = .ok (.if_icmp cd o, 3)) (hc : if_icmp.holds cd a b = true) (ho : 0 ≤ (pc : Int) + o := by decide) (hp : ((pc : Int) + o).toNat = pc' := by decide) (k : Go l R Z n0 y code ml ret Q cells slots h pc' Ls st) : Go l R Z n0 y code ml ret Q cells slots h pc Ls (.int b :: .int a :: st) := Go.step (fun C X _ q => XS.icmpYes X.here C.1 rfl rfl (hb C.2.2.2.1 hd) rfl hc ho hp q) k
theorem Go.acmpYes {o : Int} {cd : ClassFile.ACond} {a b : Value} (hd : decode code pc = .ok (.if_acmp cd o, 3)) (ha : a.isRef = true) (hb' : b.isRef = true) (hc : XT.acmp cd a b = true) (ho : 0 ≤ (pc : Int) + o := by decide) (hp : ((pc : Int) + o).toNat = pc' := by decide) (k : Go l R Z n0 y code ml ret Q cells slots h pc' Ls st) : Go l R Z n0 y code ml ret Q cells slots h pc Ls (b :: a :: st) := Go.step (fun C X _ q => XT.acmpYes X.here C.1 rfl rfl (hb C.2.2.2.1 hd) rfl ha hb' hc ho hp q) k
theorem Go.nullYes {o : Int} {a : Value} (hd : decode code pc = .ok (.ifnull o, 3)) (hv : a = .null) (ho : 0 ≤ (pc : Int) + o := by decide) (hp : ((pc : Int) + o).toNat = pc' := by decide) (k : Go l R Z n0 y code ml ret Q cells slots h pc' Ls st) : Go l R Z n0 y code ml ret Q cells slots h pc Ls (a :: st) := Go.step (fun C X _ q => XT.nullYes X.here C.1 rfl rfl (hb C.2.2.2.1 hd) rfl hv ho hp q) k
theorem Go.nonnullYes {o : Int} {a : Value} (hd : decode code pc = .ok (.ifnonnull o, 3)) (ha : a.isRef = true) (hv : ¬ a = .null) (ho : 0 ≤ (pc : Int) + o := by decide) (hp : ((pc : Int) + o).toNat = pc' := by decide) (k : Go l R Z n0 y code ml ret Q cells slots h pc' Ls st) : Go l R Z n0 y code ml ret Q cells slots h pc Ls (a :: st) := Go.step (fun C X _ q => XT.nonnullYes X.here C.1 rfl rfl (hb C.2.2.2.1 hd) rfl ha hv ho hp q) k
theorem Go.ifNo {o : Int} {cd : ClassFile.Cond} {a : Int32} (hd : decode code pc = .ok (.ifCond cd o, 3)) (hc : ifCond.holds cd a = false) (hp : pc + 3 = pc') (k : Go l R Z n0 y code ml ret Q cells slots h pc' Ls st) : Go l R Z n0 y code ml ret Q cells slots h pc Ls (.int a :: st) := Go.step (fun C X _ q => by subst hp; exact XS.ifNo X.here C.1 rfl (hb C.2.2.2.1 hd) rfl hc q) k
theorem Go.icmpNo {o : Int} {cd : ClassFile.Cond} {a b : Int32} (hd : decode code pc = .ok (.if_icmp cd o, 3)) (hc : if_icmp.holds cd a b = false) (hp : pc + 3 = pc') (k : Go l R Z n0 y code ml ret Q cells slots h pc' Ls st) : Go l R Z n0 y code ml ret Q cells slots h pc Ls (.int b :: .int a :: st) := Go.step (fun C X _ q => by subst hp; exact XS.icmpNo X.here C.1 rfl (hb C.2.2.2.1 hd) rfl hc q) k
theorem Go.acmpNo {o : Int} {cd : ClassFile.ACond} {a b : Value} (hd : decode code pc = .ok (.if_acmp cd o, 3)) (ha : a.isRef = true) (hb' : b.isRef = true) (hc : XT.acmp cd a b = false) (hp : pc + 3 = pc') (k : Go l R Z n0 y code ml ret Q cells slots h pc' Ls st) : Go l R Z n0 y code ml ret Q cells slots h pc Ls (b :: a :: st) := Go.step (fun C X _ q => by subst hp; exact XT.acmpNo X.here C.1 rfl (hb C.2.2.2.1 hd) rfl ha hb' hc q) k
theorem Go.nullNo {o : Int} {a : Value} (hd : decode code pc = .ok (.ifnull o, 3)) (ha : a.isRef = true) (hv : ¬ a = .null) (hp : pc + 3 = pc') (k : Go l R Z n0 y code ml ret Q cells slots h pc' Ls st) : Go l R Z n0 y code ml ret Q cells slots h pc Ls (a :: st) := Go.step (fun C X _ q => by subst hp; exact XT.nullNo X.here C.1 rfl (hb C.2.2.2.1 hd) rfl ha hv q) k
theorem Go.nonnullNo {o : Int} {a : Value} (hd : decode code pc = .ok (.ifnonnull o, 3)) (hv : a = .null) (hp : pc + 3 = pc') (k : Go l R Z n0 y code ml ret Q cells slots h pc' Ls st) : Go l R Z n0 y code ml ret Q cells slots h pc Ls (a :: st) := Go.step (fun C X _ q => by subst hp; exact XT.nonnullNo X.here C.1 rfl (hb C.2.2.2.1 hd) rfl hv q) k
theorem Go.tsw {a : Int32} {dflt low high o : Int} {offs : Array Int} {len : Nat} (hd : decode code pc = .ok (.tableswitch dflt low high offs, len)) (hin : ¬ (a.toInt < low ∨ a.toInt > high)) (hoff : offs[(a.toInt - low).toNat]? = some o) (ho : 0 ≤ (pc : Int) + o) (hp : ((pc : Int) + o).toNat = pc') (k : Go l R Z n0 y code ml ret Q cells slots h pc' Ls st) : Go l R Z n0 y code ml ret Q cells slots h pc Ls (.int a :: st) := Go.step (fun C X _ q => XS.tswIn X.here C.1 rfl rfl (hb C.2.2.2.1 hd) rfl hin hoff ho hp q) k
theorem Go.tswOut {a : Int32} {dflt low high : Int} {offs : Array Int} {len : Nat} (hd : decode code pc = .ok (.tableswitch dflt low high offs, len)) (hout : a.toInt < low ∨ a.toInt > high) (ho : 0 ≤ (pc : Int) + dflt) (hp : ((pc : Int) + dflt).toNat = pc') (k : Go l R Z n0 y code ml ret Q cells slots h pc' Ls st) : Go l R Z n0 y code ml ret Q cells slots h pc Ls (.int a :: st) := Go.step (fun C X _ q => XS.tswOut X.here C.1 rfl rfl (hb C.2.2.2.1 hd) rfl hout ho hp q) k
theorem Go.getstatic {host : String} {R0 O n d : String} {i : Nat} (w : (Jvm.Cond.fieldLink y.cls i R0 n d).before a0 Z = true ∨ (Jvm.Cond.fieldLinkNest y.cls i R0 n d host).before a0 Z = true) (via : Via Z R0 O n d) {v : Value} (F : Sta Z h O n d v) (hd : decode code pc = .ok (.getstatic i, 3)) (hp : pc + 3 = pc') (k : Go l R Z n0 y code ml ret Q cells slots h pc' Ls (v :: st)) : Go l R Z n0 y code ml ret Q cells slots h pc Ls st := by
  refine Go.law (P := fun h' => h' = h) (fun C X N eT _ => ?_) (fun h' e => e ▸ k)
  subst hp
  obtain ⟨T', X', e', st⟩ := getS2 X C.1 C.2.1 C.2.2.1 w via eT F (g := mkF _ pc Ls st) rfl (hb C.2.2.2.1 hd)
  exact ⟨T', _, h, X', N, e', rfl, st⟩
theorem Go.getfield {host : String} {R0 O n d : String} {i : Nat} (w : (Jvm.Cond.fieldLink y.cls i R0 n d).before a0 Z = true ∨ (Jvm.Cond.fieldLinkNest y.cls i R0 n d host).before a0 Z = true) (via : Via Z R0 O n d) {v : Value} {a : Addr} (F : Fld Z h a O n d v) (hd : decode code pc = .ok (.getfield i, 3)) (hp : pc + 3 = pc') (k : Go l R Z n0 y code ml ret Q cells slots h pc' Ls (v :: st)) : Go l R Z n0 y code ml ret Q cells slots h pc Ls (.ref a :: st) := by
  refine Go.law (P := fun h' => h' = h) (fun C X N eT _ => ?_) (fun h' e => e ▸ k)
  subst hp
  obtain ⟨T', X', e', st⟩ := getF X C.1 C.2.1 C.2.2.1 w via eT F (g := mkF _ pc Ls (.ref a :: st)) rfl rfl (hb C.2.2.2.1 hd)
  exact ⟨T', _, h, X', N, e', rfl, st⟩
theorem Go.castY {K : String} {i : Nat} {a : Addr} (w : (Jvm.Cond.classLink y.cls i K).before a0 Z = true) (F : Ins Z h a K true) (hd : decode code pc = .ok (.checkcast i, 3)) (hp : pc + 3 = pc') (k : Go l R Z n0 y code ml ret Q cells slots h pc' Ls (.ref a :: st)) : Go l R Z n0 y code ml ret Q cells slots h pc Ls (.ref a :: st) := by
  refine Go.law (P := fun h' => h' = h) (fun C X N eT _ => ?_) (fun h' e => e ▸ k)
  subst hp
  obtain ⟨T', X', e', st⟩ := castY X C.1 C.2.1 C.2.2.1 w eT F (g := mkF _ pc Ls (.ref a :: st)) rfl rfl (hb C.2.2.2.1 hd)
  exact ⟨T', _, h, X', N, e', rfl, st⟩
theorem Go.instY {K : String} {i : Nat} {a : Addr} (w : (Jvm.Cond.classLink y.cls i K).before a0 Z = true) (F : Ins Z h a K true) (hd : decode code pc = .ok (.instanceof i, 3)) (hp : pc + 3 = pc') (k : Go l R Z n0 y code ml ret Q cells slots h pc' Ls (.int 1 :: st)) : Go l R Z n0 y code ml ret Q cells slots h pc Ls (.ref a :: st) := by
  refine Go.law (P := fun h' => h' = h) (fun C X N eT _ => ?_) (fun h' e => e ▸ k)
  subst hp
  obtain ⟨T', X', e', st⟩ := instY X C.1 C.2.1 C.2.2.1 w eT F (g := mkF _ pc Ls (.ref a :: st)) rfl rfl (hb C.2.2.2.1 hd)
  exact ⟨T', _, h, X', N, e', rfl, st⟩
theorem Go.instNo {K C' : String} {i : Nat} {a : Addr} (w : (Jvm.Cond.classLink y.cls i K).before a0 Z = true) (E : Exa Z h a C') (F : ∃ c t, Z.vm.findClass C' = some c ∧ Z.vm.findClass K = some t ∧ Z.vm.assignable c t = false) (hd : decode code pc = .ok (.instanceof i, 3)) (hp : pc + 3 = pc') (k : Go l R Z n0 y code ml ret Q cells slots h pc' Ls (.int 0 :: st)) : Go l R Z n0 y code ml ret Q cells slots h pc Ls (.ref a :: st) := by
  refine Go.law (P := fun h' => h' = h) (fun C X N eT _ => ?_) (fun h' e => e ▸ k)
  subst hp
  obtain ⟨T', X', e', st⟩ := instNo X C.1 C.2.1 C.2.2.1 w eT E F (g := mkF _ pc Ls (.ref a :: st)) rfl rfl (hb C.2.2.2.1 hd)
  exact ⟨T', _, h, X', N, e', rfl, st⟩
theorem Go.castNull {i : Nat} (hd : decode code pc = .ok (.checkcast i, 3)) (hp : pc + 3 = pc') (k : Go l R Z n0 y code ml ret Q cells slots h pc' Ls (.null :: st)) : Go l R Z n0 y code ml ret Q cells slots h pc Ls (.null :: st) := Go.step (fun C X _ q => by subst hp; exact (X.checkcastNull C.1 (g := mkF _ pc Ls (.null :: st)) rfl rfl (hb C.2.2.2.1 hd) _ q)) k
theorem Go.initO {i : Nat} {a : Addr} (w1 : (Jvm.Cond.methodLink y.cls i Lib.objectInit).before a0 Z = true) (w2 : (Jvm.Cond.instanceMethod Lib.objectInit).before a0 Z = true) (w3 : (Jvm.Cond.code Lib.objectInit ⟨#[0xb1]⟩ 1 none).before a0 Z = true) (hd : decode code pc = .ok (.invokespecial i, 3)) (hz : Ls.size = ml) (hf : 1 ≤ R.frames := by decide) (hl : (st.map fun v => v.category).sum + 12 ≤ R.locals := by decide) (hp : pc + 3 = pc') (k : Go l R Z n0 y code ml ret Q cells slots h pc' Ls st) : Go l R Z n0 y code ml ret Q cells slots h pc Ls (.ref a :: st) := by
  refine Go.law (P := fun h' => h' = h) (fun C X N eT _ => ?_) (fun h' e => e ▸ k)
  subst hp
  obtain ⟨T', X', e', st⟩ := initO X C.1 C.2.1 C.2.2.1 w1 w2 w3 eT (g := mkF _ pc Ls (.ref a :: st)) rfl (by rw [C.2.2.2.2.1]; exact hz) rfl (hb C.2.2.2.1 hd) hf (W := (st.map fun v => v.category).sum) (by simp) hl
  exact ⟨T', _, h, X', N, e', rfl, st⟩
theorem Go.getClass {i : Nat} {a mr : Addr} {C' : String} (w1 : (Jvm.Cond.methodLink y.cls i ⟨"java/lang/Object", "getClass", "()Ljava/lang/Class;"⟩).before a0 Z = true) (w2 : (Jvm.Cond.declares ⟨"java/lang/Object", "getClass", "()Ljava/lang/Class;"⟩).before a0 Z = true) (w3 : (Jvm.Cond.noSuperclass "java/lang/Object").before a0 Z = true) (w4 : (Jvm.Cond.selects C' ⟨"java/lang/Object", "getClass", "()Ljava/lang/Class;"⟩ ⟨"java/lang/Object", "getClass", "()Ljava/lang/Class;"⟩).before a0 Z = true) (w5 : (Jvm.Cond.instanceMethod ⟨"java/lang/Object", "getClass", "()Ljava/lang/Class;"⟩).before a0 Z = true) (w6 : (Jvm.Cond.native ⟨"java/lang/Object", "getClass", "()Ljava/lang/Class;"⟩).before a0 Z = true) (E : Exa Z h a C') (M : Mi Z C' mr) (hd : decode code pc = .ok (.invokevirtual i, 3)) (hz : Ls.size = ml) (hf : 1 ≤ R.frames := by decide) (hl : (st.map fun v => v.category).sum + (nativeFrameWords "java/lang/Object" "getClass" 1 + 11) ≤ R.locals := by decide) (hp : pc + 3 = pc') (k : Go l R Z n0 y code ml ret Q cells slots h pc' Ls (.ref mr :: st)) : Go l R Z n0 y code ml ret Q cells slots h pc Ls (.ref a :: st) := by
  refine Go.law (P := fun h' => h' = h) (fun C X N eT _ => ?_) (fun h' e => e ▸ k)
  subst hp
  obtain ⟨cB, kB, i1, i2, i3⟩ := isOf C.2.1 eT E
  obtain ⟨cc, kc, m1, m2, m3⟩ := M.at C.2.1
  cases i1.symm.trans m1
  obtain ⟨vm', X', st⟩ := X.getClassOf C.1 C.2.2.1 (mvT C.2.1 w1) (mvT C.2.1 w2) (nf_top (args := #[]) (mvT C.2.1 w3)) (mvT C.2.1 w4) (mvT C.2.1 w5) (mvT C.2.1 w6) m1 i3 m2 m3 (g := mkF _ pc Ls (.ref a :: st)) rfl (by rw [C.2.2.2.2.1]; exact hz) rfl (hb C.2.2.2.1 hd) hf (by simpa using hl)
  exact ⟨_, _, h, X', N, eT, rfl, st⟩
theorem Go.ldcMirror {i : Nat} {mr : Addr} {C' : String} (w : (Jvm.Cond.classLink y.cls i C').before a0 Z = true) (M : Mi Z C' mr) (hd : decode code pc = .ok (.ldc i, 2)) (hp : pc + 2 = pc') (k : Go l R Z n0 y code ml ret Q cells slots h pc' Ls (.ref mr :: st)) : Go l R Z n0 y code ml ret Q cells slots h pc Ls st := by
  refine Go.law (P := fun h' => h' = h) (fun C X N eT _ => ?_) (fun h' e => e ▸ k)
  subst hp
  obtain ⟨cc, kc, m1, m2, m3⟩ := M.at C.2.1
  obtain ⟨vm', X', st⟩ := X.ldcMirror C.1 C.2.2.1 (mvT C.2.1 w) (a := mr) (by simp [Term.eval, m1, m2, m3]) (g := mkF _ pc Ls st) rfl (hb C.2.2.2.1 hd)
  exact ⟨_, _, h, X', N, eT, rfl, st⟩
theorem Go.putfield {host : String} {R0 O n d : String} {i : Nat} (w : (Jvm.Cond.fieldLink y.cls i R0 n d).before a0 Z = true ∨ (Jvm.Cond.fieldLinkNest y.cls i R0 n d host).before a0 Z = true) {ty : FieldType} {C' : String} {kk : Nat} (via : Via Z R0 O n d) {v old : Value} {a : Addr} (F : Fld Z h a O n d old) (E : Exa Z h a C') (L : (Jvm.Cond.lays C' O n d).before a0 Z = true ∨ ((Jvm.Cond.laysFinal C' O n d).before a0 Z = true ∧ y.cls = O ∧ y.name = "<init>")) (wi : (Jvm.Cond.instantiable C' kk).before a0 Z = true) (hty : parseFieldDescriptor d = some ty) (hn : narrow ty v = v) (hf : fits ty v = true) (ha : n0 ≤ a) (hd : decode code pc = .ok (.putfield i, 3)) (hp : pc + 3 = pc') (k : ∀ h', Wr h h' a (Jvm.RoadKit.slotOf Z O n d) v → Go l R Z n0 y code ml ret Q cells slots h' pc' Ls st) : Go l R Z n0 y code ml ret Q cells slots h pc Ls (v :: .ref a :: st) := by
  refine Go.law (P := fun h' => Wr h h' a (Jvm.RoadKit.slotOf Z O n d) v) (fun C X N eT hn => ?_) (k)
  subst hp
  obtain ⟨T', h', X', e', W, st⟩ := putF X C.1 C.2.1 C.2.2.1 w via eT F E (L.imp id fun q => ⟨q.1, q.2.1, C.2.2.2.2.2.2.2.1.trans q.2.2⟩) wi hty ‹narrow ty v = v› hf (g := mkF _ pc Ls (v :: .ref a :: st)) rfl rfl (hb C.2.2.2.1 hd)
  exact ⟨T', _, h', X', Fr.snoc X' N ha, e', W, st⟩
theorem Go.putfieldN {R0 O n d : String} {i : Nat} (w : (Jvm.Cond.fieldLink y.cls i R0 n d).before a0 Z = true) {ty : FieldType} {C' : String} {kk : Nat} (via : Via Z R0 O n d) {v v' : Int32} {old : Value} {a : Addr} (F : Fld Z h a O n d old) (E : Exa Z h a C') (L : (Jvm.Cond.lays C' O n d).before a0 Z = true ∨ ((Jvm.Cond.laysFinal C' O n d).before a0 Z = true ∧ y.cls = O ∧ y.name = "<init>")) (wi : (Jvm.Cond.instantiable C' kk).before a0 Z = true) (hty : parseFieldDescriptor d = some ty) (hn : narrow ty (.int v) = .int v') (hf : fits ty (.int v') = true) (ha : n0 ≤ a) (hd : decode code pc = .ok (.putfield i, 3)) (hp : pc + 3 = pc') (k : ∀ h', Wr h h' a (Jvm.RoadKit.slotOf Z O n d) (.int v') → Go l R Z n0 y code ml ret Q cells slots h' pc' Ls st) : Go l R Z n0 y code ml ret Q cells slots h pc Ls (.int v :: .ref a :: st) := by
  refine Go.law (P := fun h' => Wr h h' a (Jvm.RoadKit.slotOf Z O n d) (.int v')) (fun C X N eT hn => ?_) (k)
  subst hp
  obtain ⟨T', h', X', e', W, st⟩ := putFN X C.1 C.2.1 C.2.2.1 w via eT F E (L.imp id fun q => ⟨q.1, q.2.1, C.2.2.2.2.2.2.2.1.trans q.2.2⟩) wi hty ‹narrow ty (.int v) = .int v'› hf (g := mkF _ pc Ls (.int v :: .ref a :: st)) rfl rfl (hb C.2.2.2.1 hd)
  exact ⟨T', _, h', X', Fr.snoc X' N ha, e', W, st⟩
theorem Go.new {C' : String} {i n cells' slots' : Nat} (w : (Jvm.Cond.classLink y.cls i C').before a0 Z = true) (wi : (Jvm.Cond.instantiable C' n).before a0 Z = true) (wz : (Jvm.Cond.initialized C').before a0 Z = true) (hd : decode code pc = .ok (.new i, 3)) (hc' : cells + 1 = cells') (hs' : slots + n = slots') (hc : cells' ≤ R.cells := by decide) (hl : slots' ≤ R.slots := by decide) (hp : pc + 3 = pc') (k : ∀ (h' : Heap) (b : Addr), b = h.size → Ext h h' → n0 ≤ b → Exa Z h' b C' → (∀ {O nm d : String} {ty : FieldType}, Laid Z a0 C' O nm d → parseFieldDescriptor d = some ty → Fld Z h' b O nm d (defaultValue ty)) → Go l R Z n0 y code ml ret Q cells' slots' h' pc' Ls (.ref b :: st)) : Go l R Z n0 y code ml ret Q cells slots h pc Ls st := by
  refine Go.law (P := fun h' => (Ext h h' ∧ n0 ≤ h.size ∧ Exa Z h' h.size C' ∧ ∀ {O nm d : String} {ty : FieldType}, Laid Z a0 C' O nm d → parseFieldDescriptor d = some ty → Fld Z h' h.size O nm d (defaultValue ty))) (fun C X N eT hn => ?_) (fun h' q => k h' h.size rfl q.1 q.2.1 q.2.2.1 q.2.2.2)
  subst hp
  subst hc' hs'
  obtain ⟨T', h', X', e', E, A, D, -, st⟩ := newO X C.1 C.2.1 C.2.2.1 w wi wz eT (g := mkF _ pc Ls st) rfl (hb C.2.2.2.1 hd) hc hl
  exact ⟨T', _, h', X', N, e', ⟨E, hn, A, D⟩, st⟩
theorem Go.newarray {aty : ArrayType} {ad : String} {n : Int32} {cap cells' slots' : Nat} (w : (Jvm.Cond.arrayClass (newarray.typeOf aty)).before a0 Z = true) (hd : decode code pc = .ok (.newarray aty, 2)) (had : "[" ++ (newarray.typeOf aty).toString = ad) (hn' : ¬ n < 0) (hcap : n.toNatClampNeg ≤ cap) (hc' : cells + 1 = cells') (hs' : slots + cap = slots') (hb8 : cap * 8 ≤ 536870912 := by decide) (hc : cells' ≤ R.cells := by decide) (hl : slots' ≤ R.slots := by decide) (hp : pc + 2 = pc') (k : ∀ (h' : Heap) (b : Addr), b = h.size → Ext h h' → n0 ≤ b → ∀ cA, Arv Z h' b cA (newarray.typeOf aty) n [] (defaultValue (newarray.typeOf aty)) → Exa Z h' b ad → Go l R Z n0 y code ml ret Q cells' slots' h' pc' Ls (.ref b :: st)) : Go l R Z n0 y code ml ret Q cells slots h pc Ls (.int n :: st) := by
  refine Go.law (P := fun h' => (Ext h h' ∧ n0 ≤ h.size ∧ ∃ cA, Arv Z h' h.size cA (newarray.typeOf aty) n [] (defaultValue (newarray.typeOf aty)) ∧ Exa Z h' h.size ad)) (fun C X N eT hn => ?_) (fun h' q => q.2.2.elim fun cA u => k h' h.size rfl q.1 q.2.1 cA u.1 u.2)
  subst hp
  subst hc' hs'
  obtain ⟨T', h', cA, X', e', E, A, A2, st⟩ := newPE X C.1 C.2.1 w eT (g := mkF _ pc Ls (.int n :: st)) rfl (hb C.2.2.2.1 hd) rfl hn' hcap hb8 hc hl had
  exact ⟨T', _, h', X', N, e', ⟨E, hn, cA, Arv.new A hn', A2⟩, st⟩
theorem Go.anewarray {C' ad : String} {i : Nat} {n : Int32} {cap cells' slots' : Nat} (w : (Jvm.Cond.classLink y.cls i C').before a0 Z = true) (w2 : (Jvm.Cond.arrayOver (.object C')).before a0 Z = true) (hd : decode code pc = .ok (.anewarray i, 3)) (had : "[" ++ (FieldType.object C').toString = ad) (hn' : ¬ n < 0) (hcap : n.toNatClampNeg ≤ cap) (hc' : cells + 1 = cells') (hs' : slots + cap = slots') (hb8 : cap * 8 ≤ 536870912 := by decide) (hc : cells' ≤ R.cells := by decide) (hl : slots' ≤ R.slots := by decide) (hp : pc + 3 = pc') (k : ∀ (h' : Heap) (b : Addr), b = h.size → Ext h h' → n0 ≤ b → ∀ cA, Arv Z h' b cA (.object C') n [] .null → Exa Z h' b ad → Ovr Z cA C' → Go l R Z n0 y code ml ret Q cells' slots' h' pc' Ls (.ref b :: st)) : Go l R Z n0 y code ml ret Q cells slots h pc Ls (.int n :: st) := by
  refine Go.law (P := fun h' => (Ext h h' ∧ n0 ≤ h.size ∧ ∃ cA, Arv Z h' h.size cA (.object C') n [] .null ∧ Exa Z h' h.size ad ∧ Ovr Z cA C')) (fun C X N eT hn => ?_) (fun h' q => q.2.2.elim fun cA u => k h' h.size rfl q.1 q.2.1 cA u.1 u.2.1 u.2.2)
  subst hp
  subst hc' hs'
  obtain ⟨T', h', cA, X', e', E, A, A2, O, st⟩ := newRE X C.1 C.2.1 C.2.2.1 w w2 eT (g := mkF _ pc Ls (.int n :: st)) rfl (hb C.2.2.2.1 hd) rfl hn' hcap hb8 hc hl had
  exact ⟨T', _, h', X', N, e', ⟨E, hn, cA, Arv.new A hn', A2, O⟩, st⟩
theorem Go.arraycopy {i : Nat} {a b : Addr} {kA kB : ClassId} {ty ty' : FieldType} {z z' sp dp nn : Int32} {vs vd us vd' : List Value} {dv dd : Value} (w1 : (Jvm.Cond.methodLink y.cls i Jvm.Stand.acN).before a0 Z = true) (w2 : (Jvm.Cond.native Jvm.Stand.acN).before a0 Z = true) (w3 : (Jvm.Cond.static Jvm.Stand.acN).before a0 Z = true) (w4 : (Jvm.Cond.initialized "java/lang/System").before a0 Z = true)
    (A : Arv Z h a kA ty z vs dv) (B : Arv Z h b kB ty' z' vd dd) (hty : (ty = ty' ∧ refKind ty = false) ∨ (refKind ty = true ∧ refKind ty' = true ∧ StoL Z h b us)) (h1 : ¬ sp < 0) (h2 : ¬ dp < 0) (h3 : ¬ nn < 0) (h4 : sp.toNatClampNeg + nn.toNatClampNeg ≤ z.toNatClampNeg) (h5 : dp.toNatClampNeg + nn.toNatClampNeg ≤ z'.toNatClampNeg)
    (hus : us = (List.range nn.toNatClampNeg).map fun i => vs.getD (sp.toNatClampNeg + i) dv) (hl : dp.toNatClampNeg + nn.toNatClampNeg ≤ vd.length) (hvd : vd.take dp.toNatClampNeg ++ us ++ vd.drop (dp.toNatClampNeg + nn.toNatClampNeg) = vd') (ge : n0 ≤ b) (hd : decode code pc = .ok (.invokestatic i, 3)) (hz : Ls.size = ml) (hf : 1 ≤ R.frames := by decide) (hlo : (st.map fun v => v.category).sum + (nativeFrameWords "java/lang/System" "arraycopy" 5 + 11) ≤ R.locals := by decide) (hp : pc + 3 = pc')
    (k : ∀ h', Keep h h' [b] → Arv Z h' b kB ty' z' vd' dd → Go l R Z n0 y code ml ret Q cells slots h' pc' Ls st) : Go l R Z n0 y code ml ret Q cells slots h pc Ls (.int nn :: .int dp :: .ref b :: .int sp :: .ref a :: st) := by
  refine Go.law (P := fun h' => Keep h h' [b] ∧ Arv Z h' b kB ty' z' vd' dd) (fun C X N eT hn => ?_) (fun h' q => k h' q.1 q.2)
  subst hp hvd
  obtain ⟨T', h', L, X', e', N', K, V, st⟩ := cpA X C.1 C.2.1 C.2.2.1 w1 w2 w3 w4 eT A B hty h1 h2 h3 h4 h5 hus hl N ge (g := mkF _ pc Ls (.int nn :: .int dp :: .ref b :: .int sp :: .ref a :: st)) rfl (by rw [C.2.2.2.2.1]; exact hz) rfl (hb C.2.2.2.1 hd) hf (W := (st.map fun v => v.category).sum) (by simp) hlo
  exact ⟨T', L, h', X', N', e', ⟨K, V⟩, st⟩
theorem Go.iastore {a : Addr} {kA : ClassId} {z j : Int32} {vs : List Value} {dv : Value} {v : Int32} {i : Nat} (F : Arv Z h a kA .int z vs dv) (ha : n0 ≤ a) (hd : decode code pc = .ok (.iastore, 1)) (hj : ¬ j < 0) (hjz : j < z) (hi : j.toNatClampNeg = i) (hil : i < vs.length) (hp : pc + 1 = pc') (k : ∀ h', Wr h h' a i (.int v) → Arv Z h' a kA .int z (vs.set i (.int v)) dv → Go l R Z n0 y code ml ret Q cells slots h' pc' Ls st) : Go l R Z n0 y code ml ret Q cells slots h pc Ls (.int v :: .int j :: .ref a :: st) := by
  refine Go.law (P := fun h' => (Wr h h' a i (.int v) ∧ Arv Z h' a kA .int z (vs.set i (.int v)) dv)) (fun C X N eT hn => ?_) (fun h' q => k h' q.1 q.2)
  subst hp
  obtain ⟨cl, A, q1, S, q3, H, G⟩ := F
  obtain ⟨T', h', X', e', W, st⟩ := stI X C.1 C.2.1 eT A (j := j) (inb_of S ⟨hj, hjz⟩) (g := mkF _ pc Ls (.int v :: .int j :: .ref a :: st)) rfl rfl (hb C.2.2.2.1 hd)
  have V := Arv.set A q1 S q3 H G rfl W i hi hil
  subst hi
  exact ⟨T', _, h', X', Fr.snoc X' N ha, e', ⟨W, V⟩, st⟩
theorem Go.lastore {a : Addr} {kA : ClassId} {z j : Int32} {vs : List Value} {dv : Value} {v : Int64} {i : Nat} (F : Arv Z h a kA .long z vs dv) (ha : n0 ≤ a) (hd : decode code pc = .ok (.lastore, 1)) (hj : ¬ j < 0) (hjz : j < z) (hi : j.toNatClampNeg = i) (hil : i < vs.length) (hp : pc + 1 = pc') (k : ∀ h', Wr h h' a i (.long v) → Arv Z h' a kA .long z (vs.set i (.long v)) dv → Go l R Z n0 y code ml ret Q cells slots h' pc' Ls st) : Go l R Z n0 y code ml ret Q cells slots h pc Ls (.long v :: .int j :: .ref a :: st) := by
  refine Go.law (P := fun h' => (Wr h h' a i (.long v) ∧ Arv Z h' a kA .long z (vs.set i (.long v)) dv)) (fun C X N eT hn => ?_) (fun h' q => k h' q.1 q.2)
  subst hp
  obtain ⟨cl, A, q1, S, q3, H, G⟩ := F
  obtain ⟨T', h', X', e', W, st⟩ := stJ X C.1 C.2.1 eT A (j := j) (inb_of S ⟨hj, hjz⟩) (g := mkF _ pc Ls (.long v :: .int j :: .ref a :: st)) rfl rfl (hb C.2.2.2.1 hd)
  have V := Arv.set A q1 S q3 H G rfl W i hi hil
  subst hi
  exact ⟨T', _, h', X', Fr.snoc X' N ha, e', ⟨W, V⟩, st⟩
theorem Go.castore {a : Addr} {kA : ClassId} {z j : Int32} {vs : List Value} {dv : Value} {v : Int32} {i : Nat} (F : Arv Z h a kA .char z vs dv) (ha : n0 ≤ a) (hd : decode code pc = .ok (.castore, 1)) (hj : ¬ j < 0) (hjz : j < z) (hi : j.toNatClampNeg = i) (hil : i < vs.length) (hp : pc + 1 = pc') (k : ∀ h', Wr h h' a i (.int (nar .char v)) → Arv Z h' a kA .char z (vs.set i (.int (nar .char v))) dv → Go l R Z n0 y code ml ret Q cells slots h' pc' Ls st) : Go l R Z n0 y code ml ret Q cells slots h pc Ls (.int v :: .int j :: .ref a :: st) := by
  refine Go.law (P := fun h' => (Wr h h' a i (.int (nar .char v)) ∧ Arv Z h' a kA .char z (vs.set i (.int (nar .char v))) dv)) (fun C X N eT hn => ?_) (fun h' q => k h' q.1 q.2)
  subst hp
  obtain ⟨cl, A, q1, S, q3, H, G⟩ := F
  obtain ⟨T', h', X', e', W, st⟩ := stC X C.1 C.2.1 eT A (j := j) (inb_of S ⟨hj, hjz⟩) (g := mkF _ pc Ls (.int v :: .int j :: .ref a :: st)) rfl rfl (hb C.2.2.2.1 hd)
  have V := Arv.set A q1 S q3 H G (fits_nar_char v) W i hi hil
  subst hi
  exact ⟨T', _, h', X', Fr.snoc X' N ha, e', ⟨W, V⟩, st⟩
theorem Go.bastore {a : Addr} {kA : ClassId} {z j : Int32} {vs : List Value} {dv : Value} {v : Int32} {i : Nat} (F : Arv Z h a kA .byte z vs dv) (ha : n0 ≤ a) (hd : decode code pc = .ok (.bastore, 1)) (hj : ¬ j < 0) (hjz : j < z) (hi : j.toNatClampNeg = i) (hil : i < vs.length) (hp : pc + 1 = pc') (k : ∀ h', Wr h h' a i (.int v.toInt8.toInt32) → Arv Z h' a kA .byte z (vs.set i (.int v.toInt8.toInt32)) dv → Go l R Z n0 y code ml ret Q cells slots h' pc' Ls st) : Go l R Z n0 y code ml ret Q cells slots h pc Ls (.int v :: .int j :: .ref a :: st) := by
  refine Go.law (P := fun h' => (Wr h h' a i (.int v.toInt8.toInt32) ∧ Arv Z h' a kA .byte z (vs.set i (.int v.toInt8.toInt32)) dv)) (fun C X N eT hn => ?_) (fun h' q => k h' q.1 q.2)
  subst hp
  obtain ⟨cl, A, q1, S, q3, H, G⟩ := F
  obtain ⟨T', h', X', e', W, st⟩ := stB X C.1 C.2.1 eT A (j := j) (inb_of S ⟨hj, hjz⟩) (g := mkF _ pc Ls (.int v :: .int j :: .ref a :: st)) rfl rfl (hb C.2.2.2.1 hd)
  have V := Arv.set A q1 S q3 H G (fits_nar_byte v) W i hi hil
  subst hi
  exact ⟨T', _, h', X', Fr.snoc X' N ha, e', ⟨W, V⟩, st⟩
theorem Go.aastore {a : Addr} {kA : ClassId} {ty : FieldType} {z j : Int32} {vs : List Value} {dv v : Value} {i : Nat} (F : Arv Z h a kA ty z vs dv) (ha : n0 ≤ a) (hty : ty.isReference = true) (hfit : fits ty v = true) (Fs : Sto Z h a v) (hd : decode code pc = .ok (.aastore, 1)) (hj : ¬ j < 0) (hjz : j < z) (hi : j.toNatClampNeg = i) (hil : i < vs.length) (hp : pc + 1 = pc') (k : ∀ h', Wr h h' a i v → Arv Z h' a kA ty z (vs.set i v) dv → Go l R Z n0 y code ml ret Q cells slots h' pc' Ls st) : Go l R Z n0 y code ml ret Q cells slots h pc Ls (v :: .int j :: .ref a :: st) := by
  refine Go.law (P := fun h' => (Wr h h' a i v ∧ Arv Z h' a kA ty z (vs.set i v) dv)) (fun C X N eT hn => ?_) (fun h' q => k h' q.1 q.2)
  subst hp
  obtain ⟨cl, A, q1, S, q3, H, G⟩ := F
  obtain ⟨T', h', X', e', W, st⟩ := stR X C.1 C.2.1 eT A (j := j) (inb_of S ⟨hj, hjz⟩) hty Fs (g := mkF _ pc Ls (v :: .int j :: .ref a :: st)) rfl rfl (hb C.2.2.2.1 hd)
  have V := Arv.set A q1 S q3 H G hfit W i hi hil
  subst hi
  exact ⟨T', _, h', X', Fr.snoc X' N ha, e', ⟨W, V⟩, st⟩
theorem Go.iaload {a : Addr} {kA : ClassId} {z j : Int32} {vs : List Value} {dv : Value} {v : Int32} (F : Arv Z h a kA .int z vs dv) (hd : decode code pc = .ok (.iaload, 1)) (hj : ¬ j < 0) (hjz : j < z) (hv : vs.getD j.toNatClampNeg dv = .int v) (hp : pc + 1 = pc') (k : Go l R Z n0 y code ml ret Q cells slots h pc' Ls (.int v :: st)) : Go l R Z n0 y code ml ret Q cells slots h pc Ls (.int j :: .ref a :: st) := by
  refine Go.step (fun C X eT q => ?_) k
  subst hp
  obtain ⟨cl, A, q1, S, q3, H, G⟩ := F
  have hin := inb_of S ⟨hj, hjz⟩
  exact X.iaload C.1 (j := j) (v := .int v) (by rw [eT]; exact A.1) (State.isArrayOf_alike C.2.1.alike A.2.1) A.2.2 hin (Has.at H hin hv) (g := mkF _ pc Ls (.int j :: .ref a :: st)) rfl rfl (hb C.2.2.2.1 hd) _ q
theorem Go.laload {a : Addr} {kA : ClassId} {z j : Int32} {vs : List Value} {dv : Value} {v : Int64} (F : Arv Z h a kA .long z vs dv) (hd : decode code pc = .ok (.laload, 1)) (hj : ¬ j < 0) (hjz : j < z) (hv : vs.getD j.toNatClampNeg dv = .long v) (hp : pc + 1 = pc') (k : Go l R Z n0 y code ml ret Q cells slots h pc' Ls (.long v :: st)) : Go l R Z n0 y code ml ret Q cells slots h pc Ls (.int j :: .ref a :: st) := by
  refine Go.step (fun C X eT q => ?_) k
  subst hp
  obtain ⟨cl, A, q1, S, q3, H, G⟩ := F
  have hin := inb_of S ⟨hj, hjz⟩
  exact X.laload C.1 (j := j) (v := .long v) (by rw [eT]; exact A.1) (State.isArrayOf_alike C.2.1.alike A.2.1) A.2.2 hin (Has.at H hin hv) (g := mkF _ pc Ls (.int j :: .ref a :: st)) rfl rfl (hb C.2.2.2.1 hd) _ q
theorem Go.caload {a : Addr} {kA : ClassId} {z j : Int32} {vs : List Value} {dv : Value} {v : Int32} (F : Arv Z h a kA .char z vs dv) (hd : decode code pc = .ok (.caload, 1)) (hj : ¬ j < 0) (hjz : j < z) (hv : vs.getD j.toNatClampNeg dv = .int v) (hp : pc + 1 = pc') (k : Go l R Z n0 y code ml ret Q cells slots h pc' Ls (.int v :: st)) : Go l R Z n0 y code ml ret Q cells slots h pc Ls (.int j :: .ref a :: st) := by
  refine Go.step (fun C X eT q => ?_) k
  subst hp
  obtain ⟨cl, A, q1, S, q3, H, G⟩ := F
  have hin := inb_of S ⟨hj, hjz⟩
  exact X.caload C.1 (j := j) (v := .int v) (by rw [eT]; exact A.1) (State.isArrayOf_alike C.2.1.alike A.2.1) A.2.2 hin (Has.at H hin hv) (g := mkF _ pc Ls (.int j :: .ref a :: st)) rfl rfl (hb C.2.2.2.1 hd) _ q
theorem Go.baload {a : Addr} {kA : ClassId} {z j : Int32} {vs : List Value} {dv : Value} {v : Int32} (F : Arv Z h a kA .byte z vs dv) (hd : decode code pc = .ok (.baload, 1)) (hj : ¬ j < 0) (hjz : j < z) (hv : vs.getD j.toNatClampNeg dv = .int v) (hp : pc + 1 = pc') (k : Go l R Z n0 y code ml ret Q cells slots h pc' Ls (.int v :: st)) : Go l R Z n0 y code ml ret Q cells slots h pc Ls (.int j :: .ref a :: st) := by
  refine Go.step (fun C X eT q => ?_) k
  subst hp
  obtain ⟨cl, A, q1, S, q3, H, G⟩ := F
  have hin := inb_of S ⟨hj, hjz⟩
  exact X.baloadBytes C.1 (j := j) (v := .int v) (by rw [eT]; exact A.1) (State.isArrayOf_alike C.2.1.alike A.2.1) A.2.2 hin (Has.at H hin hv) (g := mkF _ pc Ls (.int j :: .ref a :: st)) rfl rfl (hb C.2.2.2.1 hd) _ q
theorem Go.aaload {a : Addr} {kA : ClassId} {z j : Int32} {vs : List Value} {dv : Value} {v : Value} {ty : FieldType} (F : Arv Z h a kA ty z vs dv) (hty : ty.isReference = true) (hd : decode code pc = .ok (.aaload, 1)) (hj : ¬ j < 0) (hjz : j < z) (hv : vs.getD j.toNatClampNeg dv = v) (hp : pc + 1 = pc') (k : Go l R Z n0 y code ml ret Q cells slots h pc' Ls (v :: st)) : Go l R Z n0 y code ml ret Q cells slots h pc Ls (.int j :: .ref a :: st) := by
  refine Go.step (fun C X eT q => ?_) k
  subst hp
  obtain ⟨cl, A, q1, S, q3, H, G⟩ := F
  have hin := inb_of S ⟨hj, hjz⟩
  exact X.aaload C.1 (j := j) (v := v) (by rw [eT]; exact A.1) (State.isArrayOf_alike C.2.1.alike A.2.1) hty A.2.2 hin (Has.at H hin hv) (g := mkF _ pc Ls (.int j :: .ref a :: st)) rfl rfl (hb C.2.2.2.1 hd) _ q
theorem Go.arraylength {a : Addr} {kA : ClassId} {ty : FieldType} {z : Int32} {vs : List Value} {dv : Value} (F : Arv Z h a kA ty z vs dv) (hd : decode code pc = .ok (.arraylength, 1)) (hp : pc + 1 = pc') (k : Go l R Z n0 y code ml ret Q cells slots h pc' Ls (.int z :: st)) : Go l R Z n0 y code ml ret Q cells slots h pc Ls (.ref a :: st) := by
  refine Go.step (fun C X eT q => ?_) k
  subst hp
  obtain ⟨cl, A, q1, S, q3, H, G⟩ := F
  refine X.arraylength C.1 (by rw [eT]; exact A.1) (State.isArrayOf_alike C.2.1.alike A.2.1) (g := mkF _ pc Ls (.ref a :: st)) rfl rfl (hb C.2.2.2.1 hd) _ ?_
  rw [len_of S q3]
  exact q
theorem Go.retV (hr : ret = none) (hd : decode code pc = .ok (.return_, 1)) (hq : Q none h) (hc : cells ≤ R.cells := by decide) (hs : slots ≤ R.slots := by decide) : Go l R Z n0 y code ml ret Q cells slots h pc Ls [] := by
  intro p e s m args below meth c T locs C X N eT
  obtain ⟨fs, hr', hrun, hended, hW, hsame⟩ := X.leave (v := none) (fun _ => rfl) C.2.2.2.2.2.2.1
  refine ⟨_, _, X.returnOut C.1 (C.2.2.2.2.2.1.trans hr) (hb C.2.2.2.1 hd) hr', hrun, hended, _, locs, rfl, ⟨?_, N⟩, ⟨_, rfl⟩, hW, hsame.mono hc hs⟩
  show Q _ T.heap
  rw [eT]; exact hq
theorem Go.retN {t : FieldType} {v : Int32} (hr : ret = some t) (ht : t = .boolean ∨ t = .byte ∨ t = .char ∨ t = .short) (hd : decode code pc = .ok (.ireturn, 1)) (hq : Q (some (.int (nar t v))) h) (hc : cells ≤ R.cells := by decide) (hs : slots ≤ R.slots := by decide) : Go l R Z n0 y code ml ret Q cells slots h pc Ls (.int v :: st) := by
  intro p e s m args below meth c T locs C X N eT
  obtain ⟨fs, hr', hrun, hended, hW, hsame⟩ := X.leave (v := some (.int (nar t v))) (fun q => by rw [C.2.2.2.2.2.1, hr] at q; cases q) C.2.2.2.2.2.2.1
  refine ⟨_, _, Jvm.RoadKit.retN X C.1 (C.2.2.2.2.2.1.trans hr) ht (hb C.2.2.2.1 hd) hr', hrun, hended, _, locs, rfl, ⟨?_, N⟩, ⟨_, rfl⟩, hW, hsame.mono hc hs⟩
  show Q _ T.heap
  rw [eT]; exact hq
theorem Go.retI {v : Int32} (hr : ret = some .int) (hd : decode code pc = .ok (.ireturn, 1)) (hq : Q (some (.int v)) h) (hc : cells ≤ R.cells := by decide) (hs : slots ≤ R.slots := by decide) : Go l R Z n0 y code ml ret Q cells slots h pc Ls (.int v :: st) := by
  intro p e s m args below meth c T locs C X N eT
  obtain ⟨fs, hr', hrun, hended, hW, hsame⟩ := X.leave (v := some (.int v)) (fun q => by rw [C.2.2.2.2.2.1, hr] at q; cases q) C.2.2.2.2.2.2.1
  refine ⟨_, _, retOut X C.1 (C.2.2.2.2.2.1.trans hr) rfl (Or.inl ⟨rfl, Or.inl rfl, _, rfl⟩) (hb C.2.2.2.1 hd) hr', hrun, hended, _, locs, rfl, ⟨?_, N⟩, ⟨_, rfl⟩, hW, hsame.mono hc hs⟩
  show Q _ T.heap
  rw [eT]; exact hq
theorem Go.retJ {v : Int64} (hr : ret = some .long) (hd : decode code pc = .ok (.lreturn, 1)) (hq : Q (some (.long v)) h) (hc : cells ≤ R.cells := by decide) (hs : slots ≤ R.slots := by decide) : Go l R Z n0 y code ml ret Q cells slots h pc Ls (.long v :: st) := by
  intro p e s m args below meth c T locs C X N eT
  obtain ⟨fs, hr', hrun, hended, hW, hsame⟩ := X.leave (v := some (.long v)) (fun q => by rw [C.2.2.2.2.2.1, hr] at q; cases q) C.2.2.2.2.2.2.1
  refine ⟨_, _, retOut X C.1 (C.2.2.2.2.2.1.trans hr) rfl (Or.inr (Or.inl ⟨rfl, rfl, _, rfl⟩)) (hb C.2.2.2.1 hd) hr', hrun, hended, _, locs, rfl, ⟨?_, N⟩, ⟨_, rfl⟩, hW, hsame.mono hc hs⟩
  show Q _ T.heap
  rw [eT]; exact hq
theorem Go.retR {t : FieldType} {v : Value} (hr : ret = some t) (ht : t.isReference = true) (hv : v.isRef = true) (hn : narrow t v = v) (hd : decode code pc = .ok (.areturn, 1)) (hq : Q (some v) h) (hc : cells ≤ R.cells := by decide) (hs : slots ≤ R.slots := by decide) : Go l R Z n0 y code ml ret Q cells slots h pc Ls (v :: st) := by
  intro p e s m args below meth c T locs C X N eT
  obtain ⟨fs, hr', hrun, hended, hW, hsame⟩ := X.leave (v := some v) (fun q => by rw [C.2.2.2.2.2.1, hr] at q; cases q) C.2.2.2.2.2.2.1
  refine ⟨_, _, retOut X C.1 (C.2.2.2.2.2.1.trans hr) hn (Or.inr (Or.inr (Or.inr (Or.inr ⟨rfl, ht, hv⟩)))) (hb C.2.2.2.1 hd) hr', hrun, hended, _, locs, rfl, ⟨?_, N⟩, ⟨_, rfl⟩, hW, hsame.mono hc hs⟩
  show Q _ T.heap
  rw [eT]; exact hq
theorem Go.callS {z : MethodName} {zc : ByteArray} {zm : Nat} {zr : Option FieldType} {rm : Room} {Q' : Option Value → Heap → Prop} {cells' slots' i : Nat} (argsL rest : List Value) {ps : List FieldType} {r : Option FieldType} (w1 : (Jvm.Cond.methodLink y.cls i z).before a0 Z = true) (w2 : (Jvm.Cond.static z).before a0 Z = true) (wi : (Jvm.Cond.initialized z.cls).before a0 Z = true) (wc : (Jvm.Cond.code z zc zm zr).before a0 Z = true) (hy : z.cls ≠ "java/lang/invoke/MethodHandle" ∧ z.cls ≠ "java/lang/invoke/VarHandle") (hK : Con l z zc zm zr rm Z n0 argsL.toArray h Q') (hpd : parseMethodDescriptor z.desc = some ⟨ps, r⟩) (hlen : argsL.length = ps.length) (hst : st = argsL.reverse ++ rest) (hz : Ls.size = ml) (hc' : cells + rm.cells = cells') (hs' : slots + rm.slots = slots') (hfr : rm.frames + 1 ≤ R.frames := by decide) (hlo : (rest.map fun v => v.category).sum + (zm + 11) + rm.locals ≤ R.locals := by decide) (hc : cells' ≤ R.cells := by decide) (hs : slots' ≤ R.slots := by decide) (hd : decode code pc = .ok (.invokestatic i, 3)) (hp : pc + 3 = pc')
    (k : ∀ v h', Q' v h' → Go l R Z n0 y code ml ret Q cells' slots' h' pc' Ls (v.toList ++ rest)) : Go l R Z n0 y code ml ret Q cells slots h pc Ls st := by
  intro p e s m args below meth c T locs C X N eT
  subst hc' hs' hp hst
  have hold : Old Z n0 h := own_old C.2.2.2.2.2.2.2.2 X N eT
  obtain ⟨v, _, ⟨T', L', k', n'⟩, -, X', ⟨Lc, hQ, l', y', z'⟩, st⟩ := Jvm.LawKit.callS X C.1 (y := z) C.2.2.1 (mvT C.2.1 w1) (mvT C.2.1 w2) (mvT C.2.1 wi) (mvT C.2.1 wc) hy (backOf (W := (rest.map fun v => v.category).sum) (Q := fun v h L => Q' v h ∧ Fr n0 L) (hK hold []) C.2.1 wc wi hfr hlo) (g := mkF m pc Ls (argsL.reverse ++ rest)) rfl (by rw [C.2.2.2.2.1]; exact hz) (argsL := argsL) (rest := rest) (lenOf hpd hlen) rfl (by simp) (hb C.2.2.2.1 hd) (fun _ _ => ⟨rfl, eT, hc, hs⟩)
  dsimp only [Pt.U, Pt.locs, Pt.cells, Pt.slots] at X' l' y' z' st hQ
  subst l' y' z'
  obtain ⟨s₂, o, h1, h2⟩ := k v _ hQ.1 p e s m args below meth c T' _ C X' (Fr.app N hQ.2) rfl
  exact ⟨s₂, o, st _ h1, h2⟩
theorem Go.callC {z : MethodName} {zc : ByteArray} {zm : Nat} {zr : Option FieldType} {rm : Room} {Q' : Option Value → Heap → Prop} {cells' slots' i : Nat} (argsL rest : List Value) {ps : List FieldType} {r : Option FieldType} {a : Addr} (hzi : z.name = "<init>") (hzr : zr = none) (w1 : (Jvm.Cond.methodLink y.cls i z).before a0 Z = true) (w2 : (Jvm.Cond.instanceMethod z).before a0 Z = true) (wi : (Jvm.Cond.initialized z.cls).before a0 Z = true) (wc : (Jvm.Cond.code z zc zm zr).before a0 Z = true) (hy : z.cls ≠ "java/lang/invoke/MethodHandle" ∧ z.cls ≠ "java/lang/invoke/VarHandle") (hK : Con l z zc zm zr rm Z n0 (.ref a :: argsL).toArray h Q') (hpd : parseMethodDescriptor z.desc = some ⟨ps, r⟩) (hlen : argsL.length = ps.length) (hst : st = argsL.reverse ++ .ref a :: rest) (hz : Ls.size = ml) (hc' : cells + rm.cells = cells') (hs' : slots + rm.slots = slots') (hfr : rm.frames + 1 ≤ R.frames := by decide) (hlo : (rest.map fun v => v.category).sum + (zm + 11) + rm.locals ≤ R.locals := by decide) (hc : cells' ≤ R.cells := by decide) (hs : slots' ≤ R.slots := by decide) (hd : decode code pc = .ok (.invokespecial i, 3)) (hp : pc + 3 = pc')
    (k : ∀ v h', Q' v h' → Go l R Z n0 y code ml ret Q cells' slots' h' pc' Ls (v.toList ++ rest)) : Go l R Z n0 y code ml ret Q cells slots h pc Ls st := by
  intro p e s m args below meth c T locs C X N eT
  subst hc' hs' hp hst
  have hold : Old Z n0 h := own_old C.2.2.2.2.2.2.2.2 X N eT
  subst hzr
  obtain ⟨v, _, ⟨T', L', k', n'⟩, -, X', ⟨Lc, hQ, l', y', z'⟩, st⟩ := X.specialBack C.1 (y := z) hzi C.2.2.1 (mvT C.2.1 w1) (mvT C.2.1 w2) (mvT C.2.1 wc) hy (backOf (W := (rest.map fun v => v.category).sum) (Q := fun v h L => Q' v h ∧ Fr n0 L) (hK hold []) C.2.1 wc wi hfr hlo) (g := mkF m pc Ls (argsL.reverse ++ .ref a :: rest)) rfl (by rw [C.2.2.2.2.1]; exact hz) (Steps.refl _) (a := a) (argsL := argsL) (rest := rest) (lenOf hpd hlen) rfl (by simp) (hb C.2.2.2.1 hd) (fun _ _ => ⟨rfl, eT, hc, hs⟩)
  dsimp only [Pt.U, Pt.locs, Pt.cells, Pt.slots] at X' l' y' z' st hQ
  subst l' y' z'
  obtain ⟨s₂, o, h1, h2⟩ := k v _ hQ.1 p e s m args below meth c T' _ C X' (Fr.app N hQ.2) rfl
  exact ⟨s₂, o, st.trans h1, h2⟩
theorem Go.callCN {z : MethodName} {zc : ByteArray} {zm : Nat} {zr : Option FieldType} {rm : Room} {Q' : Option Value → Heap → Prop} {cells' slots' i : Nat} (argsL rest : List Value) {ps : List FieldType} {r : Option FieldType} {a : Addr} {host : String} (hzi : z.name = "<init>") (hzr : zr = none) (w1 : (Jvm.Cond.methodLinkNest y.cls i z host).before a0 Z = true) (w2 : (Jvm.Cond.instanceMethod z).before a0 Z = true) (wi : (Jvm.Cond.initialized z.cls).before a0 Z = true) (wc : (Jvm.Cond.code z zc zm zr).before a0 Z = true) (hy : z.cls ≠ "java/lang/invoke/MethodHandle" ∧ z.cls ≠ "java/lang/invoke/VarHandle") (hK : Con l z zc zm zr rm Z n0 (.ref a :: argsL).toArray h Q') (hpd : parseMethodDescriptor z.desc = some ⟨ps, r⟩) (hlen : argsL.length = ps.length) (hst : st = argsL.reverse ++ .ref a :: rest) (hz : Ls.size = ml) (hc' : cells + rm.cells = cells') (hs' : slots + rm.slots = slots') (hfr : rm.frames + 1 ≤ R.frames := by decide) (hlo : (rest.map fun v => v.category).sum + (zm + 11) + rm.locals ≤ R.locals := by decide) (hc : cells' ≤ R.cells := by decide) (hs : slots' ≤ R.slots := by decide) (hd : decode code pc = .ok (.invokespecial i, 3)) (hp : pc + 3 = pc')
    (k : ∀ v h', Q' v h' → Go l R Z n0 y code ml ret Q cells' slots' h' pc' Ls (v.toList ++ rest)) : Go l R Z n0 y code ml ret Q cells slots h pc Ls st := by
  intro p e s m args below meth c T locs C X N eT
  subst hc' hs' hp hst
  have hold : Old Z n0 h := own_old C.2.2.2.2.2.2.2.2 X N eT
  subst hzr
  obtain ⟨v, _, ⟨T', L', k', n'⟩, -, X', ⟨Lc, hQ, l', y', z'⟩, st⟩ := X.specialBackNest C.1 (y := z) hzi C.2.2.1 ((Cond.methodLinkNest_wide C.2.1 w1 :)) (mvT C.2.1 w2) (mvT C.2.1 wc) hy (backOf (W := (rest.map fun v => v.category).sum) (Q := fun v h L => Q' v h ∧ Fr n0 L) (hK hold []) C.2.1 wc wi hfr hlo) (g := mkF m pc Ls (argsL.reverse ++ .ref a :: rest)) rfl (by rw [C.2.2.2.2.1]; exact hz) (Steps.refl _) (a := a) (argsL := argsL) (rest := rest) (lenOf hpd hlen) rfl (by simp) (hb C.2.2.2.1 hd) (fun _ _ => ⟨rfl, eT, hc, hs⟩)
  dsimp only [Pt.U, Pt.locs, Pt.cells, Pt.slots] at X' l' y' z' st hQ
  subst l' y' z'
  obtain ⟨s₂, o, h1, h2⟩ := k v _ hQ.1 p e s m args below meth c T' _ C X' (Fr.app N hQ.2) rfl
  exact ⟨s₂, o, st.trans h1, h2⟩
theorem Go.callV {z : MethodName} {zc : ByteArray} {zm : Nat} {zr : Option FieldType} {rm : Room} {Q' : Option Value → Heap → Prop} {cells' slots' i : Nat} (argsL rest : List Value) {ps : List FieldType} {r : Option FieldType} {a : Addr} {x' : MethodName} {C' : String} (E : Exa Z h a C') (w1 : (Jvm.Cond.methodLink y.cls i x').before a0 Z = true) (w2 : (Jvm.Cond.declares x').before a0 Z = true) (nf : ∀ s' : State, Z.Warmed39 s'.vm → NotFace s' x') (w3 : (Jvm.Cond.selects C' x' z).before a0 Z = true) (w4 : (Jvm.Cond.instanceMethod z).before a0 Z = true) (wi : (Jvm.Cond.initialized z.cls).before a0 Z = true) (wc : (Jvm.Cond.code z zc zm zr).before a0 Z = true) (hy : x'.cls ≠ "java/lang/invoke/MethodHandle" ∧ x'.cls ≠ "java/lang/invoke/VarHandle") (hK : Con l z zc zm zr rm Z n0 (.ref a :: argsL).toArray h Q') (hpd : parseMethodDescriptor x'.desc = some ⟨ps, r⟩) (hlen : argsL.length = ps.length) (hst : st = argsL.reverse ++ .ref a :: rest) (hz : Ls.size = ml) (hc' : cells + rm.cells = cells') (hs' : slots + rm.slots = slots') (hfr : rm.frames + 1 ≤ R.frames := by decide) (hlo : (rest.map fun v => v.category).sum + (zm + 11) + rm.locals ≤ R.locals := by decide) (hc : cells' ≤ R.cells := by decide) (hs : slots' ≤ R.slots := by decide) (hd : decode code pc = .ok (.invokevirtual i, 3)) (hp : pc + 3 = pc')
    (k : ∀ v h', Q' v h' → Go l R Z n0 y code ml ret Q cells' slots' h' pc' Ls (v.toList ++ rest)) : Go l R Z n0 y code ml ret Q cells slots h pc Ls st := by
  intro p e s m args below meth c T locs C X N eT
  subst hc' hs' hp hst
  have hold : Old Z n0 h := own_old C.2.2.2.2.2.2.2.2 X N eT
  obtain ⟨cq, kq, qa, qb, qc⟩ := isOf C.2.1 eT E
  obtain ⟨v, _, ⟨T', L', k', n'⟩, -, X', ⟨Lc, hQ, l', y', z'⟩, st⟩ := X.virtualBack C.1 (y := x') (z := z) C.2.2.1 (mvT C.2.1 w1) (mvT C.2.1 w2) (nf s C.2.1) (mvT C.2.1 w3) (mvT C.2.1 w4) hy (backOf (W := (rest.map fun v => v.category).sum) (Q := fun v h L => Q' v h ∧ Fr n0 L) (hK hold []) C.2.1 wc wi hfr hlo) qa qc (g := mkF m pc Ls (argsL.reverse ++ .ref a :: rest)) rfl (by rw [C.2.2.2.2.1]; exact hz) (Steps.refl _) (argsL := argsL) (rest := rest) (lenOf hpd hlen) rfl (by simp) (hb C.2.2.2.1 hd) (fun _ _ => ⟨rfl, eT, hc, hs⟩)
  dsimp only [Pt.U, Pt.locs, Pt.cells, Pt.slots] at X' l' y' z' st hQ
  subst l' y' z'
  obtain ⟨s₂, o, h1, h2⟩ := k v _ hQ.1 p e s m args below meth c T' _ C X' (Fr.app N hQ.2) rfl
  exact ⟨s₂, o, st.trans h1, h2⟩
theorem Go.callU {z : MethodName} {zc : ByteArray} {zm : Nat} {zr : Option FieldType} {rm : Room} {Q' : Option Value → Heap → Prop} {cells' slots' i : Nat} (argsL rest : List Value) {ps : List FieldType} {r : Option FieldType} {a : Addr} {x' : MethodName} {C' owner : String} (E : Exa Z h a C') (w1 : (Jvm.Cond.methodLink y.cls i x').before a0 Z = true) (w2 : (Jvm.Cond.sameMethod x'.cls owner x'.name x'.desc).before a0 Z = true) (w5 : (Jvm.Cond.declares ⟨owner, x'.name, x'.desc⟩).before a0 Z = true) (w3 : (Jvm.Cond.selects C' x' z).before a0 Z = true) (w4 : (Jvm.Cond.instanceMethod z).before a0 Z = true) (wi : (Jvm.Cond.initialized z.cls).before a0 Z = true) (wc : (Jvm.Cond.code z zc zm zr).before a0 Z = true) (hy : owner ≠ "java/lang/invoke/MethodHandle" ∧ owner ≠ "java/lang/invoke/VarHandle") (hK : Con l z zc zm zr rm Z n0 (.ref a :: argsL).toArray h Q') (hpd : parseMethodDescriptor x'.desc = some ⟨ps, r⟩) (hlen : argsL.length = ps.length) (hst : st = argsL.reverse ++ .ref a :: rest) (hz : Ls.size = ml) (hc' : cells + rm.cells = cells') (hs' : slots + rm.slots = slots') (hfr : rm.frames + 1 ≤ R.frames := by decide) (hlo : (rest.map fun v => v.category).sum + (zm + 11) + rm.locals ≤ R.locals := by decide) (hc : cells' ≤ R.cells := by decide) (hs : slots' ≤ R.slots := by decide) (hd : decode code pc = .ok (.invokevirtual i, 3)) (hp : pc + 3 = pc')
    (k : ∀ v h', Q' v h' → Go l R Z n0 y code ml ret Q cells' slots' h' pc' Ls (v.toList ++ rest)) : Go l R Z n0 y code ml ret Q cells slots h pc Ls st := by
  intro p e s m args below meth c T locs C X N eT
  subst hc' hs' hp hst
  have hold : Old Z n0 h := own_old C.2.2.2.2.2.2.2.2 X N eT
  obtain ⟨cq, kq, qa, qb, qc⟩ := isOf C.2.1 eT E
  obtain ⟨v, _, ⟨T', L', k', n'⟩, -, X', ⟨Lc, hQ, l', y', z'⟩, st⟩ := X.virtualBackUp C.1 (x := x') (y := z) C.2.2.1 (mvT C.2.1 w1) (mvT C.2.1 w2) (mvT C.2.1 w5) hy (mvT C.2.1 w3) (mvT C.2.1 w4) (backOf (W := (rest.map fun v => v.category).sum) (Q := fun v h L => Q' v h ∧ Fr n0 L) (hK hold []) C.2.1 wc wi hfr hlo) qa qc (g := mkF m pc Ls (argsL.reverse ++ .ref a :: rest)) rfl (by rw [C.2.2.2.2.1]; exact hz) (Steps.refl _) (argsL := argsL) (rest := rest) (lenOf hpd hlen) rfl (by simp) (hb C.2.2.2.1 hd) (fun _ _ => ⟨rfl, eT, hc, hs⟩)
  dsimp only [Pt.U, Pt.locs, Pt.cells, Pt.slots] at X' l' y' z' st hQ
  subst l' y' z'
  obtain ⟨s₂, o, h1, h2⟩ := k v _ hQ.1 p e s m args below meth c T' _ C X' (Fr.app N hQ.2) rfl
  exact ⟨s₂, o, st.trans h1, h2⟩
theorem Go.callP {z : MethodName} {zc : ByteArray} {zm : Nat} {zr : Option FieldType} {rm : Room} {Q' : Option Value → Heap → Prop} {cells' slots' i : Nat} (argsL rest : List Value) {ps : List FieldType} {r : Option FieldType} {a : Addr} {C' : String} (E : Exa Z h a C') (w1 : (Jvm.Cond.methodLink y.cls i z).before a0 Z = true) (w2 : (Jvm.Cond.instanceMethod z).before a0 Z = true) (w3 : (Jvm.Cond.selects z.cls z z).before a0 Z = true) (w4 : (Jvm.Cond.privateMethod z).before a0 Z = true) (wi : (Jvm.Cond.initialized z.cls).before a0 Z = true) (wc : (Jvm.Cond.code z zc zm zr).before a0 Z = true) (hy : z.cls ≠ "java/lang/invoke/MethodHandle" ∧ z.cls ≠ "java/lang/invoke/VarHandle") (hK : Con l z zc zm zr rm Z n0 (.ref a :: argsL).toArray h Q') (hpd : parseMethodDescriptor z.desc = some ⟨ps, r⟩) (hlen : argsL.length = ps.length) (hst : st = argsL.reverse ++ .ref a :: rest) (hz : Ls.size = ml) (hc' : cells + rm.cells = cells') (hs' : slots + rm.slots = slots') (hfr : rm.frames + 1 ≤ R.frames := by decide) (hlo : (rest.map fun v => v.category).sum + (zm + 11) + rm.locals ≤ R.locals := by decide) (hc : cells' ≤ R.cells := by decide) (hs : slots' ≤ R.slots := by decide) (hd : decode code pc = .ok (.invokevirtual i, 3)) (hp : pc + 3 = pc')
    (k : ∀ v h', Q' v h' → Go l R Z n0 y code ml ret Q cells' slots' h' pc' Ls (v.toList ++ rest)) : Go l R Z n0 y code ml ret Q cells slots h pc Ls st := by
  intro p e s m args below meth c T locs C X N eT
  subst hc' hs' hp hst
  have hold : Old Z n0 h := own_old C.2.2.2.2.2.2.2.2 X N eT
  obtain ⟨cq, qa, qb⟩ := E.cell
  obtain ⟨v, _, ⟨T', L', k', n'⟩, -, X', ⟨Lc, hQ, l', y', z'⟩, st⟩ := X.privateBack C.1 (y := z) C.2.2.1 (mvT C.2.1 w1) (mvT C.2.1 w2) (mvT C.2.1 w3) (Cond.privateMethod_at (mvP C.2.1 w4 (args := #[]))) (mvT C.2.1 wc) hy (backOf (W := (rest.map fun v => v.category).sum) (Q := fun v h L => Q' v h ∧ Fr n0 L) (hK hold []) C.2.1 wc wi hfr hlo) (g := mkF m pc Ls (argsL.reverse ++ .ref a :: rest)) rfl (by rw [C.2.2.2.2.1]; exact hz) (Steps.refl _) (a := a) (by rw [eT]; exact qa) qb (argsL := argsL) (rest := rest) (lenOf hpd hlen) rfl (by simp) (hb C.2.2.2.1 hd) (fun _ _ => ⟨rfl, eT, hc, hs⟩)
  dsimp only [Pt.U, Pt.locs, Pt.cells, Pt.slots] at X' l' y' z' st hQ
  subst l' y' z'
  obtain ⟨s₂, o, h1, h2⟩ := k v _ hQ.1 p e s m args below meth c T' _ C X' (Fr.app N hQ.2) rfl
  exact ⟨s₂, o, st.trans h1, h2⟩
theorem Go.callI {z : MethodName} {zc : ByteArray} {zm : Nat} {zr : Option FieldType} {rm : Room} {Q' : Option Value → Heap → Prop} {cells' slots' i : Nat} (argsL rest : List Value) {ps : List FieldType} {r : Option FieldType} {a : Addr} {x' : MethodName} {C' : String} {cnt : Nat} (E : Exa Z h a C') (w1 : (Jvm.Cond.methodLink y.cls i x').before a0 Z = true) (w2 : (Jvm.Cond.declares x').before a0 Z = true) (w3 : (Jvm.Cond.interfaceMethod x'.cls x'.cls x'.name x'.desc).before a0 Z = true) (w4 : (Jvm.Cond.selects C' x' z).before a0 Z = true) (w5 : (Jvm.Cond.instanceMethod z).before a0 Z = true) (w6 : (Jvm.Cond.publicMethod z).before a0 Z = true) (w7 : (Jvm.Cond.unhidden C' x'.name x'.desc).before a0 Z = true) (w8 : (Jvm.Cond.castable C' x'.cls).before a0 Z = true) (wi : (Jvm.Cond.initialized z.cls).before a0 Z = true) (wc : (Jvm.Cond.code z zc zm zr).before a0 Z = true) (hy : x'.cls ≠ "java/lang/invoke/MethodHandle" ∧ x'.cls ≠ "java/lang/invoke/VarHandle") (hK : Con l z zc zm zr rm Z n0 (.ref a :: argsL).toArray h Q') (hpd : parseMethodDescriptor x'.desc = some ⟨ps, r⟩) (hlen : argsL.length = ps.length) (hst : st = argsL.reverse ++ .ref a :: rest) (hz : Ls.size = ml) (hc' : cells + rm.cells = cells') (hs' : slots + rm.slots = slots') (hfr : rm.frames + 1 ≤ R.frames := by decide) (hlo : (rest.map fun v => v.category).sum + (zm + 11) + rm.locals ≤ R.locals := by decide) (hc : cells' ≤ R.cells := by decide) (hs : slots' ≤ R.slots := by decide) (hd : decode code pc = .ok (.invokeinterface i cnt, 5)) (hp : pc + 5 = pc')
    (k : ∀ v h', Q' v h' → Go l R Z n0 y code ml ret Q cells' slots' h' pc' Ls (v.toList ++ rest)) : Go l R Z n0 y code ml ret Q cells slots h pc Ls st := by
  intro p e s m args below meth c T locs C X N eT
  subst hc' hs' hp hst
  have hold : Old Z n0 h := own_old C.2.2.2.2.2.2.2.2 X N eT
  obtain ⟨cq, kq, qa, qb, qc⟩ := isOf C.2.1 eT E
  obtain ⟨v, _, ⟨T', L', k', n'⟩, -, X', ⟨Lc, hQ, l', y', z'⟩, st⟩ := X.interfaceBack C.1 (xi := x') (y := z) C.2.2.1 (mvT C.2.1 w1) (mvT C.2.1 w2) (mvT C.2.1 w3 (hd := by simp [Cond.onTables, Cond.keepsFace, Cond.keeps, Cond.steady, Cond.faceAtom]; exact hy)) (mvT C.2.1 w4) (mvT C.2.1 w5) (mvT C.2.1 w6) (mvT C.2.1 w7) (mvT C.2.1 w8) hy (backOf (W := (rest.map fun v => v.category).sum) (Q := fun v h L => Q' v h ∧ Fr n0 L) (hK hold []) C.2.1 wc wi hfr hlo) qa qb qc (g := mkF m pc Ls (argsL.reverse ++ .ref a :: rest)) rfl (by rw [C.2.2.2.2.1]; exact hz) (Steps.refl _) (argsL := argsL) (rest := rest) (lenOf hpd hlen) rfl (by simp) (hb C.2.2.2.1 hd) (fun _ _ => ⟨rfl, eT, hc, hs⟩)
  dsimp only [Pt.U, Pt.locs, Pt.cells, Pt.slots] at X' l' y' z' st hQ
  subst l' y' z'
  obtain ⟨s₂, o, h1, h2⟩ := k v _ hQ.1 p e s m args below meth c T' _ C X' (Fr.app N hQ.2) rfl
  exact ⟨s₂, o, st.trans h1, h2⟩
end Rules
end Jvm.OwnGo
namespace Jvm.OwnNum
theorem mask (x m : Int32) (hm : 0 ≤ m.toInt) : 0 ≤ (x &&& m).toInt ∧ (x &&& m).toInt ≤ m.toInt := by
  have e : ∀ z : Int32, z.toInt = z.toBitVec.toInt := fun _ => rfl
  have hb : (x &&& m).toBitVec = x.toBitVec &&& m.toBitVec := rfl
  rw [e] at hm
  rw [e (x &&& m), e m, hb]
  have h1 : 2 * m.toBitVec.toNat < 2 ^ 32 := by
    rw [BitVec.toInt_eq_toNat_cond] at hm
    split at hm
    · assumption
    · have := m.toBitVec.isLt; omega
  have h2 : (x.toBitVec &&& m.toBitVec).toNat ≤ m.toBitVec.toNat := by
    rw [BitVec.toNat_and]; exact Nat.and_le_right
  rw [BitVec.toInt_eq_toNat_of_lt (x := m.toBitVec) h1, BitVec.toInt_eq_toNat_of_lt (x := x.toBitVec &&& m.toBitVec) (by omega)]
  omega
theorem modr (y k : Int32) (hy : 0 ≤ y.toInt) (hk : 0 < k.toInt) : 0 ≤ (y % k).toInt ∧ (y % k).toInt < k.toInt := by
  rw [Int32.toInt_mod]
  exact ⟨Int.tmod_nonneg _ hy, Int.tmod_lt_of_pos _ hk⟩
theorem maskmod (x k : Int32) (hk : 0 < k.toInt) : 0 ≤ ((x &&& 2147483647) % k).toInt ∧ ((x &&& 2147483647) % k).toInt < k.toInt := modr _ k (mask x 2147483647 (by decide)).1 hk
theorem eqI {a k : Int32} (h : a.toInt = k.toInt) : a = k := Int32.toInt_inj.mp h
end Jvm.OwnNum
namespace Jvm.OwnNum
theorem lremE (x y : Int64) : x - (x / y) * y = x % y := by
  apply Int64.toInt_inj.mp
  rw [Int64.toInt_mod, Int64.toInt_sub, Int64.toInt_mul, Int64.toInt_div]
  have h := Int.mul_tdiv_add_tmod x.toInt y.toInt
  have e : (x.toInt - ((x.toInt.tdiv y.toInt).bmod (2^64) * y.toInt).bmod (2^64)).bmod (2^64) = (x.toInt - (x.toInt.tdiv y.toInt * y.toInt)).bmod (2^64) := by
    simp
  rw [e]
  have q : x.toInt - x.toInt.tdiv y.toInt * y.toInt = x.toInt.tmod y.toInt := by
    rw [Int.mul_comm]; omega
  rw [q]
  have h1 := Int64.le_toInt (x % y)
  have h2 := Int64.toInt_lt (x % y)
  rw [Int64.toInt_mod] at h1 h2
  exact Int.bmod_eq_of_le_mul_two (by omega) (by omega)
theorem mask64 (x m : Int64) (hm : 0 ≤ m.toInt) : 0 ≤ (x &&& m).toInt ∧ (x &&& m).toInt ≤ m.toInt := by
  have e : ∀ z : Int64, z.toInt = z.toBitVec.toInt := fun _ => rfl
  have hb : (x &&& m).toBitVec = x.toBitVec &&& m.toBitVec := rfl
  rw [e] at hm
  rw [e (x &&& m), e m, hb]
  have h1 : 2 * m.toBitVec.toNat < 2 ^ 64 := by
    rw [BitVec.toInt_eq_toNat_cond] at hm
    split at hm
    · assumption
    · have := m.toBitVec.isLt; omega
  have h2 : (x.toBitVec &&& m.toBitVec).toNat ≤ m.toBitVec.toNat := by
    rw [BitVec.toNat_and]; exact Nat.and_le_right
  rw [BitVec.toInt_eq_toNat_of_lt (x := m.toBitVec) h1, BitVec.toInt_eq_toNat_of_lt (x := x.toBitVec &&& m.toBitVec) (by omega)]
  omega
theorem maskmod64 (x m k : Int64) (hm : 0 ≤ m.toInt) (hk : 0 < k.toInt) : 0 ≤ ((x &&& m) - ((x &&& m) / k) * k).toInt ∧ ((x &&& m) - ((x &&& m) / k) * k).toInt < k.toInt := by
  rw [lremE, Int64.toInt_mod]
  exact ⟨Int.tmod_nonneg _ (mask64 x m hm).1, Int.tmod_lt_of_pos _ hk⟩
theorem narrowI (x : Int64) (h1 : 0 ≤ x.toInt) (h2 : x.toInt < 2147483648) : x.toInt32.toInt = x.toInt := by
  rw [Int64.toInt_toInt32]
  exact Int.bmod_eq_of_le_mul_two (by omega) (by omega)
theorem lmod5 (x : Int64) : 0 ≤ (((x &&& (9223372036854775807 : Int64)) - ((x &&& (9223372036854775807 : Int64)) / (5 : Int64)) * (5 : Int64)).toInt32).toInt ∧ (((x &&& (9223372036854775807 : Int64)) - ((x &&& (9223372036854775807 : Int64)) / (5 : Int64)) * (5 : Int64)).toInt32).toInt < 5 := by
  have h := maskmod64 x 9223372036854775807 5 (by decide) (by decide)
  have e5 : (5 : Int64).toInt = 5 := by decide
  rw [e5] at h
  rw [narrowI _ h.1 (by omega)]
  exact h
end Jvm.OwnNum
namespace Jvm.OwnNum
theorem b8 (x : Int32) : x.toInt8.toInt32.toInt8.toInt32 = x.toInt8.toInt32 := by simp
theorem c16 (x : Int32) : x.toUInt32.toUInt16.toUInt32.toInt32.toUInt32.toUInt16.toUInt32.toInt32 = x.toUInt32.toUInt16.toUInt32.toInt32 := by simp only [UInt32.toUInt32_toInt32, UInt16.toUInt16_toUInt32]
theorem le255 (x : Int32) : ¬ (255 : Int32) < x &&& 255 := by
  have h := mask x 255 (by decide)
  have e : (255 : Int32).toInt = 255 := by decide
  rw [Int32.lt_iff_toInt_lt]; omega
end Jvm.OwnNum
namespace Jvm.OwnGo
open Jvm Jvm.ClassFile Sem Op Lib Jvm.Free Jvm.Stand Jvm.LawKit Jvm.RoadKit
section Sheet
variable {args : Array Value} {s : State} {t : Term} {a : Addr}
theorem own_eqI {k : Int32} (h : (Jvm.Cond.eq t (.int k)).value args s none s [] = some true) : t.eval args s none [] s = some (.int k) := by
  simp only [Cond.value, Term.eval] at h
  cases ht : t.eval args s none [] s with
  | none => simp [ht] at h
  | some x => cases x <;> simp [ht] at h ⊢; exact h
theorem own_eqJ {k : Int64} (h : (Jvm.Cond.eq t (.long k)).value args s none s [] = some true) : t.eval args s none [] s = some (.long k) := by
  simp only [Cond.value, Term.eval] at h
  cases ht : t.eval args s none [] s with
  | none => simp [ht] at h
  | some x => cases x <;> simp [ht] at h ⊢; exact h
theorem own_eqR {u : Term} {b : Addr} (hu : u.eval args s none [] s = some (.ref b)) (h : (Jvm.Cond.eq t u).value args s none s [] = some true) : t.eval args s none [] s = some (.ref b) := by
  simp only [Cond.value, hu] at h
  cases ht : t.eval args s none [] s with
  | none => simp [ht] at h
  | some x => cases x <;> simp [ht] at h ⊢; exact h
theorem own_fld {C n d : String} {v : Value} (ht : t.eval args s none [] s = some (.ref a)) (h : (Term.field t C n d).eval args s none [] s = some v) : Jvm.RoadKit.Fld s s.heap a C n d v :=
  Fld.start (by rw [← fld_at (C := C) (n := n) (dd := d) ht]; exact h)
theorem own_arr {ty : FieldType} {n : Int32} (ev : t.eval args s none [] s = some (.ref a)) (hx : (Jvm.Cond.arrayOf t ty).value args s none s [] = some true) (hl : (Term.length t).eval args s none [] s = some (.int n)) :
    ∃ c, Arr s s.heap a c ty ∧ c.slots.size < 2 ^ 31 ∧ c.slots.size.toInt32 = n := by
  obtain ⟨c, A⟩ := Arr.start ev hx
  have e := A.fin (Vm.Alike.refl _)
  refine ⟨c, A, ?_⟩
  simp only [Term.eval, ev, Option.bind_eq_bind, Option.bind_some, e] at hl
  split at hl
  · rename_i q; exact ⟨q, by simpa using hl⟩
  · cases hl
theorem own_elem {ty : FieldType} {j : Int32} {c : Cell} {v : Value} (ev : t.eval args s none [] s = some (.ref a)) (A : Arr s s.heap a c ty) (hj : ¬ j < 0) (h : (Term.elem t (.int j)).eval args s none [] s = some v) : c.slots[j.toNatClampNeg]? = some v := by
  rw [elem_f ev (Term.int_eval j) (A.fin (Vm.Alike.refl _)) hj] at h; exact h
end Sheet
end Jvm.OwnGo
namespace Jvm.OwnGo
open Jvm Jvm.ClassFile Sem Op Lib Jvm.Free Jvm.Stand Jvm.LawKit Jvm.RoadKit
theorem own_arvAny {s : State} {a : Addr} {c : Cell} {ty : FieldType} {n : Int32} {dv : Value} (hf : Fit s) (A : Arr s s.heap a c ty) (q : c.slots.size < 2 ^ 31) (e : c.slots.size.toInt32 = n) (hn : ¬ n < 0) : Jvm.RoadKit.Arv s s.heap a c.cls ty n c.slots.toList dv := by
  have S : c.slots.size = n.toNatClampNeg := by rw [← e]; simp only [Int32.toNatClampNeg, len_toInt q]; rfl
  have H : Has c c.slots.toList dv := fun k hk => by simp [List.getD_eq_getElem?_getD, hk]
  refine ⟨c, A, rfl, S, hn, H, fun j hj => ?_⟩
  have hi := idx_in hj q
  obtain ⟨v, h1, h2⟩ := elem_fit hf A hi
  have ej : (j.toInt32).toNatClampNeg = j := by
    simp only [Int32.toNatClampNeg, len_toInt (Nat.lt_trans hj q)]; rfl
  rw [ej, H j hj] at h1
  cases h1
  exact h2
end Jvm.OwnGo
namespace Jvm.OwnGo
open Jvm Jvm.ClassFile Sem Op Lib Jvm.Free Jvm.Stand Jvm.LawKit Jvm.RoadKit
theorem own_eqV {args : Array Value} {s : State} {t u : Term} {idx : List Nat} {k : Int32} (hu : u.eval args s none idx s = some (.int k)) (h : (Jvm.Cond.eq t u).value args s none s idx = some true) : t.eval args s none idx s = some (.int k) := by
  simp only [Cond.value, hu] at h
  cases ht : t.eval args s none idx s with
  | none => simp [ht] at h
  | some x => cases x <;> simp [ht] at h ⊢; exact h
theorem own_static_idx {args : Array Value} {s : State} {C n d : String} {v : Value} (h : (Term.static C n d).eval args s none [] s = some v) (idx : List Nat) : (Term.static C n d).eval args s none idx s = some v := by
  simp only [Term.eval] at h ⊢; exact h
theorem own_i128 (i : Int32) (h1 : ¬ i < -128) (h2 : ¬ 127 < i) : ¬ i + 128 < 0 ∧ i + 128 < 256 ∧ (i + 128).toNatClampNeg < 256 := by
  rw [Int32.lt_iff_toInt_lt] at h1 h2
  have e1 : (-128 : Int32).toInt = -128 := by decide
  have e2 : (127 : Int32).toInt = 127 := by decide
  have e3 : (128 : Int32).toInt = 128 := by decide
  rw [e1] at h1; rw [e2] at h2
  have e : (i + 128).toInt = i.toInt + 128 := by
    rw [Int32.toInt_add, e3]; exact Int.bmod_eq_of_le_mul_two (by omega) (by omega)
  refine ⟨?_, ?_, ?_⟩
  · rw [Int32.lt_iff_toInt_lt, e]; have : (0 : Int32).toInt = 0 := by decide
    omega
  · rw [Int32.lt_iff_toInt_lt, e]; have : (256 : Int32).toInt = 256 := by decide
    omega
  · simp only [Int32.toNatClampNeg, e]; omega
theorem own_cache {args : Array Value} {s : State} {a : Addr} {c : Cell} {ct : Term} (ev : ∀ idx, ct.eval args s none idx s = some (.ref a)) (A : Arr s s.heap a c (.object "java/lang/Integer")) (hsz : c.slots.size < 2 ^ 31) (hn : c.slots.size.toInt32 = 256)
    (hall : (Jvm.Cond.all ct (.and (.exactly (.elem ct (.index 0)) "java/lang/Integer") (.eq (.field (.elem ct (.index 0)) "java/lang/Integer" "value" "I") (.sub (.index 0) (.int 128))))).value args s none s [] = some true) :
    ∀ i : Int32, ¬ i < -128 → ¬ 127 < i → ∃ w, c.slots.toList.getD (i + 128).toNatClampNeg .null = .ref w ∧ Jvm.RoadKit.Exa s s.heap w "java/lang/Integer" ∧ Jvm.RoadKit.Fld s s.heap w "java/lang/Integer" "value" "I" (.int i) := by
  intro i h1 h2
  obtain ⟨b1, b2, b3⟩ := own_i128 i h1 h2
  have hat := A.fin (Vm.Alike.refl _)
  have S : c.slots.size = 256 := by
    have : c.slots.size = (256 : Int32).toNatClampNeg := by rw [← hn]; simp only [Int32.toNatClampNeg, len_toInt hsz]; rfl
    rw [this]; decide
  have q := Cond.all_elim (ev []) hat hall (i + 128).toNatClampNeg (by rw [S]; exact b3)
  obtain ⟨q1, q2⟩ := and_e q
  have ei : (Term.index 0).eval args s none [(i + 128).toNatClampNeg] s = some (.int (i + 128)) := idx_at b1
  obtain ⟨w, ew⟩ := exa_v q1
  have ew' := ew
  rw [elem_f (ev _) ei hat b1] at ew'
  have es : (Term.sub (.index 0) (.int 128)).eval args s none [(i + 128).toNatClampNeg] s = some (.int i) := by
    have e0 : i + 128 - 128 = i := by
      rw [Int32.sub_eq_add_neg, Int32.add_assoc]; simp
    have e1 := (back32 b1).1
    simp [Term.eval, e1, e0]
  have ef := own_eqV es q2
  refine ⟨w, ?_, exa_at ew q1, Fld.start ?_⟩
  · rw [List.getD_eq_getElem?_getD, Array.getElem?_toList, ew']; rfl
  · rw [← fld_at (C := "java/lang/Integer") (n := "value") (dd := "I") ew]; exact ef
end Jvm.OwnGo
namespace Jvm.OwnGo
open Jvm Jvm.ClassFile Sem Op Lib Jvm.Free Jvm.Stand Jvm.LawKit Jvm.RoadKit
theorem own_nroot {Z : State} {a0 : Array Value} {O K : String} {n : Nat} (w : (Jvm.Cond.noSuperclass O).before a0 Z = true) (wk : (Jvm.Cond.instantiable K n).before a0 Z = true) (hn : O ≠ K) : NS Z O K := by
  obtain ⟨c, k, h1, h2, h3, -, -⟩ := Cond.noSuperclass_spec w
  obtain ⟨t, kt, g1, -⟩ := Cond.instantiable_spec wk
  have ne := ids_ne h1 g1 hn
  refine ⟨c, t, h1, g1, fun fuel => ?_⟩
  cases fuel with
  | zero => rfl
  | succ f => simp [Vm.isSubclassAux, ne, h2, h3]
theorem own_nno {Z : State} {a0 : Array Value} {C S K : String} {n : Nat} (w : (Jvm.Cond.superclass C S).before a0 Z = true) (wk : (Jvm.Cond.instantiable K n).before a0 Z = true) (nn : NS Z C K) (hn : C ≠ K) : ∃ c t, Z.vm.findClass C = some c ∧ Z.vm.findClass K = some t ∧ Z.vm.assignable c t = false := by
  obtain ⟨c, t, h0, g0, n3⟩ := nn
  obtain ⟨p, k, kp, h1, h2, h3, h4, h5, -, h7⟩ := Cond.superclass_spec h0 w
  obtain ⟨t', kt, g1, g2, g3, g4, -⟩ := Cond.instantiable_spec wk
  cases g0.symm.trans g1
  have gi : kt.isInterface = false := by
    cases q : kt.isInterface with
    | false => rfl
    | true => simp [q] at g4
  have ne := ids_ne h0 g0 hn
  refine ⟨c, t, h0, g0, ?_⟩
  show Z.vm.assignableAux (255 + 1) c t = false
  simp [Vm.assignableAux, ne, h2, g2, h5, g3, gi, Vm.isSubclass, n3]
end Jvm.OwnGo
namespace Jvm.Pilot.@@N@@
open Jvm Jvm.ClassFile Sem Op Lib Jvm.Free Jvm.Stand Jvm.LawKit Jvm.RoadKit Bundle Jvm.OwnGo Jvm.Pilot.@@N@@.Jvm.D
theorem own_and7 (x : Int32) : x &&& (7 : Int32) = (0 : Int32) ∨ x &&& (7 : Int32) = (1 : Int32) ∨ x &&& (7 : Int32) = (2 : Int32) ∨ x &&& (7 : Int32) = (3 : Int32) ∨ x &&& (7 : Int32) = (4 : Int32) ∨ x &&& (7 : Int32) = (5 : Int32) ∨ x &&& (7 : Int32) = (6 : Int32) ∨ x &&& (7 : Int32) = (7 : Int32) := by
  obtain ⟨h1, h2⟩ := OwnNum.mask x 7 (by decide)
  have e : (8 : Int32).toInt = 8 := by decide
  have e' : (7 : Int32).toInt = 7 := by decide
  generalize x &&& (7 : Int32) = z at h1 h2 ⊢
  have q : z.toInt = 0 ∨ z.toInt = 1 ∨ z.toInt = 2 ∨ z.toInt = 3 ∨ z.toInt = 4 ∨ z.toInt = 5 ∨ z.toInt = 6 ∨ z.toInt = 7 := by omega
  rcases q with q | q | q | q | q | q | q | q
  · exact Or.inl (OwnNum.eqI (q.trans (by decide)))
  · exact Or.inr (Or.inl (OwnNum.eqI (q.trans (by decide))))
  · exact Or.inr (Or.inr (Or.inl (OwnNum.eqI (q.trans (by decide)))))
  · exact Or.inr (Or.inr (Or.inr (Or.inl (OwnNum.eqI (q.trans (by decide))))))
  · exact Or.inr (Or.inr (Or.inr (Or.inr (Or.inl (OwnNum.eqI (q.trans (by decide)))))))
  · exact Or.inr (Or.inr (Or.inr (Or.inr (Or.inr (Or.inl (OwnNum.eqI (q.trans (by decide))))))))
  · exact Or.inr (Or.inr (Or.inr (Or.inr (Or.inr (Or.inr (Or.inl (OwnNum.eqI (q.trans (by decide)))))))))
  · exact Or.inr (Or.inr (Or.inr (Or.inr (Or.inr (Or.inr (Or.inr ((OwnNum.eqI (q.trans (by decide))))))))))
theorem own_m9 (x : Int32) : (x &&& (15 : Int32)) % (9 : Int32) = (0 : Int32) ∨ (x &&& (15 : Int32)) % (9 : Int32) = (1 : Int32) ∨ (x &&& (15 : Int32)) % (9 : Int32) = (2 : Int32) ∨ (x &&& (15 : Int32)) % (9 : Int32) = (3 : Int32) ∨ (x &&& (15 : Int32)) % (9 : Int32) = (4 : Int32) ∨ (x &&& (15 : Int32)) % (9 : Int32) = (5 : Int32) ∨ (x &&& (15 : Int32)) % (9 : Int32) = (6 : Int32) ∨ (x &&& (15 : Int32)) % (9 : Int32) = (7 : Int32) ∨ (x &&& (15 : Int32)) % (9 : Int32) = (8 : Int32) := by
  obtain ⟨h1, h2⟩ := OwnNum.modr (x &&& (15 : Int32)) 9 (OwnNum.mask x 15 (by decide)).1 (by decide)
  have e : (9 : Int32).toInt = 9 := by decide
  have e' : (8 : Int32).toInt = 8 := by decide
  generalize (x &&& (15 : Int32)) % (9 : Int32) = z at h1 h2 ⊢
  have q : z.toInt = 0 ∨ z.toInt = 1 ∨ z.toInt = 2 ∨ z.toInt = 3 ∨ z.toInt = 4 ∨ z.toInt = 5 ∨ z.toInt = 6 ∨ z.toInt = 7 ∨ z.toInt = 8 := by omega
  rcases q with q | q | q | q | q | q | q | q | q
  · exact Or.inl (OwnNum.eqI (q.trans (by decide)))
  · exact Or.inr (Or.inl (OwnNum.eqI (q.trans (by decide))))
  · exact Or.inr (Or.inr (Or.inl (OwnNum.eqI (q.trans (by decide)))))
  · exact Or.inr (Or.inr (Or.inr (Or.inl (OwnNum.eqI (q.trans (by decide))))))
  · exact Or.inr (Or.inr (Or.inr (Or.inr (Or.inl (OwnNum.eqI (q.trans (by decide)))))))
  · exact Or.inr (Or.inr (Or.inr (Or.inr (Or.inr (Or.inl (OwnNum.eqI (q.trans (by decide))))))))
  · exact Or.inr (Or.inr (Or.inr (Or.inr (Or.inr (Or.inr (Or.inl (OwnNum.eqI (q.trans (by decide)))))))))
  · exact Or.inr (Or.inr (Or.inr (Or.inr (Or.inr (Or.inr (Or.inr (Or.inl (OwnNum.eqI (q.trans (by decide))))))))))
  · exact Or.inr (Or.inr (Or.inr (Or.inr (Or.inr (Or.inr (Or.inr (Or.inr ((OwnNum.eqI (q.trans (by decide)))))))))))
theorem d2_0 : decode method_3_code 0 = .ok (.iload_n 0, 1) := by decide +kernel
theorem d2_1 : decode method_3_code 1 = .ok (.bipush 7, 2) := by decide +kernel
theorem d2_3 : decode method_3_code 3 = .ok (.iand, 1) := by decide +kernel
theorem d2_4 : decode method_3_code 4 = .ok (.istore_n 1, 1) := by decide +kernel
theorem d2_5 : decode method_3_code 5 = .ok (.iload_n 1, 1) := by decide +kernel
theorem d2_6 : decode method_3_code 6 = .ok (.ifCond .ne 7, 3) := by decide +kernel
theorem d2_9 : decode method_3_code 9 = .ok (.getstatic 34, 3) := by decide +kernel
theorem d2_12 : decode method_3_code 12 = .ok (.areturn, 1) := by decide +kernel
theorem d2_13 : decode method_3_code 13 = .ok (.iload_n 1, 1) := by decide +kernel
theorem d2_14 : decode method_3_code 14 = .ok (.iconst 1, 1) := by decide +kernel
theorem d2_15 : decode method_3_code 15 = .ok (.if_icmp .ne 7, 3) := by decide +kernel
theorem d2_18 : decode method_3_code 18 = .ok (.getstatic 40, 3) := by decide +kernel
theorem d2_21 : decode method_3_code 21 = .ok (.areturn, 1) := by decide +kernel
theorem d2_22 : decode method_3_code 22 = .ok (.iload_n 1, 1) := by decide +kernel
theorem d2_23 : decode method_3_code 23 = .ok (.iconst 2, 1) := by decide +kernel
theorem d2_24 : decode method_3_code 24 = .ok (.if_icmp .ne 7, 3) := by decide +kernel
theorem d2_27 : decode method_3_code 27 = .ok (.getstatic 43, 3) := by decide +kernel
theorem d2_30 : decode method_3_code 30 = .ok (.areturn, 1) := by decide +kernel
theorem d2_31 : decode method_3_code 31 = .ok (.iload_n 1, 1) := by decide +kernel
theorem d2_32 : decode method_3_code 32 = .ok (.iconst 3, 1) := by decide +kernel
theorem d2_33 : decode method_3_code 33 = .ok (.if_icmp .ne 7, 3) := by decide +kernel
theorem d2_36 : decode method_3_code 36 = .ok (.getstatic 46, 3) := by decide +kernel
theorem d2_39 : decode method_3_code 39 = .ok (.areturn, 1) := by decide +kernel
theorem d2_40 : decode method_3_code 40 = .ok (.iload_n 1, 1) := by decide +kernel
theorem d2_41 : decode method_3_code 41 = .ok (.iconst 4, 1) := by decide +kernel
theorem d2_42 : decode method_3_code 42 = .ok (.if_icmp .ne 7, 3) := by decide +kernel
theorem d2_45 : decode method_3_code 45 = .ok (.getstatic 49, 3) := by decide +kernel
theorem d2_48 : decode method_3_code 48 = .ok (.areturn, 1) := by decide +kernel
theorem d2_49 : decode method_3_code 49 = .ok (.iload_n 1, 1) := by decide +kernel
theorem d2_50 : decode method_3_code 50 = .ok (.iconst 5, 1) := by decide +kernel
theorem d2_51 : decode method_3_code 51 = .ok (.if_icmp .ne 7, 3) := by decide +kernel
theorem d2_54 : decode method_3_code 54 = .ok (.getstatic 52, 3) := by decide +kernel
theorem d2_57 : decode method_3_code 57 = .ok (.areturn, 1) := by decide +kernel
theorem d2_58 : decode method_3_code 58 = .ok (.iload_n 1, 1) := by decide +kernel
theorem d2_59 : decode method_3_code 59 = .ok (.bipush 6, 2) := by decide +kernel
theorem d2_61 : decode method_3_code 61 = .ok (.if_icmp .ne 7, 3) := by decide +kernel
theorem d2_64 : decode method_3_code 64 = .ok (.getstatic 55, 3) := by decide +kernel
theorem d2_67 : decode method_3_code 67 = .ok (.areturn, 1) := by decide +kernel
theorem d2_68 : decode method_3_code 68 = .ok (.getstatic 58, 3) := by decide +kernel
theorem d2_71 : decode method_3_code 71 = .ok (.areturn, 1) := by decide +kernel
theorem pn_0 : plainName "com/example/episodic/episodic/StatementResultIsRejectedPinLaw" = true := by first | (simp [plainName, overriddenIn]; done) | decide +kernel
set_option maxRecDepth 65536 in
set_option maxHeartbeats 4000000 in
theorem c_kindOf (l : Launch) (Z : State) (a0 : Array Value) (hw : ∀ d ∈ tables_1, d.before a0 Z = true) {n0 : Nat} (h : Heap) (k : Int32) (w0 : Addr) (w1 : Addr) (w2 : Addr) (w3 : Addr) (w4 : Addr) (w5 : Addr) (w6 : Addr) (w7 : Addr) (s0 : Sta Z Z.heap "com/example/episodic/episodic/Statement$Kind" "CREATE_TABLE" "Lcom/example/episodic/episodic/Statement$Kind;" (.ref w0)) (s1 : Sta Z Z.heap "com/example/episodic/episodic/Statement$Kind" "DROP_TABLE" "Lcom/example/episodic/episodic/Statement$Kind;" (.ref w1)) (s2 : Sta Z Z.heap "com/example/episodic/episodic/Statement$Kind" "SET_NOW" "Lcom/example/episodic/episodic/Statement$Kind;" (.ref w2)) (s3 : Sta Z Z.heap "com/example/episodic/episodic/Statement$Kind" "INSERT" "Lcom/example/episodic/episodic/Statement$Kind;" (.ref w3)) (s4 : Sta Z Z.heap "com/example/episodic/episodic/Statement$Kind" "UPDATE" "Lcom/example/episodic/episodic/Statement$Kind;" (.ref w4)) (s5 : Sta Z Z.heap "com/example/episodic/episodic/Statement$Kind" "DELETE" "Lcom/example/episodic/episodic/Statement$Kind;" (.ref w5)) (s6 : Sta Z Z.heap "com/example/episodic/episodic/Statement$Kind" "SELECT" "Lcom/example/episodic/episodic/Statement$Kind;" (.ref w6)) (s7 : Sta Z Z.heap "com/example/episodic/episodic/Statement$Kind" "SHOW_ROWS" "Lcom/example/episodic/episodic/Statement$Kind;" (.ref w7)) :
    Con l (⟨"com/example/episodic/episodic/StatementResultIsRejectedPinLaw", "kindOf", "(I)Lcom/example/episodic/episodic/Statement$Kind;"⟩ : MethodName) method_3_code 2 (some (.object "com/example/episodic/episodic/Statement$Kind")) ({ frames := 0, cells := 0, slots := 0, locals := 0 } : Room) Z n0 #[(.int k)] h (fun v h' => ∃ a : Addr, v = some (.ref a) ∧ h = h') := by
  refine Con.of_go (plainFor_of_name pn_0) (Ls := #[.val (.int k), .unset]) (fun m => by first | (simp [entryFrame, mkF, argsToLocals, Value.category]; done) | rfl) ?_
  refine Go.iloadN (pc' := 1) d2_0 rfl rfl ?_
  refine Go.bipush (pc' := 3) (v := (7 : Int32)) d2_1 rfl rfl ?_
  refine Go.iand (pc' := 4) d2_3 rfl ?_
  refine Go.istoreN (pc' := 5) (Ls' := #[.val (.int k), .val (.int (k &&& (7 : Int32)))]) d2_4 rfl rfl ?_
  obtain hk1 | hk1 | hk1 | hk1 | hk1 | hk1 | hk1 | hk1 := own_and7 k
  ·
    rw [hk1]
    refine Go.iloadN (pc' := 6) d2_5 rfl rfl ?_
    refine Go.ifNo (pc' := 9) d2_6 (XT.i0_ne_f (by decide)) rfl ?_
    refine Go.old (fun old2 => ?_)
    refine Go.getstatic (pc' := 12) (host := "") (Or.inl (hw _ (List.mem_of_getElem? (i := 92) rfl))) Via.refl (s0.ext old2.2) d2_9 rfl ?_
    exact Go.retR rfl rfl rfl rfl d2_12 ⟨w0, rfl, rfl⟩ (by decide) (by decide)
  ·
    rw [hk1]
    refine Go.iloadN (pc' := 6) d2_5 rfl rfl ?_
    refine Go.ifYes (pc' := 13) d2_6 (XT.i0_ne_t (by decide)) (by decide) (by decide) ?_
    refine Go.iloadN (pc' := 14) d2_13 rfl rfl ?_
    refine Go.iconst (pc' := 15) (v := (1 : Int32)) d2_14 rfl rfl ?_
    refine Go.icmpNo (pc' := 18) d2_15 (XT.ii_ne_f (by decide)) rfl ?_
    refine Go.old (fun old3 => ?_)
    refine Go.getstatic (pc' := 21) (host := "") (Or.inl (hw _ (List.mem_of_getElem? (i := 84) rfl))) Via.refl (s1.ext old3.2) d2_18 rfl ?_
    exact Go.retR rfl rfl rfl rfl d2_21 ⟨w1, rfl, rfl⟩ (by decide) (by decide)
  ·
    rw [hk1]
    refine Go.iloadN (pc' := 6) d2_5 rfl rfl ?_
    refine Go.ifYes (pc' := 13) d2_6 (XT.i0_ne_t (by decide)) (by decide) (by decide) ?_
    refine Go.iloadN (pc' := 14) d2_13 rfl rfl ?_
    refine Go.iconst (pc' := 15) (v := (1 : Int32)) d2_14 rfl rfl ?_
    refine Go.icmpYes (pc' := 22) d2_15 (XT.ii_ne_t (by decide)) (by decide) (by decide) ?_
    refine Go.iloadN (pc' := 23) d2_22 rfl rfl ?_
    refine Go.iconst (pc' := 24) (v := (2 : Int32)) d2_23 rfl rfl ?_
    refine Go.icmpNo (pc' := 27) d2_24 (XT.ii_ne_f (by decide)) rfl ?_
    refine Go.old (fun old4 => ?_)
    refine Go.getstatic (pc' := 30) (host := "") (Or.inl (hw _ (List.mem_of_getElem? (i := 49) rfl))) Via.refl (s2.ext old4.2) d2_27 rfl ?_
    exact Go.retR rfl rfl rfl rfl d2_30 ⟨w2, rfl, rfl⟩ (by decide) (by decide)
  ·
    rw [hk1]
    refine Go.iloadN (pc' := 6) d2_5 rfl rfl ?_
    refine Go.ifYes (pc' := 13) d2_6 (XT.i0_ne_t (by decide)) (by decide) (by decide) ?_
    refine Go.iloadN (pc' := 14) d2_13 rfl rfl ?_
    refine Go.iconst (pc' := 15) (v := (1 : Int32)) d2_14 rfl rfl ?_
    refine Go.icmpYes (pc' := 22) d2_15 (XT.ii_ne_t (by decide)) (by decide) (by decide) ?_
    refine Go.iloadN (pc' := 23) d2_22 rfl rfl ?_
    refine Go.iconst (pc' := 24) (v := (2 : Int32)) d2_23 rfl rfl ?_
    refine Go.icmpYes (pc' := 31) d2_24 (XT.ii_ne_t (by decide)) (by decide) (by decide) ?_
    refine Go.iloadN (pc' := 32) d2_31 rfl rfl ?_
    refine Go.iconst (pc' := 33) (v := (3 : Int32)) d2_32 rfl rfl ?_
    refine Go.icmpNo (pc' := 36) d2_33 (XT.ii_ne_f (by decide)) rfl ?_
    refine Go.old (fun old5 => ?_)
    refine Go.getstatic (pc' := 39) (host := "") (Or.inl (hw _ (List.mem_of_getElem? (i := 7) rfl))) Via.refl (s3.ext old5.2) d2_36 rfl ?_
    exact Go.retR rfl rfl rfl rfl d2_39 ⟨w3, rfl, rfl⟩ (by decide) (by decide)
  ·
    rw [hk1]
    refine Go.iloadN (pc' := 6) d2_5 rfl rfl ?_
    refine Go.ifYes (pc' := 13) d2_6 (XT.i0_ne_t (by decide)) (by decide) (by decide) ?_
    refine Go.iloadN (pc' := 14) d2_13 rfl rfl ?_
    refine Go.iconst (pc' := 15) (v := (1 : Int32)) d2_14 rfl rfl ?_
    refine Go.icmpYes (pc' := 22) d2_15 (XT.ii_ne_t (by decide)) (by decide) (by decide) ?_
    refine Go.iloadN (pc' := 23) d2_22 rfl rfl ?_
    refine Go.iconst (pc' := 24) (v := (2 : Int32)) d2_23 rfl rfl ?_
    refine Go.icmpYes (pc' := 31) d2_24 (XT.ii_ne_t (by decide)) (by decide) (by decide) ?_
    refine Go.iloadN (pc' := 32) d2_31 rfl rfl ?_
    refine Go.iconst (pc' := 33) (v := (3 : Int32)) d2_32 rfl rfl ?_
    refine Go.icmpYes (pc' := 40) d2_33 (XT.ii_ne_t (by decide)) (by decide) (by decide) ?_
    refine Go.iloadN (pc' := 41) d2_40 rfl rfl ?_
    refine Go.iconst (pc' := 42) (v := (4 : Int32)) d2_41 rfl rfl ?_
    refine Go.icmpNo (pc' := 45) d2_42 (XT.ii_ne_f (by decide)) rfl ?_
    refine Go.old (fun old6 => ?_)
    refine Go.getstatic (pc' := 48) (host := "") (Or.inl (hw _ (List.mem_of_getElem? (i := 45) rfl))) Via.refl (s4.ext old6.2) d2_45 rfl ?_
    exact Go.retR rfl rfl rfl rfl d2_48 ⟨w4, rfl, rfl⟩ (by decide) (by decide)
  ·
    rw [hk1]
    refine Go.iloadN (pc' := 6) d2_5 rfl rfl ?_
    refine Go.ifYes (pc' := 13) d2_6 (XT.i0_ne_t (by decide)) (by decide) (by decide) ?_
    refine Go.iloadN (pc' := 14) d2_13 rfl rfl ?_
    refine Go.iconst (pc' := 15) (v := (1 : Int32)) d2_14 rfl rfl ?_
    refine Go.icmpYes (pc' := 22) d2_15 (XT.ii_ne_t (by decide)) (by decide) (by decide) ?_
    refine Go.iloadN (pc' := 23) d2_22 rfl rfl ?_
    refine Go.iconst (pc' := 24) (v := (2 : Int32)) d2_23 rfl rfl ?_
    refine Go.icmpYes (pc' := 31) d2_24 (XT.ii_ne_t (by decide)) (by decide) (by decide) ?_
    refine Go.iloadN (pc' := 32) d2_31 rfl rfl ?_
    refine Go.iconst (pc' := 33) (v := (3 : Int32)) d2_32 rfl rfl ?_
    refine Go.icmpYes (pc' := 40) d2_33 (XT.ii_ne_t (by decide)) (by decide) (by decide) ?_
    refine Go.iloadN (pc' := 41) d2_40 rfl rfl ?_
    refine Go.iconst (pc' := 42) (v := (4 : Int32)) d2_41 rfl rfl ?_
    refine Go.icmpYes (pc' := 49) d2_42 (XT.ii_ne_t (by decide)) (by decide) (by decide) ?_
    refine Go.iloadN (pc' := 50) d2_49 rfl rfl ?_
    refine Go.iconst (pc' := 51) (v := (5 : Int32)) d2_50 rfl rfl ?_
    refine Go.icmpNo (pc' := 54) d2_51 (XT.ii_ne_f (by decide)) rfl ?_
    refine Go.old (fun old7 => ?_)
    refine Go.getstatic (pc' := 57) (host := "") (Or.inl (hw _ (List.mem_of_getElem? (i := 96) rfl))) Via.refl (s5.ext old7.2) d2_54 rfl ?_
    exact Go.retR rfl rfl rfl rfl d2_57 ⟨w5, rfl, rfl⟩ (by decide) (by decide)
  ·
    rw [hk1]
    refine Go.iloadN (pc' := 6) d2_5 rfl rfl ?_
    refine Go.ifYes (pc' := 13) d2_6 (XT.i0_ne_t (by decide)) (by decide) (by decide) ?_
    refine Go.iloadN (pc' := 14) d2_13 rfl rfl ?_
    refine Go.iconst (pc' := 15) (v := (1 : Int32)) d2_14 rfl rfl ?_
    refine Go.icmpYes (pc' := 22) d2_15 (XT.ii_ne_t (by decide)) (by decide) (by decide) ?_
    refine Go.iloadN (pc' := 23) d2_22 rfl rfl ?_
    refine Go.iconst (pc' := 24) (v := (2 : Int32)) d2_23 rfl rfl ?_
    refine Go.icmpYes (pc' := 31) d2_24 (XT.ii_ne_t (by decide)) (by decide) (by decide) ?_
    refine Go.iloadN (pc' := 32) d2_31 rfl rfl ?_
    refine Go.iconst (pc' := 33) (v := (3 : Int32)) d2_32 rfl rfl ?_
    refine Go.icmpYes (pc' := 40) d2_33 (XT.ii_ne_t (by decide)) (by decide) (by decide) ?_
    refine Go.iloadN (pc' := 41) d2_40 rfl rfl ?_
    refine Go.iconst (pc' := 42) (v := (4 : Int32)) d2_41 rfl rfl ?_
    refine Go.icmpYes (pc' := 49) d2_42 (XT.ii_ne_t (by decide)) (by decide) (by decide) ?_
    refine Go.iloadN (pc' := 50) d2_49 rfl rfl ?_
    refine Go.iconst (pc' := 51) (v := (5 : Int32)) d2_50 rfl rfl ?_
    refine Go.icmpYes (pc' := 58) d2_51 (XT.ii_ne_t (by decide)) (by decide) (by decide) ?_
    refine Go.iloadN (pc' := 59) d2_58 rfl rfl ?_
    refine Go.bipush (pc' := 61) (v := (6 : Int32)) d2_59 rfl rfl ?_
    refine Go.icmpNo (pc' := 64) d2_61 (XT.ii_ne_f (by decide)) rfl ?_
    refine Go.old (fun old8 => ?_)
    refine Go.getstatic (pc' := 67) (host := "") (Or.inl (hw _ (List.mem_of_getElem? (i := 94) rfl))) Via.refl (s6.ext old8.2) d2_64 rfl ?_
    exact Go.retR rfl rfl rfl rfl d2_67 ⟨w6, rfl, rfl⟩ (by decide) (by decide)
  ·
    rw [hk1]
    refine Go.iloadN (pc' := 6) d2_5 rfl rfl ?_
    refine Go.ifYes (pc' := 13) d2_6 (XT.i0_ne_t (by decide)) (by decide) (by decide) ?_
    refine Go.iloadN (pc' := 14) d2_13 rfl rfl ?_
    refine Go.iconst (pc' := 15) (v := (1 : Int32)) d2_14 rfl rfl ?_
    refine Go.icmpYes (pc' := 22) d2_15 (XT.ii_ne_t (by decide)) (by decide) (by decide) ?_
    refine Go.iloadN (pc' := 23) d2_22 rfl rfl ?_
    refine Go.iconst (pc' := 24) (v := (2 : Int32)) d2_23 rfl rfl ?_
    refine Go.icmpYes (pc' := 31) d2_24 (XT.ii_ne_t (by decide)) (by decide) (by decide) ?_
    refine Go.iloadN (pc' := 32) d2_31 rfl rfl ?_
    refine Go.iconst (pc' := 33) (v := (3 : Int32)) d2_32 rfl rfl ?_
    refine Go.icmpYes (pc' := 40) d2_33 (XT.ii_ne_t (by decide)) (by decide) (by decide) ?_
    refine Go.iloadN (pc' := 41) d2_40 rfl rfl ?_
    refine Go.iconst (pc' := 42) (v := (4 : Int32)) d2_41 rfl rfl ?_
    refine Go.icmpYes (pc' := 49) d2_42 (XT.ii_ne_t (by decide)) (by decide) (by decide) ?_
    refine Go.iloadN (pc' := 50) d2_49 rfl rfl ?_
    refine Go.iconst (pc' := 51) (v := (5 : Int32)) d2_50 rfl rfl ?_
    refine Go.icmpYes (pc' := 58) d2_51 (XT.ii_ne_t (by decide)) (by decide) (by decide) ?_
    refine Go.iloadN (pc' := 59) d2_58 rfl rfl ?_
    refine Go.bipush (pc' := 61) (v := (6 : Int32)) d2_59 rfl rfl ?_
    refine Go.icmpYes (pc' := 68) d2_61 (XT.ii_ne_t (by decide)) (by decide) (by decide) ?_
    refine Go.old (fun old9 => ?_)
    refine Go.getstatic (pc' := 71) (host := "") (Or.inl (hw _ (List.mem_of_getElem? (i := 80) rfl))) Via.refl (s7.ext old9.2) d2_68 rfl ?_
    exact Go.retR rfl rfl rfl rfl d2_71 ⟨w7, rfl, rfl⟩ (by decide) (by decide)
theorem d1_0 : decode method_2_code 0 = .ok (.iload_n 0, 1) := by decide +kernel
theorem d1_1 : decode method_2_code 1 = .ok (.bipush 15, 2) := by decide +kernel
theorem d1_3 : decode method_2_code 3 = .ok (.iand, 1) := by decide +kernel
theorem d1_4 : decode method_2_code 4 = .ok (.bipush 9, 2) := by decide +kernel
theorem d1_6 : decode method_2_code 6 = .ok (.irem, 1) := by decide +kernel
theorem d1_7 : decode method_2_code 7 = .ok (.istore_n 1, 1) := by decide +kernel
theorem d1_8 : decode method_2_code 8 = .ok (.iload_n 1, 1) := by decide +kernel
theorem d1_9 : decode method_2_code 9 = .ok (.ifCond .ne 5, 3) := by decide +kernel
theorem d1_12 : decode method_2_code 12 = .ok (.aconst_null, 1) := by decide +kernel
theorem d1_13 : decode method_2_code 13 = .ok (.areturn, 1) := by decide +kernel
theorem d1_14 : decode method_2_code 14 = .ok (.iload_n 1, 1) := by decide +kernel
theorem d1_15 : decode method_2_code 15 = .ok (.iconst 1, 1) := by decide +kernel
theorem d1_16 : decode method_2_code 16 = .ok (.if_icmp .ne 7, 3) := by decide +kernel
theorem d1_19 : decode method_2_code 19 = .ok (.getstatic 7, 3) := by decide +kernel
theorem d1_22 : decode method_2_code 22 = .ok (.areturn, 1) := by decide +kernel
theorem d1_23 : decode method_2_code 23 = .ok (.iload_n 1, 1) := by decide +kernel
theorem d1_24 : decode method_2_code 24 = .ok (.iconst 2, 1) := by decide +kernel
theorem d1_25 : decode method_2_code 25 = .ok (.if_icmp .ne 7, 3) := by decide +kernel
theorem d1_28 : decode method_2_code 28 = .ok (.getstatic 13, 3) := by decide +kernel
theorem d1_31 : decode method_2_code 31 = .ok (.areturn, 1) := by decide +kernel
theorem d1_32 : decode method_2_code 32 = .ok (.iload_n 1, 1) := by decide +kernel
theorem d1_33 : decode method_2_code 33 = .ok (.iconst 3, 1) := by decide +kernel
theorem d1_34 : decode method_2_code 34 = .ok (.if_icmp .ne 7, 3) := by decide +kernel
theorem d1_37 : decode method_2_code 37 = .ok (.getstatic 16, 3) := by decide +kernel
theorem d1_40 : decode method_2_code 40 = .ok (.areturn, 1) := by decide +kernel
theorem d1_41 : decode method_2_code 41 = .ok (.iload_n 1, 1) := by decide +kernel
theorem d1_42 : decode method_2_code 42 = .ok (.iconst 4, 1) := by decide +kernel
theorem d1_43 : decode method_2_code 43 = .ok (.if_icmp .ne 7, 3) := by decide +kernel
theorem d1_46 : decode method_2_code 46 = .ok (.getstatic 19, 3) := by decide +kernel
theorem d1_49 : decode method_2_code 49 = .ok (.areturn, 1) := by decide +kernel
theorem d1_50 : decode method_2_code 50 = .ok (.iload_n 1, 1) := by decide +kernel
theorem d1_51 : decode method_2_code 51 = .ok (.iconst 5, 1) := by decide +kernel
theorem d1_52 : decode method_2_code 52 = .ok (.if_icmp .ne 7, 3) := by decide +kernel
theorem d1_55 : decode method_2_code 55 = .ok (.getstatic 22, 3) := by decide +kernel
theorem d1_58 : decode method_2_code 58 = .ok (.areturn, 1) := by decide +kernel
theorem d1_59 : decode method_2_code 59 = .ok (.iload_n 1, 1) := by decide +kernel
theorem d1_60 : decode method_2_code 60 = .ok (.bipush 6, 2) := by decide +kernel
theorem d1_62 : decode method_2_code 62 = .ok (.if_icmp .ne 7, 3) := by decide +kernel
theorem d1_65 : decode method_2_code 65 = .ok (.getstatic 25, 3) := by decide +kernel
theorem d1_68 : decode method_2_code 68 = .ok (.areturn, 1) := by decide +kernel
theorem d1_69 : decode method_2_code 69 = .ok (.iload_n 1, 1) := by decide +kernel
theorem d1_70 : decode method_2_code 70 = .ok (.bipush 7, 2) := by decide +kernel
theorem d1_72 : decode method_2_code 72 = .ok (.if_icmp .ne 7, 3) := by decide +kernel
theorem d1_75 : decode method_2_code 75 = .ok (.getstatic 28, 3) := by decide +kernel
theorem d1_78 : decode method_2_code 78 = .ok (.areturn, 1) := by decide +kernel
theorem d1_79 : decode method_2_code 79 = .ok (.getstatic 31, 3) := by decide +kernel
theorem d1_82 : decode method_2_code 82 = .ok (.areturn, 1) := by decide +kernel
set_option maxRecDepth 65536 in
set_option maxHeartbeats 4000000 in
theorem c_errOf (l : Launch) (Z : State) (a0 : Array Value) (hw : ∀ d ∈ tables_1, d.before a0 Z = true) {n0 : Nat} (h : Heap) (k : Int32) (u0 : Addr) (u1 : Addr) (u2 : Addr) (u3 : Addr) (u4 : Addr) (u5 : Addr) (u6 : Addr) (u7 : Addr) (se0 : Sta Z Z.heap "com/example/episodic/episodic/ErrorClass" "SYNTAX" "Lcom/example/episodic/episodic/ErrorClass;" (.ref u0)) (se1 : Sta Z Z.heap "com/example/episodic/episodic/ErrorClass" "SCHEMA" "Lcom/example/episodic/episodic/ErrorClass;" (.ref u1)) (se2 : Sta Z Z.heap "com/example/episodic/episodic/ErrorClass" "PERIOD" "Lcom/example/episodic/episodic/ErrorClass;" (.ref u2)) (se3 : Sta Z Z.heap "com/example/episodic/episodic/ErrorClass" "CLOCK" "Lcom/example/episodic/episodic/ErrorClass;" (.ref u3)) (se4 : Sta Z Z.heap "com/example/episodic/episodic/ErrorClass" "DEFERRED" "Lcom/example/episodic/episodic/ErrorClass;" (.ref u4)) (se5 : Sta Z Z.heap "com/example/episodic/episodic/ErrorClass" "TEI" "Lcom/example/episodic/episodic/ErrorClass;" (.ref u5)) (se6 : Sta Z Z.heap "com/example/episodic/episodic/ErrorClass" "NOT_FOUND" "Lcom/example/episodic/episodic/ErrorClass;" (.ref u6)) (se7 : Sta Z Z.heap "com/example/episodic/episodic/ErrorClass" "TRI" "Lcom/example/episodic/episodic/ErrorClass;" (.ref u7)) :
    Con l (⟨"com/example/episodic/episodic/StatementResultIsRejectedPinLaw", "errorClassOf", "(I)Lcom/example/episodic/episodic/ErrorClass;"⟩ : MethodName) method_2_code 2 (some (.object "com/example/episodic/episodic/ErrorClass")) ({ frames := 0, cells := 0, slots := 0, locals := 0 } : Room) Z n0 #[(.int k)] h (fun v h' => ∃ ec : Value, v = some ec ∧ h = h' ∧ (ec.isRef = true)) := by
  refine Con.of_go (plainFor_of_name pn_0) (Ls := #[.val (.int k), .unset]) (fun m => by first | (simp [entryFrame, mkF, argsToLocals, Value.category]; done) | rfl) ?_
  refine Go.iloadN (pc' := 1) d1_0 rfl rfl ?_
  refine Go.bipush (pc' := 3) (v := (15 : Int32)) d1_1 rfl rfl ?_
  refine Go.iand (pc' := 4) d1_3 rfl ?_
  refine Go.bipush (pc' := 6) (v := (9 : Int32)) d1_4 rfl rfl ?_
  refine Go.irem (pc' := 7) d1_6 (by decide) rfl ?_
  refine Go.istoreN (pc' := 8) (Ls' := #[.val (.int k), .val (.int ((k &&& (15 : Int32)) % (9 : Int32)))]) d1_7 rfl rfl ?_
  obtain hk1 | hk1 | hk1 | hk1 | hk1 | hk1 | hk1 | hk1 | hk1 := own_m9 k
  ·
    rw [hk1]
    refine Go.iloadN (pc' := 9) d1_8 rfl rfl ?_
    refine Go.ifNo (pc' := 12) d1_9 (XT.i0_ne_f (by decide)) rfl ?_
    refine Go.aconstNull (pc' := 13) d1_12 rfl ?_
    exact Go.retR rfl rfl rfl rfl d1_13 ⟨.null, rfl, rfl, rfl⟩ (by decide) (by decide)
  ·
    rw [hk1]
    refine Go.iloadN (pc' := 9) d1_8 rfl rfl ?_
    refine Go.ifYes (pc' := 14) d1_9 (XT.i0_ne_t (by decide)) (by decide) (by decide) ?_
    refine Go.iloadN (pc' := 15) d1_14 rfl rfl ?_
    refine Go.iconst (pc' := 16) (v := (1 : Int32)) d1_15 rfl rfl ?_
    refine Go.icmpNo (pc' := 19) d1_16 (XT.ii_ne_f (by decide)) rfl ?_
    refine Go.old (fun old2 => ?_)
    refine Go.getstatic (pc' := 22) (host := "") (Or.inl (hw _ (List.mem_of_getElem? (i := 88) rfl))) Via.refl (se0.ext old2.2) d1_19 rfl ?_
    exact Go.retR rfl rfl rfl rfl d1_22 ⟨(.ref u0), rfl, rfl, rfl⟩ (by decide) (by decide)
  ·
    rw [hk1]
    refine Go.iloadN (pc' := 9) d1_8 rfl rfl ?_
    refine Go.ifYes (pc' := 14) d1_9 (XT.i0_ne_t (by decide)) (by decide) (by decide) ?_
    refine Go.iloadN (pc' := 15) d1_14 rfl rfl ?_
    refine Go.iconst (pc' := 16) (v := (1 : Int32)) d1_15 rfl rfl ?_
    refine Go.icmpYes (pc' := 23) d1_16 (XT.ii_ne_t (by decide)) (by decide) (by decide) ?_
    refine Go.iloadN (pc' := 24) d1_23 rfl rfl ?_
    refine Go.iconst (pc' := 25) (v := (2 : Int32)) d1_24 rfl rfl ?_
    refine Go.icmpNo (pc' := 28) d1_25 (XT.ii_ne_f (by decide)) rfl ?_
    refine Go.old (fun old3 => ?_)
    refine Go.getstatic (pc' := 31) (host := "") (Or.inl (hw _ (List.mem_of_getElem? (i := 86) rfl))) Via.refl (se1.ext old3.2) d1_28 rfl ?_
    exact Go.retR rfl rfl rfl rfl d1_31 ⟨(.ref u1), rfl, rfl, rfl⟩ (by decide) (by decide)
  ·
    rw [hk1]
    refine Go.iloadN (pc' := 9) d1_8 rfl rfl ?_
    refine Go.ifYes (pc' := 14) d1_9 (XT.i0_ne_t (by decide)) (by decide) (by decide) ?_
    refine Go.iloadN (pc' := 15) d1_14 rfl rfl ?_
    refine Go.iconst (pc' := 16) (v := (1 : Int32)) d1_15 rfl rfl ?_
    refine Go.icmpYes (pc' := 23) d1_16 (XT.ii_ne_t (by decide)) (by decide) (by decide) ?_
    refine Go.iloadN (pc' := 24) d1_23 rfl rfl ?_
    refine Go.iconst (pc' := 25) (v := (2 : Int32)) d1_24 rfl rfl ?_
    refine Go.icmpYes (pc' := 32) d1_25 (XT.ii_ne_t (by decide)) (by decide) (by decide) ?_
    refine Go.iloadN (pc' := 33) d1_32 rfl rfl ?_
    refine Go.iconst (pc' := 34) (v := (3 : Int32)) d1_33 rfl rfl ?_
    refine Go.icmpNo (pc' := 37) d1_34 (XT.ii_ne_f (by decide)) rfl ?_
    refine Go.old (fun old4 => ?_)
    refine Go.getstatic (pc' := 40) (host := "") (Or.inl (hw _ (List.mem_of_getElem? (i := 42) rfl))) Via.refl (se2.ext old4.2) d1_37 rfl ?_
    exact Go.retR rfl rfl rfl rfl d1_40 ⟨(.ref u2), rfl, rfl, rfl⟩ (by decide) (by decide)
  ·
    rw [hk1]
    refine Go.iloadN (pc' := 9) d1_8 rfl rfl ?_
    refine Go.ifYes (pc' := 14) d1_9 (XT.i0_ne_t (by decide)) (by decide) (by decide) ?_
    refine Go.iloadN (pc' := 15) d1_14 rfl rfl ?_
    refine Go.iconst (pc' := 16) (v := (1 : Int32)) d1_15 rfl rfl ?_
    refine Go.icmpYes (pc' := 23) d1_16 (XT.ii_ne_t (by decide)) (by decide) (by decide) ?_
    refine Go.iloadN (pc' := 24) d1_23 rfl rfl ?_
    refine Go.iconst (pc' := 25) (v := (2 : Int32)) d1_24 rfl rfl ?_
    refine Go.icmpYes (pc' := 32) d1_25 (XT.ii_ne_t (by decide)) (by decide) (by decide) ?_
    refine Go.iloadN (pc' := 33) d1_32 rfl rfl ?_
    refine Go.iconst (pc' := 34) (v := (3 : Int32)) d1_33 rfl rfl ?_
    refine Go.icmpYes (pc' := 41) d1_34 (XT.ii_ne_t (by decide)) (by decide) (by decide) ?_
    refine Go.iloadN (pc' := 42) d1_41 rfl rfl ?_
    refine Go.iconst (pc' := 43) (v := (4 : Int32)) d1_42 rfl rfl ?_
    refine Go.icmpNo (pc' := 46) d1_43 (XT.ii_ne_f (by decide)) rfl ?_
    refine Go.old (fun old5 => ?_)
    refine Go.getstatic (pc' := 49) (host := "") (Or.inl (hw _ (List.mem_of_getElem? (i := 98) rfl))) Via.refl (se3.ext old5.2) d1_46 rfl ?_
    exact Go.retR rfl rfl rfl rfl d1_49 ⟨(.ref u3), rfl, rfl, rfl⟩ (by decide) (by decide)
  ·
    rw [hk1]
    refine Go.iloadN (pc' := 9) d1_8 rfl rfl ?_
    refine Go.ifYes (pc' := 14) d1_9 (XT.i0_ne_t (by decide)) (by decide) (by decide) ?_
    refine Go.iloadN (pc' := 15) d1_14 rfl rfl ?_
    refine Go.iconst (pc' := 16) (v := (1 : Int32)) d1_15 rfl rfl ?_
    refine Go.icmpYes (pc' := 23) d1_16 (XT.ii_ne_t (by decide)) (by decide) (by decide) ?_
    refine Go.iloadN (pc' := 24) d1_23 rfl rfl ?_
    refine Go.iconst (pc' := 25) (v := (2 : Int32)) d1_24 rfl rfl ?_
    refine Go.icmpYes (pc' := 32) d1_25 (XT.ii_ne_t (by decide)) (by decide) (by decide) ?_
    refine Go.iloadN (pc' := 33) d1_32 rfl rfl ?_
    refine Go.iconst (pc' := 34) (v := (3 : Int32)) d1_33 rfl rfl ?_
    refine Go.icmpYes (pc' := 41) d1_34 (XT.ii_ne_t (by decide)) (by decide) (by decide) ?_
    refine Go.iloadN (pc' := 42) d1_41 rfl rfl ?_
    refine Go.iconst (pc' := 43) (v := (4 : Int32)) d1_42 rfl rfl ?_
    refine Go.icmpYes (pc' := 50) d1_43 (XT.ii_ne_t (by decide)) (by decide) (by decide) ?_
    refine Go.iloadN (pc' := 51) d1_50 rfl rfl ?_
    refine Go.iconst (pc' := 52) (v := (5 : Int32)) d1_51 rfl rfl ?_
    refine Go.icmpNo (pc' := 55) d1_52 (XT.ii_ne_f (by decide)) rfl ?_
    refine Go.old (fun old6 => ?_)
    refine Go.getstatic (pc' := 58) (host := "") (Or.inl (hw _ (List.mem_of_getElem? (i := 90) rfl))) Via.refl (se4.ext old6.2) d1_55 rfl ?_
    exact Go.retR rfl rfl rfl rfl d1_58 ⟨(.ref u4), rfl, rfl, rfl⟩ (by decide) (by decide)
  ·
    rw [hk1]
    refine Go.iloadN (pc' := 9) d1_8 rfl rfl ?_
    refine Go.ifYes (pc' := 14) d1_9 (XT.i0_ne_t (by decide)) (by decide) (by decide) ?_
    refine Go.iloadN (pc' := 15) d1_14 rfl rfl ?_
    refine Go.iconst (pc' := 16) (v := (1 : Int32)) d1_15 rfl rfl ?_
    refine Go.icmpYes (pc' := 23) d1_16 (XT.ii_ne_t (by decide)) (by decide) (by decide) ?_
    refine Go.iloadN (pc' := 24) d1_23 rfl rfl ?_
    refine Go.iconst (pc' := 25) (v := (2 : Int32)) d1_24 rfl rfl ?_
    refine Go.icmpYes (pc' := 32) d1_25 (XT.ii_ne_t (by decide)) (by decide) (by decide) ?_
    refine Go.iloadN (pc' := 33) d1_32 rfl rfl ?_
    refine Go.iconst (pc' := 34) (v := (3 : Int32)) d1_33 rfl rfl ?_
    refine Go.icmpYes (pc' := 41) d1_34 (XT.ii_ne_t (by decide)) (by decide) (by decide) ?_
    refine Go.iloadN (pc' := 42) d1_41 rfl rfl ?_
    refine Go.iconst (pc' := 43) (v := (4 : Int32)) d1_42 rfl rfl ?_
    refine Go.icmpYes (pc' := 50) d1_43 (XT.ii_ne_t (by decide)) (by decide) (by decide) ?_
    refine Go.iloadN (pc' := 51) d1_50 rfl rfl ?_
    refine Go.iconst (pc' := 52) (v := (5 : Int32)) d1_51 rfl rfl ?_
    refine Go.icmpYes (pc' := 59) d1_52 (XT.ii_ne_t (by decide)) (by decide) (by decide) ?_
    refine Go.iloadN (pc' := 60) d1_59 rfl rfl ?_
    refine Go.bipush (pc' := 62) (v := (6 : Int32)) d1_60 rfl rfl ?_
    refine Go.icmpNo (pc' := 65) d1_62 (XT.ii_ne_f (by decide)) rfl ?_
    refine Go.old (fun old7 => ?_)
    refine Go.getstatic (pc' := 68) (host := "") (Or.inl (hw _ (List.mem_of_getElem? (i := 78) rfl))) Via.refl (se5.ext old7.2) d1_65 rfl ?_
    exact Go.retR rfl rfl rfl rfl d1_68 ⟨(.ref u5), rfl, rfl, rfl⟩ (by decide) (by decide)
  ·
    rw [hk1]
    refine Go.iloadN (pc' := 9) d1_8 rfl rfl ?_
    refine Go.ifYes (pc' := 14) d1_9 (XT.i0_ne_t (by decide)) (by decide) (by decide) ?_
    refine Go.iloadN (pc' := 15) d1_14 rfl rfl ?_
    refine Go.iconst (pc' := 16) (v := (1 : Int32)) d1_15 rfl rfl ?_
    refine Go.icmpYes (pc' := 23) d1_16 (XT.ii_ne_t (by decide)) (by decide) (by decide) ?_
    refine Go.iloadN (pc' := 24) d1_23 rfl rfl ?_
    refine Go.iconst (pc' := 25) (v := (2 : Int32)) d1_24 rfl rfl ?_
    refine Go.icmpYes (pc' := 32) d1_25 (XT.ii_ne_t (by decide)) (by decide) (by decide) ?_
    refine Go.iloadN (pc' := 33) d1_32 rfl rfl ?_
    refine Go.iconst (pc' := 34) (v := (3 : Int32)) d1_33 rfl rfl ?_
    refine Go.icmpYes (pc' := 41) d1_34 (XT.ii_ne_t (by decide)) (by decide) (by decide) ?_
    refine Go.iloadN (pc' := 42) d1_41 rfl rfl ?_
    refine Go.iconst (pc' := 43) (v := (4 : Int32)) d1_42 rfl rfl ?_
    refine Go.icmpYes (pc' := 50) d1_43 (XT.ii_ne_t (by decide)) (by decide) (by decide) ?_
    refine Go.iloadN (pc' := 51) d1_50 rfl rfl ?_
    refine Go.iconst (pc' := 52) (v := (5 : Int32)) d1_51 rfl rfl ?_
    refine Go.icmpYes (pc' := 59) d1_52 (XT.ii_ne_t (by decide)) (by decide) (by decide) ?_
    refine Go.iloadN (pc' := 60) d1_59 rfl rfl ?_
    refine Go.bipush (pc' := 62) (v := (6 : Int32)) d1_60 rfl rfl ?_
    refine Go.icmpYes (pc' := 69) d1_62 (XT.ii_ne_t (by decide)) (by decide) (by decide) ?_
    refine Go.iloadN (pc' := 70) d1_69 rfl rfl ?_
    refine Go.bipush (pc' := 72) (v := (7 : Int32)) d1_70 rfl rfl ?_
    refine Go.icmpNo (pc' := 75) d1_72 (XT.ii_ne_f (by decide)) rfl ?_
    refine Go.old (fun old8 => ?_)
    refine Go.getstatic (pc' := 78) (host := "") (Or.inl (hw _ (List.mem_of_getElem? (i := 82) rfl))) Via.refl (se6.ext old8.2) d1_75 rfl ?_
    exact Go.retR rfl rfl rfl rfl d1_78 ⟨(.ref u6), rfl, rfl, rfl⟩ (by decide) (by decide)
  ·
    rw [hk1]
    refine Go.iloadN (pc' := 9) d1_8 rfl rfl ?_
    refine Go.ifYes (pc' := 14) d1_9 (XT.i0_ne_t (by decide)) (by decide) (by decide) ?_
    refine Go.iloadN (pc' := 15) d1_14 rfl rfl ?_
    refine Go.iconst (pc' := 16) (v := (1 : Int32)) d1_15 rfl rfl ?_
    refine Go.icmpYes (pc' := 23) d1_16 (XT.ii_ne_t (by decide)) (by decide) (by decide) ?_
    refine Go.iloadN (pc' := 24) d1_23 rfl rfl ?_
    refine Go.iconst (pc' := 25) (v := (2 : Int32)) d1_24 rfl rfl ?_
    refine Go.icmpYes (pc' := 32) d1_25 (XT.ii_ne_t (by decide)) (by decide) (by decide) ?_
    refine Go.iloadN (pc' := 33) d1_32 rfl rfl ?_
    refine Go.iconst (pc' := 34) (v := (3 : Int32)) d1_33 rfl rfl ?_
    refine Go.icmpYes (pc' := 41) d1_34 (XT.ii_ne_t (by decide)) (by decide) (by decide) ?_
    refine Go.iloadN (pc' := 42) d1_41 rfl rfl ?_
    refine Go.iconst (pc' := 43) (v := (4 : Int32)) d1_42 rfl rfl ?_
    refine Go.icmpYes (pc' := 50) d1_43 (XT.ii_ne_t (by decide)) (by decide) (by decide) ?_
    refine Go.iloadN (pc' := 51) d1_50 rfl rfl ?_
    refine Go.iconst (pc' := 52) (v := (5 : Int32)) d1_51 rfl rfl ?_
    refine Go.icmpYes (pc' := 59) d1_52 (XT.ii_ne_t (by decide)) (by decide) (by decide) ?_
    refine Go.iloadN (pc' := 60) d1_59 rfl rfl ?_
    refine Go.bipush (pc' := 62) (v := (6 : Int32)) d1_60 rfl rfl ?_
    refine Go.icmpYes (pc' := 69) d1_62 (XT.ii_ne_t (by decide)) (by decide) (by decide) ?_
    refine Go.iloadN (pc' := 70) d1_69 rfl rfl ?_
    refine Go.bipush (pc' := 72) (v := (7 : Int32)) d1_70 rfl rfl ?_
    refine Go.icmpYes (pc' := 79) d1_72 (XT.ii_ne_t (by decide)) (by decide) (by decide) ?_
    refine Go.old (fun old9 => ?_)
    refine Go.getstatic (pc' := 82) (host := "") (Or.inl (hw _ (List.mem_of_getElem? (i := 47) rfl))) Via.refl (se7.ext old9.2) d1_79 rfl ?_
    exact Go.retR rfl rfl rfl rfl d1_82 ⟨(.ref u7), rfl, rfl, rfl⟩ (by decide) (by decide)
theorem d4_0 : decode jdk_30_method_1_code 0 = .ok (.aload_n 0, 1) := by decide +kernel
theorem d4_1 : decode jdk_30_method_1_code 1 = .ok (.invokespecial 1, 3) := by decide +kernel
theorem d4_4 : decode jdk_30_method_1_code 4 = .ok (.return_, 1) := by decide +kernel
theorem pn_1 : plainName "java/lang/Record" = true := by first | (simp [plainName, overriddenIn]; done) | decide +kernel
set_option maxRecDepth 65536 in
set_option maxHeartbeats 4000000 in
theorem c_record (l : Launch) (Z : State) (a0 : Array Value) (hw : ∀ d ∈ tables_1, d.before a0 Z = true) {n0 : Nat} (h : Heap) (a : Addr) :
    Con l (⟨"java/lang/Record", "<init>", "()V"⟩ : MethodName) jdk_30_method_1_code 1 none ({ frames := 1, cells := 0, slots := 0, locals := 12 } : Room) Z n0 #[(.ref a)] h (fun v h' => v = none ∧ h = h') := by
  refine Con.of_go (plainFor_of_name pn_1) (Ls := #[.val (.ref a)]) (fun m => by first | (simp [entryFrame, mkF, argsToLocals, Value.category]; done) | rfl) ?_
  refine Go.aloadN (pc' := 1) d4_0 rfl rfl rfl ?_
  refine Go.initO (pc' := 4) (hw _ (List.mem_of_getElem? (i := 22) rfl)) (hw _ (List.mem_of_getElem? (i := 23) rfl)) (hw _ (List.mem_of_getElem? (i := 24) rfl)) d4_1 rfl (Nat.le_of_ble_eq_true rfl) (Nat.le_of_ble_eq_true rfl) rfl ?_
  exact Go.retV rfl d4_4 ⟨rfl, rfl⟩ (by decide) (by decide)
theorem d3_0 : decode prog_42_method_1_code 0 = .ok (.aload_n 0, 1) := by decide +kernel
theorem d3_1 : decode prog_42_method_1_code 1 = .ok (.invokespecial 1, 3) := by decide +kernel
theorem d3_4 : decode prog_42_method_1_code 4 = .ok (.aload_n 0, 1) := by decide +kernel
theorem d3_5 : decode prog_42_method_1_code 5 = .ok (.aload_n 1, 1) := by decide +kernel
theorem d3_6 : decode prog_42_method_1_code 6 = .ok (.putfield 7, 3) := by decide +kernel
theorem d3_9 : decode prog_42_method_1_code 9 = .ok (.aload_n 0, 1) := by decide +kernel
theorem d3_10 : decode prog_42_method_1_code 10 = .ok (.aload_n 2, 1) := by decide +kernel
theorem d3_11 : decode prog_42_method_1_code 11 = .ok (.putfield 13, 3) := by decide +kernel
theorem d3_14 : decode prog_42_method_1_code 14 = .ok (.aload_n 0, 1) := by decide +kernel
theorem d3_15 : decode prog_42_method_1_code 15 = .ok (.aload_n 3, 1) := by decide +kernel
theorem d3_16 : decode prog_42_method_1_code 16 = .ok (.putfield 17, 3) := by decide +kernel
theorem d3_19 : decode prog_42_method_1_code 19 = .ok (.aload_n 0, 1) := by decide +kernel
theorem d3_20 : decode prog_42_method_1_code 20 = .ok (.iload 4, 2) := by decide +kernel
theorem d3_22 : decode prog_42_method_1_code 22 = .ok (.putfield 21, 3) := by decide +kernel
theorem d3_25 : decode prog_42_method_1_code 25 = .ok (.aload_n 0, 1) := by decide +kernel
theorem d3_26 : decode prog_42_method_1_code 26 = .ok (.iload 5, 2) := by decide +kernel
theorem d3_28 : decode prog_42_method_1_code 28 = .ok (.putfield 25, 3) := by decide +kernel
theorem d3_31 : decode prog_42_method_1_code 31 = .ok (.aload_n 0, 1) := by decide +kernel
theorem d3_32 : decode prog_42_method_1_code 32 = .ok (.aload 6, 2) := by decide +kernel
theorem d3_34 : decode prog_42_method_1_code 34 = .ok (.putfield 28, 3) := by decide +kernel
theorem d3_37 : decode prog_42_method_1_code 37 = .ok (.return_, 1) := by decide +kernel
theorem pd_0 : parseMethodDescriptor "()V" = some ⟨[], none⟩ := by decide +kernel
theorem pn_2 : plainName "com/example/episodic/episodic/StatementResult" = true := by first | (simp [plainName, overriddenIn]; done) | decide +kernel
set_option maxRecDepth 65536 in
set_option maxHeartbeats 4000000 in
theorem c_init (l : Launch) (Z : State) (a0 : Array Value) (hw : ∀ d ∈ tables_1, d.before a0 Z = true) {n0 : Nat} (h : Heap) (a : Addr) (kd : Value) (ec : Value) (ms : Value) (p : Int32) (q : Int32) (hk : kd.isRef = true) (he : ec.isRef = true) (hm : ms.isRef = true) (ge_a : n0 ≤ a) (e0 : Exa Z h a "com/example/episodic/episodic/StatementResult") (f_kind : Fld Z h a "com/example/episodic/episodic/StatementResult" "kind" "Lcom/example/episodic/episodic/Statement$Kind;" .null) (f_errorClass : Fld Z h a "com/example/episodic/episodic/StatementResult" "errorClass" "Lcom/example/episodic/episodic/ErrorClass;" .null) (f_message : Fld Z h a "com/example/episodic/episodic/StatementResult" "message" "Ljava/lang/String;" .null) (f_withdrawn : Fld Z h a "com/example/episodic/episodic/StatementResult" "withdrawn" "I" (.int (0 : Int32))) (f_created : Fld Z h a "com/example/episodic/episodic/StatementResult" "created" "I" (.int (0 : Int32))) (f_rows : Fld Z h a "com/example/episodic/episodic/StatementResult" "rows" "Lcom/example/episodic/episodic/Rows;" .null) :
    Con l (⟨"com/example/episodic/episodic/StatementResult", "<init>", "(Lcom/example/episodic/episodic/Statement$Kind;Lcom/example/episodic/episodic/ErrorClass;Ljava/lang/String;IILcom/example/episodic/episodic/Rows;)V"⟩ : MethodName) prog_42_method_1_code 7 none ({ frames := 2, cells := 0, slots := 0, locals := 24 } : Room) Z n0 #[(.ref a), kd, ec, ms, (.int p), (.int q), .null] h (fun v h' => v = none ∧ Keep h h' [a] ∧ Fld Z h' a "com/example/episodic/episodic/StatementResult" "kind" "Lcom/example/episodic/episodic/Statement$Kind;" kd ∧ Fld Z h' a "com/example/episodic/episodic/StatementResult" "errorClass" "Lcom/example/episodic/episodic/ErrorClass;" ec ∧ Fld Z h' a "com/example/episodic/episodic/StatementResult" "message" "Ljava/lang/String;" ms ∧ Fld Z h' a "com/example/episodic/episodic/StatementResult" "withdrawn" "I" (.int p) ∧ Fld Z h' a "com/example/episodic/episodic/StatementResult" "created" "I" (.int q) ∧ Fld Z h' a "com/example/episodic/episodic/StatementResult" "rows" "Lcom/example/episodic/episodic/Rows;" .null) := by
  refine Con.of_go (plainFor_of_name pn_2) (Ls := #[.val (.ref a), .val kd, .val ec, .val ms, .val (.int p), .val (.int q), .val .null]) (fun m => by rcases XT.refc hk with rfl | ⟨_, rfl⟩ <;> rcases XT.refc he with rfl | ⟨_, rfl⟩ <;> rcases XT.refc hm with rfl | ⟨_, rfl⟩ <;> rfl) ?_
  refine Go.aloadN (pc' := 1) d3_0 rfl rfl rfl ?_
  refine Go.callC (cells' := 0) (slots' := 0) (pc' := 4) [] [] (a := a) rfl rfl (hw _ (List.mem_of_getElem? (i := 17) rfl)) (hw _ (List.mem_of_getElem? (i := 18) rfl)) (hw _ (List.mem_of_getElem? (i := 20) rfl)) (hw _ (List.mem_of_getElem? (i := 21) rfl)) (by decide) (c_record l Z a0 hw h a) pd_0 rfl rfl rfl rfl rfl (Nat.le_of_ble_eq_true rfl) (Nat.le_of_ble_eq_true rfl) (Nat.le_of_ble_eq_true rfl) (Nat.le_of_ble_eq_true rfl) d3_1 rfl ?_
  rintro _ _ ⟨rfl, rfl⟩
  show Go _ _ _ _ _ _ _ _ _ _ _ _ 4 #[.val (.ref a), .val kd, .val ec, .val ms, .val (.int p), .val (.int q), .val .null] []
  refine Go.aloadN (pc' := 5) d3_4 rfl rfl rfl ?_
  refine Go.aloadN (pc' := 6) d3_5 rfl hk rfl ?_
  refine Go.putfield (pc' := 9) (host := "") (Or.inl (hw _ (List.mem_of_getElem? (i := 25) rfl))) Via.refl f_kind e0 (Or.inr ⟨(hw _ (List.mem_of_getElem? (i := 26) rfl)), rfl, rfl⟩) (hw _ (List.mem_of_getElem? (i := 12) rfl)) (ty := (.object "com/example/episodic/episodic/Statement$Kind")) (by decide) (own_nar _ hk) (own_fits rfl hk) ge_a d3_6 rfl ?_
  intro h2 W3
  have K4 : Keep h h2 [a] := (Keep.refl h [a]).wr W3 (Or.inl (List.mem_of_getElem? (i := 0) rfl))
  have f5 := f_kind.same W3
  refine Go.aloadN (pc' := 10) d3_9 rfl rfl rfl ?_
  refine Go.aloadN (pc' := 11) d3_10 rfl he rfl ?_
  have f6 : Fld Z h2 a "com/example/episodic/episodic/StatementResult" "errorClass" "Lcom/example/episodic/episodic/ErrorClass;" .null := (f_errorClass.other W3 (Or.inr (slot_ne (Or.inr (hw _ (List.mem_of_getElem? (i := 28) rfl))) (Or.inr (hw _ (List.mem_of_getElem? (i := 26) rfl))) (by decide) (t := (.object "com/example/episodic/episodic/ErrorClass")) (t' := (.object "com/example/episodic/episodic/Statement$Kind")) (by decide) (by decide))))
  refine Go.putfield (pc' := 14) (host := "") (Or.inl (hw _ (List.mem_of_getElem? (i := 27) rfl))) Via.refl f6 (e0.wr W3) (Or.inr ⟨(hw _ (List.mem_of_getElem? (i := 28) rfl)), rfl, rfl⟩) (hw _ (List.mem_of_getElem? (i := 12) rfl)) (ty := (.object "com/example/episodic/episodic/ErrorClass")) (by decide) (own_nar _ he) (own_fits rfl he) ge_a d3_11 rfl ?_
  intro h7 W8
  have K9 : Keep h h7 [a] := K4.wr W8 (Or.inl (List.mem_of_getElem? (i := 0) rfl))
  have f10 := f6.same W8
  refine Go.aloadN (pc' := 15) d3_14 rfl rfl rfl ?_
  refine Go.aloadN (pc' := 16) d3_15 rfl hm rfl ?_
  have f11 : Fld Z h7 a "com/example/episodic/episodic/StatementResult" "message" "Ljava/lang/String;" .null := ((f_message.other W3 (Or.inr (slot_ne (Or.inr (hw _ (List.mem_of_getElem? (i := 30) rfl))) (Or.inr (hw _ (List.mem_of_getElem? (i := 26) rfl))) (by decide) (t := (.object "java/lang/String")) (t' := (.object "com/example/episodic/episodic/Statement$Kind")) (by decide) (by decide)))).other W8 (Or.inr (slot_ne (Or.inr (hw _ (List.mem_of_getElem? (i := 30) rfl))) (Or.inr (hw _ (List.mem_of_getElem? (i := 28) rfl))) (by decide) (t := (.object "java/lang/String")) (t' := (.object "com/example/episodic/episodic/ErrorClass")) (by decide) (by decide))))
  refine Go.putfield (pc' := 19) (host := "") (Or.inl (hw _ (List.mem_of_getElem? (i := 29) rfl))) Via.refl f11 ((e0.wr W3).wr W8) (Or.inr ⟨(hw _ (List.mem_of_getElem? (i := 30) rfl)), rfl, rfl⟩) (hw _ (List.mem_of_getElem? (i := 12) rfl)) (ty := (.object "java/lang/String")) (by decide) (own_nar _ hm) (own_fits rfl hm) ge_a d3_16 rfl ?_
  intro h12 W13
  have K14 : Keep h h12 [a] := K9.wr W13 (Or.inl (List.mem_of_getElem? (i := 0) rfl))
  have f15 := f11.same W13
  refine Go.aloadN (pc' := 20) d3_19 rfl rfl rfl ?_
  refine Go.iload (pc' := 22) d3_20 rfl rfl ?_
  have f16 : Fld Z h12 a "com/example/episodic/episodic/StatementResult" "withdrawn" "I" (.int (0 : Int32)) := (((f_withdrawn.other W3 (Or.inr (slot_ne (Or.inr (hw _ (List.mem_of_getElem? (i := 32) rfl))) (Or.inr (hw _ (List.mem_of_getElem? (i := 26) rfl))) (by decide) (t := .int) (t' := (.object "com/example/episodic/episodic/Statement$Kind")) (by decide) (by decide)))).other W8 (Or.inr (slot_ne (Or.inr (hw _ (List.mem_of_getElem? (i := 32) rfl))) (Or.inr (hw _ (List.mem_of_getElem? (i := 28) rfl))) (by decide) (t := .int) (t' := (.object "com/example/episodic/episodic/ErrorClass")) (by decide) (by decide)))).other W13 (Or.inr (slot_ne (Or.inr (hw _ (List.mem_of_getElem? (i := 32) rfl))) (Or.inr (hw _ (List.mem_of_getElem? (i := 30) rfl))) (by decide) (t := .int) (t' := (.object "java/lang/String")) (by decide) (by decide))))
  refine Go.putfield (pc' := 25) (host := "") (Or.inl (hw _ (List.mem_of_getElem? (i := 31) rfl))) Via.refl f16 (((e0.wr W3).wr W8).wr W13) (Or.inr ⟨(hw _ (List.mem_of_getElem? (i := 32) rfl)), rfl, rfl⟩) (hw _ (List.mem_of_getElem? (i := 12) rfl)) (ty := .int) (by decide) rfl rfl ge_a d3_22 rfl ?_
  intro h17 W18
  have K19 : Keep h h17 [a] := K14.wr W18 (Or.inl (List.mem_of_getElem? (i := 0) rfl))
  have f20 := f16.same W18
  refine Go.aloadN (pc' := 26) d3_25 rfl rfl rfl ?_
  refine Go.iload (pc' := 28) d3_26 rfl rfl ?_
  have f21 : Fld Z h17 a "com/example/episodic/episodic/StatementResult" "created" "I" (.int (0 : Int32)) := ((((f_created.other W3 (Or.inr (slot_ne (Or.inr (hw _ (List.mem_of_getElem? (i := 34) rfl))) (Or.inr (hw _ (List.mem_of_getElem? (i := 26) rfl))) (by decide) (t := .int) (t' := (.object "com/example/episodic/episodic/Statement$Kind")) (by decide) (by decide)))).other W8 (Or.inr (slot_ne (Or.inr (hw _ (List.mem_of_getElem? (i := 34) rfl))) (Or.inr (hw _ (List.mem_of_getElem? (i := 28) rfl))) (by decide) (t := .int) (t' := (.object "com/example/episodic/episodic/ErrorClass")) (by decide) (by decide)))).other W13 (Or.inr (slot_ne (Or.inr (hw _ (List.mem_of_getElem? (i := 34) rfl))) (Or.inr (hw _ (List.mem_of_getElem? (i := 30) rfl))) (by decide) (t := .int) (t' := (.object "java/lang/String")) (by decide) (by decide)))).other W18 (Or.inr (slot_ne (Or.inr (hw _ (List.mem_of_getElem? (i := 34) rfl))) (Or.inr (hw _ (List.mem_of_getElem? (i := 32) rfl))) (by decide) (t := .int) (t' := .int) (by decide) (by decide))))
  refine Go.putfield (pc' := 31) (host := "") (Or.inl (hw _ (List.mem_of_getElem? (i := 33) rfl))) Via.refl f21 ((((e0.wr W3).wr W8).wr W13).wr W18) (Or.inr ⟨(hw _ (List.mem_of_getElem? (i := 34) rfl)), rfl, rfl⟩) (hw _ (List.mem_of_getElem? (i := 12) rfl)) (ty := .int) (by decide) rfl rfl ge_a d3_28 rfl ?_
  intro h22 W23
  have K24 : Keep h h22 [a] := K19.wr W23 (Or.inl (List.mem_of_getElem? (i := 0) rfl))
  have f25 := f21.same W23
  refine Go.aloadN (pc' := 32) d3_31 rfl rfl rfl ?_
  refine Go.aload (pc' := 34) d3_32 rfl rfl rfl ?_
  have f26 : Fld Z h22 a "com/example/episodic/episodic/StatementResult" "rows" "Lcom/example/episodic/episodic/Rows;" .null := (((((f_rows.other W3 (Or.inr (slot_ne (Or.inr (hw _ (List.mem_of_getElem? (i := 36) rfl))) (Or.inr (hw _ (List.mem_of_getElem? (i := 26) rfl))) (by decide) (t := (.object "com/example/episodic/episodic/Rows")) (t' := (.object "com/example/episodic/episodic/Statement$Kind")) (by decide) (by decide)))).other W8 (Or.inr (slot_ne (Or.inr (hw _ (List.mem_of_getElem? (i := 36) rfl))) (Or.inr (hw _ (List.mem_of_getElem? (i := 28) rfl))) (by decide) (t := (.object "com/example/episodic/episodic/Rows")) (t' := (.object "com/example/episodic/episodic/ErrorClass")) (by decide) (by decide)))).other W13 (Or.inr (slot_ne (Or.inr (hw _ (List.mem_of_getElem? (i := 36) rfl))) (Or.inr (hw _ (List.mem_of_getElem? (i := 30) rfl))) (by decide) (t := (.object "com/example/episodic/episodic/Rows")) (t' := (.object "java/lang/String")) (by decide) (by decide)))).other W18 (Or.inr (slot_ne (Or.inr (hw _ (List.mem_of_getElem? (i := 36) rfl))) (Or.inr (hw _ (List.mem_of_getElem? (i := 32) rfl))) (by decide) (t := (.object "com/example/episodic/episodic/Rows")) (t' := .int) (by decide) (by decide)))).other W23 (Or.inr (slot_ne (Or.inr (hw _ (List.mem_of_getElem? (i := 36) rfl))) (Or.inr (hw _ (List.mem_of_getElem? (i := 34) rfl))) (by decide) (t := (.object "com/example/episodic/episodic/Rows")) (t' := .int) (by decide) (by decide))))
  have f27 : Exa Z h22 a "com/example/episodic/episodic/StatementResult" := (((((e0.wr W3).wr W8).wr W13).wr W18).wr W23)
  refine Go.putfield (pc' := 37) (host := "") (Or.inl (hw _ (List.mem_of_getElem? (i := 35) rfl))) Via.refl f26 f27 (Or.inr ⟨(hw _ (List.mem_of_getElem? (i := 36) rfl)), rfl, rfl⟩) (hw _ (List.mem_of_getElem? (i := 12) rfl)) (ty := (.object "com/example/episodic/episodic/Rows")) (by decide) rfl rfl ge_a d3_34 rfl ?_
  intro h28 W29
  have K30 : Keep h h28 [a] := K24.wr W29 (Or.inl (List.mem_of_getElem? (i := 0) rfl))
  have f31 := f26.same W29
  have f32 : Fld Z h28 a "com/example/episodic/episodic/StatementResult" "kind" "Lcom/example/episodic/episodic/Statement$Kind;" kd := (((((f5.other W8 (Or.inr (slot_ne (Or.inr (hw _ (List.mem_of_getElem? (i := 26) rfl))) (Or.inr (hw _ (List.mem_of_getElem? (i := 28) rfl))) (by decide) (t := (.object "com/example/episodic/episodic/Statement$Kind")) (t' := (.object "com/example/episodic/episodic/ErrorClass")) (by decide) (by decide)))).other W13 (Or.inr (slot_ne (Or.inr (hw _ (List.mem_of_getElem? (i := 26) rfl))) (Or.inr (hw _ (List.mem_of_getElem? (i := 30) rfl))) (by decide) (t := (.object "com/example/episodic/episodic/Statement$Kind")) (t' := (.object "java/lang/String")) (by decide) (by decide)))).other W18 (Or.inr (slot_ne (Or.inr (hw _ (List.mem_of_getElem? (i := 26) rfl))) (Or.inr (hw _ (List.mem_of_getElem? (i := 32) rfl))) (by decide) (t := (.object "com/example/episodic/episodic/Statement$Kind")) (t' := .int) (by decide) (by decide)))).other W23 (Or.inr (slot_ne (Or.inr (hw _ (List.mem_of_getElem? (i := 26) rfl))) (Or.inr (hw _ (List.mem_of_getElem? (i := 34) rfl))) (by decide) (t := (.object "com/example/episodic/episodic/Statement$Kind")) (t' := .int) (by decide) (by decide)))).other W29 (Or.inr (slot_ne (Or.inr (hw _ (List.mem_of_getElem? (i := 26) rfl))) (Or.inr (hw _ (List.mem_of_getElem? (i := 36) rfl))) (by decide) (t := (.object "com/example/episodic/episodic/Statement$Kind")) (t' := (.object "com/example/episodic/episodic/Rows")) (by decide) (by decide))))
  have f33 : Fld Z h28 a "com/example/episodic/episodic/StatementResult" "errorClass" "Lcom/example/episodic/episodic/ErrorClass;" ec := ((((f10.other W13 (Or.inr (slot_ne (Or.inr (hw _ (List.mem_of_getElem? (i := 28) rfl))) (Or.inr (hw _ (List.mem_of_getElem? (i := 30) rfl))) (by decide) (t := (.object "com/example/episodic/episodic/ErrorClass")) (t' := (.object "java/lang/String")) (by decide) (by decide)))).other W18 (Or.inr (slot_ne (Or.inr (hw _ (List.mem_of_getElem? (i := 28) rfl))) (Or.inr (hw _ (List.mem_of_getElem? (i := 32) rfl))) (by decide) (t := (.object "com/example/episodic/episodic/ErrorClass")) (t' := .int) (by decide) (by decide)))).other W23 (Or.inr (slot_ne (Or.inr (hw _ (List.mem_of_getElem? (i := 28) rfl))) (Or.inr (hw _ (List.mem_of_getElem? (i := 34) rfl))) (by decide) (t := (.object "com/example/episodic/episodic/ErrorClass")) (t' := .int) (by decide) (by decide)))).other W29 (Or.inr (slot_ne (Or.inr (hw _ (List.mem_of_getElem? (i := 28) rfl))) (Or.inr (hw _ (List.mem_of_getElem? (i := 36) rfl))) (by decide) (t := (.object "com/example/episodic/episodic/ErrorClass")) (t' := (.object "com/example/episodic/episodic/Rows")) (by decide) (by decide))))
  have f34 : Fld Z h28 a "com/example/episodic/episodic/StatementResult" "message" "Ljava/lang/String;" ms := (((f15.other W18 (Or.inr (slot_ne (Or.inr (hw _ (List.mem_of_getElem? (i := 30) rfl))) (Or.inr (hw _ (List.mem_of_getElem? (i := 32) rfl))) (by decide) (t := (.object "java/lang/String")) (t' := .int) (by decide) (by decide)))).other W23 (Or.inr (slot_ne (Or.inr (hw _ (List.mem_of_getElem? (i := 30) rfl))) (Or.inr (hw _ (List.mem_of_getElem? (i := 34) rfl))) (by decide) (t := (.object "java/lang/String")) (t' := .int) (by decide) (by decide)))).other W29 (Or.inr (slot_ne (Or.inr (hw _ (List.mem_of_getElem? (i := 30) rfl))) (Or.inr (hw _ (List.mem_of_getElem? (i := 36) rfl))) (by decide) (t := (.object "java/lang/String")) (t' := (.object "com/example/episodic/episodic/Rows")) (by decide) (by decide))))
  have f35 : Fld Z h28 a "com/example/episodic/episodic/StatementResult" "withdrawn" "I" (.int p) := ((f20.other W23 (Or.inr (slot_ne (Or.inr (hw _ (List.mem_of_getElem? (i := 32) rfl))) (Or.inr (hw _ (List.mem_of_getElem? (i := 34) rfl))) (by decide) (t := .int) (t' := .int) (by decide) (by decide)))).other W29 (Or.inr (slot_ne (Or.inr (hw _ (List.mem_of_getElem? (i := 32) rfl))) (Or.inr (hw _ (List.mem_of_getElem? (i := 36) rfl))) (by decide) (t := .int) (t' := (.object "com/example/episodic/episodic/Rows")) (by decide) (by decide))))
  have f36 : Fld Z h28 a "com/example/episodic/episodic/StatementResult" "created" "I" (.int q) := (f25.other W29 (Or.inr (slot_ne (Or.inr (hw _ (List.mem_of_getElem? (i := 34) rfl))) (Or.inr (hw _ (List.mem_of_getElem? (i := 36) rfl))) (by decide) (t := .int) (t' := (.object "com/example/episodic/episodic/Rows")) (by decide) (by decide))))
  exact Go.retV rfl d3_37 ⟨rfl, K30, f32, f33, f34, f35, f36, f31⟩ (by decide) (by decide)
theorem d6_0 : decode prog_42_method_6_code 0 = .ok (.aload_n 0, 1) := by decide +kernel
theorem d6_1 : decode prog_42_method_6_code 1 = .ok (.getfield 13, 3) := by decide +kernel
theorem d6_4 : decode prog_42_method_6_code 4 = .ok (.ifnull 7, 3) := by decide +kernel
theorem d6_11 : decode prog_42_method_6_code 11 = .ok (.iconst 0, 1) := by decide +kernel
theorem d6_12 : decode prog_42_method_6_code 12 = .ok (.ireturn, 1) := by decide +kernel
set_option maxRecDepth 65536 in
set_option maxHeartbeats 4000000 in
theorem c_rej0 (l : Launch) (Z : State) (a0 : Array Value) (hw : ∀ d ∈ tables_1, d.before a0 Z = true) {n0 : Nat} (h : Heap) (a : Addr) (ec : Value) (he : ec.isRef = true) (hn : ec = .null) (f : Fld Z h a "com/example/episodic/episodic/StatementResult" "errorClass" "Lcom/example/episodic/episodic/ErrorClass;" ec) :
    Con l (⟨"com/example/episodic/episodic/StatementResult", "isRejected", "()Z"⟩ : MethodName) prog_42_method_6_code 1 (some .boolean) ({ frames := 0, cells := 0, slots := 0, locals := 0 } : Room) Z n0 #[(.ref a)] h (fun v h' => v = some (.int (0 : Int32)) ∧ h = h') := by
  refine Con.of_go (plainFor_of_name pn_2) (Ls := #[.val (.ref a)]) (fun m => by first | (simp [entryFrame, mkF, argsToLocals, Value.category]; done) | rfl) ?_
  refine Go.aloadN (pc' := 1) d6_0 rfl rfl rfl ?_
  refine Go.getfield (pc' := 4) (host := "") (Or.inl (hw _ (List.mem_of_getElem? (i := 27) rfl))) Via.refl f d6_1 rfl ?_
  refine Go.nullYes (pc' := 11) d6_4 hn (by decide) (by decide) ?_
  refine Go.iconst (pc' := 12) (v := (0 : Int32)) d6_11 rfl rfl ?_
  exact Go.retN (t := .boolean) rfl (by simp) d6_12 ⟨rfl, rfl⟩ (by decide) (by decide)
theorem d6_7 : decode prog_42_method_6_code 7 = .ok (.iconst 1, 1) := by decide +kernel
theorem d6_8 : decode prog_42_method_6_code 8 = .ok (.goto 4, 3) := by decide +kernel
set_option maxRecDepth 65536 in
set_option maxHeartbeats 4000000 in
theorem c_rej1 (l : Launch) (Z : State) (a0 : Array Value) (hw : ∀ d ∈ tables_1, d.before a0 Z = true) {n0 : Nat} (h : Heap) (a : Addr) (ec : Value) (he : ec.isRef = true) (hn : ¬ (ec = .null)) (f : Fld Z h a "com/example/episodic/episodic/StatementResult" "errorClass" "Lcom/example/episodic/episodic/ErrorClass;" ec) :
    Con l (⟨"com/example/episodic/episodic/StatementResult", "isRejected", "()Z"⟩ : MethodName) prog_42_method_6_code 1 (some .boolean) ({ frames := 0, cells := 0, slots := 0, locals := 0 } : Room) Z n0 #[(.ref a)] h (fun v h' => v = some (.int (1 : Int32)) ∧ h = h') := by
  refine Con.of_go (plainFor_of_name pn_2) (Ls := #[.val (.ref a)]) (fun m => by first | (simp [entryFrame, mkF, argsToLocals, Value.category]; done) | rfl) ?_
  refine Go.aloadN (pc' := 1) d6_0 rfl rfl rfl ?_
  refine Go.getfield (pc' := 4) (host := "") (Or.inl (hw _ (List.mem_of_getElem? (i := 27) rfl))) Via.refl f d6_1 rfl ?_
  refine Go.nullNo (pc' := 7) d6_4 he hn rfl ?_
  refine Go.iconst (pc' := 8) (v := (1 : Int32)) d6_7 rfl rfl ?_
  refine Go.goto (pc' := 12) d6_8 (by decide) (by decide) ?_
  exact Go.retN (t := .boolean) rfl (by simp) d6_12 ⟨rfl, rfl⟩ (by decide) (by decide)
theorem d10_0 : decode jdk_52_method_21_code 0 = .ok (.iconst 0, 1) := by decide +kernel
theorem d10_1 : decode jdk_52_method_21_code 1 = .ok (.istore 5, 2) := by decide +kernel
theorem d10_3 : decode jdk_52_method_21_code 3 = .ok (.iload 5, 2) := by decide +kernel
theorem d10_5 : decode jdk_52_method_21_code 5 = .ok (.iload 4, 2) := by decide +kernel
theorem d10_7 : decode jdk_52_method_21_code 7 = .ok (.if_icmp .ge 37, 3) := by decide +kernel
theorem d10_10 : decode jdk_52_method_21_code 10 = .ok (.aload_n 0, 1) := by decide +kernel
theorem d10_11 : decode jdk_52_method_21_code 11 = .ok (.iload_n 1, 1) := by decide +kernel
theorem d10_12 : decode jdk_52_method_21_code 12 = .ok (.caload, 1) := by decide +kernel
theorem d10_13 : decode jdk_52_method_21_code 13 = .ok (.istore 6, 2) := by decide +kernel
theorem d10_15 : decode jdk_52_method_21_code 15 = .ok (.iload 6, 2) := by decide +kernel
theorem d10_17 : decode jdk_52_method_21_code 17 = .ok (.sipush 255, 3) := by decide +kernel
theorem d10_20 : decode jdk_52_method_21_code 20 = .ok (.if_icmp .le 6, 3) := by decide +kernel
theorem d10_26 : decode jdk_52_method_21_code 26 = .ok (.aload_n 2, 1) := by decide +kernel
theorem d10_27 : decode jdk_52_method_21_code 27 = .ok (.iload_n 3, 1) := by decide +kernel
theorem d10_28 : decode jdk_52_method_21_code 28 = .ok (.iload 6, 2) := by decide +kernel
theorem d10_30 : decode jdk_52_method_21_code 30 = .ok (.i2b, 1) := by decide +kernel
theorem d10_31 : decode jdk_52_method_21_code 31 = .ok (.bastore, 1) := by decide +kernel
theorem d10_32 : decode jdk_52_method_21_code 32 = .ok (.iinc 1 1, 3) := by decide +kernel
theorem d10_35 : decode jdk_52_method_21_code 35 = .ok (.iinc 3 1, 3) := by decide +kernel
theorem d10_38 : decode jdk_52_method_21_code 38 = .ok (.iinc 5 1, 3) := by decide +kernel
theorem d10_41 : decode jdk_52_method_21_code 41 = .ok (.goto (-38), 3) := by decide +kernel
theorem d10_44 : decode jdk_52_method_21_code 44 = .ok (.iload 4, 2) := by decide +kernel
theorem d10_46 : decode jdk_52_method_21_code 46 = .ok (.ireturn, 1) := by decide +kernel
theorem pn_3 : plainName "java/lang/StringUTF16" = true := by first | (simp [plainName, overriddenIn]; done) | decide +kernel
set_option maxRecDepth 65536 in
set_option maxHeartbeats 4000000 in
theorem c_strComp2 (l : Launch) (Z : State) (a0 : Array Value) (hw : ∀ d ∈ tables_1, d.before a0 Z = true) {n0 : Nat} (h : Heap) (t : Addr) (kt : ClassId) (b : Addr) (kb : ClassId) (k0 : Int32) (k1 : Int32) (hk0 : ¬ ((255 : Int32) < k0)) (hk1 : ¬ ((255 : Int32) < k1)) (ge_b : n0 ≤ b) (ne_t_b : t ≠ b) (vt : Arv Z h t kt .char (2 : Int32) [(.int k0), (.int k1)] (.int 0)) (vb : Arv Z h b kb .byte (2 : Int32) [(.int 0), (.int 0)] (.int 0)) :
    Con l (⟨"java/lang/StringUTF16", "compress", "([CI[BII)I"⟩ : MethodName) jdk_52_method_21_code 7 (some .int) ({ frames := 0, cells := 0, slots := 0, locals := 0 } : Room) Z n0 #[(.ref t), (.int (0 : Int32)), (.ref b), (.int (0 : Int32)), (.int (2 : Int32))] h (fun v h' => v = some (.int (2 : Int32)) ∧ Keep h h' [b] ∧ Arv Z h' b kb .byte (2 : Int32) [(.int k0.toInt8.toInt32), (.int k1.toInt8.toInt32)] (.int 0)) := by
  refine Con.of_go (plainFor_of_name pn_3) (Ls := #[.val (.ref t), .val (.int (0 : Int32)), .val (.ref b), .val (.int (0 : Int32)), .val (.int (2 : Int32)), .unset, .unset]) (fun m => by first | (simp [entryFrame, mkF, argsToLocals, Value.category]; done) | rfl) ?_
  refine Go.iconst (pc' := 1) (v := (0 : Int32)) d10_0 rfl rfl ?_
  refine Go.istore (pc' := 3) (Ls' := #[.val (.ref t), .val (.int (0 : Int32)), .val (.ref b), .val (.int (0 : Int32)), .val (.int (2 : Int32)), .val (.int (0 : Int32)), .unset]) d10_1 rfl rfl ?_
  refine Go.iload (pc' := 5) d10_3 rfl rfl ?_
  refine Go.iload (pc' := 7) d10_5 rfl rfl ?_
  refine Go.icmpNo (pc' := 10) d10_7 (XT.ii_ge_f (by decide)) rfl ?_
  refine Go.aloadN (pc' := 11) d10_10 rfl rfl rfl ?_
  refine Go.iloadN (pc' := 12) d10_11 rfl rfl ?_
  refine Go.caload (pc' := 13) (v := k0) vt d10_12 (by decide) (by decide) rfl rfl ?_
  refine Go.istore (pc' := 15) (Ls' := #[.val (.ref t), .val (.int (0 : Int32)), .val (.ref b), .val (.int (0 : Int32)), .val (.int (2 : Int32)), .val (.int (0 : Int32)), .val (.int k0)]) d10_13 rfl rfl ?_
  refine Go.iload (pc' := 17) d10_15 rfl rfl ?_
  refine Go.sipush (pc' := 20) (v := (255 : Int32)) d10_17 rfl rfl ?_
  refine Go.icmpYes (pc' := 26) d10_20 (XT.ii_le_t hk0) (by decide) (by decide) ?_
  refine Go.aloadN (pc' := 27) d10_26 rfl rfl rfl ?_
  refine Go.iloadN (pc' := 28) d10_27 rfl rfl ?_
  refine Go.iload (pc' := 30) d10_28 rfl rfl ?_
  refine Go.i2b (pc' := 31) d10_30 rfl ?_
  refine Go.bastore (pc' := 32) vb ge_b d10_31 (by decide) (by decide) (i := 0) rfl (Nat.le_of_ble_eq_true rfl) rfl ?_
  intro h1 W2 V3
  have K4 : Keep h h1 [b] := (Keep.refl h [b]).wr W2 (Or.inl (List.mem_of_getElem? (i := 0) rfl))
  rw [OwnNum.b8] at V3
  replace V3 : Arv Z h1 b kb .byte (2 : Int32) [(.int k0.toInt8.toInt32), (.int 0)] (.int 0) := V3
  refine Go.iinc (pc' := 35) (Ls' := #[.val (.ref t), .val (.int ((0 : Int32) + (1 : Int32))), .val (.ref b), .val (.int (0 : Int32)), .val (.int (2 : Int32)), .val (.int (0 : Int32)), .val (.int k0)]) (w := (1 : Int32)) d10_32 rfl rfl rfl rfl ?_
  show Go _ _ _ _ _ _ _ _ _ _ _ _ 35 #[.val (.ref t), .val (.int (1 : Int32)), .val (.ref b), .val (.int (0 : Int32)), .val (.int (2 : Int32)), .val (.int (0 : Int32)), .val (.int k0)] []
  refine Go.iinc (pc' := 38) (Ls' := #[.val (.ref t), .val (.int (1 : Int32)), .val (.ref b), .val (.int ((0 : Int32) + (1 : Int32))), .val (.int (2 : Int32)), .val (.int (0 : Int32)), .val (.int k0)]) (w := (1 : Int32)) d10_35 rfl rfl rfl rfl ?_
  show Go _ _ _ _ _ _ _ _ _ _ _ _ 38 #[.val (.ref t), .val (.int (1 : Int32)), .val (.ref b), .val (.int (1 : Int32)), .val (.int (2 : Int32)), .val (.int (0 : Int32)), .val (.int k0)] []
  refine Go.iinc (pc' := 41) (Ls' := #[.val (.ref t), .val (.int (1 : Int32)), .val (.ref b), .val (.int (1 : Int32)), .val (.int (2 : Int32)), .val (.int ((0 : Int32) + (1 : Int32))), .val (.int k0)]) (w := (1 : Int32)) d10_38 rfl rfl rfl rfl ?_
  show Go _ _ _ _ _ _ _ _ _ _ _ _ 41 #[.val (.ref t), .val (.int (1 : Int32)), .val (.ref b), .val (.int (1 : Int32)), .val (.int (2 : Int32)), .val (.int (1 : Int32)), .val (.int k0)] []
  refine Go.goto (pc' := 3) d10_41 (by decide) (by decide) ?_
  refine Go.iload (pc' := 5) d10_3 rfl rfl ?_
  refine Go.iload (pc' := 7) d10_5 rfl rfl ?_
  refine Go.icmpNo (pc' := 10) d10_7 (XT.ii_ge_f (by decide)) rfl ?_
  refine Go.aloadN (pc' := 11) d10_10 rfl rfl rfl ?_
  refine Go.iloadN (pc' := 12) d10_11 rfl rfl ?_
  refine Go.caload (pc' := 13) (v := k1) (vt.other W2 ne_t_b) d10_12 (by decide) (by decide) rfl rfl ?_
  refine Go.istore (pc' := 15) (Ls' := #[.val (.ref t), .val (.int (1 : Int32)), .val (.ref b), .val (.int (1 : Int32)), .val (.int (2 : Int32)), .val (.int (1 : Int32)), .val (.int k1)]) d10_13 rfl rfl ?_
  refine Go.iload (pc' := 17) d10_15 rfl rfl ?_
  refine Go.sipush (pc' := 20) (v := (255 : Int32)) d10_17 rfl rfl ?_
  refine Go.icmpYes (pc' := 26) d10_20 (XT.ii_le_t hk1) (by decide) (by decide) ?_
  refine Go.aloadN (pc' := 27) d10_26 rfl rfl rfl ?_
  refine Go.iloadN (pc' := 28) d10_27 rfl rfl ?_
  refine Go.iload (pc' := 30) d10_28 rfl rfl ?_
  refine Go.i2b (pc' := 31) d10_30 rfl ?_
  refine Go.bastore (pc' := 32) V3 ge_b d10_31 (by decide) (by decide) (i := 1) rfl (Nat.le_of_ble_eq_true rfl) rfl ?_
  intro h5 W6 V7
  have K8 : Keep h h5 [b] := K4.wr W6 (Or.inl (List.mem_of_getElem? (i := 0) rfl))
  rw [OwnNum.b8] at V7
  replace V7 : Arv Z h5 b kb .byte (2 : Int32) [(.int k0.toInt8.toInt32), (.int k1.toInt8.toInt32)] (.int 0) := V7
  refine Go.iinc (pc' := 35) (Ls' := #[.val (.ref t), .val (.int ((1 : Int32) + (1 : Int32))), .val (.ref b), .val (.int (1 : Int32)), .val (.int (2 : Int32)), .val (.int (1 : Int32)), .val (.int k1)]) (w := (1 : Int32)) d10_32 rfl rfl rfl rfl ?_
  show Go _ _ _ _ _ _ _ _ _ _ _ _ 35 #[.val (.ref t), .val (.int (2 : Int32)), .val (.ref b), .val (.int (1 : Int32)), .val (.int (2 : Int32)), .val (.int (1 : Int32)), .val (.int k1)] []
  refine Go.iinc (pc' := 38) (Ls' := #[.val (.ref t), .val (.int (2 : Int32)), .val (.ref b), .val (.int ((1 : Int32) + (1 : Int32))), .val (.int (2 : Int32)), .val (.int (1 : Int32)), .val (.int k1)]) (w := (1 : Int32)) d10_35 rfl rfl rfl rfl ?_
  show Go _ _ _ _ _ _ _ _ _ _ _ _ 38 #[.val (.ref t), .val (.int (2 : Int32)), .val (.ref b), .val (.int (2 : Int32)), .val (.int (2 : Int32)), .val (.int (1 : Int32)), .val (.int k1)] []
  refine Go.iinc (pc' := 41) (Ls' := #[.val (.ref t), .val (.int (2 : Int32)), .val (.ref b), .val (.int (2 : Int32)), .val (.int (2 : Int32)), .val (.int ((1 : Int32) + (1 : Int32))), .val (.int k1)]) (w := (1 : Int32)) d10_38 rfl rfl rfl rfl ?_
  show Go _ _ _ _ _ _ _ _ _ _ _ _ 41 #[.val (.ref t), .val (.int (2 : Int32)), .val (.ref b), .val (.int (2 : Int32)), .val (.int (2 : Int32)), .val (.int (2 : Int32)), .val (.int k1)] []
  refine Go.goto (pc' := 3) d10_41 (by decide) (by decide) ?_
  refine Go.iload (pc' := 5) d10_3 rfl rfl ?_
  refine Go.iload (pc' := 7) d10_5 rfl rfl ?_
  refine Go.icmpYes (pc' := 44) d10_7 (XT.ii_ge_t (by decide)) (by decide) (by decide) ?_
  refine Go.iload (pc' := 46) d10_44 rfl rfl ?_
  exact Go.retI rfl d10_46 ⟨rfl, K8, V7⟩ (by decide) (by decide)
theorem d9_0 : decode jdk_52_method_16_code 0 = .ok (.iload_n 2, 1) := by decide +kernel
theorem d9_1 : decode jdk_52_method_16_code 1 = .ok (.newarray .byte, 2) := by decide +kernel
theorem d9_3 : decode jdk_52_method_16_code 3 = .ok (.astore_n 3, 1) := by decide +kernel
theorem d9_4 : decode jdk_52_method_16_code 4 = .ok (.aload_n 0, 1) := by decide +kernel
theorem d9_5 : decode jdk_52_method_16_code 5 = .ok (.iload_n 1, 1) := by decide +kernel
theorem d9_6 : decode jdk_52_method_16_code 6 = .ok (.aload_n 3, 1) := by decide +kernel
theorem d9_7 : decode jdk_52_method_16_code 7 = .ok (.iconst 0, 1) := by decide +kernel
theorem d9_8 : decode jdk_52_method_16_code 8 = .ok (.iload_n 2, 1) := by decide +kernel
theorem d9_9 : decode jdk_52_method_16_code 9 = .ok (.invokestatic 115, 3) := by decide +kernel
theorem d9_12 : decode jdk_52_method_16_code 12 = .ok (.istore 4, 2) := by decide +kernel
theorem d9_14 : decode jdk_52_method_16_code 14 = .ok (.iload 4, 2) := by decide +kernel
theorem d9_16 : decode jdk_52_method_16_code 16 = .ok (.iload_n 2, 1) := by decide +kernel
theorem d9_17 : decode jdk_52_method_16_code 17 = .ok (.if_icmp .eq 40, 3) := by decide +kernel
theorem d9_57 : decode jdk_52_method_16_code 57 = .ok (.aload_n 3, 1) := by decide +kernel
theorem d9_58 : decode jdk_52_method_16_code 58 = .ok (.areturn, 1) := by decide +kernel
theorem pd_1 : parseMethodDescriptor "([CI[BII)I" = some ⟨[(.array .char), .int, (.array .byte), .int, .int], some .int⟩ := by decide +kernel
set_option maxRecDepth 65536 in
set_option maxHeartbeats 4000000 in
theorem c_strComp2_2 (l : Launch) (Z : State) (a0 : Array Value) (hw : ∀ d ∈ tables_1, d.before a0 Z = true) {n0 : Nat} (h : Heap) (t : Addr) (kt : ClassId) (k0 : Int32) (k1 : Int32) (hk0 : ¬ ((255 : Int32) < k0)) (hk1 : ¬ ((255 : Int32) < k1)) (vt : Arv Z h t kt .char (2 : Int32) [(.int k0), (.int k1)] (.int 0)) :
    Con l (⟨"java/lang/StringUTF16", "compress", "([CII)[B"⟩ : MethodName) jdk_52_method_16_code 6 (some (.array .byte)) ({ frames := 1, cells := 1, slots := 2, locals := 18 } : Room) Z n0 #[(.ref t), (.int (0 : Int32)), (.int (2 : Int32))] h (fun v h' => ∃ b : Addr, ∃ kb : ClassId, v = some (.ref b) ∧ Keep h h' [] ∧ n0 ≤ b ∧ h.size ≤ b ∧ Arv Z h' b kb .byte (2 : Int32) [(.int k0.toInt8.toInt32), (.int k1.toInt8.toInt32)] (.int 0)) := by
  refine Con.of_go (plainFor_of_name pn_3) (Ls := #[.val (.ref t), .val (.int (0 : Int32)), .val (.int (2 : Int32)), .unset, .unset, .unset]) (fun m => by first | (simp [entryFrame, mkF, argsToLocals, Value.category]; done) | rfl) ?_
  refine Go.iloadN (pc' := 1) d9_0 rfl rfl ?_
  refine Go.newarray (pc' := 3) (cells' := 1) (slots' := 2) (cap := 2) (hw _ (List.mem_of_getElem? (i := 67) rfl)) d9_1 (ad := "[B") (by decide) (by decide) (by decide) rfl rfl (by decide) (by decide) (by decide) rfl ?_
  intro h1 b1 g1 E1 ge1 kA1 A1 X1
  have sz2 : h.size ≤ b1 := Nat.le_trans (Keep.refl h []).1 (Nat.le_of_eq g1.symm)
  have K3 : Keep h h1 [] := (Keep.refl h []).ext E1
  have V1 : Arv Z h1 b1 kA1 .byte (2 : Int32) [(.int 0), (.int 0)] (.int 0) := Arv.pad A1 (pad_rep [] (.int 0) 2)
  refine Go.astoreN (pc' := 4) (Ls' := #[.val (.ref t), .val (.int (0 : Int32)), .val (.int (2 : Int32)), .val (.ref b1), .unset, .unset]) d9_3 rfl rfl rfl ?_
  refine Go.aloadN (pc' := 5) d9_4 rfl rfl rfl ?_
  refine Go.iloadN (pc' := 6) d9_5 rfl rfl ?_
  refine Go.aloadN (pc' := 7) d9_6 rfl rfl rfl ?_
  refine Go.iconst (pc' := 8) (v := (0 : Int32)) d9_7 rfl rfl ?_
  refine Go.iloadN (pc' := 9) d9_8 rfl rfl ?_
  have ne4 : t ≠ b1 := (Nat.ne_of_lt (Nat.lt_of_lt_of_le vt.lt (Nat.le_of_eq g1.symm)))
  refine Go.callS (cells' := 1) (slots' := 2) (pc' := 12) [(.ref t), (.int (0 : Int32)), (.ref b1), (.int (0 : Int32)), (.int (2 : Int32))] [] (hw _ (List.mem_of_getElem? (i := 68) rfl)) (hw _ (List.mem_of_getElem? (i := 69) rfl)) (hw _ (List.mem_of_getElem? (i := 65) rfl)) (hw _ (List.mem_of_getElem? (i := 70) rfl)) (by decide) (c_strComp2 l Z a0 hw h1 t kt b1 kA1 k0 k1 hk0 hk1 ge1 ne4 (vt.ext E1) V1) pd_1 rfl rfl rfl rfl rfl (Nat.le_of_ble_eq_true rfl) (Nat.le_of_ble_eq_true rfl) (Nat.le_of_ble_eq_true rfl) (Nat.le_of_ble_eq_true rfl) d9_9 rfl ?_
  rintro _ h5 ⟨rfl, K5, F5_0⟩
  have K6 : Keep h h5 [] := K3.trans K5 (allS (Or.inr sz2) all0)
  show Go _ _ _ _ _ _ _ _ _ _ _ _ 12 #[.val (.ref t), .val (.int (0 : Int32)), .val (.int (2 : Int32)), .val (.ref b1), .unset, .unset] [(.int (2 : Int32))]
  refine Go.istore (pc' := 14) (Ls' := #[.val (.ref t), .val (.int (0 : Int32)), .val (.int (2 : Int32)), .val (.ref b1), .val (.int (2 : Int32)), .unset]) d9_12 rfl rfl ?_
  refine Go.iload (pc' := 16) d9_14 rfl rfl ?_
  refine Go.iloadN (pc' := 17) d9_16 rfl rfl ?_
  refine Go.icmpYes (pc' := 57) d9_17 (XT.ii_eq_t (by decide)) (by decide) (by decide) ?_
  refine Go.aloadN (pc' := 58) d9_57 rfl rfl rfl ?_
  exact Go.retR rfl rfl rfl rfl d9_58 ⟨b1, kA1, rfl, K6, ge1, sz2, F5_0⟩ (by decide) (by decide)
theorem d11_0 : decode jdk_52_method_15_code 0 = .ok (.iload_n 1, 1) := by decide +kernel
theorem d11_1 : decode jdk_52_method_15_code 1 = .ok (.aload_n 0, 1) := by decide +kernel
theorem d11_2 : decode jdk_52_method_15_code 2 = .ok (.arraylength, 1) := by decide +kernel
theorem d11_3 : decode jdk_52_method_15_code 3 = .ok (.isub, 1) := by decide +kernel
theorem d11_4 : decode jdk_52_method_15_code 4 = .ok (.bipush 31, 2) := by decide +kernel
theorem d11_6 : decode jdk_52_method_15_code 6 = .ok (.iushr, 1) := by decide +kernel
theorem d11_7 : decode jdk_52_method_15_code 7 = .ok (.i2b, 1) := by decide +kernel
theorem d11_8 : decode jdk_52_method_15_code 8 = .ok (.ireturn, 1) := by decide +kernel
set_option maxRecDepth 65536 in
set_option maxHeartbeats 4000000 in
theorem c_strCoder2 (l : Launch) (Z : State) (a0 : Array Value) (hw : ∀ d ∈ tables_1, d.before a0 Z = true) {n0 : Nat} (h : Heap) (b : Addr) (kb : ClassId) (k0 : Int32) (k1 : Int32) (vb : Arv Z h b kb .byte (2 : Int32) [(.int k0.toInt8.toInt32), (.int k1.toInt8.toInt32)] (.int 0)) :
    Con l (⟨"java/lang/StringUTF16", "coderFromArrayLen", "([BI)B"⟩ : MethodName) jdk_52_method_15_code 2 (some .byte) ({ frames := 0, cells := 0, slots := 0, locals := 0 } : Room) Z n0 #[(.ref b), (.int (2 : Int32))] h (fun v h' => v = some (.int (0 : Int32)) ∧ h = h') := by
  refine Con.of_go (plainFor_of_name pn_3) (Ls := #[.val (.ref b), .val (.int (2 : Int32))]) (fun m => by first | (simp [entryFrame, mkF, argsToLocals, Value.category]; done) | rfl) ?_
  refine Go.iloadN (pc' := 1) d11_0 rfl rfl ?_
  refine Go.aloadN (pc' := 2) d11_1 rfl rfl rfl ?_
  refine Go.arraylength (pc' := 3) vb d11_2 rfl ?_
  refine Go.isub (pc' := 4) d11_3 rfl ?_
  show Go _ _ _ _ _ _ _ _ _ _ _ _ 4 #[.val (.ref b), .val (.int (2 : Int32))] [(.int (0 : Int32))]
  refine Go.bipush (pc' := 6) (v := (31 : Int32)) d11_4 rfl rfl ?_
  refine Go.iushr (pc' := 7) d11_6 rfl ?_
  show Go _ _ _ _ _ _ _ _ _ _ _ _ 7 #[.val (.ref b), .val (.int (2 : Int32))] [(.int (0 : Int32))]
  refine Go.i2b (pc' := 8) d11_7 rfl ?_
  show Go _ _ _ _ _ _ _ _ _ _ _ _ 8 #[.val (.ref b), .val (.int (2 : Int32))] [(.int (0 : Int32))]
  exact Go.retN (t := .byte) rfl (by simp) d11_8 ⟨rfl, rfl⟩ (by decide) (by decide)
theorem d8_0 : decode jdk_42_method_149_code 0 = .ok (.aload_n 0, 1) := by decide +kernel
theorem d8_1 : decode jdk_42_method_149_code 1 = .ok (.invokespecial 1, 3) := by decide +kernel
theorem d8_4 : decode jdk_42_method_149_code 4 = .ok (.iload_n 3, 1) := by decide +kernel
theorem d8_5 : decode jdk_42_method_149_code 5 = .ok (.ifCond .ne 22, 3) := by decide +kernel
theorem d8_27 : decode jdk_42_method_149_code 27 = .ok (.getstatic 38, 3) := by decide +kernel
theorem d8_30 : decode jdk_42_method_149_code 30 = .ok (.ifCond .eq 28, 3) := by decide +kernel
theorem d8_33 : decode jdk_42_method_149_code 33 = .ok (.aload_n 1, 1) := by decide +kernel
theorem d8_34 : decode jdk_42_method_149_code 34 = .ok (.iload_n 2, 1) := by decide +kernel
theorem d8_35 : decode jdk_42_method_149_code 35 = .ok (.iload_n 3, 1) := by decide +kernel
theorem d8_36 : decode jdk_42_method_149_code 36 = .ok (.invokestatic 177, 3) := by decide +kernel
theorem d8_39 : decode jdk_42_method_149_code 39 = .ok (.astore 5, 2) := by decide +kernel
theorem d8_41 : decode jdk_42_method_149_code 41 = .ok (.aload_n 0, 1) := by decide +kernel
theorem d8_42 : decode jdk_42_method_149_code 42 = .ok (.aload 5, 2) := by decide +kernel
theorem d8_44 : decode jdk_42_method_149_code 44 = .ok (.iload_n 3, 1) := by decide +kernel
theorem d8_45 : decode jdk_42_method_149_code 45 = .ok (.invokestatic 47, 3) := by decide +kernel
theorem d8_48 : decode jdk_42_method_149_code 48 = .ok (.putfield 15, 3) := by decide +kernel
theorem d8_51 : decode jdk_42_method_149_code 51 = .ok (.aload_n 0, 1) := by decide +kernel
theorem d8_52 : decode jdk_42_method_149_code 52 = .ok (.aload 5, 2) := by decide +kernel
theorem d8_54 : decode jdk_42_method_149_code 54 = .ok (.putfield 9, 3) := by decide +kernel
theorem d8_57 : decode jdk_42_method_149_code 57 = .ok (.return_, 1) := by decide +kernel
theorem pd_2 : parseMethodDescriptor "([CII)[B" = some ⟨[(.array .char), .int, .int], some (.array .byte)⟩ := by decide +kernel
theorem pd_3 : parseMethodDescriptor "([BI)B" = some ⟨[(.array .byte), .int], some .byte⟩ := by decide +kernel
theorem pn_4 : plainName "java/lang/String" = true := by first | (simp [plainName, overriddenIn]; done) | decide +kernel
set_option maxRecDepth 65536 in
set_option maxHeartbeats 4000000 in
theorem c_strInit4_2 (l : Launch) (Z : State) (a0 : Array Value) (hw : ∀ d ∈ tables_1, d.before a0 Z = true) {n0 : Nat} (h : Heap) (a : Addr) (t : Addr) (kt : ClassId) (k0 : Int32) (k1 : Int32) (cp : Int32) (hk0 : ¬ ((255 : Int32) < k0)) (hk1 : ¬ ((255 : Int32) < k1)) (hcp : ¬ (cp = (0 : Int32))) (scp : Sta Z Z.heap "java/lang/String" "COMPACT_STRINGS" "Z" (.int cp)) (ge_a : n0 ≤ a) (xa : Exa Z h a "java/lang/String") (f0 : Fld Z h a "java/lang/String" "value" "[B" .null) (f1 : Fld Z h a "java/lang/String" "coder" "B" (.int (0 : Int32))) (vt : Arv Z h t kt .char (2 : Int32) [(.int k0), (.int k1)] (.int 0)) :
    Con l (⟨"java/lang/String", "<init>", "([CIILjava/lang/Void;)V"⟩ : MethodName) jdk_42_method_149_code 6 none ({ frames := 2, cells := 1, slots := 2, locals := 35 } : Room) Z n0 #[(.ref a), (.ref t), (.int (0 : Int32)), (.int (2 : Int32)), .null] h (fun v h' => ∃ b : Addr, ∃ kb : ClassId, v = none ∧ Keep h h' [a] ∧ n0 ≤ b ∧ h.size ≤ b ∧ Fld Z h' a "java/lang/String" "value" "[B" (.ref b) ∧ Fld Z h' a "java/lang/String" "coder" "B" (.int (0 : Int32)) ∧ Arv Z h' b kb .byte (2 : Int32) [(.int k0.toInt8.toInt32), (.int k1.toInt8.toInt32)] (.int 0)) := by
  refine Con.of_go (plainFor_of_name pn_4) (Ls := #[.val (.ref a), .val (.ref t), .val (.int (0 : Int32)), .val (.int (2 : Int32)), .val .null, .unset]) (fun m => by first | (simp [entryFrame, mkF, argsToLocals, Value.category]; done) | rfl) ?_
  refine Go.aloadN (pc' := 1) d8_0 rfl rfl rfl ?_
  refine Go.initO (pc' := 4) (hw _ (List.mem_of_getElem? (i := 61) rfl)) (hw _ (List.mem_of_getElem? (i := 23) rfl)) (hw _ (List.mem_of_getElem? (i := 24) rfl)) d8_1 rfl (Nat.le_of_ble_eq_true rfl) (Nat.le_of_ble_eq_true rfl) rfl ?_
  refine Go.iloadN (pc' := 5) d8_4 rfl rfl ?_
  refine Go.ifYes (pc' := 27) d8_5 (XT.i0_ne_t (by decide)) (by decide) (by decide) ?_
  refine Go.old (fun old1 => ?_)
  refine Go.getstatic (pc' := 30) (host := "") (Or.inl (hw _ (List.mem_of_getElem? (i := 62) rfl))) Via.refl (scp.ext old1.2) d8_27 rfl ?_
  refine Go.ifNo (pc' := 33) d8_30 (XT.i0_eq_f hcp) rfl ?_
  refine Go.aloadN (pc' := 34) d8_33 rfl rfl rfl ?_
  refine Go.iloadN (pc' := 35) d8_34 rfl rfl ?_
  refine Go.iloadN (pc' := 36) d8_35 rfl rfl ?_
  refine Go.callS (cells' := 1) (slots' := 2) (pc' := 39) [(.ref t), (.int (0 : Int32)), (.int (2 : Int32))] [] (hw _ (List.mem_of_getElem? (i := 63) rfl)) (hw _ (List.mem_of_getElem? (i := 64) rfl)) (hw _ (List.mem_of_getElem? (i := 65) rfl)) (hw _ (List.mem_of_getElem? (i := 66) rfl)) (by decide) (c_strComp2_2 l Z a0 hw h t kt k0 k1 hk0 hk1 vt) pd_2 rfl rfl rfl rfl rfl (Nat.le_of_ble_eq_true rfl) (Nat.le_of_ble_eq_true rfl) (Nat.le_of_ble_eq_true rfl) (Nat.le_of_ble_eq_true rfl) d8_36 rfl ?_
  rintro _ h2 ⟨b_2, kb_2, rfl, K2, ge_b_2, sz_b_2, F2_0⟩
  have sz3 : h.size ≤ b_2 := Nat.le_trans (Keep.refl h [a]).1 sz_b_2
  have K4 : Keep h h2 [a] := (Keep.refl h [a]).trans K2 all0
  show Go _ _ _ _ _ _ _ _ _ _ _ _ 39 #[.val (.ref a), .val (.ref t), .val (.int (0 : Int32)), .val (.int (2 : Int32)), .val .null, .unset] [(.ref b_2)]
  refine Go.astore (pc' := 41) (Ls' := #[.val (.ref a), .val (.ref t), .val (.int (0 : Int32)), .val (.int (2 : Int32)), .val .null, .val (.ref b_2)]) d8_39 rfl rfl rfl ?_
  refine Go.aloadN (pc' := 42) d8_41 rfl rfl rfl ?_
  refine Go.aload (pc' := 44) d8_42 rfl rfl rfl ?_
  refine Go.iloadN (pc' := 45) d8_44 rfl rfl ?_
  refine Go.callS (cells' := 1) (slots' := 2) (pc' := 48) [(.ref b_2), (.int (2 : Int32))] [(.ref a)] (hw _ (List.mem_of_getElem? (i := 71) rfl)) (hw _ (List.mem_of_getElem? (i := 72) rfl)) (hw _ (List.mem_of_getElem? (i := 65) rfl)) (hw _ (List.mem_of_getElem? (i := 73) rfl)) (by decide) (c_strCoder2 l Z a0 hw h2 b_2 kb_2 k0 k1 F2_0) pd_3 rfl rfl rfl rfl rfl (Nat.le_of_ble_eq_true rfl) (Nat.le_of_ble_eq_true rfl) (Nat.le_of_ble_eq_true rfl) (Nat.le_of_ble_eq_true rfl) d8_45 rfl ?_
  rintro _ _ ⟨rfl, rfl⟩
  show Go _ _ _ _ _ _ _ _ _ _ _ _ 48 #[.val (.ref a), .val (.ref t), .val (.int (0 : Int32)), .val (.int (2 : Int32)), .val .null, .val (.ref b_2)] [(.int (0 : Int32)), (.ref a)]
  refine Go.putfieldN (pc' := 51) (hw _ (List.mem_of_getElem? (i := 74) rfl)) Via.refl (f1.keep K2 nin0) (xa.keep K2) (Or.inr ⟨(hw _ (List.mem_of_getElem? (i := 75) rfl)), rfl, rfl⟩) (hw _ (List.mem_of_getElem? (i := 52) rfl)) (ty := .byte) (v' := (0 : Int32)) (by decide) (by first | rfl | decide) (by first | rfl | decide | exact fits_nar_byte _) ge_a d8_48 rfl ?_
  intro h6 W7
  have K8 : Keep h h6 [a] := K4.wr W7 (Or.inl (List.mem_of_getElem? (i := 0) rfl))
  have f9 := (f1.keep K2 nin0).same W7
  refine Go.aloadN (pc' := 52) d8_51 rfl rfl rfl ?_
  refine Go.aload (pc' := 54) d8_52 rfl rfl rfl ?_
  have f10 : Fld Z h6 a "java/lang/String" "value" "[B" .null := ((f0.keep K2 nin0).other W7 (Or.inr (slot_ne (Or.inr (hw _ (List.mem_of_getElem? (i := 77) rfl))) (Or.inr (hw _ (List.mem_of_getElem? (i := 75) rfl))) (by decide) (t := (.array .byte)) (t' := .byte) (by decide) (by decide))))
  refine Go.putfield (pc' := 57) (host := "") (Or.inl (hw _ (List.mem_of_getElem? (i := 76) rfl))) Via.refl f10 ((xa.keep K2).wr W7) (Or.inr ⟨(hw _ (List.mem_of_getElem? (i := 77) rfl)), rfl, rfl⟩) (hw _ (List.mem_of_getElem? (i := 52) rfl)) (ty := (.array .byte)) (by decide) rfl rfl ge_a d8_54 rfl ?_
  intro h11 W12
  have K13 : Keep h h11 [a] := K8.wr W12 (Or.inl (List.mem_of_getElem? (i := 0) rfl))
  have f14 := f10.same W12
  have f15 : Fld Z h11 a "java/lang/String" "coder" "B" (.int (0 : Int32)) := (f9.other W12 (Or.inr (slot_ne (Or.inr (hw _ (List.mem_of_getElem? (i := 75) rfl))) (Or.inr (hw _ (List.mem_of_getElem? (i := 77) rfl))) (by decide) (t := .byte) (t' := (.array .byte)) (by decide) (by decide))))
  have ne16 : a ≠ b_2 := (Nat.ne_of_lt (Nat.lt_of_lt_of_le f0.lt sz_b_2))
  have f17 : Arv Z h11 b_2 kb_2 .byte (2 : Int32) [(.int k0.toInt8.toInt32), (.int k1.toInt8.toInt32)] (.int 0) := ((F2_0.other W7 (Ne.symm ne16)).other W12 (Ne.symm ne16))
  exact Go.retV rfl d8_57 ⟨b_2, kb_2, rfl, K13, ge_b_2, sz3, f14, f15, f17⟩ (by decide) (by decide)
theorem d7_0 : decode jdk_42_method_3_code 0 = .ok (.aload_n 0, 1) := by decide +kernel
theorem d7_1 : decode jdk_42_method_3_code 1 = .ok (.aload_n 1, 1) := by decide +kernel
theorem d7_2 : decode jdk_42_method_3_code 2 = .ok (.iconst 0, 1) := by decide +kernel
theorem d7_3 : decode jdk_42_method_3_code 3 = .ok (.aload_n 1, 1) := by decide +kernel
theorem d7_4 : decode jdk_42_method_3_code 4 = .ok (.arraylength, 1) := by decide +kernel
theorem d7_5 : decode jdk_42_method_3_code 5 = .ok (.aconst_null, 1) := by decide +kernel
theorem d7_6 : decode jdk_42_method_3_code 6 = .ok (.invokespecial 27, 3) := by decide +kernel
theorem d7_9 : decode jdk_42_method_3_code 9 = .ok (.return_, 1) := by decide +kernel
theorem pd_4 : parseMethodDescriptor "([CIILjava/lang/Void;)V" = some ⟨[(.array .char), .int, .int, (.object "java/lang/Void")], none⟩ := by decide +kernel
set_option maxRecDepth 65536 in
set_option maxHeartbeats 4000000 in
theorem c_strInit2 (l : Launch) (Z : State) (a0 : Array Value) (hw : ∀ d ∈ tables_1, d.before a0 Z = true) {n0 : Nat} (h : Heap) (a : Addr) (t : Addr) (kt : ClassId) (k0 : Int32) (k1 : Int32) (cp : Int32) (hk0 : ¬ ((255 : Int32) < k0)) (hk1 : ¬ ((255 : Int32) < k1)) (hcp : ¬ (cp = (0 : Int32))) (scp : Sta Z Z.heap "java/lang/String" "COMPACT_STRINGS" "Z" (.int cp)) (ge_a : n0 ≤ a) (xa : Exa Z h a "java/lang/String") (f0 : Fld Z h a "java/lang/String" "value" "[B" .null) (f1 : Fld Z h a "java/lang/String" "coder" "B" (.int (0 : Int32))) (vt : Arv Z h t kt .char (2 : Int32) [(.int k0), (.int k1)] (.int 0)) :
    Con l (⟨"java/lang/String", "<init>", "([C)V"⟩ : MethodName) jdk_42_method_3_code 2 none ({ frames := 3, cells := 1, slots := 2, locals := 52 } : Room) Z n0 #[(.ref a), (.ref t)] h (fun v h' => ∃ b : Addr, ∃ kb : ClassId, v = none ∧ Keep h h' [a] ∧ n0 ≤ b ∧ h.size ≤ b ∧ Fld Z h' a "java/lang/String" "value" "[B" (.ref b) ∧ Fld Z h' a "java/lang/String" "coder" "B" (.int (0 : Int32)) ∧ Arv Z h' b kb .byte (2 : Int32) [(.int k0.toInt8.toInt32), (.int k1.toInt8.toInt32)] (.int 0)) := by
  refine Con.of_go (plainFor_of_name pn_4) (Ls := #[.val (.ref a), .val (.ref t)]) (fun m => by first | (simp [entryFrame, mkF, argsToLocals, Value.category]; done) | rfl) ?_
  refine Go.aloadN (pc' := 1) d7_0 rfl rfl rfl ?_
  refine Go.aloadN (pc' := 2) d7_1 rfl rfl rfl ?_
  refine Go.iconst (pc' := 3) (v := (0 : Int32)) d7_2 rfl rfl ?_
  refine Go.aloadN (pc' := 4) d7_3 rfl rfl rfl ?_
  refine Go.arraylength (pc' := 5) vt d7_4 rfl ?_
  refine Go.aconstNull (pc' := 6) d7_5 rfl ?_
  refine Go.callC (cells' := 1) (slots' := 2) (pc' := 9) [(.ref t), (.int (0 : Int32)), (.int (2 : Int32)), .null] [] (a := a) rfl rfl (hw _ (List.mem_of_getElem? (i := 57) rfl)) (hw _ (List.mem_of_getElem? (i := 58) rfl)) (hw _ (List.mem_of_getElem? (i := 53) rfl)) (hw _ (List.mem_of_getElem? (i := 60) rfl)) (by decide) (c_strInit4_2 l Z a0 hw h a t kt k0 k1 cp hk0 hk1 hcp scp ge_a xa f0 f1 vt) pd_4 rfl rfl rfl rfl rfl (Nat.le_of_ble_eq_true rfl) (Nat.le_of_ble_eq_true rfl) (Nat.le_of_ble_eq_true rfl) (Nat.le_of_ble_eq_true rfl) d7_6 rfl ?_
  rintro _ h1 ⟨b_1, kb_1, rfl, K1, ge_b_1, sz_b_1, F1_0, F1_1, F1_2⟩
  have sz2 : h.size ≤ b_1 := Nat.le_trans (Keep.refl h [a]).1 sz_b_1
  have K3 : Keep h h1 [a] := (Keep.refl h [a]).trans K1 (allS (Or.inl (List.mem_of_getElem? (i := 0) rfl)) all0)
  show Go _ _ _ _ _ _ _ _ _ _ _ _ 9 #[.val (.ref a), .val (.ref t)] []
  exact Go.retV rfl d7_9 ⟨b_1, kb_1, rfl, K3, ge_b_1, sz2, F1_0, F1_1, F1_2⟩ (by decide) (by decide)
theorem pd_5 : parseMethodDescriptor "(I)Lcom/example/episodic/episodic/ErrorClass;" = some ⟨[.int], some (.object "com/example/episodic/episodic/ErrorClass")⟩ := by decide +kernel
theorem pd_6 : parseMethodDescriptor "(I)Lcom/example/episodic/episodic/Statement$Kind;" = some ⟨[.int], some (.object "com/example/episodic/episodic/Statement$Kind")⟩ := by decide +kernel
theorem pd_7 : parseMethodDescriptor "(Lcom/example/episodic/episodic/Statement$Kind;Lcom/example/episodic/episodic/ErrorClass;Ljava/lang/String;IILcom/example/episodic/episodic/Rows;)V" = some ⟨[(.object "com/example/episodic/episodic/Statement$Kind"), (.object "com/example/episodic/episodic/ErrorClass"), (.object "java/lang/String"), .int, .int, (.object "com/example/episodic/episodic/Rows")], none⟩ := by decide +kernel
theorem pd_8 : parseMethodDescriptor "()Z" = some ⟨[], some .boolean⟩ := by decide +kernel
theorem pd_9 : parseMethodDescriptor "([C)V" = some ⟨[(.array .char)], none⟩ := by decide +kernel
set_option maxRecDepth 65536 in
set_option maxHeartbeats 4000000 in
theorem c_law (l : Launch) (Z : State) (a0 : Array Value) (hw : ∀ d ∈ tables_1, d.before a0 Z = true) {n0 : Nat} (h : Heap) (p0 : Int32) (p1 : Int32) (p2 : Int32) (p3 : Int32) (p4 : Int32) (w0 : Addr) (w1 : Addr) (w2 : Addr) (w3 : Addr) (w4 : Addr) (w5 : Addr) (w6 : Addr) (w7 : Addr) (u0 : Addr) (u1 : Addr) (u2 : Addr) (u3 : Addr) (u4 : Addr) (u5 : Addr) (u6 : Addr) (u7 : Addr) (cp : Int32) (hcp : ¬ (cp = (0 : Int32))) (s0 : Sta Z Z.heap "com/example/episodic/episodic/Statement$Kind" "CREATE_TABLE" "Lcom/example/episodic/episodic/Statement$Kind;" (.ref w0)) (s1 : Sta Z Z.heap "com/example/episodic/episodic/Statement$Kind" "DROP_TABLE" "Lcom/example/episodic/episodic/Statement$Kind;" (.ref w1)) (s2 : Sta Z Z.heap "com/example/episodic/episodic/Statement$Kind" "SET_NOW" "Lcom/example/episodic/episodic/Statement$Kind;" (.ref w2)) (s3 : Sta Z Z.heap "com/example/episodic/episodic/Statement$Kind" "INSERT" "Lcom/example/episodic/episodic/Statement$Kind;" (.ref w3)) (s4 : Sta Z Z.heap "com/example/episodic/episodic/Statement$Kind" "UPDATE" "Lcom/example/episodic/episodic/Statement$Kind;" (.ref w4)) (s5 : Sta Z Z.heap "com/example/episodic/episodic/Statement$Kind" "DELETE" "Lcom/example/episodic/episodic/Statement$Kind;" (.ref w5)) (s6 : Sta Z Z.heap "com/example/episodic/episodic/Statement$Kind" "SELECT" "Lcom/example/episodic/episodic/Statement$Kind;" (.ref w6)) (s7 : Sta Z Z.heap "com/example/episodic/episodic/Statement$Kind" "SHOW_ROWS" "Lcom/example/episodic/episodic/Statement$Kind;" (.ref w7)) (se0 : Sta Z Z.heap "com/example/episodic/episodic/ErrorClass" "SYNTAX" "Lcom/example/episodic/episodic/ErrorClass;" (.ref u0)) (se1 : Sta Z Z.heap "com/example/episodic/episodic/ErrorClass" "SCHEMA" "Lcom/example/episodic/episodic/ErrorClass;" (.ref u1)) (se2 : Sta Z Z.heap "com/example/episodic/episodic/ErrorClass" "PERIOD" "Lcom/example/episodic/episodic/ErrorClass;" (.ref u2)) (se3 : Sta Z Z.heap "com/example/episodic/episodic/ErrorClass" "CLOCK" "Lcom/example/episodic/episodic/ErrorClass;" (.ref u3)) (se4 : Sta Z Z.heap "com/example/episodic/episodic/ErrorClass" "DEFERRED" "Lcom/example/episodic/episodic/ErrorClass;" (.ref u4)) (se5 : Sta Z Z.heap "com/example/episodic/episodic/ErrorClass" "TEI" "Lcom/example/episodic/episodic/ErrorClass;" (.ref u5)) (se6 : Sta Z Z.heap "com/example/episodic/episodic/ErrorClass" "NOT_FOUND" "Lcom/example/episodic/episodic/ErrorClass;" (.ref u6)) (se7 : Sta Z Z.heap "com/example/episodic/episodic/ErrorClass" "TRI" "Lcom/example/episodic/episodic/ErrorClass;" (.ref u7)) (scp : Sta Z Z.heap "java/lang/String" "COMPACT_STRINGS" "Z" (.int cp)) :
    Con l x code maxLocals ret room_1 Z n0 #[(.int p0), (.int p1), (.int p2), (.int p3), (.int p4)] h (fun v h' => v = some (.int (1 : Int32)) ∧ Keep h h' []) := by
  refine Con.of_go (plainFor_of_name pn_0) (Ls := #[.val (.int p0), .val (.int p1), .val (.int p2), .val (.int p3), .val (.int p4), .unset, .unset, .unset, .unset, .unset, .unset, .unset, .unset, .unset]) (fun m => by first | (simp [entryFrame, mkF, argsToLocals, Value.category, maxLocals]; done) | rfl) ?_
  refine Go.iloadN (pc' := 1) at_0 rfl rfl ?_
  refine Go.callS (cells' := 0) (slots' := 0) (pc' := 4) [(.int p0)] [] (hw _ (List.mem_of_getElem? (i := 0) rfl)) (hw _ (List.mem_of_getElem? (i := 1) rfl)) (hw _ (List.mem_of_getElem? (i := 2) rfl)) (hw _ (List.mem_of_getElem? (i := 3) rfl)) (by decide) (c_errOf l Z a0 hw h p0 u0 u1 u2 u3 u4 u5 u6 u7 se0 se1 se2 se3 se4 se5 se6 se7) pd_5 rfl rfl rfl rfl rfl (Nat.le_of_ble_eq_true rfl) (Nat.le_of_ble_eq_true rfl) (Nat.le_of_ble_eq_true rfl) (Nat.le_of_ble_eq_true rfl) at_1 rfl ?_
  rintro _ _ ⟨ec_1, rfl, rfl, P1_0⟩
  show Go _ _ _ _ _ _ _ _ _ _ _ _ 4 #[.val (.int p0), .val (.int p1), .val (.int p2), .val (.int p3), .val (.int p4), .unset, .unset, .unset, .unset, .unset, .unset, .unset, .unset, .unset] [ec_1]
  refine Go.astore (pc' := 6) (Ls' := #[.val (.int p0), .val (.int p1), .val (.int p2), .val (.int p3), .val (.int p4), .val ec_1, .unset, .unset, .unset, .unset, .unset, .unset, .unset, .unset]) at_4 P1_0 (XS.store1 (o := .unset) rfl (Or.inl rfl) (XT.cat1 P1_0)) rfl ?_
  refine Go.iloadN (pc' := 7) at_6 rfl rfl ?_
  refine Go.callS (cells' := 0) (slots' := 0) (pc' := 10) [(.int p1)] [] (hw _ (List.mem_of_getElem? (i := 4) rfl)) (hw _ (List.mem_of_getElem? (i := 5) rfl)) (hw _ (List.mem_of_getElem? (i := 2) rfl)) (hw _ (List.mem_of_getElem? (i := 6) rfl)) (by decide) (c_kindOf l Z a0 hw h p1 w0 w1 w2 w3 w4 w5 w6 w7 s0 s1 s2 s3 s4 s5 s6 s7) pd_6 rfl rfl rfl rfl rfl (Nat.le_of_ble_eq_true rfl) (Nat.le_of_ble_eq_true rfl) (Nat.le_of_ble_eq_true rfl) (Nat.le_of_ble_eq_true rfl) at_7 rfl ?_
  rintro _ _ ⟨a_2, rfl, rfl⟩
  show Go _ _ _ _ _ _ _ _ _ _ _ _ 10 #[.val (.int p0), .val (.int p1), .val (.int p2), .val (.int p3), .val (.int p4), .val ec_1, .unset, .unset, .unset, .unset, .unset, .unset, .unset, .unset] [(.ref a_2)]
  refine Go.astore (pc' := 12) (Ls' := #[.val (.int p0), .val (.int p1), .val (.int p2), .val (.int p3), .val (.int p4), .val ec_1, .val (.ref a_2), .unset, .unset, .unset, .unset, .unset, .unset, .unset]) at_10 rfl rfl rfl ?_
  refine Go.iloadN (pc' := 13) at_12 rfl rfl ?_
  refine Go.bipush (pc' := 15) (v := (16 : Int32)) at_13 rfl rfl ?_
  refine Go.iushr (pc' := 16) at_15 rfl ?_
  refine Go.iconst (pc' := 17) (v := (1 : Int32)) at_16 rfl rfl ?_
  refine Go.iand (pc' := 18) at_17 rfl ?_
  by_cases hc3 : ((XT.ushr p2 (16 : Int32)) &&& (1 : Int32)) = (0 : Int32)
  ·
    refine Go.ifYes (pc' := 25) at_18 (XT.i0_eq_t hc3) (by decide) (by decide) ?_
    refine Go.iconst (pc' := 26) (v := (0 : Int32)) at_25 rfl rfl ?_
    refine Go.istore (pc' := 28) (Ls' := #[.val (.int p0), .val (.int p1), .val (.int p2), .val (.int p3), .val (.int p4), .val ec_1, .val (.ref a_2), .val (.int (0 : Int32)), .unset, .unset, .unset, .unset, .unset, .unset]) at_26 rfl rfl ?_
    refine Go.iloadN (pc' := 29) at_28 rfl rfl ?_
    refine Go.bipush (pc' := 31) (v := (17 : Int32)) at_29 rfl rfl ?_
    refine Go.iushr (pc' := 32) at_31 rfl ?_
    refine Go.iconst (pc' := 33) (v := (1 : Int32)) at_32 rfl rfl ?_
    refine Go.iand (pc' := 34) at_33 rfl ?_
    by_cases hc4 : ((XT.ushr p2 (17 : Int32)) &&& (1 : Int32)) = (0 : Int32)
    ·
      refine Go.ifYes (pc' := 41) at_34 (XT.i0_eq_t hc4) (by decide) (by decide) ?_
      refine Go.iconst (pc' := 42) (v := (0 : Int32)) at_41 rfl rfl ?_
      refine Go.istore (pc' := 44) (Ls' := #[.val (.int p0), .val (.int p1), .val (.int p2), .val (.int p3), .val (.int p4), .val ec_1, .val (.ref a_2), .val (.int (0 : Int32)), .val (.int (0 : Int32)), .unset, .unset, .unset, .unset, .unset]) at_42 rfl rfl ?_
      refine Go.iconst (pc' := 45) (v := (2 : Int32)) at_44 rfl rfl ?_
      refine Go.newarray (pc' := 47) (cells' := 1) (slots' := 2) (cap := 2) (hw _ (List.mem_of_getElem? (i := 10) rfl)) at_45 (ad := "[C") (by decide) (by decide) (by decide) rfl rfl (by decide) (by decide) (by decide) rfl ?_
      intro h5 b5 g5 E5 ge5 kA5 A5 X5
      have sz6 : h.size ≤ b5 := Nat.le_trans (Keep.refl h []).1 (Nat.le_of_eq g5.symm)
      have K7 : Keep h h5 [] := (Keep.refl h []).ext E5
      have V5 : Arv Z h5 b5 kA5 .char (2 : Int32) [(.int 0), (.int 0)] (.int 0) := Arv.pad A5 (pad_rep [] (.int 0) 2)
      refine Go.astore (pc' := 49) (Ls' := #[.val (.int p0), .val (.int p1), .val (.int p2), .val (.int p3), .val (.int p4), .val ec_1, .val (.ref a_2), .val (.int (0 : Int32)), .val (.int (0 : Int32)), .val (.ref b5), .unset, .unset, .unset, .unset]) at_47 rfl rfl rfl ?_
      refine Go.aload (pc' := 51) at_49 rfl rfl rfl ?_
      refine Go.iconst (pc' := 52) (v := (0 : Int32)) at_51 rfl rfl ?_
      refine Go.iloadN (pc' := 53) at_52 rfl rfl ?_
      refine Go.sipush (pc' := 56) (v := (255 : Int32)) at_53 rfl rfl ?_
      refine Go.iand (pc' := 57) at_56 rfl ?_
      refine Go.i2c (pc' := 58) at_57 rfl ?_
      rw [i2c_mask]
      refine Go.castore (pc' := 59) V5 ge5 at_58 (by decide) (by decide) (i := 0) rfl (Nat.le_of_ble_eq_true rfl) rfl ?_
      intro h8 W9 V10
      have K11 : Keep h h8 [] := K7.wr W9 (Or.inr sz6)
      rw [(show nar .char (p2 &&& (255 : Int32)) = (p2 &&& (255 : Int32)) from i2c_mask _)] at V10
      replace V10 : Arv Z h8 b5 kA5 .char (2 : Int32) [(.int (p2 &&& (255 : Int32))), (.int 0)] (.int 0) := V10
      refine Go.aload (pc' := 61) at_59 rfl rfl rfl ?_
      refine Go.iconst (pc' := 62) (v := (1 : Int32)) at_61 rfl rfl ?_
      refine Go.iloadN (pc' := 63) at_62 rfl rfl ?_
      refine Go.bipush (pc' := 65) (v := (8 : Int32)) at_63 rfl rfl ?_
      refine Go.iushr (pc' := 66) at_65 rfl ?_
      refine Go.sipush (pc' := 69) (v := (255 : Int32)) at_66 rfl rfl ?_
      refine Go.iand (pc' := 70) at_69 rfl ?_
      refine Go.i2c (pc' := 71) at_70 rfl ?_
      rw [i2c_mask]
      refine Go.castore (pc' := 72) V10 ge5 at_71 (by decide) (by decide) (i := 1) rfl (Nat.le_of_ble_eq_true rfl) rfl ?_
      intro h12 W13 V14
      have K15 : Keep h h12 [] := K11.wr W13 (Or.inr sz6)
      rw [(show nar .char ((XT.ushr p2 (8 : Int32)) &&& (255 : Int32)) = ((XT.ushr p2 (8 : Int32)) &&& (255 : Int32)) from i2c_mask _)] at V14
      replace V14 : Arv Z h12 b5 kA5 .char (2 : Int32) [(.int (p2 &&& (255 : Int32))), (.int ((XT.ushr p2 (8 : Int32)) &&& (255 : Int32)))] (.int 0) := V14
      refine Go.iload (pc' := 74) at_72 rfl rfl ?_
      refine Go.ifYes (pc' := 89) at_74 (XT.i0_eq_t (by decide)) (by decide) (by decide) ?_
      refine Go.aconstNull (pc' := 90) at_89 rfl ?_
      refine Go.astore (pc' := 92) (Ls' := #[.val (.int p0), .val (.int p1), .val (.int p2), .val (.int p3), .val (.int p4), .val ec_1, .val (.ref a_2), .val (.int (0 : Int32)), .val (.int (0 : Int32)), .val (.ref b5), .val .null, .unset, .unset, .unset]) at_90 rfl rfl rfl ?_
      refine Go.iload (pc' := 94) at_92 rfl rfl ?_
      refine Go.ifYes (pc' := 101) at_94 (XT.i0_eq_t (by decide)) (by decide) (by decide) ?_
      refine Go.aload (pc' := 103) at_101 rfl rfl rfl ?_
      refine Go.astore (pc' := 105) (Ls' := #[.val (.int p0), .val (.int p1), .val (.int p2), .val (.int p3), .val (.int p4), .val ec_1, .val (.ref a_2), .val (.int (0 : Int32)), .val (.int (0 : Int32)), .val (.ref b5), .val .null, .val (.ref a_2), .unset, .unset]) at_103 rfl rfl rfl ?_
      refine Go.new (pc' := 108) (cells' := 2) (slots' := 8) (hw _ (List.mem_of_getElem? (i := 11) rfl)) (hw _ (List.mem_of_getElem? (i := 12) rfl)) (hw _ (List.mem_of_getElem? (i := 13) rfl)) at_105 rfl rfl (by decide) (by decide) rfl ?_
      intro h16 b16 g16 E16 ge16 A16 D16
      have sz17 : h.size ≤ b16 := Nat.le_trans K15.1 (Nat.le_of_eq g16.symm)
      have K18 : Keep h h16 [] := K15.ext E16
      refine Go.dup (pc' := 109) at_108 rfl rfl ?_
      refine Go.aload (pc' := 111) at_109 rfl rfl rfl ?_
      refine Go.aload (pc' := 113) at_111 rfl P1_0 rfl ?_
      refine Go.aload (pc' := 115) at_113 rfl rfl rfl ?_
      refine Go.iloadN (pc' := 116) at_115 rfl rfl ?_
      refine Go.iload (pc' := 118) at_116 rfl rfl ?_
      refine Go.aconstNull (pc' := 119) at_118 rfl ?_
      refine Go.callC (cells' := 2) (slots' := 8) (pc' := 122) [(.ref a_2), ec_1, .null, (.int p3), (.int p4), .null] [(.ref b16)] (a := b16) rfl rfl (hw _ (List.mem_of_getElem? (i := 14) rfl)) (hw _ (List.mem_of_getElem? (i := 15) rfl)) (hw _ (List.mem_of_getElem? (i := 13) rfl)) (hw _ (List.mem_of_getElem? (i := 16) rfl)) (by decide) (c_init l Z a0 hw h16 b16 (.ref a_2) ec_1 .null p3 p4 rfl P1_0 rfl ge16 A16 ((D16 (Or.inr (hw _ (List.mem_of_getElem? (i := 26) rfl))) (ty := (.object "com/example/episodic/episodic/Statement$Kind")) (by decide) : Fld Z h16 b16 "com/example/episodic/episodic/StatementResult" "kind" "Lcom/example/episodic/episodic/Statement$Kind;" .null)) ((D16 (Or.inr (hw _ (List.mem_of_getElem? (i := 28) rfl))) (ty := (.object "com/example/episodic/episodic/ErrorClass")) (by decide) : Fld Z h16 b16 "com/example/episodic/episodic/StatementResult" "errorClass" "Lcom/example/episodic/episodic/ErrorClass;" .null)) ((D16 (Or.inr (hw _ (List.mem_of_getElem? (i := 30) rfl))) (ty := (.object "java/lang/String")) (by decide) : Fld Z h16 b16 "com/example/episodic/episodic/StatementResult" "message" "Ljava/lang/String;" .null)) ((D16 (Or.inr (hw _ (List.mem_of_getElem? (i := 32) rfl))) (ty := .int) (by decide) : Fld Z h16 b16 "com/example/episodic/episodic/StatementResult" "withdrawn" "I" (.int (0 : Int32)))) ((D16 (Or.inr (hw _ (List.mem_of_getElem? (i := 34) rfl))) (ty := .int) (by decide) : Fld Z h16 b16 "com/example/episodic/episodic/StatementResult" "created" "I" (.int (0 : Int32)))) ((D16 (Or.inr (hw _ (List.mem_of_getElem? (i := 36) rfl))) (ty := (.object "com/example/episodic/episodic/Rows")) (by decide) : Fld Z h16 b16 "com/example/episodic/episodic/StatementResult" "rows" "Lcom/example/episodic/episodic/Rows;" .null))) pd_7 rfl rfl rfl rfl rfl (Nat.le_of_ble_eq_true rfl) (Nat.le_of_ble_eq_true rfl) (Nat.le_of_ble_eq_true rfl) (Nat.le_of_ble_eq_true rfl) at_119 rfl ?_
      rintro _ h19 ⟨rfl, K19, F19_0, F19_1, F19_2, F19_3, F19_4, F19_5⟩
      have K20 : Keep h h19 [] := K18.trans K19 (allS (Or.inr sz17) all0)
      show Go _ _ _ _ _ _ _ _ _ _ _ _ 122 #[.val (.int p0), .val (.int p1), .val (.int p2), .val (.int p3), .val (.int p4), .val ec_1, .val (.ref a_2), .val (.int (0 : Int32)), .val (.int (0 : Int32)), .val (.ref b5), .val .null, .val (.ref a_2), .unset, .unset] [(.ref b16)]
      refine Go.astore (pc' := 124) (Ls' := #[.val (.int p0), .val (.int p1), .val (.int p2), .val (.int p3), .val (.int p4), .val ec_1, .val (.ref a_2), .val (.int (0 : Int32)), .val (.int (0 : Int32)), .val (.ref b5), .val .null, .val (.ref a_2), .val (.ref b16), .unset]) at_122 rfl rfl rfl ?_
      refine Go.aload (pc' := 126) at_124 rfl P1_0 rfl ?_
      by_cases hc21 : ec_1 = .null
      ·
        refine Go.nullYes (pc' := 133) at_126 hc21 (by decide) (by decide) ?_
        refine Go.iconst (pc' := 134) (v := (0 : Int32)) at_133 rfl rfl ?_
        refine Go.istore (pc' := 136) (Ls' := #[.val (.int p0), .val (.int p1), .val (.int p2), .val (.int p3), .val (.int p4), .val ec_1, .val (.ref a_2), .val (.int (0 : Int32)), .val (.int (0 : Int32)), .val (.ref b5), .val .null, .val (.ref a_2), .val (.ref b16), .val (.int (0 : Int32))]) at_134 rfl rfl ?_
        refine Go.aload (pc' := 138) at_136 rfl rfl rfl ?_
        refine Go.callV (cells' := 2) (slots' := 8) (pc' := 141) [] [] (A16.keep K19) (hw _ (List.mem_of_getElem? (i := 37) rfl)) (hw _ (List.mem_of_getElem? (i := 38) rfl)) (fun s' hs' => notFace_of_selects (args := #[]) (mvT hs' (hw _ (List.mem_of_getElem? (i := 40) rfl)))) (hw _ (List.mem_of_getElem? (i := 40) rfl)) (hw _ (List.mem_of_getElem? (i := 39) rfl)) (hw _ (List.mem_of_getElem? (i := 13) rfl)) (hw _ (List.mem_of_getElem? (i := 41) rfl)) (by decide) (c_rej0 l Z a0 hw h19 b16 ec_1 P1_0 hc21 F19_1) pd_8 rfl rfl rfl rfl rfl (Nat.le_of_ble_eq_true rfl) (Nat.le_of_ble_eq_true rfl) (Nat.le_of_ble_eq_true rfl) (Nat.le_of_ble_eq_true rfl) at_138 rfl ?_
        rintro _ _ ⟨rfl, rfl⟩
        show Go _ _ _ _ _ _ _ _ _ _ _ _ 141 #[.val (.int p0), .val (.int p1), .val (.int p2), .val (.int p3), .val (.int p4), .val ec_1, .val (.ref a_2), .val (.int (0 : Int32)), .val (.int (0 : Int32)), .val (.ref b5), .val .null, .val (.ref a_2), .val (.ref b16), .val (.int (0 : Int32))] [(.int (0 : Int32))]
        refine Go.iload (pc' := 143) at_141 rfl rfl ?_
        refine Go.icmpNo (pc' := 146) at_143 (XT.ii_ne_f (by decide)) rfl ?_
        refine Go.iconst (pc' := 147) (v := (1 : Int32)) at_146 rfl rfl ?_
        refine Go.goto (pc' := 151) at_147 (by decide) (by decide) ?_
        exact Go.retN (t := .boolean) rfl (by simp) at_151 ⟨rfl, K20⟩ (by decide) (by decide)
      ·
        refine Go.nullNo (pc' := 129) at_126 P1_0 hc21 rfl ?_
        refine Go.iconst (pc' := 130) (v := (1 : Int32)) at_129 rfl rfl ?_
        refine Go.goto (pc' := 134) at_130 (by decide) (by decide) ?_
        refine Go.istore (pc' := 136) (Ls' := #[.val (.int p0), .val (.int p1), .val (.int p2), .val (.int p3), .val (.int p4), .val ec_1, .val (.ref a_2), .val (.int (0 : Int32)), .val (.int (0 : Int32)), .val (.ref b5), .val .null, .val (.ref a_2), .val (.ref b16), .val (.int (1 : Int32))]) at_134 rfl rfl ?_
        refine Go.aload (pc' := 138) at_136 rfl rfl rfl ?_
        refine Go.callV (cells' := 2) (slots' := 8) (pc' := 141) [] [] (A16.keep K19) (hw _ (List.mem_of_getElem? (i := 37) rfl)) (hw _ (List.mem_of_getElem? (i := 38) rfl)) (fun s' hs' => notFace_of_selects (args := #[]) (mvT hs' (hw _ (List.mem_of_getElem? (i := 40) rfl)))) (hw _ (List.mem_of_getElem? (i := 40) rfl)) (hw _ (List.mem_of_getElem? (i := 39) rfl)) (hw _ (List.mem_of_getElem? (i := 13) rfl)) (hw _ (List.mem_of_getElem? (i := 41) rfl)) (by decide) (c_rej1 l Z a0 hw h19 b16 ec_1 P1_0 hc21 F19_1) pd_8 rfl rfl rfl rfl rfl (Nat.le_of_ble_eq_true rfl) (Nat.le_of_ble_eq_true rfl) (Nat.le_of_ble_eq_true rfl) (Nat.le_of_ble_eq_true rfl) at_138 rfl ?_
        rintro _ _ ⟨rfl, rfl⟩
        show Go _ _ _ _ _ _ _ _ _ _ _ _ 141 #[.val (.int p0), .val (.int p1), .val (.int p2), .val (.int p3), .val (.int p4), .val ec_1, .val (.ref a_2), .val (.int (0 : Int32)), .val (.int (0 : Int32)), .val (.ref b5), .val .null, .val (.ref a_2), .val (.ref b16), .val (.int (1 : Int32))] [(.int (1 : Int32))]
        refine Go.iload (pc' := 143) at_141 rfl rfl ?_
        refine Go.icmpNo (pc' := 146) at_143 (XT.ii_ne_f (by decide)) rfl ?_
        refine Go.iconst (pc' := 147) (v := (1 : Int32)) at_146 rfl rfl ?_
        refine Go.goto (pc' := 151) at_147 (by decide) (by decide) ?_
        exact Go.retN (t := .boolean) rfl (by simp) at_151 ⟨rfl, K20⟩ (by decide) (by decide)
    ·
      refine Go.ifNo (pc' := 37) at_34 (XT.i0_eq_f hc4) rfl ?_
      refine Go.iconst (pc' := 38) (v := (1 : Int32)) at_37 rfl rfl ?_
      refine Go.goto (pc' := 42) at_38 (by decide) (by decide) ?_
      refine Go.istore (pc' := 44) (Ls' := #[.val (.int p0), .val (.int p1), .val (.int p2), .val (.int p3), .val (.int p4), .val ec_1, .val (.ref a_2), .val (.int (0 : Int32)), .val (.int (1 : Int32)), .unset, .unset, .unset, .unset, .unset]) at_42 rfl rfl ?_
      refine Go.iconst (pc' := 45) (v := (2 : Int32)) at_44 rfl rfl ?_
      refine Go.newarray (pc' := 47) (cells' := 1) (slots' := 2) (cap := 2) (hw _ (List.mem_of_getElem? (i := 10) rfl)) at_45 (ad := "[C") (by decide) (by decide) (by decide) rfl rfl (by decide) (by decide) (by decide) rfl ?_
      intro h24 b24 g24 E24 ge24 kA24 A24 X24
      have sz25 : h.size ≤ b24 := Nat.le_trans (Keep.refl h []).1 (Nat.le_of_eq g24.symm)
      have K26 : Keep h h24 [] := (Keep.refl h []).ext E24
      have V24 : Arv Z h24 b24 kA24 .char (2 : Int32) [(.int 0), (.int 0)] (.int 0) := Arv.pad A24 (pad_rep [] (.int 0) 2)
      refine Go.astore (pc' := 49) (Ls' := #[.val (.int p0), .val (.int p1), .val (.int p2), .val (.int p3), .val (.int p4), .val ec_1, .val (.ref a_2), .val (.int (0 : Int32)), .val (.int (1 : Int32)), .val (.ref b24), .unset, .unset, .unset, .unset]) at_47 rfl rfl rfl ?_
      refine Go.aload (pc' := 51) at_49 rfl rfl rfl ?_
      refine Go.iconst (pc' := 52) (v := (0 : Int32)) at_51 rfl rfl ?_
      refine Go.iloadN (pc' := 53) at_52 rfl rfl ?_
      refine Go.sipush (pc' := 56) (v := (255 : Int32)) at_53 rfl rfl ?_
      refine Go.iand (pc' := 57) at_56 rfl ?_
      refine Go.i2c (pc' := 58) at_57 rfl ?_
      rw [i2c_mask]
      refine Go.castore (pc' := 59) V24 ge24 at_58 (by decide) (by decide) (i := 0) rfl (Nat.le_of_ble_eq_true rfl) rfl ?_
      intro h27 W28 V29
      have K30 : Keep h h27 [] := K26.wr W28 (Or.inr sz25)
      rw [(show nar .char (p2 &&& (255 : Int32)) = (p2 &&& (255 : Int32)) from i2c_mask _)] at V29
      replace V29 : Arv Z h27 b24 kA24 .char (2 : Int32) [(.int (p2 &&& (255 : Int32))), (.int 0)] (.int 0) := V29
      refine Go.aload (pc' := 61) at_59 rfl rfl rfl ?_
      refine Go.iconst (pc' := 62) (v := (1 : Int32)) at_61 rfl rfl ?_
      refine Go.iloadN (pc' := 63) at_62 rfl rfl ?_
      refine Go.bipush (pc' := 65) (v := (8 : Int32)) at_63 rfl rfl ?_
      refine Go.iushr (pc' := 66) at_65 rfl ?_
      refine Go.sipush (pc' := 69) (v := (255 : Int32)) at_66 rfl rfl ?_
      refine Go.iand (pc' := 70) at_69 rfl ?_
      refine Go.i2c (pc' := 71) at_70 rfl ?_
      rw [i2c_mask]
      refine Go.castore (pc' := 72) V29 ge24 at_71 (by decide) (by decide) (i := 1) rfl (Nat.le_of_ble_eq_true rfl) rfl ?_
      intro h31 W32 V33
      have K34 : Keep h h31 [] := K30.wr W32 (Or.inr sz25)
      rw [(show nar .char ((XT.ushr p2 (8 : Int32)) &&& (255 : Int32)) = ((XT.ushr p2 (8 : Int32)) &&& (255 : Int32)) from i2c_mask _)] at V33
      replace V33 : Arv Z h31 b24 kA24 .char (2 : Int32) [(.int (p2 &&& (255 : Int32))), (.int ((XT.ushr p2 (8 : Int32)) &&& (255 : Int32)))] (.int 0) := V33
      refine Go.iload (pc' := 74) at_72 rfl rfl ?_
      refine Go.ifYes (pc' := 89) at_74 (XT.i0_eq_t (by decide)) (by decide) (by decide) ?_
      refine Go.aconstNull (pc' := 90) at_89 rfl ?_
      refine Go.astore (pc' := 92) (Ls' := #[.val (.int p0), .val (.int p1), .val (.int p2), .val (.int p3), .val (.int p4), .val ec_1, .val (.ref a_2), .val (.int (0 : Int32)), .val (.int (1 : Int32)), .val (.ref b24), .val .null, .unset, .unset, .unset]) at_90 rfl rfl rfl ?_
      refine Go.iload (pc' := 94) at_92 rfl rfl ?_
      refine Go.ifNo (pc' := 97) at_94 (XT.i0_eq_f (by decide)) rfl ?_
      refine Go.aconstNull (pc' := 98) at_97 rfl ?_
      refine Go.goto (pc' := 103) at_98 (by decide) (by decide) ?_
      refine Go.astore (pc' := 105) (Ls' := #[.val (.int p0), .val (.int p1), .val (.int p2), .val (.int p3), .val (.int p4), .val ec_1, .val (.ref a_2), .val (.int (0 : Int32)), .val (.int (1 : Int32)), .val (.ref b24), .val .null, .val .null, .unset, .unset]) at_103 rfl rfl rfl ?_
      refine Go.new (pc' := 108) (cells' := 2) (slots' := 8) (hw _ (List.mem_of_getElem? (i := 11) rfl)) (hw _ (List.mem_of_getElem? (i := 12) rfl)) (hw _ (List.mem_of_getElem? (i := 13) rfl)) at_105 rfl rfl (by decide) (by decide) rfl ?_
      intro h35 b35 g35 E35 ge35 A35 D35
      have sz36 : h.size ≤ b35 := Nat.le_trans K34.1 (Nat.le_of_eq g35.symm)
      have K37 : Keep h h35 [] := K34.ext E35
      refine Go.dup (pc' := 109) at_108 rfl rfl ?_
      refine Go.aload (pc' := 111) at_109 rfl rfl rfl ?_
      refine Go.aload (pc' := 113) at_111 rfl P1_0 rfl ?_
      refine Go.aload (pc' := 115) at_113 rfl rfl rfl ?_
      refine Go.iloadN (pc' := 116) at_115 rfl rfl ?_
      refine Go.iload (pc' := 118) at_116 rfl rfl ?_
      refine Go.aconstNull (pc' := 119) at_118 rfl ?_
      refine Go.callC (cells' := 2) (slots' := 8) (pc' := 122) [.null, ec_1, .null, (.int p3), (.int p4), .null] [(.ref b35)] (a := b35) rfl rfl (hw _ (List.mem_of_getElem? (i := 14) rfl)) (hw _ (List.mem_of_getElem? (i := 15) rfl)) (hw _ (List.mem_of_getElem? (i := 13) rfl)) (hw _ (List.mem_of_getElem? (i := 16) rfl)) (by decide) (c_init l Z a0 hw h35 b35 .null ec_1 .null p3 p4 rfl P1_0 rfl ge35 A35 ((D35 (Or.inr (hw _ (List.mem_of_getElem? (i := 26) rfl))) (ty := (.object "com/example/episodic/episodic/Statement$Kind")) (by decide) : Fld Z h35 b35 "com/example/episodic/episodic/StatementResult" "kind" "Lcom/example/episodic/episodic/Statement$Kind;" .null)) ((D35 (Or.inr (hw _ (List.mem_of_getElem? (i := 28) rfl))) (ty := (.object "com/example/episodic/episodic/ErrorClass")) (by decide) : Fld Z h35 b35 "com/example/episodic/episodic/StatementResult" "errorClass" "Lcom/example/episodic/episodic/ErrorClass;" .null)) ((D35 (Or.inr (hw _ (List.mem_of_getElem? (i := 30) rfl))) (ty := (.object "java/lang/String")) (by decide) : Fld Z h35 b35 "com/example/episodic/episodic/StatementResult" "message" "Ljava/lang/String;" .null)) ((D35 (Or.inr (hw _ (List.mem_of_getElem? (i := 32) rfl))) (ty := .int) (by decide) : Fld Z h35 b35 "com/example/episodic/episodic/StatementResult" "withdrawn" "I" (.int (0 : Int32)))) ((D35 (Or.inr (hw _ (List.mem_of_getElem? (i := 34) rfl))) (ty := .int) (by decide) : Fld Z h35 b35 "com/example/episodic/episodic/StatementResult" "created" "I" (.int (0 : Int32)))) ((D35 (Or.inr (hw _ (List.mem_of_getElem? (i := 36) rfl))) (ty := (.object "com/example/episodic/episodic/Rows")) (by decide) : Fld Z h35 b35 "com/example/episodic/episodic/StatementResult" "rows" "Lcom/example/episodic/episodic/Rows;" .null))) pd_7 rfl rfl rfl rfl rfl (Nat.le_of_ble_eq_true rfl) (Nat.le_of_ble_eq_true rfl) (Nat.le_of_ble_eq_true rfl) (Nat.le_of_ble_eq_true rfl) at_119 rfl ?_
      rintro _ h38 ⟨rfl, K38, F38_0, F38_1, F38_2, F38_3, F38_4, F38_5⟩
      have K39 : Keep h h38 [] := K37.trans K38 (allS (Or.inr sz36) all0)
      show Go _ _ _ _ _ _ _ _ _ _ _ _ 122 #[.val (.int p0), .val (.int p1), .val (.int p2), .val (.int p3), .val (.int p4), .val ec_1, .val (.ref a_2), .val (.int (0 : Int32)), .val (.int (1 : Int32)), .val (.ref b24), .val .null, .val .null, .unset, .unset] [(.ref b35)]
      refine Go.astore (pc' := 124) (Ls' := #[.val (.int p0), .val (.int p1), .val (.int p2), .val (.int p3), .val (.int p4), .val ec_1, .val (.ref a_2), .val (.int (0 : Int32)), .val (.int (1 : Int32)), .val (.ref b24), .val .null, .val .null, .val (.ref b35), .unset]) at_122 rfl rfl rfl ?_
      refine Go.aload (pc' := 126) at_124 rfl P1_0 rfl ?_
      by_cases hc40 : ec_1 = .null
      ·
        refine Go.nullYes (pc' := 133) at_126 hc40 (by decide) (by decide) ?_
        refine Go.iconst (pc' := 134) (v := (0 : Int32)) at_133 rfl rfl ?_
        refine Go.istore (pc' := 136) (Ls' := #[.val (.int p0), .val (.int p1), .val (.int p2), .val (.int p3), .val (.int p4), .val ec_1, .val (.ref a_2), .val (.int (0 : Int32)), .val (.int (1 : Int32)), .val (.ref b24), .val .null, .val .null, .val (.ref b35), .val (.int (0 : Int32))]) at_134 rfl rfl ?_
        refine Go.aload (pc' := 138) at_136 rfl rfl rfl ?_
        refine Go.callV (cells' := 2) (slots' := 8) (pc' := 141) [] [] (A35.keep K38) (hw _ (List.mem_of_getElem? (i := 37) rfl)) (hw _ (List.mem_of_getElem? (i := 38) rfl)) (fun s' hs' => notFace_of_selects (args := #[]) (mvT hs' (hw _ (List.mem_of_getElem? (i := 40) rfl)))) (hw _ (List.mem_of_getElem? (i := 40) rfl)) (hw _ (List.mem_of_getElem? (i := 39) rfl)) (hw _ (List.mem_of_getElem? (i := 13) rfl)) (hw _ (List.mem_of_getElem? (i := 41) rfl)) (by decide) (c_rej0 l Z a0 hw h38 b35 ec_1 P1_0 hc40 F38_1) pd_8 rfl rfl rfl rfl rfl (Nat.le_of_ble_eq_true rfl) (Nat.le_of_ble_eq_true rfl) (Nat.le_of_ble_eq_true rfl) (Nat.le_of_ble_eq_true rfl) at_138 rfl ?_
        rintro _ _ ⟨rfl, rfl⟩
        show Go _ _ _ _ _ _ _ _ _ _ _ _ 141 #[.val (.int p0), .val (.int p1), .val (.int p2), .val (.int p3), .val (.int p4), .val ec_1, .val (.ref a_2), .val (.int (0 : Int32)), .val (.int (1 : Int32)), .val (.ref b24), .val .null, .val .null, .val (.ref b35), .val (.int (0 : Int32))] [(.int (0 : Int32))]
        refine Go.iload (pc' := 143) at_141 rfl rfl ?_
        refine Go.icmpNo (pc' := 146) at_143 (XT.ii_ne_f (by decide)) rfl ?_
        refine Go.iconst (pc' := 147) (v := (1 : Int32)) at_146 rfl rfl ?_
        refine Go.goto (pc' := 151) at_147 (by decide) (by decide) ?_
        exact Go.retN (t := .boolean) rfl (by simp) at_151 ⟨rfl, K39⟩ (by decide) (by decide)
      ·
        refine Go.nullNo (pc' := 129) at_126 P1_0 hc40 rfl ?_
        refine Go.iconst (pc' := 130) (v := (1 : Int32)) at_129 rfl rfl ?_
        refine Go.goto (pc' := 134) at_130 (by decide) (by decide) ?_
        refine Go.istore (pc' := 136) (Ls' := #[.val (.int p0), .val (.int p1), .val (.int p2), .val (.int p3), .val (.int p4), .val ec_1, .val (.ref a_2), .val (.int (0 : Int32)), .val (.int (1 : Int32)), .val (.ref b24), .val .null, .val .null, .val (.ref b35), .val (.int (1 : Int32))]) at_134 rfl rfl ?_
        refine Go.aload (pc' := 138) at_136 rfl rfl rfl ?_
        refine Go.callV (cells' := 2) (slots' := 8) (pc' := 141) [] [] (A35.keep K38) (hw _ (List.mem_of_getElem? (i := 37) rfl)) (hw _ (List.mem_of_getElem? (i := 38) rfl)) (fun s' hs' => notFace_of_selects (args := #[]) (mvT hs' (hw _ (List.mem_of_getElem? (i := 40) rfl)))) (hw _ (List.mem_of_getElem? (i := 40) rfl)) (hw _ (List.mem_of_getElem? (i := 39) rfl)) (hw _ (List.mem_of_getElem? (i := 13) rfl)) (hw _ (List.mem_of_getElem? (i := 41) rfl)) (by decide) (c_rej1 l Z a0 hw h38 b35 ec_1 P1_0 hc40 F38_1) pd_8 rfl rfl rfl rfl rfl (Nat.le_of_ble_eq_true rfl) (Nat.le_of_ble_eq_true rfl) (Nat.le_of_ble_eq_true rfl) (Nat.le_of_ble_eq_true rfl) at_138 rfl ?_
        rintro _ _ ⟨rfl, rfl⟩
        show Go _ _ _ _ _ _ _ _ _ _ _ _ 141 #[.val (.int p0), .val (.int p1), .val (.int p2), .val (.int p3), .val (.int p4), .val ec_1, .val (.ref a_2), .val (.int (0 : Int32)), .val (.int (1 : Int32)), .val (.ref b24), .val .null, .val .null, .val (.ref b35), .val (.int (1 : Int32))] [(.int (1 : Int32))]
        refine Go.iload (pc' := 143) at_141 rfl rfl ?_
        refine Go.icmpNo (pc' := 146) at_143 (XT.ii_ne_f (by decide)) rfl ?_
        refine Go.iconst (pc' := 147) (v := (1 : Int32)) at_146 rfl rfl ?_
        refine Go.goto (pc' := 151) at_147 (by decide) (by decide) ?_
        exact Go.retN (t := .boolean) rfl (by simp) at_151 ⟨rfl, K39⟩ (by decide) (by decide)
  ·
    refine Go.ifNo (pc' := 21) at_18 (XT.i0_eq_f hc3) rfl ?_
    refine Go.iconst (pc' := 22) (v := (1 : Int32)) at_21 rfl rfl ?_
    refine Go.goto (pc' := 26) at_22 (by decide) (by decide) ?_
    refine Go.istore (pc' := 28) (Ls' := #[.val (.int p0), .val (.int p1), .val (.int p2), .val (.int p3), .val (.int p4), .val ec_1, .val (.ref a_2), .val (.int (1 : Int32)), .unset, .unset, .unset, .unset, .unset, .unset]) at_26 rfl rfl ?_
    refine Go.iloadN (pc' := 29) at_28 rfl rfl ?_
    refine Go.bipush (pc' := 31) (v := (17 : Int32)) at_29 rfl rfl ?_
    refine Go.iushr (pc' := 32) at_31 rfl ?_
    refine Go.iconst (pc' := 33) (v := (1 : Int32)) at_32 rfl rfl ?_
    refine Go.iand (pc' := 34) at_33 rfl ?_
    by_cases hc43 : ((XT.ushr p2 (17 : Int32)) &&& (1 : Int32)) = (0 : Int32)
    ·
      refine Go.ifYes (pc' := 41) at_34 (XT.i0_eq_t hc43) (by decide) (by decide) ?_
      refine Go.iconst (pc' := 42) (v := (0 : Int32)) at_41 rfl rfl ?_
      refine Go.istore (pc' := 44) (Ls' := #[.val (.int p0), .val (.int p1), .val (.int p2), .val (.int p3), .val (.int p4), .val ec_1, .val (.ref a_2), .val (.int (1 : Int32)), .val (.int (0 : Int32)), .unset, .unset, .unset, .unset, .unset]) at_42 rfl rfl ?_
      refine Go.iconst (pc' := 45) (v := (2 : Int32)) at_44 rfl rfl ?_
      refine Go.newarray (pc' := 47) (cells' := 1) (slots' := 2) (cap := 2) (hw _ (List.mem_of_getElem? (i := 10) rfl)) at_45 (ad := "[C") (by decide) (by decide) (by decide) rfl rfl (by decide) (by decide) (by decide) rfl ?_
      intro h44 b44 g44 E44 ge44 kA44 A44 X44
      have sz45 : h.size ≤ b44 := Nat.le_trans (Keep.refl h []).1 (Nat.le_of_eq g44.symm)
      have K46 : Keep h h44 [] := (Keep.refl h []).ext E44
      have V44 : Arv Z h44 b44 kA44 .char (2 : Int32) [(.int 0), (.int 0)] (.int 0) := Arv.pad A44 (pad_rep [] (.int 0) 2)
      refine Go.astore (pc' := 49) (Ls' := #[.val (.int p0), .val (.int p1), .val (.int p2), .val (.int p3), .val (.int p4), .val ec_1, .val (.ref a_2), .val (.int (1 : Int32)), .val (.int (0 : Int32)), .val (.ref b44), .unset, .unset, .unset, .unset]) at_47 rfl rfl rfl ?_
      refine Go.aload (pc' := 51) at_49 rfl rfl rfl ?_
      refine Go.iconst (pc' := 52) (v := (0 : Int32)) at_51 rfl rfl ?_
      refine Go.iloadN (pc' := 53) at_52 rfl rfl ?_
      refine Go.sipush (pc' := 56) (v := (255 : Int32)) at_53 rfl rfl ?_
      refine Go.iand (pc' := 57) at_56 rfl ?_
      refine Go.i2c (pc' := 58) at_57 rfl ?_
      rw [i2c_mask]
      refine Go.castore (pc' := 59) V44 ge44 at_58 (by decide) (by decide) (i := 0) rfl (Nat.le_of_ble_eq_true rfl) rfl ?_
      intro h47 W48 V49
      have K50 : Keep h h47 [] := K46.wr W48 (Or.inr sz45)
      rw [(show nar .char (p2 &&& (255 : Int32)) = (p2 &&& (255 : Int32)) from i2c_mask _)] at V49
      replace V49 : Arv Z h47 b44 kA44 .char (2 : Int32) [(.int (p2 &&& (255 : Int32))), (.int 0)] (.int 0) := V49
      refine Go.aload (pc' := 61) at_59 rfl rfl rfl ?_
      refine Go.iconst (pc' := 62) (v := (1 : Int32)) at_61 rfl rfl ?_
      refine Go.iloadN (pc' := 63) at_62 rfl rfl ?_
      refine Go.bipush (pc' := 65) (v := (8 : Int32)) at_63 rfl rfl ?_
      refine Go.iushr (pc' := 66) at_65 rfl ?_
      refine Go.sipush (pc' := 69) (v := (255 : Int32)) at_66 rfl rfl ?_
      refine Go.iand (pc' := 70) at_69 rfl ?_
      refine Go.i2c (pc' := 71) at_70 rfl ?_
      rw [i2c_mask]
      refine Go.castore (pc' := 72) V49 ge44 at_71 (by decide) (by decide) (i := 1) rfl (Nat.le_of_ble_eq_true rfl) rfl ?_
      intro h51 W52 V53
      have K54 : Keep h h51 [] := K50.wr W52 (Or.inr sz45)
      rw [(show nar .char ((XT.ushr p2 (8 : Int32)) &&& (255 : Int32)) = ((XT.ushr p2 (8 : Int32)) &&& (255 : Int32)) from i2c_mask _)] at V53
      replace V53 : Arv Z h51 b44 kA44 .char (2 : Int32) [(.int (p2 &&& (255 : Int32))), (.int ((XT.ushr p2 (8 : Int32)) &&& (255 : Int32)))] (.int 0) := V53
      refine Go.iload (pc' := 74) at_72 rfl rfl ?_
      refine Go.ifNo (pc' := 77) at_74 (XT.i0_eq_f (by decide)) rfl ?_
      refine Go.new (pc' := 80) (cells' := 2) (slots' := 6) (hw _ (List.mem_of_getElem? (i := 51) rfl)) (hw _ (List.mem_of_getElem? (i := 52) rfl)) (hw _ (List.mem_of_getElem? (i := 53) rfl)) at_77 rfl rfl (by decide) (by decide) rfl ?_
      intro h55 b55 g55 E55 ge55 A55 D55
      have sz56 : h.size ≤ b55 := Nat.le_trans K54.1 (Nat.le_of_eq g55.symm)
      have K57 : Keep h h55 [] := K54.ext E55
      refine Go.dup (pc' := 81) at_80 rfl rfl ?_
      refine Go.aload (pc' := 83) at_81 rfl rfl rfl ?_
      refine Go.callC (cells' := 3) (slots' := 8) (pc' := 86) [(.ref b44)] [(.ref b55)] (a := b55) rfl rfl (hw _ (List.mem_of_getElem? (i := 54) rfl)) (hw _ (List.mem_of_getElem? (i := 55) rfl)) (hw _ (List.mem_of_getElem? (i := 53) rfl)) (hw _ (List.mem_of_getElem? (i := 56) rfl)) (by decide) (c_strInit2 l Z a0 hw h55 b55 b44 kA44 ((p2 &&& (255 : Int32))) (((XT.ushr p2 (8 : Int32)) &&& (255 : Int32))) cp (OwnNum.le255 _) (OwnNum.le255 _) hcp scp ge55 A55 ((D55 (Or.inr (hw _ (List.mem_of_getElem? (i := 77) rfl))) (ty := (.array .byte)) (by decide) : Fld Z h55 b55 "java/lang/String" "value" "[B" .null)) ((D55 (Or.inr (hw _ (List.mem_of_getElem? (i := 75) rfl))) (ty := .byte) (by decide) : Fld Z h55 b55 "java/lang/String" "coder" "B" (.int (0 : Int32)))) (V53.ext E55)) pd_9 rfl rfl rfl rfl rfl (Nat.le_of_ble_eq_true rfl) (Nat.le_of_ble_eq_true rfl) (Nat.le_of_ble_eq_true rfl) (Nat.le_of_ble_eq_true rfl) at_83 rfl ?_
      rintro _ h58 ⟨b_58, kb_58, rfl, K58, ge_b_58, sz_b_58, F58_0, F58_1, F58_2⟩
      have sz59 : h.size ≤ b_58 := Nat.le_trans K57.1 sz_b_58
      have K60 : Keep h h58 [] := K57.trans K58 (allS (Or.inr sz56) all0)
      show Go _ _ _ _ _ _ _ _ _ _ _ _ 86 #[.val (.int p0), .val (.int p1), .val (.int p2), .val (.int p3), .val (.int p4), .val ec_1, .val (.ref a_2), .val (.int (1 : Int32)), .val (.int (0 : Int32)), .val (.ref b44), .unset, .unset, .unset, .unset] [(.ref b55)]
      refine Go.goto (pc' := 90) at_86 (by decide) (by decide) ?_
      refine Go.astore (pc' := 92) (Ls' := #[.val (.int p0), .val (.int p1), .val (.int p2), .val (.int p3), .val (.int p4), .val ec_1, .val (.ref a_2), .val (.int (1 : Int32)), .val (.int (0 : Int32)), .val (.ref b44), .val (.ref b55), .unset, .unset, .unset]) at_90 rfl rfl rfl ?_
      refine Go.iload (pc' := 94) at_92 rfl rfl ?_
      refine Go.ifYes (pc' := 101) at_94 (XT.i0_eq_t (by decide)) (by decide) (by decide) ?_
      refine Go.aload (pc' := 103) at_101 rfl rfl rfl ?_
      refine Go.astore (pc' := 105) (Ls' := #[.val (.int p0), .val (.int p1), .val (.int p2), .val (.int p3), .val (.int p4), .val ec_1, .val (.ref a_2), .val (.int (1 : Int32)), .val (.int (0 : Int32)), .val (.ref b44), .val (.ref b55), .val (.ref a_2), .unset, .unset]) at_103 rfl rfl rfl ?_
      refine Go.new (pc' := 108) (cells' := 4) (slots' := 14) (hw _ (List.mem_of_getElem? (i := 11) rfl)) (hw _ (List.mem_of_getElem? (i := 12) rfl)) (hw _ (List.mem_of_getElem? (i := 13) rfl)) at_105 rfl rfl (by decide) (by decide) rfl ?_
      intro h61 b61 g61 E61 ge61 A61 D61
      have sz62 : h.size ≤ b61 := Nat.le_trans K60.1 (Nat.le_of_eq g61.symm)
      have K63 : Keep h h61 [] := K60.ext E61
      refine Go.dup (pc' := 109) at_108 rfl rfl ?_
      refine Go.aload (pc' := 111) at_109 rfl rfl rfl ?_
      refine Go.aload (pc' := 113) at_111 rfl P1_0 rfl ?_
      refine Go.aload (pc' := 115) at_113 rfl rfl rfl ?_
      refine Go.iloadN (pc' := 116) at_115 rfl rfl ?_
      refine Go.iload (pc' := 118) at_116 rfl rfl ?_
      refine Go.aconstNull (pc' := 119) at_118 rfl ?_
      refine Go.callC (cells' := 4) (slots' := 14) (pc' := 122) [(.ref a_2), ec_1, (.ref b55), (.int p3), (.int p4), .null] [(.ref b61)] (a := b61) rfl rfl (hw _ (List.mem_of_getElem? (i := 14) rfl)) (hw _ (List.mem_of_getElem? (i := 15) rfl)) (hw _ (List.mem_of_getElem? (i := 13) rfl)) (hw _ (List.mem_of_getElem? (i := 16) rfl)) (by decide) (c_init l Z a0 hw h61 b61 (.ref a_2) ec_1 (.ref b55) p3 p4 rfl P1_0 rfl ge61 A61 ((D61 (Or.inr (hw _ (List.mem_of_getElem? (i := 26) rfl))) (ty := (.object "com/example/episodic/episodic/Statement$Kind")) (by decide) : Fld Z h61 b61 "com/example/episodic/episodic/StatementResult" "kind" "Lcom/example/episodic/episodic/Statement$Kind;" .null)) ((D61 (Or.inr (hw _ (List.mem_of_getElem? (i := 28) rfl))) (ty := (.object "com/example/episodic/episodic/ErrorClass")) (by decide) : Fld Z h61 b61 "com/example/episodic/episodic/StatementResult" "errorClass" "Lcom/example/episodic/episodic/ErrorClass;" .null)) ((D61 (Or.inr (hw _ (List.mem_of_getElem? (i := 30) rfl))) (ty := (.object "java/lang/String")) (by decide) : Fld Z h61 b61 "com/example/episodic/episodic/StatementResult" "message" "Ljava/lang/String;" .null)) ((D61 (Or.inr (hw _ (List.mem_of_getElem? (i := 32) rfl))) (ty := .int) (by decide) : Fld Z h61 b61 "com/example/episodic/episodic/StatementResult" "withdrawn" "I" (.int (0 : Int32)))) ((D61 (Or.inr (hw _ (List.mem_of_getElem? (i := 34) rfl))) (ty := .int) (by decide) : Fld Z h61 b61 "com/example/episodic/episodic/StatementResult" "created" "I" (.int (0 : Int32)))) ((D61 (Or.inr (hw _ (List.mem_of_getElem? (i := 36) rfl))) (ty := (.object "com/example/episodic/episodic/Rows")) (by decide) : Fld Z h61 b61 "com/example/episodic/episodic/StatementResult" "rows" "Lcom/example/episodic/episodic/Rows;" .null))) pd_7 rfl rfl rfl rfl rfl (Nat.le_of_ble_eq_true rfl) (Nat.le_of_ble_eq_true rfl) (Nat.le_of_ble_eq_true rfl) (Nat.le_of_ble_eq_true rfl) at_119 rfl ?_
      rintro _ h64 ⟨rfl, K64, F64_0, F64_1, F64_2, F64_3, F64_4, F64_5⟩
      have K65 : Keep h h64 [] := K63.trans K64 (allS (Or.inr sz62) all0)
      show Go _ _ _ _ _ _ _ _ _ _ _ _ 122 #[.val (.int p0), .val (.int p1), .val (.int p2), .val (.int p3), .val (.int p4), .val ec_1, .val (.ref a_2), .val (.int (1 : Int32)), .val (.int (0 : Int32)), .val (.ref b44), .val (.ref b55), .val (.ref a_2), .unset, .unset] [(.ref b61)]
      refine Go.astore (pc' := 124) (Ls' := #[.val (.int p0), .val (.int p1), .val (.int p2), .val (.int p3), .val (.int p4), .val ec_1, .val (.ref a_2), .val (.int (1 : Int32)), .val (.int (0 : Int32)), .val (.ref b44), .val (.ref b55), .val (.ref a_2), .val (.ref b61), .unset]) at_122 rfl rfl rfl ?_
      refine Go.aload (pc' := 126) at_124 rfl P1_0 rfl ?_
      by_cases hc66 : ec_1 = .null
      ·
        refine Go.nullYes (pc' := 133) at_126 hc66 (by decide) (by decide) ?_
        refine Go.iconst (pc' := 134) (v := (0 : Int32)) at_133 rfl rfl ?_
        refine Go.istore (pc' := 136) (Ls' := #[.val (.int p0), .val (.int p1), .val (.int p2), .val (.int p3), .val (.int p4), .val ec_1, .val (.ref a_2), .val (.int (1 : Int32)), .val (.int (0 : Int32)), .val (.ref b44), .val (.ref b55), .val (.ref a_2), .val (.ref b61), .val (.int (0 : Int32))]) at_134 rfl rfl ?_
        refine Go.aload (pc' := 138) at_136 rfl rfl rfl ?_
        refine Go.callV (cells' := 4) (slots' := 14) (pc' := 141) [] [] (A61.keep K64) (hw _ (List.mem_of_getElem? (i := 37) rfl)) (hw _ (List.mem_of_getElem? (i := 38) rfl)) (fun s' hs' => notFace_of_selects (args := #[]) (mvT hs' (hw _ (List.mem_of_getElem? (i := 40) rfl)))) (hw _ (List.mem_of_getElem? (i := 40) rfl)) (hw _ (List.mem_of_getElem? (i := 39) rfl)) (hw _ (List.mem_of_getElem? (i := 13) rfl)) (hw _ (List.mem_of_getElem? (i := 41) rfl)) (by decide) (c_rej0 l Z a0 hw h64 b61 ec_1 P1_0 hc66 F64_1) pd_8 rfl rfl rfl rfl rfl (Nat.le_of_ble_eq_true rfl) (Nat.le_of_ble_eq_true rfl) (Nat.le_of_ble_eq_true rfl) (Nat.le_of_ble_eq_true rfl) at_138 rfl ?_
        rintro _ _ ⟨rfl, rfl⟩
        show Go _ _ _ _ _ _ _ _ _ _ _ _ 141 #[.val (.int p0), .val (.int p1), .val (.int p2), .val (.int p3), .val (.int p4), .val ec_1, .val (.ref a_2), .val (.int (1 : Int32)), .val (.int (0 : Int32)), .val (.ref b44), .val (.ref b55), .val (.ref a_2), .val (.ref b61), .val (.int (0 : Int32))] [(.int (0 : Int32))]
        refine Go.iload (pc' := 143) at_141 rfl rfl ?_
        refine Go.icmpNo (pc' := 146) at_143 (XT.ii_ne_f (by decide)) rfl ?_
        refine Go.iconst (pc' := 147) (v := (1 : Int32)) at_146 rfl rfl ?_
        refine Go.goto (pc' := 151) at_147 (by decide) (by decide) ?_
        exact Go.retN (t := .boolean) rfl (by simp) at_151 ⟨rfl, K65⟩ (by decide) (by decide)
      ·
        refine Go.nullNo (pc' := 129) at_126 P1_0 hc66 rfl ?_
        refine Go.iconst (pc' := 130) (v := (1 : Int32)) at_129 rfl rfl ?_
        refine Go.goto (pc' := 134) at_130 (by decide) (by decide) ?_
        refine Go.istore (pc' := 136) (Ls' := #[.val (.int p0), .val (.int p1), .val (.int p2), .val (.int p3), .val (.int p4), .val ec_1, .val (.ref a_2), .val (.int (1 : Int32)), .val (.int (0 : Int32)), .val (.ref b44), .val (.ref b55), .val (.ref a_2), .val (.ref b61), .val (.int (1 : Int32))]) at_134 rfl rfl ?_
        refine Go.aload (pc' := 138) at_136 rfl rfl rfl ?_
        refine Go.callV (cells' := 4) (slots' := 14) (pc' := 141) [] [] (A61.keep K64) (hw _ (List.mem_of_getElem? (i := 37) rfl)) (hw _ (List.mem_of_getElem? (i := 38) rfl)) (fun s' hs' => notFace_of_selects (args := #[]) (mvT hs' (hw _ (List.mem_of_getElem? (i := 40) rfl)))) (hw _ (List.mem_of_getElem? (i := 40) rfl)) (hw _ (List.mem_of_getElem? (i := 39) rfl)) (hw _ (List.mem_of_getElem? (i := 13) rfl)) (hw _ (List.mem_of_getElem? (i := 41) rfl)) (by decide) (c_rej1 l Z a0 hw h64 b61 ec_1 P1_0 hc66 F64_1) pd_8 rfl rfl rfl rfl rfl (Nat.le_of_ble_eq_true rfl) (Nat.le_of_ble_eq_true rfl) (Nat.le_of_ble_eq_true rfl) (Nat.le_of_ble_eq_true rfl) at_138 rfl ?_
        rintro _ _ ⟨rfl, rfl⟩
        show Go _ _ _ _ _ _ _ _ _ _ _ _ 141 #[.val (.int p0), .val (.int p1), .val (.int p2), .val (.int p3), .val (.int p4), .val ec_1, .val (.ref a_2), .val (.int (1 : Int32)), .val (.int (0 : Int32)), .val (.ref b44), .val (.ref b55), .val (.ref a_2), .val (.ref b61), .val (.int (1 : Int32))] [(.int (1 : Int32))]
        refine Go.iload (pc' := 143) at_141 rfl rfl ?_
        refine Go.icmpNo (pc' := 146) at_143 (XT.ii_ne_f (by decide)) rfl ?_
        refine Go.iconst (pc' := 147) (v := (1 : Int32)) at_146 rfl rfl ?_
        refine Go.goto (pc' := 151) at_147 (by decide) (by decide) ?_
        exact Go.retN (t := .boolean) rfl (by simp) at_151 ⟨rfl, K65⟩ (by decide) (by decide)
    ·
      refine Go.ifNo (pc' := 37) at_34 (XT.i0_eq_f hc43) rfl ?_
      refine Go.iconst (pc' := 38) (v := (1 : Int32)) at_37 rfl rfl ?_
      refine Go.goto (pc' := 42) at_38 (by decide) (by decide) ?_
      refine Go.istore (pc' := 44) (Ls' := #[.val (.int p0), .val (.int p1), .val (.int p2), .val (.int p3), .val (.int p4), .val ec_1, .val (.ref a_2), .val (.int (1 : Int32)), .val (.int (1 : Int32)), .unset, .unset, .unset, .unset, .unset]) at_42 rfl rfl ?_
      refine Go.iconst (pc' := 45) (v := (2 : Int32)) at_44 rfl rfl ?_
      refine Go.newarray (pc' := 47) (cells' := 1) (slots' := 2) (cap := 2) (hw _ (List.mem_of_getElem? (i := 10) rfl)) at_45 (ad := "[C") (by decide) (by decide) (by decide) rfl rfl (by decide) (by decide) (by decide) rfl ?_
      intro h69 b69 g69 E69 ge69 kA69 A69 X69
      have sz70 : h.size ≤ b69 := Nat.le_trans (Keep.refl h []).1 (Nat.le_of_eq g69.symm)
      have K71 : Keep h h69 [] := (Keep.refl h []).ext E69
      have V69 : Arv Z h69 b69 kA69 .char (2 : Int32) [(.int 0), (.int 0)] (.int 0) := Arv.pad A69 (pad_rep [] (.int 0) 2)
      refine Go.astore (pc' := 49) (Ls' := #[.val (.int p0), .val (.int p1), .val (.int p2), .val (.int p3), .val (.int p4), .val ec_1, .val (.ref a_2), .val (.int (1 : Int32)), .val (.int (1 : Int32)), .val (.ref b69), .unset, .unset, .unset, .unset]) at_47 rfl rfl rfl ?_
      refine Go.aload (pc' := 51) at_49 rfl rfl rfl ?_
      refine Go.iconst (pc' := 52) (v := (0 : Int32)) at_51 rfl rfl ?_
      refine Go.iloadN (pc' := 53) at_52 rfl rfl ?_
      refine Go.sipush (pc' := 56) (v := (255 : Int32)) at_53 rfl rfl ?_
      refine Go.iand (pc' := 57) at_56 rfl ?_
      refine Go.i2c (pc' := 58) at_57 rfl ?_
      rw [i2c_mask]
      refine Go.castore (pc' := 59) V69 ge69 at_58 (by decide) (by decide) (i := 0) rfl (Nat.le_of_ble_eq_true rfl) rfl ?_
      intro h72 W73 V74
      have K75 : Keep h h72 [] := K71.wr W73 (Or.inr sz70)
      rw [(show nar .char (p2 &&& (255 : Int32)) = (p2 &&& (255 : Int32)) from i2c_mask _)] at V74
      replace V74 : Arv Z h72 b69 kA69 .char (2 : Int32) [(.int (p2 &&& (255 : Int32))), (.int 0)] (.int 0) := V74
      refine Go.aload (pc' := 61) at_59 rfl rfl rfl ?_
      refine Go.iconst (pc' := 62) (v := (1 : Int32)) at_61 rfl rfl ?_
      refine Go.iloadN (pc' := 63) at_62 rfl rfl ?_
      refine Go.bipush (pc' := 65) (v := (8 : Int32)) at_63 rfl rfl ?_
      refine Go.iushr (pc' := 66) at_65 rfl ?_
      refine Go.sipush (pc' := 69) (v := (255 : Int32)) at_66 rfl rfl ?_
      refine Go.iand (pc' := 70) at_69 rfl ?_
      refine Go.i2c (pc' := 71) at_70 rfl ?_
      rw [i2c_mask]
      refine Go.castore (pc' := 72) V74 ge69 at_71 (by decide) (by decide) (i := 1) rfl (Nat.le_of_ble_eq_true rfl) rfl ?_
      intro h76 W77 V78
      have K79 : Keep h h76 [] := K75.wr W77 (Or.inr sz70)
      rw [(show nar .char ((XT.ushr p2 (8 : Int32)) &&& (255 : Int32)) = ((XT.ushr p2 (8 : Int32)) &&& (255 : Int32)) from i2c_mask _)] at V78
      replace V78 : Arv Z h76 b69 kA69 .char (2 : Int32) [(.int (p2 &&& (255 : Int32))), (.int ((XT.ushr p2 (8 : Int32)) &&& (255 : Int32)))] (.int 0) := V78
      refine Go.iload (pc' := 74) at_72 rfl rfl ?_
      refine Go.ifNo (pc' := 77) at_74 (XT.i0_eq_f (by decide)) rfl ?_
      refine Go.new (pc' := 80) (cells' := 2) (slots' := 6) (hw _ (List.mem_of_getElem? (i := 51) rfl)) (hw _ (List.mem_of_getElem? (i := 52) rfl)) (hw _ (List.mem_of_getElem? (i := 53) rfl)) at_77 rfl rfl (by decide) (by decide) rfl ?_
      intro h80 b80 g80 E80 ge80 A80 D80
      have sz81 : h.size ≤ b80 := Nat.le_trans K79.1 (Nat.le_of_eq g80.symm)
      have K82 : Keep h h80 [] := K79.ext E80
      refine Go.dup (pc' := 81) at_80 rfl rfl ?_
      refine Go.aload (pc' := 83) at_81 rfl rfl rfl ?_
      refine Go.callC (cells' := 3) (slots' := 8) (pc' := 86) [(.ref b69)] [(.ref b80)] (a := b80) rfl rfl (hw _ (List.mem_of_getElem? (i := 54) rfl)) (hw _ (List.mem_of_getElem? (i := 55) rfl)) (hw _ (List.mem_of_getElem? (i := 53) rfl)) (hw _ (List.mem_of_getElem? (i := 56) rfl)) (by decide) (c_strInit2 l Z a0 hw h80 b80 b69 kA69 ((p2 &&& (255 : Int32))) (((XT.ushr p2 (8 : Int32)) &&& (255 : Int32))) cp (OwnNum.le255 _) (OwnNum.le255 _) hcp scp ge80 A80 ((D80 (Or.inr (hw _ (List.mem_of_getElem? (i := 77) rfl))) (ty := (.array .byte)) (by decide) : Fld Z h80 b80 "java/lang/String" "value" "[B" .null)) ((D80 (Or.inr (hw _ (List.mem_of_getElem? (i := 75) rfl))) (ty := .byte) (by decide) : Fld Z h80 b80 "java/lang/String" "coder" "B" (.int (0 : Int32)))) (V78.ext E80)) pd_9 rfl rfl rfl rfl rfl (Nat.le_of_ble_eq_true rfl) (Nat.le_of_ble_eq_true rfl) (Nat.le_of_ble_eq_true rfl) (Nat.le_of_ble_eq_true rfl) at_83 rfl ?_
      rintro _ h83 ⟨b_83, kb_83, rfl, K83, ge_b_83, sz_b_83, F83_0, F83_1, F83_2⟩
      have sz84 : h.size ≤ b_83 := Nat.le_trans K82.1 sz_b_83
      have K85 : Keep h h83 [] := K82.trans K83 (allS (Or.inr sz81) all0)
      show Go _ _ _ _ _ _ _ _ _ _ _ _ 86 #[.val (.int p0), .val (.int p1), .val (.int p2), .val (.int p3), .val (.int p4), .val ec_1, .val (.ref a_2), .val (.int (1 : Int32)), .val (.int (1 : Int32)), .val (.ref b69), .unset, .unset, .unset, .unset] [(.ref b80)]
      refine Go.goto (pc' := 90) at_86 (by decide) (by decide) ?_
      refine Go.astore (pc' := 92) (Ls' := #[.val (.int p0), .val (.int p1), .val (.int p2), .val (.int p3), .val (.int p4), .val ec_1, .val (.ref a_2), .val (.int (1 : Int32)), .val (.int (1 : Int32)), .val (.ref b69), .val (.ref b80), .unset, .unset, .unset]) at_90 rfl rfl rfl ?_
      refine Go.iload (pc' := 94) at_92 rfl rfl ?_
      refine Go.ifNo (pc' := 97) at_94 (XT.i0_eq_f (by decide)) rfl ?_
      refine Go.aconstNull (pc' := 98) at_97 rfl ?_
      refine Go.goto (pc' := 103) at_98 (by decide) (by decide) ?_
      refine Go.astore (pc' := 105) (Ls' := #[.val (.int p0), .val (.int p1), .val (.int p2), .val (.int p3), .val (.int p4), .val ec_1, .val (.ref a_2), .val (.int (1 : Int32)), .val (.int (1 : Int32)), .val (.ref b69), .val (.ref b80), .val .null, .unset, .unset]) at_103 rfl rfl rfl ?_
      refine Go.new (pc' := 108) (cells' := 4) (slots' := 14) (hw _ (List.mem_of_getElem? (i := 11) rfl)) (hw _ (List.mem_of_getElem? (i := 12) rfl)) (hw _ (List.mem_of_getElem? (i := 13) rfl)) at_105 rfl rfl (by decide) (by decide) rfl ?_
      intro h86 b86 g86 E86 ge86 A86 D86
      have sz87 : h.size ≤ b86 := Nat.le_trans K85.1 (Nat.le_of_eq g86.symm)
      have K88 : Keep h h86 [] := K85.ext E86
      refine Go.dup (pc' := 109) at_108 rfl rfl ?_
      refine Go.aload (pc' := 111) at_109 rfl rfl rfl ?_
      refine Go.aload (pc' := 113) at_111 rfl P1_0 rfl ?_
      refine Go.aload (pc' := 115) at_113 rfl rfl rfl ?_
      refine Go.iloadN (pc' := 116) at_115 rfl rfl ?_
      refine Go.iload (pc' := 118) at_116 rfl rfl ?_
      refine Go.aconstNull (pc' := 119) at_118 rfl ?_
      refine Go.callC (cells' := 4) (slots' := 14) (pc' := 122) [.null, ec_1, (.ref b80), (.int p3), (.int p4), .null] [(.ref b86)] (a := b86) rfl rfl (hw _ (List.mem_of_getElem? (i := 14) rfl)) (hw _ (List.mem_of_getElem? (i := 15) rfl)) (hw _ (List.mem_of_getElem? (i := 13) rfl)) (hw _ (List.mem_of_getElem? (i := 16) rfl)) (by decide) (c_init l Z a0 hw h86 b86 .null ec_1 (.ref b80) p3 p4 rfl P1_0 rfl ge86 A86 ((D86 (Or.inr (hw _ (List.mem_of_getElem? (i := 26) rfl))) (ty := (.object "com/example/episodic/episodic/Statement$Kind")) (by decide) : Fld Z h86 b86 "com/example/episodic/episodic/StatementResult" "kind" "Lcom/example/episodic/episodic/Statement$Kind;" .null)) ((D86 (Or.inr (hw _ (List.mem_of_getElem? (i := 28) rfl))) (ty := (.object "com/example/episodic/episodic/ErrorClass")) (by decide) : Fld Z h86 b86 "com/example/episodic/episodic/StatementResult" "errorClass" "Lcom/example/episodic/episodic/ErrorClass;" .null)) ((D86 (Or.inr (hw _ (List.mem_of_getElem? (i := 30) rfl))) (ty := (.object "java/lang/String")) (by decide) : Fld Z h86 b86 "com/example/episodic/episodic/StatementResult" "message" "Ljava/lang/String;" .null)) ((D86 (Or.inr (hw _ (List.mem_of_getElem? (i := 32) rfl))) (ty := .int) (by decide) : Fld Z h86 b86 "com/example/episodic/episodic/StatementResult" "withdrawn" "I" (.int (0 : Int32)))) ((D86 (Or.inr (hw _ (List.mem_of_getElem? (i := 34) rfl))) (ty := .int) (by decide) : Fld Z h86 b86 "com/example/episodic/episodic/StatementResult" "created" "I" (.int (0 : Int32)))) ((D86 (Or.inr (hw _ (List.mem_of_getElem? (i := 36) rfl))) (ty := (.object "com/example/episodic/episodic/Rows")) (by decide) : Fld Z h86 b86 "com/example/episodic/episodic/StatementResult" "rows" "Lcom/example/episodic/episodic/Rows;" .null))) pd_7 rfl rfl rfl rfl rfl (Nat.le_of_ble_eq_true rfl) (Nat.le_of_ble_eq_true rfl) (Nat.le_of_ble_eq_true rfl) (Nat.le_of_ble_eq_true rfl) at_119 rfl ?_
      rintro _ h89 ⟨rfl, K89, F89_0, F89_1, F89_2, F89_3, F89_4, F89_5⟩
      have K90 : Keep h h89 [] := K88.trans K89 (allS (Or.inr sz87) all0)
      show Go _ _ _ _ _ _ _ _ _ _ _ _ 122 #[.val (.int p0), .val (.int p1), .val (.int p2), .val (.int p3), .val (.int p4), .val ec_1, .val (.ref a_2), .val (.int (1 : Int32)), .val (.int (1 : Int32)), .val (.ref b69), .val (.ref b80), .val .null, .unset, .unset] [(.ref b86)]
      refine Go.astore (pc' := 124) (Ls' := #[.val (.int p0), .val (.int p1), .val (.int p2), .val (.int p3), .val (.int p4), .val ec_1, .val (.ref a_2), .val (.int (1 : Int32)), .val (.int (1 : Int32)), .val (.ref b69), .val (.ref b80), .val .null, .val (.ref b86), .unset]) at_122 rfl rfl rfl ?_
      refine Go.aload (pc' := 126) at_124 rfl P1_0 rfl ?_
      by_cases hc91 : ec_1 = .null
      ·
        refine Go.nullYes (pc' := 133) at_126 hc91 (by decide) (by decide) ?_
        refine Go.iconst (pc' := 134) (v := (0 : Int32)) at_133 rfl rfl ?_
        refine Go.istore (pc' := 136) (Ls' := #[.val (.int p0), .val (.int p1), .val (.int p2), .val (.int p3), .val (.int p4), .val ec_1, .val (.ref a_2), .val (.int (1 : Int32)), .val (.int (1 : Int32)), .val (.ref b69), .val (.ref b80), .val .null, .val (.ref b86), .val (.int (0 : Int32))]) at_134 rfl rfl ?_
        refine Go.aload (pc' := 138) at_136 rfl rfl rfl ?_
        refine Go.callV (cells' := 4) (slots' := 14) (pc' := 141) [] [] (A86.keep K89) (hw _ (List.mem_of_getElem? (i := 37) rfl)) (hw _ (List.mem_of_getElem? (i := 38) rfl)) (fun s' hs' => notFace_of_selects (args := #[]) (mvT hs' (hw _ (List.mem_of_getElem? (i := 40) rfl)))) (hw _ (List.mem_of_getElem? (i := 40) rfl)) (hw _ (List.mem_of_getElem? (i := 39) rfl)) (hw _ (List.mem_of_getElem? (i := 13) rfl)) (hw _ (List.mem_of_getElem? (i := 41) rfl)) (by decide) (c_rej0 l Z a0 hw h89 b86 ec_1 P1_0 hc91 F89_1) pd_8 rfl rfl rfl rfl rfl (Nat.le_of_ble_eq_true rfl) (Nat.le_of_ble_eq_true rfl) (Nat.le_of_ble_eq_true rfl) (Nat.le_of_ble_eq_true rfl) at_138 rfl ?_
        rintro _ _ ⟨rfl, rfl⟩
        show Go _ _ _ _ _ _ _ _ _ _ _ _ 141 #[.val (.int p0), .val (.int p1), .val (.int p2), .val (.int p3), .val (.int p4), .val ec_1, .val (.ref a_2), .val (.int (1 : Int32)), .val (.int (1 : Int32)), .val (.ref b69), .val (.ref b80), .val .null, .val (.ref b86), .val (.int (0 : Int32))] [(.int (0 : Int32))]
        refine Go.iload (pc' := 143) at_141 rfl rfl ?_
        refine Go.icmpNo (pc' := 146) at_143 (XT.ii_ne_f (by decide)) rfl ?_
        refine Go.iconst (pc' := 147) (v := (1 : Int32)) at_146 rfl rfl ?_
        refine Go.goto (pc' := 151) at_147 (by decide) (by decide) ?_
        exact Go.retN (t := .boolean) rfl (by simp) at_151 ⟨rfl, K90⟩ (by decide) (by decide)
      ·
        refine Go.nullNo (pc' := 129) at_126 P1_0 hc91 rfl ?_
        refine Go.iconst (pc' := 130) (v := (1 : Int32)) at_129 rfl rfl ?_
        refine Go.goto (pc' := 134) at_130 (by decide) (by decide) ?_
        refine Go.istore (pc' := 136) (Ls' := #[.val (.int p0), .val (.int p1), .val (.int p2), .val (.int p3), .val (.int p4), .val ec_1, .val (.ref a_2), .val (.int (1 : Int32)), .val (.int (1 : Int32)), .val (.ref b69), .val (.ref b80), .val .null, .val (.ref b86), .val (.int (1 : Int32))]) at_134 rfl rfl ?_
        refine Go.aload (pc' := 138) at_136 rfl rfl rfl ?_
        refine Go.callV (cells' := 4) (slots' := 14) (pc' := 141) [] [] (A86.keep K89) (hw _ (List.mem_of_getElem? (i := 37) rfl)) (hw _ (List.mem_of_getElem? (i := 38) rfl)) (fun s' hs' => notFace_of_selects (args := #[]) (mvT hs' (hw _ (List.mem_of_getElem? (i := 40) rfl)))) (hw _ (List.mem_of_getElem? (i := 40) rfl)) (hw _ (List.mem_of_getElem? (i := 39) rfl)) (hw _ (List.mem_of_getElem? (i := 13) rfl)) (hw _ (List.mem_of_getElem? (i := 41) rfl)) (by decide) (c_rej1 l Z a0 hw h89 b86 ec_1 P1_0 hc91 F89_1) pd_8 rfl rfl rfl rfl rfl (Nat.le_of_ble_eq_true rfl) (Nat.le_of_ble_eq_true rfl) (Nat.le_of_ble_eq_true rfl) (Nat.le_of_ble_eq_true rfl) at_138 rfl ?_
        rintro _ _ ⟨rfl, rfl⟩
        show Go _ _ _ _ _ _ _ _ _ _ _ _ 141 #[.val (.int p0), .val (.int p1), .val (.int p2), .val (.int p3), .val (.int p4), .val ec_1, .val (.ref a_2), .val (.int (1 : Int32)), .val (.int (1 : Int32)), .val (.ref b69), .val (.ref b80), .val .null, .val (.ref b86), .val (.int (1 : Int32))] [(.int (1 : Int32))]
        refine Go.iload (pc' := 143) at_141 rfl rfl ?_
        refine Go.icmpNo (pc' := 146) at_143 (XT.ii_ne_f (by decide)) rfl ?_
        refine Go.iconst (pc' := 147) (v := (1 : Int32)) at_146 rfl rfl ?_
        refine Go.goto (pc' := 151) at_147 (by decide) (by decide) ?_
        exact Go.retN (t := .boolean) rfl (by simp) at_151 ⟨rfl, K90⟩ (by decide) (by decide)
set_option maxRecDepth 65536 in
set_option maxHeartbeats 4000000 in
theorem comes_1 {Post : Tables → Env → Array Value → State → Outcome → State → Prop} (hpost : ∀ tb e args s v u, (limb_1_1.after args s (.returned v) u = true ∧ limb_1_2.after args s (.returned v) u = true ∧ True) → FrameEnd s (.returned v) u (Jvm.fieldLocs frame_1_writes args s ++ Jvm.arrayLocs frame_1_arrays args s ++ Jvm.staticLocs frame_1_statics s) 16 128 → Post tb e args s (.returned v) u) :
    ArmFor flags0 classFile x code maxLocals ret World_1 tables_1 room_1 Calls_1 rest_1 Pre_1 Post := by
  intro l hfl _ _ p e ha hc hk s m args below hf hA hF happ hP
  obtain ⟨hcalls, hrest, hpre⟩ := hP
  obtain ⟨-, -, -, hnamed, -, -, -, hat⟩ := (Spec.applies_iff hf).mp happ
  obtain ⟨hg, hn⟩ := and_e (Cond.before_iff.mp (show (Jvm.Cond.and given_1 narrow_1).before args s = true from hpre))
  obtain ⟨g1, g2⟩ := and_e hg
  obtain ⟨g3, g4⟩ := and_e g2
  obtain ⟨g5, g6⟩ := and_e g4
  obtain ⟨g7, g8⟩ := and_e g6
  obtain ⟨g9, g10⟩ := and_e g8
  obtain ⟨w0, w1, w2, w3, w4, rfl⟩ : ∃ w0 w1 w2 w3 w4 : Value, args = #[w0, w1, w2, w3, w4] := by
    have hs : args.size = 5 := by simpa [Cond.value, given_1] using g1
    obtain ⟨L⟩ := args
    match L, hs with
    | [w0, w1, w2, w3, w4], _ => exact ⟨w0, w1, w2, w3, w4, rfl⟩
  have hw := fun d (hd : d ∈ tables_1) => atoms_spec (ws := Jvm.Cond.code x code maxLocals ret :: tables_1) hat d (List.mem_cons_of_mem _ hd)
  have hfit : Fit s := fun {y c} hc i hi => by
    obtain ⟨ha, rfl⟩ := Array.getElem?_eq_some_iff.mp hc
    have q := List.all_eq_true.mp ((Array.all_eq_true_iff_forall_mem.mp hF) _ (Array.getElem_mem ha)) i (List.mem_range.mpr hi)
    simpa [Array.getElem?_eq_getElem hi] using q
  obtain ⟨hsets, hown0⟩ := atoms_of _ (rest_1_c_eq ▸ (show rest_1_c.before _ s = true from hrest))
  have hr0 := Cond.before_iff.mp hown0
  obtain ⟨i0, ei0⟩ := is_v g3
  obtain rfl : w0 = (.int i0) := Option.some.inj ei0
  obtain ⟨i1, ei1⟩ := is_v g5
  obtain rfl : w1 = (.int i1) := Option.some.inj ei1
  obtain ⟨i2, ei2⟩ := is_v g7
  obtain rfl : w2 = (.int i2) := Option.some.inj ei2
  obtain ⟨i3, ei3⟩ := is_v g9
  obtain rfl : w3 = (.int i3) := Option.some.inj ei3
  obtain ⟨i4, ei4⟩ := is_v g10
  obtain rfl : w4 = (.int i4) := Option.some.inj ei4
  obtain ⟨c0, cr0⟩ := and_e hn
  obtain ⟨c1, cr1⟩ := and_e cr0
  obtain ⟨c2, cr2⟩ := and_e cr1
  obtain ⟨c3, cr3⟩ := and_e cr2
  obtain ⟨c4, cr4⟩ := and_e cr3
  obtain ⟨c5, cr5⟩ := and_e cr4
  obtain ⟨c6, cr6⟩ := and_e cr5
  obtain ⟨c7, cr7⟩ := and_e cr6
  obtain ⟨c8, cr8⟩ := and_e cr7
  obtain ⟨c9, cr9⟩ := and_e cr8
  obtain ⟨c10, cr10⟩ := and_e cr9
  obtain ⟨c11, cr11⟩ := and_e cr10
  obtain ⟨c12, cr12⟩ := and_e cr11
  obtain ⟨c13, cr13⟩ := and_e cr12
  obtain ⟨c14, cr14⟩ := and_e cr13
  obtain ⟨cp, ev_cp⟩ := is_v (Cond.before_iff.mp (hsets _ (List.mem_of_getElem? (i := 1) rfl)))
  have sta_cp := Sta.start ev_cp (Or.inl (hsets _ (List.mem_of_getElem? (i := 0) rfl)))
  have hcp : ¬ (cp = (0 : Int32)) := fun q => by
    have w := not_v (Cond.before_iff.mp (hsets _ (List.mem_of_getElem? (i := 2) rfl)))
    rw [eq_i ev_cp (Term.int_eval 0) (by rw [q])] at w
    cases w
  obtain ⟨w_0, ev_w_0⟩ := exa_v c12
  have exa_w_0 := Exa.start ev_w_0 c12
  have sta_w_0 := Sta.start ev_w_0 (Or.inr ⟨(hw _ (List.mem_of_getElem? (i := 8) rfl)), (hw _ (List.mem_of_getElem? (i := 93) rfl))⟩)
  obtain ⟨w_1, ev_w_1⟩ := exa_v c8
  have exa_w_1 := Exa.start ev_w_1 c8
  have sta_w_1 := Sta.start ev_w_1 (Or.inr ⟨(hw _ (List.mem_of_getElem? (i := 8) rfl)), (hw _ (List.mem_of_getElem? (i := 85) rfl))⟩)
  obtain ⟨w_2, ev_w_2⟩ := exa_v c4
  have exa_w_2 := Exa.start ev_w_2 c4
  have sta_w_2 := Sta.start ev_w_2 (Or.inr ⟨(hw _ (List.mem_of_getElem? (i := 8) rfl)), (hw _ (List.mem_of_getElem? (i := 50) rfl))⟩)
  obtain ⟨w_3, ev_w_3⟩ := exa_v c0
  have exa_w_3 := Exa.start ev_w_3 c0
  have sta_w_3 := Sta.start ev_w_3 (Or.inr ⟨(hw _ (List.mem_of_getElem? (i := 8) rfl)), (hw _ (List.mem_of_getElem? (i := 9) rfl))⟩)
  obtain ⟨w_4, ev_w_4⟩ := exa_v c2
  have exa_w_4 := Exa.start ev_w_4 c2
  have sta_w_4 := Sta.start ev_w_4 (Or.inr ⟨(hw _ (List.mem_of_getElem? (i := 8) rfl)), (hw _ (List.mem_of_getElem? (i := 46) rfl))⟩)
  obtain ⟨w_5, ev_w_5⟩ := exa_v c14
  have exa_w_5 := Exa.start ev_w_5 c14
  have sta_w_5 := Sta.start ev_w_5 (Or.inr ⟨(hw _ (List.mem_of_getElem? (i := 8) rfl)), (hw _ (List.mem_of_getElem? (i := 97) rfl))⟩)
  obtain ⟨w_6, ev_w_6⟩ := exa_v c13
  have exa_w_6 := Exa.start ev_w_6 c13
  have sta_w_6 := Sta.start ev_w_6 (Or.inr ⟨(hw _ (List.mem_of_getElem? (i := 8) rfl)), (hw _ (List.mem_of_getElem? (i := 95) rfl))⟩)
  obtain ⟨w_7, ev_w_7⟩ := exa_v c6
  have exa_w_7 := Exa.start ev_w_7 c6
  have sta_w_7 := Sta.start ev_w_7 (Or.inr ⟨(hw _ (List.mem_of_getElem? (i := 8) rfl)), (hw _ (List.mem_of_getElem? (i := 81) rfl))⟩)
  obtain ⟨u_0, ev_u_0⟩ := exa_v c10
  have exa_u_0 := Exa.start ev_u_0 c10
  have sta_u_0 := Sta.start ev_u_0 (Or.inr ⟨(hw _ (List.mem_of_getElem? (i := 43) rfl)), (hw _ (List.mem_of_getElem? (i := 89) rfl))⟩)
  obtain ⟨u_1, ev_u_1⟩ := exa_v c9
  have exa_u_1 := Exa.start ev_u_1 c9
  have sta_u_1 := Sta.start ev_u_1 (Or.inr ⟨(hw _ (List.mem_of_getElem? (i := 43) rfl)), (hw _ (List.mem_of_getElem? (i := 87) rfl))⟩)
  obtain ⟨u_2, ev_u_2⟩ := exa_v c1
  have exa_u_2 := Exa.start ev_u_2 c1
  have sta_u_2 := Sta.start ev_u_2 (Or.inr ⟨(hw _ (List.mem_of_getElem? (i := 43) rfl)), (hw _ (List.mem_of_getElem? (i := 44) rfl))⟩)
  obtain ⟨u_3, ev_u_3⟩ := exa_v cr14
  have exa_u_3 := Exa.start ev_u_3 cr14
  have sta_u_3 := Sta.start ev_u_3 (Or.inr ⟨(hw _ (List.mem_of_getElem? (i := 43) rfl)), (hw _ (List.mem_of_getElem? (i := 99) rfl))⟩)
  obtain ⟨u_4, ev_u_4⟩ := exa_v c11
  have exa_u_4 := Exa.start ev_u_4 c11
  have sta_u_4 := Sta.start ev_u_4 (Or.inr ⟨(hw _ (List.mem_of_getElem? (i := 43) rfl)), (hw _ (List.mem_of_getElem? (i := 91) rfl))⟩)
  obtain ⟨u_5, ev_u_5⟩ := exa_v c5
  have exa_u_5 := Exa.start ev_u_5 c5
  have sta_u_5 := Sta.start ev_u_5 (Or.inr ⟨(hw _ (List.mem_of_getElem? (i := 43) rfl)), (hw _ (List.mem_of_getElem? (i := 79) rfl))⟩)
  obtain ⟨u_6, ev_u_6⟩ := exa_v c7
  have exa_u_6 := Exa.start ev_u_6 c7
  have sta_u_6 := Sta.start ev_u_6 (Or.inr ⟨(hw _ (List.mem_of_getElem? (i := 43) rfl)), (hw _ (List.mem_of_getElem? (i := 83) rfl))⟩)
  obtain ⟨u_7, ev_u_7⟩ := exa_v c3
  have exa_u_7 := Exa.start ev_u_7 c3
  have sta_u_7 := Sta.start ev_u_7 (Or.inr ⟨(hw _ (List.mem_of_getElem? (i := 43) rfl)), (hw _ (List.mem_of_getElem? (i := 48) rfl))⟩)
  obtain ⟨n, o, h1, h2, h3, _, L, rfl, ⟨hQ, N⟩, hq⟩ := c_law l s _ hw s.heap i0 i1 i2 i3 i4 w_0 w_1 w_2 w_3 w_4 w_5 w_6 w_7 u_0 u_1 u_2 u_3 u_4 u_5 u_6 u_7 cp hcp sta_w_0 sta_w_1 sta_w_2 sta_w_3 sta_w_4 sta_w_5 sta_w_6 sta_w_7 sta_u_0 sta_u_1 sta_u_2 sta_u_3 sta_u_4 sta_u_5 sta_u_6 sta_u_7 sta_cp (Old.start s) tables_1 p e ha hc hk s m _ below hf ((Spec.applies_iff_loose hf).mp happ).1 ⟨rfl, State.Warmed39.refl s, rfl⟩ trivial
  obtain rfl := hQ.1
  refine ⟨n, _, h1, h2, h3, hpost _ _ _ _ _ _ ⟨Cond.after_iff.mpr rfl, Cond.after_iff.mpr (eq_i res_at (Term.int_eval (1)) rfl), trivial⟩ ⟨hq.1, hq.2.1, (hq.2.2.sift fun y hy => Or.inr (N y hy)).mono (by decide) (by decide)⟩⟩
theorem main_1_1 : Claimed_1_1 := comes_1 fun _ _ _ _ _ _ h hF => ⟨h.1, hF⟩
theorem main_1_2 : Claimed_1_2 := comes_1 fun _ _ _ _ _ _ h hF => ⟨h.2.1, hF⟩

end Jvm.Pilot.@@N@@
namespace Jvm.Pilot.@@N@@
open Jvm Jvm.ClassFile Sem Op Lib Jvm.Free Jvm.Stand Jvm.Pilot.@@N@@.Jvm.D
/-! MADE BY PROGRAM (witnessworld.py) out of the Statement's table words and the real class files: 24 classes; the members and pool entries that the words name. The judged class is class 1, her method 3. -/
namespace start1
open Jvm.ClassFile
def u (s : String) : CpInfo := .utf8 (stringToUtf16 s)
/-- a pool by its gaps: so many unusable entries, then the entry; so many at the end -/
def gap : Nat → List CpInfo → List CpInfo
  | 0, r => r
  | n + 1, r => .unusable :: gap n r
def poolList (es : List (Nat × CpInfo)) (last : Nat) : List CpInfo := es.foldr (fun e r => gap e.1 (e.2 :: r)) (gap last [])
def pool (es : List (Nat × CpInfo)) (last : Nat) : Array CpInfo := ⟨poolList es last⟩
def fileOf (pool : Array CpInfo) (this : Nat) (attrs : Array Attribute := #[]) (ms : Array MethodInfo := #[]) (fl : Nat := 33) (sup : Nat := 0) (ifs : Array Nat := #[]) (fds : Array FieldInfo := #[]) : ClassFile where
  minorVersion := 0
  majorVersion := 65
  constantPool := pool
  accessFlags := fl
  thisClass := this
  superClass := sup
  interfaces := ifs
  fields := fds
  methods := ms
  attributes := attrs
def plain (name : String) (sup : Option ClassId) : Class where
  name := name
  kind := .ordinary
  loader := none
  accessFlags := 33
  super := sup
  interfaces := #[]
  cf := none
  fields := #[]
  methods := #[]
  instanceTypes := #[]
  staticTypes := #[]
  resolved := #[]
  callSites := []
  init := .initialized
  statics := none
  mirror := none

def pool0 : Array CpInfo := pool [(5, u "<init>"), (0, u "()V"), (1, .class_ 10), (1, u "java/lang/Object")] 113

def k0c0 : Code := { maxStack := 0, maxLocals := 1, code := object_method_1_code, exceptionTable := #[], attributes := #[] }
def k0m0 : Method := { name := "<init>", desc := "()V", sig := { parameters := [], returnType := none }, accessFlags := 1, code := some k0c0 }
/-- java/lang/Object -/
def k0 : Class := { plain "java/lang/Object" none with
  accessFlags := 33
  interfaces := #[]
  cf := some (fileOf pool0 8 #[] #[{ accessFlags := 1, nameIndex := 5, descriptorIndex := 6, attributes := #[] }] 33 0 #[] #[])
  fields := #[]
  methods := #[k0m0]
  instanceTypes := #[]
  staticTypes := #[]
  resolved := Array.replicate 124 none
  statics := none }

def pool1 : Array CpInfo := pool [(2, .class_ 4), (1, u "java/lang/Object"), (0, u "<init>"), (0, u "()V"), (0, .fieldref 8 9), (0, .class_ 10), (0, .nameAndType 11 12), (0, u "com/example/episodic/episodic/ErrorClass"), (0, u "SYNTAX"), (0, u "Lcom/example/episodic/episodic/ErrorClass;"), (0, .fieldref 8 14), (0, .nameAndType 15 12), (0, u "SCHEMA"), (0, .fieldref 8 17), (0, .nameAndType 18 12), (0, u "PERIOD"), (0, .fieldref 8 20), (0, .nameAndType 21 12), (0, u "CLOCK"), (0, .fieldref 8 23), (0, .nameAndType 24 12), (0, u "DEFERRED"), (0, .fieldref 8 26), (0, .nameAndType 27 12), (0, u "TEI"), (0, .fieldref 8 29), (0, .nameAndType 30 12), (0, u "NOT_FOUND"), (0, .fieldref 8 32), (0, .nameAndType 33 12), (0, u "TRI"), (0, .fieldref 35 36), (0, .class_ 37), (0, .nameAndType 38 39), (0, u "com/example/episodic/episodic/Statement$Kind"), (0, u "CREATE_TABLE"), (0, u "Lcom/example/episodic/episodic/Statement$Kind;"), (0, .fieldref 35 41), (0, .nameAndType 42 39), (0, u "DROP_TABLE"), (0, .fieldref 35 44), (0, .nameAndType 45 39), (0, u "SET_NOW"), (0, .fieldref 35 47), (0, .nameAndType 48 39), (0, u "INSERT"), (0, .fieldref 35 50), (0, .nameAndType 51 39), (0, u "UPDATE"), (0, .fieldref 35 53), (0, .nameAndType 54 39), (0, u "DELETE"), (0, .fieldref 35 56), (0, .nameAndType 57 39), (0, u "SELECT"), (0, .fieldref 35 59), (0, .nameAndType 60 39), (0, u "SHOW_ROWS"), (0, .methodref 62 63), (0, .class_ 64), (0, .nameAndType 65 66), (0, u "com/example/episodic/episodic/StatementResultIsRejectedPinLaw"), (0, u "errorClassOf"), (0, u "(I)Lcom/example/episodic/episodic/ErrorClass;"), (0, .methodref 62 68), (0, .nameAndType 69 70), (0, u "kindOf"), (0, u "(I)Lcom/example/episodic/episodic/Statement$Kind;"), (0, .class_ 72), (0, u "java/lang/String"), (0, .methodref 71 74), (0, .nameAndType 5 75), (0, u "([C)V"), (0, .class_ 77), (0, u "com/example/episodic/episodic/StatementResult"), (0, .methodref 76 79), (0, .nameAndType 5 80), (0, u "(Lcom/example/episodic/episodic/Statement$Kind;Lcom/example/episodic/episodic/ErrorClass;Ljava/lang/String;IILcom/example/episodic/episodic/Rows;)V"), (0, .methodref 76 82), (0, .nameAndType 83 84), (0, u "isRejected"), (0, u "()Z"), (3, u "law"), (0, u "(IIIII)Z")] 8

def k1m0 : Method := { name := "<init>", desc := "()V", sig := { parameters := [], returnType := none }, accessFlags := 2, code := none }
def k1c1 : Code := { maxStack := 2, maxLocals := 2, code := method_2_code, exceptionTable := #[], attributes := #[] }
def k1m1 : Method := { name := "errorClassOf", desc := "(I)Lcom/example/episodic/episodic/ErrorClass;", sig := { parameters := [.int], returnType := some (.object "com/example/episodic/episodic/ErrorClass") }, accessFlags := 10, code := some k1c1 }
def k1c2 : Code := { maxStack := 2, maxLocals := 2, code := method_3_code, exceptionTable := #[], attributes := #[] }
def k1m2 : Method := { name := "kindOf", desc := "(I)Lcom/example/episodic/episodic/Statement$Kind;", sig := { parameters := [.int], returnType := some (.object "com/example/episodic/episodic/Statement$Kind") }, accessFlags := 10, code := some k1c2 }
def k1c3 : Code := { maxStack := 8, maxLocals := 14, code := code, exceptionTable := #[], attributes := #[] }
def k1m3 : Method := { name := "law", desc := "(IIIII)Z", sig := { parameters := [.int, .int, .int, .int, .int], returnType := some .boolean }, accessFlags := 9, code := some k1c3 }
/-- com/example/episodic/episodic/StatementResultIsRejectedPinLaw -/
def k1 : Class := { plain "com/example/episodic/episodic/StatementResultIsRejectedPinLaw" (some 0) with
  accessFlags := 49
  interfaces := #[]
  cf := some (fileOf pool1 62 #[] #[{ accessFlags := 2, nameIndex := 5, descriptorIndex := 6, attributes := #[] }, { accessFlags := 10, nameIndex := 65, descriptorIndex := 66, attributes := #[] }, { accessFlags := 10, nameIndex := 69, descriptorIndex := 70, attributes := #[] }, { accessFlags := 9, nameIndex := 88, descriptorIndex := 89, attributes := #[] }] 49 2 #[] #[])
  fields := #[]
  methods := #[k1m0, k1m1, k1m2, k1m3]
  instanceTypes := #[]
  staticTypes := #[]
  resolved := Array.replicate 98 none
  statics := none }

def pool2 : Array CpInfo := pool [(1, .class_ 2), (0, u "java/lang/constant/Constable"), (0, .class_ 4), (0, u "java/lang/Object")] 6

/-- java/lang/constant/Constable -/
def k2 : Class := { plain "java/lang/constant/Constable" (some 0) with
  accessFlags := 1537
  interfaces := #[]
  cf := some (fileOf pool2 1 #[] #[] 1537 3 #[] #[])
  fields := #[]
  methods := #[]
  instanceTypes := #[]
  staticTypes := #[]
  resolved := Array.replicate 11 none
  statics := none }

def pool3 : Array CpInfo := pool [(1, .class_ 2), (0, u "java/lang/Comparable"), (0, .class_ 4), (0, u "java/lang/Object")] 7

/-- java/lang/Comparable -/
def k3 : Class := { plain "java/lang/Comparable" (some 0) with
  accessFlags := 1537
  interfaces := #[]
  cf := some (fileOf pool3 1 #[] #[] 1537 3 #[] #[])
  fields := #[]
  methods := #[]
  instanceTypes := #[]
  staticTypes := #[]
  resolved := Array.replicate 12 none
  statics := none }

def pool4 : Array CpInfo := pool [(1, .class_ 2), (0, u "java/io/Serializable"), (0, .class_ 4), (0, u "java/lang/Object")] 2

/-- java/io/Serializable -/
def k4 : Class := { plain "java/io/Serializable" (some 0) with
  accessFlags := 1537
  interfaces := #[]
  cf := some (fileOf pool4 1 #[] #[] 1537 3 #[] #[])
  fields := #[]
  methods := #[]
  instanceTypes := #[]
  staticTypes := #[]
  resolved := Array.replicate 7 none
  statics := none }

def pool5 : Array CpInfo := pool [(2, .class_ 4), (1, u "java/lang/Enum"), (0, u "name"), (0, u "Ljava/lang/String;"), (2, u "ordinal"), (0, u "I"), (1, .class_ 14), (1, u "java/lang/Object"), (4, u "hash"), (86, .class_ 108), (1, u "java/lang/Enum$EnumDesc"), (2, .class_ 112), (0, u "java/lang/constant/Constable"), (0, .class_ 114), (0, u "java/lang/Comparable"), (0, .class_ 116), (0, u "java/io/Serializable")] 87

/-- java/lang/Enum -/
def k5 : Class := { plain "java/lang/Enum" (some 0) with
  accessFlags := 1057
  interfaces := #[2, 3, 4]
  cf := some (fileOf pool5 2 #[.nestMembers #[106]] #[] 1057 12 #[111, 113, 115] #[{ accessFlags := 18, nameIndex := 5, descriptorIndex := 6, attributes := #[] }, { accessFlags := 18, nameIndex := 9, descriptorIndex := 10, attributes := #[] }, { accessFlags := 2, nameIndex := 19, descriptorIndex := 10, attributes := #[] }])
  fields := #[{ name := "name", type := (.object "java/lang/String"), accessFlags := 18, slot := 0, constantValue := 0 }, { name := "ordinal", type := .int, accessFlags := 18, slot := 1, constantValue := 0 }, { name := "hash", type := .int, accessFlags := 2, slot := 2, constantValue := 0 }]
  methods := #[]
  instanceTypes := #[(.object "java/lang/String"), .int, .int]
  staticTypes := #[]
  resolved := Array.replicate 204 none
  statics := none }

def pool6 : Array CpInfo := pool [(1, .class_ 2), (0, u "com/example/episodic/episodic/Statement$Kind"), (2, u "CREATE_TABLE"), (0, u "Lcom/example/episodic/episodic/Statement$Kind;"), (2, u "DROP_TABLE"), (2, u "SET_NOW"), (2, u "INSERT"), (2, u "UPDATE"), (2, u "DELETE"), (2, u "SELECT"), (2, u "SHOW_ROWS"), (2, u "$VALUES"), (0, u "[Lcom/example/episodic/episodic/Statement$Kind;"), (6, .class_ 40), (1, u "java/lang/Enum"), (8, u "changesRows"), (0, u "Z"), (40, .class_ 92), (0, u "com/example/episodic/episodic/Statement")] 2

/-- com/example/episodic/episodic/Statement$Kind -/
def k6 : Class := { plain "com/example/episodic/episodic/Statement$Kind" (some 5) with
  accessFlags := 16433
  interfaces := #[]
  cf := some (fileOf pool6 1 #[.nestHost 91] #[] 16433 38 #[] #[{ accessFlags := 16409, nameIndex := 5, descriptorIndex := 6, attributes := #[] }, { accessFlags := 16409, nameIndex := 9, descriptorIndex := 6, attributes := #[] }, { accessFlags := 16409, nameIndex := 12, descriptorIndex := 6, attributes := #[] }, { accessFlags := 16409, nameIndex := 15, descriptorIndex := 6, attributes := #[] }, { accessFlags := 16409, nameIndex := 18, descriptorIndex := 6, attributes := #[] }, { accessFlags := 16409, nameIndex := 21, descriptorIndex := 6, attributes := #[] }, { accessFlags := 16409, nameIndex := 24, descriptorIndex := 6, attributes := #[] }, { accessFlags := 16409, nameIndex := 27, descriptorIndex := 6, attributes := #[] }, { accessFlags := 18, nameIndex := 49, descriptorIndex := 50, attributes := #[] }, { accessFlags := 4122, nameIndex := 30, descriptorIndex := 31, attributes := #[] }])
  fields := #[{ name := "CREATE_TABLE", type := (.object "com/example/episodic/episodic/Statement$Kind"), accessFlags := 16409, slot := 0, constantValue := 0 }, { name := "DROP_TABLE", type := (.object "com/example/episodic/episodic/Statement$Kind"), accessFlags := 16409, slot := 1, constantValue := 0 }, { name := "SET_NOW", type := (.object "com/example/episodic/episodic/Statement$Kind"), accessFlags := 16409, slot := 2, constantValue := 0 }, { name := "INSERT", type := (.object "com/example/episodic/episodic/Statement$Kind"), accessFlags := 16409, slot := 3, constantValue := 0 }, { name := "UPDATE", type := (.object "com/example/episodic/episodic/Statement$Kind"), accessFlags := 16409, slot := 4, constantValue := 0 }, { name := "DELETE", type := (.object "com/example/episodic/episodic/Statement$Kind"), accessFlags := 16409, slot := 5, constantValue := 0 }, { name := "SELECT", type := (.object "com/example/episodic/episodic/Statement$Kind"), accessFlags := 16409, slot := 6, constantValue := 0 }, { name := "SHOW_ROWS", type := (.object "com/example/episodic/episodic/Statement$Kind"), accessFlags := 16409, slot := 7, constantValue := 0 }, { name := "changesRows", type := .boolean, accessFlags := 18, slot := 3, constantValue := 0 }, { name := "$VALUES", type := (.array (.object "com/example/episodic/episodic/Statement$Kind")), accessFlags := 4122, slot := 8, constantValue := 0 }]
  methods := #[]
  instanceTypes := #[(.object "java/lang/String"), .int, .int, .boolean]
  staticTypes := #[(.object "com/example/episodic/episodic/Statement$Kind"), (.object "com/example/episodic/episodic/Statement$Kind"), (.object "com/example/episodic/episodic/Statement$Kind"), (.object "com/example/episodic/episodic/Statement$Kind"), (.object "com/example/episodic/episodic/Statement$Kind"), (.object "com/example/episodic/episodic/Statement$Kind"), (.object "com/example/episodic/episodic/Statement$Kind"), (.object "com/example/episodic/episodic/Statement$Kind"), (.array (.object "com/example/episodic/episodic/Statement$Kind"))]
  resolved := Array.replicate 95 none
  statics := some 0 }

def pool7 : Array CpInfo := pool [(1, .methodref 2 3), (0, .class_ 4), (0, .nameAndType 5 6), (0, u "java/lang/Object"), (0, u "<init>"), (0, u "()V"), (0, .class_ 8), (0, u "java/lang/Record")] 13

def k7c0 : Code := { maxStack := 1, maxLocals := 1, code := jdk_30_method_1_code, exceptionTable := #[], attributes := #[] }
def k7m0 : Method := { name := "<init>", desc := "()V", sig := { parameters := [], returnType := none }, accessFlags := 4, code := some k7c0 }
/-- java/lang/Record -/
def k7 : Class := { plain "java/lang/Record" (some 0) with
  accessFlags := 1057
  interfaces := #[]
  cf := some (fileOf pool7 7 #[] #[{ accessFlags := 4, nameIndex := 5, descriptorIndex := 6, attributes := #[] }] 1057 2 #[] #[])
  fields := #[]
  methods := #[k7m0]
  instanceTypes := #[]
  staticTypes := #[]
  resolved := Array.replicate 22 none
  statics := none }

def pool8 : Array CpInfo := pool [(1, .methodref 2 3), (0, .class_ 4), (0, .nameAndType 5 6), (0, u "java/lang/Record"), (0, u "<init>"), (0, u "()V"), (0, .fieldref 8 9), (0, .class_ 10), (0, .nameAndType 11 12), (0, u "com/example/episodic/episodic/StatementResult"), (0, u "kind"), (0, u "Lcom/example/episodic/episodic/Statement$Kind;"), (0, .fieldref 8 14), (0, .nameAndType 15 16), (0, u "errorClass"), (0, u "Lcom/example/episodic/episodic/ErrorClass;"), (0, .fieldref 8 18), (0, .nameAndType 19 20), (0, u "message"), (0, u "Ljava/lang/String;"), (0, .fieldref 8 22), (0, .nameAndType 23 24), (0, u "withdrawn"), (0, u "I"), (0, .fieldref 8 26), (0, .nameAndType 27 24), (0, u "created"), (0, .fieldref 8 29), (0, .nameAndType 30 31), (0, u "rows"), (0, u "Lcom/example/episodic/episodic/Rows;"), (2, u "(Lcom/example/episodic/episodic/Statement$Kind;Lcom/example/episodic/episodic/ErrorClass;Ljava/lang/String;IILcom/example/episodic/episodic/Rows;)V"), (14, u "isRejected"), (0, u "()Z")] 178

def k8c0 : Code := { maxStack := 2, maxLocals := 7, code := prog_42_method_1_code, exceptionTable := #[], attributes := #[] }
def k8m0 : Method := { name := "<init>", desc := "(Lcom/example/episodic/episodic/Statement$Kind;Lcom/example/episodic/episodic/ErrorClass;Ljava/lang/String;IILcom/example/episodic/episodic/Rows;)V", sig := { parameters := [(.object "com/example/episodic/episodic/Statement$Kind"), (.object "com/example/episodic/episodic/ErrorClass"), (.object "java/lang/String"), .int, .int, (.object "com/example/episodic/episodic/Rows")], returnType := none }, accessFlags := 1, code := some k8c0 }
def k8c1 : Code := { maxStack := 1, maxLocals := 1, code := prog_42_method_6_code, exceptionTable := #[], attributes := #[] }
def k8m1 : Method := { name := "isRejected", desc := "()Z", sig := { parameters := [], returnType := some .boolean }, accessFlags := 1, code := some k8c1 }
/-- com/example/episodic/episodic/StatementResult -/
def k8 : Class := { plain "com/example/episodic/episodic/StatementResult" (some 7) with
  accessFlags := 49
  interfaces := #[]
  cf := some (fileOf pool8 8 #[] #[{ accessFlags := 1, nameIndex := 5, descriptorIndex := 34, attributes := #[] }, { accessFlags := 1, nameIndex := 49, descriptorIndex := 50, attributes := #[] }] 49 2 #[] #[{ accessFlags := 18, nameIndex := 11, descriptorIndex := 12, attributes := #[] }, { accessFlags := 18, nameIndex := 15, descriptorIndex := 16, attributes := #[] }, { accessFlags := 18, nameIndex := 19, descriptorIndex := 20, attributes := #[] }, { accessFlags := 18, nameIndex := 23, descriptorIndex := 24, attributes := #[] }, { accessFlags := 18, nameIndex := 27, descriptorIndex := 24, attributes := #[] }, { accessFlags := 18, nameIndex := 30, descriptorIndex := 31, attributes := #[] }])
  fields := #[{ name := "kind", type := (.object "com/example/episodic/episodic/Statement$Kind"), accessFlags := 18, slot := 0, constantValue := 0 }, { name := "errorClass", type := (.object "com/example/episodic/episodic/ErrorClass"), accessFlags := 18, slot := 1, constantValue := 0 }, { name := "message", type := (.object "java/lang/String"), accessFlags := 18, slot := 2, constantValue := 0 }, { name := "withdrawn", type := .int, accessFlags := 18, slot := 3, constantValue := 0 }, { name := "created", type := .int, accessFlags := 18, slot := 4, constantValue := 0 }, { name := "rows", type := (.object "com/example/episodic/episodic/Rows"), accessFlags := 18, slot := 5, constantValue := 0 }]
  methods := #[k8m0, k8m1]
  instanceTypes := #[(.object "com/example/episodic/episodic/Statement$Kind"), (.object "com/example/episodic/episodic/ErrorClass"), (.object "java/lang/String"), .int, .int, (.object "com/example/episodic/episodic/Rows")]
  staticTypes := #[]
  resolved := Array.replicate 229 none
  statics := none }

def pool9 : Array CpInfo := pool [(1, .class_ 2), (0, u "com/example/episodic/episodic/ErrorClass"), (2, u "SYNTAX"), (0, u "Lcom/example/episodic/episodic/ErrorClass;"), (2, u "SCHEMA"), (2, u "PERIOD"), (2, u "CLOCK"), (2, u "DEFERRED"), (2, u "TEI"), (2, u "NOT_FOUND"), (2, u "TRI"), (2, u "$VALUES"), (0, u "[Lcom/example/episodic/episodic/ErrorClass;"), (6, .class_ 40), (1, u "java/lang/Enum")] 41

/-- com/example/episodic/episodic/ErrorClass -/
def k9 : Class := { plain "com/example/episodic/episodic/ErrorClass" (some 5) with
  accessFlags := 16433
  interfaces := #[]
  cf := some (fileOf pool9 1 #[] #[] 16433 38 #[] #[{ accessFlags := 16409, nameIndex := 5, descriptorIndex := 6, attributes := #[] }, { accessFlags := 16409, nameIndex := 9, descriptorIndex := 6, attributes := #[] }, { accessFlags := 16409, nameIndex := 12, descriptorIndex := 6, attributes := #[] }, { accessFlags := 16409, nameIndex := 15, descriptorIndex := 6, attributes := #[] }, { accessFlags := 16409, nameIndex := 18, descriptorIndex := 6, attributes := #[] }, { accessFlags := 16409, nameIndex := 21, descriptorIndex := 6, attributes := #[] }, { accessFlags := 16409, nameIndex := 24, descriptorIndex := 6, attributes := #[] }, { accessFlags := 16409, nameIndex := 27, descriptorIndex := 6, attributes := #[] }, { accessFlags := 4122, nameIndex := 30, descriptorIndex := 31, attributes := #[] }])
  fields := #[{ name := "SYNTAX", type := (.object "com/example/episodic/episodic/ErrorClass"), accessFlags := 16409, slot := 0, constantValue := 0 }, { name := "SCHEMA", type := (.object "com/example/episodic/episodic/ErrorClass"), accessFlags := 16409, slot := 1, constantValue := 0 }, { name := "PERIOD", type := (.object "com/example/episodic/episodic/ErrorClass"), accessFlags := 16409, slot := 2, constantValue := 0 }, { name := "CLOCK", type := (.object "com/example/episodic/episodic/ErrorClass"), accessFlags := 16409, slot := 3, constantValue := 0 }, { name := "DEFERRED", type := (.object "com/example/episodic/episodic/ErrorClass"), accessFlags := 16409, slot := 4, constantValue := 0 }, { name := "TEI", type := (.object "com/example/episodic/episodic/ErrorClass"), accessFlags := 16409, slot := 5, constantValue := 0 }, { name := "NOT_FOUND", type := (.object "com/example/episodic/episodic/ErrorClass"), accessFlags := 16409, slot := 6, constantValue := 0 }, { name := "TRI", type := (.object "com/example/episodic/episodic/ErrorClass"), accessFlags := 16409, slot := 7, constantValue := 0 }, { name := "$VALUES", type := (.array (.object "com/example/episodic/episodic/ErrorClass")), accessFlags := 4122, slot := 8, constantValue := 0 }]
  methods := #[]
  instanceTypes := #[(.object "java/lang/String"), .int, .int]
  staticTypes := #[(.object "com/example/episodic/episodic/ErrorClass"), (.object "com/example/episodic/episodic/ErrorClass"), (.object "com/example/episodic/episodic/ErrorClass"), (.object "com/example/episodic/episodic/ErrorClass"), (.object "com/example/episodic/episodic/ErrorClass"), (.object "com/example/episodic/episodic/ErrorClass"), (.object "com/example/episodic/episodic/ErrorClass"), (.object "com/example/episodic/episodic/ErrorClass"), (.array (.object "com/example/episodic/episodic/ErrorClass"))]
  resolved := Array.replicate 82 none
  statics := some 1 }

def pool10 : Array CpInfo := pool [(2, .class_ 4), (1, u "java/lang/CharSequence"), (42, .class_ 48), (0, u "java/lang/CharSequence$1CodePointIterator"), (10, .class_ 60), (0, u "java/lang/CharSequence$1CharIterator"), (5, .class_ 67), (0, u "java/lang/Object")] 63

/-- java/lang/CharSequence -/
def k10 : Class := { plain "java/lang/CharSequence" (some 0) with
  accessFlags := 1537
  interfaces := #[]
  cf := some (fileOf pool10 2 #[.nestMembers #[47, 59]] #[] 1537 66 #[] #[])
  fields := #[]
  methods := #[]
  instanceTypes := #[]
  staticTypes := #[]
  resolved := Array.replicate 131 none
  statics := none }

def pool11 : Array CpInfo := pool [(1, .class_ 2), (0, u "java/lang/constant/ConstantDesc"), (0, .class_ 4), (0, u "java/lang/Object")] 32

/-- java/lang/constant/ConstantDesc -/
def k11 : Class := { plain "java/lang/constant/ConstantDesc" (some 0) with
  accessFlags := 1537
  interfaces := #[]
  cf := some (fileOf pool11 1 #[] #[] 1537 3 #[] #[])
  fields := #[]
  methods := #[]
  instanceTypes := #[]
  staticTypes := #[]
  resolved := Array.replicate 37 none
  statics := none }

def pool12 : Array CpInfo := pool [(1, .methodref 2 3), (0, .class_ 4), (0, .nameAndType 5 6), (0, u "java/lang/Object"), (0, u "<init>"), (0, u "()V"), (2, .fieldref 10 11), (0, .class_ 12), (0, .nameAndType 13 14), (0, u "java/lang/String"), (0, u "value"), (0, u "[B"), (0, .fieldref 10 16), (0, .nameAndType 17 18), (0, u "coder"), (0, u "B"), (2, u "hash"), (0, u "I"), (2, u "hashIsZero"), (0, u "Z"), (0, .methodref 10 28), (0, .nameAndType 5 29), (0, u "([CIILjava/lang/Void;)V"), (8, .fieldref 10 39), (0, .nameAndType 40 26), (0, u "COMPACT_STRINGS"), (1, .class_ 44), (1, u "java/lang/StringUTF16"), (0, u "compress"), (1, .methodref 42 48), (0, .nameAndType 49 50), (0, u "coderFromArrayLen"), (0, u "([BI)B"), (126, .methodref 42 178), (0, .nameAndType 45 179), (0, u "([CII)[B"), (395, .class_ 576), (0, u "java/lang/CharSequence"), (22, u "CASE_INSENSITIVE_ORDER"), (0, u "Ljava/util/Comparator;"), (409, u "([C)V"), (90, u "serialPersistentFields"), (0, u "[Ljava/io/ObjectStreamField;"), (0, .class_ 1104), (0, u "java/lang/String$CaseInsensitiveComparator"), (1, .class_ 1107), (0, u "java/io/Serializable"), (0, .class_ 1109), (0, u "java/lang/Comparable"), (0, .class_ 1111), (0, u "java/lang/constant/Constable"), (0, .class_ 1113), (0, u "java/lang/constant/ConstantDesc"), (2, u "serialVersionUID"), (0, u "J"), (3, u "REPL"), (0, u "C"), (2, u "LATIN1"), (1, u "UTF16")] 323

def k12m0 : Method := { name := "<init>", desc := "()V", sig := { parameters := [], returnType := none }, accessFlags := 1, code := none }
def k12c1 : Code := { maxStack := 5, maxLocals := 2, code := jdk_42_method_3_code, exceptionTable := #[], attributes := #[] }
def k12m1 : Method := { name := "<init>", desc := "([C)V", sig := { parameters := [(.array .char)], returnType := none }, accessFlags := 1, code := some k12c1 }
def k12c2 : Code := { maxStack := 4, maxLocals := 6, code := jdk_42_method_149_code, exceptionTable := #[], attributes := #[] }
def k12m2 : Method := { name := "<init>", desc := "([CIILjava/lang/Void;)V", sig := { parameters := [(.array .char), .int, .int, (.object "java/lang/Void")], returnType := none }, accessFlags := 2, code := some k12c2 }
/-- java/lang/String -/
def k12 : Class := { plain "java/lang/String" (some 0) with
  accessFlags := 49
  interfaces := #[4, 3, 10, 2, 11]
  cf := some (fileOf pool12 10 #[.nestMembers #[1103]] #[{ accessFlags := 1, nameIndex := 5, descriptorIndex := 6, attributes := #[] }, { accessFlags := 1, nameIndex := 5, descriptorIndex := 1010, attributes := #[] }, { accessFlags := 2, nameIndex := 5, descriptorIndex := 29, attributes := #[] }] 49 2 #[1106, 1108, 575, 1110, 1112] #[{ accessFlags := 18, nameIndex := 13, descriptorIndex := 14, attributes := #[] }, { accessFlags := 18, nameIndex := 17, descriptorIndex := 18, attributes := #[] }, { accessFlags := 2, nameIndex := 21, descriptorIndex := 22, attributes := #[] }, { accessFlags := 2, nameIndex := 25, descriptorIndex := 26, attributes := #[] }, { accessFlags := 26, nameIndex := 1116, descriptorIndex := 1117, attributes := #[] }, { accessFlags := 24, nameIndex := 40, descriptorIndex := 26, attributes := #[] }, { accessFlags := 26, nameIndex := 1101, descriptorIndex := 1102, attributes := #[] }, { accessFlags := 26, nameIndex := 1121, descriptorIndex := 1122, attributes := #[] }, { accessFlags := 25, nameIndex := 599, descriptorIndex := 600, attributes := #[] }, { accessFlags := 24, nameIndex := 1125, descriptorIndex := 18, attributes := #[] }, { accessFlags := 24, nameIndex := 1127, descriptorIndex := 18, attributes := #[] }])
  fields := #[{ name := "value", type := (.array .byte), accessFlags := 18, slot := 0, constantValue := 0 }, { name := "coder", type := .byte, accessFlags := 18, slot := 1, constantValue := 0 }, { name := "hash", type := .int, accessFlags := 2, slot := 2, constantValue := 0 }, { name := "hashIsZero", type := .boolean, accessFlags := 2, slot := 3, constantValue := 0 }, { name := "serialVersionUID", type := .long, accessFlags := 26, slot := 0, constantValue := 0 }, { name := "COMPACT_STRINGS", type := .boolean, accessFlags := 24, slot := 1, constantValue := 0 }, { name := "serialPersistentFields", type := (.array (.object "java/io/ObjectStreamField")), accessFlags := 26, slot := 2, constantValue := 0 }, { name := "REPL", type := .char, accessFlags := 26, slot := 3, constantValue := 0 }, { name := "CASE_INSENSITIVE_ORDER", type := (.object "java/util/Comparator"), accessFlags := 25, slot := 4, constantValue := 0 }, { name := "LATIN1", type := .byte, accessFlags := 24, slot := 5, constantValue := 0 }, { name := "UTF16", type := .byte, accessFlags := 24, slot := 6, constantValue := 0 }]
  methods := #[k12m0, k12m1, k12m2]
  instanceTypes := #[(.array .byte), .byte, .int, .boolean]
  staticTypes := #[.long, .boolean, (.array (.object "java/io/ObjectStreamField")), .char, (.object "java/util/Comparator"), .byte, .byte]
  resolved := Array.replicate 1451 none
  statics := some 2 }

def pool13 : Array CpInfo := pool [(6, .class_ 8), (1, u "java/lang/Object"), (0, u "<init>"), (0, u "()V"), (1, .class_ 14), (1, u "java/lang/StringUTF16"), (31, u "$assertionsDisabled"), (0, u "Z"), (13, u "HI_BYTE_SHIFT"), (0, u "I"), (2, u "LO_BYTE_SHIFT"), (49, .methodref 12 116), (0, .nameAndType 117 118), (0, u "compress"), (0, u "([CI[BII)I"), (3, u "([CII)[B"), (138, u "coderFromArrayLen"), (0, u "([BI)B"), (106, .class_ 371), (1, u "java/lang/StringUTF16$LinesSpliterator"), (58, u "MAX_LENGTH"), (196, .class_ 628), (0, u "java/lang/StringUTF16$CodePointsSpliterator"), (0, .class_ 630), (0, u "java/lang/StringUTF16$CharsSpliterator")] 4

def k13m0 : Method := { name := "<init>", desc := "()V", sig := { parameters := [], returnType := none }, accessFlags := 0, code := none }
def k13c1 : Code := { maxStack := 2, maxLocals := 2, code := jdk_52_method_15_code, exceptionTable := #[], attributes := #[] }
def k13m1 : Method := { name := "coderFromArrayLen", desc := "([BI)B", sig := { parameters := [(.array .byte), .int], returnType := some .byte }, accessFlags := 8, code := some k13c1 }
def k13c2 : Code := { maxStack := 5, maxLocals := 6, code := jdk_52_method_16_code, exceptionTable := #[], attributes := #[] }
def k13m2 : Method := { name := "compress", desc := "([CII)[B", sig := { parameters := [(.array .char), .int, .int], returnType := some (.array .byte) }, accessFlags := 9, code := some k13c2 }
def k13c3 : Code := { maxStack := 3, maxLocals := 7, code := jdk_52_method_21_code, exceptionTable := #[], attributes := #[] }
def k13m3 : Method := { name := "compress", desc := "([CI[BII)I", sig := { parameters := [(.array .char), .int, (.array .byte), .int, .int], returnType := some .int }, accessFlags := 9, code := some k13c3 }
/-- java/lang/StringUTF16 -/
def k13 : Class := { plain "java/lang/StringUTF16" (some 0) with
  accessFlags := 48
  interfaces := #[]
  cf := some (fileOf pool13 12 #[.nestMembers #[627, 629, 369]] #[{ accessFlags := 0, nameIndex := 9, descriptorIndex := 10, attributes := #[] }, { accessFlags := 8, nameIndex := 261, descriptorIndex := 262, attributes := #[] }, { accessFlags := 9, nameIndex := 117, descriptorIndex := 122, attributes := #[] }, { accessFlags := 9, nameIndex := 117, descriptorIndex := 118, attributes := #[] }] 48 6 #[] #[{ accessFlags := 26, nameIndex := 61, descriptorIndex := 62, attributes := #[] }, { accessFlags := 26, nameIndex := 65, descriptorIndex := 62, attributes := #[] }, { accessFlags := 24, nameIndex := 430, descriptorIndex := 62, attributes := #[] }, { accessFlags := 4120, nameIndex := 46, descriptorIndex := 47, attributes := #[] }])
  fields := #[{ name := "HI_BYTE_SHIFT", type := .int, accessFlags := 26, slot := 0, constantValue := 0 }, { name := "LO_BYTE_SHIFT", type := .int, accessFlags := 26, slot := 1, constantValue := 0 }, { name := "MAX_LENGTH", type := .int, accessFlags := 24, slot := 2, constantValue := 0 }, { name := "$assertionsDisabled", type := .boolean, accessFlags := 4120, slot := 3, constantValue := 0 }]
  methods := #[k13m0, k13m1, k13m2, k13m3]
  instanceTypes := #[]
  staticTypes := #[.int, .int, .int, .boolean]
  resolved := Array.replicate 635 none
  statics := none }

def pool14 : Array CpInfo := pool [(4, .class_ 6), (1, u "java/lang/Object"), (0, u "<init>"), (0, u "()V"), (5, .class_ 16), (1, u "java/lang/StringLatin1"), (104, u "$assertionsDisabled"), (0, u "Z"), (98, .class_ 223), (1, u "java/lang/StringLatin1$LinesSpliterator"), (166, .class_ 391), (0, u "java/lang/StringLatin1$CharsSpliterator")] 3

def k14m0 : Method := { name := "<init>", desc := "()V", sig := { parameters := [], returnType := none }, accessFlags := 0, code := none }
/-- java/lang/StringLatin1 -/
def k14 : Class := { plain "java/lang/StringLatin1" (some 0) with
  accessFlags := 48
  interfaces := #[]
  cf := some (fileOf pool14 14 #[.nestMembers #[390, 221]] #[{ accessFlags := 0, nameIndex := 7, descriptorIndex := 8, attributes := #[] }] 48 4 #[] #[{ accessFlags := 4120, nameIndex := 121, descriptorIndex := 122, attributes := #[] }])
  fields := #[{ name := "$assertionsDisabled", type := .boolean, accessFlags := 4120, slot := 0, constantValue := 0 }]
  methods := #[k14m0]
  instanceTypes := #[]
  staticTypes := #[.boolean]
  resolved := Array.replicate 395 none
  statics := none }

def pool15 : Array CpInfo := pool [(2, .class_ 4), (1, u "java/lang/Object"), (0, u "<init>"), (0, u "()V"), (17, .class_ 26), (1, u "jdk/internal/util/Preconditions"), (28, .class_ 56), (0, u "jdk/internal/util/Preconditions$4"), (57, .class_ 115), (0, u "jdk/internal/util/Preconditions$1"), (7, u "SIOOBE_FORMATTER"), (0, u "Ljava/util/function/BiFunction;"), (0, .class_ 126), (0, u "jdk/internal/util/Preconditions$2"), (3, u "AIOOBE_FORMATTER"), (0, .class_ 132), (0, u "jdk/internal/util/Preconditions$3"), (3, u "IOOBE_FORMATTER")] 57

def k15m0 : Method := { name := "<init>", desc := "()V", sig := { parameters := [], returnType := none }, accessFlags := 1, code := none }
/-- jdk/internal/util/Preconditions -/
def k15 : Class := { plain "jdk/internal/util/Preconditions" (some 0) with
  accessFlags := 33
  interfaces := #[]
  cf := some (fileOf pool15 24 #[.nestMembers #[55, 131, 125, 114]] #[{ accessFlags := 1, nameIndex := 5, descriptorIndex := 6, attributes := #[] }] 33 2 #[] #[{ accessFlags := 25, nameIndex := 123, descriptorIndex := 124, attributes := #[] }, { accessFlags := 25, nameIndex := 130, descriptorIndex := 124, attributes := #[] }, { accessFlags := 25, nameIndex := 136, descriptorIndex := 124, attributes := #[] }])
  fields := #[{ name := "SIOOBE_FORMATTER", type := (.object "java/util/function/BiFunction"), accessFlags := 25, slot := 0, constantValue := 0 }, { name := "AIOOBE_FORMATTER", type := (.object "java/util/function/BiFunction"), accessFlags := 25, slot := 1, constantValue := 0 }, { name := "IOOBE_FORMATTER", type := (.object "java/util/function/BiFunction"), accessFlags := 25, slot := 2, constantValue := 0 }]
  methods := #[k15m0]
  instanceTypes := #[]
  staticTypes := #[(.object "java/util/function/BiFunction"), (.object "java/util/function/BiFunction"), (.object "java/util/function/BiFunction")]
  resolved := Array.replicate 194 none
  statics := some 3 }

def pool16 : Array CpInfo := pool [(9, u "<init>"), (6, .class_ 18), (1, u "java/lang/Object"), (0, u "()V"), (1, .class_ 23), (1, u "jdk/internal/util/ArraysSupport"), (0, u "LOG2_ARRAY_LONG_INDEX_SCALE"), (0, u "I"), (2, u "U"), (0, u "Ljdk/internal/misc/Unsafe;"), (8, u "BIG_ENDIAN"), (0, u "Z"), (8, u "LOG2_BYTE_BIT_SIZE"), (4, u "LOG2_ARRAY_INT_INDEX_SCALE"), (54, u "JLA"), (0, u "Ljdk/internal/access/JavaLangAccess;"), (11, u "LOG2_ARRAY_BOOLEAN_INDEX_SCALE"), (9, u "LOG2_ARRAY_BYTE_INDEX_SCALE"), (5, u "LOG2_ARRAY_CHAR_INDEX_SCALE"), (5, u "LOG2_ARRAY_SHORT_INDEX_SCALE"), (18, u "LOG2_ARRAY_FLOAT_INDEX_SCALE"), (24, u "LOG2_ARRAY_DOUBLE_INDEX_SCALE"), (89, u "T_BOOLEAN"), (2, u "T_CHAR"), (1, u "T_FLOAT"), (1, u "T_DOUBLE"), (1, u "T_BYTE"), (1, u "T_SHORT"), (1, u "T_INT"), (1, u "T_LONG"), (1, u "SOFT_MAX_ARRAY_LENGTH")] 83

def k16m0 : Method := { name := "<init>", desc := "()V", sig := { parameters := [], returnType := none }, accessFlags := 2, code := none }
/-- jdk/internal/util/ArraysSupport -/
def k16 : Class := { plain "jdk/internal/util/ArraysSupport" (some 0) with
  accessFlags := 33
  interfaces := #[]
  cf := some (fileOf pool16 21 #[] #[{ accessFlags := 2, nameIndex := 9, descriptorIndex := 19, attributes := #[] }] 33 16 #[] #[{ accessFlags := 24, nameIndex := 28, descriptorIndex := 29, attributes := #[] }, { accessFlags := 26, nameIndex := 38, descriptorIndex := 39, attributes := #[] }, { accessFlags := 25, nameIndex := 121, descriptorIndex := 25, attributes := #[] }, { accessFlags := 25, nameIndex := 131, descriptorIndex := 25, attributes := #[] }, { accessFlags := 25, nameIndex := 137, descriptorIndex := 25, attributes := #[] }, { accessFlags := 25, nameIndex := 143, descriptorIndex := 25, attributes := #[] }, { accessFlags := 25, nameIndex := 53, descriptorIndex := 25, attributes := #[] }, { accessFlags := 25, nameIndex := 24, descriptorIndex := 25, attributes := #[] }, { accessFlags := 25, nameIndex := 162, descriptorIndex := 25, attributes := #[] }, { accessFlags := 25, nameIndex := 187, descriptorIndex := 25, attributes := #[] }, { accessFlags := 26, nameIndex := 48, descriptorIndex := 25, attributes := #[] }, { accessFlags := 25, nameIndex := 277, descriptorIndex := 25, attributes := #[] }, { accessFlags := 25, nameIndex := 280, descriptorIndex := 25, attributes := #[] }, { accessFlags := 25, nameIndex := 282, descriptorIndex := 25, attributes := #[] }, { accessFlags := 25, nameIndex := 284, descriptorIndex := 25, attributes := #[] }, { accessFlags := 25, nameIndex := 286, descriptorIndex := 25, attributes := #[] }, { accessFlags := 25, nameIndex := 288, descriptorIndex := 25, attributes := #[] }, { accessFlags := 25, nameIndex := 290, descriptorIndex := 25, attributes := #[] }, { accessFlags := 25, nameIndex := 292, descriptorIndex := 25, attributes := #[] }, { accessFlags := 26, nameIndex := 108, descriptorIndex := 109, attributes := #[] }, { accessFlags := 25, nameIndex := 294, descriptorIndex := 25, attributes := #[] }])
  fields := #[{ name := "U", type := (.object "jdk/internal/misc/Unsafe"), accessFlags := 24, slot := 0, constantValue := 0 }, { name := "BIG_ENDIAN", type := .boolean, accessFlags := 26, slot := 1, constantValue := 0 }, { name := "LOG2_ARRAY_BOOLEAN_INDEX_SCALE", type := .int, accessFlags := 25, slot := 2, constantValue := 0 }, { name := "LOG2_ARRAY_BYTE_INDEX_SCALE", type := .int, accessFlags := 25, slot := 3, constantValue := 0 }, { name := "LOG2_ARRAY_CHAR_INDEX_SCALE", type := .int, accessFlags := 25, slot := 4, constantValue := 0 }, { name := "LOG2_ARRAY_SHORT_INDEX_SCALE", type := .int, accessFlags := 25, slot := 5, constantValue := 0 }, { name := "LOG2_ARRAY_INT_INDEX_SCALE", type := .int, accessFlags := 25, slot := 6, constantValue := 0 }, { name := "LOG2_ARRAY_LONG_INDEX_SCALE", type := .int, accessFlags := 25, slot := 7, constantValue := 0 }, { name := "LOG2_ARRAY_FLOAT_INDEX_SCALE", type := .int, accessFlags := 25, slot := 8, constantValue := 0 }, { name := "LOG2_ARRAY_DOUBLE_INDEX_SCALE", type := .int, accessFlags := 25, slot := 9, constantValue := 0 }, { name := "LOG2_BYTE_BIT_SIZE", type := .int, accessFlags := 26, slot := 10, constantValue := 0 }, { name := "T_BOOLEAN", type := .int, accessFlags := 25, slot := 11, constantValue := 0 }, { name := "T_CHAR", type := .int, accessFlags := 25, slot := 12, constantValue := 0 }, { name := "T_FLOAT", type := .int, accessFlags := 25, slot := 13, constantValue := 0 }, { name := "T_DOUBLE", type := .int, accessFlags := 25, slot := 14, constantValue := 0 }, { name := "T_BYTE", type := .int, accessFlags := 25, slot := 15, constantValue := 0 }, { name := "T_SHORT", type := .int, accessFlags := 25, slot := 16, constantValue := 0 }, { name := "T_INT", type := .int, accessFlags := 25, slot := 17, constantValue := 0 }, { name := "T_LONG", type := .int, accessFlags := 25, slot := 18, constantValue := 0 }, { name := "JLA", type := (.object "jdk/internal/access/JavaLangAccess"), accessFlags := 26, slot := 19, constantValue := 0 }, { name := "SOFT_MAX_ARRAY_LENGTH", type := .int, accessFlags := 25, slot := 20, constantValue := 0 }]
  methods := #[k16m0]
  instanceTypes := #[]
  staticTypes := #[(.object "jdk/internal/misc/Unsafe"), .boolean, .int, .int, .int, .int, .int, .int, .int, .int, .int, .int, .int, .int, .int, .int, .int, .int, .int, (.object "jdk/internal/access/JavaLangAccess"), .int]
  resolved := Array.replicate 378 none
  statics := none }

def pool17 : Array CpInfo := pool [(1, u "java/lang/Cloneable"), (0, .class_ 1), (0, u "java/lang/Object"), (0, .class_ 3)] 3

/-- java/lang/Cloneable -/
def k17 : Class := { plain "java/lang/Cloneable" (some 0) with
  accessFlags := 1537
  interfaces := #[]
  cf := some (fileOf pool17 2 #[] #[] 1537 4 #[] #[])
  fields := #[]
  methods := #[]
  instanceTypes := #[]
  staticTypes := #[]
  resolved := Array.replicate 8 none
  statics := none }

/-- the primitive byte -/
def k18 : Class := { plain "byte" none with kind := .primitive 'B', accessFlags := 0x411 }
/-- [B -/
def k19 : Class := { plain "[B" (some 0) with kind := .array 18 .byte, interfaces := #[17, 4], accessFlags := 1041 }

/-- the primitive char -/
def k20 : Class := { plain "char" none with kind := .primitive 'C', accessFlags := 0x411 }
/-- [C -/
def k21 : Class := { plain "[C" (some 0) with kind := .array 20 .char, interfaces := #[17, 4], accessFlags := 1041 }

/-- the primitive int -/
def k22 : Class := { plain "int" none with kind := .primitive 'I', accessFlags := 0x411 }
/-- [I -/
def k23 : Class := { plain "[I" (some 0) with kind := .array 22 .int, interfaces := #[17, 4], accessFlags := 1041 }

def heap : Heap := #[{ cls := 6, slots := #[.ref 4, .ref 5, .ref 6, .ref 7, .ref 8, .ref 9, .ref 10, .ref 11, .null], vm := .statics 6 },
  { cls := 9, slots := #[.ref 12, .ref 13, .ref 14, .ref 15, .ref 16, .ref 17, .ref 18, .ref 19, .null], vm := .statics 9 },
  { cls := 12, slots := #[.long 0, .int 1, .null, .int 0, .null, .int 0, .int 0], vm := .statics 12 },
  { cls := 15, slots := #[.null, .null, .null], vm := .statics 15 },
  { cls := 6, slots := #[.null, .int 0, .int 0, .int 0], vm := .none },
  { cls := 6, slots := #[.null, .int 1, .int 0, .int 0], vm := .none },
  { cls := 6, slots := #[.null, .int 2, .int 0, .int 0], vm := .none },
  { cls := 6, slots := #[.null, .int 3, .int 0, .int 0], vm := .none },
  { cls := 6, slots := #[.null, .int 4, .int 0, .int 0], vm := .none },
  { cls := 6, slots := #[.null, .int 5, .int 0, .int 0], vm := .none },
  { cls := 6, slots := #[.null, .int 6, .int 0, .int 0], vm := .none },
  { cls := 6, slots := #[.null, .int 7, .int 0, .int 0], vm := .none },
  { cls := 9, slots := #[.null, .int 0, .int 0], vm := .none },
  { cls := 9, slots := #[.null, .int 1, .int 0], vm := .none },
  { cls := 9, slots := #[.null, .int 2, .int 0], vm := .none },
  { cls := 9, slots := #[.null, .int 3, .int 0], vm := .none },
  { cls := 9, slots := #[.null, .int 4, .int 0], vm := .none },
  { cls := 9, slots := #[.null, .int 5, .int 0], vm := .none },
  { cls := 9, slots := #[.null, .int 6, .int 0], vm := .none },
  { cls := 9, slots := #[.null, .int 7, .int 0], vm := .none }]
def classes : Array Class := #[k0, k1, k2, k3, k4, k5, k6, k7, k8, k9, k10, k11, k12, k13, k14, k15, k16, k17, k18, k19, k20, k21, k22, k23]
def interned : List (Array UInt16 × Addr) := []
def slotsUsed : Nat := 84
def theMethod : MethodId := ⟨1, 3⟩
def args0 : Array Value := #[.int 3, .int 7, .int 65601, .int 9, .int 4]
def aboutOver (below : List Frame) : State where
  vm := { classes := classes, interned := interned.toArray }
  heap := heap
  slotsUsed := slotsUsed
  threads := #[{ frames := .invoking theMethod args0 :: below }]
def below0 : List Frame := [.native { method := ⟨0, 0⟩, args := #[] }]
def about1 : State := aboutOver below0
def p0 : Program := .bare "" "" ""
def e0 : Env := launch0.env 0 0 0
theorem w_frames : about1.frames = Frame.invoking theMethod args0 :: below0 := rfl
set_option maxRecDepth 65536 in
theorem w_args : argsFit about1.vm theMethod args0 = true := by decide +kernel
set_option maxRecDepth 65536 in
theorem w_heap : heapFits about1 = true := by decide +kernel
set_option maxRecDepth 65536 in
theorem w_runnable : about1.curStatus? = some .runnable := by decide +kernel
set_option maxRecDepth 65536 in
theorem w_alone : about1.alone = true := by decide +kernel
set_option maxRecDepth 65536 in
theorem w_named : about1.methodNamed? x = some theMethod := by decide +kernel
set_option maxRecDepth 65536 in
theorem w_hears : about1.hears theMethod below0 = true := by decide +kernel
set_option maxRecDepth 65536 in
theorem w_ripe : about1.ripe theMethod args0 below0 = true := by decide +kernel
theorem w_running : about1.status = .running := rfl
set_option maxRecDepth 65536 in
theorem w_room : about1.hasRoom e0.platform room_1 = true :=
  launch0.hasRoom_least _ room_1 (by decide +kernel) (by decide +kernel) (by decide +kernel) (by decide +kernel) (by decide +kernel) (by decide +kernel)
theorem allAtoms_all (ts : List Jvm.Cond) (a : Array Jvm.Value) (st : Jvm.State) : (allAtoms ts).before a st = ts.all (fun c => c.before a st) := by
  induction ts with
  | nil => rfl
  | cons c t ih =>
    show (Jvm.Cond.and c (allAtoms t)).before a st = _
    rw [Jvm.Cond.before_and, ih, List.all_cons]
def words1 : List Jvm.Cond := Jvm.Cond.code x code maxLocals ret :: tables_1
/-- a 'code' word, met by the world's own term for the bytes: nothing is compared byte by byte -/
theorem code_word {y : MethodName} {bytes : ByteArray} {mx : Nat} {rt : Option FieldType} {a : Array Value} {s : State} {m : MethodId} {meth : Method} {c : Code} (h1 : s.methodNamed? y = some m) (h2 : s.vm.method? m = some meth) (h3 : meth.code = some c) (h4 : c.code = bytes)
    (h5 : (c.maxLocals == mx && c.exceptionTable.isEmpty && decide (c.maxStack ≤ mostOperands) && decide (meth.sig.returnType = rt) && !meth.locks && decide (parseMethodDescriptor y.desc = some meth.sig)) = true) : (Jvm.Cond.code y bytes mx rt).before a s = true := by
  simp only [Bool.and_eq_true, beq_iff_eq, Bool.not_eq_true', decide_eq_true_eq] at h5
  obtain ⟨⟨⟨⟨⟨g1, g2⟩, g3⟩, g4⟩, g5⟩, g6⟩ := h5
  simp [Cond.before, Cond.holds, Cond.value, h1, h2, h3, h4, g1, g2, g3, g4, g5, g6]
def isCode : Jvm.Cond → Bool
  | .code _ _ _ _ => true
  | _ => false
theorem all_split {L : List Jvm.Cond} {P : Jvm.Cond → Bool} (h1 : L.all (fun c => isCode c || P c) = true) (h2 : ∀ c ∈ L.filter isCode, P c = true) : L.all P = true := by
  refine List.all_eq_true.mpr fun c hc => ?_
  have h := List.all_eq_true.mp h1 c hc
  rcases Bool.eq_false_or_eq_true (isCode c) with hi | hi
  · exact h2 c (List.mem_filter.mpr ⟨hc, hi⟩)
  · simpa [hi] using h
set_option maxRecDepth 65536 in
theorem w_c0 : (Jvm.Cond.code x code maxLocals ret).before args0 about1 = true := code_word (m := ⟨1, 3⟩) (meth := k1m3) (c := k1c3) (by decide +kernel) rfl rfl rfl (by decide +kernel)
set_option maxRecDepth 65536 in
theorem w_c1 : (Jvm.Cond.code ({ cls := "com/example/episodic/episodic/StatementResultIsRejectedPinLaw", name := "errorClassOf", desc := "(I)Lcom/example/episodic/episodic/ErrorClass;" } : Jvm.MethodName) method_2_code (2 : Nat) (Option.some (Jvm.ClassFile.FieldType.object "com/example/episodic/episodic/ErrorClass"))).before args0 about1 = true := code_word (m := ⟨1, 1⟩) (meth := k1m1) (c := k1c1) (by decide +kernel) rfl rfl rfl (by decide +kernel)
set_option maxRecDepth 65536 in
theorem w_c2 : (Jvm.Cond.code ({ cls := "com/example/episodic/episodic/StatementResultIsRejectedPinLaw", name := "kindOf", desc := "(I)Lcom/example/episodic/episodic/Statement$Kind;" } : Jvm.MethodName) method_3_code (2 : Nat) (Option.some (Jvm.ClassFile.FieldType.object "com/example/episodic/episodic/Statement$Kind"))).before args0 about1 = true := code_word (m := ⟨1, 2⟩) (meth := k1m2) (c := k1c2) (by decide +kernel) rfl rfl rfl (by decide +kernel)
set_option maxRecDepth 65536 in
theorem w_c3 : (Jvm.Cond.code ({ cls := "com/example/episodic/episodic/StatementResult", name := "<init>", desc := "(Lcom/example/episodic/episodic/Statement$Kind;Lcom/example/episodic/episodic/ErrorClass;Ljava/lang/String;IILcom/example/episodic/episodic/Rows;)V" } : Jvm.MethodName) prog_42_method_1_code (7 : Nat) (Option.none : Option Jvm.ClassFile.FieldType)).before args0 about1 = true := code_word (m := ⟨8, 0⟩) (meth := k8m0) (c := k8c0) (by decide +kernel) rfl rfl rfl (by decide +kernel)
set_option maxRecDepth 65536 in
theorem w_c4 : (Jvm.Cond.code ({ cls := "java/lang/Record", name := "<init>", desc := "()V" } : Jvm.MethodName) jdk_30_method_1_code (1 : Nat) (Option.none : Option Jvm.ClassFile.FieldType)).before args0 about1 = true := code_word (m := ⟨7, 0⟩) (meth := k7m0) (c := k7c0) (by decide +kernel) rfl rfl rfl (by decide +kernel)
set_option maxRecDepth 65536 in
theorem w_c5 : (Jvm.Cond.code ({ cls := "java/lang/Object", name := "<init>", desc := "()V" } : Jvm.MethodName) object_method_1_code (1 : Nat) (Option.none : Option Jvm.ClassFile.FieldType)).before args0 about1 = true := code_word (m := ⟨0, 0⟩) (meth := k0m0) (c := k0c0) (by decide +kernel) rfl rfl rfl (by decide +kernel)
set_option maxRecDepth 65536 in
theorem w_c6 : (Jvm.Cond.code ({ cls := "com/example/episodic/episodic/StatementResult", name := "isRejected", desc := "()Z" } : Jvm.MethodName) prog_42_method_6_code (1 : Nat) (Option.some Jvm.ClassFile.FieldType.boolean)).before args0 about1 = true := code_word (m := ⟨8, 1⟩) (meth := k8m1) (c := k8c1) (by decide +kernel) rfl rfl rfl (by decide +kernel)
set_option maxRecDepth 65536 in
theorem w_c7 : (Jvm.Cond.code ({ cls := "java/lang/String", name := "<init>", desc := "([C)V" } : Jvm.MethodName) jdk_42_method_3_code (2 : Nat) (Option.none : Option Jvm.ClassFile.FieldType)).before args0 about1 = true := code_word (m := ⟨12, 1⟩) (meth := k12m1) (c := k12c1) (by decide +kernel) rfl rfl rfl (by decide +kernel)
set_option maxRecDepth 65536 in
theorem w_c8 : (Jvm.Cond.code ({ cls := "java/lang/String", name := "<init>", desc := "([CIILjava/lang/Void;)V" } : Jvm.MethodName) jdk_42_method_149_code (6 : Nat) (Option.none : Option Jvm.ClassFile.FieldType)).before args0 about1 = true := code_word (m := ⟨12, 2⟩) (meth := k12m2) (c := k12c2) (by decide +kernel) rfl rfl rfl (by decide +kernel)
set_option maxRecDepth 65536 in
theorem w_c9 : (Jvm.Cond.code ({ cls := "java/lang/StringUTF16", name := "compress", desc := "([CII)[B" } : Jvm.MethodName) jdk_52_method_16_code (6 : Nat) (Option.some (Jvm.ClassFile.FieldType.array Jvm.ClassFile.FieldType.byte))).before args0 about1 = true := code_word (m := ⟨13, 2⟩) (meth := k13m2) (c := k13c2) (by decide +kernel) rfl rfl rfl (by decide +kernel)
set_option maxRecDepth 65536 in
theorem w_c10 : (Jvm.Cond.code ({ cls := "java/lang/StringUTF16", name := "compress", desc := "([CI[BII)I" } : Jvm.MethodName) jdk_52_method_21_code (7 : Nat) (Option.some Jvm.ClassFile.FieldType.int)).before args0 about1 = true := code_word (m := ⟨13, 3⟩) (meth := k13m3) (c := k13c3) (by decide +kernel) rfl rfl rfl (by decide +kernel)
set_option maxRecDepth 65536 in
theorem w_c11 : (Jvm.Cond.code ({ cls := "java/lang/StringUTF16", name := "coderFromArrayLen", desc := "([BI)B" } : Jvm.MethodName) jdk_52_method_15_code (2 : Nat) (Option.some Jvm.ClassFile.FieldType.byte)).before args0 about1 = true := code_word (m := ⟨13, 1⟩) (meth := k13m1) (c := k13c1) (by decide +kernel) rfl rfl rfl (by decide +kernel)
def codes1 : List Jvm.Cond := [Jvm.Cond.code x code maxLocals ret, Jvm.Cond.code ({ cls := "com/example/episodic/episodic/StatementResultIsRejectedPinLaw", name := "errorClassOf", desc := "(I)Lcom/example/episodic/episodic/ErrorClass;" } : Jvm.MethodName) method_2_code (2 : Nat) (Option.some (Jvm.ClassFile.FieldType.object "com/example/episodic/episodic/ErrorClass")), Jvm.Cond.code ({ cls := "com/example/episodic/episodic/StatementResultIsRejectedPinLaw", name := "kindOf", desc := "(I)Lcom/example/episodic/episodic/Statement$Kind;" } : Jvm.MethodName) method_3_code (2 : Nat) (Option.some (Jvm.ClassFile.FieldType.object "com/example/episodic/episodic/Statement$Kind")), Jvm.Cond.code ({ cls := "com/example/episodic/episodic/StatementResult", name := "<init>", desc := "(Lcom/example/episodic/episodic/Statement$Kind;Lcom/example/episodic/episodic/ErrorClass;Ljava/lang/String;IILcom/example/episodic/episodic/Rows;)V" } : Jvm.MethodName) prog_42_method_1_code (7 : Nat) (Option.none : Option Jvm.ClassFile.FieldType), Jvm.Cond.code ({ cls := "java/lang/Record", name := "<init>", desc := "()V" } : Jvm.MethodName) jdk_30_method_1_code (1 : Nat) (Option.none : Option Jvm.ClassFile.FieldType), Jvm.Cond.code ({ cls := "java/lang/Object", name := "<init>", desc := "()V" } : Jvm.MethodName) object_method_1_code (1 : Nat) (Option.none : Option Jvm.ClassFile.FieldType), Jvm.Cond.code ({ cls := "com/example/episodic/episodic/StatementResult", name := "isRejected", desc := "()Z" } : Jvm.MethodName) prog_42_method_6_code (1 : Nat) (Option.some Jvm.ClassFile.FieldType.boolean), Jvm.Cond.code ({ cls := "java/lang/String", name := "<init>", desc := "([C)V" } : Jvm.MethodName) jdk_42_method_3_code (2 : Nat) (Option.none : Option Jvm.ClassFile.FieldType), Jvm.Cond.code ({ cls := "java/lang/String", name := "<init>", desc := "([CIILjava/lang/Void;)V" } : Jvm.MethodName) jdk_42_method_149_code (6 : Nat) (Option.none : Option Jvm.ClassFile.FieldType), Jvm.Cond.code ({ cls := "java/lang/StringUTF16", name := "compress", desc := "([CII)[B" } : Jvm.MethodName) jdk_52_method_16_code (6 : Nat) (Option.some (Jvm.ClassFile.FieldType.array Jvm.ClassFile.FieldType.byte)), Jvm.Cond.code ({ cls := "java/lang/StringUTF16", name := "compress", desc := "([CI[BII)I" } : Jvm.MethodName) jdk_52_method_21_code (7 : Nat) (Option.some Jvm.ClassFile.FieldType.int), Jvm.Cond.code ({ cls := "java/lang/StringUTF16", name := "coderFromArrayLen", desc := "([BI)B" } : Jvm.MethodName) jdk_52_method_15_code (2 : Nat) (Option.some Jvm.ClassFile.FieldType.byte)]
set_option maxRecDepth 65536 in
theorem codes_eq : words1.filter isCode = codes1 := rfl
theorem w_codes : ∀ c ∈ words1.filter isCode, c.before args0 about1 = true := by
  rw [codes_eq]
  intro c hc
  simp only [codes1, List.mem_cons, List.not_mem_nil, or_false] at hc
  rcases hc with rfl | rfl | rfl | rfl | rfl | rfl | rfl | rfl | rfl | rfl | rfl | rfl
  · exact w_c0
  · exact w_c1
  · exact w_c2
  · exact w_c3
  · exact w_c4
  · exact w_c5
  · exact w_c6
  · exact w_c7
  · exact w_c8
  · exact w_c9
  · exact w_c10
  · exact w_c11
set_option maxRecDepth 65536 in
theorem w_t1 : (words1.take 24).all (fun c => isCode c || c.before args0 about1) = true := by decide +kernel
set_option maxRecDepth 65536 in
theorem w_t2 : ((words1.drop 24).take 24).all (fun c => isCode c || c.before args0 about1) = true := by decide +kernel
set_option maxRecDepth 65536 in
theorem w_t3 : (((words1.drop 24).drop 24).take 24).all (fun c => isCode c || c.before args0 about1) = true := by decide +kernel
set_option maxRecDepth 65536 in
theorem w_t4 : ((((words1.drop 24).drop 24).drop 24).take 24).all (fun c => isCode c || c.before args0 about1) = true := by decide +kernel
set_option maxRecDepth 65536 in
theorem w_t5 : ((((words1.drop 24).drop 24).drop 24).drop 24).all (fun c => isCode c || c.before args0 about1) = true := by decide +kernel
theorem w_tables : (allAtoms (Jvm.Cond.code x code maxLocals ret :: tables_1)).before args0 about1 = true := by
  rw [allAtoms_all]
  show words1.all (fun c => c.before args0 about1) = true
  refine all_split ?_ w_codes
  rw [← List.take_append_drop 24 words1, List.all_append, w_t1, ← List.take_append_drop 24 (words1.drop 24), List.all_append, w_t2, ← List.take_append_drop 24 ((words1.drop 24).drop 24), List.all_append, w_t3, ← List.take_append_drop 24 (((words1.drop 24).drop 24).drop 24), List.all_append, w_t4, w_t5]
  rfl
set_option maxRecDepth 65536 in
theorem w_rest : rest_1_c.before args0 about1 = true := by decide +kernel
set_option maxRecDepth 65536 in
theorem w_case : (Jvm.Cond.and given_1 narrow_1).before args0 about1 = true := by decide +kernel
theorem w_applies : (headSpec (Jvm.Cond.code x code maxLocals ret :: tables_1) room_1).applies x e0.platform about1 = true :=
  (Spec.applies_iff w_frames).mpr ⟨w_running, w_runnable, w_alone, w_named, w_hears, w_ripe, w_room, w_tables⟩
theorem atStart : AtStart classFile x code maxLocals ret World_1 tables_1 room_1 Calls_1 rest_1 Pre_1 launch0 p0 e0 about1 theMethod args0 below0 :=
  ⟨lists_1, trivial, launch0.admits_env _ _ _, launch0.least_env, fairChoices_fair.cas, fairChoices_fair.clock, w_frames, w_args, w_heap, w_applies, trivial, w_rest, w_case⟩
end start1
theorem witness_1 : WitnessClaimed_1 := ⟨start1.p0, start1.e0, start1.about1, start1.theMethod, start1.args0, start1.below0, start1.atStart⟩
end Jvm.Pilot.@@N@@
