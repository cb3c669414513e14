import JvmDerived
import JvmDerived.Pilot.@@N@@Statement
import JvmDerived.Pilot.@@N@@Code
set_option linter.unusedVariables false
set_option linter.unusedSimpArgs false
namespace Jvm.OwnGo
open Jvm Jvm.ClassFile Sem Op Lib Jvm.Free Jvm.Stand Jvm.LawKit Jvm.RoadKit
/-- the setting of one body's run -/
def Cx (p : Program) (l : Launch) (e : Env) (R : Room) (s : State) (m : MethodId) (meth : Method) (c : Code) (Z : State) (n0 : Nat) (y : MethodName) (code : ByteArray) (ml : Nat) (ret : Option FieldType) : Prop :=
  p.tables.exec = Jvm.exec ∧ Z.Warmed39 s.vm ∧ s.vm.findClass y.cls = some m.cls ∧ c.code = code ∧ c.maxLocals = ml ∧ meth.sig.returnType = ret ∧ meth.locks = false ∧ meth.name = y.name ∧ Old Z n0 s.heap
/-- from pc, with these locals, this stack and this heap, the body of y returns, Q holds of what it returns and leaves, and it has written in cells at or above n0 alone -/
def Go (l : Launch) (R : Room) (Z : State) (n0 : Nat) (y : MethodName) (code : ByteArray) (ml : Nat) (ret : Option FieldType) (Q : Option Value → Heap → Prop) (cells slots : Nat) (h : Heap) (pc : Nat) (Ls : Array Slot) (st : List Value) : Prop :=
  ∀ (p : Program) (e : Env) (s : State) (m : MethodId) (args : Array Value) (below : List Frame) (meth : Method) (c : Code) (T : State) (locs : List Loc),
    Cx p l e R s m meth c Z n0 y code ml ret → Stand p l e R s m args below meth c T locs cells slots → Fr n0 locs → T.heap = h →
    ∃ s₂ o, Steps p.tables e below (T.setTop (mkF m pc Ls st)) s₂ ∧ s₂.status = .running ∧ Ended s₂ below o ∧ ∃ v L, o = .returned v ∧ (Q v s₂.heap ∧ Fr n0 L) ∧ FrameEnd s o s₂ L R.cells R.slots
/-- what a body called with these arguments at the heap h does -/
def Con (l : Launch) (y : MethodName) (code : ByteArray) (ml : Nat) (ret : Option FieldType) (R : Room) (Z : State) (n0 : Nat) (as : Array Value) (h : Heap) (Q : Option Value → Heap → Prop) : Prop :=
  Old Z n0 h → ∀ ws, MetFree l y (head1 (Jvm.Cond.code y code ml ret :: ws) R) (fun a U => a = as ∧ Z.Warmed39 U.vm ∧ U.heap = h) (fun _ _ _ _ _ => True)
    (fun _ U o U' => ∃ v L, o = .returned v ∧ (Q v U'.heap ∧ Fr n0 L) ∧ FrameEnd U o U' L R.cells R.slots)
def Mi (Z : State) (C : String) (mr : Addr) : Prop := ∃ (c : ClassId) (k : Class), Z.vm.findClass C = some c ∧ Z.vm.classes[c]? = some k ∧ k.mirror = some mr
theorem Mi.at {Z s : State} {C : String} {mr : Addr} (M : Mi Z C mr) (hZ : Z.Warmed39 s.vm) : ∃ (c : ClassId) (k : Class), s.vm.findClass C = some c ∧ s.vm.classes[c]? = some k ∧ k.mirror = some mr := by
  obtain ⟨c, k, m1, m2, m3⟩ := M
  obtain ⟨k', q, ek⟩ := hZ.alike.2.2 _ _ m2
  exact ⟨c, k', by rw [hZ.alike.findClass]; exact m1, q, by rw [ek]; exact m3⟩
theorem own_sto {Z : State} {h : Heap} {a b : Addr} {kA : ClassId} {ty : FieldType} {z : Int32} {vs : List Value} {dv : Value} {C : String} (F : Arv Z h a kA ty z vs dv) (O : Ovr Z kA C) (I : Ins Z h b C true) : Sto Z h a (.ref b) := by
  obtain ⟨c, A, q, -⟩ := F; exact Sto.ofV A q O I
theorem own_nar (t : FieldType) {v : Value} (h : v.isRef = true) : narrow t v = v := by cases v <;> first | rfl | (cases t <;> rfl) | (simp [Value.isRef] at h)
theorem own_fits {t : FieldType} {v : Value} (ht : t.isReference = true) (h : v.isRef = true) : fits t v = true := by cases t <;> first | (cases ht; done) | (cases v <;> first | rfl | (simp [Value.isRef] at h))
theorem own_old {p : Program} {l : Launch} {e : Env} {R : Room} {s : State} {m : MethodId} {args : Array Value} {below : List Frame} {meth : Method} {c : Code} {T : State} {locs : List Loc} {cells slots n0 : Nat} {Z : State} {h : Heap} (O : Old Z n0 s.heap) (X : Stand p l e R s m args below meth c T locs cells slots) (N : Fr n0 locs) (eT : T.heap = h) : Old Z n0 h := by
  subst eT
  obtain ⟨-, g1, -, -, -, g2⟩ := X.same
  refine ⟨O.1, Nat.le_trans O.2.1 g1, fun a c ha => ?_⟩
  obtain ⟨c', q1, q2, q3, q4⟩ := g2 a c (O.2.2 a c ha)
  have hlt : a < n0 := O.1 ▸ (Array.getElem?_eq_some_iff.mp ha).1
  have e1 : c'.slots = c.slots := Array.ext_getElem? fun i => q4 i fun hm => absurd (N _ hm) (Nat.not_le.mpr hlt)
  have e2 : c' = c := by rw [q2, e1]
  rw [← e2]; exact q1
section Rules
variable {l : Launch} {R : Room} {Z : State} {n0 : Nat} {y : MethodName} {code : ByteArray} {ml : Nat} {ret : Option FieldType} {Q : Option Value → Heap → Prop} {cells slots : Nat} {h : Heap} {pc pc' : Nat} {Ls Ls' : Array Slot} {st st' rest : List Value} {a0 : Array Value}
theorem Con.of_go {as : Array Value} (hp : plainFor y = true) (he : ∀ m, entryFrame m as ml = mkF m 0 Ls []) (k : Go l R Z n0 y code ml ret Q 0 0 h 0 Ls []) : Con l y code ml ret R Z n0 as h Q := by
  intro hn ws
  refine MetFree.of_bodySF hp hisR ?_
  intro p e s m args below meth c s₁ Bd hml0 hP hK
  obtain ⟨rfl, hZ, hh⟩ := hP
  have e0 : s₁.heap = h := by rw [← hh, Bd.state]; rfl
  have X0 : Stand p l e R s m args below meth c s₁ [] 0 0 := Stand.of_body Bd
  obtain ⟨s₂, o, h1, h2, h3, h4⟩ := k p e s m args below meth c s₁ [] ⟨Bd.exec, hZ, findClass_of_methodNamed Bd.named, Bd.bytes, hml0, Bd.returns, Bd.notSynchronized, (name_of_methodNamed Bd.named Bd.method).1, by rw [hh]; exact hn⟩ X0 (Fr.nil n0) e0
  exact ⟨s₂, o, castTop (he m) h1, h2, h3, h4⟩
theorem Con.mono {as : Array Value} {Q' : Option Value → Heap → Prop} (k : Con l y code ml ret R Z n0 as h Q) (hq : ∀ v h', Q v h' → Q' v h') : Con l y code ml ret R Z n0 as h Q' := by
  intro hn ws
  refine (k hn ws).mono (fun _ _ q => q) (fun _ _ _ _ _ q => q) ?_
  rintro a U o U' hP ⟨v, L, e, ⟨q, N⟩, r⟩
  exact ⟨v, L, e, ⟨hq _ _ q, N⟩, r⟩
theorem Go.mono {Q' : Option Value → Heap → Prop} (k : Go l R Z n0 y code ml ret Q' cells slots h pc Ls st) (hq : ∀ v h', Q' v h' → Q v h') : Go l R Z n0 y code ml ret Q cells slots h pc Ls st := by
  intro p e s m args below meth c T locs C X N eT
  obtain ⟨s₂, o, h1, h2, h3, v, L, h4, ⟨h5, h6⟩, h7⟩ := k p e s m args below meth c T locs C X N eT
  exact ⟨s₂, o, h1, h2, h3, v, L, h4, ⟨hq _ _ h5, h6⟩, h7⟩
theorem Go.more {cells' slots' : Nat} (k : Go l R Z n0 y code ml ret Q cells' slots' h pc Ls st) (hc : cells ≤ cells') (hs : slots ≤ slots') : Go l R Z n0 y code ml ret Q cells slots h pc Ls st := by
  intro p e s m args below meth c T locs C X N eT
  exact k p e s m args below meth c T locs C (X.more hc hs) N eT
theorem Go.old (k : Old Z n0 h → Go l R Z n0 y code ml ret Q cells slots h pc Ls st) : Go l R Z n0 y code ml ret Q cells slots h pc Ls st := by
  intro p e s m args below meth c T locs C X N eT
  exact k (own_old C.2.2.2.2.2.2.2.2 X N eT) p e s m args below meth c T locs C X N eT
theorem Go.step (hst : ∀ {p : Program} {e : Env} {s : State} {m : MethodId} {args : Array Value} {below : List Frame} {meth : Method} {c : Code} {T : State} {locs : List Loc} {target : State},
      Cx p l e R s m meth c Z n0 y code ml ret → Stand p l e R s m args below meth c T locs cells slots → T.heap = h → Steps p.tables e below (T.setTop (mkF m pc' Ls' st')) target → Steps p.tables e below (T.setTop (mkF m pc Ls st)) target)
    (k : Go l R Z n0 y code ml ret Q cells slots h pc' Ls' st') : Go l R Z n0 y code ml ret Q cells slots h pc Ls st := by
  intro p e s m args below meth c T locs C X N eT
  obtain ⟨s₂, o, h1, h2⟩ := k p e s m args below meth c T locs C X N eT
  exact ⟨s₂, o, hst C X eT h1, h2⟩
theorem Go.law {cells' slots' : Nat} {P : Heap → Prop} (hst : ∀ {p : Program} {e : Env} {s : State} {m : MethodId} {args : Array Value} {below : List Frame} {meth : Method} {c : Code} {T : State} {locs : List Loc},
      Cx p l e R s m meth c Z n0 y code ml ret → Stand p l e R s m args below meth c T locs cells slots → Fr n0 locs → T.heap = h → n0 ≤ h.size →
      ∃ T' locs' h', Stand p l e R s m args below meth c T' locs' cells' slots' ∧ Fr n0 locs' ∧ T'.heap = h' ∧ P h' ∧ ∀ target, Steps p.tables e below (T'.setTop (mkF m pc' Ls' st')) target → Steps p.tables e below (T.setTop (mkF m pc Ls st)) target)
    (k : ∀ h', P h' → Go l R Z n0 y code ml ret Q cells' slots' h' pc' Ls' st') : Go l R Z n0 y code ml ret Q cells slots h pc Ls st := by
  intro p e s m args below meth c T locs C X N eT
  have hold : Old Z n0 h := own_old C.2.2.2.2.2.2.2.2 X N eT
  obtain ⟨T', locs', h', X', N', e', hP, st⟩ := hst C X N eT (hold.1 ▸ hold.2.1)
  obtain ⟨s₂, o, h1, h2⟩ := k h' hP p e s m args below meth c T' locs' C X' N' e'
  exact ⟨s₂, o, st _ h1, h2⟩
theorem Go.iloadN {k : Fin 4} {v : Int32} (hd : decode code pc = .ok (.iload_n k, 1)) (hl : Ls[k.val]? = some (.val (.int v))) (hp : pc + 1 = pc') (k : Go l R Z n0 y code ml ret Q cells slots h pc' Ls (.int v :: st)) : Go l R Z n0 y code ml ret Q cells slots h pc Ls st := Go.step (fun C X _ q => by subst hp; exact XS.iloadN X.here C.1 rfl (hb C.2.2.2.1 hd) hl q) k
theorem Go.iload {k : Nat} {v : Int32} (hd : decode code pc = .ok (.iload k, 2)) (hl : Ls[k]? = some (.val (.int v))) (hp : pc + 2 = pc') (k : Go l R Z n0 y code ml ret Q cells slots h pc' Ls (.int v :: st)) : Go l R Z n0 y code ml ret Q cells slots h pc Ls st := Go.step (fun C X _ q => by subst hp; exact XS.iload X.here C.1 rfl (hb C.2.2.2.1 hd) hl q) k
theorem Go.lloadN {k : Fin 4} {v : Int64} (hd : decode code pc = .ok (.lload_n k, 1)) (hl : Ls[k.val]? = some (.val (.long v))) (hp : pc + 1 = pc') (k : Go l R Z n0 y code ml ret Q cells slots h pc' Ls (.long v :: st)) : Go l R Z n0 y code ml ret Q cells slots h pc Ls st := Go.step (fun C X _ q => by subst hp; exact XT.lloadN X.here C.1 rfl (hb C.2.2.2.1 hd) hl q) k
theorem Go.lload {k : Nat} {v : Int64} (hd : decode code pc = .ok (.lload k, 2)) (hl : Ls[k]? = some (.val (.long v))) (hp : pc + 2 = pc') (k : Go l R Z n0 y code ml ret Q cells slots h pc' Ls (.long v :: st)) : Go l R Z n0 y code ml ret Q cells slots h pc Ls st := Go.step (fun C X _ q => by subst hp; exact XT.lload X.here C.1 rfl (hb C.2.2.2.1 hd) hl q) k
theorem Go.aloadN {k : Fin 4} {v : Value} (hd : decode code pc = .ok (.aload_n k, 1)) (hl : Ls[k.val]? = some (.val v)) (hv : v.isRef = true) (hp : pc + 1 = pc') (k : Go l R Z n0 y code ml ret Q cells slots h pc' Ls (v :: st)) : Go l R Z n0 y code ml ret Q cells slots h pc Ls st := Go.step (fun C X _ q => by subst hp; exact XS.aloadN X.here C.1 rfl (hb C.2.2.2.1 hd) hl hv q) k
theorem Go.aload {k : Nat} {v : Value} (hd : decode code pc = .ok (.aload k, 2)) (hl : Ls[k]? = some (.val v)) (hv : v.isRef = true) (hp : pc + 2 = pc') (k : Go l R Z n0 y code ml ret Q cells slots h pc' Ls (v :: st)) : Go l R Z n0 y code ml ret Q cells slots h pc Ls st := Go.step (fun C X _ q => by subst hp; exact XS.aload X.here C.1 rfl (hb C.2.2.2.1 hd) hl hv q) k
theorem Go.istoreN {k : Fin 4} {v : Int32} (hd : decode code pc = .ok (.istore_n k, 1)) (hl : storeLocals Ls k.val (.int v) = some Ls') (hp : pc + 1 = pc') (k : Go l R Z n0 y code ml ret Q cells slots h pc' Ls' st) : Go l R Z n0 y code ml ret Q cells slots h pc Ls (.int v :: st) := Go.step (fun C X _ q => by subst hp; exact XS.istoreN X.here C.1 rfl (hb C.2.2.2.1 hd) rfl hl q) k
theorem Go.istore {k : Nat} {v : Int32} (hd : decode code pc = .ok (.istore k, 2)) (hl : storeLocals Ls k (.int v) = some Ls') (hp : pc + 2 = pc') (k : Go l R Z n0 y code ml ret Q cells slots h pc' Ls' st) : Go l R Z n0 y code ml ret Q cells slots h pc Ls (.int v :: st) := Go.step (fun C X _ q => by subst hp; exact XS.istore X.here C.1 rfl (hb C.2.2.2.1 hd) rfl hl q) k
theorem Go.lstoreN {k : Fin 4} {v : Int64} (hd : decode code pc = .ok (.lstore_n k, 1)) (hl : storeLocals Ls k.val (.long v) = some Ls') (hp : pc + 1 = pc') (k : Go l R Z n0 y code ml ret Q cells slots h pc' Ls' st) : Go l R Z n0 y code ml ret Q cells slots h pc Ls (.long v :: st) := Go.step (fun C X _ q => by subst hp; exact XT.lstoreN X.here C.1 rfl (hb C.2.2.2.1 hd) rfl hl q) k
theorem Go.lstore {k : Nat} {v : Int64} (hd : decode code pc = .ok (.lstore k, 2)) (hl : storeLocals Ls k (.long v) = some Ls') (hp : pc + 2 = pc') (k : Go l R Z n0 y code ml ret Q cells slots h pc' Ls' st) : Go l R Z n0 y code ml ret Q cells slots h pc Ls (.long v :: st) := Go.step (fun C X _ q => by subst hp; exact XT.lstore X.here C.1 rfl (hb C.2.2.2.1 hd) rfl hl q) k
theorem Go.astoreN {k : Fin 4} {v : Value} (hd : decode code pc = .ok (.astore_n k, 1)) (hv : v.isRef = true) (hl : storeLocals Ls k.val v = some Ls') (hp : pc + 1 = pc') (k : Go l R Z n0 y code ml ret Q cells slots h pc' Ls' st) : Go l R Z n0 y code ml ret Q cells slots h pc Ls (v :: st) := Go.step (fun C X _ q => by subst hp; exact XS.astoreN X.here C.1 rfl (hb C.2.2.2.1 hd) rfl hv hl q) k
theorem Go.astore {k : Nat} {v : Value} (hd : decode code pc = .ok (.astore k, 2)) (hv : v.isRef = true) (hl : storeLocals Ls k v = some Ls') (hp : pc + 2 = pc') (k : Go l R Z n0 y code ml ret Q cells slots h pc' Ls' st) : Go l R Z n0 y code ml ret Q cells slots h pc Ls (v :: st) := Go.step (fun C X _ q => by subst hp; exact XS.astore X.here C.1 rfl (hb C.2.2.2.1 hd) rfl hv hl q) k
theorem Go.iconst {i : Int} {v : Int32} (hd : decode code pc = .ok (.iconst i, 1)) (hv : Int32.ofInt i = v) (hp : pc + 1 = pc') (k : Go l R Z n0 y code ml ret Q cells slots h pc' Ls (.int v :: st)) : Go l R Z n0 y code ml ret Q cells slots h pc Ls st := Go.step (fun C X _ q => by subst hp; exact (by subst hv; exact XS.iconst X.here C.1 rfl (hb C.2.2.2.1 hd) q)) k
theorem Go.bipush {i : Int} {v : Int32} (hd : decode code pc = .ok (.bipush i, 2)) (hv : (Int8.ofInt i).toInt32 = v) (hp : pc + 2 = pc') (k : Go l R Z n0 y code ml ret Q cells slots h pc' Ls (.int v :: st)) : Go l R Z n0 y code ml ret Q cells slots h pc Ls st := Go.step (fun C X _ q => by subst hp; exact (by subst hv; exact XS.bipush X.here C.1 rfl (hb C.2.2.2.1 hd) q)) k
theorem Go.sipush {i : Int} {v : Int32} (hd : decode code pc = .ok (.sipush i, 3)) (hv : (Int16.ofInt i).toInt32 = v) (hp : pc + 3 = pc') (k : Go l R Z n0 y code ml ret Q cells slots h pc' Ls (.int v :: st)) : Go l R Z n0 y code ml ret Q cells slots h pc Ls st := Go.step (fun C X _ q => by subst hp; exact (by subst hv; exact XS.sipush X.here C.1 rfl (hb C.2.2.2.1 hd) q)) k
theorem Go.lconst {i : Fin 2} {v : Int64} (hd : decode code pc = .ok (.lconst i, 1)) (hv : Int64.ofNat i = v) (hp : pc + 1 = pc') (k : Go l R Z n0 y code ml ret Q cells slots h pc' Ls (.long v :: st)) : Go l R Z n0 y code ml ret Q cells slots h pc Ls st := Go.step (fun C X _ q => by subst hp; exact XT.lconstV X.here C.1 rfl v (hb C.2.2.2.1 hd) hv q) k
theorem Go.aconstNull (hd : decode code pc = .ok (.aconst_null, 1)) (hp : pc + 1 = pc') (k : Go l R Z n0 y code ml ret Q cells slots h pc' Ls (.null :: st)) : Go l R Z n0 y code ml ret Q cells slots h pc Ls st := Go.step (fun C X _ q => by subst hp; exact XS.aconstNull X.here C.1 rfl (hb C.2.2.2.1 hd) q) k
theorem Go.ldcI {i : Nat} {v : Int32} (w : (Jvm.Cond.constant y.cls i v).before a0 Z = true) (hd : decode code pc = .ok (.ldc i, 2)) (hp : pc + 2 = pc') (k : Go l R Z n0 y code ml ret Q cells slots h pc' Ls (.int v :: st)) : Go l R Z n0 y code ml ret Q cells slots h pc Ls st := Go.step (fun C X _ q => by subst hp; exact Jvm.Stand.ldcI X C.1 C.2.2.1 (mvT C.2.1 w) rfl (hb C.2.2.2.1 hd) q) k
theorem Go.ldcWI {i : Nat} {v : Int32} (w : (Jvm.Cond.constant y.cls i v).before a0 Z = true) (hd : decode code pc = .ok (.ldc_w i, 3)) (hp : pc + 3 = pc') (k : Go l R Z n0 y code ml ret Q cells slots h pc' Ls (.int v :: st)) : Go l R Z n0 y code ml ret Q cells slots h pc Ls st := Go.step (fun C X _ q => by subst hp; exact Jvm.Stand.ldcWI X C.1 C.2.2.1 (mvT C.2.1 w) rfl (hb C.2.2.2.1 hd) q) k
theorem Go.ldc2J {i : Nat} {v : Int64} (w : (Jvm.Cond.constantLong y.cls i v).before a0 Z = true) (hd : decode code pc = .ok (.ldc2_w i, 3)) (hp : pc + 3 = pc') (k : Go l R Z n0 y code ml ret Q cells slots h pc' Ls (.long v :: st)) : Go l R Z n0 y code ml ret Q cells slots h pc Ls st := Go.step (fun C X _ q => by subst hp; exact Jvm.Stand.ldc2J X C.1 C.2.2.1 (mvT C.2.1 w) rfl (hb C.2.2.2.1 hd) q) k
theorem Go.iadd {a b : Int32} (hd : decode code pc = .ok (.iadd, 1)) (hp : pc + 1 = pc') (k : Go l R Z n0 y code ml ret Q cells slots h pc' Ls (.int (a + b) :: st)) : Go l R Z n0 y code ml ret Q cells slots h pc Ls (.int b :: .int a :: st) := Go.step (fun C X _ q => by subst hp; exact XS.iadd X.here C.1 rfl (hb C.2.2.2.1 hd) rfl q) k
theorem Go.isub {a b : Int32} (hd : decode code pc = .ok (.isub, 1)) (hp : pc + 1 = pc') (k : Go l R Z n0 y code ml ret Q cells slots h pc' Ls (.int (a - b) :: st)) : Go l R Z n0 y code ml ret Q cells slots h pc Ls (.int b :: .int a :: st) := Go.step (fun C X _ q => by subst hp; exact XS.isub X.here C.1 rfl (hb C.2.2.2.1 hd) rfl q) k
theorem Go.imul {a b : Int32} (hd : decode code pc = .ok (.imul, 1)) (hp : pc + 1 = pc') (k : Go l R Z n0 y code ml ret Q cells slots h pc' Ls (.int (a * b) :: st)) : Go l R Z n0 y code ml ret Q cells slots h pc Ls (.int b :: .int a :: st) := Go.step (fun C X _ q => by subst hp; exact XS.imul X.here C.1 rfl (hb C.2.2.2.1 hd) rfl q) k
theorem Go.iand {a b : Int32} (hd : decode code pc = .ok (.iand, 1)) (hp : pc + 1 = pc') (k : Go l R Z n0 y code ml ret Q cells slots h pc' Ls (.int (a &&& b) :: st)) : Go l R Z n0 y code ml ret Q cells slots h pc Ls (.int b :: .int a :: st) := Go.step (fun C X _ q => by subst hp; exact XS.iand X.here C.1 rfl (hb C.2.2.2.1 hd) rfl q) k
theorem Go.ior {a b : Int32} (hd : decode code pc = .ok (.ior, 1)) (hp : pc + 1 = pc') (k : Go l R Z n0 y code ml ret Q cells slots h pc' Ls (.int (a ||| b) :: st)) : Go l R Z n0 y code ml ret Q cells slots h pc Ls (.int b :: .int a :: st) := Go.step (fun C X _ q => by subst hp; exact XT.ior X.here C.1 rfl (hb C.2.2.2.1 hd) rfl q) k
theorem Go.ixor {a b : Int32} (hd : decode code pc = .ok (.ixor, 1)) (hp : pc + 1 = pc') (k : Go l R Z n0 y code ml ret Q cells slots h pc' Ls (.int (a ^^^ b) :: st)) : Go l R Z n0 y code ml ret Q cells slots h pc Ls (.int b :: .int a :: st) := Go.step (fun C X _ q => by subst hp; exact XT.ixor X.here C.1 rfl (hb C.2.2.2.1 hd) rfl q) k
theorem Go.ladd {a b : Int64} (hd : decode code pc = .ok (.ladd, 1)) (hp : pc + 1 = pc') (k : Go l R Z n0 y code ml ret Q cells slots h pc' Ls (.long (a + b) :: st)) : Go l R Z n0 y code ml ret Q cells slots h pc Ls (.long b :: .long a :: st) := Go.step (fun C X _ q => by subst hp; exact XT.ladd X.here C.1 rfl (hb C.2.2.2.1 hd) rfl q) k
theorem Go.lsub {a b : Int64} (hd : decode code pc = .ok (.lsub, 1)) (hp : pc + 1 = pc') (k : Go l R Z n0 y code ml ret Q cells slots h pc' Ls (.long (a - b) :: st)) : Go l R Z n0 y code ml ret Q cells slots h pc Ls (.long b :: .long a :: st) := Go.step (fun C X _ q => by subst hp; exact XT.lsub X.here C.1 rfl (hb C.2.2.2.1 hd) rfl q) k
theorem Go.lmul {a b : Int64} (hd : decode code pc = .ok (.lmul, 1)) (hp : pc + 1 = pc') (k : Go l R Z n0 y code ml ret Q cells slots h pc' Ls (.long (a * b) :: st)) : Go l R Z n0 y code ml ret Q cells slots h pc Ls (.long b :: .long a :: st) := Go.step (fun C X _ q => by subst hp; exact XT.lmul X.here C.1 rfl (hb C.2.2.2.1 hd) rfl q) k
theorem Go.land {a b : Int64} (hd : decode code pc = .ok (.land, 1)) (hp : pc + 1 = pc') (k : Go l R Z n0 y code ml ret Q cells slots h pc' Ls (.long (a &&& b) :: st)) : Go l R Z n0 y code ml ret Q cells slots h pc Ls (.long b :: .long a :: st) := Go.step (fun C X _ q => by subst hp; exact XT.land X.here C.1 rfl (hb C.2.2.2.1 hd) rfl q) k
theorem Go.lor {a b : Int64} (hd : decode code pc = .ok (.lor, 1)) (hp : pc + 1 = pc') (k : Go l R Z n0 y code ml ret Q cells slots h pc' Ls (.long (a ||| b) :: st)) : Go l R Z n0 y code ml ret Q cells slots h pc Ls (.long b :: .long a :: st) := Go.step (fun C X _ q => by subst hp; exact XT.lor X.here C.1 rfl (hb C.2.2.2.1 hd) rfl q) k
theorem Go.lxor {a b : Int64} (hd : decode code pc = .ok (.lxor, 1)) (hp : pc + 1 = pc') (k : Go l R Z n0 y code ml ret Q cells slots h pc' Ls (.long (a ^^^ b) :: st)) : Go l R Z n0 y code ml ret Q cells slots h pc Ls (.long b :: .long a :: st) := Go.step (fun C X _ q => by subst hp; exact XT.lxor X.here C.1 rfl (hb C.2.2.2.1 hd) rfl q) k
theorem Go.ishl {a b : Int32} (hd : decode code pc = .ok (.ishl, 1)) (hp : pc + 1 = pc') (k : Go l R Z n0 y code ml ret Q cells slots h pc' Ls (.int (a <<< (b &&& 31)) :: st)) : Go l R Z n0 y code ml ret Q cells slots h pc Ls (.int b :: .int a :: st) := Go.step (fun C X _ q => by subst hp; exact XT.ishl X.here C.1 rfl (hb C.2.2.2.1 hd) rfl q) k
theorem Go.ishr {a b : Int32} (hd : decode code pc = .ok (.ishr, 1)) (hp : pc + 1 = pc') (k : Go l R Z n0 y code ml ret Q cells slots h pc' Ls (.int (a >>> (b &&& 31)) :: st)) : Go l R Z n0 y code ml ret Q cells slots h pc Ls (.int b :: .int a :: st) := Go.step (fun C X _ q => by subst hp; exact XT.ishr X.here C.1 rfl (hb C.2.2.2.1 hd) rfl q) k
theorem Go.iushr {a b : Int32} (hd : decode code pc = .ok (.iushr, 1)) (hp : pc + 1 = pc') (k : Go l R Z n0 y code ml ret Q cells slots h pc' Ls (.int (XT.ushr a b) :: st)) : Go l R Z n0 y code ml ret Q cells slots h pc Ls (.int b :: .int a :: st) := Go.step (fun C X _ q => by subst hp; exact XT.iushr X.here C.1 rfl (hb C.2.2.2.1 hd) rfl q) k
theorem Go.lshr {a : Int64} {b : Int32} (hd : decode code pc = .ok (.lshr, 1)) (hp : pc + 1 = pc') (k : Go l R Z n0 y code ml ret Q cells slots h pc' Ls (.long (a >>> (b.toInt64 &&& 63)) :: st)) : Go l R Z n0 y code ml ret Q cells slots h pc Ls (.int b :: .long a :: st) := Go.step (fun C X _ q => by subst hp; exact XT.lshr X.here C.1 rfl (hb C.2.2.2.1 hd) rfl q) k
theorem Go.lshl {a : Int64} {b : Int32} (hd : decode code pc = .ok (.lshl, 1)) (hp : pc + 1 = pc') (k : Go l R Z n0 y code ml ret Q cells slots h pc' Ls (.long (a <<< (b.toInt64 &&& 63)) :: st)) : Go l R Z n0 y code ml ret Q cells slots h pc Ls (.int b :: .long a :: st) := Go.step (fun C X _ q => by subst hp; exact XT.lshl X.here C.1 rfl (hb C.2.2.2.1 hd) rfl q) k
theorem Go.lushr {a : Int64} {b : Int32} (hd : decode code pc = .ok (.lushr, 1)) (hp : pc + 1 = pc') (k : Go l R Z n0 y code ml ret Q cells slots h pc' Ls (.long (XT.ushrL a b) :: st)) : Go l R Z n0 y code ml ret Q cells slots h pc Ls (.int b :: .long a :: st) := Go.step (fun C X _ q => by subst hp; exact XT.lushr X.here C.1 rfl (hb C.2.2.2.1 hd) rfl q) k
theorem Go.irem {a b : Int32} (hd : decode code pc = .ok (.irem, 1)) (hz : b ≠ 0) (hp : pc + 1 = pc') (k : Go l R Z n0 y code ml ret Q cells slots h pc' Ls (.int (a % b) :: st)) : Go l R Z n0 y code ml ret Q cells slots h pc Ls (.int b :: .int a :: st) := Go.step (fun C X _ q => by subst hp; exact iremM X C.1 rfl (hb C.2.2.2.1 hd) rfl hz q) k
theorem Go.idiv {a b : Int32} (hd : decode code pc = .ok (.idiv, 1)) (hz : b ≠ 0) (hp : pc + 1 = pc') (k : Go l R Z n0 y code ml ret Q cells slots h pc' Ls (.int (a / b) :: st)) : Go l R Z n0 y code ml ret Q cells slots h pc Ls (.int b :: .int a :: st) := Go.step (fun C X _ q => by subst hp; exact XS.idiv X.here C.1 rfl (hb C.2.2.2.1 hd) rfl hz q) k
theorem Go.ldiv {a b : Int64} (hd : decode code pc = .ok (.ldiv, 1)) (hz : b ≠ 0) (hp : pc + 1 = pc') (k : Go l R Z n0 y code ml ret Q cells slots h pc' Ls (.long (a / b) :: st)) : Go l R Z n0 y code ml ret Q cells slots h pc Ls (.long b :: .long a :: st) := Go.step (fun C X _ q => by subst hp; exact XT.ldiv X.here C.1 rfl (hb C.2.2.2.1 hd) rfl hz q) k
theorem Go.lrem {a b : Int64} (hd : decode code pc = .ok (.lrem, 1)) (hz : b ≠ 0) (hp : pc + 1 = pc') (k : Go l R Z n0 y code ml ret Q cells slots h pc' Ls (.long (a - (a / b) * b) :: st)) : Go l R Z n0 y code ml ret Q cells slots h pc Ls (.long b :: .long a :: st) := Go.step (fun C X _ q => by subst hp; exact XT.lrem X.here C.1 rfl (hb C.2.2.2.1 hd) rfl hz q) k
theorem Go.ineg {a : Int32} (hd : decode code pc = .ok (.ineg, 1)) (hp : pc + 1 = pc') (k : Go l R Z n0 y code ml ret Q cells slots h pc' Ls (.int (-a) :: st)) : Go l R Z n0 y code ml ret Q cells slots h pc Ls (.int a :: st) := Go.step (fun C X _ q => by subst hp; exact XS.ineg X.here C.1 rfl (hb C.2.2.2.1 hd) rfl q) k
theorem Go.lneg {a : Int64} (hd : decode code pc = .ok (.lneg, 1)) (hp : pc + 1 = pc') (k : Go l R Z n0 y code ml ret Q cells slots h pc' Ls (.long (-a) :: st)) : Go l R Z n0 y code ml ret Q cells slots h pc Ls (.long a :: st) := Go.step (fun C X _ q => by subst hp; exact XT.lneg X.here C.1 rfl (hb C.2.2.2.1 hd) rfl q) k
theorem Go.i2l {a : Int32} (hd : decode code pc = .ok (.i2l, 1)) (hp : pc + 1 = pc') (k : Go l R Z n0 y code ml ret Q cells slots h pc' Ls (.long a.toInt64 :: st)) : Go l R Z n0 y code ml ret Q cells slots h pc Ls (.int a :: st) := Go.step (fun C X _ q => by subst hp; exact XT.i2l X.here C.1 rfl (hb C.2.2.2.1 hd) rfl q) k
theorem Go.l2i {a : Int64} (hd : decode code pc = .ok (.l2i, 1)) (hp : pc + 1 = pc') (k : Go l R Z n0 y code ml ret Q cells slots h pc' Ls (.int a.toInt32 :: st)) : Go l R Z n0 y code ml ret Q cells slots h pc Ls (.long a :: st) := Go.step (fun C X _ q => by subst hp; exact XT.l2i X.here C.1 rfl (hb C.2.2.2.1 hd) rfl q) k
theorem Go.i2b {a : Int32} (hd : decode code pc = .ok (.i2b, 1)) (hp : pc + 1 = pc') (k : Go l R Z n0 y code ml ret Q cells slots h pc' Ls (.int a.toInt8.toInt32 :: st)) : Go l R Z n0 y code ml ret Q cells slots h pc Ls (.int a :: st) := Go.step (fun C X _ q => by subst hp; exact XT.i2b X.here C.1 rfl (hb C.2.2.2.1 hd) rfl q) k
theorem Go.i2c {a : Int32} (hd : decode code pc = .ok (.i2c, 1)) (hp : pc + 1 = pc') (k : Go l R Z n0 y code ml ret Q cells slots h pc' Ls (.int a.toUInt32.toUInt16.toUInt32.toInt32 :: st)) : Go l R Z n0 y code ml ret Q cells slots h pc Ls (.int a :: st) := Go.step (fun C X _ q => by subst hp; exact XT.i2c X.here C.1 rfl (hb C.2.2.2.1 hd) rfl q) k
theorem Go.lcmp {a b : Int64} (hd : decode code pc = .ok (.lcmp, 1)) (hp : pc + 1 = pc') (k : Go l R Z n0 y code ml ret Q cells slots h pc' Ls (.int (XT.cmpL a b) :: st)) : Go l R Z n0 y code ml ret Q cells slots h pc Ls (.long b :: .long a :: st) := Go.step (fun C X _ q => by subst hp; exact XT.lcmp X.here C.1 rfl (hb C.2.2.2.1 hd) rfl q) k
theorem Go.iinc {k : Nat} {i : Int} {v w : Int32} (hd : decode code pc = .ok (.iinc k i, 3)) (hv : Int32.ofInt i = w) (hl : Ls[k]? = some (.val (.int v))) (hl' : storeLocals Ls k (.int (v + w)) = some Ls') (hp : pc + 3 = pc') (k : Go l R Z n0 y code ml ret Q cells slots h pc' Ls' st) : Go l R Z n0 y code ml ret Q cells slots h pc Ls st := Go.step (fun C X _ q => by subst hp; exact XT.iincV X.here C.1 rfl w (hb C.2.2.2.1 hd) hv hl hl' q) k
theorem Go.dup {v : Value} (hd : decode code pc = .ok (.dup, 1)) (hc : v.category = 1) (hp : pc + 1 = pc') (k : Go l R Z n0 y code ml ret Q cells slots h pc' Ls (v :: v :: st)) : Go l R Z n0 y code ml ret Q cells slots h pc Ls (v :: st) := Go.step (fun C X _ q => by subst hp; exact XS.dup X.here C.1 rfl (hb C.2.2.2.1 hd) rfl hc q) k
theorem Go.pop {v : Value} (hd : decode code pc = .ok (.pop, 1)) (hc : v.category = 1) (hp : pc + 1 = pc') (k : Go l R Z n0 y code ml ret Q cells slots h pc' Ls st) : Go l R Z n0 y code ml ret Q cells slots h pc Ls (v :: st) := Go.step (fun C X _ q => by subst hp; exact XT.pop X.here C.1 rfl (hb C.2.2.2.1 hd) rfl hc q) k
theorem Go.dupX1 {v w : Value} (hd : decode code pc = .ok (.dup_x1, 1)) (hc : v.category = 1) (hc' : w.category = 1) (hp : pc + 1 = pc') (k : Go l R Z n0 y code ml ret Q cells slots h pc' Ls (v :: w :: v :: st)) : Go l R Z n0 y code ml ret Q cells slots h pc Ls (v :: w :: st) := Go.step (fun C X _ q => by subst hp; exact XT.dupX1 X.here C.1 rfl (hb C.2.2.2.1 hd) rfl hc hc' q) k
theorem Go.dup2 {v w : Value} (hd : decode code pc = .ok (.dup2, 1)) (hc : v.category = 1) (hc' : w.category = 1) (hp : pc + 1 = pc') (k : Go l R Z n0 y code ml ret Q cells slots h pc' Ls (v :: w :: v :: w :: st)) : Go l R Z n0 y code ml ret Q cells slots h pc Ls (v :: w :: st) := Go.step (fun C X _ q => by subst hp; exact XT.dup2 X.here C.1 rfl (hb C.2.2.2.1 hd) rfl hc hc' q) k
theorem Go.dup2L {a : Int64} (hd : decode code pc = .ok (.dup2, 1)) (hp : pc + 1 = pc') (k : Go l R Z n0 y code ml ret Q cells slots h pc' Ls (.long a :: .long a :: st)) : Go l R Z n0 y code ml ret Q cells slots h pc Ls (.long a :: st) := Go.step (fun C X _ q => by subst hp; exact XT.dup2L X.here C.1 rfl (hb C.2.2.2.1 hd) rfl q) k
theorem Go.goto {o : Int} (hd : decode code pc = .ok (.goto o, 3)) (ho : 0 ≤ (pc : Int) + o := by decide) (hp : ((pc : Int) + o).toNat = pc' := by decide) (k : Go l R Z n0 y code ml ret Q cells slots h pc' Ls st) : Go l R Z n0 y code ml ret Q cells slots h pc Ls st := Go.step (fun C X _ q => XS.goto X.here C.1 rfl rfl (hb C.2.2.2.1 hd) ho hp q) k
theorem Go.ifYes {o : Int} {cd : ClassFile.Cond} {a : Int32} (hd : decode code pc = .ok (.ifCond cd o, 3)) (hc : ifCond.holds cd a = true) (ho : 0 ≤ (pc : Int) + o := by decide) (hp : ((pc : Int) + o).toNat = pc' := by decide) (k : Go l R Z n0 y code ml ret Q cells slots h pc' Ls st) : Go l R Z n0 y code ml ret Q cells slots h pc Ls (.int a :: st) := Go.step (fun C X _ q => XS.ifYes X.here C.1 rfl rfl (hb C.2.2.2.1 hd) rfl hc ho hp q) k
theorem Go.icmpYes {o : Int} {cd : ClassFile.Cond} {a b : Int32} (hd : decode code pc = .ok (.if_icmp cd o, 3)) (hc : if_icmp.holds cd a b = true) (ho : 0 ≤ (pc : Int) + o := by decide) (hp : ((pc : Int) + o).toNat = pc' := by decide) (k : Go l R Z n0 y code ml ret Q cells slots h pc' Ls st) : Go l R Z n0 y code ml ret Q cells slots h pc Ls (.int b :: .int a :: st) := Go.step (fun C X _ q => XS.icmpYes X.here C.1 rfl rfl (hb C.2.2.2.1 hd) rfl hc ho hp q) k
theorem Go.acmpYes {o : Int} {cd : ClassFile.ACond} {a b : Value} (hd : decode code pc = .ok (.if_acmp cd o, 3)) (ha : a.isRef = true) (hb' : b.isRef = true) (hc : XT.acmp cd a b = true) (ho : 0 ≤ (pc : Int) + o := by decide) (hp : ((pc : Int) + o).toNat = pc' := by decide) (k : Go l R Z n0 y code ml ret Q cells slots h pc' Ls st) : Go l R Z n0 y code ml ret Q cells slots h pc Ls (b :: a :: st) := Go.step (fun C X _ q => XT.acmpYes X.here C.1 rfl rfl (hb C.2.2.2.1 hd) rfl ha hb' hc ho hp q) k
theorem Go.nullYes {o : Int} {a : Value} (hd : decode code pc = .ok (.ifnull o, 3)) (hv : a = .null) (ho : 0 ≤ (pc : Int) + o := by decide) (hp : ((pc : Int) + o).toNat = pc' := by decide) (k : Go l R Z n0 y code ml ret Q cells slots h pc' Ls st) : Go l R Z n0 y code ml ret Q cells slots h pc Ls (a :: st) := Go.step (fun C X _ q => XT.nullYes X.here C.1 rfl rfl (hb C.2.2.2.1 hd) rfl hv ho hp q) k
theorem Go.nonnullYes {o : Int} {a : Value} (hd : decode code pc = .ok (.ifnonnull o, 3)) (ha : a.isRef = true) (hv : ¬ a = .null) (ho : 0 ≤ (pc : Int) + o := by decide) (hp : ((pc : Int) + o).toNat = pc' := by decide) (k : Go l R Z n0 y code ml ret Q cells slots h pc' Ls st) : Go l R Z n0 y code ml ret Q cells slots h pc Ls (a :: st) := Go.step (fun C X _ q => XT.nonnullYes X.here C.1 rfl rfl (hb C.2.2.2.1 hd) rfl ha hv ho hp q) k
theorem Go.ifNo {o : Int} {cd : ClassFile.Cond} {a : Int32} (hd : decode code pc = .ok (.ifCond cd o, 3)) (hc : ifCond.holds cd a = false) (hp : pc + 3 = pc') (k : Go l R Z n0 y code ml ret Q cells slots h pc' Ls st) : Go l R Z n0 y code ml ret Q cells slots h pc Ls (.int a :: st) := Go.step (fun C X _ q => by subst hp; exact XS.ifNo X.here C.1 rfl (hb C.2.2.2.1 hd) rfl hc q) k
theorem Go.icmpNo {o : Int} {cd : ClassFile.Cond} {a b : Int32} (hd : decode code pc = .ok (.if_icmp cd o, 3)) (hc : if_icmp.holds cd a b = false) (hp : pc + 3 = pc') (k : Go l R Z n0 y code ml ret Q cells slots h pc' Ls st) : Go l R Z n0 y code ml ret Q cells slots h pc Ls (.int b :: .int a :: st) := Go.step (fun C X _ q => by subst hp; exact XS.icmpNo X.here C.1 rfl (hb C.2.2.2.1 hd) rfl hc q) k
theorem Go.acmpNo {o : Int} {cd : ClassFile.ACond} {a b : Value} (hd : decode code pc = .ok (.if_acmp cd o, 3)) (ha : a.isRef = true) (hb' : b.isRef = true) (hc : XT.acmp cd a b = false) (hp : pc + 3 = pc') (k : Go l R Z n0 y code ml ret Q cells slots h pc' Ls st) : Go l R Z n0 y code ml ret Q cells slots h pc Ls (b :: a :: st) := Go.step (fun C X _ q => by subst hp; exact XT.acmpNo X.here C.1 rfl (hb C.2.2.2.1 hd) rfl ha hb' hc q) k
theorem Go.nullNo {o : Int} {a : Value} (hd : decode code pc = .ok (.ifnull o, 3)) (ha : a.isRef = true) (hv : ¬ a = .null) (hp : pc + 3 = pc') (k : Go l R Z n0 y code ml ret Q cells slots h pc' Ls st) : Go l R Z n0 y code ml ret Q cells slots h pc Ls (a :: st) := Go.step (fun C X _ q => by subst hp; exact XT.nullNo X.here C.1 rfl (hb C.2.2.2.1 hd) rfl ha hv q) k
theorem Go.nonnullNo {o : Int} {a : Value} (hd : decode code pc = .ok (.ifnonnull o, 3)) (hv : a = .null) (hp : pc + 3 = pc') (k : Go l R Z n0 y code ml ret Q cells slots h pc' Ls st) : Go l R Z n0 y code ml ret Q cells slots h pc Ls (a :: st) := Go.step (fun C X _ q => by subst hp; exact XT.nonnullNo X.here C.1 rfl (hb C.2.2.2.1 hd) rfl hv q) k
theorem Go.tsw {a : Int32} {dflt low high o : Int} {offs : Array Int} {len : Nat} (hd : decode code pc = .ok (.tableswitch dflt low high offs, len)) (hin : ¬ (a.toInt < low ∨ a.toInt > high)) (hoff : offs[(a.toInt - low).toNat]? = some o) (ho : 0 ≤ (pc : Int) + o) (hp : ((pc : Int) + o).toNat = pc') (k : Go l R Z n0 y code ml ret Q cells slots h pc' Ls st) : Go l R Z n0 y code ml ret Q cells slots h pc Ls (.int a :: st) := Go.step (fun C X _ q => XS.tswIn X.here C.1 rfl rfl (hb C.2.2.2.1 hd) rfl hin hoff ho hp q) k
theorem Go.tswOut {a : Int32} {dflt low high : Int} {offs : Array Int} {len : Nat} (hd : decode code pc = .ok (.tableswitch dflt low high offs, len)) (hout : a.toInt < low ∨ a.toInt > high) (ho : 0 ≤ (pc : Int) + dflt) (hp : ((pc : Int) + dflt).toNat = pc') (k : Go l R Z n0 y code ml ret Q cells slots h pc' Ls st) : Go l R Z n0 y code ml ret Q cells slots h pc Ls (.int a :: st) := Go.step (fun C X _ q => XS.tswOut X.here C.1 rfl rfl (hb C.2.2.2.1 hd) rfl hout ho hp q) k
theorem Go.getstatic {host : String} {R0 O n d : String} {i : Nat} (w : (Jvm.Cond.fieldLink y.cls i R0 n d).before a0 Z = true ∨ (Jvm.Cond.fieldLinkNest y.cls i R0 n d host).before a0 Z = true) (via : Via Z R0 O n d) {v : Value} (F : Sta Z h O n d v) (hd : decode code pc = .ok (.getstatic i, 3)) (hp : pc + 3 = pc') (k : Go l R Z n0 y code ml ret Q cells slots h pc' Ls (v :: st)) : Go l R Z n0 y code ml ret Q cells slots h pc Ls st := by
  refine Go.law (P := fun h' => h' = h) (fun C X N eT _ => ?_) (fun h' e => e ▸ k)
  subst hp
  obtain ⟨T', X', e', st⟩ := getS2 X C.1 C.2.1 C.2.2.1 w via eT F (g := mkF _ pc Ls st) rfl (hb C.2.2.2.1 hd)
  exact ⟨T', _, h, X', N, e', rfl, st⟩
theorem Go.getfield {host : String} {R0 O n d : String} {i : Nat} (w : (Jvm.Cond.fieldLink y.cls i R0 n d).before a0 Z = true ∨ (Jvm.Cond.fieldLinkNest y.cls i R0 n d host).before a0 Z = true) (via : Via Z R0 O n d) {v : Value} {a : Addr} (F : Fld Z h a O n d v) (hd : decode code pc = .ok (.getfield i, 3)) (hp : pc + 3 = pc') (k : Go l R Z n0 y code ml ret Q cells slots h pc' Ls (v :: st)) : Go l R Z n0 y code ml ret Q cells slots h pc Ls (.ref a :: st) := by
  refine Go.law (P := fun h' => h' = h) (fun C X N eT _ => ?_) (fun h' e => e ▸ k)
  subst hp
  obtain ⟨T', X', e', st⟩ := getF X C.1 C.2.1 C.2.2.1 w via eT F (g := mkF _ pc Ls (.ref a :: st)) rfl rfl (hb C.2.2.2.1 hd)
  exact ⟨T', _, h, X', N, e', rfl, st⟩
theorem Go.castY {K : String} {i : Nat} {a : Addr} (w : (Jvm.Cond.classLink y.cls i K).before a0 Z = true) (F : Ins Z h a K true) (hd : decode code pc = .ok (.checkcast i, 3)) (hp : pc + 3 = pc') (k : Go l R Z n0 y code ml ret Q cells slots h pc' Ls (.ref a :: st)) : Go l R Z n0 y code ml ret Q cells slots h pc Ls (.ref a :: st) := by
  refine Go.law (P := fun h' => h' = h) (fun C X N eT _ => ?_) (fun h' e => e ▸ k)
  subst hp
  obtain ⟨T', X', e', st⟩ := castY X C.1 C.2.1 C.2.2.1 w eT F (g := mkF _ pc Ls (.ref a :: st)) rfl rfl (hb C.2.2.2.1 hd)
  exact ⟨T', _, h, X', N, e', rfl, st⟩
theorem Go.instY {K : String} {i : Nat} {a : Addr} (w : (Jvm.Cond.classLink y.cls i K).before a0 Z = true) (F : Ins Z h a K true) (hd : decode code pc = .ok (.instanceof i, 3)) (hp : pc + 3 = pc') (k : Go l R Z n0 y code ml ret Q cells slots h pc' Ls (.int 1 :: st)) : Go l R Z n0 y code ml ret Q cells slots h pc Ls (.ref a :: st) := by
  refine Go.law (P := fun h' => h' = h) (fun C X N eT _ => ?_) (fun h' e => e ▸ k)
  subst hp
  obtain ⟨T', X', e', st⟩ := instY X C.1 C.2.1 C.2.2.1 w eT F (g := mkF _ pc Ls (.ref a :: st)) rfl rfl (hb C.2.2.2.1 hd)
  exact ⟨T', _, h, X', N, e', rfl, st⟩
theorem Go.instNo {K C' : String} {i : Nat} {a : Addr} (w : (Jvm.Cond.classLink y.cls i K).before a0 Z = true) (E : Exa Z h a C') (F : ∃ c t, Z.vm.findClass C' = some c ∧ Z.vm.findClass K = some t ∧ Z.vm.assignable c t = false) (hd : decode code pc = .ok (.instanceof i, 3)) (hp : pc + 3 = pc') (k : Go l R Z n0 y code ml ret Q cells slots h pc' Ls (.int 0 :: st)) : Go l R Z n0 y code ml ret Q cells slots h pc Ls (.ref a :: st) := by
  refine Go.law (P := fun h' => h' = h) (fun C X N eT _ => ?_) (fun h' e => e ▸ k)
  subst hp
  obtain ⟨T', X', e', st⟩ := instNo X C.1 C.2.1 C.2.2.1 w eT E F (g := mkF _ pc Ls (.ref a :: st)) rfl rfl (hb C.2.2.2.1 hd)
  exact ⟨T', _, h, X', N, e', rfl, st⟩
theorem Go.castNull {i : Nat} (hd : decode code pc = .ok (.checkcast i, 3)) (hp : pc + 3 = pc') (k : Go l R Z n0 y code ml ret Q cells slots h pc' Ls (.null :: st)) : Go l R Z n0 y code ml ret Q cells slots h pc Ls (.null :: st) := Go.step (fun C X _ q => by subst hp; exact (X.checkcastNull C.1 (g := mkF _ pc Ls (.null :: st)) rfl rfl (hb C.2.2.2.1 hd) _ q)) k
theorem Go.initO {i : Nat} {a : Addr} (w1 : (Jvm.Cond.methodLink y.cls i Lib.objectInit).before a0 Z = true) (w2 : (Jvm.Cond.instanceMethod Lib.objectInit).before a0 Z = true) (w3 : (Jvm.Cond.code Lib.objectInit ⟨#[0xb1]⟩ 1 none).before a0 Z = true) (hd : decode code pc = .ok (.invokespecial i, 3)) (hz : Ls.size = ml) (hf : 1 ≤ R.frames := by decide) (hl : (st.map fun v => v.category).sum + 12 ≤ R.locals := by decide) (hp : pc + 3 = pc') (k : Go l R Z n0 y code ml ret Q cells slots h pc' Ls st) : Go l R Z n0 y code ml ret Q cells slots h pc Ls (.ref a :: st) := by
  refine Go.law (P := fun h' => h' = h) (fun C X N eT _ => ?_) (fun h' e => e ▸ k)
  subst hp
  obtain ⟨T', X', e', st⟩ := initO X C.1 C.2.1 C.2.2.1 w1 w2 w3 eT (g := mkF _ pc Ls (.ref a :: st)) rfl (by rw [C.2.2.2.2.1]; exact hz) rfl (hb C.2.2.2.1 hd) hf (W := (st.map fun v => v.category).sum) (by simp) hl
  exact ⟨T', _, h, X', N, e', rfl, st⟩
theorem Go.getClass {i : Nat} {a mr : Addr} {C' : String} (w1 : (Jvm.Cond.methodLink y.cls i ⟨"java/lang/Object", "getClass", "()Ljava/lang/Class;"⟩).before a0 Z = true) (w2 : (Jvm.Cond.declares ⟨"java/lang/Object", "getClass", "()Ljava/lang/Class;"⟩).before a0 Z = true) (w3 : (Jvm.Cond.noSuperclass "java/lang/Object").before a0 Z = true) (w4 : (Jvm.Cond.selects C' ⟨"java/lang/Object", "getClass", "()Ljava/lang/Class;"⟩ ⟨"java/lang/Object", "getClass", "()Ljava/lang/Class;"⟩).before a0 Z = true) (w5 : (Jvm.Cond.instanceMethod ⟨"java/lang/Object", "getClass", "()Ljava/lang/Class;"⟩).before a0 Z = true) (w6 : (Jvm.Cond.native ⟨"java/lang/Object", "getClass", "()Ljava/lang/Class;"⟩).before a0 Z = true) (E : Exa Z h a C') (M : Mi Z C' mr) (hd : decode code pc = .ok (.invokevirtual i, 3)) (hz : Ls.size = ml) (hf : 1 ≤ R.frames := by decide) (hl : (st.map fun v => v.category).sum + (nativeFrameWords "java/lang/Object" "getClass" 1 + 11) ≤ R.locals := by decide) (hp : pc + 3 = pc') (k : Go l R Z n0 y code ml ret Q cells slots h pc' Ls (.ref mr :: st)) : Go l R Z n0 y code ml ret Q cells slots h pc Ls (.ref a :: st) := by
  refine Go.law (P := fun h' => h' = h) (fun C X N eT _ => ?_) (fun h' e => e ▸ k)
  subst hp
  obtain ⟨cB, kB, i1, i2, i3⟩ := isOf C.2.1 eT E
  obtain ⟨cc, kc, m1, m2, m3⟩ := M.at C.2.1
  cases i1.symm.trans m1
  obtain ⟨vm', X', st⟩ := X.getClassOf C.1 C.2.2.1 (mvT C.2.1 w1) (mvT C.2.1 w2) (nf_top (args := #[]) (mvT C.2.1 w3)) (mvT C.2.1 w4) (mvT C.2.1 w5) (mvT C.2.1 w6) m1 i3 m2 m3 (g := mkF _ pc Ls (.ref a :: st)) rfl (by rw [C.2.2.2.2.1]; exact hz) rfl (hb C.2.2.2.1 hd) hf (by simpa using hl)
  exact ⟨_, _, h, X', N, eT, rfl, st⟩
theorem Go.ldcMirror {i : Nat} {mr : Addr} {C' : String} (w : (Jvm.Cond.classLink y.cls i C').before a0 Z = true) (M : Mi Z C' mr) (hd : decode code pc = .ok (.ldc i, 2)) (hp : pc + 2 = pc') (k : Go l R Z n0 y code ml ret Q cells slots h pc' Ls (.ref mr :: st)) : Go l R Z n0 y code ml ret Q cells slots h pc Ls st := by
  refine Go.law (P := fun h' => h' = h) (fun C X N eT _ => ?_) (fun h' e => e ▸ k)
  subst hp
  obtain ⟨cc, kc, m1, m2, m3⟩ := M.at C.2.1
  obtain ⟨vm', X', st⟩ := X.ldcMirror C.1 C.2.2.1 (mvT C.2.1 w) (a := mr) (by simp [Term.eval, m1, m2, m3]) (g := mkF _ pc Ls st) rfl (hb C.2.2.2.1 hd)
  exact ⟨_, _, h, X', N, eT, rfl, st⟩
theorem Go.putfield {host : String} {R0 O n d : String} {i : Nat} (w : (Jvm.Cond.fieldLink y.cls i R0 n d).before a0 Z = true ∨ (Jvm.Cond.fieldLinkNest y.cls i R0 n d host).before a0 Z = true) {ty : FieldType} {C' : String} {kk : Nat} (via : Via Z R0 O n d) {v old : Value} {a : Addr} (F : Fld Z h a O n d old) (E : Exa Z h a C') (L : (Jvm.Cond.lays C' O n d).before a0 Z = true ∨ ((Jvm.Cond.laysFinal C' O n d).before a0 Z = true ∧ y.cls = O ∧ y.name = "<init>")) (wi : (Jvm.Cond.instantiable C' kk).before a0 Z = true) (hty : parseFieldDescriptor d = some ty) (hn : narrow ty v = v) (hf : fits ty v = true) (ha : n0 ≤ a) (hd : decode code pc = .ok (.putfield i, 3)) (hp : pc + 3 = pc') (k : ∀ h', Wr h h' a (Jvm.RoadKit.slotOf Z O n d) v → Go l R Z n0 y code ml ret Q cells slots h' pc' Ls st) : Go l R Z n0 y code ml ret Q cells slots h pc Ls (v :: .ref a :: st) := by
  refine Go.law (P := fun h' => Wr h h' a (Jvm.RoadKit.slotOf Z O n d) v) (fun C X N eT hn => ?_) (k)
  subst hp
  obtain ⟨T', h', X', e', W, st⟩ := putF X C.1 C.2.1 C.2.2.1 w via eT F E (L.imp id fun q => ⟨q.1, q.2.1, C.2.2.2.2.2.2.2.1.trans q.2.2⟩) wi hty ‹narrow ty v = v› hf (g := mkF _ pc Ls (v :: .ref a :: st)) rfl rfl (hb C.2.2.2.1 hd)
  exact ⟨T', _, h', X', Fr.snoc X' N ha, e', W, st⟩
theorem Go.putfieldN {R0 O n d : String} {i : Nat} (w : (Jvm.Cond.fieldLink y.cls i R0 n d).before a0 Z = true) {ty : FieldType} {C' : String} {kk : Nat} (via : Via Z R0 O n d) {v v' : Int32} {old : Value} {a : Addr} (F : Fld Z h a O n d old) (E : Exa Z h a C') (L : (Jvm.Cond.lays C' O n d).before a0 Z = true ∨ ((Jvm.Cond.laysFinal C' O n d).before a0 Z = true ∧ y.cls = O ∧ y.name = "<init>")) (wi : (Jvm.Cond.instantiable C' kk).before a0 Z = true) (hty : parseFieldDescriptor d = some ty) (hn : narrow ty (.int v) = .int v') (hf : fits ty (.int v') = true) (ha : n0 ≤ a) (hd : decode code pc = .ok (.putfield i, 3)) (hp : pc + 3 = pc') (k : ∀ h', Wr h h' a (Jvm.RoadKit.slotOf Z O n d) (.int v') → Go l R Z n0 y code ml ret Q cells slots h' pc' Ls st) : Go l R Z n0 y code ml ret Q cells slots h pc Ls (.int v :: .ref a :: st) := by
  refine Go.law (P := fun h' => Wr h h' a (Jvm.RoadKit.slotOf Z O n d) (.int v')) (fun C X N eT hn => ?_) (k)
  subst hp
  obtain ⟨T', h', X', e', W, st⟩ := putFN X C.1 C.2.1 C.2.2.1 w via eT F E (L.imp id fun q => ⟨q.1, q.2.1, C.2.2.2.2.2.2.2.1.trans q.2.2⟩) wi hty ‹narrow ty (.int v) = .int v'› hf (g := mkF _ pc Ls (.int v :: .ref a :: st)) rfl rfl (hb C.2.2.2.1 hd)
  exact ⟨T', _, h', X', Fr.snoc X' N ha, e', W, st⟩
theorem Go.new {C' : String} {i n cells' slots' : Nat} (w : (Jvm.Cond.classLink y.cls i C').before a0 Z = true) (wi : (Jvm.Cond.instantiable C' n).before a0 Z = true) (wz : (Jvm.Cond.initialized C').before a0 Z = true) (hd : decode code pc = .ok (.new i, 3)) (hc' : cells + 1 = cells') (hs' : slots + n = slots') (hc : cells' ≤ R.cells := by decide) (hl : slots' ≤ R.slots := by decide) (hp : pc + 3 = pc') (k : ∀ (h' : Heap) (b : Addr), b = h.size → Ext h h' → n0 ≤ b → Exa Z h' b C' → (∀ {O nm d : String} {ty : FieldType}, Laid Z a0 C' O nm d → parseFieldDescriptor d = some ty → Fld Z h' b O nm d (defaultValue ty)) → Go l R Z n0 y code ml ret Q cells' slots' h' pc' Ls (.ref b :: st)) : Go l R Z n0 y code ml ret Q cells slots h pc Ls st := by
  refine Go.law (P := fun h' => (Ext h h' ∧ n0 ≤ h.size ∧ Exa Z h' h.size C' ∧ ∀ {O nm d : String} {ty : FieldType}, Laid Z a0 C' O nm d → parseFieldDescriptor d = some ty → Fld Z h' h.size O nm d (defaultValue ty))) (fun C X N eT hn => ?_) (fun h' q => k h' h.size rfl q.1 q.2.1 q.2.2.1 q.2.2.2)
  subst hp
  subst hc' hs'
  obtain ⟨T', h', X', e', E, A, D, -, st⟩ := newO X C.1 C.2.1 C.2.2.1 w wi wz eT (g := mkF _ pc Ls st) rfl (hb C.2.2.2.1 hd) hc hl
  exact ⟨T', _, h', X', N, e', ⟨E, hn, A, D⟩, st⟩
theorem Go.newarray {aty : ArrayType} {ad : String} {n : Int32} {cap cells' slots' : Nat} (w : (Jvm.Cond.arrayClass (newarray.typeOf aty)).before a0 Z = true) (hd : decode code pc = .ok (.newarray aty, 2)) (had : "[" ++ (newarray.typeOf aty).toString = ad) (hn' : ¬ n < 0) (hcap : n.toNatClampNeg ≤ cap) (hc' : cells + 1 = cells') (hs' : slots + cap = slots') (hb8 : cap * 8 ≤ 536870912 := by decide) (hc : cells' ≤ R.cells := by decide) (hl : slots' ≤ R.slots := by decide) (hp : pc + 2 = pc') (k : ∀ (h' : Heap) (b : Addr), b = h.size → Ext h h' → n0 ≤ b → ∀ cA, Arv Z h' b cA (newarray.typeOf aty) n [] (defaultValue (newarray.typeOf aty)) → Exa Z h' b ad → Go l R Z n0 y code ml ret Q cells' slots' h' pc' Ls (.ref b :: st)) : Go l R Z n0 y code ml ret Q cells slots h pc Ls (.int n :: st) := by
  refine Go.law (P := fun h' => (Ext h h' ∧ n0 ≤ h.size ∧ ∃ cA, Arv Z h' h.size cA (newarray.typeOf aty) n [] (defaultValue (newarray.typeOf aty)) ∧ Exa Z h' h.size ad)) (fun C X N eT hn => ?_) (fun h' q => q.2.2.elim fun cA u => k h' h.size rfl q.1 q.2.1 cA u.1 u.2)
  subst hp
  subst hc' hs'
  obtain ⟨T', h', cA, X', e', E, A, A2, st⟩ := newPE X C.1 C.2.1 w eT (g := mkF _ pc Ls (.int n :: st)) rfl (hb C.2.2.2.1 hd) rfl hn' hcap hb8 hc hl had
  exact ⟨T', _, h', X', N, e', ⟨E, hn, cA, Arv.new A hn', A2⟩, st⟩
theorem Go.anewarray {C' ad : String} {i : Nat} {n : Int32} {cap cells' slots' : Nat} (w : (Jvm.Cond.classLink y.cls i C').before a0 Z = true) (w2 : (Jvm.Cond.arrayOver (.object C')).before a0 Z = true) (hd : decode code pc = .ok (.anewarray i, 3)) (had : "[" ++ (FieldType.object C').toString = ad) (hn' : ¬ n < 0) (hcap : n.toNatClampNeg ≤ cap) (hc' : cells + 1 = cells') (hs' : slots + cap = slots') (hb8 : cap * 8 ≤ 536870912 := by decide) (hc : cells' ≤ R.cells := by decide) (hl : slots' ≤ R.slots := by decide) (hp : pc + 3 = pc') (k : ∀ (h' : Heap) (b : Addr), b = h.size → Ext h h' → n0 ≤ b → ∀ cA, Arv Z h' b cA (.object C') n [] .null → Exa Z h' b ad → Ovr Z cA C' → Go l R Z n0 y code ml ret Q cells' slots' h' pc' Ls (.ref b :: st)) : Go l R Z n0 y code ml ret Q cells slots h pc Ls (.int n :: st) := by
  refine Go.law (P := fun h' => (Ext h h' ∧ n0 ≤ h.size ∧ ∃ cA, Arv Z h' h.size cA (.object C') n [] .null ∧ Exa Z h' h.size ad ∧ Ovr Z cA C')) (fun C X N eT hn => ?_) (fun h' q => q.2.2.elim fun cA u => k h' h.size rfl q.1 q.2.1 cA u.1 u.2.1 u.2.2)
  subst hp
  subst hc' hs'
  obtain ⟨T', h', cA, X', e', E, A, A2, O, st⟩ := newRE X C.1 C.2.1 C.2.2.1 w w2 eT (g := mkF _ pc Ls (.int n :: st)) rfl (hb C.2.2.2.1 hd) rfl hn' hcap hb8 hc hl had
  exact ⟨T', _, h', X', N, e', ⟨E, hn, cA, Arv.new A hn', A2, O⟩, st⟩
theorem Go.arraycopy {i : Nat} {a b : Addr} {kA kB : ClassId} {ty ty' : FieldType} {z z' sp dp nn : Int32} {vs vd us vd' : List Value} {dv dd : Value} (w1 : (Jvm.Cond.methodLink y.cls i Jvm.Stand.acN).before a0 Z = true) (w2 : (Jvm.Cond.native Jvm.Stand.acN).before a0 Z = true) (w3 : (Jvm.Cond.static Jvm.Stand.acN).before a0 Z = true) (w4 : (Jvm.Cond.initialized "java/lang/System").before a0 Z = true)
    (A : Arv Z h a kA ty z vs dv) (B : Arv Z h b kB ty' z' vd dd) (hty : (ty = ty' ∧ refKind ty = false) ∨ (refKind ty = true ∧ refKind ty' = true ∧ StoL Z h b us)) (h1 : ¬ sp < 0) (h2 : ¬ dp < 0) (h3 : ¬ nn < 0) (h4 : sp.toNatClampNeg + nn.toNatClampNeg ≤ z.toNatClampNeg) (h5 : dp.toNatClampNeg + nn.toNatClampNeg ≤ z'.toNatClampNeg)
    (hus : us = (List.range nn.toNatClampNeg).map fun i => vs.getD (sp.toNatClampNeg + i) dv) (hl : dp.toNatClampNeg + nn.toNatClampNeg ≤ vd.length) (hvd : vd.take dp.toNatClampNeg ++ us ++ vd.drop (dp.toNatClampNeg + nn.toNatClampNeg) = vd') (ge : n0 ≤ b) (hd : decode code pc = .ok (.invokestatic i, 3)) (hz : Ls.size = ml) (hf : 1 ≤ R.frames := by decide) (hlo : (st.map fun v => v.category).sum + (nativeFrameWords "java/lang/System" "arraycopy" 5 + 11) ≤ R.locals := by decide) (hp : pc + 3 = pc')
    (k : ∀ h', Keep h h' [b] → Arv Z h' b kB ty' z' vd' dd → Go l R Z n0 y code ml ret Q cells slots h' pc' Ls st) : Go l R Z n0 y code ml ret Q cells slots h pc Ls (.int nn :: .int dp :: .ref b :: .int sp :: .ref a :: st) := by
  refine Go.law (P := fun h' => Keep h h' [b] ∧ Arv Z h' b kB ty' z' vd' dd) (fun C X N eT hn => ?_) (fun h' q => k h' q.1 q.2)
  subst hp hvd
  obtain ⟨T', h', L, X', e', N', K, V, st⟩ := cpA X C.1 C.2.1 C.2.2.1 w1 w2 w3 w4 eT A B hty h1 h2 h3 h4 h5 hus hl N ge (g := mkF _ pc Ls (.int nn :: .int dp :: .ref b :: .int sp :: .ref a :: st)) rfl (by rw [C.2.2.2.2.1]; exact hz) rfl (hb C.2.2.2.1 hd) hf (W := (st.map fun v => v.category).sum) (by simp) hlo
  exact ⟨T', L, h', X', N', e', ⟨K, V⟩, st⟩
theorem Go.iastore {a : Addr} {kA : ClassId} {z j : Int32} {vs : List Value} {dv : Value} {v : Int32} {i : Nat} (F : Arv Z h a kA .int z vs dv) (ha : n0 ≤ a) (hd : decode code pc = .ok (.iastore, 1)) (hj : ¬ j < 0) (hjz : j < z) (hi : j.toNatClampNeg = i) (hil : i < vs.length) (hp : pc + 1 = pc') (k : ∀ h', Wr h h' a i (.int v) → Arv Z h' a kA .int z (vs.set i (.int v)) dv → Go l R Z n0 y code ml ret Q cells slots h' pc' Ls st) : Go l R Z n0 y code ml ret Q cells slots h pc Ls (.int v :: .int j :: .ref a :: st) := by
  refine Go.law (P := fun h' => (Wr h h' a i (.int v) ∧ Arv Z h' a kA .int z (vs.set i (.int v)) dv)) (fun C X N eT hn => ?_) (fun h' q => k h' q.1 q.2)
  subst hp
  obtain ⟨cl, A, q1, S, q3, H, G⟩ := F
  obtain ⟨T', h', X', e', W, st⟩ := stI X C.1 C.2.1 eT A (j := j) (inb_of S ⟨hj, hjz⟩) (g := mkF _ pc Ls (.int v :: .int j :: .ref a :: st)) rfl rfl (hb C.2.2.2.1 hd)
  have V := Arv.set A q1 S q3 H G rfl W i hi hil
  subst hi
  exact ⟨T', _, h', X', Fr.snoc X' N ha, e', ⟨W, V⟩, st⟩
theorem Go.lastore {a : Addr} {kA : ClassId} {z j : Int32} {vs : List Value} {dv : Value} {v : Int64} {i : Nat} (F : Arv Z h a kA .long z vs dv) (ha : n0 ≤ a) (hd : decode code pc = .ok (.lastore, 1)) (hj : ¬ j < 0) (hjz : j < z) (hi : j.toNatClampNeg = i) (hil : i < vs.length) (hp : pc + 1 = pc') (k : ∀ h', Wr h h' a i (.long v) → Arv Z h' a kA .long z (vs.set i (.long v)) dv → Go l R Z n0 y code ml ret Q cells slots h' pc' Ls st) : Go l R Z n0 y code ml ret Q cells slots h pc Ls (.long v :: .int j :: .ref a :: st) := by
  refine Go.law (P := fun h' => (Wr h h' a i (.long v) ∧ Arv Z h' a kA .long z (vs.set i (.long v)) dv)) (fun C X N eT hn => ?_) (fun h' q => k h' q.1 q.2)
  subst hp
  obtain ⟨cl, A, q1, S, q3, H, G⟩ := F
  obtain ⟨T', h', X', e', W, st⟩ := stJ X C.1 C.2.1 eT A (j := j) (inb_of S ⟨hj, hjz⟩) (g := mkF _ pc Ls (.long v :: .int j :: .ref a :: st)) rfl rfl (hb C.2.2.2.1 hd)
  have V := Arv.set A q1 S q3 H G rfl W i hi hil
  subst hi
  exact ⟨T', _, h', X', Fr.snoc X' N ha, e', ⟨W, V⟩, st⟩
theorem Go.castore {a : Addr} {kA : ClassId} {z j : Int32} {vs : List Value} {dv : Value} {v : Int32} {i : Nat} (F : Arv Z h a kA .char z vs dv) (ha : n0 ≤ a) (hd : decode code pc = .ok (.castore, 1)) (hj : ¬ j < 0) (hjz : j < z) (hi : j.toNatClampNeg = i) (hil : i < vs.length) (hp : pc + 1 = pc') (k : ∀ h', Wr h h' a i (.int (nar .char v)) → Arv Z h' a kA .char z (vs.set i (.int (nar .char v))) dv → Go l R Z n0 y code ml ret Q cells slots h' pc' Ls st) : Go l R Z n0 y code ml ret Q cells slots h pc Ls (.int v :: .int j :: .ref a :: st) := by
  refine Go.law (P := fun h' => (Wr h h' a i (.int (nar .char v)) ∧ Arv Z h' a kA .char z (vs.set i (.int (nar .char v))) dv)) (fun C X N eT hn => ?_) (fun h' q => k h' q.1 q.2)
  subst hp
  obtain ⟨cl, A, q1, S, q3, H, G⟩ := F
  obtain ⟨T', h', X', e', W, st⟩ := stC X C.1 C.2.1 eT A (j := j) (inb_of S ⟨hj, hjz⟩) (g := mkF _ pc Ls (.int v :: .int j :: .ref a :: st)) rfl rfl (hb C.2.2.2.1 hd)
  have V := Arv.set A q1 S q3 H G (fits_nar_char v) W i hi hil
  subst hi
  exact ⟨T', _, h', X', Fr.snoc X' N ha, e', ⟨W, V⟩, st⟩
theorem Go.bastore {a : Addr} {kA : ClassId} {z j : Int32} {vs : List Value} {dv : Value} {v : Int32} {i : Nat} (F : Arv Z h a kA .byte z vs dv) (ha : n0 ≤ a) (hd : decode code pc = .ok (.bastore, 1)) (hj : ¬ j < 0) (hjz : j < z) (hi : j.toNatClampNeg = i) (hil : i < vs.length) (hp : pc + 1 = pc') (k : ∀ h', Wr h h' a i (.int v.toInt8.toInt32) → Arv Z h' a kA .byte z (vs.set i (.int v.toInt8.toInt32)) dv → Go l R Z n0 y code ml ret Q cells slots h' pc' Ls st) : Go l R Z n0 y code ml ret Q cells slots h pc Ls (.int v :: .int j :: .ref a :: st) := by
  refine Go.law (P := fun h' => (Wr h h' a i (.int v.toInt8.toInt32) ∧ Arv Z h' a kA .byte z (vs.set i (.int v.toInt8.toInt32)) dv)) (fun C X N eT hn => ?_) (fun h' q => k h' q.1 q.2)
  subst hp
  obtain ⟨cl, A, q1, S, q3, H, G⟩ := F
  obtain ⟨T', h', X', e', W, st⟩ := stB X C.1 C.2.1 eT A (j := j) (inb_of S ⟨hj, hjz⟩) (g := mkF _ pc Ls (.int v :: .int j :: .ref a :: st)) rfl rfl (hb C.2.2.2.1 hd)
  have V := Arv.set A q1 S q3 H G (fits_nar_byte v) W i hi hil
  subst hi
  exact ⟨T', _, h', X', Fr.snoc X' N ha, e', ⟨W, V⟩, st⟩
theorem Go.aastore {a : Addr} {kA : ClassId} {ty : FieldType} {z j : Int32} {vs : List Value} {dv v : Value} {i : Nat} (F : Arv Z h a kA ty z vs dv) (ha : n0 ≤ a) (hty : ty.isReference = true) (hfit : fits ty v = true) (Fs : Sto Z h a v) (hd : decode code pc = .ok (.aastore, 1)) (hj : ¬ j < 0) (hjz : j < z) (hi : j.toNatClampNeg = i) (hil : i < vs.length) (hp : pc + 1 = pc') (k : ∀ h', Wr h h' a i v → Arv Z h' a kA ty z (vs.set i v) dv → Go l R Z n0 y code ml ret Q cells slots h' pc' Ls st) : Go l R Z n0 y code ml ret Q cells slots h pc Ls (v :: .int j :: .ref a :: st) := by
  refine Go.law (P := fun h' => (Wr h h' a i v ∧ Arv Z h' a kA ty z (vs.set i v) dv)) (fun C X N eT hn => ?_) (fun h' q => k h' q.1 q.2)
  subst hp
  obtain ⟨cl, A, q1, S, q3, H, G⟩ := F
  obtain ⟨T', h', X', e', W, st⟩ := stR X C.1 C.2.1 eT A (j := j) (inb_of S ⟨hj, hjz⟩) hty Fs (g := mkF _ pc Ls (v :: .int j :: .ref a :: st)) rfl rfl (hb C.2.2.2.1 hd)
  have V := Arv.set A q1 S q3 H G hfit W i hi hil
  subst hi
  exact ⟨T', _, h', X', Fr.snoc X' N ha, e', ⟨W, V⟩, st⟩
theorem Go.iaload {a : Addr} {kA : ClassId} {z j : Int32} {vs : List Value} {dv : Value} {v : Int32} (F : Arv Z h a kA .int z vs dv) (hd : decode code pc = .ok (.iaload, 1)) (hj : ¬ j < 0) (hjz : j < z) (hv : vs.getD j.toNatClampNeg dv = .int v) (hp : pc + 1 = pc') (k : Go l R Z n0 y code ml ret Q cells slots h pc' Ls (.int v :: st)) : Go l R Z n0 y code ml ret Q cells slots h pc Ls (.int j :: .ref a :: st) := by
  refine Go.step (fun C X eT q => ?_) k
  subst hp
  obtain ⟨cl, A, q1, S, q3, H, G⟩ := F
  have hin := inb_of S ⟨hj, hjz⟩
  exact X.iaload C.1 (j := j) (v := .int v) (by rw [eT]; exact A.1) (State.isArrayOf_alike C.2.1.alike A.2.1) A.2.2 hin (Has.at H hin hv) (g := mkF _ pc Ls (.int j :: .ref a :: st)) rfl rfl (hb C.2.2.2.1 hd) _ q
theorem Go.laload {a : Addr} {kA : ClassId} {z j : Int32} {vs : List Value} {dv : Value} {v : Int64} (F : Arv Z h a kA .long z vs dv) (hd : decode code pc = .ok (.laload, 1)) (hj : ¬ j < 0) (hjz : j < z) (hv : vs.getD j.toNatClampNeg dv = .long v) (hp : pc + 1 = pc') (k : Go l R Z n0 y code ml ret Q cells slots h pc' Ls (.long v :: st)) : Go l R Z n0 y code ml ret Q cells slots h pc Ls (.int j :: .ref a :: st) := by
  refine Go.step (fun C X eT q => ?_) k
  subst hp
  obtain ⟨cl, A, q1, S, q3, H, G⟩ := F
  have hin := inb_of S ⟨hj, hjz⟩
  exact X.laload C.1 (j := j) (v := .long v) (by rw [eT]; exact A.1) (State.isArrayOf_alike C.2.1.alike A.2.1) A.2.2 hin (Has.at H hin hv) (g := mkF _ pc Ls (.int j :: .ref a :: st)) rfl rfl (hb C.2.2.2.1 hd) _ q
theorem Go.caload {a : Addr} {kA : ClassId} {z j : Int32} {vs : List Value} {dv : Value} {v : Int32} (F : Arv Z h a kA .char z vs dv) (hd : decode code pc = .ok (.caload, 1)) (hj : ¬ j < 0) (hjz : j < z) (hv : vs.getD j.toNatClampNeg dv = .int v) (hp : pc + 1 = pc') (k : Go l R Z n0 y code ml ret Q cells slots h pc' Ls (.int v :: st)) : Go l R Z n0 y code ml ret Q cells slots h pc Ls (.int j :: .ref a :: st) := by
  refine Go.step (fun C X eT q => ?_) k
  subst hp
  obtain ⟨cl, A, q1, S, q3, H, G⟩ := F
  have hin := inb_of S ⟨hj, hjz⟩
  exact X.caload C.1 (j := j) (v := .int v) (by rw [eT]; exact A.1) (State.isArrayOf_alike C.2.1.alike A.2.1) A.2.2 hin (Has.at H hin hv) (g := mkF _ pc Ls (.int j :: .ref a :: st)) rfl rfl (hb C.2.2.2.1 hd) _ q
theorem Go.baload {a : Addr} {kA : ClassId} {z j : Int32} {vs : List Value} {dv : Value} {v : Int32} (F : Arv Z h a kA .byte z vs dv) (hd : decode code pc = .ok (.baload, 1)) (hj : ¬ j < 0) (hjz : j < z) (hv : vs.getD j.toNatClampNeg dv = .int v) (hp : pc + 1 = pc') (k : Go l R Z n0 y code ml ret Q cells slots h pc' Ls (.int v :: st)) : Go l R Z n0 y code ml ret Q cells slots h pc Ls (.int j :: .ref a :: st) := by
  refine Go.step (fun C X eT q => ?_) k
  subst hp
  obtain ⟨cl, A, q1, S, q3, H, G⟩ := F
  have hin := inb_of S ⟨hj, hjz⟩
  exact X.baloadBytes C.1 (j := j) (v := .int v) (by rw [eT]; exact A.1) (State.isArrayOf_alike C.2.1.alike A.2.1) A.2.2 hin (Has.at H hin hv) (g := mkF _ pc Ls (.int j :: .ref a :: st)) rfl rfl (hb C.2.2.2.1 hd) _ q
theorem Go.aaload {a : Addr} {kA : ClassId} {z j : Int32} {vs : List Value} {dv : Value} {v : Value} {ty : FieldType} (F : Arv Z h a kA ty z vs dv) (hty : ty.isReference = true) (hd : decode code pc = .ok (.aaload, 1)) (hj : ¬ j < 0) (hjz : j < z) (hv : vs.getD j.toNatClampNeg dv = v) (hp : pc + 1 = pc') (k : Go l R Z n0 y code ml ret Q cells slots h pc' Ls (v :: st)) : Go l R Z n0 y code ml ret Q cells slots h pc Ls (.int j :: .ref a :: st) := by
  refine Go.step (fun C X eT q => ?_) k
  subst hp
  obtain ⟨cl, A, q1, S, q3, H, G⟩ := F
  have hin := inb_of S ⟨hj, hjz⟩
  exact X.aaload C.1 (j := j) (v := v) (by rw [eT]; exact A.1) (State.isArrayOf_alike C.2.1.alike A.2.1) hty A.2.2 hin (Has.at H hin hv) (g := mkF _ pc Ls (.int j :: .ref a :: st)) rfl rfl (hb C.2.2.2.1 hd) _ q
theorem Go.arraylength {a : Addr} {kA : ClassId} {ty : FieldType} {z : Int32} {vs : List Value} {dv : Value} (F : Arv Z h a kA ty z vs dv) (hd : decode code pc = .ok (.arraylength, 1)) (hp : pc + 1 = pc') (k : Go l R Z n0 y code ml ret Q cells slots h pc' Ls (.int z :: st)) : Go l R Z n0 y code ml ret Q cells slots h pc Ls (.ref a :: st) := by
  refine Go.step (fun C X eT q => ?_) k
  subst hp
  obtain ⟨cl, A, q1, S, q3, H, G⟩ := F
  refine X.arraylength C.1 (by rw [eT]; exact A.1) (State.isArrayOf_alike C.2.1.alike A.2.1) (g := mkF _ pc Ls (.ref a :: st)) rfl rfl (hb C.2.2.2.1 hd) _ ?_
  rw [len_of S q3]
  exact q
theorem Go.retV (hr : ret = none) (hd : decode code pc = .ok (.return_, 1)) (hq : Q none h) (hc : cells ≤ R.cells := by decide) (hs : slots ≤ R.slots := by decide) : Go l R Z n0 y code ml ret Q cells slots h pc Ls [] := by
  intro p e s m args below meth c T locs C X N eT
  obtain ⟨fs, hr', hrun, hended, hW, hsame⟩ := X.leave (v := none) (fun _ => rfl) C.2.2.2.2.2.2.1
  refine ⟨_, _, X.returnOut C.1 (C.2.2.2.2.2.1.trans hr) (hb C.2.2.2.1 hd) hr', hrun, hended, _, locs, rfl, ⟨?_, N⟩, ⟨_, rfl⟩, hW, hsame.mono hc hs⟩
  show Q _ T.heap
  rw [eT]; exact hq
theorem Go.retN {t : FieldType} {v : Int32} (hr : ret = some t) (ht : t = .boolean ∨ t = .byte ∨ t = .char ∨ t = .short) (hd : decode code pc = .ok (.ireturn, 1)) (hq : Q (some (.int (nar t v))) h) (hc : cells ≤ R.cells := by decide) (hs : slots ≤ R.slots := by decide) : Go l R Z n0 y code ml ret Q cells slots h pc Ls (.int v :: st) := by
  intro p e s m args below meth c T locs C X N eT
  obtain ⟨fs, hr', hrun, hended, hW, hsame⟩ := X.leave (v := some (.int (nar t v))) (fun q => by rw [C.2.2.2.2.2.1, hr] at q; cases q) C.2.2.2.2.2.2.1
  refine ⟨_, _, Jvm.RoadKit.retN X C.1 (C.2.2.2.2.2.1.trans hr) ht (hb C.2.2.2.1 hd) hr', hrun, hended, _, locs, rfl, ⟨?_, N⟩, ⟨_, rfl⟩, hW, hsame.mono hc hs⟩
  show Q _ T.heap
  rw [eT]; exact hq
theorem Go.retI {v : Int32} (hr : ret = some .int) (hd : decode code pc = .ok (.ireturn, 1)) (hq : Q (some (.int v)) h) (hc : cells ≤ R.cells := by decide) (hs : slots ≤ R.slots := by decide) : Go l R Z n0 y code ml ret Q cells slots h pc Ls (.int v :: st) := by
  intro p e s m args below meth c T locs C X N eT
  obtain ⟨fs, hr', hrun, hended, hW, hsame⟩ := X.leave (v := some (.int v)) (fun q => by rw [C.2.2.2.2.2.1, hr] at q; cases q) C.2.2.2.2.2.2.1
  refine ⟨_, _, retOut X C.1 (C.2.2.2.2.2.1.trans hr) rfl (Or.inl ⟨rfl, Or.inl rfl, _, rfl⟩) (hb C.2.2.2.1 hd) hr', hrun, hended, _, locs, rfl, ⟨?_, N⟩, ⟨_, rfl⟩, hW, hsame.mono hc hs⟩
  show Q _ T.heap
  rw [eT]; exact hq
theorem Go.retJ {v : Int64} (hr : ret = some .long) (hd : decode code pc = .ok (.lreturn, 1)) (hq : Q (some (.long v)) h) (hc : cells ≤ R.cells := by decide) (hs : slots ≤ R.slots := by decide) : Go l R Z n0 y code ml ret Q cells slots h pc Ls (.long v :: st) := by
  intro p e s m args below meth c T locs C X N eT
  obtain ⟨fs, hr', hrun, hended, hW, hsame⟩ := X.leave (v := some (.long v)) (fun q => by rw [C.2.2.2.2.2.1, hr] at q; cases q) C.2.2.2.2.2.2.1
  refine ⟨_, _, retOut X C.1 (C.2.2.2.2.2.1.trans hr) rfl (Or.inr (Or.inl ⟨rfl, rfl, _, rfl⟩)) (hb C.2.2.2.1 hd) hr', hrun, hended, _, locs, rfl, ⟨?_, N⟩, ⟨_, rfl⟩, hW, hsame.mono hc hs⟩
  show Q _ T.heap
  rw [eT]; exact hq
theorem Go.retR {t : FieldType} {v : Value} (hr : ret = some t) (ht : t.isReference = true) (hv : v.isRef = true) (hn : narrow t v = v) (hd : decode code pc = .ok (.areturn, 1)) (hq : Q (some v) h) (hc : cells ≤ R.cells := by decide) (hs : slots ≤ R.slots := by decide) : Go l R Z n0 y code ml ret Q cells slots h pc Ls (v :: st) := by
  intro p e s m args below meth c T locs C X N eT
  obtain ⟨fs, hr', hrun, hended, hW, hsame⟩ := X.leave (v := some v) (fun q => by rw [C.2.2.2.2.2.1, hr] at q; cases q) C.2.2.2.2.2.2.1
  refine ⟨_, _, retOut X C.1 (C.2.2.2.2.2.1.trans hr) hn (Or.inr (Or.inr (Or.inr (Or.inr ⟨rfl, ht, hv⟩)))) (hb C.2.2.2.1 hd) hr', hrun, hended, _, locs, rfl, ⟨?_, N⟩, ⟨_, rfl⟩, hW, hsame.mono hc hs⟩
  show Q _ T.heap
  rw [eT]; exact hq
theorem Go.callS {z : MethodName} {zc : ByteArray} {zm : Nat} {zr : Option FieldType} {rm : Room} {Q' : Option Value → Heap → Prop} {cells' slots' i : Nat} (argsL rest : List Value) {ps : List FieldType} {r : Option FieldType} (w1 : (Jvm.Cond.methodLink y.cls i z).before a0 Z = true) (w2 : (Jvm.Cond.static z).before a0 Z = true) (wi : (Jvm.Cond.initialized z.cls).before a0 Z = true) (wc : (Jvm.Cond.code z zc zm zr).before a0 Z = true) (hy : z.cls ≠ "java/lang/invoke/MethodHandle" ∧ z.cls ≠ "java/lang/invoke/VarHandle") (hK : Con l z zc zm zr rm Z n0 argsL.toArray h Q') (hpd : parseMethodDescriptor z.desc = some ⟨ps, r⟩) (hlen : argsL.length = ps.length) (hst : st = argsL.reverse ++ rest) (hz : Ls.size = ml) (hc' : cells + rm.cells = cells') (hs' : slots + rm.slots = slots') (hfr : rm.frames + 1 ≤ R.frames := by decide) (hlo : (rest.map fun v => v.category).sum + (zm + 11) + rm.locals ≤ R.locals := by decide) (hc : cells' ≤ R.cells := by decide) (hs : slots' ≤ R.slots := by decide) (hd : decode code pc = .ok (.invokestatic i, 3)) (hp : pc + 3 = pc')
    (k : ∀ v h', Q' v h' → Go l R Z n0 y code ml ret Q cells' slots' h' pc' Ls (v.toList ++ rest)) : Go l R Z n0 y code ml ret Q cells slots h pc Ls st := by
  intro p e s m args below meth c T locs C X N eT
  subst hc' hs' hp hst
  have hold : Old Z n0 h := own_old C.2.2.2.2.2.2.2.2 X N eT
  obtain ⟨v, _, ⟨T', L', k', n'⟩, -, X', ⟨Lc, hQ, l', y', z'⟩, st⟩ := Jvm.LawKit.callS X C.1 (y := z) C.2.2.1 (mvT C.2.1 w1) (mvT C.2.1 w2) (mvT C.2.1 wi) (mvT C.2.1 wc) hy (backOf (W := (rest.map fun v => v.category).sum) (Q := fun v h L => Q' v h ∧ Fr n0 L) (hK hold []) C.2.1 wc wi hfr hlo) (g := mkF m pc Ls (argsL.reverse ++ rest)) rfl (by rw [C.2.2.2.2.1]; exact hz) (argsL := argsL) (rest := rest) (lenOf hpd hlen) rfl (by simp) (hb C.2.2.2.1 hd) (fun _ _ => ⟨rfl, eT, hc, hs⟩)
  dsimp only [Pt.U, Pt.locs, Pt.cells, Pt.slots] at X' l' y' z' st hQ
  subst l' y' z'
  obtain ⟨s₂, o, h1, h2⟩ := k v _ hQ.1 p e s m args below meth c T' _ C X' (Fr.app N hQ.2) rfl
  exact ⟨s₂, o, st _ h1, h2⟩
theorem Go.callC {z : MethodName} {zc : ByteArray} {zm : Nat} {zr : Option FieldType} {rm : Room} {Q' : Option Value → Heap → Prop} {cells' slots' i : Nat} (argsL rest : List Value) {ps : List FieldType} {r : Option FieldType} {a : Addr} (hzi : z.name = "<init>") (hzr : zr = none) (w1 : (Jvm.Cond.methodLink y.cls i z).before a0 Z = true) (w2 : (Jvm.Cond.instanceMethod z).before a0 Z = true) (wi : (Jvm.Cond.initialized z.cls).before a0 Z = true) (wc : (Jvm.Cond.code z zc zm zr).before a0 Z = true) (hy : z.cls ≠ "java/lang/invoke/MethodHandle" ∧ z.cls ≠ "java/lang/invoke/VarHandle") (hK : Con l z zc zm zr rm Z n0 (.ref a :: argsL).toArray h Q') (hpd : parseMethodDescriptor z.desc = some ⟨ps, r⟩) (hlen : argsL.length = ps.length) (hst : st = argsL.reverse ++ .ref a :: rest) (hz : Ls.size = ml) (hc' : cells + rm.cells = cells') (hs' : slots + rm.slots = slots') (hfr : rm.frames + 1 ≤ R.frames := by decide) (hlo : (rest.map fun v => v.category).sum + (zm + 11) + rm.locals ≤ R.locals := by decide) (hc : cells' ≤ R.cells := by decide) (hs : slots' ≤ R.slots := by decide) (hd : decode code pc = .ok (.invokespecial i, 3)) (hp : pc + 3 = pc')
    (k : ∀ v h', Q' v h' → Go l R Z n0 y code ml ret Q cells' slots' h' pc' Ls (v.toList ++ rest)) : Go l R Z n0 y code ml ret Q cells slots h pc Ls st := by
  intro p e s m args below meth c T locs C X N eT
  subst hc' hs' hp hst
  have hold : Old Z n0 h := own_old C.2.2.2.2.2.2.2.2 X N eT
  subst hzr
  obtain ⟨v, _, ⟨T', L', k', n'⟩, -, X', ⟨Lc, hQ, l', y', z'⟩, st⟩ := X.specialBack C.1 (y := z) hzi C.2.2.1 (mvT C.2.1 w1) (mvT C.2.1 w2) (mvT C.2.1 wc) hy (backOf (W := (rest.map fun v => v.category).sum) (Q := fun v h L => Q' v h ∧ Fr n0 L) (hK hold []) C.2.1 wc wi hfr hlo) (g := mkF m pc Ls (argsL.reverse ++ .ref a :: rest)) rfl (by rw [C.2.2.2.2.1]; exact hz) (Steps.refl _) (a := a) (argsL := argsL) (rest := rest) (lenOf hpd hlen) rfl (by simp) (hb C.2.2.2.1 hd) (fun _ _ => ⟨rfl, eT, hc, hs⟩)
  dsimp only [Pt.U, Pt.locs, Pt.cells, Pt.slots] at X' l' y' z' st hQ
  subst l' y' z'
  obtain ⟨s₂, o, h1, h2⟩ := k v _ hQ.1 p e s m args below meth c T' _ C X' (Fr.app N hQ.2) rfl
  exact ⟨s₂, o, st.trans h1, h2⟩
theorem Go.callCN {z : MethodName} {zc : ByteArray} {zm : Nat} {zr : Option FieldType} {rm : Room} {Q' : Option Value → Heap → Prop} {cells' slots' i : Nat} (argsL rest : List Value) {ps : List FieldType} {r : Option FieldType} {a : Addr} {host : String} (hzi : z.name = "<init>") (hzr : zr = none) (w1 : (Jvm.Cond.methodLinkNest y.cls i z host).before a0 Z = true) (w2 : (Jvm.Cond.instanceMethod z).before a0 Z = true) (wi : (Jvm.Cond.initialized z.cls).before a0 Z = true) (wc : (Jvm.Cond.code z zc zm zr).before a0 Z = true) (hy : z.cls ≠ "java/lang/invoke/MethodHandle" ∧ z.cls ≠ "java/lang/invoke/VarHandle") (hK : Con l z zc zm zr rm Z n0 (.ref a :: argsL).toArray h Q') (hpd : parseMethodDescriptor z.desc = some ⟨ps, r⟩) (hlen : argsL.length = ps.length) (hst : st = argsL.reverse ++ .ref a :: rest) (hz : Ls.size = ml) (hc' : cells + rm.cells = cells') (hs' : slots + rm.slots = slots') (hfr : rm.frames + 1 ≤ R.frames := by decide) (hlo : (rest.map fun v => v.category).sum + (zm + 11) + rm.locals ≤ R.locals := by decide) (hc : cells' ≤ R.cells := by decide) (hs : slots' ≤ R.slots := by decide) (hd : decode code pc = .ok (.invokespecial i, 3)) (hp : pc + 3 = pc')
    (k : ∀ v h', Q' v h' → Go l R Z n0 y code ml ret Q cells' slots' h' pc' Ls (v.toList ++ rest)) : Go l R Z n0 y code ml ret Q cells slots h pc Ls st := by
  intro p e s m args below meth c T locs C X N eT
  subst hc' hs' hp hst
  have hold : Old Z n0 h := own_old C.2.2.2.2.2.2.2.2 X N eT
  subst hzr
  obtain ⟨v, _, ⟨T', L', k', n'⟩, -, X', ⟨Lc, hQ, l', y', z'⟩, st⟩ := X.specialBackNest C.1 (y := z) hzi C.2.2.1 ((Cond.methodLinkNest_wide C.2.1 w1 :)) (mvT C.2.1 w2) (mvT C.2.1 wc) hy (backOf (W := (rest.map fun v => v.category).sum) (Q := fun v h L => Q' v h ∧ Fr n0 L) (hK hold []) C.2.1 wc wi hfr hlo) (g := mkF m pc Ls (argsL.reverse ++ .ref a :: rest)) rfl (by rw [C.2.2.2.2.1]; exact hz) (Steps.refl _) (a := a) (argsL := argsL) (rest := rest) (lenOf hpd hlen) rfl (by simp) (hb C.2.2.2.1 hd) (fun _ _ => ⟨rfl, eT, hc, hs⟩)
  dsimp only [Pt.U, Pt.locs, Pt.cells, Pt.slots] at X' l' y' z' st hQ
  subst l' y' z'
  obtain ⟨s₂, o, h1, h2⟩ := k v _ hQ.1 p e s m args below meth c T' _ C X' (Fr.app N hQ.2) rfl
  exact ⟨s₂, o, st.trans h1, h2⟩
theorem Go.callV {z : MethodName} {zc : ByteArray} {zm : Nat} {zr : Option FieldType} {rm : Room} {Q' : Option Value → Heap → Prop} {cells' slots' i : Nat} (argsL rest : List Value) {ps : List FieldType} {r : Option FieldType} {a : Addr} {x' : MethodName} {C' : String} (E : Exa Z h a C') (w1 : (Jvm.Cond.methodLink y.cls i x').before a0 Z = true) (w2 : (Jvm.Cond.declares x').before a0 Z = true) (nf : ∀ s' : State, Z.Warmed39 s'.vm → NotFace s' x') (w3 : (Jvm.Cond.selects C' x' z).before a0 Z = true) (w4 : (Jvm.Cond.instanceMethod z).before a0 Z = true) (wi : (Jvm.Cond.initialized z.cls).before a0 Z = true) (wc : (Jvm.Cond.code z zc zm zr).before a0 Z = true) (hy : x'.cls ≠ "java/lang/invoke/MethodHandle" ∧ x'.cls ≠ "java/lang/invoke/VarHandle") (hK : Con l z zc zm zr rm Z n0 (.ref a :: argsL).toArray h Q') (hpd : parseMethodDescriptor x'.desc = some ⟨ps, r⟩) (hlen : argsL.length = ps.length) (hst : st = argsL.reverse ++ .ref a :: rest) (hz : Ls.size = ml) (hc' : cells + rm.cells = cells') (hs' : slots + rm.slots = slots') (hfr : rm.frames + 1 ≤ R.frames := by decide) (hlo : (rest.map fun v => v.category).sum + (zm + 11) + rm.locals ≤ R.locals := by decide) (hc : cells' ≤ R.cells := by decide) (hs : slots' ≤ R.slots := by decide) (hd : decode code pc = .ok (.invokevirtual i, 3)) (hp : pc + 3 = pc')
    (k : ∀ v h', Q' v h' → Go l R Z n0 y code ml ret Q cells' slots' h' pc' Ls (v.toList ++ rest)) : Go l R Z n0 y code ml ret Q cells slots h pc Ls st := by
  intro p e s m args below meth c T locs C X N eT
  subst hc' hs' hp hst
  have hold : Old Z n0 h := own_old C.2.2.2.2.2.2.2.2 X N eT
  obtain ⟨cq, kq, qa, qb, qc⟩ := isOf C.2.1 eT E
  obtain ⟨v, _, ⟨T', L', k', n'⟩, -, X', ⟨Lc, hQ, l', y', z'⟩, st⟩ := X.virtualBack C.1 (y := x') (z := z) C.2.2.1 (mvT C.2.1 w1) (mvT C.2.1 w2) (nf s C.2.1) (mvT C.2.1 w3) (mvT C.2.1 w4) hy (backOf (W := (rest.map fun v => v.category).sum) (Q := fun v h L => Q' v h ∧ Fr n0 L) (hK hold []) C.2.1 wc wi hfr hlo) qa qc (g := mkF m pc Ls (argsL.reverse ++ .ref a :: rest)) rfl (by rw [C.2.2.2.2.1]; exact hz) (Steps.refl _) (argsL := argsL) (rest := rest) (lenOf hpd hlen) rfl (by simp) (hb C.2.2.2.1 hd) (fun _ _ => ⟨rfl, eT, hc, hs⟩)
  dsimp only [Pt.U, Pt.locs, Pt.cells, Pt.slots] at X' l' y' z' st hQ
  subst l' y' z'
  obtain ⟨s₂, o, h1, h2⟩ := k v _ hQ.1 p e s m args below meth c T' _ C X' (Fr.app N hQ.2) rfl
  exact ⟨s₂, o, st.trans h1, h2⟩
theorem Go.callU {z : MethodName} {zc : ByteArray} {zm : Nat} {zr : Option FieldType} {rm : Room} {Q' : Option Value → Heap → Prop} {cells' slots' i : Nat} (argsL rest : List Value) {ps : List FieldType} {r : Option FieldType} {a : Addr} {x' : MethodName} {C' owner : String} (E : Exa Z h a C') (w1 : (Jvm.Cond.methodLink y.cls i x').before a0 Z = true) (w2 : (Jvm.Cond.sameMethod x'.cls owner x'.name x'.desc).before a0 Z = true) (w5 : (Jvm.Cond.declares ⟨owner, x'.name, x'.desc⟩).before a0 Z = true) (w3 : (Jvm.Cond.selects C' x' z).before a0 Z = true) (w4 : (Jvm.Cond.instanceMethod z).before a0 Z = true) (wi : (Jvm.Cond.initialized z.cls).before a0 Z = true) (wc : (Jvm.Cond.code z zc zm zr).before a0 Z = true) (hy : owner ≠ "java/lang/invoke/MethodHandle" ∧ owner ≠ "java/lang/invoke/VarHandle") (hK : Con l z zc zm zr rm Z n0 (.ref a :: argsL).toArray h Q') (hpd : parseMethodDescriptor x'.desc = some ⟨ps, r⟩) (hlen : argsL.length = ps.length) (hst : st = argsL.reverse ++ .ref a :: rest) (hz : Ls.size = ml) (hc' : cells + rm.cells = cells') (hs' : slots + rm.slots = slots') (hfr : rm.frames + 1 ≤ R.frames := by decide) (hlo : (rest.map fun v => v.category).sum + (zm + 11) + rm.locals ≤ R.locals := by decide) (hc : cells' ≤ R.cells := by decide) (hs : slots' ≤ R.slots := by decide) (hd : decode code pc = .ok (.invokevirtual i, 3)) (hp : pc + 3 = pc')
    (k : ∀ v h', Q' v h' → Go l R Z n0 y code ml ret Q cells' slots' h' pc' Ls (v.toList ++ rest)) : Go l R Z n0 y code ml ret Q cells slots h pc Ls st := by
  intro p e s m args below meth c T locs C X N eT
  subst hc' hs' hp hst
  have hold : Old Z n0 h := own_old C.2.2.2.2.2.2.2.2 X N eT
  obtain ⟨cq, kq, qa, qb, qc⟩ := isOf C.2.1 eT E
  obtain ⟨v, _, ⟨T', L', k', n'⟩, -, X', ⟨Lc, hQ, l', y', z'⟩, st⟩ := X.virtualBackUp C.1 (x := x') (y := z) C.2.2.1 (mvT C.2.1 w1) (mvT C.2.1 w2) (mvT C.2.1 w5) hy (mvT C.2.1 w3) (mvT C.2.1 w4) (backOf (W := (rest.map fun v => v.category).sum) (Q := fun v h L => Q' v h ∧ Fr n0 L) (hK hold []) C.2.1 wc wi hfr hlo) qa qc (g := mkF m pc Ls (argsL.reverse ++ .ref a :: rest)) rfl (by rw [C.2.2.2.2.1]; exact hz) (Steps.refl _) (argsL := argsL) (rest := rest) (lenOf hpd hlen) rfl (by simp) (hb C.2.2.2.1 hd) (fun _ _ => ⟨rfl, eT, hc, hs⟩)
  dsimp only [Pt.U, Pt.locs, Pt.cells, Pt.slots] at X' l' y' z' st hQ
  subst l' y' z'
  obtain ⟨s₂, o, h1, h2⟩ := k v _ hQ.1 p e s m args below meth c T' _ C X' (Fr.app N hQ.2) rfl
  exact ⟨s₂, o, st.trans h1, h2⟩
theorem Go.callP {z : MethodName} {zc : ByteArray} {zm : Nat} {zr : Option FieldType} {rm : Room} {Q' : Option Value → Heap → Prop} {cells' slots' i : Nat} (argsL rest : List Value) {ps : List FieldType} {r : Option FieldType} {a : Addr} {C' : String} (E : Exa Z h a C') (w1 : (Jvm.Cond.methodLink y.cls i z).before a0 Z = true) (w2 : (Jvm.Cond.instanceMethod z).before a0 Z = true) (w3 : (Jvm.Cond.selects z.cls z z).before a0 Z = true) (w4 : (Jvm.Cond.privateMethod z).before a0 Z = true) (wi : (Jvm.Cond.initialized z.cls).before a0 Z = true) (wc : (Jvm.Cond.code z zc zm zr).before a0 Z = true) (hy : z.cls ≠ "java/lang/invoke/MethodHandle" ∧ z.cls ≠ "java/lang/invoke/VarHandle") (hK : Con l z zc zm zr rm Z n0 (.ref a :: argsL).toArray h Q') (hpd : parseMethodDescriptor z.desc = some ⟨ps, r⟩) (hlen : argsL.length = ps.length) (hst : st = argsL.reverse ++ .ref a :: rest) (hz : Ls.size = ml) (hc' : cells + rm.cells = cells') (hs' : slots + rm.slots = slots') (hfr : rm.frames + 1 ≤ R.frames := by decide) (hlo : (rest.map fun v => v.category).sum + (zm + 11) + rm.locals ≤ R.locals := by decide) (hc : cells' ≤ R.cells := by decide) (hs : slots' ≤ R.slots := by decide) (hd : decode code pc = .ok (.invokevirtual i, 3)) (hp : pc + 3 = pc')
    (k : ∀ v h', Q' v h' → Go l R Z n0 y code ml ret Q cells' slots' h' pc' Ls (v.toList ++ rest)) : Go l R Z n0 y code ml ret Q cells slots h pc Ls st := by
  intro p e s m args below meth c T locs C X N eT
  subst hc' hs' hp hst
  have hold : Old Z n0 h := own_old C.2.2.2.2.2.2.2.2 X N eT
  obtain ⟨cq, qa, qb⟩ := E.cell
  obtain ⟨v, _, ⟨T', L', k', n'⟩, -, X', ⟨Lc, hQ, l', y', z'⟩, st⟩ := X.privateBack C.1 (y := z) C.2.2.1 (mvT C.2.1 w1) (mvT C.2.1 w2) (mvT C.2.1 w3) (Cond.privateMethod_at (mvP C.2.1 w4 (args := #[]))) (mvT C.2.1 wc) hy (backOf (W := (rest.map fun v => v.category).sum) (Q := fun v h L => Q' v h ∧ Fr n0 L) (hK hold []) C.2.1 wc wi hfr hlo) (g := mkF m pc Ls (argsL.reverse ++ .ref a :: rest)) rfl (by rw [C.2.2.2.2.1]; exact hz) (Steps.refl _) (a := a) (by rw [eT]; exact qa) qb (argsL := argsL) (rest := rest) (lenOf hpd hlen) rfl (by simp) (hb C.2.2.2.1 hd) (fun _ _ => ⟨rfl, eT, hc, hs⟩)
  dsimp only [Pt.U, Pt.locs, Pt.cells, Pt.slots] at X' l' y' z' st hQ
  subst l' y' z'
  obtain ⟨s₂, o, h1, h2⟩ := k v _ hQ.1 p e s m args below meth c T' _ C X' (Fr.app N hQ.2) rfl
  exact ⟨s₂, o, st.trans h1, h2⟩
theorem Go.callI {z : MethodName} {zc : ByteArray} {zm : Nat} {zr : Option FieldType} {rm : Room} {Q' : Option Value → Heap → Prop} {cells' slots' i : Nat} (argsL rest : List Value) {ps : List FieldType} {r : Option FieldType} {a : Addr} {x' : MethodName} {C' : String} {cnt : Nat} (E : Exa Z h a C') (w1 : (Jvm.Cond.methodLink y.cls i x').before a0 Z = true) (w2 : (Jvm.Cond.declares x').before a0 Z = true) (w3 : (Jvm.Cond.interfaceMethod x'.cls x'.cls x'.name x'.desc).before a0 Z = true) (w4 : (Jvm.Cond.selects C' x' z).before a0 Z = true) (w5 : (Jvm.Cond.instanceMethod z).before a0 Z = true) (w6 : (Jvm.Cond.publicMethod z).before a0 Z = true) (w7 : (Jvm.Cond.unhidden C' x'.name x'.desc).before a0 Z = true) (w8 : (Jvm.Cond.castable C' x'.cls).before a0 Z = true) (wi : (Jvm.Cond.initialized z.cls).before a0 Z = true) (wc : (Jvm.Cond.code z zc zm zr).before a0 Z = true) (hy : x'.cls ≠ "java/lang/invoke/MethodHandle" ∧ x'.cls ≠ "java/lang/invoke/VarHandle") (hK : Con l z zc zm zr rm Z n0 (.ref a :: argsL).toArray h Q') (hpd : parseMethodDescriptor x'.desc = some ⟨ps, r⟩) (hlen : argsL.length = ps.length) (hst : st = argsL.reverse ++ .ref a :: rest) (hz : Ls.size = ml) (hc' : cells + rm.cells = cells') (hs' : slots + rm.slots = slots') (hfr : rm.frames + 1 ≤ R.frames := by decide) (hlo : (rest.map fun v => v.category).sum + (zm + 11) + rm.locals ≤ R.locals := by decide) (hc : cells' ≤ R.cells := by decide) (hs : slots' ≤ R.slots := by decide) (hd : decode code pc = .ok (.invokeinterface i cnt, 5)) (hp : pc + 5 = pc')
    (k : ∀ v h', Q' v h' → Go l R Z n0 y code ml ret Q cells' slots' h' pc' Ls (v.toList ++ rest)) : Go l R Z n0 y code ml ret Q cells slots h pc Ls st := by
  intro p e s m args below meth c T locs C X N eT
  subst hc' hs' hp hst
  have hold : Old Z n0 h := own_old C.2.2.2.2.2.2.2.2 X N eT
  obtain ⟨cq, kq, qa, qb, qc⟩ := isOf C.2.1 eT E
  obtain ⟨v, _, ⟨T', L', k', n'⟩, -, X', ⟨Lc, hQ, l', y', z'⟩, st⟩ := X.interfaceBack C.1 (xi := x') (y := z) C.2.2.1 (mvT C.2.1 w1) (mvT C.2.1 w2) (mvT C.2.1 w3 (hd := by simp [Cond.onTables, Cond.keepsFace, Cond.keeps, Cond.steady, Cond.faceAtom]; exact hy)) (mvT C.2.1 w4) (mvT C.2.1 w5) (mvT C.2.1 w6) (mvT C.2.1 w7) (mvT C.2.1 w8) hy (backOf (W := (rest.map fun v => v.category).sum) (Q := fun v h L => Q' v h ∧ Fr n0 L) (hK hold []) C.2.1 wc wi hfr hlo) qa qb qc (g := mkF m pc Ls (argsL.reverse ++ .ref a :: rest)) rfl (by rw [C.2.2.2.2.1]; exact hz) (Steps.refl _) (argsL := argsL) (rest := rest) (lenOf hpd hlen) rfl (by simp) (hb C.2.2.2.1 hd) (fun _ _ => ⟨rfl, eT, hc, hs⟩)
  dsimp only [Pt.U, Pt.locs, Pt.cells, Pt.slots] at X' l' y' z' st hQ
  subst l' y' z'
  obtain ⟨s₂, o, h1, h2⟩ := k v _ hQ.1 p e s m args below meth c T' _ C X' (Fr.app N hQ.2) rfl
  exact ⟨s₂, o, st.trans h1, h2⟩
end Rules
end Jvm.OwnGo
namespace Jvm.OwnNum
theorem mask (x m : Int32) (hm : 0 ≤ m.toInt) : 0 ≤ (x &&& m).toInt ∧ (x &&& m).toInt ≤ m.toInt := by
  have e : ∀ z : Int32, z.toInt = z.toBitVec.toInt := fun _ => rfl
  have hb : (x &&& m).toBitVec = x.toBitVec &&& m.toBitVec := rfl
  rw [e] at hm
  rw [e (x &&& m), e m, hb]
  have h1 : 2 * m.toBitVec.toNat < 2 ^ 32 := by
    rw [BitVec.toInt_eq_toNat_cond] at hm
    split at hm
    · assumption
    · have := m.toBitVec.isLt; omega
  have h2 : (x.toBitVec &&& m.toBitVec).toNat ≤ m.toBitVec.toNat := by
    rw [BitVec.toNat_and]; exact Nat.and_le_right
  rw [BitVec.toInt_eq_toNat_of_lt (x := m.toBitVec) h1, BitVec.toInt_eq_toNat_of_lt (x := x.toBitVec &&& m.toBitVec) (by omega)]
  omega
theorem modr (y k : Int32) (hy : 0 ≤ y.toInt) (hk : 0 < k.toInt) : 0 ≤ (y % k).toInt ∧ (y % k).toInt < k.toInt := by
  rw [Int32.toInt_mod]
  exact ⟨Int.tmod_nonneg _ hy, Int.tmod_lt_of_pos _ hk⟩
theorem maskmod (x k : Int32) (hk : 0 < k.toInt) : 0 ≤ ((x &&& 2147483647) % k).toInt ∧ ((x &&& 2147483647) % k).toInt < k.toInt := modr _ k (mask x 2147483647 (by decide)).1 hk
theorem eqI {a k : Int32} (h : a.toInt = k.toInt) : a = k := Int32.toInt_inj.mp h
end Jvm.OwnNum
namespace Jvm.OwnNum
theorem lremE (x y : Int64) : x - (x / y) * y = x % y := by
  apply Int64.toInt_inj.mp
  rw [Int64.toInt_mod, Int64.toInt_sub, Int64.toInt_mul, Int64.toInt_div]
  have h := Int.mul_tdiv_add_tmod x.toInt y.toInt
  have e : (x.toInt - ((x.toInt.tdiv y.toInt).bmod (2^64) * y.toInt).bmod (2^64)).bmod (2^64) = (x.toInt - (x.toInt.tdiv y.toInt * y.toInt)).bmod (2^64) := by
    simp
  rw [e]
  have q : x.toInt - x.toInt.tdiv y.toInt * y.toInt = x.toInt.tmod y.toInt := by
    rw [Int.mul_comm]; omega
  rw [q]
  have h1 := Int64.le_toInt (x % y)
  have h2 := Int64.toInt_lt (x % y)
  rw [Int64.toInt_mod] at h1 h2
  exact Int.bmod_eq_of_le_mul_two (by omega) (by omega)
theorem mask64 (x m : Int64) (hm : 0 ≤ m.toInt) : 0 ≤ (x &&& m).toInt ∧ (x &&& m).toInt ≤ m.toInt := by
  have e : ∀ z : Int64, z.toInt = z.toBitVec.toInt := fun _ => rfl
  have hb : (x &&& m).toBitVec = x.toBitVec &&& m.toBitVec := rfl
  rw [e] at hm
  rw [e (x &&& m), e m, hb]
  have h1 : 2 * m.toBitVec.toNat < 2 ^ 64 := by
    rw [BitVec.toInt_eq_toNat_cond] at hm
    split at hm
    · assumption
    · have := m.toBitVec.isLt; omega
  have h2 : (x.toBitVec &&& m.toBitVec).toNat ≤ m.toBitVec.toNat := by
    rw [BitVec.toNat_and]; exact Nat.and_le_right
  rw [BitVec.toInt_eq_toNat_of_lt (x := m.toBitVec) h1, BitVec.toInt_eq_toNat_of_lt (x := x.toBitVec &&& m.toBitVec) (by omega)]
  omega
theorem maskmod64 (x m k : Int64) (hm : 0 ≤ m.toInt) (hk : 0 < k.toInt) : 0 ≤ ((x &&& m) - ((x &&& m) / k) * k).toInt ∧ ((x &&& m) - ((x &&& m) / k) * k).toInt < k.toInt := by
  rw [lremE, Int64.toInt_mod]
  exact ⟨Int.tmod_nonneg _ (mask64 x m hm).1, Int.tmod_lt_of_pos _ hk⟩
theorem narrowI (x : Int64) (h1 : 0 ≤ x.toInt) (h2 : x.toInt < 2147483648) : x.toInt32.toInt = x.toInt := by
  rw [Int64.toInt_toInt32]
  exact Int.bmod_eq_of_le_mul_two (by omega) (by omega)
theorem lmod5 (x : Int64) : 0 ≤ (((x &&& (9223372036854775807 : Int64)) - ((x &&& (9223372036854775807 : Int64)) / (5 : Int64)) * (5 : Int64)).toInt32).toInt ∧ (((x &&& (9223372036854775807 : Int64)) - ((x &&& (9223372036854775807 : Int64)) / (5 : Int64)) * (5 : Int64)).toInt32).toInt < 5 := by
  have h := maskmod64 x 9223372036854775807 5 (by decide) (by decide)
  have e5 : (5 : Int64).toInt = 5 := by decide
  rw [e5] at h
  rw [narrowI _ h.1 (by omega)]
  exact h
end Jvm.OwnNum
namespace Jvm.OwnGo
open Jvm Jvm.ClassFile Sem Op Lib Jvm.Free Jvm.Stand Jvm.LawKit Jvm.RoadKit
section Sheet
variable {args : Array Value} {s : State} {t : Term} {a : Addr}
theorem own_eqI {k : Int32} (h : (Jvm.Cond.eq t (.int k)).value args s none s [] = some true) : t.eval args s none [] s = some (.int k) := by
  simp only [Cond.value, Term.eval] at h
  cases ht : t.eval args s none [] s with
  | none => simp [ht] at h
  | some x => cases x <;> simp [ht] at h ⊢; exact h
theorem own_eqJ {k : Int64} (h : (Jvm.Cond.eq t (.long k)).value args s none s [] = some true) : t.eval args s none [] s = some (.long k) := by
  simp only [Cond.value, Term.eval] at h
  cases ht : t.eval args s none [] s with
  | none => simp [ht] at h
  | some x => cases x <;> simp [ht] at h ⊢; exact h
theorem own_eqR {u : Term} {b : Addr} (hu : u.eval args s none [] s = some (.ref b)) (h : (Jvm.Cond.eq t u).value args s none s [] = some true) : t.eval args s none [] s = some (.ref b) := by
  simp only [Cond.value, hu] at h
  cases ht : t.eval args s none [] s with
  | none => simp [ht] at h
  | some x => cases x <;> simp [ht] at h ⊢; exact h
theorem own_fld {C n d : String} {v : Value} (ht : t.eval args s none [] s = some (.ref a)) (h : (Term.field t C n d).eval args s none [] s = some v) : Jvm.RoadKit.Fld s s.heap a C n d v :=
  Fld.start (by rw [← fld_at (C := C) (n := n) (dd := d) ht]; exact h)
theorem own_arr {ty : FieldType} {n : Int32} (ev : t.eval args s none [] s = some (.ref a)) (hx : (Jvm.Cond.arrayOf t ty).value args s none s [] = some true) (hl : (Term.length t).eval args s none [] s = some (.int n)) :
    ∃ c, Arr s s.heap a c ty ∧ c.slots.size < 2 ^ 31 ∧ c.slots.size.toInt32 = n := by
  obtain ⟨c, A⟩ := Arr.start ev hx
  have e := A.fin (Vm.Alike.refl _)
  refine ⟨c, A, ?_⟩
  simp only [Term.eval, ev, Option.bind_eq_bind, Option.bind_some, e] at hl
  split at hl
  · rename_i q; exact ⟨q, by simpa using hl⟩
  · cases hl
theorem own_elem {ty : FieldType} {j : Int32} {c : Cell} {v : Value} (ev : t.eval args s none [] s = some (.ref a)) (A : Arr s s.heap a c ty) (hj : ¬ j < 0) (h : (Term.elem t (.int j)).eval args s none [] s = some v) : c.slots[j.toNatClampNeg]? = some v := by
  rw [elem_f ev (Term.int_eval j) (A.fin (Vm.Alike.refl _)) hj] at h; exact h
end Sheet
end Jvm.OwnGo
namespace Jvm.OwnGo
open Jvm Jvm.ClassFile Sem Op Lib Jvm.Free Jvm.Stand Jvm.LawKit Jvm.RoadKit
theorem own_arvAny {s : State} {a : Addr} {c : Cell} {ty : FieldType} {n : Int32} {dv : Value} (hf : Fit s) (A : Arr s s.heap a c ty) (q : c.slots.size < 2 ^ 31) (e : c.slots.size.toInt32 = n) (hn : ¬ n < 0) : Jvm.RoadKit.Arv s s.heap a c.cls ty n c.slots.toList dv := by
  have S : c.slots.size = n.toNatClampNeg := by rw [← e]; simp only [Int32.toNatClampNeg, len_toInt q]; rfl
  have H : Has c c.slots.toList dv := fun k hk => by simp [List.getD_eq_getElem?_getD, hk]
  refine ⟨c, A, rfl, S, hn, H, fun j hj => ?_⟩
  have hi := idx_in hj q
  obtain ⟨v, h1, h2⟩ := elem_fit hf A hi
  have ej : (j.toInt32).toNatClampNeg = j := by
    simp only [Int32.toNatClampNeg, len_toInt (Nat.lt_trans hj q)]; rfl
  rw [ej, H j hj] at h1
  cases h1
  exact h2
end Jvm.OwnGo
namespace Jvm.OwnGo
open Jvm Jvm.ClassFile Sem Op Lib Jvm.Free Jvm.Stand Jvm.LawKit Jvm.RoadKit
theorem own_eqV {args : Array Value} {s : State} {t u : Term} {idx : List Nat} {k : Int32} (hu : u.eval args s none idx s = some (.int k)) (h : (Jvm.Cond.eq t u).value args s none s idx = some true) : t.eval args s none idx s = some (.int k) := by
  simp only [Cond.value, hu] at h
  cases ht : t.eval args s none idx s with
  | none => simp [ht] at h
  | some x => cases x <;> simp [ht] at h ⊢; exact h
theorem own_static_idx {args : Array Value} {s : State} {C n d : String} {v : Value} (h : (Term.static C n d).eval args s none [] s = some v) (idx : List Nat) : (Term.static C n d).eval args s none idx s = some v := by
  simp only [Term.eval] at h ⊢; exact h
theorem own_i128 (i : Int32) (h1 : ¬ i < -128) (h2 : ¬ 127 < i) : ¬ i + 128 < 0 ∧ i + 128 < 256 ∧ (i + 128).toNatClampNeg < 256 := by
  rw [Int32.lt_iff_toInt_lt] at h1 h2
  have e1 : (-128 : Int32).toInt = -128 := by decide
  have e2 : (127 : Int32).toInt = 127 := by decide
  have e3 : (128 : Int32).toInt = 128 := by decide
  rw [e1] at h1; rw [e2] at h2
  have e : (i + 128).toInt = i.toInt + 128 := by
    rw [Int32.toInt_add, e3]; exact Int.bmod_eq_of_le_mul_two (by omega) (by omega)
  refine ⟨?_, ?_, ?_⟩
  · rw [Int32.lt_iff_toInt_lt, e]; have : (0 : Int32).toInt = 0 := by decide
    omega
  · rw [Int32.lt_iff_toInt_lt, e]; have : (256 : Int32).toInt = 256 := by decide
    omega
  · simp only [Int32.toNatClampNeg, e]; omega
theorem own_cache {args : Array Value} {s : State} {a : Addr} {c : Cell} {ct : Term} (ev : ∀ idx, ct.eval args s none idx s = some (.ref a)) (A : Arr s s.heap a c (.object "java/lang/Integer")) (hsz : c.slots.size < 2 ^ 31) (hn : c.slots.size.toInt32 = 256)
    (hall : (Jvm.Cond.all ct (.and (.exactly (.elem ct (.index 0)) "java/lang/Integer") (.eq (.field (.elem ct (.index 0)) "java/lang/Integer" "value" "I") (.sub (.index 0) (.int 128))))).value args s none s [] = some true) :
    ∀ i : Int32, ¬ i < -128 → ¬ 127 < i → ∃ w, c.slots.toList.getD (i + 128).toNatClampNeg .null = .ref w ∧ Jvm.RoadKit.Exa s s.heap w "java/lang/Integer" ∧ Jvm.RoadKit.Fld s s.heap w "java/lang/Integer" "value" "I" (.int i) := by
  intro i h1 h2
  obtain ⟨b1, b2, b3⟩ := own_i128 i h1 h2
  have hat := A.fin (Vm.Alike.refl _)
  have S : c.slots.size = 256 := by
    have : c.slots.size = (256 : Int32).toNatClampNeg := by rw [← hn]; simp only [Int32.toNatClampNeg, len_toInt hsz]; rfl
    rw [this]; decide
  have q := Cond.all_elim (ev []) hat hall (i + 128).toNatClampNeg (by rw [S]; exact b3)
  obtain ⟨q1, q2⟩ := and_e q
  have ei : (Term.index 0).eval args s none [(i + 128).toNatClampNeg] s = some (.int (i + 128)) := idx_at b1
  obtain ⟨w, ew⟩ := exa_v q1
  have ew' := ew
  rw [elem_f (ev _) ei hat b1] at ew'
  have es : (Term.sub (.index 0) (.int 128)).eval args s none [(i + 128).toNatClampNeg] s = some (.int i) := by
    have e0 : i + 128 - 128 = i := by
      rw [Int32.sub_eq_add_neg, Int32.add_assoc]; simp
    have e1 := (back32 b1).1
    simp [Term.eval, e1, e0]
  have ef := own_eqV es q2
  refine ⟨w, ?_, exa_at ew q1, Fld.start ?_⟩
  · rw [List.getD_eq_getElem?_getD, Array.getElem?_toList, ew']; rfl
  · rw [← fld_at (C := "java/lang/Integer") (n := "value") (dd := "I") ew]; exact ef
end Jvm.OwnGo
namespace Jvm.OwnGo
open Jvm Jvm.ClassFile Sem Op Lib Jvm.Free Jvm.Stand Jvm.LawKit Jvm.RoadKit
theorem own_nroot {Z : State} {a0 : Array Value} {O K : String} {n : Nat} (w : (Jvm.Cond.noSuperclass O).before a0 Z = true) (wk : (Jvm.Cond.instantiable K n).before a0 Z = true) (hn : O ≠ K) : NS Z O K := by
  obtain ⟨c, k, h1, h2, h3, -, -⟩ := Cond.noSuperclass_spec w
  obtain ⟨t, kt, g1, -⟩ := Cond.instantiable_spec wk
  have ne := ids_ne h1 g1 hn
  refine ⟨c, t, h1, g1, fun fuel => ?_⟩
  cases fuel with
  | zero => rfl
  | succ f => simp [Vm.isSubclassAux, ne, h2, h3]
theorem own_nno {Z : State} {a0 : Array Value} {C S K : String} {n : Nat} (w : (Jvm.Cond.superclass C S).before a0 Z = true) (wk : (Jvm.Cond.instantiable K n).before a0 Z = true) (nn : NS Z C K) (hn : C ≠ K) : ∃ c t, Z.vm.findClass C = some c ∧ Z.vm.findClass K = some t ∧ Z.vm.assignable c t = false := by
  obtain ⟨c, t, h0, g0, n3⟩ := nn
  obtain ⟨p, k, kp, h1, h2, h3, h4, h5, -, h7⟩ := Cond.superclass_spec h0 w
  obtain ⟨t', kt, g1, g2, g3, g4, -⟩ := Cond.instantiable_spec wk
  cases g0.symm.trans g1
  have gi : kt.isInterface = false := by
    cases q : kt.isInterface with
    | false => rfl
    | true => simp [q] at g4
  have ne := ids_ne h0 g0 hn
  refine ⟨c, t, h0, g0, ?_⟩
  show Z.vm.assignableAux (255 + 1) c t = false
  simp [Vm.assignableAux, ne, h2, g2, h5, g3, gi, Vm.isSubclass, n3]
end Jvm.OwnGo
namespace Jvm.Pilot.@@N@@
open Jvm Jvm.ClassFile Sem Op Lib Jvm.Free Jvm.Stand Jvm.LawKit Jvm.RoadKit Bundle Jvm.OwnGo Jvm.Pilot.@@N@@.Jvm.D
theorem own_and7 (x : Int32) : x &&& (7 : Int32) = (0 : Int32) ∨ x &&& (7 : Int32) = (1 : Int32) ∨ x &&& (7 : Int32) = (2 : Int32) ∨ x &&& (7 : Int32) = (3 : Int32) ∨ x &&& (7 : Int32) = (4 : Int32) ∨ x &&& (7 : Int32) = (5 : Int32) ∨ x &&& (7 : Int32) = (6 : Int32) ∨ x &&& (7 : Int32) = (7 : Int32) := by
  obtain ⟨h1, h2⟩ := OwnNum.mask x 7 (by decide)
  have e : (8 : Int32).toInt = 8 := by decide
  have e' : (7 : Int32).toInt = 7 := by decide
  generalize x &&& (7 : Int32) = z at h1 h2 ⊢
  have q : z.toInt = 0 ∨ z.toInt = 1 ∨ z.toInt = 2 ∨ z.toInt = 3 ∨ z.toInt = 4 ∨ z.toInt = 5 ∨ z.toInt = 6 ∨ z.toInt = 7 := by omega
  rcases q with q | q | q | q | q | q | q | q
  · exact Or.inl (OwnNum.eqI (q.trans (by decide)))
  · exact Or.inr (Or.inl (OwnNum.eqI (q.trans (by decide))))
  · exact Or.inr (Or.inr (Or.inl (OwnNum.eqI (q.trans (by decide)))))
  · exact Or.inr (Or.inr (Or.inr (Or.inl (OwnNum.eqI (q.trans (by decide))))))
  · exact Or.inr (Or.inr (Or.inr (Or.inr (Or.inl (OwnNum.eqI (q.trans (by decide)))))))
  · exact Or.inr (Or.inr (Or.inr (Or.inr (Or.inr (Or.inl (OwnNum.eqI (q.trans (by decide))))))))
  · exact Or.inr (Or.inr (Or.inr (Or.inr (Or.inr (Or.inr (Or.inl (OwnNum.eqI (q.trans (by decide)))))))))
  · exact Or.inr (Or.inr (Or.inr (Or.inr (Or.inr (Or.inr (Or.inr ((OwnNum.eqI (q.trans (by decide))))))))))
theorem d1_0 : decode method_2_code 0 = .ok (.iload_n 0, 1) := by decide +kernel
theorem d1_1 : decode method_2_code 1 = .ok (.bipush 7, 2) := by decide +kernel
theorem d1_3 : decode method_2_code 3 = .ok (.iand, 1) := by decide +kernel
theorem d1_4 : decode method_2_code 4 = .ok (.istore_n 1, 1) := by decide +kernel
theorem d1_5 : decode method_2_code 5 = .ok (.iload_n 1, 1) := by decide +kernel
theorem d1_6 : decode method_2_code 6 = .ok (.ifCond .ne 7, 3) := by decide +kernel
theorem d1_9 : decode method_2_code 9 = .ok (.getstatic 7, 3) := by decide +kernel
theorem d1_12 : decode method_2_code 12 = .ok (.areturn, 1) := by decide +kernel
theorem d1_13 : decode method_2_code 13 = .ok (.iload_n 1, 1) := by decide +kernel
theorem d1_14 : decode method_2_code 14 = .ok (.iconst 1, 1) := by decide +kernel
theorem d1_15 : decode method_2_code 15 = .ok (.if_icmp .ne 7, 3) := by decide +kernel
theorem d1_18 : decode method_2_code 18 = .ok (.getstatic 13, 3) := by decide +kernel
theorem d1_21 : decode method_2_code 21 = .ok (.areturn, 1) := by decide +kernel
theorem d1_22 : decode method_2_code 22 = .ok (.iload_n 1, 1) := by decide +kernel
theorem d1_23 : decode method_2_code 23 = .ok (.iconst 2, 1) := by decide +kernel
theorem d1_24 : decode method_2_code 24 = .ok (.if_icmp .ne 7, 3) := by decide +kernel
theorem d1_27 : decode method_2_code 27 = .ok (.getstatic 16, 3) := by decide +kernel
theorem d1_30 : decode method_2_code 30 = .ok (.areturn, 1) := by decide +kernel
theorem d1_31 : decode method_2_code 31 = .ok (.iload_n 1, 1) := by decide +kernel
theorem d1_32 : decode method_2_code 32 = .ok (.iconst 3, 1) := by decide +kernel
theorem d1_33 : decode method_2_code 33 = .ok (.if_icmp .ne 7, 3) := by decide +kernel
theorem d1_36 : decode method_2_code 36 = .ok (.getstatic 19, 3) := by decide +kernel
theorem d1_39 : decode method_2_code 39 = .ok (.areturn, 1) := by decide +kernel
theorem d1_40 : decode method_2_code 40 = .ok (.iload_n 1, 1) := by decide +kernel
theorem d1_41 : decode method_2_code 41 = .ok (.iconst 4, 1) := by decide +kernel
theorem d1_42 : decode method_2_code 42 = .ok (.if_icmp .ne 7, 3) := by decide +kernel
theorem d1_45 : decode method_2_code 45 = .ok (.getstatic 22, 3) := by decide +kernel
theorem d1_48 : decode method_2_code 48 = .ok (.areturn, 1) := by decide +kernel
theorem d1_49 : decode method_2_code 49 = .ok (.iload_n 1, 1) := by decide +kernel
theorem d1_50 : decode method_2_code 50 = .ok (.iconst 5, 1) := by decide +kernel
theorem d1_51 : decode method_2_code 51 = .ok (.if_icmp .ne 7, 3) := by decide +kernel
theorem d1_54 : decode method_2_code 54 = .ok (.getstatic 25, 3) := by decide +kernel
theorem d1_57 : decode method_2_code 57 = .ok (.areturn, 1) := by decide +kernel
theorem d1_58 : decode method_2_code 58 = .ok (.iload_n 1, 1) := by decide +kernel
theorem d1_59 : decode method_2_code 59 = .ok (.bipush 6, 2) := by decide +kernel
theorem d1_61 : decode method_2_code 61 = .ok (.if_icmp .ne 7, 3) := by decide +kernel
theorem d1_64 : decode method_2_code 64 = .ok (.getstatic 28, 3) := by decide +kernel
theorem d1_67 : decode method_2_code 67 = .ok (.areturn, 1) := by decide +kernel
theorem d1_68 : decode method_2_code 68 = .ok (.getstatic 31, 3) := by decide +kernel
theorem d1_71 : decode method_2_code 71 = .ok (.areturn, 1) := by decide +kernel
theorem pn_0 : plainName "com/example/episodic/episodic/StatementResultChangedPinLaw" = true := by first | (simp [plainName, overriddenIn]; done) | decide +kernel
set_option maxRecDepth 65536 in
set_option maxHeartbeats 4000000 in
theorem c_kindOf (l : Launch) (Z : State) (a0 : Array Value) (hw : ∀ d ∈ tables_1, d.before a0 Z = true) {n0 : Nat} (h : Heap) (k : Int32) (w0 : Addr) (w1 : Addr) (w2 : Addr) (w3 : Addr) (w4 : Addr) (w5 : Addr) (w6 : Addr) (w7 : Addr) (s0 : Sta Z Z.heap "com/example/episodic/episodic/Statement$Kind" "CREATE_TABLE" "Lcom/example/episodic/episodic/Statement$Kind;" (.ref w0)) (s1 : Sta Z Z.heap "com/example/episodic/episodic/Statement$Kind" "DROP_TABLE" "Lcom/example/episodic/episodic/Statement$Kind;" (.ref w1)) (s2 : Sta Z Z.heap "com/example/episodic/episodic/Statement$Kind" "SET_NOW" "Lcom/example/episodic/episodic/Statement$Kind;" (.ref w2)) (s3 : Sta Z Z.heap "com/example/episodic/episodic/Statement$Kind" "INSERT" "Lcom/example/episodic/episodic/Statement$Kind;" (.ref w3)) (s4 : Sta Z Z.heap "com/example/episodic/episodic/Statement$Kind" "UPDATE" "Lcom/example/episodic/episodic/Statement$Kind;" (.ref w4)) (s5 : Sta Z Z.heap "com/example/episodic/episodic/Statement$Kind" "DELETE" "Lcom/example/episodic/episodic/Statement$Kind;" (.ref w5)) (s6 : Sta Z Z.heap "com/example/episodic/episodic/Statement$Kind" "SELECT" "Lcom/example/episodic/episodic/Statement$Kind;" (.ref w6)) (s7 : Sta Z Z.heap "com/example/episodic/episodic/Statement$Kind" "SHOW_ROWS" "Lcom/example/episodic/episodic/Statement$Kind;" (.ref w7)) :
    Con l (⟨"com/example/episodic/episodic/StatementResultChangedPinLaw", "kindOf", "(I)Lcom/example/episodic/episodic/Statement$Kind;"⟩ : MethodName) method_2_code 2 (some (.object "com/example/episodic/episodic/Statement$Kind")) ({ frames := 0, cells := 0, slots := 0, locals := 0 } : Room) Z n0 #[(.int k)] h (fun v h' => ∃ a : Addr, v = some (.ref a) ∧ h = h') := by
  refine Con.of_go (plainFor_of_name pn_0) (Ls := #[.val (.int k), .unset]) (fun m => by first | (simp [entryFrame, mkF, argsToLocals, Value.category]; done) | rfl) ?_
  refine Go.iloadN (pc' := 1) d1_0 rfl rfl ?_
  refine Go.bipush (pc' := 3) (v := (7 : Int32)) d1_1 rfl rfl ?_
  refine Go.iand (pc' := 4) d1_3 rfl ?_
  refine Go.istoreN (pc' := 5) (Ls' := #[.val (.int k), .val (.int (k &&& (7 : Int32)))]) d1_4 rfl rfl ?_
  obtain hk1 | hk1 | hk1 | hk1 | hk1 | hk1 | hk1 | hk1 := own_and7 k
  ·
    rw [hk1]
    refine Go.iloadN (pc' := 6) d1_5 rfl rfl ?_
    refine Go.ifNo (pc' := 9) d1_6 (XT.i0_ne_f (by decide)) rfl ?_
    refine Go.old (fun old2 => ?_)
    refine Go.getstatic (pc' := 12) (host := "") (Or.inl (hw _ (List.mem_of_getElem? (i := 4) rfl))) Via.refl (s0.ext old2.2) d1_9 rfl ?_
    exact Go.retR rfl rfl rfl rfl d1_12 ⟨w0, rfl, rfl⟩ (by decide) (by decide)
  ·
    rw [hk1]
    refine Go.iloadN (pc' := 6) d1_5 rfl rfl ?_
    refine Go.ifYes (pc' := 13) d1_6 (XT.i0_ne_t (by decide)) (by decide) (by decide) ?_
    refine Go.iloadN (pc' := 14) d1_13 rfl rfl ?_
    refine Go.iconst (pc' := 15) (v := (1 : Int32)) d1_14 rfl rfl ?_
    refine Go.icmpNo (pc' := 18) d1_15 (XT.ii_ne_f (by decide)) rfl ?_
    refine Go.old (fun old3 => ?_)
    refine Go.getstatic (pc' := 21) (host := "") (Or.inl (hw _ (List.mem_of_getElem? (i := 71) rfl))) Via.refl (s1.ext old3.2) d1_18 rfl ?_
    exact Go.retR rfl rfl rfl rfl d1_21 ⟨w1, rfl, rfl⟩ (by decide) (by decide)
  ·
    rw [hk1]
    refine Go.iloadN (pc' := 6) d1_5 rfl rfl ?_
    refine Go.ifYes (pc' := 13) d1_6 (XT.i0_ne_t (by decide)) (by decide) (by decide) ?_
    refine Go.iloadN (pc' := 14) d1_13 rfl rfl ?_
    refine Go.iconst (pc' := 15) (v := (1 : Int32)) d1_14 rfl rfl ?_
    refine Go.icmpYes (pc' := 22) d1_15 (XT.ii_ne_t (by decide)) (by decide) (by decide) ?_
    refine Go.iloadN (pc' := 23) d1_22 rfl rfl ?_
    refine Go.iconst (pc' := 24) (v := (2 : Int32)) d1_23 rfl rfl ?_
    refine Go.icmpNo (pc' := 27) d1_24 (XT.ii_ne_f (by decide)) rfl ?_
    refine Go.old (fun old4 => ?_)
    refine Go.getstatic (pc' := 30) (host := "") (Or.inl (hw _ (List.mem_of_getElem? (i := 77) rfl))) Via.refl (s2.ext old4.2) d1_27 rfl ?_
    exact Go.retR rfl rfl rfl rfl d1_30 ⟨w2, rfl, rfl⟩ (by decide) (by decide)
  ·
    rw [hk1]
    refine Go.iloadN (pc' := 6) d1_5 rfl rfl ?_
    refine Go.ifYes (pc' := 13) d1_6 (XT.i0_ne_t (by decide)) (by decide) (by decide) ?_
    refine Go.iloadN (pc' := 14) d1_13 rfl rfl ?_
    refine Go.iconst (pc' := 15) (v := (1 : Int32)) d1_14 rfl rfl ?_
    refine Go.icmpYes (pc' := 22) d1_15 (XT.ii_ne_t (by decide)) (by decide) (by decide) ?_
    refine Go.iloadN (pc' := 23) d1_22 rfl rfl ?_
    refine Go.iconst (pc' := 24) (v := (2 : Int32)) d1_23 rfl rfl ?_
    refine Go.icmpYes (pc' := 31) d1_24 (XT.ii_ne_t (by decide)) (by decide) (by decide) ?_
    refine Go.iloadN (pc' := 32) d1_31 rfl rfl ?_
    refine Go.iconst (pc' := 33) (v := (3 : Int32)) d1_32 rfl rfl ?_
    refine Go.icmpNo (pc' := 36) d1_33 (XT.ii_ne_f (by decide)) rfl ?_
    refine Go.old (fun old5 => ?_)
    refine Go.getstatic (pc' := 39) (host := "") (Or.inl (hw _ (List.mem_of_getElem? (i := 79) rfl))) Via.refl (s3.ext old5.2) d1_36 rfl ?_
    exact Go.retR rfl rfl rfl rfl d1_39 ⟨w3, rfl, rfl⟩ (by decide) (by decide)
  ·
    rw [hk1]
    refine Go.iloadN (pc' := 6) d1_5 rfl rfl ?_
    refine Go.ifYes (pc' := 13) d1_6 (XT.i0_ne_t (by decide)) (by decide) (by decide) ?_
    refine Go.iloadN (pc' := 14) d1_13 rfl rfl ?_
    refine Go.iconst (pc' := 15) (v := (1 : Int32)) d1_14 rfl rfl ?_
    refine Go.icmpYes (pc' := 22) d1_15 (XT.ii_ne_t (by decide)) (by decide) (by decide) ?_
    refine Go.iloadN (pc' := 23) d1_22 rfl rfl ?_
    refine Go.iconst (pc' := 24) (v := (2 : Int32)) d1_23 rfl rfl ?_
    refine Go.icmpYes (pc' := 31) d1_24 (XT.ii_ne_t (by decide)) (by decide) (by decide) ?_
    refine Go.iloadN (pc' := 32) d1_31 rfl rfl ?_
    refine Go.iconst (pc' := 33) (v := (3 : Int32)) d1_32 rfl rfl ?_
    refine Go.icmpYes (pc' := 40) d1_33 (XT.ii_ne_t (by decide)) (by decide) (by decide) ?_
    refine Go.iloadN (pc' := 41) d1_40 rfl rfl ?_
    refine Go.iconst (pc' := 42) (v := (4 : Int32)) d1_41 rfl rfl ?_
    refine Go.icmpNo (pc' := 45) d1_42 (XT.ii_ne_f (by decide)) rfl ?_
    refine Go.old (fun old6 => ?_)
    refine Go.getstatic (pc' := 48) (host := "") (Or.inl (hw _ (List.mem_of_getElem? (i := 73) rfl))) Via.refl (s4.ext old6.2) d1_45 rfl ?_
    exact Go.retR rfl rfl rfl rfl d1_48 ⟨w4, rfl, rfl⟩ (by decide) (by decide)
  ·
    rw [hk1]
    refine Go.iloadN (pc' := 6) d1_5 rfl rfl ?_
    refine Go.ifYes (pc' := 13) d1_6 (XT.i0_ne_t (by decide)) (by decide) (by decide) ?_
    refine Go.iloadN (pc' := 14) d1_13 rfl rfl ?_
    refine Go.iconst (pc' := 15) (v := (1 : Int32)) d1_14 rfl rfl ?_
    refine Go.icmpYes (pc' := 22) d1_15 (XT.ii_ne_t (by decide)) (by decide) (by decide) ?_
    refine Go.iloadN (pc' := 23) d1_22 rfl rfl ?_
    refine Go.iconst (pc' := 24) (v := (2 : Int32)) d1_23 rfl rfl ?_
    refine Go.icmpYes (pc' := 31) d1_24 (XT.ii_ne_t (by decide)) (by decide) (by decide) ?_
    refine Go.iloadN (pc' := 32) d1_31 rfl rfl ?_
    refine Go.iconst (pc' := 33) (v := (3 : Int32)) d1_32 rfl rfl ?_
    refine Go.icmpYes (pc' := 40) d1_33 (XT.ii_ne_t (by decide)) (by decide) (by decide) ?_
    refine Go.iloadN (pc' := 41) d1_40 rfl rfl ?_
    refine Go.iconst (pc' := 42) (v := (4 : Int32)) d1_41 rfl rfl ?_
    refine Go.icmpYes (pc' := 49) d1_42 (XT.ii_ne_t (by decide)) (by decide) (by decide) ?_
    refine Go.iloadN (pc' := 50) d1_49 rfl rfl ?_
    refine Go.iconst (pc' := 51) (v := (5 : Int32)) d1_50 rfl rfl ?_
    refine Go.icmpNo (pc' := 54) d1_51 (XT.ii_ne_f (by decide)) rfl ?_
    refine Go.old (fun old7 => ?_)
    refine Go.getstatic (pc' := 57) (host := "") (Or.inl (hw _ (List.mem_of_getElem? (i := 81) rfl))) Via.refl (s5.ext old7.2) d1_54 rfl ?_
    exact Go.retR rfl rfl rfl rfl d1_57 ⟨w5, rfl, rfl⟩ (by decide) (by decide)
  ·
    rw [hk1]
    refine Go.iloadN (pc' := 6) d1_5 rfl rfl ?_
    refine Go.ifYes (pc' := 13) d1_6 (XT.i0_ne_t (by decide)) (by decide) (by decide) ?_
    refine Go.iloadN (pc' := 14) d1_13 rfl rfl ?_
    refine Go.iconst (pc' := 15) (v := (1 : Int32)) d1_14 rfl rfl ?_
    refine Go.icmpYes (pc' := 22) d1_15 (XT.ii_ne_t (by decide)) (by decide) (by decide) ?_
    refine Go.iloadN (pc' := 23) d1_22 rfl rfl ?_
    refine Go.iconst (pc' := 24) (v := (2 : Int32)) d1_23 rfl rfl ?_
    refine Go.icmpYes (pc' := 31) d1_24 (XT.ii_ne_t (by decide)) (by decide) (by decide) ?_
    refine Go.iloadN (pc' := 32) d1_31 rfl rfl ?_
    refine Go.iconst (pc' := 33) (v := (3 : Int32)) d1_32 rfl rfl ?_
    refine Go.icmpYes (pc' := 40) d1_33 (XT.ii_ne_t (by decide)) (by decide) (by decide) ?_
    refine Go.iloadN (pc' := 41) d1_40 rfl rfl ?_
    refine Go.iconst (pc' := 42) (v := (4 : Int32)) d1_41 rfl rfl ?_
    refine Go.icmpYes (pc' := 49) d1_42 (XT.ii_ne_t (by decide)) (by decide) (by decide) ?_
    refine Go.iloadN (pc' := 50) d1_49 rfl rfl ?_
    refine Go.iconst (pc' := 51) (v := (5 : Int32)) d1_50 rfl rfl ?_
    refine Go.icmpYes (pc' := 58) d1_51 (XT.ii_ne_t (by decide)) (by decide) (by decide) ?_
    refine Go.iloadN (pc' := 59) d1_58 rfl rfl ?_
    refine Go.bipush (pc' := 61) (v := (6 : Int32)) d1_59 rfl rfl ?_
    refine Go.icmpNo (pc' := 64) d1_61 (XT.ii_ne_f (by decide)) rfl ?_
    refine Go.old (fun old8 => ?_)
    refine Go.getstatic (pc' := 67) (host := "") (Or.inl (hw _ (List.mem_of_getElem? (i := 83) rfl))) Via.refl (s6.ext old8.2) d1_64 rfl ?_
    exact Go.retR rfl rfl rfl rfl d1_67 ⟨w6, rfl, rfl⟩ (by decide) (by decide)
  ·
    rw [hk1]
    refine Go.iloadN (pc' := 6) d1_5 rfl rfl ?_
    refine Go.ifYes (pc' := 13) d1_6 (XT.i0_ne_t (by decide)) (by decide) (by decide) ?_
    refine Go.iloadN (pc' := 14) d1_13 rfl rfl ?_
    refine Go.iconst (pc' := 15) (v := (1 : Int32)) d1_14 rfl rfl ?_
    refine Go.icmpYes (pc' := 22) d1_15 (XT.ii_ne_t (by decide)) (by decide) (by decide) ?_
    refine Go.iloadN (pc' := 23) d1_22 rfl rfl ?_
    refine Go.iconst (pc' := 24) (v := (2 : Int32)) d1_23 rfl rfl ?_
    refine Go.icmpYes (pc' := 31) d1_24 (XT.ii_ne_t (by decide)) (by decide) (by decide) ?_
    refine Go.iloadN (pc' := 32) d1_31 rfl rfl ?_
    refine Go.iconst (pc' := 33) (v := (3 : Int32)) d1_32 rfl rfl ?_
    refine Go.icmpYes (pc' := 40) d1_33 (XT.ii_ne_t (by decide)) (by decide) (by decide) ?_
    refine Go.iloadN (pc' := 41) d1_40 rfl rfl ?_
    refine Go.iconst (pc' := 42) (v := (4 : Int32)) d1_41 rfl rfl ?_
    refine Go.icmpYes (pc' := 49) d1_42 (XT.ii_ne_t (by decide)) (by decide) (by decide) ?_
    refine Go.iloadN (pc' := 50) d1_49 rfl rfl ?_
    refine Go.iconst (pc' := 51) (v := (5 : Int32)) d1_50 rfl rfl ?_
    refine Go.icmpYes (pc' := 58) d1_51 (XT.ii_ne_t (by decide)) (by decide) (by decide) ?_
    refine Go.iloadN (pc' := 59) d1_58 rfl rfl ?_
    refine Go.bipush (pc' := 61) (v := (6 : Int32)) d1_59 rfl rfl ?_
    refine Go.icmpYes (pc' := 68) d1_61 (XT.ii_ne_t (by decide)) (by decide) (by decide) ?_
    refine Go.old (fun old9 => ?_)
    refine Go.getstatic (pc' := 71) (host := "") (Or.inl (hw _ (List.mem_of_getElem? (i := 75) rfl))) Via.refl (s7.ext old9.2) d1_68 rfl ?_
    exact Go.retR rfl rfl rfl rfl d1_71 ⟨w7, rfl, rfl⟩ (by decide) (by decide)
theorem d4_0 : decode jdk_30_method_1_code 0 = .ok (.aload_n 0, 1) := by decide +kernel
theorem d4_1 : decode jdk_30_method_1_code 1 = .ok (.invokespecial 1, 3) := by decide +kernel
theorem d4_4 : decode jdk_30_method_1_code 4 = .ok (.return_, 1) := by decide +kernel
theorem pn_1 : plainName "java/lang/Record" = true := by first | (simp [plainName, overriddenIn]; done) | decide +kernel
set_option maxRecDepth 65536 in
set_option maxHeartbeats 4000000 in
theorem c_record (l : Launch) (Z : State) (a0 : Array Value) (hw : ∀ d ∈ tables_1, d.before a0 Z = true) {n0 : Nat} (h : Heap) (a : Addr) :
    Con l (⟨"java/lang/Record", "<init>", "()V"⟩ : MethodName) jdk_30_method_1_code 1 none ({ frames := 1, cells := 0, slots := 0, locals := 12 } : Room) Z n0 #[(.ref a)] h (fun v h' => v = none ∧ h = h') := by
  refine Con.of_go (plainFor_of_name pn_1) (Ls := #[.val (.ref a)]) (fun m => by first | (simp [entryFrame, mkF, argsToLocals, Value.category]; done) | rfl) ?_
  refine Go.aloadN (pc' := 1) d4_0 rfl rfl rfl ?_
  refine Go.initO (pc' := 4) (hw _ (List.mem_of_getElem? (i := 21) rfl)) (hw _ (List.mem_of_getElem? (i := 22) rfl)) (hw _ (List.mem_of_getElem? (i := 23) rfl)) d4_1 rfl (Nat.le_of_ble_eq_true rfl) (Nat.le_of_ble_eq_true rfl) rfl ?_
  exact Go.retV rfl d4_4 ⟨rfl, rfl⟩ (by decide) (by decide)
theorem d3_0 : decode prog_42_method_1_code 0 = .ok (.aload_n 0, 1) := by decide +kernel
theorem d3_1 : decode prog_42_method_1_code 1 = .ok (.invokespecial 1, 3) := by decide +kernel
theorem d3_4 : decode prog_42_method_1_code 4 = .ok (.aload_n 0, 1) := by decide +kernel
theorem d3_5 : decode prog_42_method_1_code 5 = .ok (.aload_n 1, 1) := by decide +kernel
theorem d3_6 : decode prog_42_method_1_code 6 = .ok (.putfield 7, 3) := by decide +kernel
theorem d3_9 : decode prog_42_method_1_code 9 = .ok (.aload_n 0, 1) := by decide +kernel
theorem d3_10 : decode prog_42_method_1_code 10 = .ok (.aload_n 2, 1) := by decide +kernel
theorem d3_11 : decode prog_42_method_1_code 11 = .ok (.putfield 13, 3) := by decide +kernel
theorem d3_14 : decode prog_42_method_1_code 14 = .ok (.aload_n 0, 1) := by decide +kernel
theorem d3_15 : decode prog_42_method_1_code 15 = .ok (.aload_n 3, 1) := by decide +kernel
theorem d3_16 : decode prog_42_method_1_code 16 = .ok (.putfield 17, 3) := by decide +kernel
theorem d3_19 : decode prog_42_method_1_code 19 = .ok (.aload_n 0, 1) := by decide +kernel
theorem d3_20 : decode prog_42_method_1_code 20 = .ok (.iload 4, 2) := by decide +kernel
theorem d3_22 : decode prog_42_method_1_code 22 = .ok (.putfield 21, 3) := by decide +kernel
theorem d3_25 : decode prog_42_method_1_code 25 = .ok (.aload_n 0, 1) := by decide +kernel
theorem d3_26 : decode prog_42_method_1_code 26 = .ok (.iload 5, 2) := by decide +kernel
theorem d3_28 : decode prog_42_method_1_code 28 = .ok (.putfield 25, 3) := by decide +kernel
theorem d3_31 : decode prog_42_method_1_code 31 = .ok (.aload_n 0, 1) := by decide +kernel
theorem d3_32 : decode prog_42_method_1_code 32 = .ok (.aload 6, 2) := by decide +kernel
theorem d3_34 : decode prog_42_method_1_code 34 = .ok (.putfield 28, 3) := by decide +kernel
theorem d3_37 : decode prog_42_method_1_code 37 = .ok (.return_, 1) := by decide +kernel
theorem pd_0 : parseMethodDescriptor "()V" = some ⟨[], none⟩ := by decide +kernel
theorem pn_2 : plainName "com/example/episodic/episodic/StatementResult" = true := by first | (simp [plainName, overriddenIn]; done) | decide +kernel
set_option maxRecDepth 65536 in
set_option maxHeartbeats 4000000 in
theorem c_init (l : Launch) (Z : State) (a0 : Array Value) (hw : ∀ d ∈ tables_1, d.before a0 Z = true) {n0 : Nat} (h : Heap) (a : Addr) (kd : Addr) (p : Int32) (q : Int32) (ge_a : n0 ≤ a) (e0 : Exa Z h a "com/example/episodic/episodic/StatementResult") (f_kind : Fld Z h a "com/example/episodic/episodic/StatementResult" "kind" "Lcom/example/episodic/episodic/Statement$Kind;" .null) (f_errorClass : Fld Z h a "com/example/episodic/episodic/StatementResult" "errorClass" "Lcom/example/episodic/episodic/ErrorClass;" .null) (f_message : Fld Z h a "com/example/episodic/episodic/StatementResult" "message" "Ljava/lang/String;" .null) (f_withdrawn : Fld Z h a "com/example/episodic/episodic/StatementResult" "withdrawn" "I" (.int (0 : Int32))) (f_created : Fld Z h a "com/example/episodic/episodic/StatementResult" "created" "I" (.int (0 : Int32))) (f_rows : Fld Z h a "com/example/episodic/episodic/StatementResult" "rows" "Lcom/example/episodic/episodic/Rows;" .null) :
    Con l (⟨"com/example/episodic/episodic/StatementResult", "<init>", "(Lcom/example/episodic/episodic/Statement$Kind;Lcom/example/episodic/episodic/ErrorClass;Ljava/lang/String;IILcom/example/episodic/episodic/Rows;)V"⟩ : MethodName) prog_42_method_1_code 7 none ({ frames := 2, cells := 0, slots := 0, locals := 24 } : Room) Z n0 #[(.ref a), (.ref kd), .null, .null, (.int p), (.int q), .null] h (fun v h' => v = none ∧ Keep h h' [a] ∧ Fld Z h' a "com/example/episodic/episodic/StatementResult" "kind" "Lcom/example/episodic/episodic/Statement$Kind;" (.ref kd) ∧ Fld Z h' a "com/example/episodic/episodic/StatementResult" "errorClass" "Lcom/example/episodic/episodic/ErrorClass;" .null ∧ Fld Z h' a "com/example/episodic/episodic/StatementResult" "message" "Ljava/lang/String;" .null ∧ Fld Z h' a "com/example/episodic/episodic/StatementResult" "withdrawn" "I" (.int p) ∧ Fld Z h' a "com/example/episodic/episodic/StatementResult" "created" "I" (.int q) ∧ Fld Z h' a "com/example/episodic/episodic/StatementResult" "rows" "Lcom/example/episodic/episodic/Rows;" .null) := by
  refine Con.of_go (plainFor_of_name pn_2) (Ls := #[.val (.ref a), .val (.ref kd), .val .null, .val .null, .val (.int p), .val (.int q), .val .null]) (fun m => by first | (simp [entryFrame, mkF, argsToLocals, Value.category]; done) | rfl) ?_
  refine Go.aloadN (pc' := 1) d3_0 rfl rfl rfl ?_
  refine Go.callC (cells' := 0) (slots' := 0) (pc' := 4) [] [] (a := a) rfl rfl (hw _ (List.mem_of_getElem? (i := 16) rfl)) (hw _ (List.mem_of_getElem? (i := 17) rfl)) (hw _ (List.mem_of_getElem? (i := 19) rfl)) (hw _ (List.mem_of_getElem? (i := 20) rfl)) (by decide) (c_record l Z a0 hw h a) pd_0 rfl rfl rfl rfl rfl (Nat.le_of_ble_eq_true rfl) (Nat.le_of_ble_eq_true rfl) (Nat.le_of_ble_eq_true rfl) (Nat.le_of_ble_eq_true rfl) d3_1 rfl ?_
  rintro _ _ ⟨rfl, rfl⟩
  show Go _ _ _ _ _ _ _ _ _ _ _ _ 4 #[.val (.ref a), .val (.ref kd), .val .null, .val .null, .val (.int p), .val (.int q), .val .null] []
  refine Go.aloadN (pc' := 5) d3_4 rfl rfl rfl ?_
  refine Go.aloadN (pc' := 6) d3_5 rfl rfl rfl ?_
  refine Go.putfield (pc' := 9) (host := "") (Or.inl (hw _ (List.mem_of_getElem? (i := 24) rfl))) Via.refl f_kind e0 (Or.inr ⟨(hw _ (List.mem_of_getElem? (i := 25) rfl)), rfl, rfl⟩) (hw _ (List.mem_of_getElem? (i := 12) rfl)) (ty := (.object "com/example/episodic/episodic/Statement$Kind")) (by decide) rfl rfl ge_a d3_6 rfl ?_
  intro h2 W3
  have K4 : Keep h h2 [a] := (Keep.refl h [a]).wr W3 (Or.inl (List.mem_of_getElem? (i := 0) rfl))
  have f5 := f_kind.same W3
  refine Go.aloadN (pc' := 10) d3_9 rfl rfl rfl ?_
  refine Go.aloadN (pc' := 11) d3_10 rfl rfl rfl ?_
  have f6 : Fld Z h2 a "com/example/episodic/episodic/StatementResult" "errorClass" "Lcom/example/episodic/episodic/ErrorClass;" .null := (f_errorClass.other W3 (Or.inr (slot_ne (Or.inr (hw _ (List.mem_of_getElem? (i := 27) rfl))) (Or.inr (hw _ (List.mem_of_getElem? (i := 25) rfl))) (by decide) (t := (.object "com/example/episodic/episodic/ErrorClass")) (t' := (.object "com/example/episodic/episodic/Statement$Kind")) (by decide) (by decide))))
  refine Go.putfield (pc' := 14) (host := "") (Or.inl (hw _ (List.mem_of_getElem? (i := 26) rfl))) Via.refl f6 (e0.wr W3) (Or.inr ⟨(hw _ (List.mem_of_getElem? (i := 27) rfl)), rfl, rfl⟩) (hw _ (List.mem_of_getElem? (i := 12) rfl)) (ty := (.object "com/example/episodic/episodic/ErrorClass")) (by decide) rfl rfl ge_a d3_11 rfl ?_
  intro h7 W8
  have K9 : Keep h h7 [a] := K4.wr W8 (Or.inl (List.mem_of_getElem? (i := 0) rfl))
  have f10 := f6.same W8
  refine Go.aloadN (pc' := 15) d3_14 rfl rfl rfl ?_
  refine Go.aloadN (pc' := 16) d3_15 rfl rfl rfl ?_
  have f11 : Fld Z h7 a "com/example/episodic/episodic/StatementResult" "message" "Ljava/lang/String;" .null := ((f_message.other W3 (Or.inr (slot_ne (Or.inr (hw _ (List.mem_of_getElem? (i := 29) rfl))) (Or.inr (hw _ (List.mem_of_getElem? (i := 25) rfl))) (by decide) (t := (.object "java/lang/String")) (t' := (.object "com/example/episodic/episodic/Statement$Kind")) (by decide) (by decide)))).other W8 (Or.inr (slot_ne (Or.inr (hw _ (List.mem_of_getElem? (i := 29) rfl))) (Or.inr (hw _ (List.mem_of_getElem? (i := 27) rfl))) (by decide) (t := (.object "java/lang/String")) (t' := (.object "com/example/episodic/episodic/ErrorClass")) (by decide) (by decide))))
  refine Go.putfield (pc' := 19) (host := "") (Or.inl (hw _ (List.mem_of_getElem? (i := 28) rfl))) Via.refl f11 ((e0.wr W3).wr W8) (Or.inr ⟨(hw _ (List.mem_of_getElem? (i := 29) rfl)), rfl, rfl⟩) (hw _ (List.mem_of_getElem? (i := 12) rfl)) (ty := (.object "java/lang/String")) (by decide) rfl rfl ge_a d3_16 rfl ?_
  intro h12 W13
  have K14 : Keep h h12 [a] := K9.wr W13 (Or.inl (List.mem_of_getElem? (i := 0) rfl))
  have f15 := f11.same W13
  refine Go.aloadN (pc' := 20) d3_19 rfl rfl rfl ?_
  refine Go.iload (pc' := 22) d3_20 rfl rfl ?_
  have f16 : Fld Z h12 a "com/example/episodic/episodic/StatementResult" "withdrawn" "I" (.int (0 : Int32)) := (((f_withdrawn.other W3 (Or.inr (slot_ne (Or.inr (hw _ (List.mem_of_getElem? (i := 31) rfl))) (Or.inr (hw _ (List.mem_of_getElem? (i := 25) rfl))) (by decide) (t := .int) (t' := (.object "com/example/episodic/episodic/Statement$Kind")) (by decide) (by decide)))).other W8 (Or.inr (slot_ne (Or.inr (hw _ (List.mem_of_getElem? (i := 31) rfl))) (Or.inr (hw _ (List.mem_of_getElem? (i := 27) rfl))) (by decide) (t := .int) (t' := (.object "com/example/episodic/episodic/ErrorClass")) (by decide) (by decide)))).other W13 (Or.inr (slot_ne (Or.inr (hw _ (List.mem_of_getElem? (i := 31) rfl))) (Or.inr (hw _ (List.mem_of_getElem? (i := 29) rfl))) (by decide) (t := .int) (t' := (.object "java/lang/String")) (by decide) (by decide))))
  refine Go.putfield (pc' := 25) (host := "") (Or.inl (hw _ (List.mem_of_getElem? (i := 30) rfl))) Via.refl f16 (((e0.wr W3).wr W8).wr W13) (Or.inr ⟨(hw _ (List.mem_of_getElem? (i := 31) rfl)), rfl, rfl⟩) (hw _ (List.mem_of_getElem? (i := 12) rfl)) (ty := .int) (by decide) rfl rfl ge_a d3_22 rfl ?_
  intro h17 W18
  have K19 : Keep h h17 [a] := K14.wr W18 (Or.inl (List.mem_of_getElem? (i := 0) rfl))
  have f20 := f16.same W18
  refine Go.aloadN (pc' := 26) d3_25 rfl rfl rfl ?_
  refine Go.iload (pc' := 28) d3_26 rfl rfl ?_
  have f21 : Fld Z h17 a "com/example/episodic/episodic/StatementResult" "created" "I" (.int (0 : Int32)) := ((((f_created.other W3 (Or.inr (slot_ne (Or.inr (hw _ (List.mem_of_getElem? (i := 33) rfl))) (Or.inr (hw _ (List.mem_of_getElem? (i := 25) rfl))) (by decide) (t := .int) (t' := (.object "com/example/episodic/episodic/Statement$Kind")) (by decide) (by decide)))).other W8 (Or.inr (slot_ne (Or.inr (hw _ (List.mem_of_getElem? (i := 33) rfl))) (Or.inr (hw _ (List.mem_of_getElem? (i := 27) rfl))) (by decide) (t := .int) (t' := (.object "com/example/episodic/episodic/ErrorClass")) (by decide) (by decide)))).other W13 (Or.inr (slot_ne (Or.inr (hw _ (List.mem_of_getElem? (i := 33) rfl))) (Or.inr (hw _ (List.mem_of_getElem? (i := 29) rfl))) (by decide) (t := .int) (t' := (.object "java/lang/String")) (by decide) (by decide)))).other W18 (Or.inr (slot_ne (Or.inr (hw _ (List.mem_of_getElem? (i := 33) rfl))) (Or.inr (hw _ (List.mem_of_getElem? (i := 31) rfl))) (by decide) (t := .int) (t' := .int) (by decide) (by decide))))
  refine Go.putfield (pc' := 31) (host := "") (Or.inl (hw _ (List.mem_of_getElem? (i := 32) rfl))) Via.refl f21 ((((e0.wr W3).wr W8).wr W13).wr W18) (Or.inr ⟨(hw _ (List.mem_of_getElem? (i := 33) rfl)), rfl, rfl⟩) (hw _ (List.mem_of_getElem? (i := 12) rfl)) (ty := .int) (by decide) rfl rfl ge_a d3_28 rfl ?_
  intro h22 W23
  have K24 : Keep h h22 [a] := K19.wr W23 (Or.inl (List.mem_of_getElem? (i := 0) rfl))
  have f25 := f21.same W23
  refine Go.aloadN (pc' := 32) d3_31 rfl rfl rfl ?_
  refine Go.aload (pc' := 34) d3_32 rfl rfl rfl ?_
  have f26 : Fld Z h22 a "com/example/episodic/episodic/StatementResult" "rows" "Lcom/example/episodic/episodic/Rows;" .null := (((((f_rows.other W3 (Or.inr (slot_ne (Or.inr (hw _ (List.mem_of_getElem? (i := 35) rfl))) (Or.inr (hw _ (List.mem_of_getElem? (i := 25) rfl))) (by decide) (t := (.object "com/example/episodic/episodic/Rows")) (t' := (.object "com/example/episodic/episodic/Statement$Kind")) (by decide) (by decide)))).other W8 (Or.inr (slot_ne (Or.inr (hw _ (List.mem_of_getElem? (i := 35) rfl))) (Or.inr (hw _ (List.mem_of_getElem? (i := 27) rfl))) (by decide) (t := (.object "com/example/episodic/episodic/Rows")) (t' := (.object "com/example/episodic/episodic/ErrorClass")) (by decide) (by decide)))).other W13 (Or.inr (slot_ne (Or.inr (hw _ (List.mem_of_getElem? (i := 35) rfl))) (Or.inr (hw _ (List.mem_of_getElem? (i := 29) rfl))) (by decide) (t := (.object "com/example/episodic/episodic/Rows")) (t' := (.object "java/lang/String")) (by decide) (by decide)))).other W18 (Or.inr (slot_ne (Or.inr (hw _ (List.mem_of_getElem? (i := 35) rfl))) (Or.inr (hw _ (List.mem_of_getElem? (i := 31) rfl))) (by decide) (t := (.object "com/example/episodic/episodic/Rows")) (t' := .int) (by decide) (by decide)))).other W23 (Or.inr (slot_ne (Or.inr (hw _ (List.mem_of_getElem? (i := 35) rfl))) (Or.inr (hw _ (List.mem_of_getElem? (i := 33) rfl))) (by decide) (t := (.object "com/example/episodic/episodic/Rows")) (t' := .int) (by decide) (by decide))))
  have f27 : Exa Z h22 a "com/example/episodic/episodic/StatementResult" := (((((e0.wr W3).wr W8).wr W13).wr W18).wr W23)
  refine Go.putfield (pc' := 37) (host := "") (Or.inl (hw _ (List.mem_of_getElem? (i := 34) rfl))) Via.refl f26 f27 (Or.inr ⟨(hw _ (List.mem_of_getElem? (i := 35) rfl)), rfl, rfl⟩) (hw _ (List.mem_of_getElem? (i := 12) rfl)) (ty := (.object "com/example/episodic/episodic/Rows")) (by decide) rfl rfl ge_a d3_34 rfl ?_
  intro h28 W29
  have K30 : Keep h h28 [a] := K24.wr W29 (Or.inl (List.mem_of_getElem? (i := 0) rfl))
  have f31 := f26.same W29
  have f32 : Fld Z h28 a "com/example/episodic/episodic/StatementResult" "kind" "Lcom/example/episodic/episodic/Statement$Kind;" (.ref kd) := (((((f5.other W8 (Or.inr (slot_ne (Or.inr (hw _ (List.mem_of_getElem? (i := 25) rfl))) (Or.inr (hw _ (List.mem_of_getElem? (i := 27) rfl))) (by decide) (t := (.object "com/example/episodic/episodic/Statement$Kind")) (t' := (.object "com/example/episodic/episodic/ErrorClass")) (by decide) (by decide)))).other W13 (Or.inr (slot_ne (Or.inr (hw _ (List.mem_of_getElem? (i := 25) rfl))) (Or.inr (hw _ (List.mem_of_getElem? (i := 29) rfl))) (by decide) (t := (.object "com/example/episodic/episodic/Statement$Kind")) (t' := (.object "java/lang/String")) (by decide) (by decide)))).other W18 (Or.inr (slot_ne (Or.inr (hw _ (List.mem_of_getElem? (i := 25) rfl))) (Or.inr (hw _ (List.mem_of_getElem? (i := 31) rfl))) (by decide) (t := (.object "com/example/episodic/episodic/Statement$Kind")) (t' := .int) (by decide) (by decide)))).other W23 (Or.inr (slot_ne (Or.inr (hw _ (List.mem_of_getElem? (i := 25) rfl))) (Or.inr (hw _ (List.mem_of_getElem? (i := 33) rfl))) (by decide) (t := (.object "com/example/episodic/episodic/Statement$Kind")) (t' := .int) (by decide) (by decide)))).other W29 (Or.inr (slot_ne (Or.inr (hw _ (List.mem_of_getElem? (i := 25) rfl))) (Or.inr (hw _ (List.mem_of_getElem? (i := 35) rfl))) (by decide) (t := (.object "com/example/episodic/episodic/Statement$Kind")) (t' := (.object "com/example/episodic/episodic/Rows")) (by decide) (by decide))))
  have f33 : Fld Z h28 a "com/example/episodic/episodic/StatementResult" "errorClass" "Lcom/example/episodic/episodic/ErrorClass;" .null := ((((f10.other W13 (Or.inr (slot_ne (Or.inr (hw _ (List.mem_of_getElem? (i := 27) rfl))) (Or.inr (hw _ (List.mem_of_getElem? (i := 29) rfl))) (by decide) (t := (.object "com/example/episodic/episodic/ErrorClass")) (t' := (.object "java/lang/String")) (by decide) (by decide)))).other W18 (Or.inr (slot_ne (Or.inr (hw _ (List.mem_of_getElem? (i := 27) rfl))) (Or.inr (hw _ (List.mem_of_getElem? (i := 31) rfl))) (by decide) (t := (.object "com/example/episodic/episodic/ErrorClass")) (t' := .int) (by decide) (by decide)))).other W23 (Or.inr (slot_ne (Or.inr (hw _ (List.mem_of_getElem? (i := 27) rfl))) (Or.inr (hw _ (List.mem_of_getElem? (i := 33) rfl))) (by decide) (t := (.object "com/example/episodic/episodic/ErrorClass")) (t' := .int) (by decide) (by decide)))).other W29 (Or.inr (slot_ne (Or.inr (hw _ (List.mem_of_getElem? (i := 27) rfl))) (Or.inr (hw _ (List.mem_of_getElem? (i := 35) rfl))) (by decide) (t := (.object "com/example/episodic/episodic/ErrorClass")) (t' := (.object "com/example/episodic/episodic/Rows")) (by decide) (by decide))))
  have f34 : Fld Z h28 a "com/example/episodic/episodic/StatementResult" "message" "Ljava/lang/String;" .null := (((f15.other W18 (Or.inr (slot_ne (Or.inr (hw _ (List.mem_of_getElem? (i := 29) rfl))) (Or.inr (hw _ (List.mem_of_getElem? (i := 31) rfl))) (by decide) (t := (.object "java/lang/String")) (t' := .int) (by decide) (by decide)))).other W23 (Or.inr (slot_ne (Or.inr (hw _ (List.mem_of_getElem? (i := 29) rfl))) (Or.inr (hw _ (List.mem_of_getElem? (i := 33) rfl))) (by decide) (t := (.object "java/lang/String")) (t' := .int) (by decide) (by decide)))).other W29 (Or.inr (slot_ne (Or.inr (hw _ (List.mem_of_getElem? (i := 29) rfl))) (Or.inr (hw _ (List.mem_of_getElem? (i := 35) rfl))) (by decide) (t := (.object "java/lang/String")) (t' := (.object "com/example/episodic/episodic/Rows")) (by decide) (by decide))))
  have f35 : Fld Z h28 a "com/example/episodic/episodic/StatementResult" "withdrawn" "I" (.int p) := ((f20.other W23 (Or.inr (slot_ne (Or.inr (hw _ (List.mem_of_getElem? (i := 31) rfl))) (Or.inr (hw _ (List.mem_of_getElem? (i := 33) rfl))) (by decide) (t := .int) (t' := .int) (by decide) (by decide)))).other W29 (Or.inr (slot_ne (Or.inr (hw _ (List.mem_of_getElem? (i := 31) rfl))) (Or.inr (hw _ (List.mem_of_getElem? (i := 35) rfl))) (by decide) (t := .int) (t' := (.object "com/example/episodic/episodic/Rows")) (by decide) (by decide))))
  have f36 : Fld Z h28 a "com/example/episodic/episodic/StatementResult" "created" "I" (.int q) := (f25.other W29 (Or.inr (slot_ne (Or.inr (hw _ (List.mem_of_getElem? (i := 33) rfl))) (Or.inr (hw _ (List.mem_of_getElem? (i := 35) rfl))) (by decide) (t := .int) (t' := (.object "com/example/episodic/episodic/Rows")) (by decide) (by decide))))
  exact Go.retV rfl d3_37 ⟨rfl, K30, f32, f33, f34, f35, f36, f31⟩ (by decide) (by decide)
theorem d2_0 : decode prog_42_method_3_code 0 = .ok (.new 8, 3) := by decide +kernel
theorem d2_3 : decode prog_42_method_3_code 3 = .ok (.dup, 1) := by decide +kernel
theorem d2_4 : decode prog_42_method_3_code 4 = .ok (.aload_n 0, 1) := by decide +kernel
theorem d2_5 : decode prog_42_method_3_code 5 = .ok (.aconst_null, 1) := by decide +kernel
theorem d2_6 : decode prog_42_method_3_code 6 = .ok (.aconst_null, 1) := by decide +kernel
theorem d2_7 : decode prog_42_method_3_code 7 = .ok (.iload_n 1, 1) := by decide +kernel
theorem d2_8 : decode prog_42_method_3_code 8 = .ok (.iload_n 2, 1) := by decide +kernel
theorem d2_9 : decode prog_42_method_3_code 9 = .ok (.aconst_null, 1) := by decide +kernel
theorem d2_10 : decode prog_42_method_3_code 10 = .ok (.invokespecial 32, 3) := by decide +kernel
theorem d2_13 : decode prog_42_method_3_code 13 = .ok (.areturn, 1) := by decide +kernel
theorem pd_1 : parseMethodDescriptor "(Lcom/example/episodic/episodic/Statement$Kind;Lcom/example/episodic/episodic/ErrorClass;Ljava/lang/String;IILcom/example/episodic/episodic/Rows;)V" = some ⟨[(.object "com/example/episodic/episodic/Statement$Kind"), (.object "com/example/episodic/episodic/ErrorClass"), (.object "java/lang/String"), .int, .int, (.object "com/example/episodic/episodic/Rows")], none⟩ := by decide +kernel
set_option maxRecDepth 65536 in
set_option maxHeartbeats 4000000 in
theorem c_changed (l : Launch) (Z : State) (a0 : Array Value) (hw : ∀ d ∈ tables_1, d.before a0 Z = true) {n0 : Nat} (h : Heap) (kd : Addr) (p : Int32) (q : Int32) :
    Con l (⟨"com/example/episodic/episodic/StatementResult", "changed", "(Lcom/example/episodic/episodic/Statement$Kind;II)Lcom/example/episodic/episodic/StatementResult;"⟩ : MethodName) prog_42_method_3_code 3 (some (.object "com/example/episodic/episodic/StatementResult")) ({ frames := 3, cells := 1, slots := 6, locals := 43 } : Room) Z n0 #[(.ref kd), (.int p), (.int q)] h (fun v h' => ∃ b : Addr, v = some (.ref b) ∧ Keep h h' [] ∧ n0 ≤ b ∧ h.size ≤ b ∧ Exa Z h' b "com/example/episodic/episodic/StatementResult" ∧ Fld Z h' b "com/example/episodic/episodic/StatementResult" "kind" "Lcom/example/episodic/episodic/Statement$Kind;" (.ref kd) ∧ Fld Z h' b "com/example/episodic/episodic/StatementResult" "errorClass" "Lcom/example/episodic/episodic/ErrorClass;" .null ∧ Fld Z h' b "com/example/episodic/episodic/StatementResult" "message" "Ljava/lang/String;" .null ∧ Fld Z h' b "com/example/episodic/episodic/StatementResult" "withdrawn" "I" (.int p) ∧ Fld Z h' b "com/example/episodic/episodic/StatementResult" "created" "I" (.int q) ∧ Fld Z h' b "com/example/episodic/episodic/StatementResult" "rows" "Lcom/example/episodic/episodic/Rows;" .null) := by
  refine Con.of_go (plainFor_of_name pn_2) (Ls := #[.val (.ref kd), .val (.int p), .val (.int q)]) (fun m => by first | (simp [entryFrame, mkF, argsToLocals, Value.category]; done) | rfl) ?_
  refine Go.new (pc' := 3) (cells' := 1) (slots' := 6) (hw _ (List.mem_of_getElem? (i := 11) rfl)) (hw _ (List.mem_of_getElem? (i := 12) rfl)) (hw _ (List.mem_of_getElem? (i := 9) rfl)) d2_0 rfl rfl (by decide) (by decide) rfl ?_
  intro h1 b1 g1 E1 ge1 A1 D1
  have sz2 : h.size ≤ b1 := Nat.le_trans (Keep.refl h []).1 (Nat.le_of_eq g1.symm)
  have K3 : Keep h h1 [] := (Keep.refl h []).ext E1
  refine Go.dup (pc' := 4) d2_3 rfl rfl ?_
  refine Go.aloadN (pc' := 5) d2_4 rfl rfl rfl ?_
  refine Go.aconstNull (pc' := 6) d2_5 rfl ?_
  refine Go.aconstNull (pc' := 7) d2_6 rfl ?_
  refine Go.iloadN (pc' := 8) d2_7 rfl rfl ?_
  refine Go.iloadN (pc' := 9) d2_8 rfl rfl ?_
  refine Go.aconstNull (pc' := 10) d2_9 rfl ?_
  refine Go.callC (cells' := 1) (slots' := 6) (pc' := 13) [(.ref kd), .null, .null, (.int p), (.int q), .null] [(.ref b1)] (a := b1) rfl rfl (hw _ (List.mem_of_getElem? (i := 13) rfl)) (hw _ (List.mem_of_getElem? (i := 14) rfl)) (hw _ (List.mem_of_getElem? (i := 9) rfl)) (hw _ (List.mem_of_getElem? (i := 15) rfl)) (by decide) (c_init l Z a0 hw h1 b1 kd p q ge1 A1 ((D1 (Or.inr (hw _ (List.mem_of_getElem? (i := 25) rfl))) (ty := (.object "com/example/episodic/episodic/Statement$Kind")) (by decide) : Fld Z h1 b1 "com/example/episodic/episodic/StatementResult" "kind" "Lcom/example/episodic/episodic/Statement$Kind;" .null)) ((D1 (Or.inr (hw _ (List.mem_of_getElem? (i := 27) rfl))) (ty := (.object "com/example/episodic/episodic/ErrorClass")) (by decide) : Fld Z h1 b1 "com/example/episodic/episodic/StatementResult" "errorClass" "Lcom/example/episodic/episodic/ErrorClass;" .null)) ((D1 (Or.inr (hw _ (List.mem_of_getElem? (i := 29) rfl))) (ty := (.object "java/lang/String")) (by decide) : Fld Z h1 b1 "com/example/episodic/episodic/StatementResult" "message" "Ljava/lang/String;" .null)) ((D1 (Or.inr (hw _ (List.mem_of_getElem? (i := 31) rfl))) (ty := .int) (by decide) : Fld Z h1 b1 "com/example/episodic/episodic/StatementResult" "withdrawn" "I" (.int (0 : Int32)))) ((D1 (Or.inr (hw _ (List.mem_of_getElem? (i := 33) rfl))) (ty := .int) (by decide) : Fld Z h1 b1 "com/example/episodic/episodic/StatementResult" "created" "I" (.int (0 : Int32)))) ((D1 (Or.inr (hw _ (List.mem_of_getElem? (i := 35) rfl))) (ty := (.object "com/example/episodic/episodic/Rows")) (by decide) : Fld Z h1 b1 "com/example/episodic/episodic/StatementResult" "rows" "Lcom/example/episodic/episodic/Rows;" .null))) pd_1 rfl rfl rfl rfl rfl (Nat.le_of_ble_eq_true rfl) (Nat.le_of_ble_eq_true rfl) (Nat.le_of_ble_eq_true rfl) (Nat.le_of_ble_eq_true rfl) d2_10 rfl ?_
  rintro _ h4 ⟨rfl, K4, F4_0, F4_1, F4_2, F4_3, F4_4, F4_5⟩
  have K5 : Keep h h4 [] := K3.trans K4 (allS (Or.inr sz2) all0)
  show Go _ _ _ _ _ _ _ _ _ _ _ _ 13 #[.val (.ref kd), .val (.int p), .val (.int q)] [(.ref b1)]
  exact Go.retR rfl rfl rfl rfl d2_13 ⟨b1, rfl, K5, ge1, sz2, (A1.keep K4), F4_0, F4_1, F4_2, F4_3, F4_4, F4_5⟩ (by decide) (by decide)
theorem d6_0 : decode prog_42_method_13_code 0 = .ok (.aload_n 0, 1) := by decide +kernel
theorem d6_1 : decode prog_42_method_13_code 1 = .ok (.getfield 7, 3) := by decide +kernel
theorem d6_4 : decode prog_42_method_13_code 4 = .ok (.areturn, 1) := by decide +kernel
set_option maxRecDepth 65536 in
set_option maxHeartbeats 4000000 in
theorem c_get_kind (l : Launch) (Z : State) (a0 : Array Value) (hw : ∀ d ∈ tables_1, d.before a0 Z = true) {n0 : Nat} (h : Heap) (a : Addr) (kd : Addr) (f : Fld Z h a "com/example/episodic/episodic/StatementResult" "kind" "Lcom/example/episodic/episodic/Statement$Kind;" (.ref kd)) :
    Con l (⟨"com/example/episodic/episodic/StatementResult", "kind", "()Lcom/example/episodic/episodic/Statement$Kind;"⟩ : MethodName) prog_42_method_13_code 1 (some (.object "com/example/episodic/episodic/Statement$Kind")) ({ frames := 0, cells := 0, slots := 0, locals := 0 } : Room) Z n0 #[(.ref a)] h (fun v h' => v = some (.ref kd) ∧ h = h') := by
  refine Con.of_go (plainFor_of_name pn_2) (Ls := #[.val (.ref a)]) (fun m => by first | (simp [entryFrame, mkF, argsToLocals, Value.category]; done) | rfl) ?_
  refine Go.aloadN (pc' := 1) d6_0 rfl rfl rfl ?_
  refine Go.getfield (pc' := 4) (host := "") (Or.inl (hw _ (List.mem_of_getElem? (i := 24) rfl))) Via.refl f d6_1 rfl ?_
  exact Go.retR rfl rfl rfl rfl d6_4 ⟨rfl, rfl⟩ (by decide) (by decide)
theorem d7_0 : decode prog_42_method_14_code 0 = .ok (.aload_n 0, 1) := by decide +kernel
theorem d7_1 : decode prog_42_method_14_code 1 = .ok (.getfield 13, 3) := by decide +kernel
theorem d7_4 : decode prog_42_method_14_code 4 = .ok (.areturn, 1) := by decide +kernel
set_option maxRecDepth 65536 in
set_option maxHeartbeats 4000000 in
theorem c_get_errorClass (l : Launch) (Z : State) (a0 : Array Value) (hw : ∀ d ∈ tables_1, d.before a0 Z = true) {n0 : Nat} (h : Heap) (a : Addr) (f : Fld Z h a "com/example/episodic/episodic/StatementResult" "errorClass" "Lcom/example/episodic/episodic/ErrorClass;" .null) :
    Con l (⟨"com/example/episodic/episodic/StatementResult", "errorClass", "()Lcom/example/episodic/episodic/ErrorClass;"⟩ : MethodName) prog_42_method_14_code 1 (some (.object "com/example/episodic/episodic/ErrorClass")) ({ frames := 0, cells := 0, slots := 0, locals := 0 } : Room) Z n0 #[(.ref a)] h (fun v h' => v = some .null ∧ h = h') := by
  refine Con.of_go (plainFor_of_name pn_2) (Ls := #[.val (.ref a)]) (fun m => by first | (simp [entryFrame, mkF, argsToLocals, Value.category]; done) | rfl) ?_
  refine Go.aloadN (pc' := 1) d7_0 rfl rfl rfl ?_
  refine Go.getfield (pc' := 4) (host := "") (Or.inl (hw _ (List.mem_of_getElem? (i := 26) rfl))) Via.refl f d7_1 rfl ?_
  exact Go.retR rfl rfl rfl rfl d7_4 ⟨rfl, rfl⟩ (by decide) (by decide)
theorem d8_0 : decode prog_42_method_15_code 0 = .ok (.aload_n 0, 1) := by decide +kernel
theorem d8_1 : decode prog_42_method_15_code 1 = .ok (.getfield 17, 3) := by decide +kernel
theorem d8_4 : decode prog_42_method_15_code 4 = .ok (.areturn, 1) := by decide +kernel
set_option maxRecDepth 65536 in
set_option maxHeartbeats 4000000 in
theorem c_get_message (l : Launch) (Z : State) (a0 : Array Value) (hw : ∀ d ∈ tables_1, d.before a0 Z = true) {n0 : Nat} (h : Heap) (a : Addr) (f : Fld Z h a "com/example/episodic/episodic/StatementResult" "message" "Ljava/lang/String;" .null) :
    Con l (⟨"com/example/episodic/episodic/StatementResult", "message", "()Ljava/lang/String;"⟩ : MethodName) prog_42_method_15_code 1 (some (.object "java/lang/String")) ({ frames := 0, cells := 0, slots := 0, locals := 0 } : Room) Z n0 #[(.ref a)] h (fun v h' => v = some .null ∧ h = h') := by
  refine Con.of_go (plainFor_of_name pn_2) (Ls := #[.val (.ref a)]) (fun m => by first | (simp [entryFrame, mkF, argsToLocals, Value.category]; done) | rfl) ?_
  refine Go.aloadN (pc' := 1) d8_0 rfl rfl rfl ?_
  refine Go.getfield (pc' := 4) (host := "") (Or.inl (hw _ (List.mem_of_getElem? (i := 28) rfl))) Via.refl f d8_1 rfl ?_
  exact Go.retR rfl rfl rfl rfl d8_4 ⟨rfl, rfl⟩ (by decide) (by decide)
theorem d9_0 : decode prog_42_method_16_code 0 = .ok (.aload_n 0, 1) := by decide +kernel
theorem d9_1 : decode prog_42_method_16_code 1 = .ok (.getfield 21, 3) := by decide +kernel
theorem d9_4 : decode prog_42_method_16_code 4 = .ok (.ireturn, 1) := by decide +kernel
set_option maxRecDepth 65536 in
set_option maxHeartbeats 4000000 in
theorem c_get_withdrawn (l : Launch) (Z : State) (a0 : Array Value) (hw : ∀ d ∈ tables_1, d.before a0 Z = true) {n0 : Nat} (h : Heap) (a : Addr) (p : Int32) (f : Fld Z h a "com/example/episodic/episodic/StatementResult" "withdrawn" "I" (.int p)) :
    Con l (⟨"com/example/episodic/episodic/StatementResult", "withdrawn", "()I"⟩ : MethodName) prog_42_method_16_code 1 (some .int) ({ frames := 0, cells := 0, slots := 0, locals := 0 } : Room) Z n0 #[(.ref a)] h (fun v h' => v = some (.int p) ∧ h = h') := by
  refine Con.of_go (plainFor_of_name pn_2) (Ls := #[.val (.ref a)]) (fun m => by first | (simp [entryFrame, mkF, argsToLocals, Value.category]; done) | rfl) ?_
  refine Go.aloadN (pc' := 1) d9_0 rfl rfl rfl ?_
  refine Go.getfield (pc' := 4) (host := "") (Or.inl (hw _ (List.mem_of_getElem? (i := 30) rfl))) Via.refl f d9_1 rfl ?_
  exact Go.retI rfl d9_4 ⟨rfl, rfl⟩ (by decide) (by decide)
theorem d10_0 : decode prog_42_method_17_code 0 = .ok (.aload_n 0, 1) := by decide +kernel
theorem d10_1 : decode prog_42_method_17_code 1 = .ok (.getfield 25, 3) := by decide +kernel
theorem d10_4 : decode prog_42_method_17_code 4 = .ok (.ireturn, 1) := by decide +kernel
set_option maxRecDepth 65536 in
set_option maxHeartbeats 4000000 in
theorem c_get_created (l : Launch) (Z : State) (a0 : Array Value) (hw : ∀ d ∈ tables_1, d.before a0 Z = true) {n0 : Nat} (h : Heap) (a : Addr) (q : Int32) (f : Fld Z h a "com/example/episodic/episodic/StatementResult" "created" "I" (.int q)) :
    Con l (⟨"com/example/episodic/episodic/StatementResult", "created", "()I"⟩ : MethodName) prog_42_method_17_code 1 (some .int) ({ frames := 0, cells := 0, slots := 0, locals := 0 } : Room) Z n0 #[(.ref a)] h (fun v h' => v = some (.int q) ∧ h = h') := by
  refine Con.of_go (plainFor_of_name pn_2) (Ls := #[.val (.ref a)]) (fun m => by first | (simp [entryFrame, mkF, argsToLocals, Value.category]; done) | rfl) ?_
  refine Go.aloadN (pc' := 1) d10_0 rfl rfl rfl ?_
  refine Go.getfield (pc' := 4) (host := "") (Or.inl (hw _ (List.mem_of_getElem? (i := 32) rfl))) Via.refl f d10_1 rfl ?_
  exact Go.retI rfl d10_4 ⟨rfl, rfl⟩ (by decide) (by decide)
theorem d11_0 : decode prog_42_method_18_code 0 = .ok (.aload_n 0, 1) := by decide +kernel
theorem d11_1 : decode prog_42_method_18_code 1 = .ok (.getfield 28, 3) := by decide +kernel
theorem d11_4 : decode prog_42_method_18_code 4 = .ok (.areturn, 1) := by decide +kernel
set_option maxRecDepth 65536 in
set_option maxHeartbeats 4000000 in
theorem c_get_rows (l : Launch) (Z : State) (a0 : Array Value) (hw : ∀ d ∈ tables_1, d.before a0 Z = true) {n0 : Nat} (h : Heap) (a : Addr) (f : Fld Z h a "com/example/episodic/episodic/StatementResult" "rows" "Lcom/example/episodic/episodic/Rows;" .null) :
    Con l (⟨"com/example/episodic/episodic/StatementResult", "rows", "()Lcom/example/episodic/episodic/Rows;"⟩ : MethodName) prog_42_method_18_code 1 (some (.object "com/example/episodic/episodic/Rows")) ({ frames := 0, cells := 0, slots := 0, locals := 0 } : Room) Z n0 #[(.ref a)] h (fun v h' => v = some .null ∧ h = h') := by
  refine Con.of_go (plainFor_of_name pn_2) (Ls := #[.val (.ref a)]) (fun m => by first | (simp [entryFrame, mkF, argsToLocals, Value.category]; done) | rfl) ?_
  refine Go.aloadN (pc' := 1) d11_0 rfl rfl rfl ?_
  refine Go.getfield (pc' := 4) (host := "") (Or.inl (hw _ (List.mem_of_getElem? (i := 34) rfl))) Via.refl f d11_1 rfl ?_
  exact Go.retR rfl rfl rfl rfl d11_4 ⟨rfl, rfl⟩ (by decide) (by decide)
theorem d12_0 : decode prog_42_method_6_code 0 = .ok (.aload_n 0, 1) := by decide +kernel
theorem d12_1 : decode prog_42_method_6_code 1 = .ok (.getfield 13, 3) := by decide +kernel
theorem d12_4 : decode prog_42_method_6_code 4 = .ok (.ifnull 7, 3) := by decide +kernel
theorem d12_11 : decode prog_42_method_6_code 11 = .ok (.iconst 0, 1) := by decide +kernel
theorem d12_12 : decode prog_42_method_6_code 12 = .ok (.ireturn, 1) := by decide +kernel
set_option maxRecDepth 65536 in
set_option maxHeartbeats 4000000 in
theorem c_rej (l : Launch) (Z : State) (a0 : Array Value) (hw : ∀ d ∈ tables_1, d.before a0 Z = true) {n0 : Nat} (h : Heap) (a : Addr) (f : Fld Z h a "com/example/episodic/episodic/StatementResult" "errorClass" "Lcom/example/episodic/episodic/ErrorClass;" .null) :
    Con l (⟨"com/example/episodic/episodic/StatementResult", "isRejected", "()Z"⟩ : MethodName) prog_42_method_6_code 1 (some .boolean) ({ frames := 0, cells := 0, slots := 0, locals := 0 } : Room) Z n0 #[(.ref a)] h (fun v h' => v = some (.int (0 : Int32)) ∧ h = h') := by
  refine Con.of_go (plainFor_of_name pn_2) (Ls := #[.val (.ref a)]) (fun m => by first | (simp [entryFrame, mkF, argsToLocals, Value.category]; done) | rfl) ?_
  refine Go.aloadN (pc' := 1) d12_0 rfl rfl rfl ?_
  refine Go.getfield (pc' := 4) (host := "") (Or.inl (hw _ (List.mem_of_getElem? (i := 26) rfl))) Via.refl f d12_1 rfl ?_
  refine Go.nullYes (pc' := 11) d12_4 rfl (by decide) (by decide) ?_
  refine Go.iconst (pc' := 12) (v := (0 : Int32)) d12_11 rfl rfl ?_
  exact Go.retN (t := .boolean) rfl (by simp) d12_12 ⟨rfl, rfl⟩ (by decide) (by decide)
theorem pd_2 : parseMethodDescriptor "(I)Lcom/example/episodic/episodic/Statement$Kind;" = some ⟨[.int], some (.object "com/example/episodic/episodic/Statement$Kind")⟩ := by decide +kernel
theorem pd_3 : parseMethodDescriptor "(Lcom/example/episodic/episodic/Statement$Kind;II)Lcom/example/episodic/episodic/StatementResult;" = some ⟨[(.object "com/example/episodic/episodic/Statement$Kind"), .int, .int], some (.object "com/example/episodic/episodic/StatementResult")⟩ := by decide +kernel
theorem pd_4 : parseMethodDescriptor "()Lcom/example/episodic/episodic/Statement$Kind;" = some ⟨[], some (.object "com/example/episodic/episodic/Statement$Kind")⟩ := by decide +kernel
theorem pd_5 : parseMethodDescriptor "()Lcom/example/episodic/episodic/ErrorClass;" = some ⟨[], some (.object "com/example/episodic/episodic/ErrorClass")⟩ := by decide +kernel
theorem pd_6 : parseMethodDescriptor "()Ljava/lang/String;" = some ⟨[], some (.object "java/lang/String")⟩ := by decide +kernel
theorem pd_7 : parseMethodDescriptor "()I" = some ⟨[], some .int⟩ := by decide +kernel
theorem pd_8 : parseMethodDescriptor "()Lcom/example/episodic/episodic/Rows;" = some ⟨[], some (.object "com/example/episodic/episodic/Rows")⟩ := by decide +kernel
theorem pd_9 : parseMethodDescriptor "()Z" = some ⟨[], some .boolean⟩ := by decide +kernel
set_option maxRecDepth 65536 in
set_option maxHeartbeats 4000000 in
theorem c_law (l : Launch) (Z : State) (a0 : Array Value) (hw : ∀ d ∈ tables_1, d.before a0 Z = true) {n0 : Nat} (h : Heap) (p0 : Int32) (p1 : Int32) (p2 : Int32) (w0 : Addr) (w1 : Addr) (w2 : Addr) (w3 : Addr) (w4 : Addr) (w5 : Addr) (w6 : Addr) (w7 : Addr) (s0 : Sta Z Z.heap "com/example/episodic/episodic/Statement$Kind" "CREATE_TABLE" "Lcom/example/episodic/episodic/Statement$Kind;" (.ref w0)) (s1 : Sta Z Z.heap "com/example/episodic/episodic/Statement$Kind" "DROP_TABLE" "Lcom/example/episodic/episodic/Statement$Kind;" (.ref w1)) (s2 : Sta Z Z.heap "com/example/episodic/episodic/Statement$Kind" "SET_NOW" "Lcom/example/episodic/episodic/Statement$Kind;" (.ref w2)) (s3 : Sta Z Z.heap "com/example/episodic/episodic/Statement$Kind" "INSERT" "Lcom/example/episodic/episodic/Statement$Kind;" (.ref w3)) (s4 : Sta Z Z.heap "com/example/episodic/episodic/Statement$Kind" "UPDATE" "Lcom/example/episodic/episodic/Statement$Kind;" (.ref w4)) (s5 : Sta Z Z.heap "com/example/episodic/episodic/Statement$Kind" "DELETE" "Lcom/example/episodic/episodic/Statement$Kind;" (.ref w5)) (s6 : Sta Z Z.heap "com/example/episodic/episodic/Statement$Kind" "SELECT" "Lcom/example/episodic/episodic/Statement$Kind;" (.ref w6)) (s7 : Sta Z Z.heap "com/example/episodic/episodic/Statement$Kind" "SHOW_ROWS" "Lcom/example/episodic/episodic/Statement$Kind;" (.ref w7)) :
    Con l x code maxLocals ret room_1 Z n0 #[(.int p0), (.int p1), (.int p2)] h (fun v h' => v = some (.int (1 : Int32)) ∧ Keep h h' []) := by
  refine Con.of_go (plainFor_of_name pn_0) (Ls := #[.val (.int p0), .val (.int p1), .val (.int p2), .unset, .unset]) (fun m => by first | (simp [entryFrame, mkF, argsToLocals, Value.category, maxLocals]; done) | rfl) ?_
  refine Go.iloadN (pc' := 1) at_0 rfl rfl ?_
  refine Go.callS (cells' := 0) (slots' := 0) (pc' := 4) [(.int p0)] [] (hw _ (List.mem_of_getElem? (i := 0) rfl)) (hw _ (List.mem_of_getElem? (i := 1) rfl)) (hw _ (List.mem_of_getElem? (i := 2) rfl)) (hw _ (List.mem_of_getElem? (i := 3) rfl)) (by decide) (c_kindOf l Z a0 hw h p0 w0 w1 w2 w3 w4 w5 w6 w7 s0 s1 s2 s3 s4 s5 s6 s7) pd_2 rfl rfl rfl rfl rfl (Nat.le_of_ble_eq_true rfl) (Nat.le_of_ble_eq_true rfl) (Nat.le_of_ble_eq_true rfl) (Nat.le_of_ble_eq_true rfl) at_1 rfl ?_
  rintro _ _ ⟨a_1, rfl, rfl⟩
  show Go _ _ _ _ _ _ _ _ _ _ _ _ 4 #[.val (.int p0), .val (.int p1), .val (.int p2), .unset, .unset] [(.ref a_1)]
  refine Go.astoreN (pc' := 5) (Ls' := #[.val (.int p0), .val (.int p1), .val (.int p2), .val (.ref a_1), .unset]) at_4 rfl rfl rfl ?_
  refine Go.aloadN (pc' := 6) at_5 rfl rfl rfl ?_
  refine Go.iloadN (pc' := 7) at_6 rfl rfl ?_
  refine Go.iloadN (pc' := 8) at_7 rfl rfl ?_
  refine Go.callS (cells' := 1) (slots' := 6) (pc' := 11) [(.ref a_1), (.int p1), (.int p2)] [] (hw _ (List.mem_of_getElem? (i := 7) rfl)) (hw _ (List.mem_of_getElem? (i := 8) rfl)) (hw _ (List.mem_of_getElem? (i := 9) rfl)) (hw _ (List.mem_of_getElem? (i := 10) rfl)) (by decide) (c_changed l Z a0 hw h a_1 p1 p2) pd_3 rfl rfl rfl rfl rfl (Nat.le_of_ble_eq_true rfl) (Nat.le_of_ble_eq_true rfl) (Nat.le_of_ble_eq_true rfl) (Nat.le_of_ble_eq_true rfl) at_8 rfl ?_
  rintro _ h2 ⟨b_2, rfl, K2, ge_b_2, sz_b_2, F2_0, F2_1, F2_2, F2_3, F2_4, F2_5, F2_6⟩
  have sz3 : h.size ≤ b_2 := Nat.le_trans (Keep.refl h []).1 sz_b_2
  have K4 : Keep h h2 [] := (Keep.refl h []).trans K2 all0
  show Go _ _ _ _ _ _ _ _ _ _ _ _ 11 #[.val (.int p0), .val (.int p1), .val (.int p2), .val (.ref a_1), .unset] [(.ref b_2)]
  refine Go.astore (pc' := 13) (Ls' := #[.val (.int p0), .val (.int p1), .val (.int p2), .val (.ref a_1), .val (.ref b_2)]) at_11 rfl rfl rfl ?_
  refine Go.aload (pc' := 15) at_13 rfl rfl rfl ?_
  refine Go.nullNo (pc' := 18) at_15 rfl nofun rfl ?_
  refine Go.aload (pc' := 20) at_18 rfl rfl rfl ?_
  refine Go.callV (cells' := 1) (slots' := 6) (pc' := 23) [] [] F2_0 (hw _ (List.mem_of_getElem? (i := 36) rfl)) (hw _ (List.mem_of_getElem? (i := 37) rfl)) (fun s' hs' => notFace_of_selects (args := #[]) (mvT hs' (hw _ (List.mem_of_getElem? (i := 39) rfl)))) (hw _ (List.mem_of_getElem? (i := 39) rfl)) (hw _ (List.mem_of_getElem? (i := 38) rfl)) (hw _ (List.mem_of_getElem? (i := 9) rfl)) (hw _ (List.mem_of_getElem? (i := 40) rfl)) (by decide) (c_get_kind l Z a0 hw h2 b_2 a_1 F2_1) pd_4 rfl rfl rfl rfl rfl (Nat.le_of_ble_eq_true rfl) (Nat.le_of_ble_eq_true rfl) (Nat.le_of_ble_eq_true rfl) (Nat.le_of_ble_eq_true rfl) at_20 rfl ?_
  rintro _ _ ⟨rfl, rfl⟩
  show Go _ _ _ _ _ _ _ _ _ _ _ _ 23 #[.val (.int p0), .val (.int p1), .val (.int p2), .val (.ref a_1), .val (.ref b_2)] [(.ref a_1)]
  refine Go.aloadN (pc' := 24) at_23 rfl rfl rfl ?_
  refine Go.acmpNo (pc' := 27) at_24 rfl rfl (XT.aa_ne_f rfl) rfl ?_
  refine Go.aload (pc' := 29) at_27 rfl rfl rfl ?_
  refine Go.callV (cells' := 1) (slots' := 6) (pc' := 32) [] [] F2_0 (hw _ (List.mem_of_getElem? (i := 41) rfl)) (hw _ (List.mem_of_getElem? (i := 42) rfl)) (fun s' hs' => notFace_of_selects (args := #[]) (mvT hs' (hw _ (List.mem_of_getElem? (i := 44) rfl)))) (hw _ (List.mem_of_getElem? (i := 44) rfl)) (hw _ (List.mem_of_getElem? (i := 43) rfl)) (hw _ (List.mem_of_getElem? (i := 9) rfl)) (hw _ (List.mem_of_getElem? (i := 45) rfl)) (by decide) (c_get_errorClass l Z a0 hw h2 b_2 F2_2) pd_5 rfl rfl rfl rfl rfl (Nat.le_of_ble_eq_true rfl) (Nat.le_of_ble_eq_true rfl) (Nat.le_of_ble_eq_true rfl) (Nat.le_of_ble_eq_true rfl) at_29 rfl ?_
  rintro _ _ ⟨rfl, rfl⟩
  show Go _ _ _ _ _ _ _ _ _ _ _ _ 32 #[.val (.int p0), .val (.int p1), .val (.int p2), .val (.ref a_1), .val (.ref b_2)] [.null]
  refine Go.nonnullNo (pc' := 35) at_32 rfl rfl ?_
  refine Go.aload (pc' := 37) at_35 rfl rfl rfl ?_
  refine Go.callV (cells' := 1) (slots' := 6) (pc' := 40) [] [] F2_0 (hw _ (List.mem_of_getElem? (i := 46) rfl)) (hw _ (List.mem_of_getElem? (i := 47) rfl)) (fun s' hs' => notFace_of_selects (args := #[]) (mvT hs' (hw _ (List.mem_of_getElem? (i := 49) rfl)))) (hw _ (List.mem_of_getElem? (i := 49) rfl)) (hw _ (List.mem_of_getElem? (i := 48) rfl)) (hw _ (List.mem_of_getElem? (i := 9) rfl)) (hw _ (List.mem_of_getElem? (i := 50) rfl)) (by decide) (c_get_message l Z a0 hw h2 b_2 F2_3) pd_6 rfl rfl rfl rfl rfl (Nat.le_of_ble_eq_true rfl) (Nat.le_of_ble_eq_true rfl) (Nat.le_of_ble_eq_true rfl) (Nat.le_of_ble_eq_true rfl) at_37 rfl ?_
  rintro _ _ ⟨rfl, rfl⟩
  show Go _ _ _ _ _ _ _ _ _ _ _ _ 40 #[.val (.int p0), .val (.int p1), .val (.int p2), .val (.ref a_1), .val (.ref b_2)] [.null]
  refine Go.nonnullNo (pc' := 43) at_40 rfl rfl ?_
  refine Go.aload (pc' := 45) at_43 rfl rfl rfl ?_
  refine Go.callV (cells' := 1) (slots' := 6) (pc' := 48) [] [] F2_0 (hw _ (List.mem_of_getElem? (i := 51) rfl)) (hw _ (List.mem_of_getElem? (i := 52) rfl)) (fun s' hs' => notFace_of_selects (args := #[]) (mvT hs' (hw _ (List.mem_of_getElem? (i := 54) rfl)))) (hw _ (List.mem_of_getElem? (i := 54) rfl)) (hw _ (List.mem_of_getElem? (i := 53) rfl)) (hw _ (List.mem_of_getElem? (i := 9) rfl)) (hw _ (List.mem_of_getElem? (i := 55) rfl)) (by decide) (c_get_withdrawn l Z a0 hw h2 b_2 p1 F2_4) pd_7 rfl rfl rfl rfl rfl (Nat.le_of_ble_eq_true rfl) (Nat.le_of_ble_eq_true rfl) (Nat.le_of_ble_eq_true rfl) (Nat.le_of_ble_eq_true rfl) at_45 rfl ?_
  rintro _ _ ⟨rfl, rfl⟩
  show Go _ _ _ _ _ _ _ _ _ _ _ _ 48 #[.val (.int p0), .val (.int p1), .val (.int p2), .val (.ref a_1), .val (.ref b_2)] [(.int p1)]
  refine Go.iloadN (pc' := 49) at_48 rfl rfl ?_
  refine Go.icmpNo (pc' := 52) at_49 (XT.ii_ne_f rfl) rfl ?_
  refine Go.aload (pc' := 54) at_52 rfl rfl rfl ?_
  refine Go.callV (cells' := 1) (slots' := 6) (pc' := 57) [] [] F2_0 (hw _ (List.mem_of_getElem? (i := 56) rfl)) (hw _ (List.mem_of_getElem? (i := 57) rfl)) (fun s' hs' => notFace_of_selects (args := #[]) (mvT hs' (hw _ (List.mem_of_getElem? (i := 59) rfl)))) (hw _ (List.mem_of_getElem? (i := 59) rfl)) (hw _ (List.mem_of_getElem? (i := 58) rfl)) (hw _ (List.mem_of_getElem? (i := 9) rfl)) (hw _ (List.mem_of_getElem? (i := 60) rfl)) (by decide) (c_get_created l Z a0 hw h2 b_2 p2 F2_5) pd_7 rfl rfl rfl rfl rfl (Nat.le_of_ble_eq_true rfl) (Nat.le_of_ble_eq_true rfl) (Nat.le_of_ble_eq_true rfl) (Nat.le_of_ble_eq_true rfl) at_54 rfl ?_
  rintro _ _ ⟨rfl, rfl⟩
  show Go _ _ _ _ _ _ _ _ _ _ _ _ 57 #[.val (.int p0), .val (.int p1), .val (.int p2), .val (.ref a_1), .val (.ref b_2)] [(.int p2)]
  refine Go.iloadN (pc' := 58) at_57 rfl rfl ?_
  refine Go.icmpNo (pc' := 61) at_58 (XT.ii_ne_f rfl) rfl ?_
  refine Go.aload (pc' := 63) at_61 rfl rfl rfl ?_
  refine Go.callV (cells' := 1) (slots' := 6) (pc' := 66) [] [] F2_0 (hw _ (List.mem_of_getElem? (i := 61) rfl)) (hw _ (List.mem_of_getElem? (i := 62) rfl)) (fun s' hs' => notFace_of_selects (args := #[]) (mvT hs' (hw _ (List.mem_of_getElem? (i := 64) rfl)))) (hw _ (List.mem_of_getElem? (i := 64) rfl)) (hw _ (List.mem_of_getElem? (i := 63) rfl)) (hw _ (List.mem_of_getElem? (i := 9) rfl)) (hw _ (List.mem_of_getElem? (i := 65) rfl)) (by decide) (c_get_rows l Z a0 hw h2 b_2 F2_6) pd_8 rfl rfl rfl rfl rfl (Nat.le_of_ble_eq_true rfl) (Nat.le_of_ble_eq_true rfl) (Nat.le_of_ble_eq_true rfl) (Nat.le_of_ble_eq_true rfl) at_63 rfl ?_
  rintro _ _ ⟨rfl, rfl⟩
  show Go _ _ _ _ _ _ _ _ _ _ _ _ 66 #[.val (.int p0), .val (.int p1), .val (.int p2), .val (.ref a_1), .val (.ref b_2)] [.null]
  refine Go.nonnullNo (pc' := 69) at_66 rfl rfl ?_
  refine Go.aload (pc' := 71) at_69 rfl rfl rfl ?_
  refine Go.callV (cells' := 1) (slots' := 6) (pc' := 74) [] [] F2_0 (hw _ (List.mem_of_getElem? (i := 66) rfl)) (hw _ (List.mem_of_getElem? (i := 67) rfl)) (fun s' hs' => notFace_of_selects (args := #[]) (mvT hs' (hw _ (List.mem_of_getElem? (i := 69) rfl)))) (hw _ (List.mem_of_getElem? (i := 69) rfl)) (hw _ (List.mem_of_getElem? (i := 68) rfl)) (hw _ (List.mem_of_getElem? (i := 9) rfl)) (hw _ (List.mem_of_getElem? (i := 70) rfl)) (by decide) (c_rej l Z a0 hw h2 b_2 F2_2) pd_9 rfl rfl rfl rfl rfl (Nat.le_of_ble_eq_true rfl) (Nat.le_of_ble_eq_true rfl) (Nat.le_of_ble_eq_true rfl) (Nat.le_of_ble_eq_true rfl) at_71 rfl ?_
  rintro _ _ ⟨rfl, rfl⟩
  show Go _ _ _ _ _ _ _ _ _ _ _ _ 74 #[.val (.int p0), .val (.int p1), .val (.int p2), .val (.ref a_1), .val (.ref b_2)] [(.int (0 : Int32))]
  refine Go.ifNo (pc' := 77) at_74 (XT.i0_ne_f (by decide)) rfl ?_
  refine Go.iconst (pc' := 78) (v := (1 : Int32)) at_77 rfl rfl ?_
  refine Go.goto (pc' := 82) at_78 (by decide) (by decide) ?_
  exact Go.retN (t := .boolean) rfl (by simp) at_82 ⟨rfl, K4⟩ (by decide) (by decide)
set_option maxRecDepth 65536 in
set_option maxHeartbeats 4000000 in
theorem comes_1 {Post : Tables → Env → Array Value → State → Outcome → State → Prop} (hpost : ∀ tb e args s v u, (limb_1_1.after args s (.returned v) u = true ∧ limb_1_2.after args s (.returned v) u = true ∧ True) → FrameEnd s (.returned v) u (Jvm.fieldLocs frame_1_writes args s ++ Jvm.arrayLocs frame_1_arrays args s ++ Jvm.staticLocs frame_1_statics s) 16 128 → Post tb e args s (.returned v) u) :
    ArmFor flags0 classFile x code maxLocals ret World_1 tables_1 room_1 Calls_1 rest_1 Pre_1 Post := by
  intro l hfl _ _ p e ha hc hk s m args below hf hA hF happ hP
  obtain ⟨hcalls, hrest, hpre⟩ := hP
  obtain ⟨-, -, -, hnamed, -, -, -, hat⟩ := (Spec.applies_iff hf).mp happ
  obtain ⟨hg, hn⟩ := and_e (Cond.before_iff.mp (show (Jvm.Cond.and given_1 narrow_1).before args s = true from hpre))
  obtain ⟨g1, g2⟩ := and_e hg
  obtain ⟨g3, g4⟩ := and_e g2
  obtain ⟨g5, g6⟩ := and_e g4
  obtain ⟨w0, w1, w2, rfl⟩ : ∃ w0 w1 w2 : Value, args = #[w0, w1, w2] := by
    have hs : args.size = 3 := by simpa [Cond.value, given_1] using g1
    obtain ⟨L⟩ := args
    match L, hs with
    | [w0, w1, w2], _ => exact ⟨w0, w1, w2, rfl⟩
  have hw := fun d (hd : d ∈ tables_1) => atoms_spec (ws := Jvm.Cond.code x code maxLocals ret :: tables_1) hat d (List.mem_cons_of_mem _ hd)
  have hfit : Fit s := fun {y c} hc i hi => by
    obtain ⟨ha, rfl⟩ := Array.getElem?_eq_some_iff.mp hc
    have q := List.all_eq_true.mp ((Array.all_eq_true_iff_forall_mem.mp hF) _ (Array.getElem_mem ha)) i (List.mem_range.mpr hi)
    simpa [Array.getElem?_eq_getElem hi] using q
  obtain ⟨i0, ei0⟩ := is_v g3
  obtain rfl : w0 = (.int i0) := Option.some.inj ei0
  obtain ⟨i1, ei1⟩ := is_v g5
  obtain rfl : w1 = (.int i1) := Option.some.inj ei1
  obtain ⟨i2, ei2⟩ := is_v g6
  obtain rfl : w2 = (.int i2) := Option.some.inj ei2
  obtain ⟨c0, cr0⟩ := and_e hn
  obtain ⟨c1, cr1⟩ := and_e cr0
  obtain ⟨c2, cr2⟩ := and_e cr1
  obtain ⟨c3, cr3⟩ := and_e cr2
  obtain ⟨c4, cr4⟩ := and_e cr3
  obtain ⟨c5, cr5⟩ := and_e cr4
  obtain ⟨c6, cr6⟩ := and_e cr5
  obtain ⟨w_0, ev_w_0⟩ := exa_v c0
  have exa_w_0 := Exa.start ev_w_0 c0
  have sta_w_0 := Sta.start ev_w_0 (Or.inr ⟨(hw _ (List.mem_of_getElem? (i := 5) rfl)), (hw _ (List.mem_of_getElem? (i := 6) rfl))⟩)
  obtain ⟨w_1, ev_w_1⟩ := exa_v c1
  have exa_w_1 := Exa.start ev_w_1 c1
  have sta_w_1 := Sta.start ev_w_1 (Or.inr ⟨(hw _ (List.mem_of_getElem? (i := 5) rfl)), (hw _ (List.mem_of_getElem? (i := 72) rfl))⟩)
  obtain ⟨w_2, ev_w_2⟩ := exa_v c4
  have exa_w_2 := Exa.start ev_w_2 c4
  have sta_w_2 := Sta.start ev_w_2 (Or.inr ⟨(hw _ (List.mem_of_getElem? (i := 5) rfl)), (hw _ (List.mem_of_getElem? (i := 78) rfl))⟩)
  obtain ⟨w_3, ev_w_3⟩ := exa_v c5
  have exa_w_3 := Exa.start ev_w_3 c5
  have sta_w_3 := Sta.start ev_w_3 (Or.inr ⟨(hw _ (List.mem_of_getElem? (i := 5) rfl)), (hw _ (List.mem_of_getElem? (i := 80) rfl))⟩)
  obtain ⟨w_4, ev_w_4⟩ := exa_v c2
  have exa_w_4 := Exa.start ev_w_4 c2
  have sta_w_4 := Sta.start ev_w_4 (Or.inr ⟨(hw _ (List.mem_of_getElem? (i := 5) rfl)), (hw _ (List.mem_of_getElem? (i := 74) rfl))⟩)
  obtain ⟨w_5, ev_w_5⟩ := exa_v c6
  have exa_w_5 := Exa.start ev_w_5 c6
  have sta_w_5 := Sta.start ev_w_5 (Or.inr ⟨(hw _ (List.mem_of_getElem? (i := 5) rfl)), (hw _ (List.mem_of_getElem? (i := 82) rfl))⟩)
  obtain ⟨w_6, ev_w_6⟩ := exa_v cr6
  have exa_w_6 := Exa.start ev_w_6 cr6
  have sta_w_6 := Sta.start ev_w_6 (Or.inr ⟨(hw _ (List.mem_of_getElem? (i := 5) rfl)), (hw _ (List.mem_of_getElem? (i := 84) rfl))⟩)
  obtain ⟨w_7, ev_w_7⟩ := exa_v c3
  have exa_w_7 := Exa.start ev_w_7 c3
  have sta_w_7 := Sta.start ev_w_7 (Or.inr ⟨(hw _ (List.mem_of_getElem? (i := 5) rfl)), (hw _ (List.mem_of_getElem? (i := 76) rfl))⟩)
  obtain ⟨n, o, h1, h2, h3, _, L, rfl, ⟨hQ, N⟩, hq⟩ := c_law l s _ hw s.heap i0 i1 i2 w_0 w_1 w_2 w_3 w_4 w_5 w_6 w_7 sta_w_0 sta_w_1 sta_w_2 sta_w_3 sta_w_4 sta_w_5 sta_w_6 sta_w_7 (Old.start s) tables_1 p e ha hc hk s m _ below hf ((Spec.applies_iff_loose hf).mp happ).1 ⟨rfl, State.Warmed39.refl s, rfl⟩ trivial
  obtain rfl := hQ.1
  refine ⟨n, _, h1, h2, h3, hpost _ _ _ _ _ _ ⟨Cond.after_iff.mpr rfl, Cond.after_iff.mpr (eq_i res_at (Term.int_eval (1)) rfl), trivial⟩ ⟨hq.1, hq.2.1, (hq.2.2.sift fun y hy => Or.inr (N y hy)).mono (by decide) (by decide)⟩⟩
theorem main_1_1 : Claimed_1_1 := comes_1 fun _ _ _ _ _ _ h hF => ⟨h.1, hF⟩
theorem main_1_2 : Claimed_1_2 := comes_1 fun _ _ _ _ _ _ h hF => ⟨h.2.1, hF⟩

end Jvm.Pilot.@@N@@
namespace Jvm.Pilot.@@N@@
open Jvm Jvm.ClassFile Sem Op Lib Jvm.Free Jvm.Stand Jvm.Pilot.@@N@@.Jvm.D
/-! MADE BY PROGRAM (witnessworld.py) out of the Statement's table words and the real class files: 14 classes; the members and pool entries that the words name. The judged class is class 1, her method 2. -/
namespace start1
open Jvm.ClassFile
def u (s : String) : CpInfo := .utf8 (stringToUtf16 s)
/-- a pool by its gaps: so many unusable entries, then the entry; so many at the end -/
def gap : Nat → List CpInfo → List CpInfo
  | 0, r => r
  | n + 1, r => .unusable :: gap n r
def poolList (es : List (Nat × CpInfo)) (last : Nat) : List CpInfo := es.foldr (fun e r => gap e.1 (e.2 :: r)) (gap last [])
def pool (es : List (Nat × CpInfo)) (last : Nat) : Array CpInfo := ⟨poolList es last⟩
def fileOf (pool : Array CpInfo) (this : Nat) (attrs : Array Attribute := #[]) (ms : Array MethodInfo := #[]) (fl : Nat := 33) (sup : Nat := 0) (ifs : Array Nat := #[]) (fds : Array FieldInfo := #[]) : ClassFile where
  minorVersion := 0
  majorVersion := 65
  constantPool := pool
  accessFlags := fl
  thisClass := this
  superClass := sup
  interfaces := ifs
  fields := fds
  methods := ms
  attributes := attrs
def plain (name : String) (sup : Option ClassId) : Class where
  name := name
  kind := .ordinary
  loader := none
  accessFlags := 33
  super := sup
  interfaces := #[]
  cf := none
  fields := #[]
  methods := #[]
  instanceTypes := #[]
  staticTypes := #[]
  resolved := #[]
  callSites := []
  init := .initialized
  statics := none
  mirror := none

def pool0 : Array CpInfo := pool [(5, u "<init>"), (0, u "()V"), (1, .class_ 10), (1, u "java/lang/Object")] 113

def k0c0 : Code := { maxStack := 0, maxLocals := 1, code := object_method_1_code, exceptionTable := #[], attributes := #[] }
def k0m0 : Method := { name := "<init>", desc := "()V", sig := { parameters := [], returnType := none }, accessFlags := 1, code := some k0c0 }
/-- java/lang/Object -/
def k0 : Class := { plain "java/lang/Object" none with
  accessFlags := 33
  interfaces := #[]
  cf := some (fileOf pool0 8 #[] #[{ accessFlags := 1, nameIndex := 5, descriptorIndex := 6, attributes := #[] }] 33 0 #[] #[])
  fields := #[]
  methods := #[k0m0]
  instanceTypes := #[]
  staticTypes := #[]
  resolved := Array.replicate 124 none
  statics := none }

def pool1 : Array CpInfo := pool [(2, .class_ 4), (1, u "java/lang/Object"), (0, u "<init>"), (0, u "()V"), (0, .fieldref 8 9), (0, .class_ 10), (0, .nameAndType 11 12), (0, u "com/example/episodic/episodic/Statement$Kind"), (0, u "CREATE_TABLE"), (0, u "Lcom/example/episodic/episodic/Statement$Kind;"), (0, .fieldref 8 14), (0, .nameAndType 15 12), (0, u "DROP_TABLE"), (0, .fieldref 8 17), (0, .nameAndType 18 12), (0, u "SET_NOW"), (0, .fieldref 8 20), (0, .nameAndType 21 12), (0, u "INSERT"), (0, .fieldref 8 23), (0, .nameAndType 24 12), (0, u "UPDATE"), (0, .fieldref 8 26), (0, .nameAndType 27 12), (0, u "DELETE"), (0, .fieldref 8 29), (0, .nameAndType 30 12), (0, u "SELECT"), (0, .fieldref 8 32), (0, .nameAndType 33 12), (0, u "SHOW_ROWS"), (0, .methodref 35 36), (0, .class_ 37), (0, .nameAndType 38 39), (0, u "com/example/episodic/episodic/StatementResultChangedPinLaw"), (0, u "kindOf"), (0, u "(I)Lcom/example/episodic/episodic/Statement$Kind;"), (0, .methodref 41 42), (0, .class_ 43), (0, .nameAndType 44 45), (0, u "com/example/episodic/episodic/StatementResult"), (0, u "changed"), (0, u "(Lcom/example/episodic/episodic/Statement$Kind;II)Lcom/example/episodic/episodic/StatementResult;"), (0, .methodref 41 47), (0, .nameAndType 48 49), (0, u "kind"), (0, u "()Lcom/example/episodic/episodic/Statement$Kind;"), (0, .methodref 41 51), (0, .nameAndType 52 53), (0, u "errorClass"), (0, u "()Lcom/example/episodic/episodic/ErrorClass;"), (0, .methodref 41 55), (0, .nameAndType 56 57), (0, u "message"), (0, u "()Ljava/lang/String;"), (0, .methodref 41 59), (0, .nameAndType 60 61), (0, u "withdrawn"), (0, u "()I"), (0, .methodref 41 63), (0, .nameAndType 64 61), (0, u "created"), (0, .methodref 41 66), (0, .nameAndType 67 68), (0, u "rows"), (0, u "()Lcom/example/episodic/episodic/Rows;"), (0, .methodref 41 70), (0, .nameAndType 71 72), (0, u "isRejected"), (0, u "()Z"), (3, u "law"), (0, u "(III)Z")] 6

def k1m0 : Method := { name := "<init>", desc := "()V", sig := { parameters := [], returnType := none }, accessFlags := 2, code := none }
def k1c1 : Code := { maxStack := 2, maxLocals := 2, code := method_2_code, exceptionTable := #[], attributes := #[] }
def k1m1 : Method := { name := "kindOf", desc := "(I)Lcom/example/episodic/episodic/Statement$Kind;", sig := { parameters := [.int], returnType := some (.object "com/example/episodic/episodic/Statement$Kind") }, accessFlags := 10, code := some k1c1 }
def k1c2 : Code := { maxStack := 3, maxLocals := 5, code := code, exceptionTable := #[], attributes := #[] }
def k1m2 : Method := { name := "law", desc := "(III)Z", sig := { parameters := [.int, .int, .int], returnType := some .boolean }, accessFlags := 9, code := some k1c2 }
/-- com/example/episodic/episodic/StatementResultChangedPinLaw -/
def k1 : Class := { plain "com/example/episodic/episodic/StatementResultChangedPinLaw" (some 0) with
  accessFlags := 49
  interfaces := #[]
  cf := some (fileOf pool1 35 #[] #[{ accessFlags := 2, nameIndex := 5, descriptorIndex := 6, attributes := #[] }, { accessFlags := 10, nameIndex := 38, descriptorIndex := 39, attributes := #[] }, { accessFlags := 9, nameIndex := 76, descriptorIndex := 77, attributes := #[] }] 49 2 #[] #[])
  fields := #[]
  methods := #[k1m0, k1m1, k1m2]
  instanceTypes := #[]
  staticTypes := #[]
  resolved := Array.replicate 84 none
  statics := none }

def pool2 : Array CpInfo := pool [(1, .class_ 2), (0, u "java/lang/constant/Constable"), (0, .class_ 4), (0, u "java/lang/Object")] 6

/-- java/lang/constant/Constable -/
def k2 : Class := { plain "java/lang/constant/Constable" (some 0) with
  accessFlags := 1537
  interfaces := #[]
  cf := some (fileOf pool2 1 #[] #[] 1537 3 #[] #[])
  fields := #[]
  methods := #[]
  instanceTypes := #[]
  staticTypes := #[]
  resolved := Array.replicate 11 none
  statics := none }

def pool3 : Array CpInfo := pool [(1, .class_ 2), (0, u "java/lang/Comparable"), (0, .class_ 4), (0, u "java/lang/Object")] 7

/-- java/lang/Comparable -/
def k3 : Class := { plain "java/lang/Comparable" (some 0) with
  accessFlags := 1537
  interfaces := #[]
  cf := some (fileOf pool3 1 #[] #[] 1537 3 #[] #[])
  fields := #[]
  methods := #[]
  instanceTypes := #[]
  staticTypes := #[]
  resolved := Array.replicate 12 none
  statics := none }

def pool4 : Array CpInfo := pool [(1, .class_ 2), (0, u "java/io/Serializable"), (0, .class_ 4), (0, u "java/lang/Object")] 2

/-- java/io/Serializable -/
def k4 : Class := { plain "java/io/Serializable" (some 0) with
  accessFlags := 1537
  interfaces := #[]
  cf := some (fileOf pool4 1 #[] #[] 1537 3 #[] #[])
  fields := #[]
  methods := #[]
  instanceTypes := #[]
  staticTypes := #[]
  resolved := Array.replicate 7 none
  statics := none }

def pool5 : Array CpInfo := pool [(2, .class_ 4), (1, u "java/lang/Enum"), (0, u "name"), (0, u "Ljava/lang/String;"), (2, u "ordinal"), (0, u "I"), (1, .class_ 14), (1, u "java/lang/Object"), (4, u "hash"), (86, .class_ 108), (1, u "java/lang/Enum$EnumDesc"), (2, .class_ 112), (0, u "java/lang/constant/Constable"), (0, .class_ 114), (0, u "java/lang/Comparable"), (0, .class_ 116), (0, u "java/io/Serializable")] 87

/-- java/lang/Enum -/
def k5 : Class := { plain "java/lang/Enum" (some 0) with
  accessFlags := 1057
  interfaces := #[2, 3, 4]
  cf := some (fileOf pool5 2 #[.nestMembers #[106]] #[] 1057 12 #[111, 113, 115] #[{ accessFlags := 18, nameIndex := 5, descriptorIndex := 6, attributes := #[] }, { accessFlags := 18, nameIndex := 9, descriptorIndex := 10, attributes := #[] }, { accessFlags := 2, nameIndex := 19, descriptorIndex := 10, attributes := #[] }])
  fields := #[{ name := "name", type := (.object "java/lang/String"), accessFlags := 18, slot := 0, constantValue := 0 }, { name := "ordinal", type := .int, accessFlags := 18, slot := 1, constantValue := 0 }, { name := "hash", type := .int, accessFlags := 2, slot := 2, constantValue := 0 }]
  methods := #[]
  instanceTypes := #[(.object "java/lang/String"), .int, .int]
  staticTypes := #[]
  resolved := Array.replicate 204 none
  statics := none }

def pool6 : Array CpInfo := pool [(1, .class_ 2), (0, u "com/example/episodic/episodic/Statement$Kind"), (2, u "CREATE_TABLE"), (0, u "Lcom/example/episodic/episodic/Statement$Kind;"), (2, u "DROP_TABLE"), (2, u "SET_NOW"), (2, u "INSERT"), (2, u "UPDATE"), (2, u "DELETE"), (2, u "SELECT"), (2, u "SHOW_ROWS"), (2, u "$VALUES"), (0, u "[Lcom/example/episodic/episodic/Statement$Kind;"), (6, .class_ 40), (1, u "java/lang/Enum"), (8, u "changesRows"), (0, u "Z"), (40, .class_ 92), (0, u "com/example/episodic/episodic/Statement")] 2

/-- com/example/episodic/episodic/Statement$Kind -/
def k6 : Class := { plain "com/example/episodic/episodic/Statement$Kind" (some 5) with
  accessFlags := 16433
  interfaces := #[]
  cf := some (fileOf pool6 1 #[.nestHost 91] #[] 16433 38 #[] #[{ accessFlags := 16409, nameIndex := 5, descriptorIndex := 6, attributes := #[] }, { accessFlags := 16409, nameIndex := 9, descriptorIndex := 6, attributes := #[] }, { accessFlags := 16409, nameIndex := 12, descriptorIndex := 6, attributes := #[] }, { accessFlags := 16409, nameIndex := 15, descriptorIndex := 6, attributes := #[] }, { accessFlags := 16409, nameIndex := 18, descriptorIndex := 6, attributes := #[] }, { accessFlags := 16409, nameIndex := 21, descriptorIndex := 6, attributes := #[] }, { accessFlags := 16409, nameIndex := 24, descriptorIndex := 6, attributes := #[] }, { accessFlags := 16409, nameIndex := 27, descriptorIndex := 6, attributes := #[] }, { accessFlags := 18, nameIndex := 49, descriptorIndex := 50, attributes := #[] }, { accessFlags := 4122, nameIndex := 30, descriptorIndex := 31, attributes := #[] }])
  fields := #[{ name := "CREATE_TABLE", type := (.object "com/example/episodic/episodic/Statement$Kind"), accessFlags := 16409, slot := 0, constantValue := 0 }, { name := "DROP_TABLE", type := (.object "com/example/episodic/episodic/Statement$Kind"), accessFlags := 16409, slot := 1, constantValue := 0 }, { name := "SET_NOW", type := (.object "com/example/episodic/episodic/Statement$Kind"), accessFlags := 16409, slot := 2, constantValue := 0 }, { name := "INSERT", type := (.object "com/example/episodic/episodic/Statement$Kind"), accessFlags := 16409, slot := 3, constantValue := 0 }, { name := "UPDATE", type := (.object "com/example/episodic/episodic/Statement$Kind"), accessFlags := 16409, slot := 4, constantValue := 0 }, { name := "DELETE", type := (.object "com/example/episodic/episodic/Statement$Kind"), accessFlags := 16409, slot := 5, constantValue := 0 }, { name := "SELECT", type := (.object "com/example/episodic/episodic/Statement$Kind"), accessFlags := 16409, slot := 6, constantValue := 0 }, { name := "SHOW_ROWS", type := (.object "com/example/episodic/episodic/Statement$Kind"), accessFlags := 16409, slot := 7, constantValue := 0 }, { name := "changesRows", type := .boolean, accessFlags := 18, slot := 3, constantValue := 0 }, { name := "$VALUES", type := (.array (.object "com/example/episodic/episodic/Statement$Kind")), accessFlags := 4122, slot := 8, constantValue := 0 }]
  methods := #[]
  instanceTypes := #[(.object "java/lang/String"), .int, .int, .boolean]
  staticTypes := #[(.object "com/example/episodic/episodic/Statement$Kind"), (.object "com/example/episodic/episodic/Statement$Kind"), (.object "com/example/episodic/episodic/Statement$Kind"), (.object "com/example/episodic/episodic/Statement$Kind"), (.object "com/example/episodic/episodic/Statement$Kind"), (.object "com/example/episodic/episodic/Statement$Kind"), (.object "com/example/episodic/episodic/Statement$Kind"), (.object "com/example/episodic/episodic/Statement$Kind"), (.array (.object "com/example/episodic/episodic/Statement$Kind"))]
  resolved := Array.replicate 95 none
  statics := some 0 }

def pool7 : Array CpInfo := pool [(1, .methodref 2 3), (0, .class_ 4), (0, .nameAndType 5 6), (0, u "java/lang/Object"), (0, u "<init>"), (0, u "()V"), (0, .class_ 8), (0, u "java/lang/Record")] 13

def k7c0 : Code := { maxStack := 1, maxLocals := 1, code := jdk_30_method_1_code, exceptionTable := #[], attributes := #[] }
def k7m0 : Method := { name := "<init>", desc := "()V", sig := { parameters := [], returnType := none }, accessFlags := 4, code := some k7c0 }
/-- java/lang/Record -/
def k7 : Class := { plain "java/lang/Record" (some 0) with
  accessFlags := 1057
  interfaces := #[]
  cf := some (fileOf pool7 7 #[] #[{ accessFlags := 4, nameIndex := 5, descriptorIndex := 6, attributes := #[] }] 1057 2 #[] #[])
  fields := #[]
  methods := #[k7m0]
  instanceTypes := #[]
  staticTypes := #[]
  resolved := Array.replicate 22 none
  statics := none }

def pool8 : Array CpInfo := pool [(1, .methodref 2 3), (0, .class_ 4), (0, .nameAndType 5 6), (0, u "java/lang/Record"), (0, u "<init>"), (0, u "()V"), (0, .fieldref 8 9), (0, .class_ 10), (0, .nameAndType 11 12), (0, u "com/example/episodic/episodic/StatementResult"), (0, u "kind"), (0, u "Lcom/example/episodic/episodic/Statement$Kind;"), (0, .fieldref 8 14), (0, .nameAndType 15 16), (0, u "errorClass"), (0, u "Lcom/example/episodic/episodic/ErrorClass;"), (0, .fieldref 8 18), (0, .nameAndType 19 20), (0, u "message"), (0, u "Ljava/lang/String;"), (0, .fieldref 8 22), (0, .nameAndType 23 24), (0, u "withdrawn"), (0, u "I"), (0, .fieldref 8 26), (0, .nameAndType 27 24), (0, u "created"), (0, .fieldref 8 29), (0, .nameAndType 30 31), (0, u "rows"), (0, u "Lcom/example/episodic/episodic/Rows;"), (0, .methodref 8 33), (0, .nameAndType 5 34), (0, u "(Lcom/example/episodic/episodic/Statement$Kind;Lcom/example/episodic/episodic/ErrorClass;Ljava/lang/String;IILcom/example/episodic/episodic/Rows;)V"), (4, u "()Lcom/example/episodic/episodic/ErrorClass;"), (3, u "()Ljava/lang/String;"), (5, u "isRejected"), (0, u "()Z"), (58, u "()I"), (80, u "changed"), (0, u "(Lcom/example/episodic/episodic/Statement$Kind;II)Lcom/example/episodic/episodic/StatementResult;"), (7, u "()Lcom/example/episodic/episodic/Statement$Kind;"), (0, u "()Lcom/example/episodic/episodic/Rows;")] 28

def k8c0 : Code := { maxStack := 2, maxLocals := 7, code := prog_42_method_1_code, exceptionTable := #[], attributes := #[] }
def k8m0 : Method := { name := "<init>", desc := "(Lcom/example/episodic/episodic/Statement$Kind;Lcom/example/episodic/episodic/ErrorClass;Ljava/lang/String;IILcom/example/episodic/episodic/Rows;)V", sig := { parameters := [(.object "com/example/episodic/episodic/Statement$Kind"), (.object "com/example/episodic/episodic/ErrorClass"), (.object "java/lang/String"), .int, .int, (.object "com/example/episodic/episodic/Rows")], returnType := none }, accessFlags := 1, code := some k8c0 }
def k8c1 : Code := { maxStack := 8, maxLocals := 3, code := prog_42_method_3_code, exceptionTable := #[], attributes := #[] }
def k8m1 : Method := { name := "changed", desc := "(Lcom/example/episodic/episodic/Statement$Kind;II)Lcom/example/episodic/episodic/StatementResult;", sig := { parameters := [(.object "com/example/episodic/episodic/Statement$Kind"), .int, .int], returnType := some (.object "com/example/episodic/episodic/StatementResult") }, accessFlags := 8, code := some k8c1 }
def k8c2 : Code := { maxStack := 1, maxLocals := 1, code := prog_42_method_6_code, exceptionTable := #[], attributes := #[] }
def k8m2 : Method := { name := "isRejected", desc := "()Z", sig := { parameters := [], returnType := some .boolean }, accessFlags := 1, code := some k8c2 }
def k8c3 : Code := { maxStack := 1, maxLocals := 1, code := prog_42_method_13_code, exceptionTable := #[], attributes := #[] }
def k8m3 : Method := { name := "kind", desc := "()Lcom/example/episodic/episodic/Statement$Kind;", sig := { parameters := [], returnType := some (.object "com/example/episodic/episodic/Statement$Kind") }, accessFlags := 1, code := some k8c3 }
def k8c4 : Code := { maxStack := 1, maxLocals := 1, code := prog_42_method_14_code, exceptionTable := #[], attributes := #[] }
def k8m4 : Method := { name := "errorClass", desc := "()Lcom/example/episodic/episodic/ErrorClass;", sig := { parameters := [], returnType := some (.object "com/example/episodic/episodic/ErrorClass") }, accessFlags := 1, code := some k8c4 }
def k8c5 : Code := { maxStack := 1, maxLocals := 1, code := prog_42_method_15_code, exceptionTable := #[], attributes := #[] }
def k8m5 : Method := { name := "message", desc := "()Ljava/lang/String;", sig := { parameters := [], returnType := some (.object "java/lang/String") }, accessFlags := 1, code := some k8c5 }
def k8c6 : Code := { maxStack := 1, maxLocals := 1, code := prog_42_method_16_code, exceptionTable := #[], attributes := #[] }
def k8m6 : Method := { name := "withdrawn", desc := "()I", sig := { parameters := [], returnType := some .int }, accessFlags := 1, code := some k8c6 }
def k8c7 : Code := { maxStack := 1, maxLocals := 1, code := prog_42_method_17_code, exceptionTable := #[], attributes := #[] }
def k8m7 : Method := { name := "created", desc := "()I", sig := { parameters := [], returnType := some .int }, accessFlags := 1, code := some k8c7 }
def k8c8 : Code := { maxStack := 1, maxLocals := 1, code := prog_42_method_18_code, exceptionTable := #[], attributes := #[] }
def k8m8 : Method := { name := "rows", desc := "()Lcom/example/episodic/episodic/Rows;", sig := { parameters := [], returnType := some (.object "com/example/episodic/episodic/Rows") }, accessFlags := 1, code := some k8c8 }
/-- com/example/episodic/episodic/StatementResult -/
def k8 : Class := { plain "com/example/episodic/episodic/StatementResult" (some 7) with
  accessFlags := 49
  interfaces := #[]
  cf := some (fileOf pool8 8 #[] #[{ accessFlags := 1, nameIndex := 5, descriptorIndex := 34, attributes := #[] }, { accessFlags := 8, nameIndex := 190, descriptorIndex := 191, attributes := #[] }, { accessFlags := 1, nameIndex := 49, descriptorIndex := 50, attributes := #[] }, { accessFlags := 1, nameIndex := 11, descriptorIndex := 199, attributes := #[] }, { accessFlags := 1, nameIndex := 15, descriptorIndex := 39, attributes := #[] }, { accessFlags := 1, nameIndex := 19, descriptorIndex := 43, attributes := #[] }, { accessFlags := 1, nameIndex := 23, descriptorIndex := 109, attributes := #[] }, { accessFlags := 1, nameIndex := 27, descriptorIndex := 109, attributes := #[] }, { accessFlags := 1, nameIndex := 30, descriptorIndex := 200, attributes := #[] }] 49 2 #[] #[{ accessFlags := 18, nameIndex := 11, descriptorIndex := 12, attributes := #[] }, { accessFlags := 18, nameIndex := 15, descriptorIndex := 16, attributes := #[] }, { accessFlags := 18, nameIndex := 19, descriptorIndex := 20, attributes := #[] }, { accessFlags := 18, nameIndex := 23, descriptorIndex := 24, attributes := #[] }, { accessFlags := 18, nameIndex := 27, descriptorIndex := 24, attributes := #[] }, { accessFlags := 18, nameIndex := 30, descriptorIndex := 31, attributes := #[] }])
  fields := #[{ name := "kind", type := (.object "com/example/episodic/episodic/Statement$Kind"), accessFlags := 18, slot := 0, constantValue := 0 }, { name := "errorClass", type := (.object "com/example/episodic/episodic/ErrorClass"), accessFlags := 18, slot := 1, constantValue := 0 }, { name := "message", type := (.object "java/lang/String"), accessFlags := 18, slot := 2, constantValue := 0 }, { name := "withdrawn", type := .int, accessFlags := 18, slot := 3, constantValue := 0 }, { name := "created", type := .int, accessFlags := 18, slot := 4, constantValue := 0 }, { name := "rows", type := (.object "com/example/episodic/episodic/Rows"), accessFlags := 18, slot := 5, constantValue := 0 }]
  methods := #[k8m0, k8m1, k8m2, k8m3, k8m4, k8m5, k8m6, k8m7, k8m8]
  instanceTypes := #[(.object "com/example/episodic/episodic/Statement$Kind"), (.object "com/example/episodic/episodic/ErrorClass"), (.object "java/lang/String"), .int, .int, (.object "com/example/episodic/episodic/Rows")]
  staticTypes := #[]
  resolved := Array.replicate 229 none
  statics := none }

def pool9 : Array CpInfo := pool [(1, u "java/lang/Cloneable"), (0, .class_ 1), (0, u "java/lang/Object"), (0, .class_ 3)] 3

/-- java/lang/Cloneable -/
def k9 : Class := { plain "java/lang/Cloneable" (some 0) with
  accessFlags := 1537
  interfaces := #[]
  cf := some (fileOf pool9 2 #[] #[] 1537 4 #[] #[])
  fields := #[]
  methods := #[]
  instanceTypes := #[]
  staticTypes := #[]
  resolved := Array.replicate 8 none
  statics := none }

/-- the primitive byte -/
def k10 : Class := { plain "byte" none with kind := .primitive 'B', accessFlags := 0x411 }
/-- [B -/
def k11 : Class := { plain "[B" (some 0) with kind := .array 10 .byte, interfaces := #[9, 4], accessFlags := 1041 }

/-- the primitive int -/
def k12 : Class := { plain "int" none with kind := .primitive 'I', accessFlags := 0x411 }
/-- [I -/
def k13 : Class := { plain "[I" (some 0) with kind := .array 12 .int, interfaces := #[9, 4], accessFlags := 1041 }

def heap : Heap := #[{ cls := 6, slots := #[.ref 1, .ref 2, .ref 3, .ref 4, .ref 5, .ref 6, .ref 7, .ref 8, .null], vm := .statics 6 },
  { cls := 6, slots := #[.null, .int 0, .int 0, .int 0], vm := .none },
  { cls := 6, slots := #[.null, .int 1, .int 0, .int 0], vm := .none },
  { cls := 6, slots := #[.null, .int 2, .int 0, .int 0], vm := .none },
  { cls := 6, slots := #[.null, .int 3, .int 0, .int 0], vm := .none },
  { cls := 6, slots := #[.null, .int 4, .int 0, .int 0], vm := .none },
  { cls := 6, slots := #[.null, .int 5, .int 0, .int 0], vm := .none },
  { cls := 6, slots := #[.null, .int 6, .int 0, .int 0], vm := .none },
  { cls := 6, slots := #[.null, .int 7, .int 0, .int 0], vm := .none }]
def classes : Array Class := #[k0, k1, k2, k3, k4, k5, k6, k7, k8, k9, k10, k11, k12, k13]
def interned : List (Array UInt16 × Addr) := []
def slotsUsed : Nat := 41
def theMethod : MethodId := ⟨1, 2⟩
def args0 : Array Value := #[.int 5, .int 7, .int 9]
def aboutOver (below : List Frame) : State where
  vm := { classes := classes, interned := interned.toArray }
  heap := heap
  slotsUsed := slotsUsed
  threads := #[{ frames := .invoking theMethod args0 :: below }]
def below0 : List Frame := [.native { method := ⟨0, 0⟩, args := #[] }]
def about1 : State := aboutOver below0
def p0 : Program := .bare "" "" ""
def e0 : Env := launch0.env 0 0 0
theorem w_frames : about1.frames = Frame.invoking theMethod args0 :: below0 := rfl
set_option maxRecDepth 65536 in
theorem w_args : argsFit about1.vm theMethod args0 = true := by decide +kernel
set_option maxRecDepth 65536 in
theorem w_heap : heapFits about1 = true := by decide +kernel
set_option maxRecDepth 65536 in
theorem w_runnable : about1.curStatus? = some .runnable := by decide +kernel
set_option maxRecDepth 65536 in
theorem w_alone : about1.alone = true := by decide +kernel
set_option maxRecDepth 65536 in
theorem w_named : about1.methodNamed? x = some theMethod := by decide +kernel
set_option maxRecDepth 65536 in
theorem w_hears : about1.hears theMethod below0 = true := by decide +kernel
set_option maxRecDepth 65536 in
theorem w_ripe : about1.ripe theMethod args0 below0 = true := by decide +kernel
theorem w_running : about1.status = .running := rfl
set_option maxRecDepth 65536 in
theorem w_room : about1.hasRoom e0.platform room_1 = true :=
  launch0.hasRoom_least _ room_1 (by decide +kernel) (by decide +kernel) (by decide +kernel) (by decide +kernel) (by decide +kernel) (by decide +kernel)
theorem allAtoms_all (ts : List Jvm.Cond) (a : Array Jvm.Value) (st : Jvm.State) : (allAtoms ts).before a st = ts.all (fun c => c.before a st) := by
  induction ts with
  | nil => rfl
  | cons c t ih =>
    show (Jvm.Cond.and c (allAtoms t)).before a st = _
    rw [Jvm.Cond.before_and, ih, List.all_cons]
def words1 : List Jvm.Cond := Jvm.Cond.code x code maxLocals ret :: tables_1
/-- a 'code' word, met by the world's own term for the bytes: nothing is compared byte by byte -/
theorem code_word {y : MethodName} {bytes : ByteArray} {mx : Nat} {rt : Option FieldType} {a : Array Value} {s : State} {m : MethodId} {meth : Method} {c : Code} (h1 : s.methodNamed? y = some m) (h2 : s.vm.method? m = some meth) (h3 : meth.code = some c) (h4 : c.code = bytes)
    (h5 : (c.maxLocals == mx && c.exceptionTable.isEmpty && decide (c.maxStack ≤ mostOperands) && decide (meth.sig.returnType = rt) && !meth.locks && decide (parseMethodDescriptor y.desc = some meth.sig)) = true) : (Jvm.Cond.code y bytes mx rt).before a s = true := by
  simp only [Bool.and_eq_true, beq_iff_eq, Bool.not_eq_true', decide_eq_true_eq] at h5
  obtain ⟨⟨⟨⟨⟨g1, g2⟩, g3⟩, g4⟩, g5⟩, g6⟩ := h5
  simp [Cond.before, Cond.holds, Cond.value, h1, h2, h3, h4, g1, g2, g3, g4, g5, g6]
def isCode : Jvm.Cond → Bool
  | .code _ _ _ _ => true
  | _ => false
theorem all_split {L : List Jvm.Cond} {P : Jvm.Cond → Bool} (h1 : L.all (fun c => isCode c || P c) = true) (h2 : ∀ c ∈ L.filter isCode, P c = true) : L.all P = true := by
  refine List.all_eq_true.mpr fun c hc => ?_
  have h := List.all_eq_true.mp h1 c hc
  rcases Bool.eq_false_or_eq_true (isCode c) with hi | hi
  · exact h2 c (List.mem_filter.mpr ⟨hc, hi⟩)
  · simpa [hi] using h
set_option maxRecDepth 65536 in
theorem w_c0 : (Jvm.Cond.code x code maxLocals ret).before args0 about1 = true := code_word (m := ⟨1, 2⟩) (meth := k1m2) (c := k1c2) (by decide +kernel) rfl rfl rfl (by decide +kernel)
set_option maxRecDepth 65536 in
theorem w_c1 : (Jvm.Cond.code ({ cls := "com/example/episodic/episodic/StatementResultChangedPinLaw", name := "kindOf", desc := "(I)Lcom/example/episodic/episodic/Statement$Kind;" } : Jvm.MethodName) method_2_code (2 : Nat) (Option.some (Jvm.ClassFile.FieldType.object "com/example/episodic/episodic/Statement$Kind"))).before args0 about1 = true := code_word (m := ⟨1, 1⟩) (meth := k1m1) (c := k1c1) (by decide +kernel) rfl rfl rfl (by decide +kernel)
set_option maxRecDepth 65536 in
theorem w_c2 : (Jvm.Cond.code ({ cls := "com/example/episodic/episodic/StatementResult", name := "changed", desc := "(Lcom/example/episodic/episodic/Statement$Kind;II)Lcom/example/episodic/episodic/StatementResult;" } : Jvm.MethodName) prog_42_method_3_code (3 : Nat) (Option.some (Jvm.ClassFile.FieldType.object "com/example/episodic/episodic/StatementResult"))).before args0 about1 = true := code_word (m := ⟨8, 1⟩) (meth := k8m1) (c := k8c1) (by decide +kernel) rfl rfl rfl (by decide +kernel)
set_option maxRecDepth 65536 in
theorem w_c3 : (Jvm.Cond.code ({ cls := "com/example/episodic/episodic/StatementResult", name := "<init>", desc := "(Lcom/example/episodic/episodic/Statement$Kind;Lcom/example/episodic/episodic/ErrorClass;Ljava/lang/String;IILcom/example/episodic/episodic/Rows;)V" } : Jvm.MethodName) prog_42_method_1_code (7 : Nat) (Option.none : Option Jvm.ClassFile.FieldType)).before args0 about1 = true := code_word (m := ⟨8, 0⟩) (meth := k8m0) (c := k8c0) (by decide +kernel) rfl rfl rfl (by decide +kernel)
set_option maxRecDepth 65536 in
theorem w_c4 : (Jvm.Cond.code ({ cls := "java/lang/Record", name := "<init>", desc := "()V" } : Jvm.MethodName) jdk_30_method_1_code (1 : Nat) (Option.none : Option Jvm.ClassFile.FieldType)).before args0 about1 = true := code_word (m := ⟨7, 0⟩) (meth := k7m0) (c := k7c0) (by decide +kernel) rfl rfl rfl (by decide +kernel)
set_option maxRecDepth 65536 in
theorem w_c5 : (Jvm.Cond.code ({ cls := "java/lang/Object", name := "<init>", desc := "()V" } : Jvm.MethodName) object_method_1_code (1 : Nat) (Option.none : Option Jvm.ClassFile.FieldType)).before args0 about1 = true := code_word (m := ⟨0, 0⟩) (meth := k0m0) (c := k0c0) (by decide +kernel) rfl rfl rfl (by decide +kernel)
set_option maxRecDepth 65536 in
theorem w_c6 : (Jvm.Cond.code ({ cls := "com/example/episodic/episodic/StatementResult", name := "kind", desc := "()Lcom/example/episodic/episodic/Statement$Kind;" } : Jvm.MethodName) prog_42_method_13_code (1 : Nat) (Option.some (Jvm.ClassFile.FieldType.object "com/example/episodic/episodic/Statement$Kind"))).before args0 about1 = true := code_word (m := ⟨8, 3⟩) (meth := k8m3) (c := k8c3) (by decide +kernel) rfl rfl rfl (by decide +kernel)
set_option maxRecDepth 65536 in
theorem w_c7 : (Jvm.Cond.code ({ cls := "com/example/episodic/episodic/StatementResult", name := "errorClass", desc := "()Lcom/example/episodic/episodic/ErrorClass;" } : Jvm.MethodName) prog_42_method_14_code (1 : Nat) (Option.some (Jvm.ClassFile.FieldType.object "com/example/episodic/episodic/ErrorClass"))).before args0 about1 = true := code_word (m := ⟨8, 4⟩) (meth := k8m4) (c := k8c4) (by decide +kernel) rfl rfl rfl (by decide +kernel)
set_option maxRecDepth 65536 in
theorem w_c8 : (Jvm.Cond.code ({ cls := "com/example/episodic/episodic/StatementResult", name := "message", desc := "()Ljava/lang/String;" } : Jvm.MethodName) prog_42_method_15_code (1 : Nat) (Option.some (Jvm.ClassFile.FieldType.object "java/lang/String"))).before args0 about1 = true := code_word (m := ⟨8, 5⟩) (meth := k8m5) (c := k8c5) (by decide +kernel) rfl rfl rfl (by decide +kernel)
set_option maxRecDepth 65536 in
theorem w_c9 : (Jvm.Cond.code ({ cls := "com/example/episodic/episodic/StatementResult", name := "withdrawn", desc := "()I" } : Jvm.MethodName) prog_42_method_16_code (1 : Nat) (Option.some Jvm.ClassFile.FieldType.int)).before args0 about1 = true := code_word (m := ⟨8, 6⟩) (meth := k8m6) (c := k8c6) (by decide +kernel) rfl rfl rfl (by decide +kernel)
set_option maxRecDepth 65536 in
theorem w_c10 : (Jvm.Cond.code ({ cls := "com/example/episodic/episodic/StatementResult", name := "created", desc := "()I" } : Jvm.MethodName) prog_42_method_17_code (1 : Nat) (Option.some Jvm.ClassFile.FieldType.int)).before args0 about1 = true := code_word (m := ⟨8, 7⟩) (meth := k8m7) (c := k8c7) (by decide +kernel) rfl rfl rfl (by decide +kernel)
set_option maxRecDepth 65536 in
theorem w_c11 : (Jvm.Cond.code ({ cls := "com/example/episodic/episodic/StatementResult", name := "rows", desc := "()Lcom/example/episodic/episodic/Rows;" } : Jvm.MethodName) prog_42_method_18_code (1 : Nat) (Option.some (Jvm.ClassFile.FieldType.object "com/example/episodic/episodic/Rows"))).before args0 about1 = true := code_word (m := ⟨8, 8⟩) (meth := k8m8) (c := k8c8) (by decide +kernel) rfl rfl rfl (by decide +kernel)
set_option maxRecDepth 65536 in
theorem w_c12 : (Jvm.Cond.code ({ cls := "com/example/episodic/episodic/StatementResult", name := "isRejected", desc := "()Z" } : Jvm.MethodName) prog_42_method_6_code (1 : Nat) (Option.some Jvm.ClassFile.FieldType.boolean)).before args0 about1 = true := code_word (m := ⟨8, 2⟩) (meth := k8m2) (c := k8c2) (by decide +kernel) rfl rfl rfl (by decide +kernel)
def codes1 : List Jvm.Cond := [Jvm.Cond.code x code maxLocals ret, Jvm.Cond.code ({ cls := "com/example/episodic/episodic/StatementResultChangedPinLaw", name := "kindOf", desc := "(I)Lcom/example/episodic/episodic/Statement$Kind;" } : Jvm.MethodName) method_2_code (2 : Nat) (Option.some (Jvm.ClassFile.FieldType.object "com/example/episodic/episodic/Statement$Kind")), Jvm.Cond.code ({ cls := "com/example/episodic/episodic/StatementResult", name := "changed", desc := "(Lcom/example/episodic/episodic/Statement$Kind;II)Lcom/example/episodic/episodic/StatementResult;" } : Jvm.MethodName) prog_42_method_3_code (3 : Nat) (Option.some (Jvm.ClassFile.FieldType.object "com/example/episodic/episodic/StatementResult")), Jvm.Cond.code ({ cls := "com/example/episodic/episodic/StatementResult", name := "<init>", desc := "(Lcom/example/episodic/episodic/Statement$Kind;Lcom/example/episodic/episodic/ErrorClass;Ljava/lang/String;IILcom/example/episodic/episodic/Rows;)V" } : Jvm.MethodName) prog_42_method_1_code (7 : Nat) (Option.none : Option Jvm.ClassFile.FieldType), Jvm.Cond.code ({ cls := "java/lang/Record", name := "<init>", desc := "()V" } : Jvm.MethodName) jdk_30_method_1_code (1 : Nat) (Option.none : Option Jvm.ClassFile.FieldType), Jvm.Cond.code ({ cls := "java/lang/Object", name := "<init>", desc := "()V" } : Jvm.MethodName) object_method_1_code (1 : Nat) (Option.none : Option Jvm.ClassFile.FieldType), Jvm.Cond.code ({ cls := "com/example/episodic/episodic/StatementResult", name := "kind", desc := "()Lcom/example/episodic/episodic/Statement$Kind;" } : Jvm.MethodName) prog_42_method_13_code (1 : Nat) (Option.some (Jvm.ClassFile.FieldType.object "com/example/episodic/episodic/Statement$Kind")), Jvm.Cond.code ({ cls := "com/example/episodic/episodic/StatementResult", name := "errorClass", desc := "()Lcom/example/episodic/episodic/ErrorClass;" } : Jvm.MethodName) prog_42_method_14_code (1 : Nat) (Option.some (Jvm.ClassFile.FieldType.object "com/example/episodic/episodic/ErrorClass")), Jvm.Cond.code ({ cls := "com/example/episodic/episodic/StatementResult", name := "message", desc := "()Ljava/lang/String;" } : Jvm.MethodName) prog_42_method_15_code (1 : Nat) (Option.some (Jvm.ClassFile.FieldType.object "java/lang/String")), Jvm.Cond.code ({ cls := "com/example/episodic/episodic/StatementResult", name := "withdrawn", desc := "()I" } : Jvm.MethodName) prog_42_method_16_code (1 : Nat) (Option.some Jvm.ClassFile.FieldType.int), Jvm.Cond.code ({ cls := "com/example/episodic/episodic/StatementResult", name := "created", desc := "()I" } : Jvm.MethodName) prog_42_method_17_code (1 : Nat) (Option.some Jvm.ClassFile.FieldType.int), Jvm.Cond.code ({ cls := "com/example/episodic/episodic/StatementResult", name := "rows", desc := "()Lcom/example/episodic/episodic/Rows;" } : Jvm.MethodName) prog_42_method_18_code (1 : Nat) (Option.some (Jvm.ClassFile.FieldType.object "com/example/episodic/episodic/Rows")), Jvm.Cond.code ({ cls := "com/example/episodic/episodic/StatementResult", name := "isRejected", desc := "()Z" } : Jvm.MethodName) prog_42_method_6_code (1 : Nat) (Option.some Jvm.ClassFile.FieldType.boolean)]
set_option maxRecDepth 65536 in
theorem codes_eq : words1.filter isCode = codes1 := rfl
theorem w_codes : ∀ c ∈ words1.filter isCode, c.before args0 about1 = true := by
  rw [codes_eq]
  intro c hc
  simp only [codes1, List.mem_cons, List.not_mem_nil, or_false] at hc
  rcases hc with rfl | rfl | rfl | rfl | rfl | rfl | rfl | rfl | rfl | rfl | rfl | rfl | rfl
  · exact w_c0
  · exact w_c1
  · exact w_c2
  · exact w_c3
  · exact w_c4
  · exact w_c5
  · exact w_c6
  · exact w_c7
  · exact w_c8
  · exact w_c9
  · exact w_c10
  · exact w_c11
  · exact w_c12
set_option maxRecDepth 65536 in
theorem w_t1 : (words1.take 24).all (fun c => isCode c || c.before args0 about1) = true := by decide +kernel
set_option maxRecDepth 65536 in
theorem w_t2 : ((words1.drop 24).take 24).all (fun c => isCode c || c.before args0 about1) = true := by decide +kernel
set_option maxRecDepth 65536 in
theorem w_t3 : (((words1.drop 24).drop 24).take 24).all (fun c => isCode c || c.before args0 about1) = true := by decide +kernel
set_option maxRecDepth 65536 in
theorem w_t4 : (((words1.drop 24).drop 24).drop 24).all (fun c => isCode c || c.before args0 about1) = true := by decide +kernel
theorem w_tables : (allAtoms (Jvm.Cond.code x code maxLocals ret :: tables_1)).before args0 about1 = true := by
  rw [allAtoms_all]
  show words1.all (fun c => c.before args0 about1) = true
  refine all_split ?_ w_codes
  rw [← List.take_append_drop 24 words1, List.all_append, w_t1, ← List.take_append_drop 24 (words1.drop 24), List.all_append, w_t2, ← List.take_append_drop 24 ((words1.drop 24).drop 24), List.all_append, w_t3, w_t4]
  rfl
set_option maxRecDepth 65536 in
theorem w_case : (Jvm.Cond.and given_1 narrow_1).before args0 about1 = true := by decide +kernel
theorem w_applies : (headSpec (Jvm.Cond.code x code maxLocals ret :: tables_1) room_1).applies x e0.platform about1 = true :=
  (Spec.applies_iff w_frames).mpr ⟨w_running, w_runnable, w_alone, w_named, w_hears, w_ripe, w_room, w_tables⟩
theorem atStart : AtStart classFile x code maxLocals ret World_1 tables_1 room_1 Calls_1 rest_1 Pre_1 launch0 p0 e0 about1 theMethod args0 below0 :=
  ⟨lists_1, trivial, launch0.admits_env _ _ _, launch0.least_env, fairChoices_fair.cas, fairChoices_fair.clock, w_frames, w_args, w_heap, w_applies, trivial, trivial, w_case⟩
end start1
theorem witness_1 : WitnessClaimed_1 := ⟨start1.p0, start1.e0, start1.about1, start1.theMethod, start1.args0, start1.below0, start1.atStart⟩
end Jvm.Pilot.@@N@@
