import JvmDerived
import JvmDerived.Pilot.@@N@@Statement
import JvmDerived.Pilot.@@N@@Code
set_option linter.unusedVariables false
set_option linter.unusedSimpArgs false
namespace Jvm.OwnGo
open Jvm Jvm.ClassFile Sem Op Lib Jvm.Free Jvm.Stand Jvm.LawKit Jvm.RoadKit
/-- the setting of one body's run -/
def Cx (p : Program) (l : Launch) (e : Env) (R : Room) (s : State) (m : MethodId) (meth : Method) (c : Code) (Z : State) (n0 : Nat) (y : MethodName) (code : ByteArray) (ml : Nat) (ret : Option FieldType) : Prop :=
  p.tables.exec = Jvm.exec ∧ Z.Warmed39 s.vm ∧ s.vm.findClass y.cls = some m.cls ∧ c.code = code ∧ c.maxLocals = ml ∧ meth.sig.returnType = ret ∧ meth.locks = false ∧ meth.name = y.name ∧ Old Z n0 s.heap
/-- from pc, with these locals, this stack and this heap, the body of y returns, Q holds of what it returns and leaves, and it has written in cells at or above n0 alone -/
def Go (l : Launch) (R : Room) (Z : State) (n0 : Nat) (y : MethodName) (code : ByteArray) (ml : Nat) (ret : Option FieldType) (Q : Option Value → Heap → Prop) (cells slots : Nat) (h : Heap) (pc : Nat) (Ls : Array Slot) (st : List Value) : Prop :=
  ∀ (p : Program) (e : Env) (s : State) (m : MethodId) (args : Array Value) (below : List Frame) (meth : Method) (c : Code) (T : State) (locs : List Loc),
    Cx p l e R s m meth c Z n0 y code ml ret → Stand p l e R s m args below meth c T locs cells slots → Fr n0 locs → T.heap = h →
    ∃ s₂ o, Steps p.tables e below (T.setTop (mkF m pc Ls st)) s₂ ∧ s₂.status = .running ∧ Ended s₂ below o ∧ ∃ v L, o = .returned v ∧ (Q v s₂.heap ∧ Fr n0 L) ∧ FrameEnd s o s₂ L R.cells R.slots
/-- what a body called with these arguments at the heap h does -/
def Con (l : Launch) (y : MethodName) (code : ByteArray) (ml : Nat) (ret : Option FieldType) (R : Room) (Z : State) (n0 : Nat) (as : Array Value) (h : Heap) (Q : Option Value → Heap → Prop) : Prop :=
  Old Z n0 h → ∀ ws, MetFree l y (head1 (Jvm.Cond.code y code ml ret :: ws) R) (fun a U => a = as ∧ Z.Warmed39 U.vm ∧ U.heap = h) (fun _ _ _ _ _ => True)
    (fun _ U o U' => ∃ v L, o = .returned v ∧ (Q v U'.heap ∧ Fr n0 L) ∧ FrameEnd U o U' L R.cells R.slots)
def Mi (Z : State) (C : String) (mr : Addr) : Prop := ∃ (c : ClassId) (k : Class), Z.vm.findClass C = some c ∧ Z.vm.classes[c]? = some k ∧ k.mirror = some mr
theorem Mi.at {Z s : State} {C : String} {mr : Addr} (M : Mi Z C mr) (hZ : Z.Warmed39 s.vm) : ∃ (c : ClassId) (k : Class), s.vm.findClass C = some c ∧ s.vm.classes[c]? = some k ∧ k.mirror = some mr := by
  obtain ⟨c, k, m1, m2, m3⟩ := M
  obtain ⟨k', q, ek⟩ := hZ.alike.2.2 _ _ m2
  exact ⟨c, k', by rw [hZ.alike.findClass]; exact m1, q, by rw [ek]; exact m3⟩
theorem own_sto {Z : State} {h : Heap} {a b : Addr} {kA : ClassId} {ty : FieldType} {z : Int32} {vs : List Value} {dv : Value} {C : String} (F : Arv Z h a kA ty z vs dv) (O : Ovr Z kA C) (I : Ins Z h b C true) : Sto Z h a (.ref b) := by
  obtain ⟨c, A, q, -⟩ := F; exact Sto.ofV A q O I
theorem own_nar (t : FieldType) {v : Value} (h : v.isRef = true) : narrow t v = v := by cases v <;> first | rfl | (cases t <;> rfl) | (simp [Value.isRef] at h)
theorem own_fits {t : FieldType} {v : Value} (ht : t.isReference = true) (h : v.isRef = true) : fits t v = true := by cases t <;> first | (cases ht; done) | (cases v <;> first | rfl | (simp [Value.isRef] at h))
theorem own_old {p : Program} {l : Launch} {e : Env} {R : Room} {s : State} {m : MethodId} {args : Array Value} {below : List Frame} {meth : Method} {c : Code} {T : State} {locs : List Loc} {cells slots n0 : Nat} {Z : State} {h : Heap} (O : Old Z n0 s.heap) (X : Stand p l e R s m args below meth c T locs cells slots) (N : Fr n0 locs) (eT : T.heap = h) : Old Z n0 h := by
  subst eT
  obtain ⟨-, g1, -, -, -, g2⟩ := X.same
  refine ⟨O.1, Nat.le_trans O.2.1 g1, fun a c ha => ?_⟩
  obtain ⟨c', q1, q2, q3, q4⟩ := g2 a c (O.2.2 a c ha)
  have hlt : a < n0 := O.1 ▸ (Array.getElem?_eq_some_iff.mp ha).1
  have e1 : c'.slots = c.slots := Array.ext_getElem? fun i => q4 i fun hm => absurd (N _ hm) (Nat.not_le.mpr hlt)
  have e2 : c' = c := by rw [q2, e1]
  rw [← e2]; exact q1
section Rules
variable {l : Launch} {R : Room} {Z : State} {n0 : Nat} {y : MethodName} {code : ByteArray} {ml : Nat} {ret : Option FieldType} {Q : Option Value → Heap → Prop} {cells slots : Nat} {h : Heap} {pc pc' : Nat} {Ls Ls' : Array Slot} {st st' rest : List Value} {a0 : Array Value}
theorem Con.of_go {as : Array Value} (hp : plainFor y = true) (he : ∀ m, entryFrame m as ml = mkF m 0 Ls []) (k : Go l R Z n0 y code ml ret Q 0 0 h 0 Ls []) : Con l y code ml ret R Z n0 as h Q := by
  intro hn ws
  refine MetFree.of_bodySF hp hisR ?_
  intro p e s m args below meth c s₁ Bd hml0 hP hK
  obtain ⟨rfl, hZ, hh⟩ := hP
  have e0 : s₁.heap = h := by rw [← hh, Bd.state]; rfl
  have X0 : Stand p l e R s m args below meth c s₁ [] 0 0 := Stand.of_body Bd
  obtain ⟨s₂, o, h1, h2, h3, h4⟩ := k p e s m args below meth c s₁ [] ⟨Bd.exec, hZ, findClass_of_methodNamed Bd.named, Bd.bytes, hml0, Bd.returns, Bd.notSynchronized, (name_of_methodNamed Bd.named Bd.method).1, by rw [hh]; exact hn⟩ X0 (Fr.nil n0) e0
  exact ⟨s₂, o, castTop (he m) h1, h2, h3, h4⟩
theorem Con.mono {as : Array Value} {Q' : Option Value → Heap → Prop} (k : Con l y code ml ret R Z n0 as h Q) (hq : ∀ v h', Q v h' → Q' v h') : Con l y code ml ret R Z n0 as h Q' := by
  intro hn ws
  refine (k hn ws).mono (fun _ _ q => q) (fun _ _ _ _ _ q => q) ?_
  rintro a U o U' hP ⟨v, L, e, ⟨q, N⟩, r⟩
  exact ⟨v, L, e, ⟨hq _ _ q, N⟩, r⟩
theorem Go.mono {Q' : Option Value → Heap → Prop} (k : Go l R Z n0 y code ml ret Q' cells slots h pc Ls st) (hq : ∀ v h', Q' v h' → Q v h') : Go l R Z n0 y code ml ret Q cells slots h pc Ls st := by
  intro p e s m args below meth c T locs C X N eT
  obtain ⟨s₂, o, h1, h2, h3, v, L, h4, ⟨h5, h6⟩, h7⟩ := k p e s m args below meth c T locs C X N eT
  exact ⟨s₂, o, h1, h2, h3, v, L, h4, ⟨hq _ _ h5, h6⟩, h7⟩
theorem Go.more {cells' slots' : Nat} (k : Go l R Z n0 y code ml ret Q cells' slots' h pc Ls st) (hc : cells ≤ cells') (hs : slots ≤ slots') : Go l R Z n0 y code ml ret Q cells slots h pc Ls st := by
  intro p e s m args below meth c T locs C X N eT
  exact k p e s m args below meth c T locs C (X.more hc hs) N eT
theorem Go.old (k : Old Z n0 h → Go l R Z n0 y code ml ret Q cells slots h pc Ls st) : Go l R Z n0 y code ml ret Q cells slots h pc Ls st := by
  intro p e s m args below meth c T locs C X N eT
  exact k (own_old C.2.2.2.2.2.2.2.2 X N eT) p e s m args below meth c T locs C X N eT
theorem Go.step (hst : ∀ {p : Program} {e : Env} {s : State} {m : MethodId} {args : Array Value} {below : List Frame} {meth : Method} {c : Code} {T : State} {locs : List Loc} {target : State},
      Cx p l e R s m meth c Z n0 y code ml ret → Stand p l e R s m args below meth c T locs cells slots → T.heap = h → Steps p.tables e below (T.setTop (mkF m pc' Ls' st')) target → Steps p.tables e below (T.setTop (mkF m pc Ls st)) target)
    (k : Go l R Z n0 y code ml ret Q cells slots h pc' Ls' st') : Go l R Z n0 y code ml ret Q cells slots h pc Ls st := by
  intro p e s m args below meth c T locs C X N eT
  obtain ⟨s₂, o, h1, h2⟩ := k p e s m args below meth c T locs C X N eT
  exact ⟨s₂, o, hst C X eT h1, h2⟩
theorem Go.law {cells' slots' : Nat} {P : Heap → Prop} (hst : ∀ {p : Program} {e : Env} {s : State} {m : MethodId} {args : Array Value} {below : List Frame} {meth : Method} {c : Code} {T : State} {locs : List Loc},
      Cx p l e R s m meth c Z n0 y code ml ret → Stand p l e R s m args below meth c T locs cells slots → Fr n0 locs → T.heap = h → n0 ≤ h.size →
      ∃ T' locs' h', Stand p l e R s m args below meth c T' locs' cells' slots' ∧ Fr n0 locs' ∧ T'.heap = h' ∧ P h' ∧ ∀ target, Steps p.tables e below (T'.setTop (mkF m pc' Ls' st')) target → Steps p.tables e below (T.setTop (mkF m pc Ls st)) target)
    (k : ∀ h', P h' → Go l R Z n0 y code ml ret Q cells' slots' h' pc' Ls' st') : Go l R Z n0 y code ml ret Q cells slots h pc Ls st := by
  intro p e s m args below meth c T locs C X N eT
  have hold : Old Z n0 h := own_old C.2.2.2.2.2.2.2.2 X N eT
  obtain ⟨T', locs', h', X', N', e', hP, st⟩ := hst C X N eT (hold.1 ▸ hold.2.1)
  obtain ⟨s₂, o, h1, h2⟩ := k h' hP p e s m args below meth c T' locs' C X' N' e'
  exact ⟨s₂, o, st _ h1, h2⟩
theorem Go.iloadN {k : Fin 4} {v : Int32} (hd : decode code pc = .ok (.iload_n k, 1)) (hl : Ls[k.val]? = some (.val (.int v))) (hp : pc + 1 = pc') (k : Go l R Z n0 y code ml ret Q cells slots h pc' Ls (.int v :: st)) : Go l R Z n0 y code ml ret Q cells slots h pc Ls st := Go.step (fun C X _ q => by subst hp; exact XS.iloadN X.here C.1 rfl (hb C.2.2.2.1 hd) hl q) k
theorem Go.iload {k : Nat} {v : Int32} (hd : decode code pc = .ok (.iload k, 2)) (hl : Ls[k]? = some (.val (.int v))) (hp : pc + 2 = pc') (k : Go l R Z n0 y code ml ret Q cells slots h pc' Ls (.int v :: st)) : Go l R Z n0 y code ml ret Q cells slots h pc Ls st := Go.step (fun C X _ q => by subst hp; exact XS.iload X.here C.1 rfl (hb C.2.2.2.1 hd) hl q) k
theorem Go.lloadN {k : Fin 4} {v : Int64} (hd : decode code pc = .ok (.lload_n k, 1)) (hl : Ls[k.val]? = some (.val (.long v))) (hp : pc + 1 = pc') (k : Go l R Z n0 y code ml ret Q cells slots h pc' Ls (.long v :: st)) : Go l R Z n0 y code ml ret Q cells slots h pc Ls st := Go.step (fun C X _ q => by subst hp; exact XT.lloadN X.here C.1 rfl (hb C.2.2.2.1 hd) hl q) k
theorem Go.lload {k : Nat} {v : Int64} (hd : decode code pc = .ok (.lload k, 2)) (hl : Ls[k]? = some (.val (.long v))) (hp : pc + 2 = pc') (k : Go l R Z n0 y code ml ret Q cells slots h pc' Ls (.long v :: st)) : Go l R Z n0 y code ml ret Q cells slots h pc Ls st := Go.step (fun C X _ q => by subst hp; exact XT.lload X.here C.1 rfl (hb C.2.2.2.1 hd) hl q) k
theorem Go.aloadN {k : Fin 4} {v : Value} (hd : decode code pc = .ok (.aload_n k, 1)) (hl : Ls[k.val]? = some (.val v)) (hv : v.isRef = true) (hp : pc + 1 = pc') (k : Go l R Z n0 y code ml ret Q cells slots h pc' Ls (v :: st)) : Go l R Z n0 y code ml ret Q cells slots h pc Ls st := Go.step (fun C X _ q => by subst hp; exact XS.aloadN X.here C.1 rfl (hb C.2.2.2.1 hd) hl hv q) k
theorem Go.aload {k : Nat} {v : Value} (hd : decode code pc = .ok (.aload k, 2)) (hl : Ls[k]? = some (.val v)) (hv : v.isRef = true) (hp : pc + 2 = pc') (k : Go l R Z n0 y code ml ret Q cells slots h pc' Ls (v :: st)) : Go l R Z n0 y code ml ret Q cells slots h pc Ls st := Go.step (fun C X _ q => by subst hp; exact XS.aload X.here C.1 rfl (hb C.2.2.2.1 hd) hl hv q) k
theorem Go.istoreN {k : Fin 4} {v : Int32} (hd : decode code pc = .ok (.istore_n k, 1)) (hl : storeLocals Ls k.val (.int v) = some Ls') (hp : pc + 1 = pc') (k : Go l R Z n0 y code ml ret Q cells slots h pc' Ls' st) : Go l R Z n0 y code ml ret Q cells slots h pc Ls (.int v :: st) := Go.step (fun C X _ q => by subst hp; exact XS.istoreN X.here C.1 rfl (hb C.2.2.2.1 hd) rfl hl q) k
theorem Go.istore {k : Nat} {v : Int32} (hd : decode code pc = .ok (.istore k, 2)) (hl : storeLocals Ls k (.int v) = some Ls') (hp : pc + 2 = pc') (k : Go l R Z n0 y code ml ret Q cells slots h pc' Ls' st) : Go l R Z n0 y code ml ret Q cells slots h pc Ls (.int v :: st) := Go.step (fun C X _ q => by subst hp; exact XS.istore X.here C.1 rfl (hb C.2.2.2.1 hd) rfl hl q) k
theorem Go.lstoreN {k : Fin 4} {v : Int64} (hd : decode code pc = .ok (.lstore_n k, 1)) (hl : storeLocals Ls k.val (.long v) = some Ls') (hp : pc + 1 = pc') (k : Go l R Z n0 y code ml ret Q cells slots h pc' Ls' st) : Go l R Z n0 y code ml ret Q cells slots h pc Ls (.long v :: st) := Go.step (fun C X _ q => by subst hp; exact XT.lstoreN X.here C.1 rfl (hb C.2.2.2.1 hd) rfl hl q) k
theorem Go.lstore {k : Nat} {v : Int64} (hd : decode code pc = .ok (.lstore k, 2)) (hl : storeLocals Ls k (.long v) = some Ls') (hp : pc + 2 = pc') (k : Go l R Z n0 y code ml ret Q cells slots h pc' Ls' st) : Go l R Z n0 y code ml ret Q cells slots h pc Ls (.long v :: st) := Go.step (fun C X _ q => by subst hp; exact XT.lstore X.here C.1 rfl (hb C.2.2.2.1 hd) rfl hl q) k
theorem Go.astoreN {k : Fin 4} {v : Value} (hd : decode code pc = .ok (.astore_n k, 1)) (hv : v.isRef = true) (hl : storeLocals Ls k.val v = some Ls') (hp : pc + 1 = pc') (k : Go l R Z n0 y code ml ret Q cells slots h pc' Ls' st) : Go l R Z n0 y code ml ret Q cells slots h pc Ls (v :: st) := Go.step (fun C X _ q => by subst hp; exact XS.astoreN X.here C.1 rfl (hb C.2.2.2.1 hd) rfl hv hl q) k
theorem Go.astore {k : Nat} {v : Value} (hd : decode code pc = .ok (.astore k, 2)) (hv : v.isRef = true) (hl : storeLocals Ls k v = some Ls') (hp : pc + 2 = pc') (k : Go l R Z n0 y code ml ret Q cells slots h pc' Ls' st) : Go l R Z n0 y code ml ret Q cells slots h pc Ls (v :: st) := Go.step (fun C X _ q => by subst hp; exact XS.astore X.here C.1 rfl (hb C.2.2.2.1 hd) rfl hv hl q) k
theorem Go.iconst {i : Int} {v : Int32} (hd : decode code pc = .ok (.iconst i, 1)) (hv : Int32.ofInt i = v) (hp : pc + 1 = pc') (k : Go l R Z n0 y code ml ret Q cells slots h pc' Ls (.int v :: st)) : Go l R Z n0 y code ml ret Q cells slots h pc Ls st := Go.step (fun C X _ q => by subst hp; exact (by subst hv; exact XS.iconst X.here C.1 rfl (hb C.2.2.2.1 hd) q)) k
theorem Go.bipush {i : Int} {v : Int32} (hd : decode code pc = .ok (.bipush i, 2)) (hv : (Int8.ofInt i).toInt32 = v) (hp : pc + 2 = pc') (k : Go l R Z n0 y code ml ret Q cells slots h pc' Ls (.int v :: st)) : Go l R Z n0 y code ml ret Q cells slots h pc Ls st := Go.step (fun C X _ q => by subst hp; exact (by subst hv; exact XS.bipush X.here C.1 rfl (hb C.2.2.2.1 hd) q)) k
theorem Go.sipush {i : Int} {v : Int32} (hd : decode code pc = .ok (.sipush i, 3)) (hv : (Int16.ofInt i).toInt32 = v) (hp : pc + 3 = pc') (k : Go l R Z n0 y code ml ret Q cells slots h pc' Ls (.int v :: st)) : Go l R Z n0 y code ml ret Q cells slots h pc Ls st := Go.step (fun C X _ q => by subst hp; exact (by subst hv; exact XS.sipush X.here C.1 rfl (hb C.2.2.2.1 hd) q)) k
theorem Go.lconst {i : Fin 2} {v : Int64} (hd : decode code pc = .ok (.lconst i, 1)) (hv : Int64.ofNat i = v) (hp : pc + 1 = pc') (k : Go l R Z n0 y code ml ret Q cells slots h pc' Ls (.long v :: st)) : Go l R Z n0 y code ml ret Q cells slots h pc Ls st := Go.step (fun C X _ q => by subst hp; exact XT.lconstV X.here C.1 rfl v (hb C.2.2.2.1 hd) hv q) k
theorem Go.aconstNull (hd : decode code pc = .ok (.aconst_null, 1)) (hp : pc + 1 = pc') (k : Go l R Z n0 y code ml ret Q cells slots h pc' Ls (.null :: st)) : Go l R Z n0 y code ml ret Q cells slots h pc Ls st := Go.step (fun C X _ q => by subst hp; exact XS.aconstNull X.here C.1 rfl (hb C.2.2.2.1 hd) q) k
theorem Go.ldcI {i : Nat} {v : Int32} (w : (Jvm.Cond.constant y.cls i v).before a0 Z = true) (hd : decode code pc = .ok (.ldc i, 2)) (hp : pc + 2 = pc') (k : Go l R Z n0 y code ml ret Q cells slots h pc' Ls (.int v :: st)) : Go l R Z n0 y code ml ret Q cells slots h pc Ls st := Go.step (fun C X _ q => by subst hp; exact Jvm.Stand.ldcI X C.1 C.2.2.1 (mvT C.2.1 w) rfl (hb C.2.2.2.1 hd) q) k
theorem Go.ldcWI {i : Nat} {v : Int32} (w : (Jvm.Cond.constant y.cls i v).before a0 Z = true) (hd : decode code pc = .ok (.ldc_w i, 3)) (hp : pc + 3 = pc') (k : Go l R Z n0 y code ml ret Q cells slots h pc' Ls (.int v :: st)) : Go l R Z n0 y code ml ret Q cells slots h pc Ls st := Go.step (fun C X _ q => by subst hp; exact Jvm.Stand.ldcWI X C.1 C.2.2.1 (mvT C.2.1 w) rfl (hb C.2.2.2.1 hd) q) k
theorem Go.ldc2J {i : Nat} {v : Int64} (w : (Jvm.Cond.constantLong y.cls i v).before a0 Z = true) (hd : decode code pc = .ok (.ldc2_w i, 3)) (hp : pc + 3 = pc') (k : Go l R Z n0 y code ml ret Q cells slots h pc' Ls (.long v :: st)) : Go l R Z n0 y code ml ret Q cells slots h pc Ls st := Go.step (fun C X _ q => by subst hp; exact Jvm.Stand.ldc2J X C.1 C.2.2.1 (mvT C.2.1 w) rfl (hb C.2.2.2.1 hd) q) k
theorem Go.iadd {a b : Int32} (hd : decode code pc = .ok (.iadd, 1)) (hp : pc + 1 = pc') (k : Go l R Z n0 y code ml ret Q cells slots h pc' Ls (.int (a + b) :: st)) : Go l R Z n0 y code ml ret Q cells slots h pc Ls (.int b :: .int a :: st) := Go.step (fun C X _ q => by subst hp; exact XS.iadd X.here C.1 rfl (hb C.2.2.2.1 hd) rfl q) k
theorem Go.isub {a b : Int32} (hd : decode code pc = .ok (.isub, 1)) (hp : pc + 1 = pc') (k : Go l R Z n0 y code ml ret Q cells slots h pc' Ls (.int (a - b) :: st)) : Go l R Z n0 y code ml ret Q cells slots h pc Ls (.int b :: .int a :: st) := Go.step (fun C X _ q => by subst hp; exact XS.isub X.here C.1 rfl (hb C.2.2.2.1 hd) rfl q) k
theorem Go.imul {a b : Int32} (hd : decode code pc = .ok (.imul, 1)) (hp : pc + 1 = pc') (k : Go l R Z n0 y code ml ret Q cells slots h pc' Ls (.int (a * b) :: st)) : Go l R Z n0 y code ml ret Q cells slots h pc Ls (.int b :: .int a :: st) := Go.step (fun C X _ q => by subst hp; exact XS.imul X.here C.1 rfl (hb C.2.2.2.1 hd) rfl q) k
theorem Go.iand {a b : Int32} (hd : decode code pc = .ok (.iand, 1)) (hp : pc + 1 = pc') (k : Go l R Z n0 y code ml ret Q cells slots h pc' Ls (.int (a &&& b) :: st)) : Go l R Z n0 y code ml ret Q cells slots h pc Ls (.int b :: .int a :: st) := Go.step (fun C X _ q => by subst hp; exact XS.iand X.here C.1 rfl (hb C.2.2.2.1 hd) rfl q) k
theorem Go.ior {a b : Int32} (hd : decode code pc = .ok (.ior, 1)) (hp : pc + 1 = pc') (k : Go l R Z n0 y code ml ret Q cells slots h pc' Ls (.int (a ||| b) :: st)) : Go l R Z n0 y code ml ret Q cells slots h pc Ls (.int b :: .int a :: st) := Go.step (fun C X _ q => by subst hp; exact XT.ior X.here C.1 rfl (hb C.2.2.2.1 hd) rfl q) k
theorem Go.ixor {a b : Int32} (hd : decode code pc = .ok (.ixor, 1)) (hp : pc + 1 = pc') (k : Go l R Z n0 y code ml ret Q cells slots h pc' Ls (.int (a ^^^ b) :: st)) : Go l R Z n0 y code ml ret Q cells slots h pc Ls (.int b :: .int a :: st) := Go.step (fun C X _ q => by subst hp; exact XT.ixor X.here C.1 rfl (hb C.2.2.2.1 hd) rfl q) k
theorem Go.ladd {a b : Int64} (hd : decode code pc = .ok (.ladd, 1)) (hp : pc + 1 = pc') (k : Go l R Z n0 y code ml ret Q cells slots h pc' Ls (.long (a + b) :: st)) : Go l R Z n0 y code ml ret Q cells slots h pc Ls (.long b :: .long a :: st) := Go.step (fun C X _ q => by subst hp; exact XT.ladd X.here C.1 rfl (hb C.2.2.2.1 hd) rfl q) k
theorem Go.lsub {a b : Int64} (hd : decode code pc = .ok (.lsub, 1)) (hp : pc + 1 = pc') (k : Go l R Z n0 y code ml ret Q cells slots h pc' Ls (.long (a - b) :: st)) : Go l R Z n0 y code ml ret Q cells slots h pc Ls (.long b :: .long a :: st) := Go.step (fun C X _ q => by subst hp; exact XT.lsub X.here C.1 rfl (hb C.2.2.2.1 hd) rfl q) k
theorem Go.lmul {a b : Int64} (hd : decode code pc = .ok (.lmul, 1)) (hp : pc + 1 = pc') (k : Go l R Z n0 y code ml ret Q cells slots h pc' Ls (.long (a * b) :: st)) : Go l R Z n0 y code ml ret Q cells slots h pc Ls (.long b :: .long a :: st) := Go.step (fun C X _ q => by subst hp; exact XT.lmul X.here C.1 rfl (hb C.2.2.2.1 hd) rfl q) k
theorem Go.land {a b : Int64} (hd : decode code pc = .ok (.land, 1)) (hp : pc + 1 = pc') (k : Go l R Z n0 y code ml ret Q cells slots h pc' Ls (.long (a &&& b) :: st)) : Go l R Z n0 y code ml ret Q cells slots h pc Ls (.long b :: .long a :: st) := Go.step (fun C X _ q => by subst hp; exact XT.land X.here C.1 rfl (hb C.2.2.2.1 hd) rfl q) k
theorem Go.lor {a b : Int64} (hd : decode code pc = .ok (.lor, 1)) (hp : pc + 1 = pc') (k : Go l R Z n0 y code ml ret Q cells slots h pc' Ls (.long (a ||| b) :: st)) : Go l R Z n0 y code ml ret Q cells slots h pc Ls (.long b :: .long a :: st) := Go.step (fun C X _ q => by subst hp; exact XT.lor X.here C.1 rfl (hb C.2.2.2.1 hd) rfl q) k
theorem Go.lxor {a b : Int64} (hd : decode code pc = .ok (.lxor, 1)) (hp : pc + 1 = pc') (k : Go l R Z n0 y code ml ret Q cells slots h pc' Ls (.long (a ^^^ b) :: st)) : Go l R Z n0 y code ml ret Q cells slots h pc Ls (.long b :: .long a :: st) := Go.step (fun C X _ q => by subst hp; exact XT.lxor X.here C.1 rfl (hb C.2.2.2.1 hd) rfl q) k
theorem Go.ishl {a b : Int32} (hd : decode code pc = .ok (.ishl, 1)) (hp : pc + 1 = pc') (k : Go l R Z n0 y code ml ret Q cells slots h pc' Ls (.int (a <<< (b &&& 31)) :: st)) : Go l R Z n0 y code ml ret Q cells slots h pc Ls (.int b :: .int a :: st) := Go.step (fun C X _ q => by subst hp; exact XT.ishl X.here C.1 rfl (hb C.2.2.2.1 hd) rfl q) k
theorem Go.ishr {a b : Int32} (hd : decode code pc = .ok (.ishr, 1)) (hp : pc + 1 = pc') (k : Go l R Z n0 y code ml ret Q cells slots h pc' Ls (.int (a >>> (b &&& 31)) :: st)) : Go l R Z n0 y code ml ret Q cells slots h pc Ls (.int b :: .int a :: st) := Go.step (fun C X _ q => by subst hp; exact XT.ishr X.here C.1 rfl (hb C.2.2.2.1 hd) rfl q) k
theorem Go.iushr {a b : Int32} (hd : decode code pc = .ok (.iushr, 1)) (hp : pc + 1 = pc') (k : Go l R Z n0 y code ml ret Q cells slots h pc' Ls (.int (XT.ushr a b) :: st)) : Go l R Z n0 y code ml ret Q cells slots h pc Ls (.int b :: .int a :: st) := Go.step (fun C X _ q => by subst hp; exact XT.iushr X.here C.1 rfl (hb C.2.2.2.1 hd) rfl q) k
theorem Go.lshr {a : Int64} {b : Int32} (hd : decode code pc = .ok (.lshr, 1)) (hp : pc + 1 = pc') (k : Go l R Z n0 y code ml ret Q cells slots h pc' Ls (.long (a >>> (b.toInt64 &&& 63)) :: st)) : Go l R Z n0 y code ml ret Q cells slots h pc Ls (.int b :: .long a :: st) := Go.step (fun C X _ q => by subst hp; exact XT.lshr X.here C.1 rfl (hb C.2.2.2.1 hd) rfl q) k
theorem Go.lshl {a : Int64} {b : Int32} (hd : decode code pc = .ok (.lshl, 1)) (hp : pc + 1 = pc') (k : Go l R Z n0 y code ml ret Q cells slots h pc' Ls (.long (a <<< (b.toInt64 &&& 63)) :: st)) : Go l R Z n0 y code ml ret Q cells slots h pc Ls (.int b :: .long a :: st) := Go.step (fun C X _ q => by subst hp; exact XT.lshl X.here C.1 rfl (hb C.2.2.2.1 hd) rfl q) k
theorem Go.lushr {a : Int64} {b : Int32} (hd : decode code pc = .ok (.lushr, 1)) (hp : pc + 1 = pc') (k : Go l R Z n0 y code ml ret Q cells slots h pc' Ls (.long (XT.ushrL a b) :: st)) : Go l R Z n0 y code ml ret Q cells slots h pc Ls (.int b :: .long a :: st) := Go.step (fun C X _ q => by subst hp; exact XT.lushr X.here C.1 rfl (hb C.2.2.2.1 hd) rfl q) k
theorem Go.irem {a b : Int32} (hd : decode code pc = .ok (.irem, 1)) (hz : b ≠ 0) (hp : pc + 1 = pc') (k : Go l R Z n0 y code ml ret Q cells slots h pc' Ls (.int (a % b) :: st)) : Go l R Z n0 y code ml ret Q cells slots h pc Ls (.int b :: .int a :: st) := Go.step (fun C X _ q => by subst hp; exact iremM X C.1 rfl (hb C.2.2.2.1 hd) rfl hz q) k
theorem Go.idiv {a b : Int32} (hd : decode code pc = .ok (.idiv, 1)) (hz : b ≠ 0) (hp : pc + 1 = pc') (k : Go l R Z n0 y code ml ret Q cells slots h pc' Ls (.int (a / b) :: st)) : Go l R Z n0 y code ml ret Q cells slots h pc Ls (.int b :: .int a :: st) := Go.step (fun C X _ q => by subst hp; exact XS.idiv X.here C.1 rfl (hb C.2.2.2.1 hd) rfl hz q) k
theorem Go.ldiv {a b : Int64} (hd : decode code pc = .ok (.ldiv, 1)) (hz : b ≠ 0) (hp : pc + 1 = pc') (k : Go l R Z n0 y code ml ret Q cells slots h pc' Ls (.long (a / b) :: st)) : Go l R Z n0 y code ml ret Q cells slots h pc Ls (.long b :: .long a :: st) := Go.step (fun C X _ q => by subst hp; exact XT.ldiv X.here C.1 rfl (hb C.2.2.2.1 hd) rfl hz q) k
theorem Go.lrem {a b : Int64} (hd : decode code pc = .ok (.lrem, 1)) (hz : b ≠ 0) (hp : pc + 1 = pc') (k : Go l R Z n0 y code ml ret Q cells slots h pc' Ls (.long (a - (a / b) * b) :: st)) : Go l R Z n0 y code ml ret Q cells slots h pc Ls (.long b :: .long a :: st) := Go.step (fun C X _ q => by subst hp; exact XT.lrem X.here C.1 rfl (hb C.2.2.2.1 hd) rfl hz q) k
theorem Go.ineg {a : Int32} (hd : decode code pc = .ok (.ineg, 1)) (hp : pc + 1 = pc') (k : Go l R Z n0 y code ml ret Q cells slots h pc' Ls (.int (-a) :: st)) : Go l R Z n0 y code ml ret Q cells slots h pc Ls (.int a :: st) := Go.step (fun C X _ q => by subst hp; exact XS.ineg X.here C.1 rfl (hb C.2.2.2.1 hd) rfl q) k
theorem Go.lneg {a : Int64} (hd : decode code pc = .ok (.lneg, 1)) (hp : pc + 1 = pc') (k : Go l R Z n0 y code ml ret Q cells slots h pc' Ls (.long (-a) :: st)) : Go l R Z n0 y code ml ret Q cells slots h pc Ls (.long a :: st) := Go.step (fun C X _ q => by subst hp; exact XT.lneg X.here C.1 rfl (hb C.2.2.2.1 hd) rfl q) k
theorem Go.i2l {a : Int32} (hd : decode code pc = .ok (.i2l, 1)) (hp : pc + 1 = pc') (k : Go l R Z n0 y code ml ret Q cells slots h pc' Ls (.long a.toInt64 :: st)) : Go l R Z n0 y code ml ret Q cells slots h pc Ls (.int a :: st) := Go.step (fun C X _ q => by subst hp; exact XT.i2l X.here C.1 rfl (hb C.2.2.2.1 hd) rfl q) k
theorem Go.l2i {a : Int64} (hd : decode code pc = .ok (.l2i, 1)) (hp : pc + 1 = pc') (k : Go l R Z n0 y code ml ret Q cells slots h pc' Ls (.int a.toInt32 :: st)) : Go l R Z n0 y code ml ret Q cells slots h pc Ls (.long a :: st) := Go.step (fun C X _ q => by subst hp; exact XT.l2i X.here C.1 rfl (hb C.2.2.2.1 hd) rfl q) k
theorem Go.i2b {a : Int32} (hd : decode code pc = .ok (.i2b, 1)) (hp : pc + 1 = pc') (k : Go l R Z n0 y code ml ret Q cells slots h pc' Ls (.int a.toInt8.toInt32 :: st)) : Go l R Z n0 y code ml ret Q cells slots h pc Ls (.int a :: st) := Go.step (fun C X _ q => by subst hp; exact XT.i2b X.here C.1 rfl (hb C.2.2.2.1 hd) rfl q) k
theorem Go.i2c {a : Int32} (hd : decode code pc = .ok (.i2c, 1)) (hp : pc + 1 = pc') (k : Go l R Z n0 y code ml ret Q cells slots h pc' Ls (.int a.toUInt32.toUInt16.toUInt32.toInt32 :: st)) : Go l R Z n0 y code ml ret Q cells slots h pc Ls (.int a :: st) := Go.step (fun C X _ q => by subst hp; exact XT.i2c X.here C.1 rfl (hb C.2.2.2.1 hd) rfl q) k
theorem Go.lcmp {a b : Int64} (hd : decode code pc = .ok (.lcmp, 1)) (hp : pc + 1 = pc') (k : Go l R Z n0 y code ml ret Q cells slots h pc' Ls (.int (XT.cmpL a b) :: st)) : Go l R Z n0 y code ml ret Q cells slots h pc Ls (.long b :: .long a :: st) := Go.step (fun C X _ q => by subst hp; exact XT.lcmp X.here C.1 rfl (hb C.2.2.2.1 hd) rfl q) k
theorem Go.iinc {k : Nat} {i : Int} {v w : Int32} (hd : decode code pc = .ok (.iinc k i, 3)) (hv : Int32.ofInt i = w) (hl : Ls[k]? = some (.val (.int v))) (hl' : storeLocals Ls k (.int (v + w)) = some Ls') (hp : pc + 3 = pc') (k : Go l R Z n0 y code ml ret Q cells slots h pc' Ls' st) : Go l R Z n0 y code ml ret Q cells slots h pc Ls st := Go.step (fun C X _ q => by subst hp; exact XT.iincV X.here C.1 rfl w (hb C.2.2.2.1 hd) hv hl hl' q) k
theorem Go.dup {v : Value} (hd : decode code pc = .ok (.dup, 1)) (hc : v.category = 1) (hp : pc + 1 = pc') (k : Go l R Z n0 y code ml ret Q cells slots h pc' Ls (v :: v :: st)) : Go l R Z n0 y code ml ret Q cells slots h pc Ls (v :: st) := Go.step (fun C X _ q => by subst hp; exact XS.dup X.here C.1 rfl (hb C.2.2.2.1 hd) rfl hc q) k
theorem Go.pop {v : Value} (hd : decode code pc = .ok (.pop, 1)) (hc : v.category = 1) (hp : pc + 1 = pc') (k : Go l R Z n0 y code ml ret Q cells slots h pc' Ls st) : Go l R Z n0 y code ml ret Q cells slots h pc Ls (v :: st) := Go.step (fun C X _ q => by subst hp; exact XT.pop X.here C.1 rfl (hb C.2.2.2.1 hd) rfl hc q) k
theorem Go.dupX1 {v w : Value} (hd : decode code pc = .ok (.dup_x1, 1)) (hc : v.category = 1) (hc' : w.category = 1) (hp : pc + 1 = pc') (k : Go l R Z n0 y code ml ret Q cells slots h pc' Ls (v :: w :: v :: st)) : Go l R Z n0 y code ml ret Q cells slots h pc Ls (v :: w :: st) := Go.step (fun C X _ q => by subst hp; exact XT.dupX1 X.here C.1 rfl (hb C.2.2.2.1 hd) rfl hc hc' q) k
theorem Go.dup2 {v w : Value} (hd : decode code pc = .ok (.dup2, 1)) (hc : v.category = 1) (hc' : w.category = 1) (hp : pc + 1 = pc') (k : Go l R Z n0 y code ml ret Q cells slots h pc' Ls (v :: w :: v :: w :: st)) : Go l R Z n0 y code ml ret Q cells slots h pc Ls (v :: w :: st) := Go.step (fun C X _ q => by subst hp; exact XT.dup2 X.here C.1 rfl (hb C.2.2.2.1 hd) rfl hc hc' q) k
theorem Go.dup2L {a : Int64} (hd : decode code pc = .ok (.dup2, 1)) (hp : pc + 1 = pc') (k : Go l R Z n0 y code ml ret Q cells slots h pc' Ls (.long a :: .long a :: st)) : Go l R Z n0 y code ml ret Q cells slots h pc Ls (.long a :: st) := Go.step (fun C X _ q => by subst hp; exact XT.dup2L X.here C.1 rfl (hb C.2.2.2.1 hd) rfl q) k
theorem Go.goto {o : Int} (hd : decode code pc = .ok (.goto o, 3)) (ho : 0 ≤ (pc : Int) + o := by decide) (hp : ((pc : Int) + o).toNat = pc' := by decide) (k : Go l R Z n0 y code ml ret Q cells slots h pc' Ls st) : Go l R Z n0 y code ml ret Q cells slots h pc Ls st := Go.step (fun C X _ q => XS.goto X.here C.1 rfl rfl (hb C.2.2.2.1 hd) ho hp q) k
theorem Go.ifYes {o : Int} {cd : ClassFile.Cond} {a : Int32} (hd : decode code pc = .ok (.ifCond cd o, 3)) (hc : ifCond.holds cd a = true) (ho : 0 ≤ (pc : Int) + o := by decide) (hp : ((pc : Int) + o).toNat = pc' := by decide) (k : Go l R Z n0 y code ml ret Q cells slots h pc' Ls st) : Go l R Z n0 y code ml ret Q cells slots h pc Ls (.int a :: st) := Go.step (fun C X _ q => XS.ifYes X.here C.1 rfl rfl (hb C.2.2.2.1 hd) rfl hc ho hp q) k
theorem Go.icmpYes {o : Int} {cd : ClassFile.Cond} {a b : Int32} (hd : decode code pc = .ok (.if_icmp cd o, 3)) (hc : if_icmp.holds cd a b = true) (ho : 0 ≤ (pc : Int) + o := by decide) (hp : ((pc : Int) + o).toNat = pc' := by decide) (k : Go l R Z n0 y code ml ret Q cells slots h pc' Ls st) : Go l R Z n0 y code ml ret Q cells slots h pc Ls (.int b :: .int a :: st) := Go.step (fun C X _ q => XS.icmpYes X.here C.1 rfl rfl (hb C.2.2.2.1 hd) rfl hc ho hp q) k
theorem Go.acmpYes {o : Int} {cd : ClassFile.ACond} {a b : Value} (hd : decode code pc = .ok (.if_acmp cd o, 3)) (ha : a.isRef = true) (hb' : b.isRef = true) (hc : XT.acmp cd a b = true) (ho : 0 ≤ (pc : Int) + o := by decide) (hp : ((pc : Int) + o).toNat = pc' := by decide) (k : Go l R Z n0 y code ml ret Q cells slots h pc' Ls st) : Go l R Z n0 y code ml ret Q cells slots h pc Ls (b :: a :: st) := Go.step (fun C X _ q => XT.acmpYes X.here C.1 rfl rfl (hb C.2.2.2.1 hd) rfl ha hb' hc ho hp q) k
theorem Go.nullYes {o : Int} {a : Value} (hd : decode code pc = .ok (.ifnull o, 3)) (hv : a = .null) (ho : 0 ≤ (pc : Int) + o := by decide) (hp : ((pc : Int) + o).toNat = pc' := by decide) (k : Go l R Z n0 y code ml ret Q cells slots h pc' Ls st) : Go l R Z n0 y code ml ret Q cells slots h pc Ls (a :: st) := Go.step (fun C X _ q => XT.nullYes X.here C.1 rfl rfl (hb C.2.2.2.1 hd) rfl hv ho hp q) k
theorem Go.nonnullYes {o : Int} {a : Value} (hd : decode code pc = .ok (.ifnonnull o, 3)) (ha : a.isRef = true) (hv : ¬ a = .null) (ho : 0 ≤ (pc : Int) + o := by decide) (hp : ((pc : Int) + o).toNat = pc' := by decide) (k : Go l R Z n0 y code ml ret Q cells slots h pc' Ls st) : Go l R Z n0 y code ml ret Q cells slots h pc Ls (a :: st) := Go.step (fun C X _ q => XT.nonnullYes X.here C.1 rfl rfl (hb C.2.2.2.1 hd) rfl ha hv ho hp q) k
theorem Go.ifNo {o : Int} {cd : ClassFile.Cond} {a : Int32} (hd : decode code pc = .ok (.ifCond cd o, 3)) (hc : ifCond.holds cd a = false) (hp : pc + 3 = pc') (k : Go l R Z n0 y code ml ret Q cells slots h pc' Ls st) : Go l R Z n0 y code ml ret Q cells slots h pc Ls (.int a :: st) := Go.step (fun C X _ q => by subst hp; exact XS.ifNo X.here C.1 rfl (hb C.2.2.2.1 hd) rfl hc q) k
theorem Go.icmpNo {o : Int} {cd : ClassFile.Cond} {a b : Int32} (hd : decode code pc = .ok (.if_icmp cd o, 3)) (hc : if_icmp.holds cd a b = false) (hp : pc + 3 = pc') (k : Go l R Z n0 y code ml ret Q cells slots h pc' Ls st) : Go l R Z n0 y code ml ret Q cells slots h pc Ls (.int b :: .int a :: st) := Go.step (fun C X _ q => by subst hp; exact XS.icmpNo X.here C.1 rfl (hb C.2.2.2.1 hd) rfl hc q) k
theorem Go.acmpNo {o : Int} {cd : ClassFile.ACond} {a b : Value} (hd : decode code pc = .ok (.if_acmp cd o, 3)) (ha : a.isRef = true) (hb' : b.isRef = true) (hc : XT.acmp cd a b = false) (hp : pc + 3 = pc') (k : Go l R Z n0 y code ml ret Q cells slots h pc' Ls st) : Go l R Z n0 y code ml ret Q cells slots h pc Ls (b :: a :: st) := Go.step (fun C X _ q => by subst hp; exact XT.acmpNo X.here C.1 rfl (hb C.2.2.2.1 hd) rfl ha hb' hc q) k
theorem Go.nullNo {o : Int} {a : Value} (hd : decode code pc = .ok (.ifnull o, 3)) (ha : a.isRef = true) (hv : ¬ a = .null) (hp : pc + 3 = pc') (k : Go l R Z n0 y code ml ret Q cells slots h pc' Ls st) : Go l R Z n0 y code ml ret Q cells slots h pc Ls (a :: st) := Go.step (fun C X _ q => by subst hp; exact XT.nullNo X.here C.1 rfl (hb C.2.2.2.1 hd) rfl ha hv q) k
theorem Go.nonnullNo {o : Int} {a : Value} (hd : decode code pc = .ok (.ifnonnull o, 3)) (hv : a = .null) (hp : pc + 3 = pc') (k : Go l R Z n0 y code ml ret Q cells slots h pc' Ls st) : Go l R Z n0 y code ml ret Q cells slots h pc Ls (a :: st) := Go.step (fun C X _ q => by subst hp; exact XT.nonnullNo X.here C.1 rfl (hb C.2.2.2.1 hd) rfl hv q) k
theorem Go.tsw {a : Int32} {dflt low high o : Int} {offs : Array Int} {len : Nat} (hd : decode code pc = .ok (.tableswitch dflt low high offs, len)) (hin : ¬ (a.toInt < low ∨ a.toInt > high)) (hoff : offs[(a.toInt - low).toNat]? = some o) (ho : 0 ≤ (pc : Int) + o) (hp : ((pc : Int) + o).toNat = pc') (k : Go l R Z n0 y code ml ret Q cells slots h pc' Ls st) : Go l R Z n0 y code ml ret Q cells slots h pc Ls (.int a :: st) := Go.step (fun C X _ q => XS.tswIn X.here C.1 rfl rfl (hb C.2.2.2.1 hd) rfl hin hoff ho hp q) k
theorem Go.tswOut {a : Int32} {dflt low high : Int} {offs : Array Int} {len : Nat} (hd : decode code pc = .ok (.tableswitch dflt low high offs, len)) (hout : a.toInt < low ∨ a.toInt > high) (ho : 0 ≤ (pc : Int) + dflt) (hp : ((pc : Int) + dflt).toNat = pc') (k : Go l R Z n0 y code ml ret Q cells slots h pc' Ls st) : Go l R Z n0 y code ml ret Q cells slots h pc Ls (.int a :: st) := Go.step (fun C X _ q => XS.tswOut X.here C.1 rfl rfl (hb C.2.2.2.1 hd) rfl hout ho hp q) k
theorem Go.getstatic {host : String} {R0 O n d : String} {i : Nat} (w : (Jvm.Cond.fieldLink y.cls i R0 n d).before a0 Z = true ∨ (Jvm.Cond.fieldLinkNest y.cls i R0 n d host).before a0 Z = true) (via : Via Z R0 O n d) {v : Value} (F : Sta Z h O n d v) (hd : decode code pc = .ok (.getstatic i, 3)) (hp : pc + 3 = pc') (k : Go l R Z n0 y code ml ret Q cells slots h pc' Ls (v :: st)) : Go l R Z n0 y code ml ret Q cells slots h pc Ls st := by
  refine Go.law (P := fun h' => h' = h) (fun C X N eT _ => ?_) (fun h' e => e ▸ k)
  subst hp
  obtain ⟨T', X', e', st⟩ := getS2 X C.1 C.2.1 C.2.2.1 w via eT F (g := mkF _ pc Ls st) rfl (hb C.2.2.2.1 hd)
  exact ⟨T', _, h, X', N, e', rfl, st⟩
theorem Go.getfield {host : String} {R0 O n d : String} {i : Nat} (w : (Jvm.Cond.fieldLink y.cls i R0 n d).before a0 Z = true ∨ (Jvm.Cond.fieldLinkNest y.cls i R0 n d host).before a0 Z = true) (via : Via Z R0 O n d) {v : Value} {a : Addr} (F : Fld Z h a O n d v) (hd : decode code pc = .ok (.getfield i, 3)) (hp : pc + 3 = pc') (k : Go l R Z n0 y code ml ret Q cells slots h pc' Ls (v :: st)) : Go l R Z n0 y code ml ret Q cells slots h pc Ls (.ref a :: st) := by
  refine Go.law (P := fun h' => h' = h) (fun C X N eT _ => ?_) (fun h' e => e ▸ k)
  subst hp
  obtain ⟨T', X', e', st⟩ := getF X C.1 C.2.1 C.2.2.1 w via eT F (g := mkF _ pc Ls (.ref a :: st)) rfl rfl (hb C.2.2.2.1 hd)
  exact ⟨T', _, h, X', N, e', rfl, st⟩
theorem Go.castY {K : String} {i : Nat} {a : Addr} (w : (Jvm.Cond.classLink y.cls i K).before a0 Z = true) (F : Ins Z h a K true) (hd : decode code pc = .ok (.checkcast i, 3)) (hp : pc + 3 = pc') (k : Go l R Z n0 y code ml ret Q cells slots h pc' Ls (.ref a :: st)) : Go l R Z n0 y code ml ret Q cells slots h pc Ls (.ref a :: st) := by
  refine Go.law (P := fun h' => h' = h) (fun C X N eT _ => ?_) (fun h' e => e ▸ k)
  subst hp
  obtain ⟨T', X', e', st⟩ := castY X C.1 C.2.1 C.2.2.1 w eT F (g := mkF _ pc Ls (.ref a :: st)) rfl rfl (hb C.2.2.2.1 hd)
  exact ⟨T', _, h, X', N, e', rfl, st⟩
theorem Go.instY {K : String} {i : Nat} {a : Addr} (w : (Jvm.Cond.classLink y.cls i K).before a0 Z = true) (F : Ins Z h a K true) (hd : decode code pc = .ok (.instanceof i, 3)) (hp : pc + 3 = pc') (k : Go l R Z n0 y code ml ret Q cells slots h pc' Ls (.int 1 :: st)) : Go l R Z n0 y code ml ret Q cells slots h pc Ls (.ref a :: st) := by
  refine Go.law (P := fun h' => h' = h) (fun C X N eT _ => ?_) (fun h' e => e ▸ k)
  subst hp
  obtain ⟨T', X', e', st⟩ := instY X C.1 C.2.1 C.2.2.1 w eT F (g := mkF _ pc Ls (.ref a :: st)) rfl rfl (hb C.2.2.2.1 hd)
  exact ⟨T', _, h, X', N, e', rfl, st⟩
theorem Go.instNo {K C' : String} {i : Nat} {a : Addr} (w : (Jvm.Cond.classLink y.cls i K).before a0 Z = true) (E : Exa Z h a C') (F : ∃ c t, Z.vm.findClass C' = some c ∧ Z.vm.findClass K = some t ∧ Z.vm.assignable c t = false) (hd : decode code pc = .ok (.instanceof i, 3)) (hp : pc + 3 = pc') (k : Go l R Z n0 y code ml ret Q cells slots h pc' Ls (.int 0 :: st)) : Go l R Z n0 y code ml ret Q cells slots h pc Ls (.ref a :: st) := by
  refine Go.law (P := fun h' => h' = h) (fun C X N eT _ => ?_) (fun h' e => e ▸ k)
  subst hp
  obtain ⟨T', X', e', st⟩ := instNo X C.1 C.2.1 C.2.2.1 w eT E F (g := mkF _ pc Ls (.ref a :: st)) rfl rfl (hb C.2.2.2.1 hd)
  exact ⟨T', _, h, X', N, e', rfl, st⟩
theorem Go.castNull {i : Nat} (hd : decode code pc = .ok (.checkcast i, 3)) (hp : pc + 3 = pc') (k : Go l R Z n0 y code ml ret Q cells slots h pc' Ls (.null :: st)) : Go l R Z n0 y code ml ret Q cells slots h pc Ls (.null :: st) := Go.step (fun C X _ q => by subst hp; exact (X.checkcastNull C.1 (g := mkF _ pc Ls (.null :: st)) rfl rfl (hb C.2.2.2.1 hd) _ q)) k
theorem Go.initO {i : Nat} {a : Addr} (w1 : (Jvm.Cond.methodLink y.cls i Lib.objectInit).before a0 Z = true) (w2 : (Jvm.Cond.instanceMethod Lib.objectInit).before a0 Z = true) (w3 : (Jvm.Cond.code Lib.objectInit ⟨#[0xb1]⟩ 1 none).before a0 Z = true) (hd : decode code pc = .ok (.invokespecial i, 3)) (hz : Ls.size = ml) (hf : 1 ≤ R.frames := by decide) (hl : (st.map fun v => v.category).sum + 12 ≤ R.locals := by decide) (hp : pc + 3 = pc') (k : Go l R Z n0 y code ml ret Q cells slots h pc' Ls st) : Go l R Z n0 y code ml ret Q cells slots h pc Ls (.ref a :: st) := by
  refine Go.law (P := fun h' => h' = h) (fun C X N eT _ => ?_) (fun h' e => e ▸ k)
  subst hp
  obtain ⟨T', X', e', st⟩ := initO X C.1 C.2.1 C.2.2.1 w1 w2 w3 eT (g := mkF _ pc Ls (.ref a :: st)) rfl (by rw [C.2.2.2.2.1]; exact hz) rfl (hb C.2.2.2.1 hd) hf (W := (st.map fun v => v.category).sum) (by simp) hl
  exact ⟨T', _, h, X', N, e', rfl, st⟩
theorem Go.getClass {i : Nat} {a mr : Addr} {C' : String} (w1 : (Jvm.Cond.methodLink y.cls i ⟨"java/lang/Object", "getClass", "()Ljava/lang/Class;"⟩).before a0 Z = true) (w2 : (Jvm.Cond.declares ⟨"java/lang/Object", "getClass", "()Ljava/lang/Class;"⟩).before a0 Z = true) (w3 : (Jvm.Cond.noSuperclass "java/lang/Object").before a0 Z = true) (w4 : (Jvm.Cond.selects C' ⟨"java/lang/Object", "getClass", "()Ljava/lang/Class;"⟩ ⟨"java/lang/Object", "getClass", "()Ljava/lang/Class;"⟩).before a0 Z = true) (w5 : (Jvm.Cond.instanceMethod ⟨"java/lang/Object", "getClass", "()Ljava/lang/Class;"⟩).before a0 Z = true) (w6 : (Jvm.Cond.native ⟨"java/lang/Object", "getClass", "()Ljava/lang/Class;"⟩).before a0 Z = true) (E : Exa Z h a C') (M : Mi Z C' mr) (hd : decode code pc = .ok (.invokevirtual i, 3)) (hz : Ls.size = ml) (hf : 1 ≤ R.frames := by decide) (hl : (st.map fun v => v.category).sum + (nativeFrameWords "java/lang/Object" "getClass" 1 + 11) ≤ R.locals := by decide) (hp : pc + 3 = pc') (k : Go l R Z n0 y code ml ret Q cells slots h pc' Ls (.ref mr :: st)) : Go l R Z n0 y code ml ret Q cells slots h pc Ls (.ref a :: st) := by
  refine Go.law (P := fun h' => h' = h) (fun C X N eT _ => ?_) (fun h' e => e ▸ k)
  subst hp
  obtain ⟨cB, kB, i1, i2, i3⟩ := isOf C.2.1 eT E
  obtain ⟨cc, kc, m1, m2, m3⟩ := M.at C.2.1
  cases i1.symm.trans m1
  obtain ⟨vm', X', st⟩ := X.getClassOf C.1 C.2.2.1 (mvT C.2.1 w1) (mvT C.2.1 w2) (nf_top (args := #[]) (mvT C.2.1 w3)) (mvT C.2.1 w4) (mvT C.2.1 w5) (mvT C.2.1 w6) m1 i3 m2 m3 (g := mkF _ pc Ls (.ref a :: st)) rfl (by rw [C.2.2.2.2.1]; exact hz) rfl (hb C.2.2.2.1 hd) hf (by simpa using hl)
  exact ⟨_, _, h, X', N, eT, rfl, st⟩
theorem Go.ldcMirror {i : Nat} {mr : Addr} {C' : String} (w : (Jvm.Cond.classLink y.cls i C').before a0 Z = true) (M : Mi Z C' mr) (hd : decode code pc = .ok (.ldc i, 2)) (hp : pc + 2 = pc') (k : Go l R Z n0 y code ml ret Q cells slots h pc' Ls (.ref mr :: st)) : Go l R Z n0 y code ml ret Q cells slots h pc Ls st := by
  refine Go.law (P := fun h' => h' = h) (fun C X N eT _ => ?_) (fun h' e => e ▸ k)
  subst hp
  obtain ⟨cc, kc, m1, m2, m3⟩ := M.at C.2.1
  obtain ⟨vm', X', st⟩ := X.ldcMirror C.1 C.2.2.1 (mvT C.2.1 w) (a := mr) (by simp [Term.eval, m1, m2, m3]) (g := mkF _ pc Ls st) rfl (hb C.2.2.2.1 hd)
  exact ⟨_, _, h, X', N, eT, rfl, st⟩
theorem Go.putfield {host : String} {R0 O n d : String} {i : Nat} (w : (Jvm.Cond.fieldLink y.cls i R0 n d).before a0 Z = true ∨ (Jvm.Cond.fieldLinkNest y.cls i R0 n d host).before a0 Z = true) {ty : FieldType} {C' : String} {kk : Nat} (via : Via Z R0 O n d) {v old : Value} {a : Addr} (F : Fld Z h a O n d old) (E : Exa Z h a C') (L : (Jvm.Cond.lays C' O n d).before a0 Z = true ∨ ((Jvm.Cond.laysFinal C' O n d).before a0 Z = true ∧ y.cls = O ∧ y.name = "<init>")) (wi : (Jvm.Cond.instantiable C' kk).before a0 Z = true) (hty : parseFieldDescriptor d = some ty) (hn : narrow ty v = v) (hf : fits ty v = true) (ha : n0 ≤ a) (hd : decode code pc = .ok (.putfield i, 3)) (hp : pc + 3 = pc') (k : ∀ h', Wr h h' a (Jvm.RoadKit.slotOf Z O n d) v → Go l R Z n0 y code ml ret Q cells slots h' pc' Ls st) : Go l R Z n0 y code ml ret Q cells slots h pc Ls (v :: .ref a :: st) := by
  refine Go.law (P := fun h' => Wr h h' a (Jvm.RoadKit.slotOf Z O n d) v) (fun C X N eT hn => ?_) (k)
  subst hp
  obtain ⟨T', h', X', e', W, st⟩ := putF X C.1 C.2.1 C.2.2.1 w via eT F E (L.imp id fun q => ⟨q.1, q.2.1, C.2.2.2.2.2.2.2.1.trans q.2.2⟩) wi hty ‹narrow ty v = v› hf (g := mkF _ pc Ls (v :: .ref a :: st)) rfl rfl (hb C.2.2.2.1 hd)
  exact ⟨T', _, h', X', Fr.snoc X' N ha, e', W, st⟩
theorem Go.putfieldN {R0 O n d : String} {i : Nat} (w : (Jvm.Cond.fieldLink y.cls i R0 n d).before a0 Z = true) {ty : FieldType} {C' : String} {kk : Nat} (via : Via Z R0 O n d) {v v' : Int32} {old : Value} {a : Addr} (F : Fld Z h a O n d old) (E : Exa Z h a C') (L : (Jvm.Cond.lays C' O n d).before a0 Z = true ∨ ((Jvm.Cond.laysFinal C' O n d).before a0 Z = true ∧ y.cls = O ∧ y.name = "<init>")) (wi : (Jvm.Cond.instantiable C' kk).before a0 Z = true) (hty : parseFieldDescriptor d = some ty) (hn : narrow ty (.int v) = .int v') (hf : fits ty (.int v') = true) (ha : n0 ≤ a) (hd : decode code pc = .ok (.putfield i, 3)) (hp : pc + 3 = pc') (k : ∀ h', Wr h h' a (Jvm.RoadKit.slotOf Z O n d) (.int v') → Go l R Z n0 y code ml ret Q cells slots h' pc' Ls st) : Go l R Z n0 y code ml ret Q cells slots h pc Ls (.int v :: .ref a :: st) := by
  refine Go.law (P := fun h' => Wr h h' a (Jvm.RoadKit.slotOf Z O n d) (.int v')) (fun C X N eT hn => ?_) (k)
  subst hp
  obtain ⟨T', h', X', e', W, st⟩ := putFN X C.1 C.2.1 C.2.2.1 w via eT F E (L.imp id fun q => ⟨q.1, q.2.1, C.2.2.2.2.2.2.2.1.trans q.2.2⟩) wi hty ‹narrow ty (.int v) = .int v'› hf (g := mkF _ pc Ls (.int v :: .ref a :: st)) rfl rfl (hb C.2.2.2.1 hd)
  exact ⟨T', _, h', X', Fr.snoc X' N ha, e', W, st⟩
theorem Go.new {C' : String} {i n cells' slots' : Nat} (w : (Jvm.Cond.classLink y.cls i C').before a0 Z = true) (wi : (Jvm.Cond.instantiable C' n).before a0 Z = true) (wz : (Jvm.Cond.initialized C').before a0 Z = true) (hd : decode code pc = .ok (.new i, 3)) (hc' : cells + 1 = cells') (hs' : slots + n = slots') (hc : cells' ≤ R.cells := by decide) (hl : slots' ≤ R.slots := by decide) (hp : pc + 3 = pc') (k : ∀ (h' : Heap) (b : Addr), b = h.size → Ext h h' → n0 ≤ b → Exa Z h' b C' → (∀ {O nm d : String} {ty : FieldType}, Laid Z a0 C' O nm d → parseFieldDescriptor d = some ty → Fld Z h' b O nm d (defaultValue ty)) → Go l R Z n0 y code ml ret Q cells' slots' h' pc' Ls (.ref b :: st)) : Go l R Z n0 y code ml ret Q cells slots h pc Ls st := by
  refine Go.law (P := fun h' => (Ext h h' ∧ n0 ≤ h.size ∧ Exa Z h' h.size C' ∧ ∀ {O nm d : String} {ty : FieldType}, Laid Z a0 C' O nm d → parseFieldDescriptor d = some ty → Fld Z h' h.size O nm d (defaultValue ty))) (fun C X N eT hn => ?_) (fun h' q => k h' h.size rfl q.1 q.2.1 q.2.2.1 q.2.2.2)
  subst hp
  subst hc' hs'
  obtain ⟨T', h', X', e', E, A, D, -, st⟩ := newO X C.1 C.2.1 C.2.2.1 w wi wz eT (g := mkF _ pc Ls st) rfl (hb C.2.2.2.1 hd) hc hl
  exact ⟨T', _, h', X', N, e', ⟨E, hn, A, D⟩, st⟩
theorem Go.newarray {aty : ArrayType} {ad : String} {n : Int32} {cap cells' slots' : Nat} (w : (Jvm.Cond.arrayClass (newarray.typeOf aty)).before a0 Z = true) (hd : decode code pc = .ok (.newarray aty, 2)) (had : "[" ++ (newarray.typeOf aty).toString = ad) (hn' : ¬ n < 0) (hcap : n.toNatClampNeg ≤ cap) (hc' : cells + 1 = cells') (hs' : slots + cap = slots') (hb8 : cap * 8 ≤ 536870912 := by decide) (hc : cells' ≤ R.cells := by decide) (hl : slots' ≤ R.slots := by decide) (hp : pc + 2 = pc') (k : ∀ (h' : Heap) (b : Addr), b = h.size → Ext h h' → n0 ≤ b → ∀ cA, Arv Z h' b cA (newarray.typeOf aty) n [] (defaultValue (newarray.typeOf aty)) → Exa Z h' b ad → Go l R Z n0 y code ml ret Q cells' slots' h' pc' Ls (.ref b :: st)) : Go l R Z n0 y code ml ret Q cells slots h pc Ls (.int n :: st) := by
  refine Go.law (P := fun h' => (Ext h h' ∧ n0 ≤ h.size ∧ ∃ cA, Arv Z h' h.size cA (newarray.typeOf aty) n [] (defaultValue (newarray.typeOf aty)) ∧ Exa Z h' h.size ad)) (fun C X N eT hn => ?_) (fun h' q => q.2.2.elim fun cA u => k h' h.size rfl q.1 q.2.1 cA u.1 u.2)
  subst hp
  subst hc' hs'
  obtain ⟨T', h', cA, X', e', E, A, A2, st⟩ := newPE X C.1 C.2.1 w eT (g := mkF _ pc Ls (.int n :: st)) rfl (hb C.2.2.2.1 hd) rfl hn' hcap hb8 hc hl had
  exact ⟨T', _, h', X', N, e', ⟨E, hn, cA, Arv.new A hn', A2⟩, st⟩
theorem Go.anewarray {C' ad : String} {i : Nat} {n : Int32} {cap cells' slots' : Nat} (w : (Jvm.Cond.classLink y.cls i C').before a0 Z = true) (w2 : (Jvm.Cond.arrayOver (.object C')).before a0 Z = true) (hd : decode code pc = .ok (.anewarray i, 3)) (had : "[" ++ (FieldType.object C').toString = ad) (hn' : ¬ n < 0) (hcap : n.toNatClampNeg ≤ cap) (hc' : cells + 1 = cells') (hs' : slots + cap = slots') (hb8 : cap * 8 ≤ 536870912 := by decide) (hc : cells' ≤ R.cells := by decide) (hl : slots' ≤ R.slots := by decide) (hp : pc + 3 = pc') (k : ∀ (h' : Heap) (b : Addr), b = h.size → Ext h h' → n0 ≤ b → ∀ cA, Arv Z h' b cA (.object C') n [] .null → Exa Z h' b ad → Ovr Z cA C' → Go l R Z n0 y code ml ret Q cells' slots' h' pc' Ls (.ref b :: st)) : Go l R Z n0 y code ml ret Q cells slots h pc Ls (.int n :: st) := by
  refine Go.law (P := fun h' => (Ext h h' ∧ n0 ≤ h.size ∧ ∃ cA, Arv Z h' h.size cA (.object C') n [] .null ∧ Exa Z h' h.size ad ∧ Ovr Z cA C')) (fun C X N eT hn => ?_) (fun h' q => q.2.2.elim fun cA u => k h' h.size rfl q.1 q.2.1 cA u.1 u.2.1 u.2.2)
  subst hp
  subst hc' hs'
  obtain ⟨T', h', cA, X', e', E, A, A2, O, st⟩ := newRE X C.1 C.2.1 C.2.2.1 w w2 eT (g := mkF _ pc Ls (.int n :: st)) rfl (hb C.2.2.2.1 hd) rfl hn' hcap hb8 hc hl had
  exact ⟨T', _, h', X', N, e', ⟨E, hn, cA, Arv.new A hn', A2, O⟩, st⟩
theorem Go.arraycopy {i : Nat} {a b : Addr} {kA kB : ClassId} {ty ty' : FieldType} {z z' sp dp nn : Int32} {vs vd us vd' : List Value} {dv dd : Value} (w1 : (Jvm.Cond.methodLink y.cls i Jvm.Stand.acN).before a0 Z = true) (w2 : (Jvm.Cond.native Jvm.Stand.acN).before a0 Z = true) (w3 : (Jvm.Cond.static Jvm.Stand.acN).before a0 Z = true) (w4 : (Jvm.Cond.initialized "java/lang/System").before a0 Z = true)
    (A : Arv Z h a kA ty z vs dv) (B : Arv Z h b kB ty' z' vd dd) (hty : (ty = ty' ∧ refKind ty = false) ∨ (refKind ty = true ∧ refKind ty' = true ∧ StoL Z h b us)) (h1 : ¬ sp < 0) (h2 : ¬ dp < 0) (h3 : ¬ nn < 0) (h4 : sp.toNatClampNeg + nn.toNatClampNeg ≤ z.toNatClampNeg) (h5 : dp.toNatClampNeg + nn.toNatClampNeg ≤ z'.toNatClampNeg)
    (hus : us = (List.range nn.toNatClampNeg).map fun i => vs.getD (sp.toNatClampNeg + i) dv) (hl : dp.toNatClampNeg + nn.toNatClampNeg ≤ vd.length) (hvd : vd.take dp.toNatClampNeg ++ us ++ vd.drop (dp.toNatClampNeg + nn.toNatClampNeg) = vd') (ge : n0 ≤ b) (hd : decode code pc = .ok (.invokestatic i, 3)) (hz : Ls.size = ml) (hf : 1 ≤ R.frames := by decide) (hlo : (st.map fun v => v.category).sum + (nativeFrameWords "java/lang/System" "arraycopy" 5 + 11) ≤ R.locals := by decide) (hp : pc + 3 = pc')
    (k : ∀ h', Keep h h' [b] → Arv Z h' b kB ty' z' vd' dd → Go l R Z n0 y code ml ret Q cells slots h' pc' Ls st) : Go l R Z n0 y code ml ret Q cells slots h pc Ls (.int nn :: .int dp :: .ref b :: .int sp :: .ref a :: st) := by
  refine Go.law (P := fun h' => Keep h h' [b] ∧ Arv Z h' b kB ty' z' vd' dd) (fun C X N eT hn => ?_) (fun h' q => k h' q.1 q.2)
  subst hp hvd
  obtain ⟨T', h', L, X', e', N', K, V, st⟩ := cpA X C.1 C.2.1 C.2.2.1 w1 w2 w3 w4 eT A B hty h1 h2 h3 h4 h5 hus hl N ge (g := mkF _ pc Ls (.int nn :: .int dp :: .ref b :: .int sp :: .ref a :: st)) rfl (by rw [C.2.2.2.2.1]; exact hz) rfl (hb C.2.2.2.1 hd) hf (W := (st.map fun v => v.category).sum) (by simp) hlo
  exact ⟨T', L, h', X', N', e', ⟨K, V⟩, st⟩
theorem Go.iastore {a : Addr} {kA : ClassId} {z j : Int32} {vs : List Value} {dv : Value} {v : Int32} {i : Nat} (F : Arv Z h a kA .int z vs dv) (ha : n0 ≤ a) (hd : decode code pc = .ok (.iastore, 1)) (hj : ¬ j < 0) (hjz : j < z) (hi : j.toNatClampNeg = i) (hil : i < vs.length) (hp : pc + 1 = pc') (k : ∀ h', Wr h h' a i (.int v) → Arv Z h' a kA .int z (vs.set i (.int v)) dv → Go l R Z n0 y code ml ret Q cells slots h' pc' Ls st) : Go l R Z n0 y code ml ret Q cells slots h pc Ls (.int v :: .int j :: .ref a :: st) := by
  refine Go.law (P := fun h' => (Wr h h' a i (.int v) ∧ Arv Z h' a kA .int z (vs.set i (.int v)) dv)) (fun C X N eT hn => ?_) (fun h' q => k h' q.1 q.2)
  subst hp
  obtain ⟨cl, A, q1, S, q3, H, G⟩ := F
  obtain ⟨T', h', X', e', W, st⟩ := stI X C.1 C.2.1 eT A (j := j) (inb_of S ⟨hj, hjz⟩) (g := mkF _ pc Ls (.int v :: .int j :: .ref a :: st)) rfl rfl (hb C.2.2.2.1 hd)
  have V := Arv.set A q1 S q3 H G rfl W i hi hil
  subst hi
  exact ⟨T', _, h', X', Fr.snoc X' N ha, e', ⟨W, V⟩, st⟩
theorem Go.lastore {a : Addr} {kA : ClassId} {z j : Int32} {vs : List Value} {dv : Value} {v : Int64} {i : Nat} (F : Arv Z h a kA .long z vs dv) (ha : n0 ≤ a) (hd : decode code pc = .ok (.lastore, 1)) (hj : ¬ j < 0) (hjz : j < z) (hi : j.toNatClampNeg = i) (hil : i < vs.length) (hp : pc + 1 = pc') (k : ∀ h', Wr h h' a i (.long v) → Arv Z h' a kA .long z (vs.set i (.long v)) dv → Go l R Z n0 y code ml ret Q cells slots h' pc' Ls st) : Go l R Z n0 y code ml ret Q cells slots h pc Ls (.long v :: .int j :: .ref a :: st) := by
  refine Go.law (P := fun h' => (Wr h h' a i (.long v) ∧ Arv Z h' a kA .long z (vs.set i (.long v)) dv)) (fun C X N eT hn => ?_) (fun h' q => k h' q.1 q.2)
  subst hp
  obtain ⟨cl, A, q1, S, q3, H, G⟩ := F
  obtain ⟨T', h', X', e', W, st⟩ := stJ X C.1 C.2.1 eT A (j := j) (inb_of S ⟨hj, hjz⟩) (g := mkF _ pc Ls (.long v :: .int j :: .ref a :: st)) rfl rfl (hb C.2.2.2.1 hd)
  have V := Arv.set A q1 S q3 H G rfl W i hi hil
  subst hi
  exact ⟨T', _, h', X', Fr.snoc X' N ha, e', ⟨W, V⟩, st⟩
theorem Go.castore {a : Addr} {kA : ClassId} {z j : Int32} {vs : List Value} {dv : Value} {v : Int32} {i : Nat} (F : Arv Z h a kA .char z vs dv) (ha : n0 ≤ a) (hd : decode code pc = .ok (.castore, 1)) (hj : ¬ j < 0) (hjz : j < z) (hi : j.toNatClampNeg = i) (hil : i < vs.length) (hp : pc + 1 = pc') (k : ∀ h', Wr h h' a i (.int (nar .char v)) → Arv Z h' a kA .char z (vs.set i (.int (nar .char v))) dv → Go l R Z n0 y code ml ret Q cells slots h' pc' Ls st) : Go l R Z n0 y code ml ret Q cells slots h pc Ls (.int v :: .int j :: .ref a :: st) := by
  refine Go.law (P := fun h' => (Wr h h' a i (.int (nar .char v)) ∧ Arv Z h' a kA .char z (vs.set i (.int (nar .char v))) dv)) (fun C X N eT hn => ?_) (fun h' q => k h' q.1 q.2)
  subst hp
  obtain ⟨cl, A, q1, S, q3, H, G⟩ := F
  obtain ⟨T', h', X', e', W, st⟩ := stC X C.1 C.2.1 eT A (j := j) (inb_of S ⟨hj, hjz⟩) (g := mkF _ pc Ls (.int v :: .int j :: .ref a :: st)) rfl rfl (hb C.2.2.2.1 hd)
  have V := Arv.set A q1 S q3 H G (fits_nar_char v) W i hi hil
  subst hi
  exact ⟨T', _, h', X', Fr.snoc X' N ha, e', ⟨W, V⟩, st⟩
theorem Go.bastore {a : Addr} {kA : ClassId} {z j : Int32} {vs : List Value} {dv : Value} {v : Int32} {i : Nat} (F : Arv Z h a kA .byte z vs dv) (ha : n0 ≤ a) (hd : decode code pc = .ok (.bastore, 1)) (hj : ¬ j < 0) (hjz : j < z) (hi : j.toNatClampNeg = i) (hil : i < vs.length) (hp : pc + 1 = pc') (k : ∀ h', Wr h h' a i (.int v.toInt8.toInt32) → Arv Z h' a kA .byte z (vs.set i (.int v.toInt8.toInt32)) dv → Go l R Z n0 y code ml ret Q cells slots h' pc' Ls st) : Go l R Z n0 y code ml ret Q cells slots h pc Ls (.int v :: .int j :: .ref a :: st) := by
  refine Go.law (P := fun h' => (Wr h h' a i (.int v.toInt8.toInt32) ∧ Arv Z h' a kA .byte z (vs.set i (.int v.toInt8.toInt32)) dv)) (fun C X N eT hn => ?_) (fun h' q => k h' q.1 q.2)
  subst hp
  obtain ⟨cl, A, q1, S, q3, H, G⟩ := F
  obtain ⟨T', h', X', e', W, st⟩ := stB X C.1 C.2.1 eT A (j := j) (inb_of S ⟨hj, hjz⟩) (g := mkF _ pc Ls (.int v :: .int j :: .ref a :: st)) rfl rfl (hb C.2.2.2.1 hd)
  have V := Arv.set A q1 S q3 H G (fits_nar_byte v) W i hi hil
  subst hi
  exact ⟨T', _, h', X', Fr.snoc X' N ha, e', ⟨W, V⟩, st⟩
theorem Go.aastore {a : Addr} {kA : ClassId} {ty : FieldType} {z j : Int32} {vs : List Value} {dv v : Value} {i : Nat} (F : Arv Z h a kA ty z vs dv) (ha : n0 ≤ a) (hty : ty.isReference = true) (hfit : fits ty v = true) (Fs : Sto Z h a v) (hd : decode code pc = .ok (.aastore, 1)) (hj : ¬ j < 0) (hjz : j < z) (hi : j.toNatClampNeg = i) (hil : i < vs.length) (hp : pc + 1 = pc') (k : ∀ h', Wr h h' a i v → Arv Z h' a kA ty z (vs.set i v) dv → Go l R Z n0 y code ml ret Q cells slots h' pc' Ls st) : Go l R Z n0 y code ml ret Q cells slots h pc Ls (v :: .int j :: .ref a :: st) := by
  refine Go.law (P := fun h' => (Wr h h' a i v ∧ Arv Z h' a kA ty z (vs.set i v) dv)) (fun C X N eT hn => ?_) (fun h' q => k h' q.1 q.2)
  subst hp
  obtain ⟨cl, A, q1, S, q3, H, G⟩ := F
  obtain ⟨T', h', X', e', W, st⟩ := stR X C.1 C.2.1 eT A (j := j) (inb_of S ⟨hj, hjz⟩) hty Fs (g := mkF _ pc Ls (v :: .int j :: .ref a :: st)) rfl rfl (hb C.2.2.2.1 hd)
  have V := Arv.set A q1 S q3 H G hfit W i hi hil
  subst hi
  exact ⟨T', _, h', X', Fr.snoc X' N ha, e', ⟨W, V⟩, st⟩
theorem Go.iaload {a : Addr} {kA : ClassId} {z j : Int32} {vs : List Value} {dv : Value} {v : Int32} (F : Arv Z h a kA .int z vs dv) (hd : decode code pc = .ok (.iaload, 1)) (hj : ¬ j < 0) (hjz : j < z) (hv : vs.getD j.toNatClampNeg dv = .int v) (hp : pc + 1 = pc') (k : Go l R Z n0 y code ml ret Q cells slots h pc' Ls (.int v :: st)) : Go l R Z n0 y code ml ret Q cells slots h pc Ls (.int j :: .ref a :: st) := by
  refine Go.step (fun C X eT q => ?_) k
  subst hp
  obtain ⟨cl, A, q1, S, q3, H, G⟩ := F
  have hin := inb_of S ⟨hj, hjz⟩
  exact X.iaload C.1 (j := j) (v := .int v) (by rw [eT]; exact A.1) (State.isArrayOf_alike C.2.1.alike A.2.1) A.2.2 hin (Has.at H hin hv) (g := mkF _ pc Ls (.int j :: .ref a :: st)) rfl rfl (hb C.2.2.2.1 hd) _ q
theorem Go.laload {a : Addr} {kA : ClassId} {z j : Int32} {vs : List Value} {dv : Value} {v : Int64} (F : Arv Z h a kA .long z vs dv) (hd : decode code pc = .ok (.laload, 1)) (hj : ¬ j < 0) (hjz : j < z) (hv : vs.getD j.toNatClampNeg dv = .long v) (hp : pc + 1 = pc') (k : Go l R Z n0 y code ml ret Q cells slots h pc' Ls (.long v :: st)) : Go l R Z n0 y code ml ret Q cells slots h pc Ls (.int j :: .ref a :: st) := by
  refine Go.step (fun C X eT q => ?_) k
  subst hp
  obtain ⟨cl, A, q1, S, q3, H, G⟩ := F
  have hin := inb_of S ⟨hj, hjz⟩
  exact X.laload C.1 (j := j) (v := .long v) (by rw [eT]; exact A.1) (State.isArrayOf_alike C.2.1.alike A.2.1) A.2.2 hin (Has.at H hin hv) (g := mkF _ pc Ls (.int j :: .ref a :: st)) rfl rfl (hb C.2.2.2.1 hd) _ q
theorem Go.caload {a : Addr} {kA : ClassId} {z j : Int32} {vs : List Value} {dv : Value} {v : Int32} (F : Arv Z h a kA .char z vs dv) (hd : decode code pc = .ok (.caload, 1)) (hj : ¬ j < 0) (hjz : j < z) (hv : vs.getD j.toNatClampNeg dv = .int v) (hp : pc + 1 = pc') (k : Go l R Z n0 y code ml ret Q cells slots h pc' Ls (.int v :: st)) : Go l R Z n0 y code ml ret Q cells slots h pc Ls (.int j :: .ref a :: st) := by
  refine Go.step (fun C X eT q => ?_) k
  subst hp
  obtain ⟨cl, A, q1, S, q3, H, G⟩ := F
  have hin := inb_of S ⟨hj, hjz⟩
  exact X.caload C.1 (j := j) (v := .int v) (by rw [eT]; exact A.1) (State.isArrayOf_alike C.2.1.alike A.2.1) A.2.2 hin (Has.at H hin hv) (g := mkF _ pc Ls (.int j :: .ref a :: st)) rfl rfl (hb C.2.2.2.1 hd) _ q
theorem Go.baload {a : Addr} {kA : ClassId} {z j : Int32} {vs : List Value} {dv : Value} {v : Int32} (F : Arv Z h a kA .byte z vs dv) (hd : decode code pc = .ok (.baload, 1)) (hj : ¬ j < 0) (hjz : j < z) (hv : vs.getD j.toNatClampNeg dv = .int v) (hp : pc + 1 = pc') (k : Go l R Z n0 y code ml ret Q cells slots h pc' Ls (.int v :: st)) : Go l R Z n0 y code ml ret Q cells slots h pc Ls (.int j :: .ref a :: st) := by
  refine Go.step (fun C X eT q => ?_) k
  subst hp
  obtain ⟨cl, A, q1, S, q3, H, G⟩ := F
  have hin := inb_of S ⟨hj, hjz⟩
  exact X.baloadBytes C.1 (j := j) (v := .int v) (by rw [eT]; exact A.1) (State.isArrayOf_alike C.2.1.alike A.2.1) A.2.2 hin (Has.at H hin hv) (g := mkF _ pc Ls (.int j :: .ref a :: st)) rfl rfl (hb C.2.2.2.1 hd) _ q
theorem Go.aaload {a : Addr} {kA : ClassId} {z j : Int32} {vs : List Value} {dv : Value} {v : Value} {ty : FieldType} (F : Arv Z h a kA ty z vs dv) (hty : ty.isReference = true) (hd : decode code pc = .ok (.aaload, 1)) (hj : ¬ j < 0) (hjz : j < z) (hv : vs.getD j.toNatClampNeg dv = v) (hp : pc + 1 = pc') (k : Go l R Z n0 y code ml ret Q cells slots h pc' Ls (v :: st)) : Go l R Z n0 y code ml ret Q cells slots h pc Ls (.int j :: .ref a :: st) := by
  refine Go.step (fun C X eT q => ?_) k
  subst hp
  obtain ⟨cl, A, q1, S, q3, H, G⟩ := F
  have hin := inb_of S ⟨hj, hjz⟩
  exact X.aaload C.1 (j := j) (v := v) (by rw [eT]; exact A.1) (State.isArrayOf_alike C.2.1.alike A.2.1) hty A.2.2 hin (Has.at H hin hv) (g := mkF _ pc Ls (.int j :: .ref a :: st)) rfl rfl (hb C.2.2.2.1 hd) _ q
theorem Go.arraylength {a : Addr} {kA : ClassId} {ty : FieldType} {z : Int32} {vs : List Value} {dv : Value} (F : Arv Z h a kA ty z vs dv) (hd : decode code pc = .ok (.arraylength, 1)) (hp : pc + 1 = pc') (k : Go l R Z n0 y code ml ret Q cells slots h pc' Ls (.int z :: st)) : Go l R Z n0 y code ml ret Q cells slots h pc Ls (.ref a :: st) := by
  refine Go.step (fun C X eT q => ?_) k
  subst hp
  obtain ⟨cl, A, q1, S, q3, H, G⟩ := F
  refine X.arraylength C.1 (by rw [eT]; exact A.1) (State.isArrayOf_alike C.2.1.alike A.2.1) (g := mkF _ pc Ls (.ref a :: st)) rfl rfl (hb C.2.2.2.1 hd) _ ?_
  rw [len_of S q3]
  exact q
theorem Go.retV (hr : ret = none) (hd : decode code pc = .ok (.return_, 1)) (hq : Q none h) (hc : cells ≤ R.cells := by decide) (hs : slots ≤ R.slots := by decide) : Go l R Z n0 y code ml ret Q cells slots h pc Ls [] := by
  intro p e s m args below meth c T locs C X N eT
  obtain ⟨fs, hr', hrun, hended, hW, hsame⟩ := X.leave (v := none) (fun _ => rfl) C.2.2.2.2.2.2.1
  refine ⟨_, _, X.returnOut C.1 (C.2.2.2.2.2.1.trans hr) (hb C.2.2.2.1 hd) hr', hrun, hended, _, locs, rfl, ⟨?_, N⟩, ⟨_, rfl⟩, hW, hsame.mono hc hs⟩
  show Q _ T.heap
  rw [eT]; exact hq
theorem Go.retN {t : FieldType} {v : Int32} (hr : ret = some t) (ht : t = .boolean ∨ t = .byte ∨ t = .char ∨ t = .short) (hd : decode code pc = .ok (.ireturn, 1)) (hq : Q (some (.int (nar t v))) h) (hc : cells ≤ R.cells := by decide) (hs : slots ≤ R.slots := by decide) : Go l R Z n0 y code ml ret Q cells slots h pc Ls (.int v :: st) := by
  intro p e s m args below meth c T locs C X N eT
  obtain ⟨fs, hr', hrun, hended, hW, hsame⟩ := X.leave (v := some (.int (nar t v))) (fun q => by rw [C.2.2.2.2.2.1, hr] at q; cases q) C.2.2.2.2.2.2.1
  refine ⟨_, _, Jvm.RoadKit.retN X C.1 (C.2.2.2.2.2.1.trans hr) ht (hb C.2.2.2.1 hd) hr', hrun, hended, _, locs, rfl, ⟨?_, N⟩, ⟨_, rfl⟩, hW, hsame.mono hc hs⟩
  show Q _ T.heap
  rw [eT]; exact hq
theorem Go.retI {v : Int32} (hr : ret = some .int) (hd : decode code pc = .ok (.ireturn, 1)) (hq : Q (some (.int v)) h) (hc : cells ≤ R.cells := by decide) (hs : slots ≤ R.slots := by decide) : Go l R Z n0 y code ml ret Q cells slots h pc Ls (.int v :: st) := by
  intro p e s m args below meth c T locs C X N eT
  obtain ⟨fs, hr', hrun, hended, hW, hsame⟩ := X.leave (v := some (.int v)) (fun q => by rw [C.2.2.2.2.2.1, hr] at q; cases q) C.2.2.2.2.2.2.1
  refine ⟨_, _, retOut X C.1 (C.2.2.2.2.2.1.trans hr) rfl (Or.inl ⟨rfl, Or.inl rfl, _, rfl⟩) (hb C.2.2.2.1 hd) hr', hrun, hended, _, locs, rfl, ⟨?_, N⟩, ⟨_, rfl⟩, hW, hsame.mono hc hs⟩
  show Q _ T.heap
  rw [eT]; exact hq
theorem Go.retJ {v : Int64} (hr : ret = some .long) (hd : decode code pc = .ok (.lreturn, 1)) (hq : Q (some (.long v)) h) (hc : cells ≤ R.cells := by decide) (hs : slots ≤ R.slots := by decide) : Go l R Z n0 y code ml ret Q cells slots h pc Ls (.long v :: st) := by
  intro p e s m args below meth c T locs C X N eT
  obtain ⟨fs, hr', hrun, hended, hW, hsame⟩ := X.leave (v := some (.long v)) (fun q => by rw [C.2.2.2.2.2.1, hr] at q; cases q) C.2.2.2.2.2.2.1
  refine ⟨_, _, retOut X C.1 (C.2.2.2.2.2.1.trans hr) rfl (Or.inr (Or.inl ⟨rfl, rfl, _, rfl⟩)) (hb C.2.2.2.1 hd) hr', hrun, hended, _, locs, rfl, ⟨?_, N⟩, ⟨_, rfl⟩, hW, hsame.mono hc hs⟩
  show Q _ T.heap
  rw [eT]; exact hq
theorem Go.retR {t : FieldType} {v : Value} (hr : ret = some t) (ht : t.isReference = true) (hv : v.isRef = true) (hn : narrow t v = v) (hd : decode code pc = .ok (.areturn, 1)) (hq : Q (some v) h) (hc : cells ≤ R.cells := by decide) (hs : slots ≤ R.slots := by decide) : Go l R Z n0 y code ml ret Q cells slots h pc Ls (v :: st) := by
  intro p e s m args below meth c T locs C X N eT
  obtain ⟨fs, hr', hrun, hended, hW, hsame⟩ := X.leave (v := some v) (fun q => by rw [C.2.2.2.2.2.1, hr] at q; cases q) C.2.2.2.2.2.2.1
  refine ⟨_, _, retOut X C.1 (C.2.2.2.2.2.1.trans hr) hn (Or.inr (Or.inr (Or.inr (Or.inr ⟨rfl, ht, hv⟩)))) (hb C.2.2.2.1 hd) hr', hrun, hended, _, locs, rfl, ⟨?_, N⟩, ⟨_, rfl⟩, hW, hsame.mono hc hs⟩
  show Q _ T.heap
  rw [eT]; exact hq
theorem Go.callS {z : MethodName} {zc : ByteArray} {zm : Nat} {zr : Option FieldType} {rm : Room} {Q' : Option Value → Heap → Prop} {cells' slots' i : Nat} (argsL rest : List Value) {ps : List FieldType} {r : Option FieldType} (w1 : (Jvm.Cond.methodLink y.cls i z).before a0 Z = true) (w2 : (Jvm.Cond.static z).before a0 Z = true) (wi : (Jvm.Cond.initialized z.cls).before a0 Z = true) (wc : (Jvm.Cond.code z zc zm zr).before a0 Z = true) (hy : z.cls ≠ "java/lang/invoke/MethodHandle" ∧ z.cls ≠ "java/lang/invoke/VarHandle") (hK : Con l z zc zm zr rm Z n0 argsL.toArray h Q') (hpd : parseMethodDescriptor z.desc = some ⟨ps, r⟩) (hlen : argsL.length = ps.length) (hst : st = argsL.reverse ++ rest) (hz : Ls.size = ml) (hc' : cells + rm.cells = cells') (hs' : slots + rm.slots = slots') (hfr : rm.frames + 1 ≤ R.frames := by decide) (hlo : (rest.map fun v => v.category).sum + (zm + 11) + rm.locals ≤ R.locals := by decide) (hc : cells' ≤ R.cells := by decide) (hs : slots' ≤ R.slots := by decide) (hd : decode code pc = .ok (.invokestatic i, 3)) (hp : pc + 3 = pc')
    (k : ∀ v h', Q' v h' → Go l R Z n0 y code ml ret Q cells' slots' h' pc' Ls (v.toList ++ rest)) : Go l R Z n0 y code ml ret Q cells slots h pc Ls st := by
  intro p e s m args below meth c T locs C X N eT
  subst hc' hs' hp hst
  have hold : Old Z n0 h := own_old C.2.2.2.2.2.2.2.2 X N eT
  obtain ⟨v, _, ⟨T', L', k', n'⟩, -, X', ⟨Lc, hQ, l', y', z'⟩, st⟩ := Jvm.LawKit.callS X C.1 (y := z) C.2.2.1 (mvT C.2.1 w1) (mvT C.2.1 w2) (mvT C.2.1 wi) (mvT C.2.1 wc) hy (backOf (W := (rest.map fun v => v.category).sum) (Q := fun v h L => Q' v h ∧ Fr n0 L) (hK hold []) C.2.1 wc wi hfr hlo) (g := mkF m pc Ls (argsL.reverse ++ rest)) rfl (by rw [C.2.2.2.2.1]; exact hz) (argsL := argsL) (rest := rest) (lenOf hpd hlen) rfl (by simp) (hb C.2.2.2.1 hd) (fun _ _ => ⟨rfl, eT, hc, hs⟩)
  dsimp only [Pt.U, Pt.locs, Pt.cells, Pt.slots] at X' l' y' z' st hQ
  subst l' y' z'
  obtain ⟨s₂, o, h1, h2⟩ := k v _ hQ.1 p e s m args below meth c T' _ C X' (Fr.app N hQ.2) rfl
  exact ⟨s₂, o, st _ h1, h2⟩
theorem Go.callC {z : MethodName} {zc : ByteArray} {zm : Nat} {zr : Option FieldType} {rm : Room} {Q' : Option Value → Heap → Prop} {cells' slots' i : Nat} (argsL rest : List Value) {ps : List FieldType} {r : Option FieldType} {a : Addr} (hzi : z.name = "<init>") (hzr : zr = none) (w1 : (Jvm.Cond.methodLink y.cls i z).before a0 Z = true) (w2 : (Jvm.Cond.instanceMethod z).before a0 Z = true) (wi : (Jvm.Cond.initialized z.cls).before a0 Z = true) (wc : (Jvm.Cond.code z zc zm zr).before a0 Z = true) (hy : z.cls ≠ "java/lang/invoke/MethodHandle" ∧ z.cls ≠ "java/lang/invoke/VarHandle") (hK : Con l z zc zm zr rm Z n0 (.ref a :: argsL).toArray h Q') (hpd : parseMethodDescriptor z.desc = some ⟨ps, r⟩) (hlen : argsL.length = ps.length) (hst : st = argsL.reverse ++ .ref a :: rest) (hz : Ls.size = ml) (hc' : cells + rm.cells = cells') (hs' : slots + rm.slots = slots') (hfr : rm.frames + 1 ≤ R.frames := by decide) (hlo : (rest.map fun v => v.category).sum + (zm + 11) + rm.locals ≤ R.locals := by decide) (hc : cells' ≤ R.cells := by decide) (hs : slots' ≤ R.slots := by decide) (hd : decode code pc = .ok (.invokespecial i, 3)) (hp : pc + 3 = pc')
    (k : ∀ v h', Q' v h' → Go l R Z n0 y code ml ret Q cells' slots' h' pc' Ls (v.toList ++ rest)) : Go l R Z n0 y code ml ret Q cells slots h pc Ls st := by
  intro p e s m args below meth c T locs C X N eT
  subst hc' hs' hp hst
  have hold : Old Z n0 h := own_old C.2.2.2.2.2.2.2.2 X N eT
  subst hzr
  obtain ⟨v, _, ⟨T', L', k', n'⟩, -, X', ⟨Lc, hQ, l', y', z'⟩, st⟩ := X.specialBack C.1 (y := z) hzi C.2.2.1 (mvT C.2.1 w1) (mvT C.2.1 w2) (mvT C.2.1 wc) hy (backOf (W := (rest.map fun v => v.category).sum) (Q := fun v h L => Q' v h ∧ Fr n0 L) (hK hold []) C.2.1 wc wi hfr hlo) (g := mkF m pc Ls (argsL.reverse ++ .ref a :: rest)) rfl (by rw [C.2.2.2.2.1]; exact hz) (Steps.refl _) (a := a) (argsL := argsL) (rest := rest) (lenOf hpd hlen) rfl (by simp) (hb C.2.2.2.1 hd) (fun _ _ => ⟨rfl, eT, hc, hs⟩)
  dsimp only [Pt.U, Pt.locs, Pt.cells, Pt.slots] at X' l' y' z' st hQ
  subst l' y' z'
  obtain ⟨s₂, o, h1, h2⟩ := k v _ hQ.1 p e s m args below meth c T' _ C X' (Fr.app N hQ.2) rfl
  exact ⟨s₂, o, st.trans h1, h2⟩
theorem Go.callCN {z : MethodName} {zc : ByteArray} {zm : Nat} {zr : Option FieldType} {rm : Room} {Q' : Option Value → Heap → Prop} {cells' slots' i : Nat} (argsL rest : List Value) {ps : List FieldType} {r : Option FieldType} {a : Addr} {host : String} (hzi : z.name = "<init>") (hzr : zr = none) (w1 : (Jvm.Cond.methodLinkNest y.cls i z host).before a0 Z = true) (w2 : (Jvm.Cond.instanceMethod z).before a0 Z = true) (wi : (Jvm.Cond.initialized z.cls).before a0 Z = true) (wc : (Jvm.Cond.code z zc zm zr).before a0 Z = true) (hy : z.cls ≠ "java/lang/invoke/MethodHandle" ∧ z.cls ≠ "java/lang/invoke/VarHandle") (hK : Con l z zc zm zr rm Z n0 (.ref a :: argsL).toArray h Q') (hpd : parseMethodDescriptor z.desc = some ⟨ps, r⟩) (hlen : argsL.length = ps.length) (hst : st = argsL.reverse ++ .ref a :: rest) (hz : Ls.size = ml) (hc' : cells + rm.cells = cells') (hs' : slots + rm.slots = slots') (hfr : rm.frames + 1 ≤ R.frames := by decide) (hlo : (rest.map fun v => v.category).sum + (zm + 11) + rm.locals ≤ R.locals := by decide) (hc : cells' ≤ R.cells := by decide) (hs : slots' ≤ R.slots := by decide) (hd : decode code pc = .ok (.invokespecial i, 3)) (hp : pc + 3 = pc')
    (k : ∀ v h', Q' v h' → Go l R Z n0 y code ml ret Q cells' slots' h' pc' Ls (v.toList ++ rest)) : Go l R Z n0 y code ml ret Q cells slots h pc Ls st := by
  intro p e s m args below meth c T locs C X N eT
  subst hc' hs' hp hst
  have hold : Old Z n0 h := own_old C.2.2.2.2.2.2.2.2 X N eT
  subst hzr
  obtain ⟨v, _, ⟨T', L', k', n'⟩, -, X', ⟨Lc, hQ, l', y', z'⟩, st⟩ := X.specialBackNest C.1 (y := z) hzi C.2.2.1 ((Cond.methodLinkNest_wide C.2.1 w1 :)) (mvT C.2.1 w2) (mvT C.2.1 wc) hy (backOf (W := (rest.map fun v => v.category).sum) (Q := fun v h L => Q' v h ∧ Fr n0 L) (hK hold []) C.2.1 wc wi hfr hlo) (g := mkF m pc Ls (argsL.reverse ++ .ref a :: rest)) rfl (by rw [C.2.2.2.2.1]; exact hz) (Steps.refl _) (a := a) (argsL := argsL) (rest := rest) (lenOf hpd hlen) rfl (by simp) (hb C.2.2.2.1 hd) (fun _ _ => ⟨rfl, eT, hc, hs⟩)
  dsimp only [Pt.U, Pt.locs, Pt.cells, Pt.slots] at X' l' y' z' st hQ
  subst l' y' z'
  obtain ⟨s₂, o, h1, h2⟩ := k v _ hQ.1 p e s m args below meth c T' _ C X' (Fr.app N hQ.2) rfl
  exact ⟨s₂, o, st.trans h1, h2⟩
theorem Go.callV {z : MethodName} {zc : ByteArray} {zm : Nat} {zr : Option FieldType} {rm : Room} {Q' : Option Value → Heap → Prop} {cells' slots' i : Nat} (argsL rest : List Value) {ps : List FieldType} {r : Option FieldType} {a : Addr} {x' : MethodName} {C' : String} (E : Exa Z h a C') (w1 : (Jvm.Cond.methodLink y.cls i x').before a0 Z = true) (w2 : (Jvm.Cond.declares x').before a0 Z = true) (nf : ∀ s' : State, Z.Warmed39 s'.vm → NotFace s' x') (w3 : (Jvm.Cond.selects C' x' z).before a0 Z = true) (w4 : (Jvm.Cond.instanceMethod z).before a0 Z = true) (wi : (Jvm.Cond.initialized z.cls).before a0 Z = true) (wc : (Jvm.Cond.code z zc zm zr).before a0 Z = true) (hy : x'.cls ≠ "java/lang/invoke/MethodHandle" ∧ x'.cls ≠ "java/lang/invoke/VarHandle") (hK : Con l z zc zm zr rm Z n0 (.ref a :: argsL).toArray h Q') (hpd : parseMethodDescriptor x'.desc = some ⟨ps, r⟩) (hlen : argsL.length = ps.length) (hst : st = argsL.reverse ++ .ref a :: rest) (hz : Ls.size = ml) (hc' : cells + rm.cells = cells') (hs' : slots + rm.slots = slots') (hfr : rm.frames + 1 ≤ R.frames := by decide) (hlo : (rest.map fun v => v.category).sum + (zm + 11) + rm.locals ≤ R.locals := by decide) (hc : cells' ≤ R.cells := by decide) (hs : slots' ≤ R.slots := by decide) (hd : decode code pc = .ok (.invokevirtual i, 3)) (hp : pc + 3 = pc')
    (k : ∀ v h', Q' v h' → Go l R Z n0 y code ml ret Q cells' slots' h' pc' Ls (v.toList ++ rest)) : Go l R Z n0 y code ml ret Q cells slots h pc Ls st := by
  intro p e s m args below meth c T locs C X N eT
  subst hc' hs' hp hst
  have hold : Old Z n0 h := own_old C.2.2.2.2.2.2.2.2 X N eT
  obtain ⟨cq, kq, qa, qb, qc⟩ := isOf C.2.1 eT E
  obtain ⟨v, _, ⟨T', L', k', n'⟩, -, X', ⟨Lc, hQ, l', y', z'⟩, st⟩ := X.virtualBack C.1 (y := x') (z := z) C.2.2.1 (mvT C.2.1 w1) (mvT C.2.1 w2) (nf s C.2.1) (mvT C.2.1 w3) (mvT C.2.1 w4) hy (backOf (W := (rest.map fun v => v.category).sum) (Q := fun v h L => Q' v h ∧ Fr n0 L) (hK hold []) C.2.1 wc wi hfr hlo) qa qc (g := mkF m pc Ls (argsL.reverse ++ .ref a :: rest)) rfl (by rw [C.2.2.2.2.1]; exact hz) (Steps.refl _) (argsL := argsL) (rest := rest) (lenOf hpd hlen) rfl (by simp) (hb C.2.2.2.1 hd) (fun _ _ => ⟨rfl, eT, hc, hs⟩)
  dsimp only [Pt.U, Pt.locs, Pt.cells, Pt.slots] at X' l' y' z' st hQ
  subst l' y' z'
  obtain ⟨s₂, o, h1, h2⟩ := k v _ hQ.1 p e s m args below meth c T' _ C X' (Fr.app N hQ.2) rfl
  exact ⟨s₂, o, st.trans h1, h2⟩
theorem Go.callU {z : MethodName} {zc : ByteArray} {zm : Nat} {zr : Option FieldType} {rm : Room} {Q' : Option Value → Heap → Prop} {cells' slots' i : Nat} (argsL rest : List Value) {ps : List FieldType} {r : Option FieldType} {a : Addr} {x' : MethodName} {C' owner : String} (E : Exa Z h a C') (w1 : (Jvm.Cond.methodLink y.cls i x').before a0 Z = true) (w2 : (Jvm.Cond.sameMethod x'.cls owner x'.name x'.desc).before a0 Z = true) (w5 : (Jvm.Cond.declares ⟨owner, x'.name, x'.desc⟩).before a0 Z = true) (w3 : (Jvm.Cond.selects C' x' z).before a0 Z = true) (w4 : (Jvm.Cond.instanceMethod z).before a0 Z = true) (wi : (Jvm.Cond.initialized z.cls).before a0 Z = true) (wc : (Jvm.Cond.code z zc zm zr).before a0 Z = true) (hy : owner ≠ "java/lang/invoke/MethodHandle" ∧ owner ≠ "java/lang/invoke/VarHandle") (hK : Con l z zc zm zr rm Z n0 (.ref a :: argsL).toArray h Q') (hpd : parseMethodDescriptor x'.desc = some ⟨ps, r⟩) (hlen : argsL.length = ps.length) (hst : st = argsL.reverse ++ .ref a :: rest) (hz : Ls.size = ml) (hc' : cells + rm.cells = cells') (hs' : slots + rm.slots = slots') (hfr : rm.frames + 1 ≤ R.frames := by decide) (hlo : (rest.map fun v => v.category).sum + (zm + 11) + rm.locals ≤ R.locals := by decide) (hc : cells' ≤ R.cells := by decide) (hs : slots' ≤ R.slots := by decide) (hd : decode code pc = .ok (.invokevirtual i, 3)) (hp : pc + 3 = pc')
    (k : ∀ v h', Q' v h' → Go l R Z n0 y code ml ret Q cells' slots' h' pc' Ls (v.toList ++ rest)) : Go l R Z n0 y code ml ret Q cells slots h pc Ls st := by
  intro p e s m args below meth c T locs C X N eT
  subst hc' hs' hp hst
  have hold : Old Z n0 h := own_old C.2.2.2.2.2.2.2.2 X N eT
  obtain ⟨cq, kq, qa, qb, qc⟩ := isOf C.2.1 eT E
  obtain ⟨v, _, ⟨T', L', k', n'⟩, -, X', ⟨Lc, hQ, l', y', z'⟩, st⟩ := X.virtualBackUp C.1 (x := x') (y := z) C.2.2.1 (mvT C.2.1 w1) (mvT C.2.1 w2) (mvT C.2.1 w5) hy (mvT C.2.1 w3) (mvT C.2.1 w4) (backOf (W := (rest.map fun v => v.category).sum) (Q := fun v h L => Q' v h ∧ Fr n0 L) (hK hold []) C.2.1 wc wi hfr hlo) qa qc (g := mkF m pc Ls (argsL.reverse ++ .ref a :: rest)) rfl (by rw [C.2.2.2.2.1]; exact hz) (Steps.refl _) (argsL := argsL) (rest := rest) (lenOf hpd hlen) rfl (by simp) (hb C.2.2.2.1 hd) (fun _ _ => ⟨rfl, eT, hc, hs⟩)
  dsimp only [Pt.U, Pt.locs, Pt.cells, Pt.slots] at X' l' y' z' st hQ
  subst l' y' z'
  obtain ⟨s₂, o, h1, h2⟩ := k v _ hQ.1 p e s m args below meth c T' _ C X' (Fr.app N hQ.2) rfl
  exact ⟨s₂, o, st.trans h1, h2⟩
theorem Go.callP {z : MethodName} {zc : ByteArray} {zm : Nat} {zr : Option FieldType} {rm : Room} {Q' : Option Value → Heap → Prop} {cells' slots' i : Nat} (argsL rest : List Value) {ps : List FieldType} {r : Option FieldType} {a : Addr} {C' : String} (E : Exa Z h a C') (w1 : (Jvm.Cond.methodLink y.cls i z).before a0 Z = true) (w2 : (Jvm.Cond.instanceMethod z).before a0 Z = true) (w3 : (Jvm.Cond.selects z.cls z z).before a0 Z = true) (w4 : (Jvm.Cond.privateMethod z).before a0 Z = true) (wi : (Jvm.Cond.initialized z.cls).before a0 Z = true) (wc : (Jvm.Cond.code z zc zm zr).before a0 Z = true) (hy : z.cls ≠ "java/lang/invoke/MethodHandle" ∧ z.cls ≠ "java/lang/invoke/VarHandle") (hK : Con l z zc zm zr rm Z n0 (.ref a :: argsL).toArray h Q') (hpd : parseMethodDescriptor z.desc = some ⟨ps, r⟩) (hlen : argsL.length = ps.length) (hst : st = argsL.reverse ++ .ref a :: rest) (hz : Ls.size = ml) (hc' : cells + rm.cells = cells') (hs' : slots + rm.slots = slots') (hfr : rm.frames + 1 ≤ R.frames := by decide) (hlo : (rest.map fun v => v.category).sum + (zm + 11) + rm.locals ≤ R.locals := by decide) (hc : cells' ≤ R.cells := by decide) (hs : slots' ≤ R.slots := by decide) (hd : decode code pc = .ok (.invokevirtual i, 3)) (hp : pc + 3 = pc')
    (k : ∀ v h', Q' v h' → Go l R Z n0 y code ml ret Q cells' slots' h' pc' Ls (v.toList ++ rest)) : Go l R Z n0 y code ml ret Q cells slots h pc Ls st := by
  intro p e s m args below meth c T locs C X N eT
  subst hc' hs' hp hst
  have hold : Old Z n0 h := own_old C.2.2.2.2.2.2.2.2 X N eT
  obtain ⟨cq, qa, qb⟩ := E.cell
  obtain ⟨v, _, ⟨T', L', k', n'⟩, -, X', ⟨Lc, hQ, l', y', z'⟩, st⟩ := X.privateBack C.1 (y := z) C.2.2.1 (mvT C.2.1 w1) (mvT C.2.1 w2) (mvT C.2.1 w3) (Cond.privateMethod_at (mvP C.2.1 w4 (args := #[]))) (mvT C.2.1 wc) hy (backOf (W := (rest.map fun v => v.category).sum) (Q := fun v h L => Q' v h ∧ Fr n0 L) (hK hold []) C.2.1 wc wi hfr hlo) (g := mkF m pc Ls (argsL.reverse ++ .ref a :: rest)) rfl (by rw [C.2.2.2.2.1]; exact hz) (Steps.refl _) (a := a) (by rw [eT]; exact qa) qb (argsL := argsL) (rest := rest) (lenOf hpd hlen) rfl (by simp) (hb C.2.2.2.1 hd) (fun _ _ => ⟨rfl, eT, hc, hs⟩)
  dsimp only [Pt.U, Pt.locs, Pt.cells, Pt.slots] at X' l' y' z' st hQ
  subst l' y' z'
  obtain ⟨s₂, o, h1, h2⟩ := k v _ hQ.1 p e s m args below meth c T' _ C X' (Fr.app N hQ.2) rfl
  exact ⟨s₂, o, st.trans h1, h2⟩
theorem Go.callI {z : MethodName} {zc : ByteArray} {zm : Nat} {zr : Option FieldType} {rm : Room} {Q' : Option Value → Heap → Prop} {cells' slots' i : Nat} (argsL rest : List Value) {ps : List FieldType} {r : Option FieldType} {a : Addr} {x' : MethodName} {C' : String} {cnt : Nat} (E : Exa Z h a C') (w1 : (Jvm.Cond.methodLink y.cls i x').before a0 Z = true) (w2 : (Jvm.Cond.declares x').before a0 Z = true) (w3 : (Jvm.Cond.interfaceMethod x'.cls x'.cls x'.name x'.desc).before a0 Z = true) (w4 : (Jvm.Cond.selects C' x' z).before a0 Z = true) (w5 : (Jvm.Cond.instanceMethod z).before a0 Z = true) (w6 : (Jvm.Cond.publicMethod z).before a0 Z = true) (w7 : (Jvm.Cond.unhidden C' x'.name x'.desc).before a0 Z = true) (w8 : (Jvm.Cond.castable C' x'.cls).before a0 Z = true) (wi : (Jvm.Cond.initialized z.cls).before a0 Z = true) (wc : (Jvm.Cond.code z zc zm zr).before a0 Z = true) (hy : x'.cls ≠ "java/lang/invoke/MethodHandle" ∧ x'.cls ≠ "java/lang/invoke/VarHandle") (hK : Con l z zc zm zr rm Z n0 (.ref a :: argsL).toArray h Q') (hpd : parseMethodDescriptor x'.desc = some ⟨ps, r⟩) (hlen : argsL.length = ps.length) (hst : st = argsL.reverse ++ .ref a :: rest) (hz : Ls.size = ml) (hc' : cells + rm.cells = cells') (hs' : slots + rm.slots = slots') (hfr : rm.frames + 1 ≤ R.frames := by decide) (hlo : (rest.map fun v => v.category).sum + (zm + 11) + rm.locals ≤ R.locals := by decide) (hc : cells' ≤ R.cells := by decide) (hs : slots' ≤ R.slots := by decide) (hd : decode code pc = .ok (.invokeinterface i cnt, 5)) (hp : pc + 5 = pc')
    (k : ∀ v h', Q' v h' → Go l R Z n0 y code ml ret Q cells' slots' h' pc' Ls (v.toList ++ rest)) : Go l R Z n0 y code ml ret Q cells slots h pc Ls st := by
  intro p e s m args below meth c T locs C X N eT
  subst hc' hs' hp hst
  have hold : Old Z n0 h := own_old C.2.2.2.2.2.2.2.2 X N eT
  obtain ⟨cq, kq, qa, qb, qc⟩ := isOf C.2.1 eT E
  obtain ⟨v, _, ⟨T', L', k', n'⟩, -, X', ⟨Lc, hQ, l', y', z'⟩, st⟩ := X.interfaceBack C.1 (xi := x') (y := z) C.2.2.1 (mvT C.2.1 w1) (mvT C.2.1 w2) (mvT C.2.1 w3 (hd := by simp [Cond.onTables, Cond.keepsFace, Cond.keeps, Cond.steady, Cond.faceAtom]; exact hy)) (mvT C.2.1 w4) (mvT C.2.1 w5) (mvT C.2.1 w6) (mvT C.2.1 w7) (mvT C.2.1 w8) hy (backOf (W := (rest.map fun v => v.category).sum) (Q := fun v h L => Q' v h ∧ Fr n0 L) (hK hold []) C.2.1 wc wi hfr hlo) qa qb qc (g := mkF m pc Ls (argsL.reverse ++ .ref a :: rest)) rfl (by rw [C.2.2.2.2.1]; exact hz) (Steps.refl _) (argsL := argsL) (rest := rest) (lenOf hpd hlen) rfl (by simp) (hb C.2.2.2.1 hd) (fun _ _ => ⟨rfl, eT, hc, hs⟩)
  dsimp only [Pt.U, Pt.locs, Pt.cells, Pt.slots] at X' l' y' z' st hQ
  subst l' y' z'
  obtain ⟨s₂, o, h1, h2⟩ := k v _ hQ.1 p e s m args below meth c T' _ C X' (Fr.app N hQ.2) rfl
  exact ⟨s₂, o, st.trans h1, h2⟩
end Rules
end Jvm.OwnGo
namespace Jvm.OwnNum
theorem mask (x m : Int32) (hm : 0 ≤ m.toInt) : 0 ≤ (x &&& m).toInt ∧ (x &&& m).toInt ≤ m.toInt := by
  have e : ∀ z : Int32, z.toInt = z.toBitVec.toInt := fun _ => rfl
  have hb : (x &&& m).toBitVec = x.toBitVec &&& m.toBitVec := rfl
  rw [e] at hm
  rw [e (x &&& m), e m, hb]
  have h1 : 2 * m.toBitVec.toNat < 2 ^ 32 := by
    rw [BitVec.toInt_eq_toNat_cond] at hm
    split at hm
    · assumption
    · have := m.toBitVec.isLt; omega
  have h2 : (x.toBitVec &&& m.toBitVec).toNat ≤ m.toBitVec.toNat := by
    rw [BitVec.toNat_and]; exact Nat.and_le_right
  rw [BitVec.toInt_eq_toNat_of_lt (x := m.toBitVec) h1, BitVec.toInt_eq_toNat_of_lt (x := x.toBitVec &&& m.toBitVec) (by omega)]
  omega
theorem modr (y k : Int32) (hy : 0 ≤ y.toInt) (hk : 0 < k.toInt) : 0 ≤ (y % k).toInt ∧ (y % k).toInt < k.toInt := by
  rw [Int32.toInt_mod]
  exact ⟨Int.tmod_nonneg _ hy, Int.tmod_lt_of_pos _ hk⟩
theorem maskmod (x k : Int32) (hk : 0 < k.toInt) : 0 ≤ ((x &&& 2147483647) % k).toInt ∧ ((x &&& 2147483647) % k).toInt < k.toInt := modr _ k (mask x 2147483647 (by decide)).1 hk
theorem eqI {a k : Int32} (h : a.toInt = k.toInt) : a = k := Int32.toInt_inj.mp h
end Jvm.OwnNum
namespace Jvm.OwnNum
theorem lremE (x y : Int64) : x - (x / y) * y = x % y := by
  apply Int64.toInt_inj.mp
  rw [Int64.toInt_mod, Int64.toInt_sub, Int64.toInt_mul, Int64.toInt_div]
  have h := Int.mul_tdiv_add_tmod x.toInt y.toInt
  have e : (x.toInt - ((x.toInt.tdiv y.toInt).bmod (2^64) * y.toInt).bmod (2^64)).bmod (2^64) = (x.toInt - (x.toInt.tdiv y.toInt * y.toInt)).bmod (2^64) := by
    simp
  rw [e]
  have q : x.toInt - x.toInt.tdiv y.toInt * y.toInt = x.toInt.tmod y.toInt := by
    rw [Int.mul_comm]; omega
  rw [q]
  have h1 := Int64.le_toInt (x % y)
  have h2 := Int64.toInt_lt (x % y)
  rw [Int64.toInt_mod] at h1 h2
  exact Int.bmod_eq_of_le_mul_two (by omega) (by omega)
theorem mask64 (x m : Int64) (hm : 0 ≤ m.toInt) : 0 ≤ (x &&& m).toInt ∧ (x &&& m).toInt ≤ m.toInt := by
  have e : ∀ z : Int64, z.toInt = z.toBitVec.toInt := fun _ => rfl
  have hb : (x &&& m).toBitVec = x.toBitVec &&& m.toBitVec := rfl
  rw [e] at hm
  rw [e (x &&& m), e m, hb]
  have h1 : 2 * m.toBitVec.toNat < 2 ^ 64 := by
    rw [BitVec.toInt_eq_toNat_cond] at hm
    split at hm
    · assumption
    · have := m.toBitVec.isLt; omega
  have h2 : (x.toBitVec &&& m.toBitVec).toNat ≤ m.toBitVec.toNat := by
    rw [BitVec.toNat_and]; exact Nat.and_le_right
  rw [BitVec.toInt_eq_toNat_of_lt (x := m.toBitVec) h1, BitVec.toInt_eq_toNat_of_lt (x := x.toBitVec &&& m.toBitVec) (by omega)]
  omega
theorem maskmod64 (x m k : Int64) (hm : 0 ≤ m.toInt) (hk : 0 < k.toInt) : 0 ≤ ((x &&& m) - ((x &&& m) / k) * k).toInt ∧ ((x &&& m) - ((x &&& m) / k) * k).toInt < k.toInt := by
  rw [lremE, Int64.toInt_mod]
  exact ⟨Int.tmod_nonneg _ (mask64 x m hm).1, Int.tmod_lt_of_pos _ hk⟩
theorem narrowI (x : Int64) (h1 : 0 ≤ x.toInt) (h2 : x.toInt < 2147483648) : x.toInt32.toInt = x.toInt := by
  rw [Int64.toInt_toInt32]
  exact Int.bmod_eq_of_le_mul_two (by omega) (by omega)
theorem lmod5 (x : Int64) : 0 ≤ (((x &&& (9223372036854775807 : Int64)) - ((x &&& (9223372036854775807 : Int64)) / (5 : Int64)) * (5 : Int64)).toInt32).toInt ∧ (((x &&& (9223372036854775807 : Int64)) - ((x &&& (9223372036854775807 : Int64)) / (5 : Int64)) * (5 : Int64)).toInt32).toInt < 5 := by
  have h := maskmod64 x 9223372036854775807 5 (by decide) (by decide)
  have e5 : (5 : Int64).toInt = 5 := by decide
  rw [e5] at h
  rw [narrowI _ h.1 (by omega)]
  exact h
end Jvm.OwnNum
namespace Jvm.OwnGo
open Jvm Jvm.ClassFile Sem Op Lib Jvm.Free Jvm.Stand Jvm.LawKit Jvm.RoadKit
section Sheet
variable {args : Array Value} {s : State} {t : Term} {a : Addr}
theorem own_eqI {k : Int32} (h : (Jvm.Cond.eq t (.int k)).value args s none s [] = some true) : t.eval args s none [] s = some (.int k) := by
  simp only [Cond.value, Term.eval] at h
  cases ht : t.eval args s none [] s with
  | none => simp [ht] at h
  | some x => cases x <;> simp [ht] at h ⊢; exact h
theorem own_eqJ {k : Int64} (h : (Jvm.Cond.eq t (.long k)).value args s none s [] = some true) : t.eval args s none [] s = some (.long k) := by
  simp only [Cond.value, Term.eval] at h
  cases ht : t.eval args s none [] s with
  | none => simp [ht] at h
  | some x => cases x <;> simp [ht] at h ⊢; exact h
theorem own_eqR {u : Term} {b : Addr} (hu : u.eval args s none [] s = some (.ref b)) (h : (Jvm.Cond.eq t u).value args s none s [] = some true) : t.eval args s none [] s = some (.ref b) := by
  simp only [Cond.value, hu] at h
  cases ht : t.eval args s none [] s with
  | none => simp [ht] at h
  | some x => cases x <;> simp [ht] at h ⊢; exact h
theorem own_fld {C n d : String} {v : Value} (ht : t.eval args s none [] s = some (.ref a)) (h : (Term.field t C n d).eval args s none [] s = some v) : Jvm.RoadKit.Fld s s.heap a C n d v :=
  Fld.start (by rw [← fld_at (C := C) (n := n) (dd := d) ht]; exact h)
theorem own_arr {ty : FieldType} {n : Int32} (ev : t.eval args s none [] s = some (.ref a)) (hx : (Jvm.Cond.arrayOf t ty).value args s none s [] = some true) (hl : (Term.length t).eval args s none [] s = some (.int n)) :
    ∃ c, Arr s s.heap a c ty ∧ c.slots.size < 2 ^ 31 ∧ c.slots.size.toInt32 = n := by
  obtain ⟨c, A⟩ := Arr.start ev hx
  have e := A.fin (Vm.Alike.refl _)
  refine ⟨c, A, ?_⟩
  simp only [Term.eval, ev, Option.bind_eq_bind, Option.bind_some, e] at hl
  split at hl
  · rename_i q; exact ⟨q, by simpa using hl⟩
  · cases hl
theorem own_elem {ty : FieldType} {j : Int32} {c : Cell} {v : Value} (ev : t.eval args s none [] s = some (.ref a)) (A : Arr s s.heap a c ty) (hj : ¬ j < 0) (h : (Term.elem t (.int j)).eval args s none [] s = some v) : c.slots[j.toNatClampNeg]? = some v := by
  rw [elem_f ev (Term.int_eval j) (A.fin (Vm.Alike.refl _)) hj] at h; exact h
end Sheet
end Jvm.OwnGo
namespace Jvm.OwnGo
open Jvm Jvm.ClassFile Sem Op Lib Jvm.Free Jvm.Stand Jvm.LawKit Jvm.RoadKit
theorem own_arvAny {s : State} {a : Addr} {c : Cell} {ty : FieldType} {n : Int32} {dv : Value} (hf : Fit s) (A : Arr s s.heap a c ty) (q : c.slots.size < 2 ^ 31) (e : c.slots.size.toInt32 = n) (hn : ¬ n < 0) : Jvm.RoadKit.Arv s s.heap a c.cls ty n c.slots.toList dv := by
  have S : c.slots.size = n.toNatClampNeg := by rw [← e]; simp only [Int32.toNatClampNeg, len_toInt q]; rfl
  have H : Has c c.slots.toList dv := fun k hk => by simp [List.getD_eq_getElem?_getD, hk]
  refine ⟨c, A, rfl, S, hn, H, fun j hj => ?_⟩
  have hi := idx_in hj q
  obtain ⟨v, h1, h2⟩ := elem_fit hf A hi
  have ej : (j.toInt32).toNatClampNeg = j := by
    simp only [Int32.toNatClampNeg, len_toInt (Nat.lt_trans hj q)]; rfl
  rw [ej, H j hj] at h1
  cases h1
  exact h2
end Jvm.OwnGo
namespace Jvm.OwnGo
open Jvm Jvm.ClassFile Sem Op Lib Jvm.Free Jvm.Stand Jvm.LawKit Jvm.RoadKit
theorem own_eqV {args : Array Value} {s : State} {t u : Term} {idx : List Nat} {k : Int32} (hu : u.eval args s none idx s = some (.int k)) (h : (Jvm.Cond.eq t u).value args s none s idx = some true) : t.eval args s none idx s = some (.int k) := by
  simp only [Cond.value, hu] at h
  cases ht : t.eval args s none idx s with
  | none => simp [ht] at h
  | some x => cases x <;> simp [ht] at h ⊢; exact h
theorem own_static_idx {args : Array Value} {s : State} {C n d : String} {v : Value} (h : (Term.static C n d).eval args s none [] s = some v) (idx : List Nat) : (Term.static C n d).eval args s none idx s = some v := by
  simp only [Term.eval] at h ⊢; exact h
theorem own_i128 (i : Int32) (h1 : ¬ i < -128) (h2 : ¬ 127 < i) : ¬ i + 128 < 0 ∧ i + 128 < 256 ∧ (i + 128).toNatClampNeg < 256 := by
  rw [Int32.lt_iff_toInt_lt] at h1 h2
  have e1 : (-128 : Int32).toInt = -128 := by decide
  have e2 : (127 : Int32).toInt = 127 := by decide
  have e3 : (128 : Int32).toInt = 128 := by decide
  rw [e1] at h1; rw [e2] at h2
  have e : (i + 128).toInt = i.toInt + 128 := by
    rw [Int32.toInt_add, e3]; exact Int.bmod_eq_of_le_mul_two (by omega) (by omega)
  refine ⟨?_, ?_, ?_⟩
  · rw [Int32.lt_iff_toInt_lt, e]; have : (0 : Int32).toInt = 0 := by decide
    omega
  · rw [Int32.lt_iff_toInt_lt, e]; have : (256 : Int32).toInt = 256 := by decide
    omega
  · simp only [Int32.toNatClampNeg, e]; omega
theorem own_cache {args : Array Value} {s : State} {a : Addr} {c : Cell} {ct : Term} (ev : ∀ idx, ct.eval args s none idx s = some (.ref a)) (A : Arr s s.heap a c (.object "java/lang/Integer")) (hsz : c.slots.size < 2 ^ 31) (hn : c.slots.size.toInt32 = 256)
    (hall : (Jvm.Cond.all ct (.and (.exactly (.elem ct (.index 0)) "java/lang/Integer") (.eq (.field (.elem ct (.index 0)) "java/lang/Integer" "value" "I") (.sub (.index 0) (.int 128))))).value args s none s [] = some true) :
    ∀ i : Int32, ¬ i < -128 → ¬ 127 < i → ∃ w, c.slots.toList.getD (i + 128).toNatClampNeg .null = .ref w ∧ Jvm.RoadKit.Exa s s.heap w "java/lang/Integer" ∧ Jvm.RoadKit.Fld s s.heap w "java/lang/Integer" "value" "I" (.int i) := by
  intro i h1 h2
  obtain ⟨b1, b2, b3⟩ := own_i128 i h1 h2
  have hat := A.fin (Vm.Alike.refl _)
  have S : c.slots.size = 256 := by
    have : c.slots.size = (256 : Int32).toNatClampNeg := by rw [← hn]; simp only [Int32.toNatClampNeg, len_toInt hsz]; rfl
    rw [this]; decide
  have q := Cond.all_elim (ev []) hat hall (i + 128).toNatClampNeg (by rw [S]; exact b3)
  obtain ⟨q1, q2⟩ := and_e q
  have ei : (Term.index 0).eval args s none [(i + 128).toNatClampNeg] s = some (.int (i + 128)) := idx_at b1
  obtain ⟨w, ew⟩ := exa_v q1
  have ew' := ew
  rw [elem_f (ev _) ei hat b1] at ew'
  have es : (Term.sub (.index 0) (.int 128)).eval args s none [(i + 128).toNatClampNeg] s = some (.int i) := by
    have e0 : i + 128 - 128 = i := by
      rw [Int32.sub_eq_add_neg, Int32.add_assoc]; simp
    have e1 := (back32 b1).1
    simp [Term.eval, e1, e0]
  have ef := own_eqV es q2
  refine ⟨w, ?_, exa_at ew q1, Fld.start ?_⟩
  · rw [List.getD_eq_getElem?_getD, Array.getElem?_toList, ew']; rfl
  · rw [← fld_at (C := "java/lang/Integer") (n := "value") (dd := "I") ew]; exact ef
end Jvm.OwnGo
namespace Jvm.OwnGo
open Jvm Jvm.ClassFile Sem Op Lib Jvm.Free Jvm.Stand Jvm.LawKit Jvm.RoadKit
theorem own_nroot {Z : State} {a0 : Array Value} {O K : String} {n : Nat} (w : (Jvm.Cond.noSuperclass O).before a0 Z = true) (wk : (Jvm.Cond.instantiable K n).before a0 Z = true) (hn : O ≠ K) : NS Z O K := by
  obtain ⟨c, k, h1, h2, h3, -, -⟩ := Cond.noSuperclass_spec w
  obtain ⟨t, kt, g1, -⟩ := Cond.instantiable_spec wk
  have ne := ids_ne h1 g1 hn
  refine ⟨c, t, h1, g1, fun fuel => ?_⟩
  cases fuel with
  | zero => rfl
  | succ f => simp [Vm.isSubclassAux, ne, h2, h3]
theorem own_nno {Z : State} {a0 : Array Value} {C S K : String} {n : Nat} (w : (Jvm.Cond.superclass C S).before a0 Z = true) (wk : (Jvm.Cond.instantiable K n).before a0 Z = true) (nn : NS Z C K) (hn : C ≠ K) : ∃ c t, Z.vm.findClass C = some c ∧ Z.vm.findClass K = some t ∧ Z.vm.assignable c t = false := by
  obtain ⟨c, t, h0, g0, n3⟩ := nn
  obtain ⟨p, k, kp, h1, h2, h3, h4, h5, -, h7⟩ := Cond.superclass_spec h0 w
  obtain ⟨t', kt, g1, g2, g3, g4, -⟩ := Cond.instantiable_spec wk
  cases g0.symm.trans g1
  have gi : kt.isInterface = false := by
    cases q : kt.isInterface with
    | false => rfl
    | true => simp [q] at g4
  have ne := ids_ne h0 g0 hn
  refine ⟨c, t, h0, g0, ?_⟩
  show Z.vm.assignableAux (255 + 1) c t = false
  simp [Vm.assignableAux, ne, h2, g2, h5, g3, gi, Vm.isSubclass, n3]
end Jvm.OwnGo
namespace Jvm.Pilot.@@N@@
open Jvm Jvm.ClassFile Sem Op Lib Jvm.Free Jvm.Stand Jvm.LawKit Jvm.RoadKit Bundle Jvm.OwnGo Jvm.Pilot.@@N@@.Jvm.D
theorem own_lmod5 (x : Int64) : ((x &&& (9223372036854775807 : Int64)) - ((x &&& (9223372036854775807 : Int64)) / (5 : Int64)) * (5 : Int64)).toInt32 = (0 : Int32) ∨ ((x &&& (9223372036854775807 : Int64)) - ((x &&& (9223372036854775807 : Int64)) / (5 : Int64)) * (5 : Int64)).toInt32 = (1 : Int32) ∨ ((x &&& (9223372036854775807 : Int64)) - ((x &&& (9223372036854775807 : Int64)) / (5 : Int64)) * (5 : Int64)).toInt32 = (2 : Int32) ∨ ((x &&& (9223372036854775807 : Int64)) - ((x &&& (9223372036854775807 : Int64)) / (5 : Int64)) * (5 : Int64)).toInt32 = (3 : Int32) ∨ ((x &&& (9223372036854775807 : Int64)) - ((x &&& (9223372036854775807 : Int64)) / (5 : Int64)) * (5 : Int64)).toInt32 = (4 : Int32) := by
  obtain ⟨h1, h2⟩ := OwnNum.lmod5 x
  have e : (5 : Int32).toInt = 5 := by decide
  have e' : (4 : Int32).toInt = 4 := by decide
  generalize ((x &&& (9223372036854775807 : Int64)) - ((x &&& (9223372036854775807 : Int64)) / (5 : Int64)) * (5 : Int64)).toInt32 = z at h1 h2 ⊢
  have q : z.toInt = 0 ∨ z.toInt = 1 ∨ z.toInt = 2 ∨ z.toInt = 3 ∨ z.toInt = 4 := by omega
  rcases q with q | q | q | q | q
  · exact Or.inl (OwnNum.eqI (q.trans (by decide)))
  · exact Or.inr (Or.inl (OwnNum.eqI (q.trans (by decide))))
  · exact Or.inr (Or.inr (Or.inl (OwnNum.eqI (q.trans (by decide)))))
  · exact Or.inr (Or.inr (Or.inr (Or.inl (OwnNum.eqI (q.trans (by decide))))))
  · exact Or.inr (Or.inr (Or.inr (Or.inr ((OwnNum.eqI (q.trans (by decide)))))))
theorem d4_0 : decode jdk_37_method_2_code 0 = .ok (.aload_n 0, 1) := by decide +kernel
theorem d4_1 : decode jdk_37_method_2_code 1 = .ok (.getfield 7, 3) := by decide +kernel
theorem d4_4 : decode jdk_37_method_2_code 4 = .ok (.ireturn, 1) := by decide +kernel
theorem pn_0 : plainName "java/lang/Enum" = true := by first | (simp [plainName, overriddenIn]; done) | decide +kernel
set_option maxRecDepth 65536 in
set_option maxHeartbeats 4000000 in
theorem c_ord (l : Launch) (Z : State) (a0 : Array Value) (hw : ∀ d ∈ tables_1, d.before a0 Z = true) {n0 : Nat} (h : Heap) (a : Addr) (n : Int32) (f : Fld Z Z.heap a "java/lang/Enum" "ordinal" "I" (.int n)) :
    Con l (⟨"java/lang/Enum", "ordinal", "()I"⟩ : MethodName) jdk_37_method_2_code 1 (some .int) ({ frames := 0, cells := 0, slots := 0, locals := 0 } : Room) Z n0 #[(.ref a)] h (fun v h' => v = some (.int n) ∧ h = h') := by
  refine Con.of_go (plainFor_of_name pn_0) (Ls := #[.val (.ref a)]) (fun m => by first | (simp [entryFrame, mkF, argsToLocals, Value.category]; done) | rfl) ?_
  refine Go.aloadN (pc' := 1) d4_0 rfl rfl rfl ?_
  refine Go.old (fun old1 => ?_)
  refine Go.getfield (pc' := 4) (host := "") (Or.inl (hw _ (List.mem_of_getElem? (i := 31) rfl))) Via.refl (f.ext old1.2) d4_1 rfl ?_
  exact Go.retI rfl d4_4 ⟨rfl, rfl⟩ (by decide) (by decide)
theorem d1_0 : decode prog_41_method_1_code 0 = .ok (.aload_n 0, 1) := by decide +kernel
theorem d1_1 : decode prog_41_method_1_code 1 = .ok (.invokespecial 1, 3) := by decide +kernel
theorem d1_4 : decode prog_41_method_1_code 4 = .ok (.aload_n 0, 1) := by decide +kernel
theorem d1_5 : decode prog_41_method_1_code 5 = .ok (.getstatic 7, 3) := by decide +kernel
theorem d1_8 : decode prog_41_method_1_code 8 = .ok (.arraylength, 1) := by decide +kernel
theorem d1_9 : decode prog_41_method_1_code 9 = .ok (.newarray .long, 2) := by decide +kernel
theorem d1_11 : decode prog_41_method_1_code 11 = .ok (.putfield 13, 3) := by decide +kernel
theorem d1_14 : decode prog_41_method_1_code 14 = .ok (.return_, 1) := by decide +kernel
theorem pn_1 : plainName "com/example/illumine/illumine/RenderStats" = true := by first | (simp [plainName, overriddenIn]; done) | decide +kernel
set_option maxRecDepth 65536 in
set_option maxHeartbeats 4000000 in
theorem c_init (l : Launch) (Z : State) (a0 : Array Value) (hw : ∀ d ∈ tables_1, d.before a0 Z = true) {n0 : Nat} (h : Heap) (a : Addr) (wc : Addr) (kc : ClassId) (vsc : List Value) (sc : Sta Z Z.heap "com/example/illumine/illumine/RenderStats" "COUNTS" "[Lcom/example/illumine/illumine/RenderStats$Count;" (.ref wc)) (vc : Arv Z Z.heap wc kc (.object "com/example/illumine/illumine/RenderStats$Count") (5 : Int32) vsc .null) (ge_a : n0 ≤ a) (e : Exa Z h a "com/example/illumine/illumine/RenderStats") (f : Fld Z h a "com/example/illumine/illumine/RenderStats" "counts" "[J" .null) :
    Con l (⟨"com/example/illumine/illumine/RenderStats", "<init>", "()V"⟩ : MethodName) prog_41_method_1_code 1 none ({ frames := 1, cells := 1, slots := 5, locals := 12 } : Room) Z n0 #[(.ref a)] h (fun v h' => ∃ b : Addr, ∃ kb : ClassId, v = none ∧ Keep h h' [a] ∧ n0 ≤ b ∧ h.size ≤ b ∧ Fld Z h' a "com/example/illumine/illumine/RenderStats" "counts" "[J" (.ref b) ∧ Arv Z h' b kb .long (5 : Int32) [(.long 0), (.long 0), (.long 0), (.long 0), (.long 0)] (.long 0)) := by
  refine Con.of_go (plainFor_of_name pn_1) (Ls := #[.val (.ref a)]) (fun m => by first | (simp [entryFrame, mkF, argsToLocals, Value.category]; done) | rfl) ?_
  refine Go.aloadN (pc' := 1) d1_0 rfl rfl rfl ?_
  refine Go.initO (pc' := 4) (hw _ (List.mem_of_getElem? (i := 11) rfl)) (hw _ (List.mem_of_getElem? (i := 12) rfl)) (hw _ (List.mem_of_getElem? (i := 13) rfl)) d1_1 rfl (Nat.le_of_ble_eq_true rfl) (Nat.le_of_ble_eq_true rfl) rfl ?_
  refine Go.aloadN (pc' := 5) d1_4 rfl rfl rfl ?_
  refine Go.old (fun old1 => ?_)
  refine Go.getstatic (pc' := 8) (host := "") (Or.inl (hw _ (List.mem_of_getElem? (i := 14) rfl))) Via.refl (sc.ext old1.2) d1_5 rfl ?_
  refine Go.arraylength (pc' := 9) (vc.ext old1.2) d1_8 rfl ?_
  refine Go.newarray (pc' := 11) (cells' := 1) (slots' := 5) (cap := 5) (hw _ (List.mem_of_getElem? (i := 16) rfl)) d1_9 (ad := "[J") (by decide) (by decide) (by decide) rfl rfl (by decide) (by decide) (by decide) rfl ?_
  intro h2 b2 g2 E2 ge2 kA2 A2 X2
  have sz3 : h.size ≤ b2 := Nat.le_trans (Keep.refl h [a]).1 (Nat.le_of_eq g2.symm)
  have K4 : Keep h h2 [a] := (Keep.refl h [a]).ext E2
  have V2 : Arv Z h2 b2 kA2 .long (5 : Int32) [(.long 0), (.long 0), (.long 0), (.long 0), (.long 0)] (.long 0) := Arv.pad A2 (pad_rep [] (.long 0) 5)
  refine Go.putfield (pc' := 14) (host := "") (Or.inl (hw _ (List.mem_of_getElem? (i := 17) rfl))) Via.refl (f.ext E2) (e.ext E2) (Or.inr ⟨(hw _ (List.mem_of_getElem? (i := 18) rfl)), rfl, rfl⟩) (hw _ (List.mem_of_getElem? (i := 6) rfl)) (ty := (.array .long)) (by decide) rfl rfl ge_a d1_11 rfl ?_
  intro h5 W6
  have K7 : Keep h h5 [a] := K4.wr W6 (Or.inl (List.mem_of_getElem? (i := 0) rfl))
  have f8 := (f.ext E2).same W6
  have ne9 : a ≠ b2 := (Nat.ne_of_lt (Nat.lt_of_lt_of_le e.lt (Nat.le_of_eq g2.symm)))
  exact Go.retV rfl d1_14 ⟨b2, kA2, rfl, K7, ge2, sz3, f8, (V2.other W6 (Ne.symm ne9))⟩ (by decide) (by decide)
theorem d3_0 : decode prog_41_method_3_code 0 = .ok (.aload_n 0, 1) := by decide +kernel
theorem d3_1 : decode prog_41_method_3_code 1 = .ok (.getfield 13, 3) := by decide +kernel
theorem d3_4 : decode prog_41_method_3_code 4 = .ok (.aload_n 1, 1) := by decide +kernel
theorem d3_5 : decode prog_41_method_3_code 5 = .ok (.invokevirtual 17, 3) := by decide +kernel
theorem d3_8 : decode prog_41_method_3_code 8 = .ok (.dup2, 1) := by decide +kernel
theorem d3_9 : decode prog_41_method_3_code 9 = .ok (.laload, 1) := by decide +kernel
theorem d3_10 : decode prog_41_method_3_code 10 = .ok (.lload_n 2, 1) := by decide +kernel
theorem d3_11 : decode prog_41_method_3_code 11 = .ok (.ladd, 1) := by decide +kernel
theorem d3_12 : decode prog_41_method_3_code 12 = .ok (.lastore, 1) := by decide +kernel
theorem d3_13 : decode prog_41_method_3_code 13 = .ok (.return_, 1) := by decide +kernel
theorem pd_0 : parseMethodDescriptor "()I" = some ⟨[], some .int⟩ := by decide +kernel
set_option maxRecDepth 65536 in
set_option maxHeartbeats 4000000 in
theorem c_count0 (l : Launch) (Z : State) (a0 : Array Value) (hw : ∀ d ∈ tables_1, d.before a0 Z = true) {n0 : Nat} (h : Heap) (a : Addr) (w0 : Addr) (t : Int64) (b : Addr) (kb : ClassId) (u0 : Int64) (u1 : Int64) (u2 : Int64) (u3 : Int64) (u4 : Int64) (x0 : Exa Z Z.heap w0 "com/example/illumine/illumine/RenderStats$Count") (o0 : Fld Z Z.heap w0 "java/lang/Enum" "ordinal" "I" (.int (0 : Int32))) (ge_b : n0 ≤ b) (f : Fld Z h a "com/example/illumine/illumine/RenderStats" "counts" "[J" (.ref b)) (v : Arv Z h b kb .long (5 : Int32) [(.long u0), (.long u1), (.long u2), (.long u3), (.long u4)] (.long 0)) :
    Con l (⟨"com/example/illumine/illumine/RenderStats", "count", "(Lcom/example/illumine/illumine/RenderStats$Count;J)V"⟩ : MethodName) prog_41_method_3_code 4 none ({ frames := 1, cells := 0, slots := 0, locals := 13 } : Room) Z n0 #[(.ref a), (.ref w0), (.long t)] h (fun v h' => v = none ∧ Keep h h' [b] ∧ Arv Z h' b kb .long (5 : Int32) [(.long (u0 + t)), (.long u1), (.long u2), (.long u3), (.long u4)] (.long 0)) := by
  refine Con.of_go (plainFor_of_name pn_1) (Ls := #[.val (.ref a), .val (.ref w0), .val (.long t), .second]) (fun m => by first | (simp [entryFrame, mkF, argsToLocals, Value.category]; done) | rfl) ?_
  refine Go.aloadN (pc' := 1) d3_0 rfl rfl rfl ?_
  refine Go.getfield (pc' := 4) (host := "") (Or.inl (hw _ (List.mem_of_getElem? (i := 17) rfl))) Via.refl f d3_1 rfl ?_
  refine Go.aloadN (pc' := 5) d3_4 rfl rfl rfl ?_
  refine Go.old (fun old1 => ?_)
  refine Go.callU (cells' := 0) (slots' := 0) (pc' := 8) [] [(.ref b)] (x0.ext old1.2) (hw _ (List.mem_of_getElem? (i := 24) rfl)) (hw _ (List.mem_of_getElem? (i := 25) rfl)) (hw _ (List.mem_of_getElem? (i := 26) rfl)) (hw _ (List.mem_of_getElem? (i := 28) rfl)) (hw _ (List.mem_of_getElem? (i := 27) rfl)) (hw _ (List.mem_of_getElem? (i := 29) rfl)) (hw _ (List.mem_of_getElem? (i := 30) rfl)) (by decide) (c_ord l Z a0 hw h w0 (0 : Int32) o0) pd_0 rfl rfl rfl rfl rfl (Nat.le_of_ble_eq_true rfl) (Nat.le_of_ble_eq_true rfl) (Nat.le_of_ble_eq_true rfl) (Nat.le_of_ble_eq_true rfl) d3_5 rfl ?_
  rintro _ _ ⟨rfl, rfl⟩
  show Go _ _ _ _ _ _ _ _ _ _ _ _ 8 #[.val (.ref a), .val (.ref w0), .val (.long t), .second] [(.int (0 : Int32)), (.ref b)]
  refine Go.dup2 (pc' := 9) d3_8 rfl rfl rfl ?_
  refine Go.laload (pc' := 10) (v := u0) v d3_9 (by decide) (by decide) rfl rfl ?_
  refine Go.lloadN (pc' := 11) d3_10 rfl rfl ?_
  refine Go.ladd (pc' := 12) d3_11 rfl ?_
  refine Go.lastore (pc' := 13) v ge_b d3_12 (by decide) (by decide) (i := 0) rfl (Nat.le_of_ble_eq_true rfl) rfl ?_
  intro h3 W4 V5
  have K6 : Keep h h3 [b] := (Keep.refl h [b]).wr W4 (Or.inl (List.mem_of_getElem? (i := 0) rfl))
  replace V5 : Arv Z h3 b kb .long (5 : Int32) [(.long (u0 + t)), (.long u1), (.long u2), (.long u3), (.long u4)] (.long 0) := V5
  exact Go.retV rfl d3_13 ⟨rfl, K6, V5⟩ (by decide) (by decide)
theorem d6_0 : decode prog_41_method_5_code 0 = .ok (.aload_n 0, 1) := by decide +kernel
theorem d6_1 : decode prog_41_method_5_code 1 = .ok (.getfield 13, 3) := by decide +kernel
theorem d6_4 : decode prog_41_method_5_code 4 = .ok (.getstatic 23, 3) := by decide +kernel
theorem d6_7 : decode prog_41_method_5_code 7 = .ok (.invokevirtual 17, 3) := by decide +kernel
theorem d6_10 : decode prog_41_method_5_code 10 = .ok (.laload, 1) := by decide +kernel
theorem d6_11 : decode prog_41_method_5_code 11 = .ok (.lreturn, 1) := by decide +kernel
set_option maxRecDepth 65536 in
set_option maxHeartbeats 4000000 in
theorem c_get0 (l : Launch) (Z : State) (a0 : Array Value) (hw : ∀ d ∈ tables_1, d.before a0 Z = true) {n0 : Nat} (h : Heap) (a : Addr) (w0 : Addr) (b : Addr) (kb : ClassId) (u0 : Int64) (u1 : Int64) (u2 : Int64) (u3 : Int64) (u4 : Int64) (s0 : Sta Z Z.heap "com/example/illumine/illumine/RenderStats$Count" "TRIANGLES" "Lcom/example/illumine/illumine/RenderStats$Count;" (.ref w0)) (x0 : Exa Z Z.heap w0 "com/example/illumine/illumine/RenderStats$Count") (o0 : Fld Z Z.heap w0 "java/lang/Enum" "ordinal" "I" (.int (0 : Int32))) (f : Fld Z h a "com/example/illumine/illumine/RenderStats" "counts" "[J" (.ref b)) (v : Arv Z h b kb .long (5 : Int32) [(.long u0), (.long u1), (.long u2), (.long u3), (.long u4)] (.long 0)) :
    Con l (⟨"com/example/illumine/illumine/RenderStats", "triangles", "()J"⟩ : MethodName) prog_41_method_5_code 1 (some .long) ({ frames := 1, cells := 0, slots := 0, locals := 13 } : Room) Z n0 #[(.ref a)] h (fun v h' => v = some (.long u0) ∧ h = h') := by
  refine Con.of_go (plainFor_of_name pn_1) (Ls := #[.val (.ref a)]) (fun m => by first | (simp [entryFrame, mkF, argsToLocals, Value.category]; done) | rfl) ?_
  refine Go.aloadN (pc' := 1) d6_0 rfl rfl rfl ?_
  refine Go.getfield (pc' := 4) (host := "") (Or.inl (hw _ (List.mem_of_getElem? (i := 17) rfl))) Via.refl f d6_1 rfl ?_
  refine Go.old (fun old1 => ?_)
  refine Go.getstatic (pc' := 7) (host := "") (Or.inl (hw _ (List.mem_of_getElem? (i := 51) rfl))) Via.refl (s0.ext old1.2) d6_4 rfl ?_
  refine Go.callU (cells' := 0) (slots' := 0) (pc' := 10) [] [(.ref b)] (x0.ext old1.2) (hw _ (List.mem_of_getElem? (i := 24) rfl)) (hw _ (List.mem_of_getElem? (i := 25) rfl)) (hw _ (List.mem_of_getElem? (i := 26) rfl)) (hw _ (List.mem_of_getElem? (i := 28) rfl)) (hw _ (List.mem_of_getElem? (i := 27) rfl)) (hw _ (List.mem_of_getElem? (i := 29) rfl)) (hw _ (List.mem_of_getElem? (i := 30) rfl)) (by decide) (c_ord l Z a0 hw h w0 (0 : Int32) o0) pd_0 rfl rfl rfl rfl rfl (Nat.le_of_ble_eq_true rfl) (Nat.le_of_ble_eq_true rfl) (Nat.le_of_ble_eq_true rfl) (Nat.le_of_ble_eq_true rfl) d6_7 rfl ?_
  rintro _ _ ⟨rfl, rfl⟩
  show Go _ _ _ _ _ _ _ _ _ _ _ _ 10 #[.val (.ref a)] [(.int (0 : Int32)), (.ref b)]
  refine Go.laload (pc' := 11) (v := u0) v d6_10 (by decide) (by decide) rfl rfl ?_
  exact Go.retJ rfl d6_11 ⟨rfl, rfl⟩ (by decide) (by decide)
set_option maxRecDepth 65536 in
set_option maxHeartbeats 4000000 in
theorem c_count1 (l : Launch) (Z : State) (a0 : Array Value) (hw : ∀ d ∈ tables_1, d.before a0 Z = true) {n0 : Nat} (h : Heap) (a : Addr) (w1 : Addr) (t : Int64) (b : Addr) (kb : ClassId) (u0 : Int64) (u1 : Int64) (u2 : Int64) (u3 : Int64) (u4 : Int64) (x1 : Exa Z Z.heap w1 "com/example/illumine/illumine/RenderStats$Count") (o1 : Fld Z Z.heap w1 "java/lang/Enum" "ordinal" "I" (.int (1 : Int32))) (ge_b : n0 ≤ b) (f : Fld Z h a "com/example/illumine/illumine/RenderStats" "counts" "[J" (.ref b)) (v : Arv Z h b kb .long (5 : Int32) [(.long u0), (.long u1), (.long u2), (.long u3), (.long u4)] (.long 0)) :
    Con l (⟨"com/example/illumine/illumine/RenderStats", "count", "(Lcom/example/illumine/illumine/RenderStats$Count;J)V"⟩ : MethodName) prog_41_method_3_code 4 none ({ frames := 1, cells := 0, slots := 0, locals := 13 } : Room) Z n0 #[(.ref a), (.ref w1), (.long t)] h (fun v h' => v = none ∧ Keep h h' [b] ∧ Arv Z h' b kb .long (5 : Int32) [(.long u0), (.long (u1 + t)), (.long u2), (.long u3), (.long u4)] (.long 0)) := by
  refine Con.of_go (plainFor_of_name pn_1) (Ls := #[.val (.ref a), .val (.ref w1), .val (.long t), .second]) (fun m => by first | (simp [entryFrame, mkF, argsToLocals, Value.category]; done) | rfl) ?_
  refine Go.aloadN (pc' := 1) d3_0 rfl rfl rfl ?_
  refine Go.getfield (pc' := 4) (host := "") (Or.inl (hw _ (List.mem_of_getElem? (i := 17) rfl))) Via.refl f d3_1 rfl ?_
  refine Go.aloadN (pc' := 5) d3_4 rfl rfl rfl ?_
  refine Go.old (fun old1 => ?_)
  refine Go.callU (cells' := 0) (slots' := 0) (pc' := 8) [] [(.ref b)] (x1.ext old1.2) (hw _ (List.mem_of_getElem? (i := 24) rfl)) (hw _ (List.mem_of_getElem? (i := 25) rfl)) (hw _ (List.mem_of_getElem? (i := 26) rfl)) (hw _ (List.mem_of_getElem? (i := 28) rfl)) (hw _ (List.mem_of_getElem? (i := 27) rfl)) (hw _ (List.mem_of_getElem? (i := 29) rfl)) (hw _ (List.mem_of_getElem? (i := 30) rfl)) (by decide) (c_ord l Z a0 hw h w1 (1 : Int32) o1) pd_0 rfl rfl rfl rfl rfl (Nat.le_of_ble_eq_true rfl) (Nat.le_of_ble_eq_true rfl) (Nat.le_of_ble_eq_true rfl) (Nat.le_of_ble_eq_true rfl) d3_5 rfl ?_
  rintro _ _ ⟨rfl, rfl⟩
  show Go _ _ _ _ _ _ _ _ _ _ _ _ 8 #[.val (.ref a), .val (.ref w1), .val (.long t), .second] [(.int (1 : Int32)), (.ref b)]
  refine Go.dup2 (pc' := 9) d3_8 rfl rfl rfl ?_
  refine Go.laload (pc' := 10) (v := u1) v d3_9 (by decide) (by decide) rfl rfl ?_
  refine Go.lloadN (pc' := 11) d3_10 rfl rfl ?_
  refine Go.ladd (pc' := 12) d3_11 rfl ?_
  refine Go.lastore (pc' := 13) v ge_b d3_12 (by decide) (by decide) (i := 1) rfl (Nat.le_of_ble_eq_true rfl) rfl ?_
  intro h3 W4 V5
  have K6 : Keep h h3 [b] := (Keep.refl h [b]).wr W4 (Or.inl (List.mem_of_getElem? (i := 0) rfl))
  replace V5 : Arv Z h3 b kb .long (5 : Int32) [(.long u0), (.long (u1 + t)), (.long u2), (.long u3), (.long u4)] (.long 0) := V5
  exact Go.retV rfl d3_13 ⟨rfl, K6, V5⟩ (by decide) (by decide)
theorem d7_0 : decode prog_41_method_6_code 0 = .ok (.aload_n 0, 1) := by decide +kernel
theorem d7_1 : decode prog_41_method_6_code 1 = .ok (.getfield 13, 3) := by decide +kernel
theorem d7_4 : decode prog_41_method_6_code 4 = .ok (.getstatic 27, 3) := by decide +kernel
theorem d7_7 : decode prog_41_method_6_code 7 = .ok (.invokevirtual 17, 3) := by decide +kernel
theorem d7_10 : decode prog_41_method_6_code 10 = .ok (.laload, 1) := by decide +kernel
theorem d7_11 : decode prog_41_method_6_code 11 = .ok (.lreturn, 1) := by decide +kernel
set_option maxRecDepth 65536 in
set_option maxHeartbeats 4000000 in
theorem c_get1 (l : Launch) (Z : State) (a0 : Array Value) (hw : ∀ d ∈ tables_1, d.before a0 Z = true) {n0 : Nat} (h : Heap) (a : Addr) (w1 : Addr) (b : Addr) (kb : ClassId) (u0 : Int64) (u1 : Int64) (u2 : Int64) (u3 : Int64) (u4 : Int64) (s1 : Sta Z Z.heap "com/example/illumine/illumine/RenderStats$Count" "PRIMARY_RAYS" "Lcom/example/illumine/illumine/RenderStats$Count;" (.ref w1)) (x1 : Exa Z Z.heap w1 "com/example/illumine/illumine/RenderStats$Count") (o1 : Fld Z Z.heap w1 "java/lang/Enum" "ordinal" "I" (.int (1 : Int32))) (f : Fld Z h a "com/example/illumine/illumine/RenderStats" "counts" "[J" (.ref b)) (v : Arv Z h b kb .long (5 : Int32) [(.long u0), (.long u1), (.long u2), (.long u3), (.long u4)] (.long 0)) :
    Con l (⟨"com/example/illumine/illumine/RenderStats", "primaryRays", "()J"⟩ : MethodName) prog_41_method_6_code 1 (some .long) ({ frames := 1, cells := 0, slots := 0, locals := 13 } : Room) Z n0 #[(.ref a)] h (fun v h' => v = some (.long u1) ∧ h = h') := by
  refine Con.of_go (plainFor_of_name pn_1) (Ls := #[.val (.ref a)]) (fun m => by first | (simp [entryFrame, mkF, argsToLocals, Value.category]; done) | rfl) ?_
  refine Go.aloadN (pc' := 1) d7_0 rfl rfl rfl ?_
  refine Go.getfield (pc' := 4) (host := "") (Or.inl (hw _ (List.mem_of_getElem? (i := 17) rfl))) Via.refl f d7_1 rfl ?_
  refine Go.old (fun old1 => ?_)
  refine Go.getstatic (pc' := 7) (host := "") (Or.inl (hw _ (List.mem_of_getElem? (i := 57) rfl))) Via.refl (s1.ext old1.2) d7_4 rfl ?_
  refine Go.callU (cells' := 0) (slots' := 0) (pc' := 10) [] [(.ref b)] (x1.ext old1.2) (hw _ (List.mem_of_getElem? (i := 24) rfl)) (hw _ (List.mem_of_getElem? (i := 25) rfl)) (hw _ (List.mem_of_getElem? (i := 26) rfl)) (hw _ (List.mem_of_getElem? (i := 28) rfl)) (hw _ (List.mem_of_getElem? (i := 27) rfl)) (hw _ (List.mem_of_getElem? (i := 29) rfl)) (hw _ (List.mem_of_getElem? (i := 30) rfl)) (by decide) (c_ord l Z a0 hw h w1 (1 : Int32) o1) pd_0 rfl rfl rfl rfl rfl (Nat.le_of_ble_eq_true rfl) (Nat.le_of_ble_eq_true rfl) (Nat.le_of_ble_eq_true rfl) (Nat.le_of_ble_eq_true rfl) d7_7 rfl ?_
  rintro _ _ ⟨rfl, rfl⟩
  show Go _ _ _ _ _ _ _ _ _ _ _ _ 10 #[.val (.ref a)] [(.int (1 : Int32)), (.ref b)]
  refine Go.laload (pc' := 11) (v := u1) v d7_10 (by decide) (by decide) rfl rfl ?_
  exact Go.retJ rfl d7_11 ⟨rfl, rfl⟩ (by decide) (by decide)
set_option maxRecDepth 65536 in
set_option maxHeartbeats 4000000 in
theorem c_count2 (l : Launch) (Z : State) (a0 : Array Value) (hw : ∀ d ∈ tables_1, d.before a0 Z = true) {n0 : Nat} (h : Heap) (a : Addr) (w2 : Addr) (t : Int64) (b : Addr) (kb : ClassId) (u0 : Int64) (u1 : Int64) (u2 : Int64) (u3 : Int64) (u4 : Int64) (x2 : Exa Z Z.heap w2 "com/example/illumine/illumine/RenderStats$Count") (o2 : Fld Z Z.heap w2 "java/lang/Enum" "ordinal" "I" (.int (2 : Int32))) (ge_b : n0 ≤ b) (f : Fld Z h a "com/example/illumine/illumine/RenderStats" "counts" "[J" (.ref b)) (v : Arv Z h b kb .long (5 : Int32) [(.long u0), (.long u1), (.long u2), (.long u3), (.long u4)] (.long 0)) :
    Con l (⟨"com/example/illumine/illumine/RenderStats", "count", "(Lcom/example/illumine/illumine/RenderStats$Count;J)V"⟩ : MethodName) prog_41_method_3_code 4 none ({ frames := 1, cells := 0, slots := 0, locals := 13 } : Room) Z n0 #[(.ref a), (.ref w2), (.long t)] h (fun v h' => v = none ∧ Keep h h' [b] ∧ Arv Z h' b kb .long (5 : Int32) [(.long u0), (.long u1), (.long (u2 + t)), (.long u3), (.long u4)] (.long 0)) := by
  refine Con.of_go (plainFor_of_name pn_1) (Ls := #[.val (.ref a), .val (.ref w2), .val (.long t), .second]) (fun m => by first | (simp [entryFrame, mkF, argsToLocals, Value.category]; done) | rfl) ?_
  refine Go.aloadN (pc' := 1) d3_0 rfl rfl rfl ?_
  refine Go.getfield (pc' := 4) (host := "") (Or.inl (hw _ (List.mem_of_getElem? (i := 17) rfl))) Via.refl f d3_1 rfl ?_
  refine Go.aloadN (pc' := 5) d3_4 rfl rfl rfl ?_
  refine Go.old (fun old1 => ?_)
  refine Go.callU (cells' := 0) (slots' := 0) (pc' := 8) [] [(.ref b)] (x2.ext old1.2) (hw _ (List.mem_of_getElem? (i := 24) rfl)) (hw _ (List.mem_of_getElem? (i := 25) rfl)) (hw _ (List.mem_of_getElem? (i := 26) rfl)) (hw _ (List.mem_of_getElem? (i := 28) rfl)) (hw _ (List.mem_of_getElem? (i := 27) rfl)) (hw _ (List.mem_of_getElem? (i := 29) rfl)) (hw _ (List.mem_of_getElem? (i := 30) rfl)) (by decide) (c_ord l Z a0 hw h w2 (2 : Int32) o2) pd_0 rfl rfl rfl rfl rfl (Nat.le_of_ble_eq_true rfl) (Nat.le_of_ble_eq_true rfl) (Nat.le_of_ble_eq_true rfl) (Nat.le_of_ble_eq_true rfl) d3_5 rfl ?_
  rintro _ _ ⟨rfl, rfl⟩
  show Go _ _ _ _ _ _ _ _ _ _ _ _ 8 #[.val (.ref a), .val (.ref w2), .val (.long t), .second] [(.int (2 : Int32)), (.ref b)]
  refine Go.dup2 (pc' := 9) d3_8 rfl rfl rfl ?_
  refine Go.laload (pc' := 10) (v := u2) v d3_9 (by decide) (by decide) rfl rfl ?_
  refine Go.lloadN (pc' := 11) d3_10 rfl rfl ?_
  refine Go.ladd (pc' := 12) d3_11 rfl ?_
  refine Go.lastore (pc' := 13) v ge_b d3_12 (by decide) (by decide) (i := 2) rfl (Nat.le_of_ble_eq_true rfl) rfl ?_
  intro h3 W4 V5
  have K6 : Keep h h3 [b] := (Keep.refl h [b]).wr W4 (Or.inl (List.mem_of_getElem? (i := 0) rfl))
  replace V5 : Arv Z h3 b kb .long (5 : Int32) [(.long u0), (.long u1), (.long (u2 + t)), (.long u3), (.long u4)] (.long 0) := V5
  exact Go.retV rfl d3_13 ⟨rfl, K6, V5⟩ (by decide) (by decide)
theorem d8_0 : decode prog_41_method_7_code 0 = .ok (.aload_n 0, 1) := by decide +kernel
theorem d8_1 : decode prog_41_method_7_code 1 = .ok (.getfield 13, 3) := by decide +kernel
theorem d8_4 : decode prog_41_method_7_code 4 = .ok (.getstatic 30, 3) := by decide +kernel
theorem d8_7 : decode prog_41_method_7_code 7 = .ok (.invokevirtual 17, 3) := by decide +kernel
theorem d8_10 : decode prog_41_method_7_code 10 = .ok (.laload, 1) := by decide +kernel
theorem d8_11 : decode prog_41_method_7_code 11 = .ok (.lreturn, 1) := by decide +kernel
set_option maxRecDepth 65536 in
set_option maxHeartbeats 4000000 in
theorem c_get2 (l : Launch) (Z : State) (a0 : Array Value) (hw : ∀ d ∈ tables_1, d.before a0 Z = true) {n0 : Nat} (h : Heap) (a : Addr) (w2 : Addr) (b : Addr) (kb : ClassId) (u0 : Int64) (u1 : Int64) (u2 : Int64) (u3 : Int64) (u4 : Int64) (s2 : Sta Z Z.heap "com/example/illumine/illumine/RenderStats$Count" "SHADOW_RAYS" "Lcom/example/illumine/illumine/RenderStats$Count;" (.ref w2)) (x2 : Exa Z Z.heap w2 "com/example/illumine/illumine/RenderStats$Count") (o2 : Fld Z Z.heap w2 "java/lang/Enum" "ordinal" "I" (.int (2 : Int32))) (f : Fld Z h a "com/example/illumine/illumine/RenderStats" "counts" "[J" (.ref b)) (v : Arv Z h b kb .long (5 : Int32) [(.long u0), (.long u1), (.long u2), (.long u3), (.long u4)] (.long 0)) :
    Con l (⟨"com/example/illumine/illumine/RenderStats", "shadowRays", "()J"⟩ : MethodName) prog_41_method_7_code 1 (some .long) ({ frames := 1, cells := 0, slots := 0, locals := 13 } : Room) Z n0 #[(.ref a)] h (fun v h' => v = some (.long u2) ∧ h = h') := by
  refine Con.of_go (plainFor_of_name pn_1) (Ls := #[.val (.ref a)]) (fun m => by first | (simp [entryFrame, mkF, argsToLocals, Value.category]; done) | rfl) ?_
  refine Go.aloadN (pc' := 1) d8_0 rfl rfl rfl ?_
  refine Go.getfield (pc' := 4) (host := "") (Or.inl (hw _ (List.mem_of_getElem? (i := 17) rfl))) Via.refl f d8_1 rfl ?_
  refine Go.old (fun old1 => ?_)
  refine Go.getstatic (pc' := 7) (host := "") (Or.inl (hw _ (List.mem_of_getElem? (i := 63) rfl))) Via.refl (s2.ext old1.2) d8_4 rfl ?_
  refine Go.callU (cells' := 0) (slots' := 0) (pc' := 10) [] [(.ref b)] (x2.ext old1.2) (hw _ (List.mem_of_getElem? (i := 24) rfl)) (hw _ (List.mem_of_getElem? (i := 25) rfl)) (hw _ (List.mem_of_getElem? (i := 26) rfl)) (hw _ (List.mem_of_getElem? (i := 28) rfl)) (hw _ (List.mem_of_getElem? (i := 27) rfl)) (hw _ (List.mem_of_getElem? (i := 29) rfl)) (hw _ (List.mem_of_getElem? (i := 30) rfl)) (by decide) (c_ord l Z a0 hw h w2 (2 : Int32) o2) pd_0 rfl rfl rfl rfl rfl (Nat.le_of_ble_eq_true rfl) (Nat.le_of_ble_eq_true rfl) (Nat.le_of_ble_eq_true rfl) (Nat.le_of_ble_eq_true rfl) d8_7 rfl ?_
  rintro _ _ ⟨rfl, rfl⟩
  show Go _ _ _ _ _ _ _ _ _ _ _ _ 10 #[.val (.ref a)] [(.int (2 : Int32)), (.ref b)]
  refine Go.laload (pc' := 11) (v := u2) v d8_10 (by decide) (by decide) rfl rfl ?_
  exact Go.retJ rfl d8_11 ⟨rfl, rfl⟩ (by decide) (by decide)
set_option maxRecDepth 65536 in
set_option maxHeartbeats 4000000 in
theorem c_count3 (l : Launch) (Z : State) (a0 : Array Value) (hw : ∀ d ∈ tables_1, d.before a0 Z = true) {n0 : Nat} (h : Heap) (a : Addr) (w3 : Addr) (t : Int64) (b : Addr) (kb : ClassId) (u0 : Int64) (u1 : Int64) (u2 : Int64) (u3 : Int64) (u4 : Int64) (x3 : Exa Z Z.heap w3 "com/example/illumine/illumine/RenderStats$Count") (o3 : Fld Z Z.heap w3 "java/lang/Enum" "ordinal" "I" (.int (3 : Int32))) (ge_b : n0 ≤ b) (f : Fld Z h a "com/example/illumine/illumine/RenderStats" "counts" "[J" (.ref b)) (v : Arv Z h b kb .long (5 : Int32) [(.long u0), (.long u1), (.long u2), (.long u3), (.long u4)] (.long 0)) :
    Con l (⟨"com/example/illumine/illumine/RenderStats", "count", "(Lcom/example/illumine/illumine/RenderStats$Count;J)V"⟩ : MethodName) prog_41_method_3_code 4 none ({ frames := 1, cells := 0, slots := 0, locals := 13 } : Room) Z n0 #[(.ref a), (.ref w3), (.long t)] h (fun v h' => v = none ∧ Keep h h' [b] ∧ Arv Z h' b kb .long (5 : Int32) [(.long u0), (.long u1), (.long u2), (.long (u3 + t)), (.long u4)] (.long 0)) := by
  refine Con.of_go (plainFor_of_name pn_1) (Ls := #[.val (.ref a), .val (.ref w3), .val (.long t), .second]) (fun m => by first | (simp [entryFrame, mkF, argsToLocals, Value.category]; done) | rfl) ?_
  refine Go.aloadN (pc' := 1) d3_0 rfl rfl rfl ?_
  refine Go.getfield (pc' := 4) (host := "") (Or.inl (hw _ (List.mem_of_getElem? (i := 17) rfl))) Via.refl f d3_1 rfl ?_
  refine Go.aloadN (pc' := 5) d3_4 rfl rfl rfl ?_
  refine Go.old (fun old1 => ?_)
  refine Go.callU (cells' := 0) (slots' := 0) (pc' := 8) [] [(.ref b)] (x3.ext old1.2) (hw _ (List.mem_of_getElem? (i := 24) rfl)) (hw _ (List.mem_of_getElem? (i := 25) rfl)) (hw _ (List.mem_of_getElem? (i := 26) rfl)) (hw _ (List.mem_of_getElem? (i := 28) rfl)) (hw _ (List.mem_of_getElem? (i := 27) rfl)) (hw _ (List.mem_of_getElem? (i := 29) rfl)) (hw _ (List.mem_of_getElem? (i := 30) rfl)) (by decide) (c_ord l Z a0 hw h w3 (3 : Int32) o3) pd_0 rfl rfl rfl rfl rfl (Nat.le_of_ble_eq_true rfl) (Nat.le_of_ble_eq_true rfl) (Nat.le_of_ble_eq_true rfl) (Nat.le_of_ble_eq_true rfl) d3_5 rfl ?_
  rintro _ _ ⟨rfl, rfl⟩
  show Go _ _ _ _ _ _ _ _ _ _ _ _ 8 #[.val (.ref a), .val (.ref w3), .val (.long t), .second] [(.int (3 : Int32)), (.ref b)]
  refine Go.dup2 (pc' := 9) d3_8 rfl rfl rfl ?_
  refine Go.laload (pc' := 10) (v := u3) v d3_9 (by decide) (by decide) rfl rfl ?_
  refine Go.lloadN (pc' := 11) d3_10 rfl rfl ?_
  refine Go.ladd (pc' := 12) d3_11 rfl ?_
  refine Go.lastore (pc' := 13) v ge_b d3_12 (by decide) (by decide) (i := 3) rfl (Nat.le_of_ble_eq_true rfl) rfl ?_
  intro h3 W4 V5
  have K6 : Keep h h3 [b] := (Keep.refl h [b]).wr W4 (Or.inl (List.mem_of_getElem? (i := 0) rfl))
  replace V5 : Arv Z h3 b kb .long (5 : Int32) [(.long u0), (.long u1), (.long u2), (.long (u3 + t)), (.long u4)] (.long 0) := V5
  exact Go.retV rfl d3_13 ⟨rfl, K6, V5⟩ (by decide) (by decide)
theorem d9_0 : decode prog_41_method_8_code 0 = .ok (.aload_n 0, 1) := by decide +kernel
theorem d9_1 : decode prog_41_method_8_code 1 = .ok (.getfield 13, 3) := by decide +kernel
theorem d9_4 : decode prog_41_method_8_code 4 = .ok (.getstatic 33, 3) := by decide +kernel
theorem d9_7 : decode prog_41_method_8_code 7 = .ok (.invokevirtual 17, 3) := by decide +kernel
theorem d9_10 : decode prog_41_method_8_code 10 = .ok (.laload, 1) := by decide +kernel
theorem d9_11 : decode prog_41_method_8_code 11 = .ok (.lreturn, 1) := by decide +kernel
set_option maxRecDepth 65536 in
set_option maxHeartbeats 4000000 in
theorem c_get3 (l : Launch) (Z : State) (a0 : Array Value) (hw : ∀ d ∈ tables_1, d.before a0 Z = true) {n0 : Nat} (h : Heap) (a : Addr) (w3 : Addr) (b : Addr) (kb : ClassId) (u0 : Int64) (u1 : Int64) (u2 : Int64) (u3 : Int64) (u4 : Int64) (s3 : Sta Z Z.heap "com/example/illumine/illumine/RenderStats$Count" "SECONDARY_RAYS" "Lcom/example/illumine/illumine/RenderStats$Count;" (.ref w3)) (x3 : Exa Z Z.heap w3 "com/example/illumine/illumine/RenderStats$Count") (o3 : Fld Z Z.heap w3 "java/lang/Enum" "ordinal" "I" (.int (3 : Int32))) (f : Fld Z h a "com/example/illumine/illumine/RenderStats" "counts" "[J" (.ref b)) (v : Arv Z h b kb .long (5 : Int32) [(.long u0), (.long u1), (.long u2), (.long u3), (.long u4)] (.long 0)) :
    Con l (⟨"com/example/illumine/illumine/RenderStats", "secondaryRays", "()J"⟩ : MethodName) prog_41_method_8_code 1 (some .long) ({ frames := 1, cells := 0, slots := 0, locals := 13 } : Room) Z n0 #[(.ref a)] h (fun v h' => v = some (.long u3) ∧ h = h') := by
  refine Con.of_go (plainFor_of_name pn_1) (Ls := #[.val (.ref a)]) (fun m => by first | (simp [entryFrame, mkF, argsToLocals, Value.category]; done) | rfl) ?_
  refine Go.aloadN (pc' := 1) d9_0 rfl rfl rfl ?_
  refine Go.getfield (pc' := 4) (host := "") (Or.inl (hw _ (List.mem_of_getElem? (i := 17) rfl))) Via.refl f d9_1 rfl ?_
  refine Go.old (fun old1 => ?_)
  refine Go.getstatic (pc' := 7) (host := "") (Or.inl (hw _ (List.mem_of_getElem? (i := 69) rfl))) Via.refl (s3.ext old1.2) d9_4 rfl ?_
  refine Go.callU (cells' := 0) (slots' := 0) (pc' := 10) [] [(.ref b)] (x3.ext old1.2) (hw _ (List.mem_of_getElem? (i := 24) rfl)) (hw _ (List.mem_of_getElem? (i := 25) rfl)) (hw _ (List.mem_of_getElem? (i := 26) rfl)) (hw _ (List.mem_of_getElem? (i := 28) rfl)) (hw _ (List.mem_of_getElem? (i := 27) rfl)) (hw _ (List.mem_of_getElem? (i := 29) rfl)) (hw _ (List.mem_of_getElem? (i := 30) rfl)) (by decide) (c_ord l Z a0 hw h w3 (3 : Int32) o3) pd_0 rfl rfl rfl rfl rfl (Nat.le_of_ble_eq_true rfl) (Nat.le_of_ble_eq_true rfl) (Nat.le_of_ble_eq_true rfl) (Nat.le_of_ble_eq_true rfl) d9_7 rfl ?_
  rintro _ _ ⟨rfl, rfl⟩
  show Go _ _ _ _ _ _ _ _ _ _ _ _ 10 #[.val (.ref a)] [(.int (3 : Int32)), (.ref b)]
  refine Go.laload (pc' := 11) (v := u3) v d9_10 (by decide) (by decide) rfl rfl ?_
  exact Go.retJ rfl d9_11 ⟨rfl, rfl⟩ (by decide) (by decide)
set_option maxRecDepth 65536 in
set_option maxHeartbeats 4000000 in
theorem c_count4 (l : Launch) (Z : State) (a0 : Array Value) (hw : ∀ d ∈ tables_1, d.before a0 Z = true) {n0 : Nat} (h : Heap) (a : Addr) (w4 : Addr) (t : Int64) (b : Addr) (kb : ClassId) (u0 : Int64) (u1 : Int64) (u2 : Int64) (u3 : Int64) (u4 : Int64) (x4 : Exa Z Z.heap w4 "com/example/illumine/illumine/RenderStats$Count") (o4 : Fld Z Z.heap w4 "java/lang/Enum" "ordinal" "I" (.int (4 : Int32))) (ge_b : n0 ≤ b) (f : Fld Z h a "com/example/illumine/illumine/RenderStats" "counts" "[J" (.ref b)) (v : Arv Z h b kb .long (5 : Int32) [(.long u0), (.long u1), (.long u2), (.long u3), (.long u4)] (.long 0)) :
    Con l (⟨"com/example/illumine/illumine/RenderStats", "count", "(Lcom/example/illumine/illumine/RenderStats$Count;J)V"⟩ : MethodName) prog_41_method_3_code 4 none ({ frames := 1, cells := 0, slots := 0, locals := 13 } : Room) Z n0 #[(.ref a), (.ref w4), (.long t)] h (fun v h' => v = none ∧ Keep h h' [b] ∧ Arv Z h' b kb .long (5 : Int32) [(.long u0), (.long u1), (.long u2), (.long u3), (.long (u4 + t))] (.long 0)) := by
  refine Con.of_go (plainFor_of_name pn_1) (Ls := #[.val (.ref a), .val (.ref w4), .val (.long t), .second]) (fun m => by first | (simp [entryFrame, mkF, argsToLocals, Value.category]; done) | rfl) ?_
  refine Go.aloadN (pc' := 1) d3_0 rfl rfl rfl ?_
  refine Go.getfield (pc' := 4) (host := "") (Or.inl (hw _ (List.mem_of_getElem? (i := 17) rfl))) Via.refl f d3_1 rfl ?_
  refine Go.aloadN (pc' := 5) d3_4 rfl rfl rfl ?_
  refine Go.old (fun old1 => ?_)
  refine Go.callU (cells' := 0) (slots' := 0) (pc' := 8) [] [(.ref b)] (x4.ext old1.2) (hw _ (List.mem_of_getElem? (i := 24) rfl)) (hw _ (List.mem_of_getElem? (i := 25) rfl)) (hw _ (List.mem_of_getElem? (i := 26) rfl)) (hw _ (List.mem_of_getElem? (i := 28) rfl)) (hw _ (List.mem_of_getElem? (i := 27) rfl)) (hw _ (List.mem_of_getElem? (i := 29) rfl)) (hw _ (List.mem_of_getElem? (i := 30) rfl)) (by decide) (c_ord l Z a0 hw h w4 (4 : Int32) o4) pd_0 rfl rfl rfl rfl rfl (Nat.le_of_ble_eq_true rfl) (Nat.le_of_ble_eq_true rfl) (Nat.le_of_ble_eq_true rfl) (Nat.le_of_ble_eq_true rfl) d3_5 rfl ?_
  rintro _ _ ⟨rfl, rfl⟩
  show Go _ _ _ _ _ _ _ _ _ _ _ _ 8 #[.val (.ref a), .val (.ref w4), .val (.long t), .second] [(.int (4 : Int32)), (.ref b)]
  refine Go.dup2 (pc' := 9) d3_8 rfl rfl rfl ?_
  refine Go.laload (pc' := 10) (v := u4) v d3_9 (by decide) (by decide) rfl rfl ?_
  refine Go.lloadN (pc' := 11) d3_10 rfl rfl ?_
  refine Go.ladd (pc' := 12) d3_11 rfl ?_
  refine Go.lastore (pc' := 13) v ge_b d3_12 (by decide) (by decide) (i := 4) rfl (Nat.le_of_ble_eq_true rfl) rfl ?_
  intro h3 W4 V5
  have K6 : Keep h h3 [b] := (Keep.refl h [b]).wr W4 (Or.inl (List.mem_of_getElem? (i := 0) rfl))
  replace V5 : Arv Z h3 b kb .long (5 : Int32) [(.long u0), (.long u1), (.long u2), (.long u3), (.long (u4 + t))] (.long 0) := V5
  exact Go.retV rfl d3_13 ⟨rfl, K6, V5⟩ (by decide) (by decide)
theorem d10_0 : decode prog_41_method_9_code 0 = .ok (.aload_n 0, 1) := by decide +kernel
theorem d10_1 : decode prog_41_method_9_code 1 = .ok (.getfield 13, 3) := by decide +kernel
theorem d10_4 : decode prog_41_method_9_code 4 = .ok (.getstatic 36, 3) := by decide +kernel
theorem d10_7 : decode prog_41_method_9_code 7 = .ok (.invokevirtual 17, 3) := by decide +kernel
theorem d10_10 : decode prog_41_method_9_code 10 = .ok (.laload, 1) := by decide +kernel
theorem d10_11 : decode prog_41_method_9_code 11 = .ok (.lreturn, 1) := by decide +kernel
set_option maxRecDepth 65536 in
set_option maxHeartbeats 4000000 in
theorem c_get4 (l : Launch) (Z : State) (a0 : Array Value) (hw : ∀ d ∈ tables_1, d.before a0 Z = true) {n0 : Nat} (h : Heap) (a : Addr) (w4 : Addr) (b : Addr) (kb : ClassId) (u0 : Int64) (u1 : Int64) (u2 : Int64) (u3 : Int64) (u4 : Int64) (s4 : Sta Z Z.heap "com/example/illumine/illumine/RenderStats$Count" "CONE_TESTS" "Lcom/example/illumine/illumine/RenderStats$Count;" (.ref w4)) (x4 : Exa Z Z.heap w4 "com/example/illumine/illumine/RenderStats$Count") (o4 : Fld Z Z.heap w4 "java/lang/Enum" "ordinal" "I" (.int (4 : Int32))) (f : Fld Z h a "com/example/illumine/illumine/RenderStats" "counts" "[J" (.ref b)) (v : Arv Z h b kb .long (5 : Int32) [(.long u0), (.long u1), (.long u2), (.long u3), (.long u4)] (.long 0)) :
    Con l (⟨"com/example/illumine/illumine/RenderStats", "coneTests", "()J"⟩ : MethodName) prog_41_method_9_code 1 (some .long) ({ frames := 1, cells := 0, slots := 0, locals := 13 } : Room) Z n0 #[(.ref a)] h (fun v h' => v = some (.long u4) ∧ h = h') := by
  refine Con.of_go (plainFor_of_name pn_1) (Ls := #[.val (.ref a)]) (fun m => by first | (simp [entryFrame, mkF, argsToLocals, Value.category]; done) | rfl) ?_
  refine Go.aloadN (pc' := 1) d10_0 rfl rfl rfl ?_
  refine Go.getfield (pc' := 4) (host := "") (Or.inl (hw _ (List.mem_of_getElem? (i := 17) rfl))) Via.refl f d10_1 rfl ?_
  refine Go.old (fun old1 => ?_)
  refine Go.getstatic (pc' := 7) (host := "") (Or.inl (hw _ (List.mem_of_getElem? (i := 75) rfl))) Via.refl (s4.ext old1.2) d10_4 rfl ?_
  refine Go.callU (cells' := 0) (slots' := 0) (pc' := 10) [] [(.ref b)] (x4.ext old1.2) (hw _ (List.mem_of_getElem? (i := 24) rfl)) (hw _ (List.mem_of_getElem? (i := 25) rfl)) (hw _ (List.mem_of_getElem? (i := 26) rfl)) (hw _ (List.mem_of_getElem? (i := 28) rfl)) (hw _ (List.mem_of_getElem? (i := 27) rfl)) (hw _ (List.mem_of_getElem? (i := 29) rfl)) (hw _ (List.mem_of_getElem? (i := 30) rfl)) (by decide) (c_ord l Z a0 hw h w4 (4 : Int32) o4) pd_0 rfl rfl rfl rfl rfl (Nat.le_of_ble_eq_true rfl) (Nat.le_of_ble_eq_true rfl) (Nat.le_of_ble_eq_true rfl) (Nat.le_of_ble_eq_true rfl) d10_7 rfl ?_
  rintro _ _ ⟨rfl, rfl⟩
  show Go _ _ _ _ _ _ _ _ _ _ _ _ 10 #[.val (.ref a)] [(.int (4 : Int32)), (.ref b)]
  refine Go.laload (pc' := 11) (v := u4) v d10_10 (by decide) (by decide) rfl rfl ?_
  exact Go.retJ rfl d10_11 ⟨rfl, rfl⟩ (by decide) (by decide)
theorem d5_0 : decode prog_41_method_4_code 0 = .ok (.iconst 0, 1) := by decide +kernel
theorem d5_1 : decode prog_41_method_4_code 1 = .ok (.istore_n 2, 1) := by decide +kernel
theorem d5_2 : decode prog_41_method_4_code 2 = .ok (.iload_n 2, 1) := by decide +kernel
theorem d5_3 : decode prog_41_method_4_code 3 = .ok (.aload_n 0, 1) := by decide +kernel
theorem d5_4 : decode prog_41_method_4_code 4 = .ok (.getfield 13, 3) := by decide +kernel
theorem d5_7 : decode prog_41_method_4_code 7 = .ok (.arraylength, 1) := by decide +kernel
theorem d5_8 : decode prog_41_method_4_code 8 = .ok (.if_icmp .ge 24, 3) := by decide +kernel
theorem d5_11 : decode prog_41_method_4_code 11 = .ok (.aload_n 0, 1) := by decide +kernel
theorem d5_12 : decode prog_41_method_4_code 12 = .ok (.getfield 13, 3) := by decide +kernel
theorem d5_15 : decode prog_41_method_4_code 15 = .ok (.iload_n 2, 1) := by decide +kernel
theorem d5_16 : decode prog_41_method_4_code 16 = .ok (.dup2, 1) := by decide +kernel
theorem d5_17 : decode prog_41_method_4_code 17 = .ok (.laload, 1) := by decide +kernel
theorem d5_18 : decode prog_41_method_4_code 18 = .ok (.aload_n 1, 1) := by decide +kernel
theorem d5_19 : decode prog_41_method_4_code 19 = .ok (.getfield 13, 3) := by decide +kernel
theorem d5_22 : decode prog_41_method_4_code 22 = .ok (.iload_n 2, 1) := by decide +kernel
theorem d5_23 : decode prog_41_method_4_code 23 = .ok (.laload, 1) := by decide +kernel
theorem d5_24 : decode prog_41_method_4_code 24 = .ok (.ladd, 1) := by decide +kernel
theorem d5_25 : decode prog_41_method_4_code 25 = .ok (.lastore, 1) := by decide +kernel
theorem d5_26 : decode prog_41_method_4_code 26 = .ok (.iinc 2 1, 3) := by decide +kernel
theorem d5_29 : decode prog_41_method_4_code 29 = .ok (.goto (-27), 3) := by decide +kernel
theorem d5_32 : decode prog_41_method_4_code 32 = .ok (.return_, 1) := by decide +kernel
set_option maxRecDepth 65536 in
set_option maxHeartbeats 4000000 in
theorem c_add (l : Launch) (Z : State) (a0 : Array Value) (hw : ∀ d ∈ tables_1, d.before a0 Z = true) {n0 : Nat} (h : Heap) (a : Addr) (o : Addr) (b : Addr) (kb : ClassId) (c : Addr) (kc : ClassId) (u0 : Int64) (u1 : Int64) (u2 : Int64) (u3 : Int64) (u4 : Int64) (y0 : Int64) (y1 : Int64) (y2 : Int64) (y3 : Int64) (y4 : Int64) (ge_b : n0 ≤ b) (ne_a_b : a ≠ b) (ne_o_b : o ≠ b) (ne_c_b : c ≠ b) (fa : Fld Z h a "com/example/illumine/illumine/RenderStats" "counts" "[J" (.ref b)) (fo : Fld Z h o "com/example/illumine/illumine/RenderStats" "counts" "[J" (.ref c)) (va : Arv Z h b kb .long (5 : Int32) [(.long u0), (.long u1), (.long u2), (.long u3), (.long u4)] (.long 0)) (vo : Arv Z h c kc .long (5 : Int32) [(.long y0), (.long y1), (.long y2), (.long y3), (.long y4)] (.long 0)) :
    Con l (⟨"com/example/illumine/illumine/RenderStats", "add", "(Lcom/example/illumine/illumine/RenderStats;)V"⟩ : MethodName) prog_41_method_4_code 3 none ({ frames := 0, cells := 0, slots := 0, locals := 0 } : Room) Z n0 #[(.ref a), (.ref o)] h (fun v h' => v = none ∧ Keep h h' [b] ∧ Arv Z h' b kb .long (5 : Int32) [(.long (u0 + y0)), (.long (u1 + y1)), (.long (u2 + y2)), (.long (u3 + y3)), (.long (u4 + y4))] (.long 0)) := by
  refine Con.of_go (plainFor_of_name pn_1) (Ls := #[.val (.ref a), .val (.ref o), .unset]) (fun m => by first | (simp [entryFrame, mkF, argsToLocals, Value.category]; done) | rfl) ?_
  refine Go.iconst (pc' := 1) (v := (0 : Int32)) d5_0 rfl rfl ?_
  refine Go.istoreN (pc' := 2) (Ls' := #[.val (.ref a), .val (.ref o), .val (.int (0 : Int32))]) d5_1 rfl rfl ?_
  refine Go.iloadN (pc' := 3) d5_2 rfl rfl ?_
  refine Go.aloadN (pc' := 4) d5_3 rfl rfl rfl ?_
  refine Go.getfield (pc' := 7) (host := "") (Or.inl (hw _ (List.mem_of_getElem? (i := 17) rfl))) Via.refl fa d5_4 rfl ?_
  refine Go.arraylength (pc' := 8) va d5_7 rfl ?_
  refine Go.icmpNo (pc' := 11) d5_8 (XT.ii_ge_f (by decide)) rfl ?_
  refine Go.aloadN (pc' := 12) d5_11 rfl rfl rfl ?_
  refine Go.getfield (pc' := 15) (host := "") (Or.inl (hw _ (List.mem_of_getElem? (i := 17) rfl))) Via.refl fa d5_12 rfl ?_
  refine Go.iloadN (pc' := 16) d5_15 rfl rfl ?_
  refine Go.dup2 (pc' := 17) d5_16 rfl rfl rfl ?_
  refine Go.laload (pc' := 18) (v := u0) va d5_17 (by decide) (by decide) rfl rfl ?_
  refine Go.aloadN (pc' := 19) d5_18 rfl rfl rfl ?_
  refine Go.getfield (pc' := 22) (host := "") (Or.inl (hw _ (List.mem_of_getElem? (i := 17) rfl))) Via.refl fo d5_19 rfl ?_
  refine Go.iloadN (pc' := 23) d5_22 rfl rfl ?_
  refine Go.laload (pc' := 24) (v := y0) vo d5_23 (by decide) (by decide) rfl rfl ?_
  refine Go.ladd (pc' := 25) d5_24 rfl ?_
  refine Go.lastore (pc' := 26) va ge_b d5_25 (by decide) (by decide) (i := 0) rfl (Nat.le_of_ble_eq_true rfl) rfl ?_
  intro h1 W2 V3
  have K4 : Keep h h1 [b] := (Keep.refl h [b]).wr W2 (Or.inl (List.mem_of_getElem? (i := 0) rfl))
  replace V3 : Arv Z h1 b kb .long (5 : Int32) [(.long (u0 + y0)), (.long u1), (.long u2), (.long u3), (.long u4)] (.long 0) := V3
  refine Go.iinc (pc' := 29) (Ls' := #[.val (.ref a), .val (.ref o), .val (.int ((0 : Int32) + (1 : Int32)))]) (w := (1 : Int32)) d5_26 rfl rfl rfl rfl ?_
  show Go _ _ _ _ _ _ _ _ _ _ _ _ 29 #[.val (.ref a), .val (.ref o), .val (.int (1 : Int32))] []
  refine Go.goto (pc' := 2) d5_29 (by decide) (by decide) ?_
  refine Go.iloadN (pc' := 3) d5_2 rfl rfl ?_
  refine Go.aloadN (pc' := 4) d5_3 rfl rfl rfl ?_
  refine Go.getfield (pc' := 7) (host := "") (Or.inl (hw _ (List.mem_of_getElem? (i := 17) rfl))) Via.refl (fa.other W2 (Or.inl ne_a_b)) d5_4 rfl ?_
  refine Go.arraylength (pc' := 8) V3 d5_7 rfl ?_
  refine Go.icmpNo (pc' := 11) d5_8 (XT.ii_ge_f (by decide)) rfl ?_
  refine Go.aloadN (pc' := 12) d5_11 rfl rfl rfl ?_
  refine Go.getfield (pc' := 15) (host := "") (Or.inl (hw _ (List.mem_of_getElem? (i := 17) rfl))) Via.refl (fa.other W2 (Or.inl ne_a_b)) d5_12 rfl ?_
  refine Go.iloadN (pc' := 16) d5_15 rfl rfl ?_
  refine Go.dup2 (pc' := 17) d5_16 rfl rfl rfl ?_
  refine Go.laload (pc' := 18) (v := u1) V3 d5_17 (by decide) (by decide) rfl rfl ?_
  refine Go.aloadN (pc' := 19) d5_18 rfl rfl rfl ?_
  refine Go.getfield (pc' := 22) (host := "") (Or.inl (hw _ (List.mem_of_getElem? (i := 17) rfl))) Via.refl (fo.other W2 (Or.inl ne_o_b)) d5_19 rfl ?_
  refine Go.iloadN (pc' := 23) d5_22 rfl rfl ?_
  refine Go.laload (pc' := 24) (v := y1) (vo.other W2 ne_c_b) d5_23 (by decide) (by decide) rfl rfl ?_
  refine Go.ladd (pc' := 25) d5_24 rfl ?_
  refine Go.lastore (pc' := 26) V3 ge_b d5_25 (by decide) (by decide) (i := 1) rfl (Nat.le_of_ble_eq_true rfl) rfl ?_
  intro h5 W6 V7
  have K8 : Keep h h5 [b] := K4.wr W6 (Or.inl (List.mem_of_getElem? (i := 0) rfl))
  replace V7 : Arv Z h5 b kb .long (5 : Int32) [(.long (u0 + y0)), (.long (u1 + y1)), (.long u2), (.long u3), (.long u4)] (.long 0) := V7
  refine Go.iinc (pc' := 29) (Ls' := #[.val (.ref a), .val (.ref o), .val (.int ((1 : Int32) + (1 : Int32)))]) (w := (1 : Int32)) d5_26 rfl rfl rfl rfl ?_
  show Go _ _ _ _ _ _ _ _ _ _ _ _ 29 #[.val (.ref a), .val (.ref o), .val (.int (2 : Int32))] []
  refine Go.goto (pc' := 2) d5_29 (by decide) (by decide) ?_
  refine Go.iloadN (pc' := 3) d5_2 rfl rfl ?_
  refine Go.aloadN (pc' := 4) d5_3 rfl rfl rfl ?_
  have f9 : Fld Z h5 a "com/example/illumine/illumine/RenderStats" "counts" "[J" (.ref b) := ((fa.other W2 (Or.inl ne_a_b)).other W6 (Or.inl ne_a_b))
  refine Go.getfield (pc' := 7) (host := "") (Or.inl (hw _ (List.mem_of_getElem? (i := 17) rfl))) Via.refl f9 d5_4 rfl ?_
  refine Go.arraylength (pc' := 8) V7 d5_7 rfl ?_
  refine Go.icmpNo (pc' := 11) d5_8 (XT.ii_ge_f (by decide)) rfl ?_
  refine Go.aloadN (pc' := 12) d5_11 rfl rfl rfl ?_
  refine Go.getfield (pc' := 15) (host := "") (Or.inl (hw _ (List.mem_of_getElem? (i := 17) rfl))) Via.refl f9 d5_12 rfl ?_
  refine Go.iloadN (pc' := 16) d5_15 rfl rfl ?_
  refine Go.dup2 (pc' := 17) d5_16 rfl rfl rfl ?_
  refine Go.laload (pc' := 18) (v := u2) V7 d5_17 (by decide) (by decide) rfl rfl ?_
  refine Go.aloadN (pc' := 19) d5_18 rfl rfl rfl ?_
  have f10 : Fld Z h5 o "com/example/illumine/illumine/RenderStats" "counts" "[J" (.ref c) := ((fo.other W2 (Or.inl ne_o_b)).other W6 (Or.inl ne_o_b))
  refine Go.getfield (pc' := 22) (host := "") (Or.inl (hw _ (List.mem_of_getElem? (i := 17) rfl))) Via.refl f10 d5_19 rfl ?_
  refine Go.iloadN (pc' := 23) d5_22 rfl rfl ?_
  refine Go.laload (pc' := 24) (v := y2) ((vo.other W2 ne_c_b).other W6 ne_c_b) d5_23 (by decide) (by decide) rfl rfl ?_
  refine Go.ladd (pc' := 25) d5_24 rfl ?_
  refine Go.lastore (pc' := 26) V7 ge_b d5_25 (by decide) (by decide) (i := 2) rfl (Nat.le_of_ble_eq_true rfl) rfl ?_
  intro h11 W12 V13
  have K14 : Keep h h11 [b] := K8.wr W12 (Or.inl (List.mem_of_getElem? (i := 0) rfl))
  replace V13 : Arv Z h11 b kb .long (5 : Int32) [(.long (u0 + y0)), (.long (u1 + y1)), (.long (u2 + y2)), (.long u3), (.long u4)] (.long 0) := V13
  refine Go.iinc (pc' := 29) (Ls' := #[.val (.ref a), .val (.ref o), .val (.int ((2 : Int32) + (1 : Int32)))]) (w := (1 : Int32)) d5_26 rfl rfl rfl rfl ?_
  show Go _ _ _ _ _ _ _ _ _ _ _ _ 29 #[.val (.ref a), .val (.ref o), .val (.int (3 : Int32))] []
  refine Go.goto (pc' := 2) d5_29 (by decide) (by decide) ?_
  refine Go.iloadN (pc' := 3) d5_2 rfl rfl ?_
  refine Go.aloadN (pc' := 4) d5_3 rfl rfl rfl ?_
  refine Go.getfield (pc' := 7) (host := "") (Or.inl (hw _ (List.mem_of_getElem? (i := 17) rfl))) Via.refl (f9.other W12 (Or.inl ne_a_b)) d5_4 rfl ?_
  refine Go.arraylength (pc' := 8) V13 d5_7 rfl ?_
  refine Go.icmpNo (pc' := 11) d5_8 (XT.ii_ge_f (by decide)) rfl ?_
  refine Go.aloadN (pc' := 12) d5_11 rfl rfl rfl ?_
  refine Go.getfield (pc' := 15) (host := "") (Or.inl (hw _ (List.mem_of_getElem? (i := 17) rfl))) Via.refl (f9.other W12 (Or.inl ne_a_b)) d5_12 rfl ?_
  refine Go.iloadN (pc' := 16) d5_15 rfl rfl ?_
  refine Go.dup2 (pc' := 17) d5_16 rfl rfl rfl ?_
  refine Go.laload (pc' := 18) (v := u3) V13 d5_17 (by decide) (by decide) rfl rfl ?_
  refine Go.aloadN (pc' := 19) d5_18 rfl rfl rfl ?_
  refine Go.getfield (pc' := 22) (host := "") (Or.inl (hw _ (List.mem_of_getElem? (i := 17) rfl))) Via.refl (f10.other W12 (Or.inl ne_o_b)) d5_19 rfl ?_
  refine Go.iloadN (pc' := 23) d5_22 rfl rfl ?_
  have f15 : Arv Z h11 c kc .long (5 : Int32) [(.long y0), (.long y1), (.long y2), (.long y3), (.long y4)] (.long 0) := (((vo.other W2 ne_c_b).other W6 ne_c_b).other W12 ne_c_b)
  refine Go.laload (pc' := 24) (v := y3) f15 d5_23 (by decide) (by decide) rfl rfl ?_
  refine Go.ladd (pc' := 25) d5_24 rfl ?_
  refine Go.lastore (pc' := 26) V13 ge_b d5_25 (by decide) (by decide) (i := 3) rfl (Nat.le_of_ble_eq_true rfl) rfl ?_
  intro h16 W17 V18
  have K19 : Keep h h16 [b] := K14.wr W17 (Or.inl (List.mem_of_getElem? (i := 0) rfl))
  replace V18 : Arv Z h16 b kb .long (5 : Int32) [(.long (u0 + y0)), (.long (u1 + y1)), (.long (u2 + y2)), (.long (u3 + y3)), (.long u4)] (.long 0) := V18
  refine Go.iinc (pc' := 29) (Ls' := #[.val (.ref a), .val (.ref o), .val (.int ((3 : Int32) + (1 : Int32)))]) (w := (1 : Int32)) d5_26 rfl rfl rfl rfl ?_
  show Go _ _ _ _ _ _ _ _ _ _ _ _ 29 #[.val (.ref a), .val (.ref o), .val (.int (4 : Int32))] []
  refine Go.goto (pc' := 2) d5_29 (by decide) (by decide) ?_
  refine Go.iloadN (pc' := 3) d5_2 rfl rfl ?_
  refine Go.aloadN (pc' := 4) d5_3 rfl rfl rfl ?_
  have f20 : Fld Z h16 a "com/example/illumine/illumine/RenderStats" "counts" "[J" (.ref b) := ((f9.other W12 (Or.inl ne_a_b)).other W17 (Or.inl ne_a_b))
  refine Go.getfield (pc' := 7) (host := "") (Or.inl (hw _ (List.mem_of_getElem? (i := 17) rfl))) Via.refl f20 d5_4 rfl ?_
  refine Go.arraylength (pc' := 8) V18 d5_7 rfl ?_
  refine Go.icmpNo (pc' := 11) d5_8 (XT.ii_ge_f (by decide)) rfl ?_
  refine Go.aloadN (pc' := 12) d5_11 rfl rfl rfl ?_
  refine Go.getfield (pc' := 15) (host := "") (Or.inl (hw _ (List.mem_of_getElem? (i := 17) rfl))) Via.refl f20 d5_12 rfl ?_
  refine Go.iloadN (pc' := 16) d5_15 rfl rfl ?_
  refine Go.dup2 (pc' := 17) d5_16 rfl rfl rfl ?_
  refine Go.laload (pc' := 18) (v := u4) V18 d5_17 (by decide) (by decide) rfl rfl ?_
  refine Go.aloadN (pc' := 19) d5_18 rfl rfl rfl ?_
  have f21 : Fld Z h16 o "com/example/illumine/illumine/RenderStats" "counts" "[J" (.ref c) := ((f10.other W12 (Or.inl ne_o_b)).other W17 (Or.inl ne_o_b))
  refine Go.getfield (pc' := 22) (host := "") (Or.inl (hw _ (List.mem_of_getElem? (i := 17) rfl))) Via.refl f21 d5_19 rfl ?_
  refine Go.iloadN (pc' := 23) d5_22 rfl rfl ?_
  refine Go.laload (pc' := 24) (v := y4) (f15.other W17 ne_c_b) d5_23 (by decide) (by decide) rfl rfl ?_
  refine Go.ladd (pc' := 25) d5_24 rfl ?_
  refine Go.lastore (pc' := 26) V18 ge_b d5_25 (by decide) (by decide) (i := 4) rfl (Nat.le_of_ble_eq_true rfl) rfl ?_
  intro h22 W23 V24
  have K25 : Keep h h22 [b] := K19.wr W23 (Or.inl (List.mem_of_getElem? (i := 0) rfl))
  replace V24 : Arv Z h22 b kb .long (5 : Int32) [(.long (u0 + y0)), (.long (u1 + y1)), (.long (u2 + y2)), (.long (u3 + y3)), (.long (u4 + y4))] (.long 0) := V24
  refine Go.iinc (pc' := 29) (Ls' := #[.val (.ref a), .val (.ref o), .val (.int ((4 : Int32) + (1 : Int32)))]) (w := (1 : Int32)) d5_26 rfl rfl rfl rfl ?_
  show Go _ _ _ _ _ _ _ _ _ _ _ _ 29 #[.val (.ref a), .val (.ref o), .val (.int (5 : Int32))] []
  refine Go.goto (pc' := 2) d5_29 (by decide) (by decide) ?_
  refine Go.iloadN (pc' := 3) d5_2 rfl rfl ?_
  refine Go.aloadN (pc' := 4) d5_3 rfl rfl rfl ?_
  refine Go.getfield (pc' := 7) (host := "") (Or.inl (hw _ (List.mem_of_getElem? (i := 17) rfl))) Via.refl (f20.other W23 (Or.inl ne_a_b)) d5_4 rfl ?_
  refine Go.arraylength (pc' := 8) V24 d5_7 rfl ?_
  refine Go.icmpYes (pc' := 32) d5_8 (XT.ii_ge_t (by decide)) (by decide) (by decide) ?_
  exact Go.retV rfl d5_32 ⟨rfl, K25, V24⟩ (by decide) (by decide)
theorem pd_1 : parseMethodDescriptor "()V" = some ⟨[], none⟩ := by decide +kernel
theorem pd_2 : parseMethodDescriptor "(Lcom/example/illumine/illumine/RenderStats$Count;J)V" = some ⟨[(.object "com/example/illumine/illumine/RenderStats$Count"), .long], none⟩ := by decide +kernel
theorem pd_3 : parseMethodDescriptor "(Lcom/example/illumine/illumine/RenderStats;)V" = some ⟨[(.object "com/example/illumine/illumine/RenderStats")], none⟩ := by decide +kernel
theorem pd_4 : parseMethodDescriptor "()J" = some ⟨[], some .long⟩ := by decide +kernel
theorem pn_2 : plainName "com/example/illumine/illumine/RenderStatsAddPinLaw" = true := by first | (simp [plainName, overriddenIn]; done) | decide +kernel
set_option maxRecDepth 65536 in
set_option maxHeartbeats 4000000 in
theorem c_law (l : Launch) (Z : State) (a0 : Array Value) (hw : ∀ d ∈ tables_1, d.before a0 Z = true) {n0 : Nat} (h : Heap) (p0 : Int64) (p1 : Int64) (p2 : Int64) (p3 : Int64) (p4 : Int64) (p5 : Int64) (w0 : Addr) (w1 : Addr) (w2 : Addr) (w3 : Addr) (w4 : Addr) (wc : Addr) (kc : ClassId) (vsc : List Value) (s0 : Sta Z Z.heap "com/example/illumine/illumine/RenderStats$Count" "TRIANGLES" "Lcom/example/illumine/illumine/RenderStats$Count;" (.ref w0)) (x0 : Exa Z Z.heap w0 "com/example/illumine/illumine/RenderStats$Count") (o0 : Fld Z Z.heap w0 "java/lang/Enum" "ordinal" "I" (.int (0 : Int32))) (s1 : Sta Z Z.heap "com/example/illumine/illumine/RenderStats$Count" "PRIMARY_RAYS" "Lcom/example/illumine/illumine/RenderStats$Count;" (.ref w1)) (x1 : Exa Z Z.heap w1 "com/example/illumine/illumine/RenderStats$Count") (o1 : Fld Z Z.heap w1 "java/lang/Enum" "ordinal" "I" (.int (1 : Int32))) (s2 : Sta Z Z.heap "com/example/illumine/illumine/RenderStats$Count" "SHADOW_RAYS" "Lcom/example/illumine/illumine/RenderStats$Count;" (.ref w2)) (x2 : Exa Z Z.heap w2 "com/example/illumine/illumine/RenderStats$Count") (o2 : Fld Z Z.heap w2 "java/lang/Enum" "ordinal" "I" (.int (2 : Int32))) (s3 : Sta Z Z.heap "com/example/illumine/illumine/RenderStats$Count" "SECONDARY_RAYS" "Lcom/example/illumine/illumine/RenderStats$Count;" (.ref w3)) (x3 : Exa Z Z.heap w3 "com/example/illumine/illumine/RenderStats$Count") (o3 : Fld Z Z.heap w3 "java/lang/Enum" "ordinal" "I" (.int (3 : Int32))) (s4 : Sta Z Z.heap "com/example/illumine/illumine/RenderStats$Count" "CONE_TESTS" "Lcom/example/illumine/illumine/RenderStats$Count;" (.ref w4)) (x4 : Exa Z Z.heap w4 "com/example/illumine/illumine/RenderStats$Count") (o4 : Fld Z Z.heap w4 "java/lang/Enum" "ordinal" "I" (.int (4 : Int32))) (sc : Sta Z Z.heap "com/example/illumine/illumine/RenderStats" "COUNTS" "[Lcom/example/illumine/illumine/RenderStats$Count;" (.ref wc)) (vc : Arv Z Z.heap wc kc (.object "com/example/illumine/illumine/RenderStats$Count") (5 : Int32) vsc .null) :
    Con l x code maxLocals ret room_1 Z n0 #[(.long p0), (.long p1), (.long p2), (.long p3), (.long p4), (.long p5)] h (fun v h' => v = some (.int (1 : Int32)) ∧ Keep h h' []) := by
  refine Con.of_go (plainFor_of_name pn_2) (Ls := #[.val (.long p0), .second, .val (.long p1), .second, .val (.long p2), .second, .val (.long p3), .second, .val (.long p4), .second, .val (.long p5), .second, .unset, .unset, .unset, .unset, .unset, .unset, .unset, .unset, .unset, .unset, .unset, .unset, .unset, .unset]) (fun m => by first | (simp [entryFrame, mkF, argsToLocals, Value.category, maxLocals]; done) | rfl) ?_
  refine Go.lload (pc' := 2) at_0 rfl rfl ?_
  refine Go.ldc2J (pc' := 5) (hw _ (List.mem_of_getElem? (i := 0) rfl)) at_2 rfl ?_
  refine Go.land (pc' := 6) at_5 rfl ?_
  refine Go.ldc2J (pc' := 9) (hw _ (List.mem_of_getElem? (i := 1) rfl)) at_6 rfl ?_
  refine Go.lrem (pc' := 10) at_9 (by decide) rfl ?_
  refine Go.l2i (pc' := 11) at_10 rfl ?_
  refine Go.istore (pc' := 13) (Ls' := #[.val (.long p0), .second, .val (.long p1), .second, .val (.long p2), .second, .val (.long p3), .second, .val (.long p4), .second, .val (.long p5), .second, .val (.int ((p5 &&& (9223372036854775807 : Int64)) - ((p5 &&& (9223372036854775807 : Int64)) / (5 : Int64)) * (5 : Int64)).toInt32), .unset, .unset, .unset, .unset, .unset, .unset, .unset, .unset, .unset, .unset, .unset, .unset, .unset]) at_11 rfl rfl ?_
  obtain hk1 | hk1 | hk1 | hk1 | hk1 := own_lmod5 p5
  ·
    rw [hk1]
    refine Go.iload (pc' := 15) at_13 rfl rfl ?_
    refine Go.ifNo (pc' := 18) at_15 (XT.i0_ne_f (by decide)) rfl ?_
    refine Go.old (fun old2 => ?_)
    refine Go.getstatic (pc' := 21) (host := "") (Or.inl (hw _ (List.mem_of_getElem? (i := 33) rfl))) Via.refl (s0.ext old2.2) at_18 rfl ?_
    refine Go.goto (pc' := 63) at_21 (by decide) (by decide) ?_
    refine Go.astore (pc' := 65) (Ls' := #[.val (.long p0), .second, .val (.long p1), .second, .val (.long p2), .second, .val (.long p3), .second, .val (.long p4), .second, .val (.long p5), .second, .val (.int (0 : Int32)), .val (.ref w0), .unset, .unset, .unset, .unset, .unset, .unset, .unset, .unset, .unset, .unset, .unset, .unset]) at_63 rfl rfl rfl ?_
    refine Go.new (pc' := 68) (cells' := 1) (slots' := 1) (hw _ (List.mem_of_getElem? (i := 5) rfl)) (hw _ (List.mem_of_getElem? (i := 6) rfl)) (hw _ (List.mem_of_getElem? (i := 7) rfl)) at_65 rfl rfl (by decide) (by decide) rfl ?_
    intro h3 b3 g3 E3 ge3 A3 D3
    have sz4 : h.size ≤ b3 := Nat.le_trans (Keep.refl h []).1 (Nat.le_of_eq g3.symm)
    have K5 : Keep h h3 [] := (Keep.refl h []).ext E3
    refine Go.dup (pc' := 69) at_68 rfl rfl ?_
    refine Go.callC (cells' := 2) (slots' := 6) (pc' := 72) [] [(.ref b3)] (a := b3) rfl rfl (hw _ (List.mem_of_getElem? (i := 8) rfl)) (hw _ (List.mem_of_getElem? (i := 9) rfl)) (hw _ (List.mem_of_getElem? (i := 7) rfl)) (hw _ (List.mem_of_getElem? (i := 10) rfl)) (by decide) (c_init l Z a0 hw h3 b3 wc kc vsc sc vc ge3 A3 ((D3 (Or.inr (hw _ (List.mem_of_getElem? (i := 18) rfl))) (ty := (.array .long)) (by decide) : Fld Z h3 b3 "com/example/illumine/illumine/RenderStats" "counts" "[J" .null))) pd_1 rfl rfl rfl rfl rfl (Nat.le_of_ble_eq_true rfl) (Nat.le_of_ble_eq_true rfl) (Nat.le_of_ble_eq_true rfl) (Nat.le_of_ble_eq_true rfl) at_69 rfl ?_
    rintro _ h6 ⟨b_6, kb_6, rfl, K6, ge_b_6, sz_b_6, F6_0, F6_1⟩
    have sz7 : h.size ≤ b_6 := Nat.le_trans K5.1 sz_b_6
    have K8 : Keep h h6 [] := K5.trans K6 (allS (Or.inr sz4) all0)
    show Go _ _ _ _ _ _ _ _ _ _ _ _ 72 #[.val (.long p0), .second, .val (.long p1), .second, .val (.long p2), .second, .val (.long p3), .second, .val (.long p4), .second, .val (.long p5), .second, .val (.int (0 : Int32)), .val (.ref w0), .unset, .unset, .unset, .unset, .unset, .unset, .unset, .unset, .unset, .unset, .unset, .unset] [(.ref b3)]
    refine Go.astore (pc' := 74) (Ls' := #[.val (.long p0), .second, .val (.long p1), .second, .val (.long p2), .second, .val (.long p3), .second, .val (.long p4), .second, .val (.long p5), .second, .val (.int (0 : Int32)), .val (.ref w0), .val (.ref b3), .unset, .unset, .unset, .unset, .unset, .unset, .unset, .unset, .unset, .unset, .unset]) at_72 rfl rfl rfl ?_
    refine Go.new (pc' := 77) (cells' := 3) (slots' := 7) (hw _ (List.mem_of_getElem? (i := 5) rfl)) (hw _ (List.mem_of_getElem? (i := 6) rfl)) (hw _ (List.mem_of_getElem? (i := 7) rfl)) at_74 rfl rfl (by decide) (by decide) rfl ?_
    intro h9 b9 g9 E9 ge9 A9 D9
    have sz10 : h.size ≤ b9 := Nat.le_trans K8.1 (Nat.le_of_eq g9.symm)
    have K11 : Keep h h9 [] := K8.ext E9
    refine Go.dup (pc' := 78) at_77 rfl rfl ?_
    refine Go.callC (cells' := 4) (slots' := 12) (pc' := 81) [] [(.ref b9)] (a := b9) rfl rfl (hw _ (List.mem_of_getElem? (i := 8) rfl)) (hw _ (List.mem_of_getElem? (i := 9) rfl)) (hw _ (List.mem_of_getElem? (i := 7) rfl)) (hw _ (List.mem_of_getElem? (i := 10) rfl)) (by decide) (c_init l Z a0 hw h9 b9 wc kc vsc sc vc ge9 A9 ((D9 (Or.inr (hw _ (List.mem_of_getElem? (i := 18) rfl))) (ty := (.array .long)) (by decide) : Fld Z h9 b9 "com/example/illumine/illumine/RenderStats" "counts" "[J" .null))) pd_1 rfl rfl rfl rfl rfl (Nat.le_of_ble_eq_true rfl) (Nat.le_of_ble_eq_true rfl) (Nat.le_of_ble_eq_true rfl) (Nat.le_of_ble_eq_true rfl) at_78 rfl ?_
    rintro _ h12 ⟨b_12, kb_12, rfl, K12, ge_b_12, sz_b_12, F12_0, F12_1⟩
    have sz13 : h.size ≤ b_12 := Nat.le_trans K11.1 sz_b_12
    have K14 : Keep h h12 [] := K11.trans K12 (allS (Or.inr sz10) all0)
    show Go _ _ _ _ _ _ _ _ _ _ _ _ 81 #[.val (.long p0), .second, .val (.long p1), .second, .val (.long p2), .second, .val (.long p3), .second, .val (.long p4), .second, .val (.long p5), .second, .val (.int (0 : Int32)), .val (.ref w0), .val (.ref b3), .unset, .unset, .unset, .unset, .unset, .unset, .unset, .unset, .unset, .unset, .unset] [(.ref b9)]
    refine Go.astore (pc' := 83) (Ls' := #[.val (.long p0), .second, .val (.long p1), .second, .val (.long p2), .second, .val (.long p3), .second, .val (.long p4), .second, .val (.long p5), .second, .val (.int (0 : Int32)), .val (.ref w0), .val (.ref b3), .val (.ref b9), .unset, .unset, .unset, .unset, .unset, .unset, .unset, .unset, .unset, .unset]) at_81 rfl rfl rfl ?_
    refine Go.aload (pc' := 85) at_83 rfl rfl rfl ?_
    refine Go.aload (pc' := 87) at_85 rfl rfl rfl ?_
    refine Go.lload (pc' := 89) at_87 rfl rfl ?_
    have ne15 : b3 ≠ b9 := (Nat.ne_of_lt (Nat.lt_of_lt_of_le F6_0.lt (Nat.le_of_eq g9.symm)))
    have f16 : Fld Z h12 b3 "com/example/illumine/illumine/RenderStats" "counts" "[J" (.ref b_6) := ((F6_0.ext E9).keep K12 (ninS ne15 nin0))
    have ne17 : b_6 ≠ b9 := (Nat.ne_of_lt (Nat.lt_of_lt_of_le F6_1.lt (Nat.le_of_eq g9.symm)))
    have f18 : Arv Z h12 b_6 kb_6 .long (5 : Int32) [(.long 0), (.long 0), (.long 0), (.long 0), (.long 0)] (.long 0) := ((F6_1.ext E9).keep K12 (ninS ne17 nin0))
    refine Go.callV (cells' := 4) (slots' := 12) (pc' := 92) [(.ref w0), (.long p5)] [] (((A3.keep K6).ext E9).keep K12) (hw _ (List.mem_of_getElem? (i := 19) rfl)) (hw _ (List.mem_of_getElem? (i := 20) rfl)) (fun s' hs' => notFace_of_selects (args := #[]) (mvT hs' (hw _ (List.mem_of_getElem? (i := 22) rfl)))) (hw _ (List.mem_of_getElem? (i := 22) rfl)) (hw _ (List.mem_of_getElem? (i := 21) rfl)) (hw _ (List.mem_of_getElem? (i := 7) rfl)) (hw _ (List.mem_of_getElem? (i := 23) rfl)) (by decide) (c_count0 l Z a0 hw h12 b3 w0 p5 b_6 kb_6 (0 : Int64) (0 : Int64) (0 : Int64) (0 : Int64) (0 : Int64) x0 o0 ge_b_6 f16 f18) pd_2 rfl rfl rfl rfl rfl (Nat.le_of_ble_eq_true rfl) (Nat.le_of_ble_eq_true rfl) (Nat.le_of_ble_eq_true rfl) (Nat.le_of_ble_eq_true rfl) at_89 rfl ?_
    rintro _ h19 ⟨rfl, K19, F19_0⟩
    have K20 : Keep h h19 [] := K14.trans K19 (allS (Or.inr sz7) all0)
    show Go _ _ _ _ _ _ _ _ _ _ _ _ 92 #[.val (.long p0), .second, .val (.long p1), .second, .val (.long p2), .second, .val (.long p3), .second, .val (.long p4), .second, .val (.long p5), .second, .val (.int (0 : Int32)), .val (.ref w0), .val (.ref b3), .val (.ref b9), .unset, .unset, .unset, .unset, .unset, .unset, .unset, .unset, .unset, .unset] []
    refine Go.aload (pc' := 94) at_92 rfl rfl rfl ?_
    refine Go.old (fun old21 => ?_)
    refine Go.getstatic (pc' := 97) (host := "") (Or.inl (hw _ (List.mem_of_getElem? (i := 33) rfl))) Via.refl (s0.ext old21.2) at_94 rfl ?_
    refine Go.lloadN (pc' := 98) at_97 rfl rfl ?_
    have f22 : Fld Z h19 b9 "com/example/illumine/illumine/RenderStats" "counts" "[J" (.ref b_12) := (F12_0.keep K19 (ninS (Ne.symm ne17) nin0))
    have ne23 : b_6 ≠ b_12 := (Nat.ne_of_lt (Nat.lt_of_lt_of_le (F6_1.ext E9).lt sz_b_12))
    have f24 : Arv Z h19 b_12 kb_12 .long (5 : Int32) [(.long 0), (.long 0), (.long 0), (.long 0), (.long 0)] (.long 0) := (F12_1.keep K19 (ninS (Ne.symm ne23) nin0))
    refine Go.callV (cells' := 4) (slots' := 12) (pc' := 101) [(.ref w0), (.long p0)] [] ((A9.keep K12).keep K19) (hw _ (List.mem_of_getElem? (i := 19) rfl)) (hw _ (List.mem_of_getElem? (i := 20) rfl)) (fun s' hs' => notFace_of_selects (args := #[]) (mvT hs' (hw _ (List.mem_of_getElem? (i := 22) rfl)))) (hw _ (List.mem_of_getElem? (i := 22) rfl)) (hw _ (List.mem_of_getElem? (i := 21) rfl)) (hw _ (List.mem_of_getElem? (i := 7) rfl)) (hw _ (List.mem_of_getElem? (i := 23) rfl)) (by decide) (c_count0 l Z a0 hw h19 b9 w0 p0 b_12 kb_12 (0 : Int64) (0 : Int64) (0 : Int64) (0 : Int64) (0 : Int64) x0 o0 ge_b_12 f22 f24) pd_2 rfl rfl rfl rfl rfl (Nat.le_of_ble_eq_true rfl) (Nat.le_of_ble_eq_true rfl) (Nat.le_of_ble_eq_true rfl) (Nat.le_of_ble_eq_true rfl) at_98 rfl ?_
    rintro _ h25 ⟨rfl, K25, F25_0⟩
    have K26 : Keep h h25 [] := K20.trans K25 (allS (Or.inr sz13) all0)
    show Go _ _ _ _ _ _ _ _ _ _ _ _ 101 #[.val (.long p0), .second, .val (.long p1), .second, .val (.long p2), .second, .val (.long p3), .second, .val (.long p4), .second, .val (.long p5), .second, .val (.int (0 : Int32)), .val (.ref w0), .val (.ref b3), .val (.ref b9), .unset, .unset, .unset, .unset, .unset, .unset, .unset, .unset, .unset, .unset] []
    refine Go.aload (pc' := 103) at_101 rfl rfl rfl ?_
    refine Go.old (fun old27 => ?_)
    refine Go.getstatic (pc' := 106) (host := "") (Or.inl (hw _ (List.mem_of_getElem? (i := 35) rfl))) Via.refl (s1.ext old27.2) at_103 rfl ?_
    refine Go.lloadN (pc' := 107) at_106 rfl rfl ?_
    have ne28 : b9 ≠ b_12 := (Nat.ne_of_lt (Nat.lt_of_lt_of_le A9.lt sz_b_12))
    refine Go.callV (cells' := 4) (slots' := 12) (pc' := 110) [(.ref w1), (.long p1)] [] (((A9.keep K12).keep K19).keep K25) (hw _ (List.mem_of_getElem? (i := 19) rfl)) (hw _ (List.mem_of_getElem? (i := 20) rfl)) (fun s' hs' => notFace_of_selects (args := #[]) (mvT hs' (hw _ (List.mem_of_getElem? (i := 22) rfl)))) (hw _ (List.mem_of_getElem? (i := 22) rfl)) (hw _ (List.mem_of_getElem? (i := 21) rfl)) (hw _ (List.mem_of_getElem? (i := 7) rfl)) (hw _ (List.mem_of_getElem? (i := 23) rfl)) (by decide) (c_count1 l Z a0 hw h25 b9 w1 p1 b_12 kb_12 (((0 : Int64) + p0)) (0 : Int64) (0 : Int64) (0 : Int64) (0 : Int64) x1 o1 ge_b_12 ((f22.keep K25 (ninS ne28 nin0))) F25_0) pd_2 rfl rfl rfl rfl rfl (Nat.le_of_ble_eq_true rfl) (Nat.le_of_ble_eq_true rfl) (Nat.le_of_ble_eq_true rfl) (Nat.le_of_ble_eq_true rfl) at_107 rfl ?_
    rintro _ h29 ⟨rfl, K29, F29_0⟩
    have K30 : Keep h h29 [] := K26.trans K29 (allS (Or.inr sz13) all0)
    show Go _ _ _ _ _ _ _ _ _ _ _ _ 110 #[.val (.long p0), .second, .val (.long p1), .second, .val (.long p2), .second, .val (.long p3), .second, .val (.long p4), .second, .val (.long p5), .second, .val (.int (0 : Int32)), .val (.ref w0), .val (.ref b3), .val (.ref b9), .unset, .unset, .unset, .unset, .unset, .unset, .unset, .unset, .unset, .unset] []
    refine Go.aload (pc' := 112) at_110 rfl rfl rfl ?_
    refine Go.old (fun old31 => ?_)
    refine Go.getstatic (pc' := 115) (host := "") (Or.inl (hw _ (List.mem_of_getElem? (i := 2) rfl))) Via.refl (s2.ext old31.2) at_112 rfl ?_
    refine Go.lload (pc' := 117) at_115 rfl rfl ?_
    have f32 : Fld Z h29 b9 "com/example/illumine/illumine/RenderStats" "counts" "[J" (.ref b_12) := ((f22.keep K25 (ninS ne28 nin0)).keep K29 (ninS ne28 nin0))
    have f33 : Exa Z h29 b9 "com/example/illumine/illumine/RenderStats" := ((((A9.keep K12).keep K19).keep K25).keep K29)
    refine Go.callV (cells' := 4) (slots' := 12) (pc' := 120) [(.ref w2), (.long p2)] [] f33 (hw _ (List.mem_of_getElem? (i := 19) rfl)) (hw _ (List.mem_of_getElem? (i := 20) rfl)) (fun s' hs' => notFace_of_selects (args := #[]) (mvT hs' (hw _ (List.mem_of_getElem? (i := 22) rfl)))) (hw _ (List.mem_of_getElem? (i := 22) rfl)) (hw _ (List.mem_of_getElem? (i := 21) rfl)) (hw _ (List.mem_of_getElem? (i := 7) rfl)) (hw _ (List.mem_of_getElem? (i := 23) rfl)) (by decide) (c_count2 l Z a0 hw h29 b9 w2 p2 b_12 kb_12 (((0 : Int64) + p0)) (((0 : Int64) + p1)) (0 : Int64) (0 : Int64) (0 : Int64) x2 o2 ge_b_12 f32 F29_0) pd_2 rfl rfl rfl rfl rfl (Nat.le_of_ble_eq_true rfl) (Nat.le_of_ble_eq_true rfl) (Nat.le_of_ble_eq_true rfl) (Nat.le_of_ble_eq_true rfl) at_117 rfl ?_
    rintro _ h34 ⟨rfl, K34, F34_0⟩
    have K35 : Keep h h34 [] := K30.trans K34 (allS (Or.inr sz13) all0)
    show Go _ _ _ _ _ _ _ _ _ _ _ _ 120 #[.val (.long p0), .second, .val (.long p1), .second, .val (.long p2), .second, .val (.long p3), .second, .val (.long p4), .second, .val (.long p5), .second, .val (.int (0 : Int32)), .val (.ref w0), .val (.ref b3), .val (.ref b9), .unset, .unset, .unset, .unset, .unset, .unset, .unset, .unset, .unset, .unset] []
    refine Go.aload (pc' := 122) at_120 rfl rfl rfl ?_
    refine Go.old (fun old36 => ?_)
    refine Go.getstatic (pc' := 125) (host := "") (Or.inl (hw _ (List.mem_of_getElem? (i := 37) rfl))) Via.refl (s3.ext old36.2) at_122 rfl ?_
    refine Go.lload (pc' := 127) at_125 rfl rfl ?_
    refine Go.callV (cells' := 4) (slots' := 12) (pc' := 130) [(.ref w3), (.long p3)] [] (f33.keep K34) (hw _ (List.mem_of_getElem? (i := 19) rfl)) (hw _ (List.mem_of_getElem? (i := 20) rfl)) (fun s' hs' => notFace_of_selects (args := #[]) (mvT hs' (hw _ (List.mem_of_getElem? (i := 22) rfl)))) (hw _ (List.mem_of_getElem? (i := 22) rfl)) (hw _ (List.mem_of_getElem? (i := 21) rfl)) (hw _ (List.mem_of_getElem? (i := 7) rfl)) (hw _ (List.mem_of_getElem? (i := 23) rfl)) (by decide) (c_count3 l Z a0 hw h34 b9 w3 p3 b_12 kb_12 (((0 : Int64) + p0)) (((0 : Int64) + p1)) (((0 : Int64) + p2)) (0 : Int64) (0 : Int64) x3 o3 ge_b_12 ((f32.keep K34 (ninS ne28 nin0))) F34_0) pd_2 rfl rfl rfl rfl rfl (Nat.le_of_ble_eq_true rfl) (Nat.le_of_ble_eq_true rfl) (Nat.le_of_ble_eq_true rfl) (Nat.le_of_ble_eq_true rfl) at_127 rfl ?_
    rintro _ h37 ⟨rfl, K37, F37_0⟩
    have K38 : Keep h h37 [] := K35.trans K37 (allS (Or.inr sz13) all0)
    show Go _ _ _ _ _ _ _ _ _ _ _ _ 130 #[.val (.long p0), .second, .val (.long p1), .second, .val (.long p2), .second, .val (.long p3), .second, .val (.long p4), .second, .val (.long p5), .second, .val (.int (0 : Int32)), .val (.ref w0), .val (.ref b3), .val (.ref b9), .unset, .unset, .unset, .unset, .unset, .unset, .unset, .unset, .unset, .unset] []
    refine Go.aload (pc' := 132) at_130 rfl rfl rfl ?_
    refine Go.old (fun old39 => ?_)
    refine Go.getstatic (pc' := 135) (host := "") (Or.inl (hw _ (List.mem_of_getElem? (i := 39) rfl))) Via.refl (s4.ext old39.2) at_132 rfl ?_
    refine Go.lload (pc' := 137) at_135 rfl rfl ?_
    have f40 : Fld Z h37 b9 "com/example/illumine/illumine/RenderStats" "counts" "[J" (.ref b_12) := ((f32.keep K34 (ninS ne28 nin0)).keep K37 (ninS ne28 nin0))
    refine Go.callV (cells' := 4) (slots' := 12) (pc' := 140) [(.ref w4), (.long p4)] [] ((f33.keep K34).keep K37) (hw _ (List.mem_of_getElem? (i := 19) rfl)) (hw _ (List.mem_of_getElem? (i := 20) rfl)) (fun s' hs' => notFace_of_selects (args := #[]) (mvT hs' (hw _ (List.mem_of_getElem? (i := 22) rfl)))) (hw _ (List.mem_of_getElem? (i := 22) rfl)) (hw _ (List.mem_of_getElem? (i := 21) rfl)) (hw _ (List.mem_of_getElem? (i := 7) rfl)) (hw _ (List.mem_of_getElem? (i := 23) rfl)) (by decide) (c_count4 l Z a0 hw h37 b9 w4 p4 b_12 kb_12 (((0 : Int64) + p0)) (((0 : Int64) + p1)) (((0 : Int64) + p2)) (((0 : Int64) + p3)) (0 : Int64) x4 o4 ge_b_12 f40 F37_0) pd_2 rfl rfl rfl rfl rfl (Nat.le_of_ble_eq_true rfl) (Nat.le_of_ble_eq_true rfl) (Nat.le_of_ble_eq_true rfl) (Nat.le_of_ble_eq_true rfl) at_137 rfl ?_
    rintro _ h41 ⟨rfl, K41, F41_0⟩
    have K42 : Keep h h41 [] := K38.trans K41 (allS (Or.inr sz13) all0)
    show Go _ _ _ _ _ _ _ _ _ _ _ _ 140 #[.val (.long p0), .second, .val (.long p1), .second, .val (.long p2), .second, .val (.long p3), .second, .val (.long p4), .second, .val (.long p5), .second, .val (.int (0 : Int32)), .val (.ref w0), .val (.ref b3), .val (.ref b9), .unset, .unset, .unset, .unset, .unset, .unset, .unset, .unset, .unset, .unset] []
    refine Go.aload (pc' := 142) at_140 rfl rfl rfl ?_
    refine Go.aload (pc' := 144) at_142 rfl rfl rfl ?_
    have ne43 : b3 ≠ b_6 := (Nat.ne_of_lt (Nat.lt_of_lt_of_le A3.lt sz_b_6))
    have ne44 : b3 ≠ b_12 := (Nat.ne_of_lt (Nat.lt_of_lt_of_le ((A3.keep K6).ext E9).lt sz_b_12))
    have f45 : Fld Z h41 b3 "com/example/illumine/illumine/RenderStats" "counts" "[J" (.ref b_6) := ((((((f16.keep K19 (ninS ne43 nin0)).keep K25 (ninS ne44 nin0)).keep K29 (ninS ne44 nin0)).keep K34 (ninS ne44 nin0)).keep K37 (ninS ne44 nin0)).keep K41 (ninS ne44 nin0))
    have f46 : Arv Z h41 b_6 kb_6 .long (5 : Int32) [(.long ((0 : Int64) + p5)), (.long (0 : Int64)), (.long (0 : Int64)), (.long (0 : Int64)), (.long (0 : Int64))] (.long 0) := (((((F19_0.keep K25 (ninS ne23 nin0)).keep K29 (ninS ne23 nin0)).keep K34 (ninS ne23 nin0)).keep K37 (ninS ne23 nin0)).keep K41 (ninS ne23 nin0))
    have f47 : Exa Z h41 b3 "com/example/illumine/illumine/RenderStats" := (((((((((A3.keep K6).ext E9).keep K12).keep K19).keep K25).keep K29).keep K34).keep K37).keep K41)
    refine Go.callV (cells' := 4) (slots' := 12) (pc' := 147) [(.ref b9)] [] f47 (hw _ (List.mem_of_getElem? (i := 41) rfl)) (hw _ (List.mem_of_getElem? (i := 42) rfl)) (fun s' hs' => notFace_of_selects (args := #[]) (mvT hs' (hw _ (List.mem_of_getElem? (i := 44) rfl)))) (hw _ (List.mem_of_getElem? (i := 44) rfl)) (hw _ (List.mem_of_getElem? (i := 43) rfl)) (hw _ (List.mem_of_getElem? (i := 7) rfl)) (hw _ (List.mem_of_getElem? (i := 45) rfl)) (by decide) (c_add l Z a0 hw h41 b3 b9 b_6 kb_6 b_12 kb_12 (((0 : Int64) + p5)) (0 : Int64) (0 : Int64) (0 : Int64) (0 : Int64) (((0 : Int64) + p0)) (((0 : Int64) + p1)) (((0 : Int64) + p2)) (((0 : Int64) + p3)) (((0 : Int64) + p4)) ge_b_6 ne43 (Ne.symm ne17) (Ne.symm ne23) f45 ((f40.keep K41 (ninS ne28 nin0))) f46 F41_0) pd_3 rfl rfl rfl rfl rfl (Nat.le_of_ble_eq_true rfl) (Nat.le_of_ble_eq_true rfl) (Nat.le_of_ble_eq_true rfl) (Nat.le_of_ble_eq_true rfl) at_144 rfl ?_
    rintro _ h48 ⟨rfl, K48, F48_0⟩
    have K49 : Keep h h48 [] := K42.trans K48 (allS (Or.inr sz7) all0)
    show Go _ _ _ _ _ _ _ _ _ _ _ _ 147 #[.val (.long p0), .second, .val (.long p1), .second, .val (.long p2), .second, .val (.long p3), .second, .val (.long p4), .second, .val (.long p5), .second, .val (.int (0 : Int32)), .val (.ref w0), .val (.ref b3), .val (.ref b9), .unset, .unset, .unset, .unset, .unset, .unset, .unset, .unset, .unset, .unset] []
    refine Go.lloadN (pc' := 148) at_147 rfl rfl ?_
    refine Go.iload (pc' := 150) at_148 rfl rfl ?_
    refine Go.ifNo (pc' := 153) at_150 (XT.i0_ne_f (by decide)) rfl ?_
    refine Go.lload (pc' := 155) at_153 rfl rfl ?_
    refine Go.goto (pc' := 159) at_155 (by decide) (by decide) ?_
    refine Go.ladd (pc' := 160) at_159 rfl ?_
    refine Go.lstore (pc' := 162) (Ls' := #[.val (.long p0), .second, .val (.long p1), .second, .val (.long p2), .second, .val (.long p3), .second, .val (.long p4), .second, .val (.long p5), .second, .val (.int (0 : Int32)), .val (.ref w0), .val (.ref b3), .val (.ref b9), .val (.long (p0 + p5)), .second, .unset, .unset, .unset, .unset, .unset, .unset, .unset, .unset]) at_160 rfl rfl ?_
    refine Go.lloadN (pc' := 163) at_162 rfl rfl ?_
    refine Go.iload (pc' := 165) at_163 rfl rfl ?_
    refine Go.iconst (pc' := 166) (v := (1 : Int32)) at_165 rfl rfl ?_
    refine Go.icmpYes (pc' := 174) at_166 (XT.ii_ne_t (by decide)) (by decide) (by decide) ?_
    refine Go.lconst (pc' := 175) (v := (0 : Int64)) at_174 rfl rfl ?_
    refine Go.ladd (pc' := 176) at_175 rfl ?_
    refine Go.lstore (pc' := 178) (Ls' := #[.val (.long p0), .second, .val (.long p1), .second, .val (.long p2), .second, .val (.long p3), .second, .val (.long p4), .second, .val (.long p5), .second, .val (.int (0 : Int32)), .val (.ref w0), .val (.ref b3), .val (.ref b9), .val (.long (p0 + p5)), .second, .val (.long (p1 + (0 : Int64))), .second, .unset, .unset, .unset, .unset, .unset, .unset]) at_176 rfl rfl ?_
    refine Go.lload (pc' := 180) at_178 rfl rfl ?_
    refine Go.iload (pc' := 182) at_180 rfl rfl ?_
    refine Go.iconst (pc' := 183) (v := (2 : Int32)) at_182 rfl rfl ?_
    refine Go.icmpYes (pc' := 191) at_183 (XT.ii_ne_t (by decide)) (by decide) (by decide) ?_
    refine Go.lconst (pc' := 192) (v := (0 : Int64)) at_191 rfl rfl ?_
    refine Go.ladd (pc' := 193) at_192 rfl ?_
    refine Go.lstore (pc' := 195) (Ls' := #[.val (.long p0), .second, .val (.long p1), .second, .val (.long p2), .second, .val (.long p3), .second, .val (.long p4), .second, .val (.long p5), .second, .val (.int (0 : Int32)), .val (.ref w0), .val (.ref b3), .val (.ref b9), .val (.long (p0 + p5)), .second, .val (.long (p1 + (0 : Int64))), .second, .val (.long (p2 + (0 : Int64))), .second, .unset, .unset, .unset, .unset]) at_193 rfl rfl ?_
    refine Go.lload (pc' := 197) at_195 rfl rfl ?_
    refine Go.iload (pc' := 199) at_197 rfl rfl ?_
    refine Go.iconst (pc' := 200) (v := (3 : Int32)) at_199 rfl rfl ?_
    refine Go.icmpYes (pc' := 208) at_200 (XT.ii_ne_t (by decide)) (by decide) (by decide) ?_
    refine Go.lconst (pc' := 209) (v := (0 : Int64)) at_208 rfl rfl ?_
    refine Go.ladd (pc' := 210) at_209 rfl ?_
    refine Go.lstore (pc' := 212) (Ls' := #[.val (.long p0), .second, .val (.long p1), .second, .val (.long p2), .second, .val (.long p3), .second, .val (.long p4), .second, .val (.long p5), .second, .val (.int (0 : Int32)), .val (.ref w0), .val (.ref b3), .val (.ref b9), .val (.long (p0 + p5)), .second, .val (.long (p1 + (0 : Int64))), .second, .val (.long (p2 + (0 : Int64))), .second, .val (.long (p3 + (0 : Int64))), .second, .unset, .unset]) at_210 rfl rfl ?_
    refine Go.lload (pc' := 214) at_212 rfl rfl ?_
    refine Go.iload (pc' := 216) at_214 rfl rfl ?_
    refine Go.iconst (pc' := 217) (v := (4 : Int32)) at_216 rfl rfl ?_
    refine Go.icmpYes (pc' := 225) at_217 (XT.ii_ne_t (by decide)) (by decide) (by decide) ?_
    refine Go.lconst (pc' := 226) (v := (0 : Int64)) at_225 rfl rfl ?_
    refine Go.ladd (pc' := 227) at_226 rfl ?_
    refine Go.lstore (pc' := 229) (Ls' := #[.val (.long p0), .second, .val (.long p1), .second, .val (.long p2), .second, .val (.long p3), .second, .val (.long p4), .second, .val (.long p5), .second, .val (.int (0 : Int32)), .val (.ref w0), .val (.ref b3), .val (.ref b9), .val (.long (p0 + p5)), .second, .val (.long (p1 + (0 : Int64))), .second, .val (.long (p2 + (0 : Int64))), .second, .val (.long (p3 + (0 : Int64))), .second, .val (.long (p4 + (0 : Int64))), .second]) at_227 rfl rfl ?_
    refine Go.aload (pc' := 231) at_229 rfl rfl rfl ?_
    refine Go.callV (cells' := 4) (slots' := 12) (pc' := 234) [] [] (f47.keep K48) (hw _ (List.mem_of_getElem? (i := 46) rfl)) (hw _ (List.mem_of_getElem? (i := 47) rfl)) (fun s' hs' => notFace_of_selects (args := #[]) (mvT hs' (hw _ (List.mem_of_getElem? (i := 49) rfl)))) (hw _ (List.mem_of_getElem? (i := 49) rfl)) (hw _ (List.mem_of_getElem? (i := 48) rfl)) (hw _ (List.mem_of_getElem? (i := 7) rfl)) (hw _ (List.mem_of_getElem? (i := 50) rfl)) (by decide) (c_get0 l Z a0 hw h48 b3 w0 b_6 kb_6 ((((0 : Int64) + p5) + ((0 : Int64) + p0))) (((0 : Int64) + ((0 : Int64) + p1))) (((0 : Int64) + ((0 : Int64) + p2))) (((0 : Int64) + ((0 : Int64) + p3))) (((0 : Int64) + ((0 : Int64) + p4))) s0 x0 o0 ((f45.keep K48 (ninS ne43 nin0))) F48_0) pd_4 rfl rfl rfl rfl rfl (Nat.le_of_ble_eq_true rfl) (Nat.le_of_ble_eq_true rfl) (Nat.le_of_ble_eq_true rfl) (Nat.le_of_ble_eq_true rfl) at_231 rfl ?_
    rintro _ _ ⟨rfl, rfl⟩
    show Go _ _ _ _ _ _ _ _ _ _ _ _ 234 #[.val (.long p0), .second, .val (.long p1), .second, .val (.long p2), .second, .val (.long p3), .second, .val (.long p4), .second, .val (.long p5), .second, .val (.int (0 : Int32)), .val (.ref w0), .val (.ref b3), .val (.ref b9), .val (.long (p0 + p5)), .second, .val (.long (p1 + (0 : Int64))), .second, .val (.long (p2 + (0 : Int64))), .second, .val (.long (p3 + (0 : Int64))), .second, .val (.long (p4 + (0 : Int64))), .second] [(.long (((0 : Int64) + p5) + ((0 : Int64) + p0)))]
    refine Go.lload (pc' := 236) at_234 rfl rfl ?_
    refine Go.lcmp (pc' := 237) at_236 rfl ?_
    refine Go.ifNo (pc' := 240) at_237 (XT.ll_ne_f (by simp [Int64.add_comm] : (((0 : Int64) + p5) + ((0 : Int64) + p0)) = (p0 + p5))) rfl ?_
    refine Go.aload (pc' := 242) at_240 rfl rfl rfl ?_
    refine Go.callV (cells' := 4) (slots' := 12) (pc' := 245) [] [] (f47.keep K48) (hw _ (List.mem_of_getElem? (i := 52) rfl)) (hw _ (List.mem_of_getElem? (i := 53) rfl)) (fun s' hs' => notFace_of_selects (args := #[]) (mvT hs' (hw _ (List.mem_of_getElem? (i := 55) rfl)))) (hw _ (List.mem_of_getElem? (i := 55) rfl)) (hw _ (List.mem_of_getElem? (i := 54) rfl)) (hw _ (List.mem_of_getElem? (i := 7) rfl)) (hw _ (List.mem_of_getElem? (i := 56) rfl)) (by decide) (c_get1 l Z a0 hw h48 b3 w1 b_6 kb_6 ((((0 : Int64) + p5) + ((0 : Int64) + p0))) (((0 : Int64) + ((0 : Int64) + p1))) (((0 : Int64) + ((0 : Int64) + p2))) (((0 : Int64) + ((0 : Int64) + p3))) (((0 : Int64) + ((0 : Int64) + p4))) s1 x1 o1 ((f45.keep K48 (ninS ne43 nin0))) F48_0) pd_4 rfl rfl rfl rfl rfl (Nat.le_of_ble_eq_true rfl) (Nat.le_of_ble_eq_true rfl) (Nat.le_of_ble_eq_true rfl) (Nat.le_of_ble_eq_true rfl) at_242 rfl ?_
    rintro _ _ ⟨rfl, rfl⟩
    show Go _ _ _ _ _ _ _ _ _ _ _ _ 245 #[.val (.long p0), .second, .val (.long p1), .second, .val (.long p2), .second, .val (.long p3), .second, .val (.long p4), .second, .val (.long p5), .second, .val (.int (0 : Int32)), .val (.ref w0), .val (.ref b3), .val (.ref b9), .val (.long (p0 + p5)), .second, .val (.long (p1 + (0 : Int64))), .second, .val (.long (p2 + (0 : Int64))), .second, .val (.long (p3 + (0 : Int64))), .second, .val (.long (p4 + (0 : Int64))), .second] [(.long ((0 : Int64) + ((0 : Int64) + p1)))]
    refine Go.lload (pc' := 247) at_245 rfl rfl ?_
    refine Go.lcmp (pc' := 248) at_247 rfl ?_
    refine Go.ifNo (pc' := 251) at_248 (XT.ll_ne_f (by simp [Int64.add_comm] : ((0 : Int64) + ((0 : Int64) + p1)) = (p1 + (0 : Int64)))) rfl ?_
    refine Go.aload (pc' := 253) at_251 rfl rfl rfl ?_
    refine Go.callV (cells' := 4) (slots' := 12) (pc' := 256) [] [] (f47.keep K48) (hw _ (List.mem_of_getElem? (i := 58) rfl)) (hw _ (List.mem_of_getElem? (i := 59) rfl)) (fun s' hs' => notFace_of_selects (args := #[]) (mvT hs' (hw _ (List.mem_of_getElem? (i := 61) rfl)))) (hw _ (List.mem_of_getElem? (i := 61) rfl)) (hw _ (List.mem_of_getElem? (i := 60) rfl)) (hw _ (List.mem_of_getElem? (i := 7) rfl)) (hw _ (List.mem_of_getElem? (i := 62) rfl)) (by decide) (c_get2 l Z a0 hw h48 b3 w2 b_6 kb_6 ((((0 : Int64) + p5) + ((0 : Int64) + p0))) (((0 : Int64) + ((0 : Int64) + p1))) (((0 : Int64) + ((0 : Int64) + p2))) (((0 : Int64) + ((0 : Int64) + p3))) (((0 : Int64) + ((0 : Int64) + p4))) s2 x2 o2 ((f45.keep K48 (ninS ne43 nin0))) F48_0) pd_4 rfl rfl rfl rfl rfl (Nat.le_of_ble_eq_true rfl) (Nat.le_of_ble_eq_true rfl) (Nat.le_of_ble_eq_true rfl) (Nat.le_of_ble_eq_true rfl) at_253 rfl ?_
    rintro _ _ ⟨rfl, rfl⟩
    show Go _ _ _ _ _ _ _ _ _ _ _ _ 256 #[.val (.long p0), .second, .val (.long p1), .second, .val (.long p2), .second, .val (.long p3), .second, .val (.long p4), .second, .val (.long p5), .second, .val (.int (0 : Int32)), .val (.ref w0), .val (.ref b3), .val (.ref b9), .val (.long (p0 + p5)), .second, .val (.long (p1 + (0 : Int64))), .second, .val (.long (p2 + (0 : Int64))), .second, .val (.long (p3 + (0 : Int64))), .second, .val (.long (p4 + (0 : Int64))), .second] [(.long ((0 : Int64) + ((0 : Int64) + p2)))]
    refine Go.lload (pc' := 258) at_256 rfl rfl ?_
    refine Go.lcmp (pc' := 259) at_258 rfl ?_
    refine Go.ifNo (pc' := 262) at_259 (XT.ll_ne_f (by simp [Int64.add_comm] : ((0 : Int64) + ((0 : Int64) + p2)) = (p2 + (0 : Int64)))) rfl ?_
    refine Go.aload (pc' := 264) at_262 rfl rfl rfl ?_
    refine Go.callV (cells' := 4) (slots' := 12) (pc' := 267) [] [] (f47.keep K48) (hw _ (List.mem_of_getElem? (i := 64) rfl)) (hw _ (List.mem_of_getElem? (i := 65) rfl)) (fun s' hs' => notFace_of_selects (args := #[]) (mvT hs' (hw _ (List.mem_of_getElem? (i := 67) rfl)))) (hw _ (List.mem_of_getElem? (i := 67) rfl)) (hw _ (List.mem_of_getElem? (i := 66) rfl)) (hw _ (List.mem_of_getElem? (i := 7) rfl)) (hw _ (List.mem_of_getElem? (i := 68) rfl)) (by decide) (c_get3 l Z a0 hw h48 b3 w3 b_6 kb_6 ((((0 : Int64) + p5) + ((0 : Int64) + p0))) (((0 : Int64) + ((0 : Int64) + p1))) (((0 : Int64) + ((0 : Int64) + p2))) (((0 : Int64) + ((0 : Int64) + p3))) (((0 : Int64) + ((0 : Int64) + p4))) s3 x3 o3 ((f45.keep K48 (ninS ne43 nin0))) F48_0) pd_4 rfl rfl rfl rfl rfl (Nat.le_of_ble_eq_true rfl) (Nat.le_of_ble_eq_true rfl) (Nat.le_of_ble_eq_true rfl) (Nat.le_of_ble_eq_true rfl) at_264 rfl ?_
    rintro _ _ ⟨rfl, rfl⟩
    show Go _ _ _ _ _ _ _ _ _ _ _ _ 267 #[.val (.long p0), .second, .val (.long p1), .second, .val (.long p2), .second, .val (.long p3), .second, .val (.long p4), .second, .val (.long p5), .second, .val (.int (0 : Int32)), .val (.ref w0), .val (.ref b3), .val (.ref b9), .val (.long (p0 + p5)), .second, .val (.long (p1 + (0 : Int64))), .second, .val (.long (p2 + (0 : Int64))), .second, .val (.long (p3 + (0 : Int64))), .second, .val (.long (p4 + (0 : Int64))), .second] [(.long ((0 : Int64) + ((0 : Int64) + p3)))]
    refine Go.lload (pc' := 269) at_267 rfl rfl ?_
    refine Go.lcmp (pc' := 270) at_269 rfl ?_
    refine Go.ifNo (pc' := 273) at_270 (XT.ll_ne_f (by simp [Int64.add_comm] : ((0 : Int64) + ((0 : Int64) + p3)) = (p3 + (0 : Int64)))) rfl ?_
    refine Go.aload (pc' := 275) at_273 rfl rfl rfl ?_
    refine Go.callV (cells' := 4) (slots' := 12) (pc' := 278) [] [] (f47.keep K48) (hw _ (List.mem_of_getElem? (i := 70) rfl)) (hw _ (List.mem_of_getElem? (i := 71) rfl)) (fun s' hs' => notFace_of_selects (args := #[]) (mvT hs' (hw _ (List.mem_of_getElem? (i := 73) rfl)))) (hw _ (List.mem_of_getElem? (i := 73) rfl)) (hw _ (List.mem_of_getElem? (i := 72) rfl)) (hw _ (List.mem_of_getElem? (i := 7) rfl)) (hw _ (List.mem_of_getElem? (i := 74) rfl)) (by decide) (c_get4 l Z a0 hw h48 b3 w4 b_6 kb_6 ((((0 : Int64) + p5) + ((0 : Int64) + p0))) (((0 : Int64) + ((0 : Int64) + p1))) (((0 : Int64) + ((0 : Int64) + p2))) (((0 : Int64) + ((0 : Int64) + p3))) (((0 : Int64) + ((0 : Int64) + p4))) s4 x4 o4 ((f45.keep K48 (ninS ne43 nin0))) F48_0) pd_4 rfl rfl rfl rfl rfl (Nat.le_of_ble_eq_true rfl) (Nat.le_of_ble_eq_true rfl) (Nat.le_of_ble_eq_true rfl) (Nat.le_of_ble_eq_true rfl) at_275 rfl ?_
    rintro _ _ ⟨rfl, rfl⟩
    show Go _ _ _ _ _ _ _ _ _ _ _ _ 278 #[.val (.long p0), .second, .val (.long p1), .second, .val (.long p2), .second, .val (.long p3), .second, .val (.long p4), .second, .val (.long p5), .second, .val (.int (0 : Int32)), .val (.ref w0), .val (.ref b3), .val (.ref b9), .val (.long (p0 + p5)), .second, .val (.long (p1 + (0 : Int64))), .second, .val (.long (p2 + (0 : Int64))), .second, .val (.long (p3 + (0 : Int64))), .second, .val (.long (p4 + (0 : Int64))), .second] [(.long ((0 : Int64) + ((0 : Int64) + p4)))]
    refine Go.lload (pc' := 280) at_278 rfl rfl ?_
    refine Go.lcmp (pc' := 281) at_280 rfl ?_
    refine Go.ifNo (pc' := 284) at_281 (XT.ll_ne_f (by simp [Int64.add_comm] : ((0 : Int64) + ((0 : Int64) + p4)) = (p4 + (0 : Int64)))) rfl ?_
    refine Go.aload (pc' := 286) at_284 rfl rfl rfl ?_
    have f55 : Fld Z h48 b9 "com/example/illumine/illumine/RenderStats" "counts" "[J" (.ref b_12) := ((f40.keep K41 (ninS ne28 nin0)).keep K48 (ninS (Ne.symm ne17) nin0))
    have f56 : Arv Z h48 b_12 kb_12 .long (5 : Int32) [(.long ((0 : Int64) + p0)), (.long ((0 : Int64) + p1)), (.long ((0 : Int64) + p2)), (.long ((0 : Int64) + p3)), (.long ((0 : Int64) + p4))] (.long 0) := (F41_0.keep K48 (ninS (Ne.symm ne23) nin0))
    have f57 : Exa Z h48 b9 "com/example/illumine/illumine/RenderStats" := ((((f33.keep K34).keep K37).keep K41).keep K48)
    refine Go.callV (cells' := 4) (slots' := 12) (pc' := 289) [] [] f57 (hw _ (List.mem_of_getElem? (i := 46) rfl)) (hw _ (List.mem_of_getElem? (i := 47) rfl)) (fun s' hs' => notFace_of_selects (args := #[]) (mvT hs' (hw _ (List.mem_of_getElem? (i := 49) rfl)))) (hw _ (List.mem_of_getElem? (i := 49) rfl)) (hw _ (List.mem_of_getElem? (i := 48) rfl)) (hw _ (List.mem_of_getElem? (i := 7) rfl)) (hw _ (List.mem_of_getElem? (i := 50) rfl)) (by decide) (c_get0 l Z a0 hw h48 b9 w0 b_12 kb_12 (((0 : Int64) + p0)) (((0 : Int64) + p1)) (((0 : Int64) + p2)) (((0 : Int64) + p3)) (((0 : Int64) + p4)) s0 x0 o0 f55 f56) pd_4 rfl rfl rfl rfl rfl (Nat.le_of_ble_eq_true rfl) (Nat.le_of_ble_eq_true rfl) (Nat.le_of_ble_eq_true rfl) (Nat.le_of_ble_eq_true rfl) at_286 rfl ?_
    rintro _ _ ⟨rfl, rfl⟩
    show Go _ _ _ _ _ _ _ _ _ _ _ _ 289 #[.val (.long p0), .second, .val (.long p1), .second, .val (.long p2), .second, .val (.long p3), .second, .val (.long p4), .second, .val (.long p5), .second, .val (.int (0 : Int32)), .val (.ref w0), .val (.ref b3), .val (.ref b9), .val (.long (p0 + p5)), .second, .val (.long (p1 + (0 : Int64))), .second, .val (.long (p2 + (0 : Int64))), .second, .val (.long (p3 + (0 : Int64))), .second, .val (.long (p4 + (0 : Int64))), .second] [(.long ((0 : Int64) + p0))]
    refine Go.lloadN (pc' := 290) at_289 rfl rfl ?_
    refine Go.lcmp (pc' := 291) at_290 rfl ?_
    refine Go.ifNo (pc' := 294) at_291 (XT.ll_ne_f (by simp [Int64.add_comm] : ((0 : Int64) + p0) = p0)) rfl ?_
    refine Go.aload (pc' := 296) at_294 rfl rfl rfl ?_
    refine Go.callV (cells' := 4) (slots' := 12) (pc' := 299) [] [] f57 (hw _ (List.mem_of_getElem? (i := 70) rfl)) (hw _ (List.mem_of_getElem? (i := 71) rfl)) (fun s' hs' => notFace_of_selects (args := #[]) (mvT hs' (hw _ (List.mem_of_getElem? (i := 73) rfl)))) (hw _ (List.mem_of_getElem? (i := 73) rfl)) (hw _ (List.mem_of_getElem? (i := 72) rfl)) (hw _ (List.mem_of_getElem? (i := 7) rfl)) (hw _ (List.mem_of_getElem? (i := 74) rfl)) (by decide) (c_get4 l Z a0 hw h48 b9 w4 b_12 kb_12 (((0 : Int64) + p0)) (((0 : Int64) + p1)) (((0 : Int64) + p2)) (((0 : Int64) + p3)) (((0 : Int64) + p4)) s4 x4 o4 f55 f56) pd_4 rfl rfl rfl rfl rfl (Nat.le_of_ble_eq_true rfl) (Nat.le_of_ble_eq_true rfl) (Nat.le_of_ble_eq_true rfl) (Nat.le_of_ble_eq_true rfl) at_296 rfl ?_
    rintro _ _ ⟨rfl, rfl⟩
    show Go _ _ _ _ _ _ _ _ _ _ _ _ 299 #[.val (.long p0), .second, .val (.long p1), .second, .val (.long p2), .second, .val (.long p3), .second, .val (.long p4), .second, .val (.long p5), .second, .val (.int (0 : Int32)), .val (.ref w0), .val (.ref b3), .val (.ref b9), .val (.long (p0 + p5)), .second, .val (.long (p1 + (0 : Int64))), .second, .val (.long (p2 + (0 : Int64))), .second, .val (.long (p3 + (0 : Int64))), .second, .val (.long (p4 + (0 : Int64))), .second] [(.long ((0 : Int64) + p4))]
    refine Go.lload (pc' := 301) at_299 rfl rfl ?_
    refine Go.lcmp (pc' := 302) at_301 rfl ?_
    refine Go.ifNo (pc' := 305) at_302 (XT.ll_ne_f (by simp [Int64.add_comm] : ((0 : Int64) + p4) = p4)) rfl ?_
    refine Go.iconst (pc' := 306) (v := (1 : Int32)) at_305 rfl rfl ?_
    refine Go.goto (pc' := 310) at_306 (by decide) (by decide) ?_
    exact Go.retN (t := .boolean) rfl (by simp) at_310 ⟨rfl, K49⟩ (by decide) (by decide)
  ·
    rw [hk1]
    refine Go.iload (pc' := 15) at_13 rfl rfl ?_
    refine Go.ifYes (pc' := 24) at_15 (XT.i0_ne_t (by decide)) (by decide) (by decide) ?_
    refine Go.iload (pc' := 26) at_24 rfl rfl ?_
    refine Go.iconst (pc' := 27) (v := (1 : Int32)) at_26 rfl rfl ?_
    refine Go.icmpNo (pc' := 30) at_27 (XT.ii_ne_f (by decide)) rfl ?_
    refine Go.old (fun old60 => ?_)
    refine Go.getstatic (pc' := 33) (host := "") (Or.inl (hw _ (List.mem_of_getElem? (i := 35) rfl))) Via.refl (s1.ext old60.2) at_30 rfl ?_
    refine Go.goto (pc' := 63) at_33 (by decide) (by decide) ?_
    refine Go.astore (pc' := 65) (Ls' := #[.val (.long p0), .second, .val (.long p1), .second, .val (.long p2), .second, .val (.long p3), .second, .val (.long p4), .second, .val (.long p5), .second, .val (.int (1 : Int32)), .val (.ref w1), .unset, .unset, .unset, .unset, .unset, .unset, .unset, .unset, .unset, .unset, .unset, .unset]) at_63 rfl rfl rfl ?_
    refine Go.new (pc' := 68) (cells' := 1) (slots' := 1) (hw _ (List.mem_of_getElem? (i := 5) rfl)) (hw _ (List.mem_of_getElem? (i := 6) rfl)) (hw _ (List.mem_of_getElem? (i := 7) rfl)) at_65 rfl rfl (by decide) (by decide) rfl ?_
    intro h61 b61 g61 E61 ge61 A61 D61
    have sz62 : h.size ≤ b61 := Nat.le_trans (Keep.refl h []).1 (Nat.le_of_eq g61.symm)
    have K63 : Keep h h61 [] := (Keep.refl h []).ext E61
    refine Go.dup (pc' := 69) at_68 rfl rfl ?_
    refine Go.callC (cells' := 2) (slots' := 6) (pc' := 72) [] [(.ref b61)] (a := b61) rfl rfl (hw _ (List.mem_of_getElem? (i := 8) rfl)) (hw _ (List.mem_of_getElem? (i := 9) rfl)) (hw _ (List.mem_of_getElem? (i := 7) rfl)) (hw _ (List.mem_of_getElem? (i := 10) rfl)) (by decide) (c_init l Z a0 hw h61 b61 wc kc vsc sc vc ge61 A61 ((D61 (Or.inr (hw _ (List.mem_of_getElem? (i := 18) rfl))) (ty := (.array .long)) (by decide) : Fld Z h61 b61 "com/example/illumine/illumine/RenderStats" "counts" "[J" .null))) pd_1 rfl rfl rfl rfl rfl (Nat.le_of_ble_eq_true rfl) (Nat.le_of_ble_eq_true rfl) (Nat.le_of_ble_eq_true rfl) (Nat.le_of_ble_eq_true rfl) at_69 rfl ?_
    rintro _ h64 ⟨b_64, kb_64, rfl, K64, ge_b_64, sz_b_64, F64_0, F64_1⟩
    have sz65 : h.size ≤ b_64 := Nat.le_trans K63.1 sz_b_64
    have K66 : Keep h h64 [] := K63.trans K64 (allS (Or.inr sz62) all0)
    show Go _ _ _ _ _ _ _ _ _ _ _ _ 72 #[.val (.long p0), .second, .val (.long p1), .second, .val (.long p2), .second, .val (.long p3), .second, .val (.long p4), .second, .val (.long p5), .second, .val (.int (1 : Int32)), .val (.ref w1), .unset, .unset, .unset, .unset, .unset, .unset, .unset, .unset, .unset, .unset, .unset, .unset] [(.ref b61)]
    refine Go.astore (pc' := 74) (Ls' := #[.val (.long p0), .second, .val (.long p1), .second, .val (.long p2), .second, .val (.long p3), .second, .val (.long p4), .second, .val (.long p5), .second, .val (.int (1 : Int32)), .val (.ref w1), .val (.ref b61), .unset, .unset, .unset, .unset, .unset, .unset, .unset, .unset, .unset, .unset, .unset]) at_72 rfl rfl rfl ?_
    refine Go.new (pc' := 77) (cells' := 3) (slots' := 7) (hw _ (List.mem_of_getElem? (i := 5) rfl)) (hw _ (List.mem_of_getElem? (i := 6) rfl)) (hw _ (List.mem_of_getElem? (i := 7) rfl)) at_74 rfl rfl (by decide) (by decide) rfl ?_
    intro h67 b67 g67 E67 ge67 A67 D67
    have sz68 : h.size ≤ b67 := Nat.le_trans K66.1 (Nat.le_of_eq g67.symm)
    have K69 : Keep h h67 [] := K66.ext E67
    refine Go.dup (pc' := 78) at_77 rfl rfl ?_
    refine Go.callC (cells' := 4) (slots' := 12) (pc' := 81) [] [(.ref b67)] (a := b67) rfl rfl (hw _ (List.mem_of_getElem? (i := 8) rfl)) (hw _ (List.mem_of_getElem? (i := 9) rfl)) (hw _ (List.mem_of_getElem? (i := 7) rfl)) (hw _ (List.mem_of_getElem? (i := 10) rfl)) (by decide) (c_init l Z a0 hw h67 b67 wc kc vsc sc vc ge67 A67 ((D67 (Or.inr (hw _ (List.mem_of_getElem? (i := 18) rfl))) (ty := (.array .long)) (by decide) : Fld Z h67 b67 "com/example/illumine/illumine/RenderStats" "counts" "[J" .null))) pd_1 rfl rfl rfl rfl rfl (Nat.le_of_ble_eq_true rfl) (Nat.le_of_ble_eq_true rfl) (Nat.le_of_ble_eq_true rfl) (Nat.le_of_ble_eq_true rfl) at_78 rfl ?_
    rintro _ h70 ⟨b_70, kb_70, rfl, K70, ge_b_70, sz_b_70, F70_0, F70_1⟩
    have sz71 : h.size ≤ b_70 := Nat.le_trans K69.1 sz_b_70
    have K72 : Keep h h70 [] := K69.trans K70 (allS (Or.inr sz68) all0)
    show Go _ _ _ _ _ _ _ _ _ _ _ _ 81 #[.val (.long p0), .second, .val (.long p1), .second, .val (.long p2), .second, .val (.long p3), .second, .val (.long p4), .second, .val (.long p5), .second, .val (.int (1 : Int32)), .val (.ref w1), .val (.ref b61), .unset, .unset, .unset, .unset, .unset, .unset, .unset, .unset, .unset, .unset, .unset] [(.ref b67)]
    refine Go.astore (pc' := 83) (Ls' := #[.val (.long p0), .second, .val (.long p1), .second, .val (.long p2), .second, .val (.long p3), .second, .val (.long p4), .second, .val (.long p5), .second, .val (.int (1 : Int32)), .val (.ref w1), .val (.ref b61), .val (.ref b67), .unset, .unset, .unset, .unset, .unset, .unset, .unset, .unset, .unset, .unset]) at_81 rfl rfl rfl ?_
    refine Go.aload (pc' := 85) at_83 rfl rfl rfl ?_
    refine Go.aload (pc' := 87) at_85 rfl rfl rfl ?_
    refine Go.lload (pc' := 89) at_87 rfl rfl ?_
    have ne73 : b61 ≠ b67 := (Nat.ne_of_lt (Nat.lt_of_lt_of_le F64_0.lt (Nat.le_of_eq g67.symm)))
    have f74 : Fld Z h70 b61 "com/example/illumine/illumine/RenderStats" "counts" "[J" (.ref b_64) := ((F64_0.ext E67).keep K70 (ninS ne73 nin0))
    have ne75 : b_64 ≠ b67 := (Nat.ne_of_lt (Nat.lt_of_lt_of_le F64_1.lt (Nat.le_of_eq g67.symm)))
    have f76 : Arv Z h70 b_64 kb_64 .long (5 : Int32) [(.long 0), (.long 0), (.long 0), (.long 0), (.long 0)] (.long 0) := ((F64_1.ext E67).keep K70 (ninS ne75 nin0))
    refine Go.callV (cells' := 4) (slots' := 12) (pc' := 92) [(.ref w1), (.long p5)] [] (((A61.keep K64).ext E67).keep K70) (hw _ (List.mem_of_getElem? (i := 19) rfl)) (hw _ (List.mem_of_getElem? (i := 20) rfl)) (fun s' hs' => notFace_of_selects (args := #[]) (mvT hs' (hw _ (List.mem_of_getElem? (i := 22) rfl)))) (hw _ (List.mem_of_getElem? (i := 22) rfl)) (hw _ (List.mem_of_getElem? (i := 21) rfl)) (hw _ (List.mem_of_getElem? (i := 7) rfl)) (hw _ (List.mem_of_getElem? (i := 23) rfl)) (by decide) (c_count1 l Z a0 hw h70 b61 w1 p5 b_64 kb_64 (0 : Int64) (0 : Int64) (0 : Int64) (0 : Int64) (0 : Int64) x1 o1 ge_b_64 f74 f76) pd_2 rfl rfl rfl rfl rfl (Nat.le_of_ble_eq_true rfl) (Nat.le_of_ble_eq_true rfl) (Nat.le_of_ble_eq_true rfl) (Nat.le_of_ble_eq_true rfl) at_89 rfl ?_
    rintro _ h77 ⟨rfl, K77, F77_0⟩
    have K78 : Keep h h77 [] := K72.trans K77 (allS (Or.inr sz65) all0)
    show Go _ _ _ _ _ _ _ _ _ _ _ _ 92 #[.val (.long p0), .second, .val (.long p1), .second, .val (.long p2), .second, .val (.long p3), .second, .val (.long p4), .second, .val (.long p5), .second, .val (.int (1 : Int32)), .val (.ref w1), .val (.ref b61), .val (.ref b67), .unset, .unset, .unset, .unset, .unset, .unset, .unset, .unset, .unset, .unset] []
    refine Go.aload (pc' := 94) at_92 rfl rfl rfl ?_
    refine Go.old (fun old79 => ?_)
    refine Go.getstatic (pc' := 97) (host := "") (Or.inl (hw _ (List.mem_of_getElem? (i := 33) rfl))) Via.refl (s0.ext old79.2) at_94 rfl ?_
    refine Go.lloadN (pc' := 98) at_97 rfl rfl ?_
    have f80 : Fld Z h77 b67 "com/example/illumine/illumine/RenderStats" "counts" "[J" (.ref b_70) := (F70_0.keep K77 (ninS (Ne.symm ne75) nin0))
    have ne81 : b_64 ≠ b_70 := (Nat.ne_of_lt (Nat.lt_of_lt_of_le (F64_1.ext E67).lt sz_b_70))
    have f82 : Arv Z h77 b_70 kb_70 .long (5 : Int32) [(.long 0), (.long 0), (.long 0), (.long 0), (.long 0)] (.long 0) := (F70_1.keep K77 (ninS (Ne.symm ne81) nin0))
    refine Go.callV (cells' := 4) (slots' := 12) (pc' := 101) [(.ref w0), (.long p0)] [] ((A67.keep K70).keep K77) (hw _ (List.mem_of_getElem? (i := 19) rfl)) (hw _ (List.mem_of_getElem? (i := 20) rfl)) (fun s' hs' => notFace_of_selects (args := #[]) (mvT hs' (hw _ (List.mem_of_getElem? (i := 22) rfl)))) (hw _ (List.mem_of_getElem? (i := 22) rfl)) (hw _ (List.mem_of_getElem? (i := 21) rfl)) (hw _ (List.mem_of_getElem? (i := 7) rfl)) (hw _ (List.mem_of_getElem? (i := 23) rfl)) (by decide) (c_count0 l Z a0 hw h77 b67 w0 p0 b_70 kb_70 (0 : Int64) (0 : Int64) (0 : Int64) (0 : Int64) (0 : Int64) x0 o0 ge_b_70 f80 f82) pd_2 rfl rfl rfl rfl rfl (Nat.le_of_ble_eq_true rfl) (Nat.le_of_ble_eq_true rfl) (Nat.le_of_ble_eq_true rfl) (Nat.le_of_ble_eq_true rfl) at_98 rfl ?_
    rintro _ h83 ⟨rfl, K83, F83_0⟩
    have K84 : Keep h h83 [] := K78.trans K83 (allS (Or.inr sz71) all0)
    show Go _ _ _ _ _ _ _ _ _ _ _ _ 101 #[.val (.long p0), .second, .val (.long p1), .second, .val (.long p2), .second, .val (.long p3), .second, .val (.long p4), .second, .val (.long p5), .second, .val (.int (1 : Int32)), .val (.ref w1), .val (.ref b61), .val (.ref b67), .unset, .unset, .unset, .unset, .unset, .unset, .unset, .unset, .unset, .unset] []
    refine Go.aload (pc' := 103) at_101 rfl rfl rfl ?_
    refine Go.old (fun old85 => ?_)
    refine Go.getstatic (pc' := 106) (host := "") (Or.inl (hw _ (List.mem_of_getElem? (i := 35) rfl))) Via.refl (s1.ext old85.2) at_103 rfl ?_
    refine Go.lloadN (pc' := 107) at_106 rfl rfl ?_
    have ne86 : b67 ≠ b_70 := (Nat.ne_of_lt (Nat.lt_of_lt_of_le A67.lt sz_b_70))
    refine Go.callV (cells' := 4) (slots' := 12) (pc' := 110) [(.ref w1), (.long p1)] [] (((A67.keep K70).keep K77).keep K83) (hw _ (List.mem_of_getElem? (i := 19) rfl)) (hw _ (List.mem_of_getElem? (i := 20) rfl)) (fun s' hs' => notFace_of_selects (args := #[]) (mvT hs' (hw _ (List.mem_of_getElem? (i := 22) rfl)))) (hw _ (List.mem_of_getElem? (i := 22) rfl)) (hw _ (List.mem_of_getElem? (i := 21) rfl)) (hw _ (List.mem_of_getElem? (i := 7) rfl)) (hw _ (List.mem_of_getElem? (i := 23) rfl)) (by decide) (c_count1 l Z a0 hw h83 b67 w1 p1 b_70 kb_70 (((0 : Int64) + p0)) (0 : Int64) (0 : Int64) (0 : Int64) (0 : Int64) x1 o1 ge_b_70 ((f80.keep K83 (ninS ne86 nin0))) F83_0) pd_2 rfl rfl rfl rfl rfl (Nat.le_of_ble_eq_true rfl) (Nat.le_of_ble_eq_true rfl) (Nat.le_of_ble_eq_true rfl) (Nat.le_of_ble_eq_true rfl) at_107 rfl ?_
    rintro _ h87 ⟨rfl, K87, F87_0⟩
    have K88 : Keep h h87 [] := K84.trans K87 (allS (Or.inr sz71) all0)
    show Go _ _ _ _ _ _ _ _ _ _ _ _ 110 #[.val (.long p0), .second, .val (.long p1), .second, .val (.long p2), .second, .val (.long p3), .second, .val (.long p4), .second, .val (.long p5), .second, .val (.int (1 : Int32)), .val (.ref w1), .val (.ref b61), .val (.ref b67), .unset, .unset, .unset, .unset, .unset, .unset, .unset, .unset, .unset, .unset] []
    refine Go.aload (pc' := 112) at_110 rfl rfl rfl ?_
    refine Go.old (fun old89 => ?_)
    refine Go.getstatic (pc' := 115) (host := "") (Or.inl (hw _ (List.mem_of_getElem? (i := 2) rfl))) Via.refl (s2.ext old89.2) at_112 rfl ?_
    refine Go.lload (pc' := 117) at_115 rfl rfl ?_
    have f90 : Fld Z h87 b67 "com/example/illumine/illumine/RenderStats" "counts" "[J" (.ref b_70) := ((f80.keep K83 (ninS ne86 nin0)).keep K87 (ninS ne86 nin0))
    have f91 : Exa Z h87 b67 "com/example/illumine/illumine/RenderStats" := ((((A67.keep K70).keep K77).keep K83).keep K87)
    refine Go.callV (cells' := 4) (slots' := 12) (pc' := 120) [(.ref w2), (.long p2)] [] f91 (hw _ (List.mem_of_getElem? (i := 19) rfl)) (hw _ (List.mem_of_getElem? (i := 20) rfl)) (fun s' hs' => notFace_of_selects (args := #[]) (mvT hs' (hw _ (List.mem_of_getElem? (i := 22) rfl)))) (hw _ (List.mem_of_getElem? (i := 22) rfl)) (hw _ (List.mem_of_getElem? (i := 21) rfl)) (hw _ (List.mem_of_getElem? (i := 7) rfl)) (hw _ (List.mem_of_getElem? (i := 23) rfl)) (by decide) (c_count2 l Z a0 hw h87 b67 w2 p2 b_70 kb_70 (((0 : Int64) + p0)) (((0 : Int64) + p1)) (0 : Int64) (0 : Int64) (0 : Int64) x2 o2 ge_b_70 f90 F87_0) pd_2 rfl rfl rfl rfl rfl (Nat.le_of_ble_eq_true rfl) (Nat.le_of_ble_eq_true rfl) (Nat.le_of_ble_eq_true rfl) (Nat.le_of_ble_eq_true rfl) at_117 rfl ?_
    rintro _ h92 ⟨rfl, K92, F92_0⟩
    have K93 : Keep h h92 [] := K88.trans K92 (allS (Or.inr sz71) all0)
    show Go _ _ _ _ _ _ _ _ _ _ _ _ 120 #[.val (.long p0), .second, .val (.long p1), .second, .val (.long p2), .second, .val (.long p3), .second, .val (.long p4), .second, .val (.long p5), .second, .val (.int (1 : Int32)), .val (.ref w1), .val (.ref b61), .val (.ref b67), .unset, .unset, .unset, .unset, .unset, .unset, .unset, .unset, .unset, .unset] []
    refine Go.aload (pc' := 122) at_120 rfl rfl rfl ?_
    refine Go.old (fun old94 => ?_)
    refine Go.getstatic (pc' := 125) (host := "") (Or.inl (hw _ (List.mem_of_getElem? (i := 37) rfl))) Via.refl (s3.ext old94.2) at_122 rfl ?_
    refine Go.lload (pc' := 127) at_125 rfl rfl ?_
    refine Go.callV (cells' := 4) (slots' := 12) (pc' := 130) [(.ref w3), (.long p3)] [] (f91.keep K92) (hw _ (List.mem_of_getElem? (i := 19) rfl)) (hw _ (List.mem_of_getElem? (i := 20) rfl)) (fun s' hs' => notFace_of_selects (args := #[]) (mvT hs' (hw _ (List.mem_of_getElem? (i := 22) rfl)))) (hw _ (List.mem_of_getElem? (i := 22) rfl)) (hw _ (List.mem_of_getElem? (i := 21) rfl)) (hw _ (List.mem_of_getElem? (i := 7) rfl)) (hw _ (List.mem_of_getElem? (i := 23) rfl)) (by decide) (c_count3 l Z a0 hw h92 b67 w3 p3 b_70 kb_70 (((0 : Int64) + p0)) (((0 : Int64) + p1)) (((0 : Int64) + p2)) (0 : Int64) (0 : Int64) x3 o3 ge_b_70 ((f90.keep K92 (ninS ne86 nin0))) F92_0) pd_2 rfl rfl rfl rfl rfl (Nat.le_of_ble_eq_true rfl) (Nat.le_of_ble_eq_true rfl) (Nat.le_of_ble_eq_true rfl) (Nat.le_of_ble_eq_true rfl) at_127 rfl ?_
    rintro _ h95 ⟨rfl, K95, F95_0⟩
    have K96 : Keep h h95 [] := K93.trans K95 (allS (Or.inr sz71) all0)
    show Go _ _ _ _ _ _ _ _ _ _ _ _ 130 #[.val (.long p0), .second, .val (.long p1), .second, .val (.long p2), .second, .val (.long p3), .second, .val (.long p4), .second, .val (.long p5), .second, .val (.int (1 : Int32)), .val (.ref w1), .val (.ref b61), .val (.ref b67), .unset, .unset, .unset, .unset, .unset, .unset, .unset, .unset, .unset, .unset] []
    refine Go.aload (pc' := 132) at_130 rfl rfl rfl ?_
    refine Go.old (fun old97 => ?_)
    refine Go.getstatic (pc' := 135) (host := "") (Or.inl (hw _ (List.mem_of_getElem? (i := 39) rfl))) Via.refl (s4.ext old97.2) at_132 rfl ?_
    refine Go.lload (pc' := 137) at_135 rfl rfl ?_
    have f98 : Fld Z h95 b67 "com/example/illumine/illumine/RenderStats" "counts" "[J" (.ref b_70) := ((f90.keep K92 (ninS ne86 nin0)).keep K95 (ninS ne86 nin0))
    refine Go.callV (cells' := 4) (slots' := 12) (pc' := 140) [(.ref w4), (.long p4)] [] ((f91.keep K92).keep K95) (hw _ (List.mem_of_getElem? (i := 19) rfl)) (hw _ (List.mem_of_getElem? (i := 20) rfl)) (fun s' hs' => notFace_of_selects (args := #[]) (mvT hs' (hw _ (List.mem_of_getElem? (i := 22) rfl)))) (hw _ (List.mem_of_getElem? (i := 22) rfl)) (hw _ (List.mem_of_getElem? (i := 21) rfl)) (hw _ (List.mem_of_getElem? (i := 7) rfl)) (hw _ (List.mem_of_getElem? (i := 23) rfl)) (by decide) (c_count4 l Z a0 hw h95 b67 w4 p4 b_70 kb_70 (((0 : Int64) + p0)) (((0 : Int64) + p1)) (((0 : Int64) + p2)) (((0 : Int64) + p3)) (0 : Int64) x4 o4 ge_b_70 f98 F95_0) pd_2 rfl rfl rfl rfl rfl (Nat.le_of_ble_eq_true rfl) (Nat.le_of_ble_eq_true rfl) (Nat.le_of_ble_eq_true rfl) (Nat.le_of_ble_eq_true rfl) at_137 rfl ?_
    rintro _ h99 ⟨rfl, K99, F99_0⟩
    have K100 : Keep h h99 [] := K96.trans K99 (allS (Or.inr sz71) all0)
    show Go _ _ _ _ _ _ _ _ _ _ _ _ 140 #[.val (.long p0), .second, .val (.long p1), .second, .val (.long p2), .second, .val (.long p3), .second, .val (.long p4), .second, .val (.long p5), .second, .val (.int (1 : Int32)), .val (.ref w1), .val (.ref b61), .val (.ref b67), .unset, .unset, .unset, .unset, .unset, .unset, .unset, .unset, .unset, .unset] []
    refine Go.aload (pc' := 142) at_140 rfl rfl rfl ?_
    refine Go.aload (pc' := 144) at_142 rfl rfl rfl ?_
    have ne101 : b61 ≠ b_64 := (Nat.ne_of_lt (Nat.lt_of_lt_of_le A61.lt sz_b_64))
    have ne102 : b61 ≠ b_70 := (Nat.ne_of_lt (Nat.lt_of_lt_of_le ((A61.keep K64).ext E67).lt sz_b_70))
    have f103 : Fld Z h99 b61 "com/example/illumine/illumine/RenderStats" "counts" "[J" (.ref b_64) := ((((((f74.keep K77 (ninS ne101 nin0)).keep K83 (ninS ne102 nin0)).keep K87 (ninS ne102 nin0)).keep K92 (ninS ne102 nin0)).keep K95 (ninS ne102 nin0)).keep K99 (ninS ne102 nin0))
    have f104 : Arv Z h99 b_64 kb_64 .long (5 : Int32) [(.long (0 : Int64)), (.long ((0 : Int64) + p5)), (.long (0 : Int64)), (.long (0 : Int64)), (.long (0 : Int64))] (.long 0) := (((((F77_0.keep K83 (ninS ne81 nin0)).keep K87 (ninS ne81 nin0)).keep K92 (ninS ne81 nin0)).keep K95 (ninS ne81 nin0)).keep K99 (ninS ne81 nin0))
    have f105 : Exa Z h99 b61 "com/example/illumine/illumine/RenderStats" := (((((((((A61.keep K64).ext E67).keep K70).keep K77).keep K83).keep K87).keep K92).keep K95).keep K99)
    refine Go.callV (cells' := 4) (slots' := 12) (pc' := 147) [(.ref b67)] [] f105 (hw _ (List.mem_of_getElem? (i := 41) rfl)) (hw _ (List.mem_of_getElem? (i := 42) rfl)) (fun s' hs' => notFace_of_selects (args := #[]) (mvT hs' (hw _ (List.mem_of_getElem? (i := 44) rfl)))) (hw _ (List.mem_of_getElem? (i := 44) rfl)) (hw _ (List.mem_of_getElem? (i := 43) rfl)) (hw _ (List.mem_of_getElem? (i := 7) rfl)) (hw _ (List.mem_of_getElem? (i := 45) rfl)) (by decide) (c_add l Z a0 hw h99 b61 b67 b_64 kb_64 b_70 kb_70 (0 : Int64) (((0 : Int64) + p5)) (0 : Int64) (0 : Int64) (0 : Int64) (((0 : Int64) + p0)) (((0 : Int64) + p1)) (((0 : Int64) + p2)) (((0 : Int64) + p3)) (((0 : Int64) + p4)) ge_b_64 ne101 (Ne.symm ne75) (Ne.symm ne81) f103 ((f98.keep K99 (ninS ne86 nin0))) f104 F99_0) pd_3 rfl rfl rfl rfl rfl (Nat.le_of_ble_eq_true rfl) (Nat.le_of_ble_eq_true rfl) (Nat.le_of_ble_eq_true rfl) (Nat.le_of_ble_eq_true rfl) at_144 rfl ?_
    rintro _ h106 ⟨rfl, K106, F106_0⟩
    have K107 : Keep h h106 [] := K100.trans K106 (allS (Or.inr sz65) all0)
    show Go _ _ _ _ _ _ _ _ _ _ _ _ 147 #[.val (.long p0), .second, .val (.long p1), .second, .val (.long p2), .second, .val (.long p3), .second, .val (.long p4), .second, .val (.long p5), .second, .val (.int (1 : Int32)), .val (.ref w1), .val (.ref b61), .val (.ref b67), .unset, .unset, .unset, .unset, .unset, .unset, .unset, .unset, .unset, .unset] []
    refine Go.lloadN (pc' := 148) at_147 rfl rfl ?_
    refine Go.iload (pc' := 150) at_148 rfl rfl ?_
    refine Go.ifYes (pc' := 158) at_150 (XT.i0_ne_t (by decide)) (by decide) (by decide) ?_
    refine Go.lconst (pc' := 159) (v := (0 : Int64)) at_158 rfl rfl ?_
    refine Go.ladd (pc' := 160) at_159 rfl ?_
    refine Go.lstore (pc' := 162) (Ls' := #[.val (.long p0), .second, .val (.long p1), .second, .val (.long p2), .second, .val (.long p3), .second, .val (.long p4), .second, .val (.long p5), .second, .val (.int (1 : Int32)), .val (.ref w1), .val (.ref b61), .val (.ref b67), .val (.long (p0 + (0 : Int64))), .second, .unset, .unset, .unset, .unset, .unset, .unset, .unset, .unset]) at_160 rfl rfl ?_
    refine Go.lloadN (pc' := 163) at_162 rfl rfl ?_
    refine Go.iload (pc' := 165) at_163 rfl rfl ?_
    refine Go.iconst (pc' := 166) (v := (1 : Int32)) at_165 rfl rfl ?_
    refine Go.icmpNo (pc' := 169) at_166 (XT.ii_ne_f (by decide)) rfl ?_
    refine Go.lload (pc' := 171) at_169 rfl rfl ?_
    refine Go.goto (pc' := 175) at_171 (by decide) (by decide) ?_
    refine Go.ladd (pc' := 176) at_175 rfl ?_
    refine Go.lstore (pc' := 178) (Ls' := #[.val (.long p0), .second, .val (.long p1), .second, .val (.long p2), .second, .val (.long p3), .second, .val (.long p4), .second, .val (.long p5), .second, .val (.int (1 : Int32)), .val (.ref w1), .val (.ref b61), .val (.ref b67), .val (.long (p0 + (0 : Int64))), .second, .val (.long (p1 + p5)), .second, .unset, .unset, .unset, .unset, .unset, .unset]) at_176 rfl rfl ?_
    refine Go.lload (pc' := 180) at_178 rfl rfl ?_
    refine Go.iload (pc' := 182) at_180 rfl rfl ?_
    refine Go.iconst (pc' := 183) (v := (2 : Int32)) at_182 rfl rfl ?_
    refine Go.icmpYes (pc' := 191) at_183 (XT.ii_ne_t (by decide)) (by decide) (by decide) ?_
    refine Go.lconst (pc' := 192) (v := (0 : Int64)) at_191 rfl rfl ?_
    refine Go.ladd (pc' := 193) at_192 rfl ?_
    refine Go.lstore (pc' := 195) (Ls' := #[.val (.long p0), .second, .val (.long p1), .second, .val (.long p2), .second, .val (.long p3), .second, .val (.long p4), .second, .val (.long p5), .second, .val (.int (1 : Int32)), .val (.ref w1), .val (.ref b61), .val (.ref b67), .val (.long (p0 + (0 : Int64))), .second, .val (.long (p1 + p5)), .second, .val (.long (p2 + (0 : Int64))), .second, .unset, .unset, .unset, .unset]) at_193 rfl rfl ?_
    refine Go.lload (pc' := 197) at_195 rfl rfl ?_
    refine Go.iload (pc' := 199) at_197 rfl rfl ?_
    refine Go.iconst (pc' := 200) (v := (3 : Int32)) at_199 rfl rfl ?_
    refine Go.icmpYes (pc' := 208) at_200 (XT.ii_ne_t (by decide)) (by decide) (by decide) ?_
    refine Go.lconst (pc' := 209) (v := (0 : Int64)) at_208 rfl rfl ?_
    refine Go.ladd (pc' := 210) at_209 rfl ?_
    refine Go.lstore (pc' := 212) (Ls' := #[.val (.long p0), .second, .val (.long p1), .second, .val (.long p2), .second, .val (.long p3), .second, .val (.long p4), .second, .val (.long p5), .second, .val (.int (1 : Int32)), .val (.ref w1), .val (.ref b61), .val (.ref b67), .val (.long (p0 + (0 : Int64))), .second, .val (.long (p1 + p5)), .second, .val (.long (p2 + (0 : Int64))), .second, .val (.long (p3 + (0 : Int64))), .second, .unset, .unset]) at_210 rfl rfl ?_
    refine Go.lload (pc' := 214) at_212 rfl rfl ?_
    refine Go.iload (pc' := 216) at_214 rfl rfl ?_
    refine Go.iconst (pc' := 217) (v := (4 : Int32)) at_216 rfl rfl ?_
    refine Go.icmpYes (pc' := 225) at_217 (XT.ii_ne_t (by decide)) (by decide) (by decide) ?_
    refine Go.lconst (pc' := 226) (v := (0 : Int64)) at_225 rfl rfl ?_
    refine Go.ladd (pc' := 227) at_226 rfl ?_
    refine Go.lstore (pc' := 229) (Ls' := #[.val (.long p0), .second, .val (.long p1), .second, .val (.long p2), .second, .val (.long p3), .second, .val (.long p4), .second, .val (.long p5), .second, .val (.int (1 : Int32)), .val (.ref w1), .val (.ref b61), .val (.ref b67), .val (.long (p0 + (0 : Int64))), .second, .val (.long (p1 + p5)), .second, .val (.long (p2 + (0 : Int64))), .second, .val (.long (p3 + (0 : Int64))), .second, .val (.long (p4 + (0 : Int64))), .second]) at_227 rfl rfl ?_
    refine Go.aload (pc' := 231) at_229 rfl rfl rfl ?_
    refine Go.callV (cells' := 4) (slots' := 12) (pc' := 234) [] [] (f105.keep K106) (hw _ (List.mem_of_getElem? (i := 46) rfl)) (hw _ (List.mem_of_getElem? (i := 47) rfl)) (fun s' hs' => notFace_of_selects (args := #[]) (mvT hs' (hw _ (List.mem_of_getElem? (i := 49) rfl)))) (hw _ (List.mem_of_getElem? (i := 49) rfl)) (hw _ (List.mem_of_getElem? (i := 48) rfl)) (hw _ (List.mem_of_getElem? (i := 7) rfl)) (hw _ (List.mem_of_getElem? (i := 50) rfl)) (by decide) (c_get0 l Z a0 hw h106 b61 w0 b_64 kb_64 (((0 : Int64) + ((0 : Int64) + p0))) ((((0 : Int64) + p5) + ((0 : Int64) + p1))) (((0 : Int64) + ((0 : Int64) + p2))) (((0 : Int64) + ((0 : Int64) + p3))) (((0 : Int64) + ((0 : Int64) + p4))) s0 x0 o0 ((f103.keep K106 (ninS ne101 nin0))) F106_0) pd_4 rfl rfl rfl rfl rfl (Nat.le_of_ble_eq_true rfl) (Nat.le_of_ble_eq_true rfl) (Nat.le_of_ble_eq_true rfl) (Nat.le_of_ble_eq_true rfl) at_231 rfl ?_
    rintro _ _ ⟨rfl, rfl⟩
    show Go _ _ _ _ _ _ _ _ _ _ _ _ 234 #[.val (.long p0), .second, .val (.long p1), .second, .val (.long p2), .second, .val (.long p3), .second, .val (.long p4), .second, .val (.long p5), .second, .val (.int (1 : Int32)), .val (.ref w1), .val (.ref b61), .val (.ref b67), .val (.long (p0 + (0 : Int64))), .second, .val (.long (p1 + p5)), .second, .val (.long (p2 + (0 : Int64))), .second, .val (.long (p3 + (0 : Int64))), .second, .val (.long (p4 + (0 : Int64))), .second] [(.long ((0 : Int64) + ((0 : Int64) + p0)))]
    refine Go.lload (pc' := 236) at_234 rfl rfl ?_
    refine Go.lcmp (pc' := 237) at_236 rfl ?_
    refine Go.ifNo (pc' := 240) at_237 (XT.ll_ne_f (by simp [Int64.add_comm] : ((0 : Int64) + ((0 : Int64) + p0)) = (p0 + (0 : Int64)))) rfl ?_
    refine Go.aload (pc' := 242) at_240 rfl rfl rfl ?_
    refine Go.callV (cells' := 4) (slots' := 12) (pc' := 245) [] [] (f105.keep K106) (hw _ (List.mem_of_getElem? (i := 52) rfl)) (hw _ (List.mem_of_getElem? (i := 53) rfl)) (fun s' hs' => notFace_of_selects (args := #[]) (mvT hs' (hw _ (List.mem_of_getElem? (i := 55) rfl)))) (hw _ (List.mem_of_getElem? (i := 55) rfl)) (hw _ (List.mem_of_getElem? (i := 54) rfl)) (hw _ (List.mem_of_getElem? (i := 7) rfl)) (hw _ (List.mem_of_getElem? (i := 56) rfl)) (by decide) (c_get1 l Z a0 hw h106 b61 w1 b_64 kb_64 (((0 : Int64) + ((0 : Int64) + p0))) ((((0 : Int64) + p5) + ((0 : Int64) + p1))) (((0 : Int64) + ((0 : Int64) + p2))) (((0 : Int64) + ((0 : Int64) + p3))) (((0 : Int64) + ((0 : Int64) + p4))) s1 x1 o1 ((f103.keep K106 (ninS ne101 nin0))) F106_0) pd_4 rfl rfl rfl rfl rfl (Nat.le_of_ble_eq_true rfl) (Nat.le_of_ble_eq_true rfl) (Nat.le_of_ble_eq_true rfl) (Nat.le_of_ble_eq_true rfl) at_242 rfl ?_
    rintro _ _ ⟨rfl, rfl⟩
    show Go _ _ _ _ _ _ _ _ _ _ _ _ 245 #[.val (.long p0), .second, .val (.long p1), .second, .val (.long p2), .second, .val (.long p3), .second, .val (.long p4), .second, .val (.long p5), .second, .val (.int (1 : Int32)), .val (.ref w1), .val (.ref b61), .val (.ref b67), .val (.long (p0 + (0 : Int64))), .second, .val (.long (p1 + p5)), .second, .val (.long (p2 + (0 : Int64))), .second, .val (.long (p3 + (0 : Int64))), .second, .val (.long (p4 + (0 : Int64))), .second] [(.long (((0 : Int64) + p5) + ((0 : Int64) + p1)))]
    refine Go.lload (pc' := 247) at_245 rfl rfl ?_
    refine Go.lcmp (pc' := 248) at_247 rfl ?_
    refine Go.ifNo (pc' := 251) at_248 (XT.ll_ne_f (by simp [Int64.add_comm] : (((0 : Int64) + p5) + ((0 : Int64) + p1)) = (p1 + p5))) rfl ?_
    refine Go.aload (pc' := 253) at_251 rfl rfl rfl ?_
    refine Go.callV (cells' := 4) (slots' := 12) (pc' := 256) [] [] (f105.keep K106) (hw _ (List.mem_of_getElem? (i := 58) rfl)) (hw _ (List.mem_of_getElem? (i := 59) rfl)) (fun s' hs' => notFace_of_selects (args := #[]) (mvT hs' (hw _ (List.mem_of_getElem? (i := 61) rfl)))) (hw _ (List.mem_of_getElem? (i := 61) rfl)) (hw _ (List.mem_of_getElem? (i := 60) rfl)) (hw _ (List.mem_of_getElem? (i := 7) rfl)) (hw _ (List.mem_of_getElem? (i := 62) rfl)) (by decide) (c_get2 l Z a0 hw h106 b61 w2 b_64 kb_64 (((0 : Int64) + ((0 : Int64) + p0))) ((((0 : Int64) + p5) + ((0 : Int64) + p1))) (((0 : Int64) + ((0 : Int64) + p2))) (((0 : Int64) + ((0 : Int64) + p3))) (((0 : Int64) + ((0 : Int64) + p4))) s2 x2 o2 ((f103.keep K106 (ninS ne101 nin0))) F106_0) pd_4 rfl rfl rfl rfl rfl (Nat.le_of_ble_eq_true rfl) (Nat.le_of_ble_eq_true rfl) (Nat.le_of_ble_eq_true rfl) (Nat.le_of_ble_eq_true rfl) at_253 rfl ?_
    rintro _ _ ⟨rfl, rfl⟩
    show Go _ _ _ _ _ _ _ _ _ _ _ _ 256 #[.val (.long p0), .second, .val (.long p1), .second, .val (.long p2), .second, .val (.long p3), .second, .val (.long p4), .second, .val (.long p5), .second, .val (.int (1 : Int32)), .val (.ref w1), .val (.ref b61), .val (.ref b67), .val (.long (p0 + (0 : Int64))), .second, .val (.long (p1 + p5)), .second, .val (.long (p2 + (0 : Int64))), .second, .val (.long (p3 + (0 : Int64))), .second, .val (.long (p4 + (0 : Int64))), .second] [(.long ((0 : Int64) + ((0 : Int64) + p2)))]
    refine Go.lload (pc' := 258) at_256 rfl rfl ?_
    refine Go.lcmp (pc' := 259) at_258 rfl ?_
    refine Go.ifNo (pc' := 262) at_259 (XT.ll_ne_f (by simp [Int64.add_comm] : ((0 : Int64) + ((0 : Int64) + p2)) = (p2 + (0 : Int64)))) rfl ?_
    refine Go.aload (pc' := 264) at_262 rfl rfl rfl ?_
    refine Go.callV (cells' := 4) (slots' := 12) (pc' := 267) [] [] (f105.keep K106) (hw _ (List.mem_of_getElem? (i := 64) rfl)) (hw _ (List.mem_of_getElem? (i := 65) rfl)) (fun s' hs' => notFace_of_selects (args := #[]) (mvT hs' (hw _ (List.mem_of_getElem? (i := 67) rfl)))) (hw _ (List.mem_of_getElem? (i := 67) rfl)) (hw _ (List.mem_of_getElem? (i := 66) rfl)) (hw _ (List.mem_of_getElem? (i := 7) rfl)) (hw _ (List.mem_of_getElem? (i := 68) rfl)) (by decide) (c_get3 l Z a0 hw h106 b61 w3 b_64 kb_64 (((0 : Int64) + ((0 : Int64) + p0))) ((((0 : Int64) + p5) + ((0 : Int64) + p1))) (((0 : Int64) + ((0 : Int64) + p2))) (((0 : Int64) + ((0 : Int64) + p3))) (((0 : Int64) + ((0 : Int64) + p4))) s3 x3 o3 ((f103.keep K106 (ninS ne101 nin0))) F106_0) pd_4 rfl rfl rfl rfl rfl (Nat.le_of_ble_eq_true rfl) (Nat.le_of_ble_eq_true rfl) (Nat.le_of_ble_eq_true rfl) (Nat.le_of_ble_eq_true rfl) at_264 rfl ?_
    rintro _ _ ⟨rfl, rfl⟩
    show Go _ _ _ _ _ _ _ _ _ _ _ _ 267 #[.val (.long p0), .second, .val (.long p1), .second, .val (.long p2), .second, .val (.long p3), .second, .val (.long p4), .second, .val (.long p5), .second, .val (.int (1 : Int32)), .val (.ref w1), .val (.ref b61), .val (.ref b67), .val (.long (p0 + (0 : Int64))), .second, .val (.long (p1 + p5)), .second, .val (.long (p2 + (0 : Int64))), .second, .val (.long (p3 + (0 : Int64))), .second, .val (.long (p4 + (0 : Int64))), .second] [(.long ((0 : Int64) + ((0 : Int64) + p3)))]
    refine Go.lload (pc' := 269) at_267 rfl rfl ?_
    refine Go.lcmp (pc' := 270) at_269 rfl ?_
    refine Go.ifNo (pc' := 273) at_270 (XT.ll_ne_f (by simp [Int64.add_comm] : ((0 : Int64) + ((0 : Int64) + p3)) = (p3 + (0 : Int64)))) rfl ?_
    refine Go.aload (pc' := 275) at_273 rfl rfl rfl ?_
    refine Go.callV (cells' := 4) (slots' := 12) (pc' := 278) [] [] (f105.keep K106) (hw _ (List.mem_of_getElem? (i := 70) rfl)) (hw _ (List.mem_of_getElem? (i := 71) rfl)) (fun s' hs' => notFace_of_selects (args := #[]) (mvT hs' (hw _ (List.mem_of_getElem? (i := 73) rfl)))) (hw _ (List.mem_of_getElem? (i := 73) rfl)) (hw _ (List.mem_of_getElem? (i := 72) rfl)) (hw _ (List.mem_of_getElem? (i := 7) rfl)) (hw _ (List.mem_of_getElem? (i := 74) rfl)) (by decide) (c_get4 l Z a0 hw h106 b61 w4 b_64 kb_64 (((0 : Int64) + ((0 : Int64) + p0))) ((((0 : Int64) + p5) + ((0 : Int64) + p1))) (((0 : Int64) + ((0 : Int64) + p2))) (((0 : Int64) + ((0 : Int64) + p3))) (((0 : Int64) + ((0 : Int64) + p4))) s4 x4 o4 ((f103.keep K106 (ninS ne101 nin0))) F106_0) pd_4 rfl rfl rfl rfl rfl (Nat.le_of_ble_eq_true rfl) (Nat.le_of_ble_eq_true rfl) (Nat.le_of_ble_eq_true rfl) (Nat.le_of_ble_eq_true rfl) at_275 rfl ?_
    rintro _ _ ⟨rfl, rfl⟩
    show Go _ _ _ _ _ _ _ _ _ _ _ _ 278 #[.val (.long p0), .second, .val (.long p1), .second, .val (.long p2), .second, .val (.long p3), .second, .val (.long p4), .second, .val (.long p5), .second, .val (.int (1 : Int32)), .val (.ref w1), .val (.ref b61), .val (.ref b67), .val (.long (p0 + (0 : Int64))), .second, .val (.long (p1 + p5)), .second, .val (.long (p2 + (0 : Int64))), .second, .val (.long (p3 + (0 : Int64))), .second, .val (.long (p4 + (0 : Int64))), .second] [(.long ((0 : Int64) + ((0 : Int64) + p4)))]
    refine Go.lload (pc' := 280) at_278 rfl rfl ?_
    refine Go.lcmp (pc' := 281) at_280 rfl ?_
    refine Go.ifNo (pc' := 284) at_281 (XT.ll_ne_f (by simp [Int64.add_comm] : ((0 : Int64) + ((0 : Int64) + p4)) = (p4 + (0 : Int64)))) rfl ?_
    refine Go.aload (pc' := 286) at_284 rfl rfl rfl ?_
    have f113 : Fld Z h106 b67 "com/example/illumine/illumine/RenderStats" "counts" "[J" (.ref b_70) := ((f98.keep K99 (ninS ne86 nin0)).keep K106 (ninS (Ne.symm ne75) nin0))
    have f114 : Arv Z h106 b_70 kb_70 .long (5 : Int32) [(.long ((0 : Int64) + p0)), (.long ((0 : Int64) + p1)), (.long ((0 : Int64) + p2)), (.long ((0 : Int64) + p3)), (.long ((0 : Int64) + p4))] (.long 0) := (F99_0.keep K106 (ninS (Ne.symm ne81) nin0))
    have f115 : Exa Z h106 b67 "com/example/illumine/illumine/RenderStats" := ((((f91.keep K92).keep K95).keep K99).keep K106)
    refine Go.callV (cells' := 4) (slots' := 12) (pc' := 289) [] [] f115 (hw _ (List.mem_of_getElem? (i := 46) rfl)) (hw _ (List.mem_of_getElem? (i := 47) rfl)) (fun s' hs' => notFace_of_selects (args := #[]) (mvT hs' (hw _ (List.mem_of_getElem? (i := 49) rfl)))) (hw _ (List.mem_of_getElem? (i := 49) rfl)) (hw _ (List.mem_of_getElem? (i := 48) rfl)) (hw _ (List.mem_of_getElem? (i := 7) rfl)) (hw _ (List.mem_of_getElem? (i := 50) rfl)) (by decide) (c_get0 l Z a0 hw h106 b67 w0 b_70 kb_70 (((0 : Int64) + p0)) (((0 : Int64) + p1)) (((0 : Int64) + p2)) (((0 : Int64) + p3)) (((0 : Int64) + p4)) s0 x0 o0 f113 f114) pd_4 rfl rfl rfl rfl rfl (Nat.le_of_ble_eq_true rfl) (Nat.le_of_ble_eq_true rfl) (Nat.le_of_ble_eq_true rfl) (Nat.le_of_ble_eq_true rfl) at_286 rfl ?_
    rintro _ _ ⟨rfl, rfl⟩
    show Go _ _ _ _ _ _ _ _ _ _ _ _ 289 #[.val (.long p0), .second, .val (.long p1), .second, .val (.long p2), .second, .val (.long p3), .second, .val (.long p4), .second, .val (.long p5), .second, .val (.int (1 : Int32)), .val (.ref w1), .val (.ref b61), .val (.ref b67), .val (.long (p0 + (0 : Int64))), .second, .val (.long (p1 + p5)), .second, .val (.long (p2 + (0 : Int64))), .second, .val (.long (p3 + (0 : Int64))), .second, .val (.long (p4 + (0 : Int64))), .second] [(.long ((0 : Int64) + p0))]
    refine Go.lloadN (pc' := 290) at_289 rfl rfl ?_
    refine Go.lcmp (pc' := 291) at_290 rfl ?_
    refine Go.ifNo (pc' := 294) at_291 (XT.ll_ne_f (by simp [Int64.add_comm] : ((0 : Int64) + p0) = p0)) rfl ?_
    refine Go.aload (pc' := 296) at_294 rfl rfl rfl ?_
    refine Go.callV (cells' := 4) (slots' := 12) (pc' := 299) [] [] f115 (hw _ (List.mem_of_getElem? (i := 70) rfl)) (hw _ (List.mem_of_getElem? (i := 71) rfl)) (fun s' hs' => notFace_of_selects (args := #[]) (mvT hs' (hw _ (List.mem_of_getElem? (i := 73) rfl)))) (hw _ (List.mem_of_getElem? (i := 73) rfl)) (hw _ (List.mem_of_getElem? (i := 72) rfl)) (hw _ (List.mem_of_getElem? (i := 7) rfl)) (hw _ (List.mem_of_getElem? (i := 74) rfl)) (by decide) (c_get4 l Z a0 hw h106 b67 w4 b_70 kb_70 (((0 : Int64) + p0)) (((0 : Int64) + p1)) (((0 : Int64) + p2)) (((0 : Int64) + p3)) (((0 : Int64) + p4)) s4 x4 o4 f113 f114) pd_4 rfl rfl rfl rfl rfl (Nat.le_of_ble_eq_true rfl) (Nat.le_of_ble_eq_true rfl) (Nat.le_of_ble_eq_true rfl) (Nat.le_of_ble_eq_true rfl) at_296 rfl ?_
    rintro _ _ ⟨rfl, rfl⟩
    show Go _ _ _ _ _ _ _ _ _ _ _ _ 299 #[.val (.long p0), .second, .val (.long p1), .second, .val (.long p2), .second, .val (.long p3), .second, .val (.long p4), .second, .val (.long p5), .second, .val (.int (1 : Int32)), .val (.ref w1), .val (.ref b61), .val (.ref b67), .val (.long (p0 + (0 : Int64))), .second, .val (.long (p1 + p5)), .second, .val (.long (p2 + (0 : Int64))), .second, .val (.long (p3 + (0 : Int64))), .second, .val (.long (p4 + (0 : Int64))), .second] [(.long ((0 : Int64) + p4))]
    refine Go.lload (pc' := 301) at_299 rfl rfl ?_
    refine Go.lcmp (pc' := 302) at_301 rfl ?_
    refine Go.ifNo (pc' := 305) at_302 (XT.ll_ne_f (by simp [Int64.add_comm] : ((0 : Int64) + p4) = p4)) rfl ?_
    refine Go.iconst (pc' := 306) (v := (1 : Int32)) at_305 rfl rfl ?_
    refine Go.goto (pc' := 310) at_306 (by decide) (by decide) ?_
    exact Go.retN (t := .boolean) rfl (by simp) at_310 ⟨rfl, K107⟩ (by decide) (by decide)
  ·
    rw [hk1]
    refine Go.iload (pc' := 15) at_13 rfl rfl ?_
    refine Go.ifYes (pc' := 24) at_15 (XT.i0_ne_t (by decide)) (by decide) (by decide) ?_
    refine Go.iload (pc' := 26) at_24 rfl rfl ?_
    refine Go.iconst (pc' := 27) (v := (1 : Int32)) at_26 rfl rfl ?_
    refine Go.icmpYes (pc' := 36) at_27 (XT.ii_ne_t (by decide)) (by decide) (by decide) ?_
    refine Go.iload (pc' := 38) at_36 rfl rfl ?_
    refine Go.iconst (pc' := 39) (v := (2 : Int32)) at_38 rfl rfl ?_
    refine Go.icmpNo (pc' := 42) at_39 (XT.ii_ne_f (by decide)) rfl ?_
    refine Go.old (fun old118 => ?_)
    refine Go.getstatic (pc' := 45) (host := "") (Or.inl (hw _ (List.mem_of_getElem? (i := 2) rfl))) Via.refl (s2.ext old118.2) at_42 rfl ?_
    refine Go.goto (pc' := 63) at_45 (by decide) (by decide) ?_
    refine Go.astore (pc' := 65) (Ls' := #[.val (.long p0), .second, .val (.long p1), .second, .val (.long p2), .second, .val (.long p3), .second, .val (.long p4), .second, .val (.long p5), .second, .val (.int (2 : Int32)), .val (.ref w2), .unset, .unset, .unset, .unset, .unset, .unset, .unset, .unset, .unset, .unset, .unset, .unset]) at_63 rfl rfl rfl ?_
    refine Go.new (pc' := 68) (cells' := 1) (slots' := 1) (hw _ (List.mem_of_getElem? (i := 5) rfl)) (hw _ (List.mem_of_getElem? (i := 6) rfl)) (hw _ (List.mem_of_getElem? (i := 7) rfl)) at_65 rfl rfl (by decide) (by decide) rfl ?_
    intro h119 b119 g119 E119 ge119 A119 D119
    have sz120 : h.size ≤ b119 := Nat.le_trans (Keep.refl h []).1 (Nat.le_of_eq g119.symm)
    have K121 : Keep h h119 [] := (Keep.refl h []).ext E119
    refine Go.dup (pc' := 69) at_68 rfl rfl ?_
    refine Go.callC (cells' := 2) (slots' := 6) (pc' := 72) [] [(.ref b119)] (a := b119) rfl rfl (hw _ (List.mem_of_getElem? (i := 8) rfl)) (hw _ (List.mem_of_getElem? (i := 9) rfl)) (hw _ (List.mem_of_getElem? (i := 7) rfl)) (hw _ (List.mem_of_getElem? (i := 10) rfl)) (by decide) (c_init l Z a0 hw h119 b119 wc kc vsc sc vc ge119 A119 ((D119 (Or.inr (hw _ (List.mem_of_getElem? (i := 18) rfl))) (ty := (.array .long)) (by decide) : Fld Z h119 b119 "com/example/illumine/illumine/RenderStats" "counts" "[J" .null))) pd_1 rfl rfl rfl rfl rfl (Nat.le_of_ble_eq_true rfl) (Nat.le_of_ble_eq_true rfl) (Nat.le_of_ble_eq_true rfl) (Nat.le_of_ble_eq_true rfl) at_69 rfl ?_
    rintro _ h122 ⟨b_122, kb_122, rfl, K122, ge_b_122, sz_b_122, F122_0, F122_1⟩
    have sz123 : h.size ≤ b_122 := Nat.le_trans K121.1 sz_b_122
    have K124 : Keep h h122 [] := K121.trans K122 (allS (Or.inr sz120) all0)
    show Go _ _ _ _ _ _ _ _ _ _ _ _ 72 #[.val (.long p0), .second, .val (.long p1), .second, .val (.long p2), .second, .val (.long p3), .second, .val (.long p4), .second, .val (.long p5), .second, .val (.int (2 : Int32)), .val (.ref w2), .unset, .unset, .unset, .unset, .unset, .unset, .unset, .unset, .unset, .unset, .unset, .unset] [(.ref b119)]
    refine Go.astore (pc' := 74) (Ls' := #[.val (.long p0), .second, .val (.long p1), .second, .val (.long p2), .second, .val (.long p3), .second, .val (.long p4), .second, .val (.long p5), .second, .val (.int (2 : Int32)), .val (.ref w2), .val (.ref b119), .unset, .unset, .unset, .unset, .unset, .unset, .unset, .unset, .unset, .unset, .unset]) at_72 rfl rfl rfl ?_
    refine Go.new (pc' := 77) (cells' := 3) (slots' := 7) (hw _ (List.mem_of_getElem? (i := 5) rfl)) (hw _ (List.mem_of_getElem? (i := 6) rfl)) (hw _ (List.mem_of_getElem? (i := 7) rfl)) at_74 rfl rfl (by decide) (by decide) rfl ?_
    intro h125 b125 g125 E125 ge125 A125 D125
    have sz126 : h.size ≤ b125 := Nat.le_trans K124.1 (Nat.le_of_eq g125.symm)
    have K127 : Keep h h125 [] := K124.ext E125
    refine Go.dup (pc' := 78) at_77 rfl rfl ?_
    refine Go.callC (cells' := 4) (slots' := 12) (pc' := 81) [] [(.ref b125)] (a := b125) rfl rfl (hw _ (List.mem_of_getElem? (i := 8) rfl)) (hw _ (List.mem_of_getElem? (i := 9) rfl)) (hw _ (List.mem_of_getElem? (i := 7) rfl)) (hw _ (List.mem_of_getElem? (i := 10) rfl)) (by decide) (c_init l Z a0 hw h125 b125 wc kc vsc sc vc ge125 A125 ((D125 (Or.inr (hw _ (List.mem_of_getElem? (i := 18) rfl))) (ty := (.array .long)) (by decide) : Fld Z h125 b125 "com/example/illumine/illumine/RenderStats" "counts" "[J" .null))) pd_1 rfl rfl rfl rfl rfl (Nat.le_of_ble_eq_true rfl) (Nat.le_of_ble_eq_true rfl) (Nat.le_of_ble_eq_true rfl) (Nat.le_of_ble_eq_true rfl) at_78 rfl ?_
    rintro _ h128 ⟨b_128, kb_128, rfl, K128, ge_b_128, sz_b_128, F128_0, F128_1⟩
    have sz129 : h.size ≤ b_128 := Nat.le_trans K127.1 sz_b_128
    have K130 : Keep h h128 [] := K127.trans K128 (allS (Or.inr sz126) all0)
    show Go _ _ _ _ _ _ _ _ _ _ _ _ 81 #[.val (.long p0), .second, .val (.long p1), .second, .val (.long p2), .second, .val (.long p3), .second, .val (.long p4), .second, .val (.long p5), .second, .val (.int (2 : Int32)), .val (.ref w2), .val (.ref b119), .unset, .unset, .unset, .unset, .unset, .unset, .unset, .unset, .unset, .unset, .unset] [(.ref b125)]
    refine Go.astore (pc' := 83) (Ls' := #[.val (.long p0), .second, .val (.long p1), .second, .val (.long p2), .second, .val (.long p3), .second, .val (.long p4), .second, .val (.long p5), .second, .val (.int (2 : Int32)), .val (.ref w2), .val (.ref b119), .val (.ref b125), .unset, .unset, .unset, .unset, .unset, .unset, .unset, .unset, .unset, .unset]) at_81 rfl rfl rfl ?_
    refine Go.aload (pc' := 85) at_83 rfl rfl rfl ?_
    refine Go.aload (pc' := 87) at_85 rfl rfl rfl ?_
    refine Go.lload (pc' := 89) at_87 rfl rfl ?_
    have ne131 : b119 ≠ b125 := (Nat.ne_of_lt (Nat.lt_of_lt_of_le F122_0.lt (Nat.le_of_eq g125.symm)))
    have f132 : Fld Z h128 b119 "com/example/illumine/illumine/RenderStats" "counts" "[J" (.ref b_122) := ((F122_0.ext E125).keep K128 (ninS ne131 nin0))
    have ne133 : b_122 ≠ b125 := (Nat.ne_of_lt (Nat.lt_of_lt_of_le F122_1.lt (Nat.le_of_eq g125.symm)))
    have f134 : Arv Z h128 b_122 kb_122 .long (5 : Int32) [(.long 0), (.long 0), (.long 0), (.long 0), (.long 0)] (.long 0) := ((F122_1.ext E125).keep K128 (ninS ne133 nin0))
    refine Go.callV (cells' := 4) (slots' := 12) (pc' := 92) [(.ref w2), (.long p5)] [] (((A119.keep K122).ext E125).keep K128) (hw _ (List.mem_of_getElem? (i := 19) rfl)) (hw _ (List.mem_of_getElem? (i := 20) rfl)) (fun s' hs' => notFace_of_selects (args := #[]) (mvT hs' (hw _ (List.mem_of_getElem? (i := 22) rfl)))) (hw _ (List.mem_of_getElem? (i := 22) rfl)) (hw _ (List.mem_of_getElem? (i := 21) rfl)) (hw _ (List.mem_of_getElem? (i := 7) rfl)) (hw _ (List.mem_of_getElem? (i := 23) rfl)) (by decide) (c_count2 l Z a0 hw h128 b119 w2 p5 b_122 kb_122 (0 : Int64) (0 : Int64) (0 : Int64) (0 : Int64) (0 : Int64) x2 o2 ge_b_122 f132 f134) pd_2 rfl rfl rfl rfl rfl (Nat.le_of_ble_eq_true rfl) (Nat.le_of_ble_eq_true rfl) (Nat.le_of_ble_eq_true rfl) (Nat.le_of_ble_eq_true rfl) at_89 rfl ?_
    rintro _ h135 ⟨rfl, K135, F135_0⟩
    have K136 : Keep h h135 [] := K130.trans K135 (allS (Or.inr sz123) all0)
    show Go _ _ _ _ _ _ _ _ _ _ _ _ 92 #[.val (.long p0), .second, .val (.long p1), .second, .val (.long p2), .second, .val (.long p3), .second, .val (.long p4), .second, .val (.long p5), .second, .val (.int (2 : Int32)), .val (.ref w2), .val (.ref b119), .val (.ref b125), .unset, .unset, .unset, .unset, .unset, .unset, .unset, .unset, .unset, .unset] []
    refine Go.aload (pc' := 94) at_92 rfl rfl rfl ?_
    refine Go.old (fun old137 => ?_)
    refine Go.getstatic (pc' := 97) (host := "") (Or.inl (hw _ (List.mem_of_getElem? (i := 33) rfl))) Via.refl (s0.ext old137.2) at_94 rfl ?_
    refine Go.lloadN (pc' := 98) at_97 rfl rfl ?_
    have f138 : Fld Z h135 b125 "com/example/illumine/illumine/RenderStats" "counts" "[J" (.ref b_128) := (F128_0.keep K135 (ninS (Ne.symm ne133) nin0))
    have ne139 : b_122 ≠ b_128 := (Nat.ne_of_lt (Nat.lt_of_lt_of_le (F122_1.ext E125).lt sz_b_128))
    have f140 : Arv Z h135 b_128 kb_128 .long (5 : Int32) [(.long 0), (.long 0), (.long 0), (.long 0), (.long 0)] (.long 0) := (F128_1.keep K135 (ninS (Ne.symm ne139) nin0))
    refine Go.callV (cells' := 4) (slots' := 12) (pc' := 101) [(.ref w0), (.long p0)] [] ((A125.keep K128).keep K135) (hw _ (List.mem_of_getElem? (i := 19) rfl)) (hw _ (List.mem_of_getElem? (i := 20) rfl)) (fun s' hs' => notFace_of_selects (args := #[]) (mvT hs' (hw _ (List.mem_of_getElem? (i := 22) rfl)))) (hw _ (List.mem_of_getElem? (i := 22) rfl)) (hw _ (List.mem_of_getElem? (i := 21) rfl)) (hw _ (List.mem_of_getElem? (i := 7) rfl)) (hw _ (List.mem_of_getElem? (i := 23) rfl)) (by decide) (c_count0 l Z a0 hw h135 b125 w0 p0 b_128 kb_128 (0 : Int64) (0 : Int64) (0 : Int64) (0 : Int64) (0 : Int64) x0 o0 ge_b_128 f138 f140) pd_2 rfl rfl rfl rfl rfl (Nat.le_of_ble_eq_true rfl) (Nat.le_of_ble_eq_true rfl) (Nat.le_of_ble_eq_true rfl) (Nat.le_of_ble_eq_true rfl) at_98 rfl ?_
    rintro _ h141 ⟨rfl, K141, F141_0⟩
    have K142 : Keep h h141 [] := K136.trans K141 (allS (Or.inr sz129) all0)
    show Go _ _ _ _ _ _ _ _ _ _ _ _ 101 #[.val (.long p0), .second, .val (.long p1), .second, .val (.long p2), .second, .val (.long p3), .second, .val (.long p4), .second, .val (.long p5), .second, .val (.int (2 : Int32)), .val (.ref w2), .val (.ref b119), .val (.ref b125), .unset, .unset, .unset, .unset, .unset, .unset, .unset, .unset, .unset, .unset] []
    refine Go.aload (pc' := 103) at_101 rfl rfl rfl ?_
    refine Go.old (fun old143 => ?_)
    refine Go.getstatic (pc' := 106) (host := "") (Or.inl (hw _ (List.mem_of_getElem? (i := 35) rfl))) Via.refl (s1.ext old143.2) at_103 rfl ?_
    refine Go.lloadN (pc' := 107) at_106 rfl rfl ?_
    have ne144 : b125 ≠ b_128 := (Nat.ne_of_lt (Nat.lt_of_lt_of_le A125.lt sz_b_128))
    refine Go.callV (cells' := 4) (slots' := 12) (pc' := 110) [(.ref w1), (.long p1)] [] (((A125.keep K128).keep K135).keep K141) (hw _ (List.mem_of_getElem? (i := 19) rfl)) (hw _ (List.mem_of_getElem? (i := 20) rfl)) (fun s' hs' => notFace_of_selects (args := #[]) (mvT hs' (hw _ (List.mem_of_getElem? (i := 22) rfl)))) (hw _ (List.mem_of_getElem? (i := 22) rfl)) (hw _ (List.mem_of_getElem? (i := 21) rfl)) (hw _ (List.mem_of_getElem? (i := 7) rfl)) (hw _ (List.mem_of_getElem? (i := 23) rfl)) (by decide) (c_count1 l Z a0 hw h141 b125 w1 p1 b_128 kb_128 (((0 : Int64) + p0)) (0 : Int64) (0 : Int64) (0 : Int64) (0 : Int64) x1 o1 ge_b_128 ((f138.keep K141 (ninS ne144 nin0))) F141_0) pd_2 rfl rfl rfl rfl rfl (Nat.le_of_ble_eq_true rfl) (Nat.le_of_ble_eq_true rfl) (Nat.le_of_ble_eq_true rfl) (Nat.le_of_ble_eq_true rfl) at_107 rfl ?_
    rintro _ h145 ⟨rfl, K145, F145_0⟩
    have K146 : Keep h h145 [] := K142.trans K145 (allS (Or.inr sz129) all0)
    show Go _ _ _ _ _ _ _ _ _ _ _ _ 110 #[.val (.long p0), .second, .val (.long p1), .second, .val (.long p2), .second, .val (.long p3), .second, .val (.long p4), .second, .val (.long p5), .second, .val (.int (2 : Int32)), .val (.ref w2), .val (.ref b119), .val (.ref b125), .unset, .unset, .unset, .unset, .unset, .unset, .unset, .unset, .unset, .unset] []
    refine Go.aload (pc' := 112) at_110 rfl rfl rfl ?_
    refine Go.old (fun old147 => ?_)
    refine Go.getstatic (pc' := 115) (host := "") (Or.inl (hw _ (List.mem_of_getElem? (i := 2) rfl))) Via.refl (s2.ext old147.2) at_112 rfl ?_
    refine Go.lload (pc' := 117) at_115 rfl rfl ?_
    have f148 : Fld Z h145 b125 "com/example/illumine/illumine/RenderStats" "counts" "[J" (.ref b_128) := ((f138.keep K141 (ninS ne144 nin0)).keep K145 (ninS ne144 nin0))
    have f149 : Exa Z h145 b125 "com/example/illumine/illumine/RenderStats" := ((((A125.keep K128).keep K135).keep K141).keep K145)
    refine Go.callV (cells' := 4) (slots' := 12) (pc' := 120) [(.ref w2), (.long p2)] [] f149 (hw _ (List.mem_of_getElem? (i := 19) rfl)) (hw _ (List.mem_of_getElem? (i := 20) rfl)) (fun s' hs' => notFace_of_selects (args := #[]) (mvT hs' (hw _ (List.mem_of_getElem? (i := 22) rfl)))) (hw _ (List.mem_of_getElem? (i := 22) rfl)) (hw _ (List.mem_of_getElem? (i := 21) rfl)) (hw _ (List.mem_of_getElem? (i := 7) rfl)) (hw _ (List.mem_of_getElem? (i := 23) rfl)) (by decide) (c_count2 l Z a0 hw h145 b125 w2 p2 b_128 kb_128 (((0 : Int64) + p0)) (((0 : Int64) + p1)) (0 : Int64) (0 : Int64) (0 : Int64) x2 o2 ge_b_128 f148 F145_0) pd_2 rfl rfl rfl rfl rfl (Nat.le_of_ble_eq_true rfl) (Nat.le_of_ble_eq_true rfl) (Nat.le_of_ble_eq_true rfl) (Nat.le_of_ble_eq_true rfl) at_117 rfl ?_
    rintro _ h150 ⟨rfl, K150, F150_0⟩
    have K151 : Keep h h150 [] := K146.trans K150 (allS (Or.inr sz129) all0)
    show Go _ _ _ _ _ _ _ _ _ _ _ _ 120 #[.val (.long p0), .second, .val (.long p1), .second, .val (.long p2), .second, .val (.long p3), .second, .val (.long p4), .second, .val (.long p5), .second, .val (.int (2 : Int32)), .val (.ref w2), .val (.ref b119), .val (.ref b125), .unset, .unset, .unset, .unset, .unset, .unset, .unset, .unset, .unset, .unset] []
    refine Go.aload (pc' := 122) at_120 rfl rfl rfl ?_
    refine Go.old (fun old152 => ?_)
    refine Go.getstatic (pc' := 125) (host := "") (Or.inl (hw _ (List.mem_of_getElem? (i := 37) rfl))) Via.refl (s3.ext old152.2) at_122 rfl ?_
    refine Go.lload (pc' := 127) at_125 rfl rfl ?_
    refine Go.callV (cells' := 4) (slots' := 12) (pc' := 130) [(.ref w3), (.long p3)] [] (f149.keep K150) (hw _ (List.mem_of_getElem? (i := 19) rfl)) (hw _ (List.mem_of_getElem? (i := 20) rfl)) (fun s' hs' => notFace_of_selects (args := #[]) (mvT hs' (hw _ (List.mem_of_getElem? (i := 22) rfl)))) (hw _ (List.mem_of_getElem? (i := 22) rfl)) (hw _ (List.mem_of_getElem? (i := 21) rfl)) (hw _ (List.mem_of_getElem? (i := 7) rfl)) (hw _ (List.mem_of_getElem? (i := 23) rfl)) (by decide) (c_count3 l Z a0 hw h150 b125 w3 p3 b_128 kb_128 (((0 : Int64) + p0)) (((0 : Int64) + p1)) (((0 : Int64) + p2)) (0 : Int64) (0 : Int64) x3 o3 ge_b_128 ((f148.keep K150 (ninS ne144 nin0))) F150_0) pd_2 rfl rfl rfl rfl rfl (Nat.le_of_ble_eq_true rfl) (Nat.le_of_ble_eq_true rfl) (Nat.le_of_ble_eq_true rfl) (Nat.le_of_ble_eq_true rfl) at_127 rfl ?_
    rintro _ h153 ⟨rfl, K153, F153_0⟩
    have K154 : Keep h h153 [] := K151.trans K153 (allS (Or.inr sz129) all0)
    show Go _ _ _ _ _ _ _ _ _ _ _ _ 130 #[.val (.long p0), .second, .val (.long p1), .second, .val (.long p2), .second, .val (.long p3), .second, .val (.long p4), .second, .val (.long p5), .second, .val (.int (2 : Int32)), .val (.ref w2), .val (.ref b119), .val (.ref b125), .unset, .unset, .unset, .unset, .unset, .unset, .unset, .unset, .unset, .unset] []
    refine Go.aload (pc' := 132) at_130 rfl rfl rfl ?_
    refine Go.old (fun old155 => ?_)
    refine Go.getstatic (pc' := 135) (host := "") (Or.inl (hw _ (List.mem_of_getElem? (i := 39) rfl))) Via.refl (s4.ext old155.2) at_132 rfl ?_
    refine Go.lload (pc' := 137) at_135 rfl rfl ?_
    have f156 : Fld Z h153 b125 "com/example/illumine/illumine/RenderStats" "counts" "[J" (.ref b_128) := ((f148.keep K150 (ninS ne144 nin0)).keep K153 (ninS ne144 nin0))
    refine Go.callV (cells' := 4) (slots' := 12) (pc' := 140) [(.ref w4), (.long p4)] [] ((f149.keep K150).keep K153) (hw _ (List.mem_of_getElem? (i := 19) rfl)) (hw _ (List.mem_of_getElem? (i := 20) rfl)) (fun s' hs' => notFace_of_selects (args := #[]) (mvT hs' (hw _ (List.mem_of_getElem? (i := 22) rfl)))) (hw _ (List.mem_of_getElem? (i := 22) rfl)) (hw _ (List.mem_of_getElem? (i := 21) rfl)) (hw _ (List.mem_of_getElem? (i := 7) rfl)) (hw _ (List.mem_of_getElem? (i := 23) rfl)) (by decide) (c_count4 l Z a0 hw h153 b125 w4 p4 b_128 kb_128 (((0 : Int64) + p0)) (((0 : Int64) + p1)) (((0 : Int64) + p2)) (((0 : Int64) + p3)) (0 : Int64) x4 o4 ge_b_128 f156 F153_0) pd_2 rfl rfl rfl rfl rfl (Nat.le_of_ble_eq_true rfl) (Nat.le_of_ble_eq_true rfl) (Nat.le_of_ble_eq_true rfl) (Nat.le_of_ble_eq_true rfl) at_137 rfl ?_
    rintro _ h157 ⟨rfl, K157, F157_0⟩
    have K158 : Keep h h157 [] := K154.trans K157 (allS (Or.inr sz129) all0)
    show Go _ _ _ _ _ _ _ _ _ _ _ _ 140 #[.val (.long p0), .second, .val (.long p1), .second, .val (.long p2), .second, .val (.long p3), .second, .val (.long p4), .second, .val (.long p5), .second, .val (.int (2 : Int32)), .val (.ref w2), .val (.ref b119), .val (.ref b125), .unset, .unset, .unset, .unset, .unset, .unset, .unset, .unset, .unset, .unset] []
    refine Go.aload (pc' := 142) at_140 rfl rfl rfl ?_
    refine Go.aload (pc' := 144) at_142 rfl rfl rfl ?_
    have ne159 : b119 ≠ b_122 := (Nat.ne_of_lt (Nat.lt_of_lt_of_le A119.lt sz_b_122))
    have ne160 : b119 ≠ b_128 := (Nat.ne_of_lt (Nat.lt_of_lt_of_le ((A119.keep K122).ext E125).lt sz_b_128))
    have f161 : Fld Z h157 b119 "com/example/illumine/illumine/RenderStats" "counts" "[J" (.ref b_122) := ((((((f132.keep K135 (ninS ne159 nin0)).keep K141 (ninS ne160 nin0)).keep K145 (ninS ne160 nin0)).keep K150 (ninS ne160 nin0)).keep K153 (ninS ne160 nin0)).keep K157 (ninS ne160 nin0))
    have f162 : Arv Z h157 b_122 kb_122 .long (5 : Int32) [(.long (0 : Int64)), (.long (0 : Int64)), (.long ((0 : Int64) + p5)), (.long (0 : Int64)), (.long (0 : Int64))] (.long 0) := (((((F135_0.keep K141 (ninS ne139 nin0)).keep K145 (ninS ne139 nin0)).keep K150 (ninS ne139 nin0)).keep K153 (ninS ne139 nin0)).keep K157 (ninS ne139 nin0))
    have f163 : Exa Z h157 b119 "com/example/illumine/illumine/RenderStats" := (((((((((A119.keep K122).ext E125).keep K128).keep K135).keep K141).keep K145).keep K150).keep K153).keep K157)
    refine Go.callV (cells' := 4) (slots' := 12) (pc' := 147) [(.ref b125)] [] f163 (hw _ (List.mem_of_getElem? (i := 41) rfl)) (hw _ (List.mem_of_getElem? (i := 42) rfl)) (fun s' hs' => notFace_of_selects (args := #[]) (mvT hs' (hw _ (List.mem_of_getElem? (i := 44) rfl)))) (hw _ (List.mem_of_getElem? (i := 44) rfl)) (hw _ (List.mem_of_getElem? (i := 43) rfl)) (hw _ (List.mem_of_getElem? (i := 7) rfl)) (hw _ (List.mem_of_getElem? (i := 45) rfl)) (by decide) (c_add l Z a0 hw h157 b119 b125 b_122 kb_122 b_128 kb_128 (0 : Int64) (0 : Int64) (((0 : Int64) + p5)) (0 : Int64) (0 : Int64) (((0 : Int64) + p0)) (((0 : Int64) + p1)) (((0 : Int64) + p2)) (((0 : Int64) + p3)) (((0 : Int64) + p4)) ge_b_122 ne159 (Ne.symm ne133) (Ne.symm ne139) f161 ((f156.keep K157 (ninS ne144 nin0))) f162 F157_0) pd_3 rfl rfl rfl rfl rfl (Nat.le_of_ble_eq_true rfl) (Nat.le_of_ble_eq_true rfl) (Nat.le_of_ble_eq_true rfl) (Nat.le_of_ble_eq_true rfl) at_144 rfl ?_
    rintro _ h164 ⟨rfl, K164, F164_0⟩
    have K165 : Keep h h164 [] := K158.trans K164 (allS (Or.inr sz123) all0)
    show Go _ _ _ _ _ _ _ _ _ _ _ _ 147 #[.val (.long p0), .second, .val (.long p1), .second, .val (.long p2), .second, .val (.long p3), .second, .val (.long p4), .second, .val (.long p5), .second, .val (.int (2 : Int32)), .val (.ref w2), .val (.ref b119), .val (.ref b125), .unset, .unset, .unset, .unset, .unset, .unset, .unset, .unset, .unset, .unset] []
    refine Go.lloadN (pc' := 148) at_147 rfl rfl ?_
    refine Go.iload (pc' := 150) at_148 rfl rfl ?_
    refine Go.ifYes (pc' := 158) at_150 (XT.i0_ne_t (by decide)) (by decide) (by decide) ?_
    refine Go.lconst (pc' := 159) (v := (0 : Int64)) at_158 rfl rfl ?_
    refine Go.ladd (pc' := 160) at_159 rfl ?_
    refine Go.lstore (pc' := 162) (Ls' := #[.val (.long p0), .second, .val (.long p1), .second, .val (.long p2), .second, .val (.long p3), .second, .val (.long p4), .second, .val (.long p5), .second, .val (.int (2 : Int32)), .val (.ref w2), .val (.ref b119), .val (.ref b125), .val (.long (p0 + (0 : Int64))), .second, .unset, .unset, .unset, .unset, .unset, .unset, .unset, .unset]) at_160 rfl rfl ?_
    refine Go.lloadN (pc' := 163) at_162 rfl rfl ?_
    refine Go.iload (pc' := 165) at_163 rfl rfl ?_
    refine Go.iconst (pc' := 166) (v := (1 : Int32)) at_165 rfl rfl ?_
    refine Go.icmpYes (pc' := 174) at_166 (XT.ii_ne_t (by decide)) (by decide) (by decide) ?_
    refine Go.lconst (pc' := 175) (v := (0 : Int64)) at_174 rfl rfl ?_
    refine Go.ladd (pc' := 176) at_175 rfl ?_
    refine Go.lstore (pc' := 178) (Ls' := #[.val (.long p0), .second, .val (.long p1), .second, .val (.long p2), .second, .val (.long p3), .second, .val (.long p4), .second, .val (.long p5), .second, .val (.int (2 : Int32)), .val (.ref w2), .val (.ref b119), .val (.ref b125), .val (.long (p0 + (0 : Int64))), .second, .val (.long (p1 + (0 : Int64))), .second, .unset, .unset, .unset, .unset, .unset, .unset]) at_176 rfl rfl ?_
    refine Go.lload (pc' := 180) at_178 rfl rfl ?_
    refine Go.iload (pc' := 182) at_180 rfl rfl ?_
    refine Go.iconst (pc' := 183) (v := (2 : Int32)) at_182 rfl rfl ?_
    refine Go.icmpNo (pc' := 186) at_183 (XT.ii_ne_f (by decide)) rfl ?_
    refine Go.lload (pc' := 188) at_186 rfl rfl ?_
    refine Go.goto (pc' := 192) at_188 (by decide) (by decide) ?_
    refine Go.ladd (pc' := 193) at_192 rfl ?_
    refine Go.lstore (pc' := 195) (Ls' := #[.val (.long p0), .second, .val (.long p1), .second, .val (.long p2), .second, .val (.long p3), .second, .val (.long p4), .second, .val (.long p5), .second, .val (.int (2 : Int32)), .val (.ref w2), .val (.ref b119), .val (.ref b125), .val (.long (p0 + (0 : Int64))), .second, .val (.long (p1 + (0 : Int64))), .second, .val (.long (p2 + p5)), .second, .unset, .unset, .unset, .unset]) at_193 rfl rfl ?_
    refine Go.lload (pc' := 197) at_195 rfl rfl ?_
    refine Go.iload (pc' := 199) at_197 rfl rfl ?_
    refine Go.iconst (pc' := 200) (v := (3 : Int32)) at_199 rfl rfl ?_
    refine Go.icmpYes (pc' := 208) at_200 (XT.ii_ne_t (by decide)) (by decide) (by decide) ?_
    refine Go.lconst (pc' := 209) (v := (0 : Int64)) at_208 rfl rfl ?_
    refine Go.ladd (pc' := 210) at_209 rfl ?_
    refine Go.lstore (pc' := 212) (Ls' := #[.val (.long p0), .second, .val (.long p1), .second, .val (.long p2), .second, .val (.long p3), .second, .val (.long p4), .second, .val (.long p5), .second, .val (.int (2 : Int32)), .val (.ref w2), .val (.ref b119), .val (.ref b125), .val (.long (p0 + (0 : Int64))), .second, .val (.long (p1 + (0 : Int64))), .second, .val (.long (p2 + p5)), .second, .val (.long (p3 + (0 : Int64))), .second, .unset, .unset]) at_210 rfl rfl ?_
    refine Go.lload (pc' := 214) at_212 rfl rfl ?_
    refine Go.iload (pc' := 216) at_214 rfl rfl ?_
    refine Go.iconst (pc' := 217) (v := (4 : Int32)) at_216 rfl rfl ?_
    refine Go.icmpYes (pc' := 225) at_217 (XT.ii_ne_t (by decide)) (by decide) (by decide) ?_
    refine Go.lconst (pc' := 226) (v := (0 : Int64)) at_225 rfl rfl ?_
    refine Go.ladd (pc' := 227) at_226 rfl ?_
    refine Go.lstore (pc' := 229) (Ls' := #[.val (.long p0), .second, .val (.long p1), .second, .val (.long p2), .second, .val (.long p3), .second, .val (.long p4), .second, .val (.long p5), .second, .val (.int (2 : Int32)), .val (.ref w2), .val (.ref b119), .val (.ref b125), .val (.long (p0 + (0 : Int64))), .second, .val (.long (p1 + (0 : Int64))), .second, .val (.long (p2 + p5)), .second, .val (.long (p3 + (0 : Int64))), .second, .val (.long (p4 + (0 : Int64))), .second]) at_227 rfl rfl ?_
    refine Go.aload (pc' := 231) at_229 rfl rfl rfl ?_
    refine Go.callV (cells' := 4) (slots' := 12) (pc' := 234) [] [] (f163.keep K164) (hw _ (List.mem_of_getElem? (i := 46) rfl)) (hw _ (List.mem_of_getElem? (i := 47) rfl)) (fun s' hs' => notFace_of_selects (args := #[]) (mvT hs' (hw _ (List.mem_of_getElem? (i := 49) rfl)))) (hw _ (List.mem_of_getElem? (i := 49) rfl)) (hw _ (List.mem_of_getElem? (i := 48) rfl)) (hw _ (List.mem_of_getElem? (i := 7) rfl)) (hw _ (List.mem_of_getElem? (i := 50) rfl)) (by decide) (c_get0 l Z a0 hw h164 b119 w0 b_122 kb_122 (((0 : Int64) + ((0 : Int64) + p0))) (((0 : Int64) + ((0 : Int64) + p1))) ((((0 : Int64) + p5) + ((0 : Int64) + p2))) (((0 : Int64) + ((0 : Int64) + p3))) (((0 : Int64) + ((0 : Int64) + p4))) s0 x0 o0 ((f161.keep K164 (ninS ne159 nin0))) F164_0) pd_4 rfl rfl rfl rfl rfl (Nat.le_of_ble_eq_true rfl) (Nat.le_of_ble_eq_true rfl) (Nat.le_of_ble_eq_true rfl) (Nat.le_of_ble_eq_true rfl) at_231 rfl ?_
    rintro _ _ ⟨rfl, rfl⟩
    show Go _ _ _ _ _ _ _ _ _ _ _ _ 234 #[.val (.long p0), .second, .val (.long p1), .second, .val (.long p2), .second, .val (.long p3), .second, .val (.long p4), .second, .val (.long p5), .second, .val (.int (2 : Int32)), .val (.ref w2), .val (.ref b119), .val (.ref b125), .val (.long (p0 + (0 : Int64))), .second, .val (.long (p1 + (0 : Int64))), .second, .val (.long (p2 + p5)), .second, .val (.long (p3 + (0 : Int64))), .second, .val (.long (p4 + (0 : Int64))), .second] [(.long ((0 : Int64) + ((0 : Int64) + p0)))]
    refine Go.lload (pc' := 236) at_234 rfl rfl ?_
    refine Go.lcmp (pc' := 237) at_236 rfl ?_
    refine Go.ifNo (pc' := 240) at_237 (XT.ll_ne_f (by simp [Int64.add_comm] : ((0 : Int64) + ((0 : Int64) + p0)) = (p0 + (0 : Int64)))) rfl ?_
    refine Go.aload (pc' := 242) at_240 rfl rfl rfl ?_
    refine Go.callV (cells' := 4) (slots' := 12) (pc' := 245) [] [] (f163.keep K164) (hw _ (List.mem_of_getElem? (i := 52) rfl)) (hw _ (List.mem_of_getElem? (i := 53) rfl)) (fun s' hs' => notFace_of_selects (args := #[]) (mvT hs' (hw _ (List.mem_of_getElem? (i := 55) rfl)))) (hw _ (List.mem_of_getElem? (i := 55) rfl)) (hw _ (List.mem_of_getElem? (i := 54) rfl)) (hw _ (List.mem_of_getElem? (i := 7) rfl)) (hw _ (List.mem_of_getElem? (i := 56) rfl)) (by decide) (c_get1 l Z a0 hw h164 b119 w1 b_122 kb_122 (((0 : Int64) + ((0 : Int64) + p0))) (((0 : Int64) + ((0 : Int64) + p1))) ((((0 : Int64) + p5) + ((0 : Int64) + p2))) (((0 : Int64) + ((0 : Int64) + p3))) (((0 : Int64) + ((0 : Int64) + p4))) s1 x1 o1 ((f161.keep K164 (ninS ne159 nin0))) F164_0) pd_4 rfl rfl rfl rfl rfl (Nat.le_of_ble_eq_true rfl) (Nat.le_of_ble_eq_true rfl) (Nat.le_of_ble_eq_true rfl) (Nat.le_of_ble_eq_true rfl) at_242 rfl ?_
    rintro _ _ ⟨rfl, rfl⟩
    show Go _ _ _ _ _ _ _ _ _ _ _ _ 245 #[.val (.long p0), .second, .val (.long p1), .second, .val (.long p2), .second, .val (.long p3), .second, .val (.long p4), .second, .val (.long p5), .second, .val (.int (2 : Int32)), .val (.ref w2), .val (.ref b119), .val (.ref b125), .val (.long (p0 + (0 : Int64))), .second, .val (.long (p1 + (0 : Int64))), .second, .val (.long (p2 + p5)), .second, .val (.long (p3 + (0 : Int64))), .second, .val (.long (p4 + (0 : Int64))), .second] [(.long ((0 : Int64) + ((0 : Int64) + p1)))]
    refine Go.lload (pc' := 247) at_245 rfl rfl ?_
    refine Go.lcmp (pc' := 248) at_247 rfl ?_
    refine Go.ifNo (pc' := 251) at_248 (XT.ll_ne_f (by simp [Int64.add_comm] : ((0 : Int64) + ((0 : Int64) + p1)) = (p1 + (0 : Int64)))) rfl ?_
    refine Go.aload (pc' := 253) at_251 rfl rfl rfl ?_
    refine Go.callV (cells' := 4) (slots' := 12) (pc' := 256) [] [] (f163.keep K164) (hw _ (List.mem_of_getElem? (i := 58) rfl)) (hw _ (List.mem_of_getElem? (i := 59) rfl)) (fun s' hs' => notFace_of_selects (args := #[]) (mvT hs' (hw _ (List.mem_of_getElem? (i := 61) rfl)))) (hw _ (List.mem_of_getElem? (i := 61) rfl)) (hw _ (List.mem_of_getElem? (i := 60) rfl)) (hw _ (List.mem_of_getElem? (i := 7) rfl)) (hw _ (List.mem_of_getElem? (i := 62) rfl)) (by decide) (c_get2 l Z a0 hw h164 b119 w2 b_122 kb_122 (((0 : Int64) + ((0 : Int64) + p0))) (((0 : Int64) + ((0 : Int64) + p1))) ((((0 : Int64) + p5) + ((0 : Int64) + p2))) (((0 : Int64) + ((0 : Int64) + p3))) (((0 : Int64) + ((0 : Int64) + p4))) s2 x2 o2 ((f161.keep K164 (ninS ne159 nin0))) F164_0) pd_4 rfl rfl rfl rfl rfl (Nat.le_of_ble_eq_true rfl) (Nat.le_of_ble_eq_true rfl) (Nat.le_of_ble_eq_true rfl) (Nat.le_of_ble_eq_true rfl) at_253 rfl ?_
    rintro _ _ ⟨rfl, rfl⟩
    show Go _ _ _ _ _ _ _ _ _ _ _ _ 256 #[.val (.long p0), .second, .val (.long p1), .second, .val (.long p2), .second, .val (.long p3), .second, .val (.long p4), .second, .val (.long p5), .second, .val (.int (2 : Int32)), .val (.ref w2), .val (.ref b119), .val (.ref b125), .val (.long (p0 + (0 : Int64))), .second, .val (.long (p1 + (0 : Int64))), .second, .val (.long (p2 + p5)), .second, .val (.long (p3 + (0 : Int64))), .second, .val (.long (p4 + (0 : Int64))), .second] [(.long (((0 : Int64) + p5) + ((0 : Int64) + p2)))]
    refine Go.lload (pc' := 258) at_256 rfl rfl ?_
    refine Go.lcmp (pc' := 259) at_258 rfl ?_
    refine Go.ifNo (pc' := 262) at_259 (XT.ll_ne_f (by simp [Int64.add_comm] : (((0 : Int64) + p5) + ((0 : Int64) + p2)) = (p2 + p5))) rfl ?_
    refine Go.aload (pc' := 264) at_262 rfl rfl rfl ?_
    refine Go.callV (cells' := 4) (slots' := 12) (pc' := 267) [] [] (f163.keep K164) (hw _ (List.mem_of_getElem? (i := 64) rfl)) (hw _ (List.mem_of_getElem? (i := 65) rfl)) (fun s' hs' => notFace_of_selects (args := #[]) (mvT hs' (hw _ (List.mem_of_getElem? (i := 67) rfl)))) (hw _ (List.mem_of_getElem? (i := 67) rfl)) (hw _ (List.mem_of_getElem? (i := 66) rfl)) (hw _ (List.mem_of_getElem? (i := 7) rfl)) (hw _ (List.mem_of_getElem? (i := 68) rfl)) (by decide) (c_get3 l Z a0 hw h164 b119 w3 b_122 kb_122 (((0 : Int64) + ((0 : Int64) + p0))) (((0 : Int64) + ((0 : Int64) + p1))) ((((0 : Int64) + p5) + ((0 : Int64) + p2))) (((0 : Int64) + ((0 : Int64) + p3))) (((0 : Int64) + ((0 : Int64) + p4))) s3 x3 o3 ((f161.keep K164 (ninS ne159 nin0))) F164_0) pd_4 rfl rfl rfl rfl rfl (Nat.le_of_ble_eq_true rfl) (Nat.le_of_ble_eq_true rfl) (Nat.le_of_ble_eq_true rfl) (Nat.le_of_ble_eq_true rfl) at_264 rfl ?_
    rintro _ _ ⟨rfl, rfl⟩
    show Go _ _ _ _ _ _ _ _ _ _ _ _ 267 #[.val (.long p0), .second, .val (.long p1), .second, .val (.long p2), .second, .val (.long p3), .second, .val (.long p4), .second, .val (.long p5), .second, .val (.int (2 : Int32)), .val (.ref w2), .val (.ref b119), .val (.ref b125), .val (.long (p0 + (0 : Int64))), .second, .val (.long (p1 + (0 : Int64))), .second, .val (.long (p2 + p5)), .second, .val (.long (p3 + (0 : Int64))), .second, .val (.long (p4 + (0 : Int64))), .second] [(.long ((0 : Int64) + ((0 : Int64) + p3)))]
    refine Go.lload (pc' := 269) at_267 rfl rfl ?_
    refine Go.lcmp (pc' := 270) at_269 rfl ?_
    refine Go.ifNo (pc' := 273) at_270 (XT.ll_ne_f (by simp [Int64.add_comm] : ((0 : Int64) + ((0 : Int64) + p3)) = (p3 + (0 : Int64)))) rfl ?_
    refine Go.aload (pc' := 275) at_273 rfl rfl rfl ?_
    refine Go.callV (cells' := 4) (slots' := 12) (pc' := 278) [] [] (f163.keep K164) (hw _ (List.mem_of_getElem? (i := 70) rfl)) (hw _ (List.mem_of_getElem? (i := 71) rfl)) (fun s' hs' => notFace_of_selects (args := #[]) (mvT hs' (hw _ (List.mem_of_getElem? (i := 73) rfl)))) (hw _ (List.mem_of_getElem? (i := 73) rfl)) (hw _ (List.mem_of_getElem? (i := 72) rfl)) (hw _ (List.mem_of_getElem? (i := 7) rfl)) (hw _ (List.mem_of_getElem? (i := 74) rfl)) (by decide) (c_get4 l Z a0 hw h164 b119 w4 b_122 kb_122 (((0 : Int64) + ((0 : Int64) + p0))) (((0 : Int64) + ((0 : Int64) + p1))) ((((0 : Int64) + p5) + ((0 : Int64) + p2))) (((0 : Int64) + ((0 : Int64) + p3))) (((0 : Int64) + ((0 : Int64) + p4))) s4 x4 o4 ((f161.keep K164 (ninS ne159 nin0))) F164_0) pd_4 rfl rfl rfl rfl rfl (Nat.le_of_ble_eq_true rfl) (Nat.le_of_ble_eq_true rfl) (Nat.le_of_ble_eq_true rfl) (Nat.le_of_ble_eq_true rfl) at_275 rfl ?_
    rintro _ _ ⟨rfl, rfl⟩
    show Go _ _ _ _ _ _ _ _ _ _ _ _ 278 #[.val (.long p0), .second, .val (.long p1), .second, .val (.long p2), .second, .val (.long p3), .second, .val (.long p4), .second, .val (.long p5), .second, .val (.int (2 : Int32)), .val (.ref w2), .val (.ref b119), .val (.ref b125), .val (.long (p0 + (0 : Int64))), .second, .val (.long (p1 + (0 : Int64))), .second, .val (.long (p2 + p5)), .second, .val (.long (p3 + (0 : Int64))), .second, .val (.long (p4 + (0 : Int64))), .second] [(.long ((0 : Int64) + ((0 : Int64) + p4)))]
    refine Go.lload (pc' := 280) at_278 rfl rfl ?_
    refine Go.lcmp (pc' := 281) at_280 rfl ?_
    refine Go.ifNo (pc' := 284) at_281 (XT.ll_ne_f (by simp [Int64.add_comm] : ((0 : Int64) + ((0 : Int64) + p4)) = (p4 + (0 : Int64)))) rfl ?_
    refine Go.aload (pc' := 286) at_284 rfl rfl rfl ?_
    have f171 : Fld Z h164 b125 "com/example/illumine/illumine/RenderStats" "counts" "[J" (.ref b_128) := ((f156.keep K157 (ninS ne144 nin0)).keep K164 (ninS (Ne.symm ne133) nin0))
    have f172 : Arv Z h164 b_128 kb_128 .long (5 : Int32) [(.long ((0 : Int64) + p0)), (.long ((0 : Int64) + p1)), (.long ((0 : Int64) + p2)), (.long ((0 : Int64) + p3)), (.long ((0 : Int64) + p4))] (.long 0) := (F157_0.keep K164 (ninS (Ne.symm ne139) nin0))
    have f173 : Exa Z h164 b125 "com/example/illumine/illumine/RenderStats" := ((((f149.keep K150).keep K153).keep K157).keep K164)
    refine Go.callV (cells' := 4) (slots' := 12) (pc' := 289) [] [] f173 (hw _ (List.mem_of_getElem? (i := 46) rfl)) (hw _ (List.mem_of_getElem? (i := 47) rfl)) (fun s' hs' => notFace_of_selects (args := #[]) (mvT hs' (hw _ (List.mem_of_getElem? (i := 49) rfl)))) (hw _ (List.mem_of_getElem? (i := 49) rfl)) (hw _ (List.mem_of_getElem? (i := 48) rfl)) (hw _ (List.mem_of_getElem? (i := 7) rfl)) (hw _ (List.mem_of_getElem? (i := 50) rfl)) (by decide) (c_get0 l Z a0 hw h164 b125 w0 b_128 kb_128 (((0 : Int64) + p0)) (((0 : Int64) + p1)) (((0 : Int64) + p2)) (((0 : Int64) + p3)) (((0 : Int64) + p4)) s0 x0 o0 f171 f172) pd_4 rfl rfl rfl rfl rfl (Nat.le_of_ble_eq_true rfl) (Nat.le_of_ble_eq_true rfl) (Nat.le_of_ble_eq_true rfl) (Nat.le_of_ble_eq_true rfl) at_286 rfl ?_
    rintro _ _ ⟨rfl, rfl⟩
    show Go _ _ _ _ _ _ _ _ _ _ _ _ 289 #[.val (.long p0), .second, .val (.long p1), .second, .val (.long p2), .second, .val (.long p3), .second, .val (.long p4), .second, .val (.long p5), .second, .val (.int (2 : Int32)), .val (.ref w2), .val (.ref b119), .val (.ref b125), .val (.long (p0 + (0 : Int64))), .second, .val (.long (p1 + (0 : Int64))), .second, .val (.long (p2 + p5)), .second, .val (.long (p3 + (0 : Int64))), .second, .val (.long (p4 + (0 : Int64))), .second] [(.long ((0 : Int64) + p0))]
    refine Go.lloadN (pc' := 290) at_289 rfl rfl ?_
    refine Go.lcmp (pc' := 291) at_290 rfl ?_
    refine Go.ifNo (pc' := 294) at_291 (XT.ll_ne_f (by simp [Int64.add_comm] : ((0 : Int64) + p0) = p0)) rfl ?_
    refine Go.aload (pc' := 296) at_294 rfl rfl rfl ?_
    refine Go.callV (cells' := 4) (slots' := 12) (pc' := 299) [] [] f173 (hw _ (List.mem_of_getElem? (i := 70) rfl)) (hw _ (List.mem_of_getElem? (i := 71) rfl)) (fun s' hs' => notFace_of_selects (args := #[]) (mvT hs' (hw _ (List.mem_of_getElem? (i := 73) rfl)))) (hw _ (List.mem_of_getElem? (i := 73) rfl)) (hw _ (List.mem_of_getElem? (i := 72) rfl)) (hw _ (List.mem_of_getElem? (i := 7) rfl)) (hw _ (List.mem_of_getElem? (i := 74) rfl)) (by decide) (c_get4 l Z a0 hw h164 b125 w4 b_128 kb_128 (((0 : Int64) + p0)) (((0 : Int64) + p1)) (((0 : Int64) + p2)) (((0 : Int64) + p3)) (((0 : Int64) + p4)) s4 x4 o4 f171 f172) pd_4 rfl rfl rfl rfl rfl (Nat.le_of_ble_eq_true rfl) (Nat.le_of_ble_eq_true rfl) (Nat.le_of_ble_eq_true rfl) (Nat.le_of_ble_eq_true rfl) at_296 rfl ?_
    rintro _ _ ⟨rfl, rfl⟩
    show Go _ _ _ _ _ _ _ _ _ _ _ _ 299 #[.val (.long p0), .second, .val (.long p1), .second, .val (.long p2), .second, .val (.long p3), .second, .val (.long p4), .second, .val (.long p5), .second, .val (.int (2 : Int32)), .val (.ref w2), .val (.ref b119), .val (.ref b125), .val (.long (p0 + (0 : Int64))), .second, .val (.long (p1 + (0 : Int64))), .second, .val (.long (p2 + p5)), .second, .val (.long (p3 + (0 : Int64))), .second, .val (.long (p4 + (0 : Int64))), .second] [(.long ((0 : Int64) + p4))]
    refine Go.lload (pc' := 301) at_299 rfl rfl ?_
    refine Go.lcmp (pc' := 302) at_301 rfl ?_
    refine Go.ifNo (pc' := 305) at_302 (XT.ll_ne_f (by simp [Int64.add_comm] : ((0 : Int64) + p4) = p4)) rfl ?_
    refine Go.iconst (pc' := 306) (v := (1 : Int32)) at_305 rfl rfl ?_
    refine Go.goto (pc' := 310) at_306 (by decide) (by decide) ?_
    exact Go.retN (t := .boolean) rfl (by simp) at_310 ⟨rfl, K165⟩ (by decide) (by decide)
  ·
    rw [hk1]
    refine Go.iload (pc' := 15) at_13 rfl rfl ?_
    refine Go.ifYes (pc' := 24) at_15 (XT.i0_ne_t (by decide)) (by decide) (by decide) ?_
    refine Go.iload (pc' := 26) at_24 rfl rfl ?_
    refine Go.iconst (pc' := 27) (v := (1 : Int32)) at_26 rfl rfl ?_
    refine Go.icmpYes (pc' := 36) at_27 (XT.ii_ne_t (by decide)) (by decide) (by decide) ?_
    refine Go.iload (pc' := 38) at_36 rfl rfl ?_
    refine Go.iconst (pc' := 39) (v := (2 : Int32)) at_38 rfl rfl ?_
    refine Go.icmpYes (pc' := 48) at_39 (XT.ii_ne_t (by decide)) (by decide) (by decide) ?_
    refine Go.iload (pc' := 50) at_48 rfl rfl ?_
    refine Go.iconst (pc' := 51) (v := (3 : Int32)) at_50 rfl rfl ?_
    refine Go.icmpNo (pc' := 54) at_51 (XT.ii_ne_f (by decide)) rfl ?_
    refine Go.old (fun old176 => ?_)
    refine Go.getstatic (pc' := 57) (host := "") (Or.inl (hw _ (List.mem_of_getElem? (i := 37) rfl))) Via.refl (s3.ext old176.2) at_54 rfl ?_
    refine Go.goto (pc' := 63) at_57 (by decide) (by decide) ?_
    refine Go.astore (pc' := 65) (Ls' := #[.val (.long p0), .second, .val (.long p1), .second, .val (.long p2), .second, .val (.long p3), .second, .val (.long p4), .second, .val (.long p5), .second, .val (.int (3 : Int32)), .val (.ref w3), .unset, .unset, .unset, .unset, .unset, .unset, .unset, .unset, .unset, .unset, .unset, .unset]) at_63 rfl rfl rfl ?_
    refine Go.new (pc' := 68) (cells' := 1) (slots' := 1) (hw _ (List.mem_of_getElem? (i := 5) rfl)) (hw _ (List.mem_of_getElem? (i := 6) rfl)) (hw _ (List.mem_of_getElem? (i := 7) rfl)) at_65 rfl rfl (by decide) (by decide) rfl ?_
    intro h177 b177 g177 E177 ge177 A177 D177
    have sz178 : h.size ≤ b177 := Nat.le_trans (Keep.refl h []).1 (Nat.le_of_eq g177.symm)
    have K179 : Keep h h177 [] := (Keep.refl h []).ext E177
    refine Go.dup (pc' := 69) at_68 rfl rfl ?_
    refine Go.callC (cells' := 2) (slots' := 6) (pc' := 72) [] [(.ref b177)] (a := b177) rfl rfl (hw _ (List.mem_of_getElem? (i := 8) rfl)) (hw _ (List.mem_of_getElem? (i := 9) rfl)) (hw _ (List.mem_of_getElem? (i := 7) rfl)) (hw _ (List.mem_of_getElem? (i := 10) rfl)) (by decide) (c_init l Z a0 hw h177 b177 wc kc vsc sc vc ge177 A177 ((D177 (Or.inr (hw _ (List.mem_of_getElem? (i := 18) rfl))) (ty := (.array .long)) (by decide) : Fld Z h177 b177 "com/example/illumine/illumine/RenderStats" "counts" "[J" .null))) pd_1 rfl rfl rfl rfl rfl (Nat.le_of_ble_eq_true rfl) (Nat.le_of_ble_eq_true rfl) (Nat.le_of_ble_eq_true rfl) (Nat.le_of_ble_eq_true rfl) at_69 rfl ?_
    rintro _ h180 ⟨b_180, kb_180, rfl, K180, ge_b_180, sz_b_180, F180_0, F180_1⟩
    have sz181 : h.size ≤ b_180 := Nat.le_trans K179.1 sz_b_180
    have K182 : Keep h h180 [] := K179.trans K180 (allS (Or.inr sz178) all0)
    show Go _ _ _ _ _ _ _ _ _ _ _ _ 72 #[.val (.long p0), .second, .val (.long p1), .second, .val (.long p2), .second, .val (.long p3), .second, .val (.long p4), .second, .val (.long p5), .second, .val (.int (3 : Int32)), .val (.ref w3), .unset, .unset, .unset, .unset, .unset, .unset, .unset, .unset, .unset, .unset, .unset, .unset] [(.ref b177)]
    refine Go.astore (pc' := 74) (Ls' := #[.val (.long p0), .second, .val (.long p1), .second, .val (.long p2), .second, .val (.long p3), .second, .val (.long p4), .second, .val (.long p5), .second, .val (.int (3 : Int32)), .val (.ref w3), .val (.ref b177), .unset, .unset, .unset, .unset, .unset, .unset, .unset, .unset, .unset, .unset, .unset]) at_72 rfl rfl rfl ?_
    refine Go.new (pc' := 77) (cells' := 3) (slots' := 7) (hw _ (List.mem_of_getElem? (i := 5) rfl)) (hw _ (List.mem_of_getElem? (i := 6) rfl)) (hw _ (List.mem_of_getElem? (i := 7) rfl)) at_74 rfl rfl (by decide) (by decide) rfl ?_
    intro h183 b183 g183 E183 ge183 A183 D183
    have sz184 : h.size ≤ b183 := Nat.le_trans K182.1 (Nat.le_of_eq g183.symm)
    have K185 : Keep h h183 [] := K182.ext E183
    refine Go.dup (pc' := 78) at_77 rfl rfl ?_
    refine Go.callC (cells' := 4) (slots' := 12) (pc' := 81) [] [(.ref b183)] (a := b183) rfl rfl (hw _ (List.mem_of_getElem? (i := 8) rfl)) (hw _ (List.mem_of_getElem? (i := 9) rfl)) (hw _ (List.mem_of_getElem? (i := 7) rfl)) (hw _ (List.mem_of_getElem? (i := 10) rfl)) (by decide) (c_init l Z a0 hw h183 b183 wc kc vsc sc vc ge183 A183 ((D183 (Or.inr (hw _ (List.mem_of_getElem? (i := 18) rfl))) (ty := (.array .long)) (by decide) : Fld Z h183 b183 "com/example/illumine/illumine/RenderStats" "counts" "[J" .null))) pd_1 rfl rfl rfl rfl rfl (Nat.le_of_ble_eq_true rfl) (Nat.le_of_ble_eq_true rfl) (Nat.le_of_ble_eq_true rfl) (Nat.le_of_ble_eq_true rfl) at_78 rfl ?_
    rintro _ h186 ⟨b_186, kb_186, rfl, K186, ge_b_186, sz_b_186, F186_0, F186_1⟩
    have sz187 : h.size ≤ b_186 := Nat.le_trans K185.1 sz_b_186
    have K188 : Keep h h186 [] := K185.trans K186 (allS (Or.inr sz184) all0)
    show Go _ _ _ _ _ _ _ _ _ _ _ _ 81 #[.val (.long p0), .second, .val (.long p1), .second, .val (.long p2), .second, .val (.long p3), .second, .val (.long p4), .second, .val (.long p5), .second, .val (.int (3 : Int32)), .val (.ref w3), .val (.ref b177), .unset, .unset, .unset, .unset, .unset, .unset, .unset, .unset, .unset, .unset, .unset] [(.ref b183)]
    refine Go.astore (pc' := 83) (Ls' := #[.val (.long p0), .second, .val (.long p1), .second, .val (.long p2), .second, .val (.long p3), .second, .val (.long p4), .second, .val (.long p5), .second, .val (.int (3 : Int32)), .val (.ref w3), .val (.ref b177), .val (.ref b183), .unset, .unset, .unset, .unset, .unset, .unset, .unset, .unset, .unset, .unset]) at_81 rfl rfl rfl ?_
    refine Go.aload (pc' := 85) at_83 rfl rfl rfl ?_
    refine Go.aload (pc' := 87) at_85 rfl rfl rfl ?_
    refine Go.lload (pc' := 89) at_87 rfl rfl ?_
    have ne189 : b177 ≠ b183 := (Nat.ne_of_lt (Nat.lt_of_lt_of_le F180_0.lt (Nat.le_of_eq g183.symm)))
    have f190 : Fld Z h186 b177 "com/example/illumine/illumine/RenderStats" "counts" "[J" (.ref b_180) := ((F180_0.ext E183).keep K186 (ninS ne189 nin0))
    have ne191 : b_180 ≠ b183 := (Nat.ne_of_lt (Nat.lt_of_lt_of_le F180_1.lt (Nat.le_of_eq g183.symm)))
    have f192 : Arv Z h186 b_180 kb_180 .long (5 : Int32) [(.long 0), (.long 0), (.long 0), (.long 0), (.long 0)] (.long 0) := ((F180_1.ext E183).keep K186 (ninS ne191 nin0))
    refine Go.callV (cells' := 4) (slots' := 12) (pc' := 92) [(.ref w3), (.long p5)] [] (((A177.keep K180).ext E183).keep K186) (hw _ (List.mem_of_getElem? (i := 19) rfl)) (hw _ (List.mem_of_getElem? (i := 20) rfl)) (fun s' hs' => notFace_of_selects (args := #[]) (mvT hs' (hw _ (List.mem_of_getElem? (i := 22) rfl)))) (hw _ (List.mem_of_getElem? (i := 22) rfl)) (hw _ (List.mem_of_getElem? (i := 21) rfl)) (hw _ (List.mem_of_getElem? (i := 7) rfl)) (hw _ (List.mem_of_getElem? (i := 23) rfl)) (by decide) (c_count3 l Z a0 hw h186 b177 w3 p5 b_180 kb_180 (0 : Int64) (0 : Int64) (0 : Int64) (0 : Int64) (0 : Int64) x3 o3 ge_b_180 f190 f192) pd_2 rfl rfl rfl rfl rfl (Nat.le_of_ble_eq_true rfl) (Nat.le_of_ble_eq_true rfl) (Nat.le_of_ble_eq_true rfl) (Nat.le_of_ble_eq_true rfl) at_89 rfl ?_
    rintro _ h193 ⟨rfl, K193, F193_0⟩
    have K194 : Keep h h193 [] := K188.trans K193 (allS (Or.inr sz181) all0)
    show Go _ _ _ _ _ _ _ _ _ _ _ _ 92 #[.val (.long p0), .second, .val (.long p1), .second, .val (.long p2), .second, .val (.long p3), .second, .val (.long p4), .second, .val (.long p5), .second, .val (.int (3 : Int32)), .val (.ref w3), .val (.ref b177), .val (.ref b183), .unset, .unset, .unset, .unset, .unset, .unset, .unset, .unset, .unset, .unset] []
    refine Go.aload (pc' := 94) at_92 rfl rfl rfl ?_
    refine Go.old (fun old195 => ?_)
    refine Go.getstatic (pc' := 97) (host := "") (Or.inl (hw _ (List.mem_of_getElem? (i := 33) rfl))) Via.refl (s0.ext old195.2) at_94 rfl ?_
    refine Go.lloadN (pc' := 98) at_97 rfl rfl ?_
    have f196 : Fld Z h193 b183 "com/example/illumine/illumine/RenderStats" "counts" "[J" (.ref b_186) := (F186_0.keep K193 (ninS (Ne.symm ne191) nin0))
    have ne197 : b_180 ≠ b_186 := (Nat.ne_of_lt (Nat.lt_of_lt_of_le (F180_1.ext E183).lt sz_b_186))
    have f198 : Arv Z h193 b_186 kb_186 .long (5 : Int32) [(.long 0), (.long 0), (.long 0), (.long 0), (.long 0)] (.long 0) := (F186_1.keep K193 (ninS (Ne.symm ne197) nin0))
    refine Go.callV (cells' := 4) (slots' := 12) (pc' := 101) [(.ref w0), (.long p0)] [] ((A183.keep K186).keep K193) (hw _ (List.mem_of_getElem? (i := 19) rfl)) (hw _ (List.mem_of_getElem? (i := 20) rfl)) (fun s' hs' => notFace_of_selects (args := #[]) (mvT hs' (hw _ (List.mem_of_getElem? (i := 22) rfl)))) (hw _ (List.mem_of_getElem? (i := 22) rfl)) (hw _ (List.mem_of_getElem? (i := 21) rfl)) (hw _ (List.mem_of_getElem? (i := 7) rfl)) (hw _ (List.mem_of_getElem? (i := 23) rfl)) (by decide) (c_count0 l Z a0 hw h193 b183 w0 p0 b_186 kb_186 (0 : Int64) (0 : Int64) (0 : Int64) (0 : Int64) (0 : Int64) x0 o0 ge_b_186 f196 f198) pd_2 rfl rfl rfl rfl rfl (Nat.le_of_ble_eq_true rfl) (Nat.le_of_ble_eq_true rfl) (Nat.le_of_ble_eq_true rfl) (Nat.le_of_ble_eq_true rfl) at_98 rfl ?_
    rintro _ h199 ⟨rfl, K199, F199_0⟩
    have K200 : Keep h h199 [] := K194.trans K199 (allS (Or.inr sz187) all0)
    show Go _ _ _ _ _ _ _ _ _ _ _ _ 101 #[.val (.long p0), .second, .val (.long p1), .second, .val (.long p2), .second, .val (.long p3), .second, .val (.long p4), .second, .val (.long p5), .second, .val (.int (3 : Int32)), .val (.ref w3), .val (.ref b177), .val (.ref b183), .unset, .unset, .unset, .unset, .unset, .unset, .unset, .unset, .unset, .unset] []
    refine Go.aload (pc' := 103) at_101 rfl rfl rfl ?_
    refine Go.old (fun old201 => ?_)
    refine Go.getstatic (pc' := 106) (host := "") (Or.inl (hw _ (List.mem_of_getElem? (i := 35) rfl))) Via.refl (s1.ext old201.2) at_103 rfl ?_
    refine Go.lloadN (pc' := 107) at_106 rfl rfl ?_
    have ne202 : b183 ≠ b_186 := (Nat.ne_of_lt (Nat.lt_of_lt_of_le A183.lt sz_b_186))
    refine Go.callV (cells' := 4) (slots' := 12) (pc' := 110) [(.ref w1), (.long p1)] [] (((A183.keep K186).keep K193).keep K199) (hw _ (List.mem_of_getElem? (i := 19) rfl)) (hw _ (List.mem_of_getElem? (i := 20) rfl)) (fun s' hs' => notFace_of_selects (args := #[]) (mvT hs' (hw _ (List.mem_of_getElem? (i := 22) rfl)))) (hw _ (List.mem_of_getElem? (i := 22) rfl)) (hw _ (List.mem_of_getElem? (i := 21) rfl)) (hw _ (List.mem_of_getElem? (i := 7) rfl)) (hw _ (List.mem_of_getElem? (i := 23) rfl)) (by decide) (c_count1 l Z a0 hw h199 b183 w1 p1 b_186 kb_186 (((0 : Int64) + p0)) (0 : Int64) (0 : Int64) (0 : Int64) (0 : Int64) x1 o1 ge_b_186 ((f196.keep K199 (ninS ne202 nin0))) F199_0) pd_2 rfl rfl rfl rfl rfl (Nat.le_of_ble_eq_true rfl) (Nat.le_of_ble_eq_true rfl) (Nat.le_of_ble_eq_true rfl) (Nat.le_of_ble_eq_true rfl) at_107 rfl ?_
    rintro _ h203 ⟨rfl, K203, F203_0⟩
    have K204 : Keep h h203 [] := K200.trans K203 (allS (Or.inr sz187) all0)
    show Go _ _ _ _ _ _ _ _ _ _ _ _ 110 #[.val (.long p0), .second, .val (.long p1), .second, .val (.long p2), .second, .val (.long p3), .second, .val (.long p4), .second, .val (.long p5), .second, .val (.int (3 : Int32)), .val (.ref w3), .val (.ref b177), .val (.ref b183), .unset, .unset, .unset, .unset, .unset, .unset, .unset, .unset, .unset, .unset] []
    refine Go.aload (pc' := 112) at_110 rfl rfl rfl ?_
    refine Go.old (fun old205 => ?_)
    refine Go.getstatic (pc' := 115) (host := "") (Or.inl (hw _ (List.mem_of_getElem? (i := 2) rfl))) Via.refl (s2.ext old205.2) at_112 rfl ?_
    refine Go.lload (pc' := 117) at_115 rfl rfl ?_
    have f206 : Fld Z h203 b183 "com/example/illumine/illumine/RenderStats" "counts" "[J" (.ref b_186) := ((f196.keep K199 (ninS ne202 nin0)).keep K203 (ninS ne202 nin0))
    have f207 : Exa Z h203 b183 "com/example/illumine/illumine/RenderStats" := ((((A183.keep K186).keep K193).keep K199).keep K203)
    refine Go.callV (cells' := 4) (slots' := 12) (pc' := 120) [(.ref w2), (.long p2)] [] f207 (hw _ (List.mem_of_getElem? (i := 19) rfl)) (hw _ (List.mem_of_getElem? (i := 20) rfl)) (fun s' hs' => notFace_of_selects (args := #[]) (mvT hs' (hw _ (List.mem_of_getElem? (i := 22) rfl)))) (hw _ (List.mem_of_getElem? (i := 22) rfl)) (hw _ (List.mem_of_getElem? (i := 21) rfl)) (hw _ (List.mem_of_getElem? (i := 7) rfl)) (hw _ (List.mem_of_getElem? (i := 23) rfl)) (by decide) (c_count2 l Z a0 hw h203 b183 w2 p2 b_186 kb_186 (((0 : Int64) + p0)) (((0 : Int64) + p1)) (0 : Int64) (0 : Int64) (0 : Int64) x2 o2 ge_b_186 f206 F203_0) pd_2 rfl rfl rfl rfl rfl (Nat.le_of_ble_eq_true rfl) (Nat.le_of_ble_eq_true rfl) (Nat.le_of_ble_eq_true rfl) (Nat.le_of_ble_eq_true rfl) at_117 rfl ?_
    rintro _ h208 ⟨rfl, K208, F208_0⟩
    have K209 : Keep h h208 [] := K204.trans K208 (allS (Or.inr sz187) all0)
    show Go _ _ _ _ _ _ _ _ _ _ _ _ 120 #[.val (.long p0), .second, .val (.long p1), .second, .val (.long p2), .second, .val (.long p3), .second, .val (.long p4), .second, .val (.long p5), .second, .val (.int (3 : Int32)), .val (.ref w3), .val (.ref b177), .val (.ref b183), .unset, .unset, .unset, .unset, .unset, .unset, .unset, .unset, .unset, .unset] []
    refine Go.aload (pc' := 122) at_120 rfl rfl rfl ?_
    refine Go.old (fun old210 => ?_)
    refine Go.getstatic (pc' := 125) (host := "") (Or.inl (hw _ (List.mem_of_getElem? (i := 37) rfl))) Via.refl (s3.ext old210.2) at_122 rfl ?_
    refine Go.lload (pc' := 127) at_125 rfl rfl ?_
    refine Go.callV (cells' := 4) (slots' := 12) (pc' := 130) [(.ref w3), (.long p3)] [] (f207.keep K208) (hw _ (List.mem_of_getElem? (i := 19) rfl)) (hw _ (List.mem_of_getElem? (i := 20) rfl)) (fun s' hs' => notFace_of_selects (args := #[]) (mvT hs' (hw _ (List.mem_of_getElem? (i := 22) rfl)))) (hw _ (List.mem_of_getElem? (i := 22) rfl)) (hw _ (List.mem_of_getElem? (i := 21) rfl)) (hw _ (List.mem_of_getElem? (i := 7) rfl)) (hw _ (List.mem_of_getElem? (i := 23) rfl)) (by decide) (c_count3 l Z a0 hw h208 b183 w3 p3 b_186 kb_186 (((0 : Int64) + p0)) (((0 : Int64) + p1)) (((0 : Int64) + p2)) (0 : Int64) (0 : Int64) x3 o3 ge_b_186 ((f206.keep K208 (ninS ne202 nin0))) F208_0) pd_2 rfl rfl rfl rfl rfl (Nat.le_of_ble_eq_true rfl) (Nat.le_of_ble_eq_true rfl) (Nat.le_of_ble_eq_true rfl) (Nat.le_of_ble_eq_true rfl) at_127 rfl ?_
    rintro _ h211 ⟨rfl, K211, F211_0⟩
    have K212 : Keep h h211 [] := K209.trans K211 (allS (Or.inr sz187) all0)
    show Go _ _ _ _ _ _ _ _ _ _ _ _ 130 #[.val (.long p0), .second, .val (.long p1), .second, .val (.long p2), .second, .val (.long p3), .second, .val (.long p4), .second, .val (.long p5), .second, .val (.int (3 : Int32)), .val (.ref w3), .val (.ref b177), .val (.ref b183), .unset, .unset, .unset, .unset, .unset, .unset, .unset, .unset, .unset, .unset] []
    refine Go.aload (pc' := 132) at_130 rfl rfl rfl ?_
    refine Go.old (fun old213 => ?_)
    refine Go.getstatic (pc' := 135) (host := "") (Or.inl (hw _ (List.mem_of_getElem? (i := 39) rfl))) Via.refl (s4.ext old213.2) at_132 rfl ?_
    refine Go.lload (pc' := 137) at_135 rfl rfl ?_
    have f214 : Fld Z h211 b183 "com/example/illumine/illumine/RenderStats" "counts" "[J" (.ref b_186) := ((f206.keep K208 (ninS ne202 nin0)).keep K211 (ninS ne202 nin0))
    refine Go.callV (cells' := 4) (slots' := 12) (pc' := 140) [(.ref w4), (.long p4)] [] ((f207.keep K208).keep K211) (hw _ (List.mem_of_getElem? (i := 19) rfl)) (hw _ (List.mem_of_getElem? (i := 20) rfl)) (fun s' hs' => notFace_of_selects (args := #[]) (mvT hs' (hw _ (List.mem_of_getElem? (i := 22) rfl)))) (hw _ (List.mem_of_getElem? (i := 22) rfl)) (hw _ (List.mem_of_getElem? (i := 21) rfl)) (hw _ (List.mem_of_getElem? (i := 7) rfl)) (hw _ (List.mem_of_getElem? (i := 23) rfl)) (by decide) (c_count4 l Z a0 hw h211 b183 w4 p4 b_186 kb_186 (((0 : Int64) + p0)) (((0 : Int64) + p1)) (((0 : Int64) + p2)) (((0 : Int64) + p3)) (0 : Int64) x4 o4 ge_b_186 f214 F211_0) pd_2 rfl rfl rfl rfl rfl (Nat.le_of_ble_eq_true rfl) (Nat.le_of_ble_eq_true rfl) (Nat.le_of_ble_eq_true rfl) (Nat.le_of_ble_eq_true rfl) at_137 rfl ?_
    rintro _ h215 ⟨rfl, K215, F215_0⟩
    have K216 : Keep h h215 [] := K212.trans K215 (allS (Or.inr sz187) all0)
    show Go _ _ _ _ _ _ _ _ _ _ _ _ 140 #[.val (.long p0), .second, .val (.long p1), .second, .val (.long p2), .second, .val (.long p3), .second, .val (.long p4), .second, .val (.long p5), .second, .val (.int (3 : Int32)), .val (.ref w3), .val (.ref b177), .val (.ref b183), .unset, .unset, .unset, .unset, .unset, .unset, .unset, .unset, .unset, .unset] []
    refine Go.aload (pc' := 142) at_140 rfl rfl rfl ?_
    refine Go.aload (pc' := 144) at_142 rfl rfl rfl ?_
    have ne217 : b177 ≠ b_180 := (Nat.ne_of_lt (Nat.lt_of_lt_of_le A177.lt sz_b_180))
    have ne218 : b177 ≠ b_186 := (Nat.ne_of_lt (Nat.lt_of_lt_of_le ((A177.keep K180).ext E183).lt sz_b_186))
    have f219 : Fld Z h215 b177 "com/example/illumine/illumine/RenderStats" "counts" "[J" (.ref b_180) := ((((((f190.keep K193 (ninS ne217 nin0)).keep K199 (ninS ne218 nin0)).keep K203 (ninS ne218 nin0)).keep K208 (ninS ne218 nin0)).keep K211 (ninS ne218 nin0)).keep K215 (ninS ne218 nin0))
    have f220 : Arv Z h215 b_180 kb_180 .long (5 : Int32) [(.long (0 : Int64)), (.long (0 : Int64)), (.long (0 : Int64)), (.long ((0 : Int64) + p5)), (.long (0 : Int64))] (.long 0) := (((((F193_0.keep K199 (ninS ne197 nin0)).keep K203 (ninS ne197 nin0)).keep K208 (ninS ne197 nin0)).keep K211 (ninS ne197 nin0)).keep K215 (ninS ne197 nin0))
    have f221 : Exa Z h215 b177 "com/example/illumine/illumine/RenderStats" := (((((((((A177.keep K180).ext E183).keep K186).keep K193).keep K199).keep K203).keep K208).keep K211).keep K215)
    refine Go.callV (cells' := 4) (slots' := 12) (pc' := 147) [(.ref b183)] [] f221 (hw _ (List.mem_of_getElem? (i := 41) rfl)) (hw _ (List.mem_of_getElem? (i := 42) rfl)) (fun s' hs' => notFace_of_selects (args := #[]) (mvT hs' (hw _ (List.mem_of_getElem? (i := 44) rfl)))) (hw _ (List.mem_of_getElem? (i := 44) rfl)) (hw _ (List.mem_of_getElem? (i := 43) rfl)) (hw _ (List.mem_of_getElem? (i := 7) rfl)) (hw _ (List.mem_of_getElem? (i := 45) rfl)) (by decide) (c_add l Z a0 hw h215 b177 b183 b_180 kb_180 b_186 kb_186 (0 : Int64) (0 : Int64) (0 : Int64) (((0 : Int64) + p5)) (0 : Int64) (((0 : Int64) + p0)) (((0 : Int64) + p1)) (((0 : Int64) + p2)) (((0 : Int64) + p3)) (((0 : Int64) + p4)) ge_b_180 ne217 (Ne.symm ne191) (Ne.symm ne197) f219 ((f214.keep K215 (ninS ne202 nin0))) f220 F215_0) pd_3 rfl rfl rfl rfl rfl (Nat.le_of_ble_eq_true rfl) (Nat.le_of_ble_eq_true rfl) (Nat.le_of_ble_eq_true rfl) (Nat.le_of_ble_eq_true rfl) at_144 rfl ?_
    rintro _ h222 ⟨rfl, K222, F222_0⟩
    have K223 : Keep h h222 [] := K216.trans K222 (allS (Or.inr sz181) all0)
    show Go _ _ _ _ _ _ _ _ _ _ _ _ 147 #[.val (.long p0), .second, .val (.long p1), .second, .val (.long p2), .second, .val (.long p3), .second, .val (.long p4), .second, .val (.long p5), .second, .val (.int (3 : Int32)), .val (.ref w3), .val (.ref b177), .val (.ref b183), .unset, .unset, .unset, .unset, .unset, .unset, .unset, .unset, .unset, .unset] []
    refine Go.lloadN (pc' := 148) at_147 rfl rfl ?_
    refine Go.iload (pc' := 150) at_148 rfl rfl ?_
    refine Go.ifYes (pc' := 158) at_150 (XT.i0_ne_t (by decide)) (by decide) (by decide) ?_
    refine Go.lconst (pc' := 159) (v := (0 : Int64)) at_158 rfl rfl ?_
    refine Go.ladd (pc' := 160) at_159 rfl ?_
    refine Go.lstore (pc' := 162) (Ls' := #[.val (.long p0), .second, .val (.long p1), .second, .val (.long p2), .second, .val (.long p3), .second, .val (.long p4), .second, .val (.long p5), .second, .val (.int (3 : Int32)), .val (.ref w3), .val (.ref b177), .val (.ref b183), .val (.long (p0 + (0 : Int64))), .second, .unset, .unset, .unset, .unset, .unset, .unset, .unset, .unset]) at_160 rfl rfl ?_
    refine Go.lloadN (pc' := 163) at_162 rfl rfl ?_
    refine Go.iload (pc' := 165) at_163 rfl rfl ?_
    refine Go.iconst (pc' := 166) (v := (1 : Int32)) at_165 rfl rfl ?_
    refine Go.icmpYes (pc' := 174) at_166 (XT.ii_ne_t (by decide)) (by decide) (by decide) ?_
    refine Go.lconst (pc' := 175) (v := (0 : Int64)) at_174 rfl rfl ?_
    refine Go.ladd (pc' := 176) at_175 rfl ?_
    refine Go.lstore (pc' := 178) (Ls' := #[.val (.long p0), .second, .val (.long p1), .second, .val (.long p2), .second, .val (.long p3), .second, .val (.long p4), .second, .val (.long p5), .second, .val (.int (3 : Int32)), .val (.ref w3), .val (.ref b177), .val (.ref b183), .val (.long (p0 + (0 : Int64))), .second, .val (.long (p1 + (0 : Int64))), .second, .unset, .unset, .unset, .unset, .unset, .unset]) at_176 rfl rfl ?_
    refine Go.lload (pc' := 180) at_178 rfl rfl ?_
    refine Go.iload (pc' := 182) at_180 rfl rfl ?_
    refine Go.iconst (pc' := 183) (v := (2 : Int32)) at_182 rfl rfl ?_
    refine Go.icmpYes (pc' := 191) at_183 (XT.ii_ne_t (by decide)) (by decide) (by decide) ?_
    refine Go.lconst (pc' := 192) (v := (0 : Int64)) at_191 rfl rfl ?_
    refine Go.ladd (pc' := 193) at_192 rfl ?_
    refine Go.lstore (pc' := 195) (Ls' := #[.val (.long p0), .second, .val (.long p1), .second, .val (.long p2), .second, .val (.long p3), .second, .val (.long p4), .second, .val (.long p5), .second, .val (.int (3 : Int32)), .val (.ref w3), .val (.ref b177), .val (.ref b183), .val (.long (p0 + (0 : Int64))), .second, .val (.long (p1 + (0 : Int64))), .second, .val (.long (p2 + (0 : Int64))), .second, .unset, .unset, .unset, .unset]) at_193 rfl rfl ?_
    refine Go.lload (pc' := 197) at_195 rfl rfl ?_
    refine Go.iload (pc' := 199) at_197 rfl rfl ?_
    refine Go.iconst (pc' := 200) (v := (3 : Int32)) at_199 rfl rfl ?_
    refine Go.icmpNo (pc' := 203) at_200 (XT.ii_ne_f (by decide)) rfl ?_
    refine Go.lload (pc' := 205) at_203 rfl rfl ?_
    refine Go.goto (pc' := 209) at_205 (by decide) (by decide) ?_
    refine Go.ladd (pc' := 210) at_209 rfl ?_
    refine Go.lstore (pc' := 212) (Ls' := #[.val (.long p0), .second, .val (.long p1), .second, .val (.long p2), .second, .val (.long p3), .second, .val (.long p4), .second, .val (.long p5), .second, .val (.int (3 : Int32)), .val (.ref w3), .val (.ref b177), .val (.ref b183), .val (.long (p0 + (0 : Int64))), .second, .val (.long (p1 + (0 : Int64))), .second, .val (.long (p2 + (0 : Int64))), .second, .val (.long (p3 + p5)), .second, .unset, .unset]) at_210 rfl rfl ?_
    refine Go.lload (pc' := 214) at_212 rfl rfl ?_
    refine Go.iload (pc' := 216) at_214 rfl rfl ?_
    refine Go.iconst (pc' := 217) (v := (4 : Int32)) at_216 rfl rfl ?_
    refine Go.icmpYes (pc' := 225) at_217 (XT.ii_ne_t (by decide)) (by decide) (by decide) ?_
    refine Go.lconst (pc' := 226) (v := (0 : Int64)) at_225 rfl rfl ?_
    refine Go.ladd (pc' := 227) at_226 rfl ?_
    refine Go.lstore (pc' := 229) (Ls' := #[.val (.long p0), .second, .val (.long p1), .second, .val (.long p2), .second, .val (.long p3), .second, .val (.long p4), .second, .val (.long p5), .second, .val (.int (3 : Int32)), .val (.ref w3), .val (.ref b177), .val (.ref b183), .val (.long (p0 + (0 : Int64))), .second, .val (.long (p1 + (0 : Int64))), .second, .val (.long (p2 + (0 : Int64))), .second, .val (.long (p3 + p5)), .second, .val (.long (p4 + (0 : Int64))), .second]) at_227 rfl rfl ?_
    refine Go.aload (pc' := 231) at_229 rfl rfl rfl ?_
    refine Go.callV (cells' := 4) (slots' := 12) (pc' := 234) [] [] (f221.keep K222) (hw _ (List.mem_of_getElem? (i := 46) rfl)) (hw _ (List.mem_of_getElem? (i := 47) rfl)) (fun s' hs' => notFace_of_selects (args := #[]) (mvT hs' (hw _ (List.mem_of_getElem? (i := 49) rfl)))) (hw _ (List.mem_of_getElem? (i := 49) rfl)) (hw _ (List.mem_of_getElem? (i := 48) rfl)) (hw _ (List.mem_of_getElem? (i := 7) rfl)) (hw _ (List.mem_of_getElem? (i := 50) rfl)) (by decide) (c_get0 l Z a0 hw h222 b177 w0 b_180 kb_180 (((0 : Int64) + ((0 : Int64) + p0))) (((0 : Int64) + ((0 : Int64) + p1))) (((0 : Int64) + ((0 : Int64) + p2))) ((((0 : Int64) + p5) + ((0 : Int64) + p3))) (((0 : Int64) + ((0 : Int64) + p4))) s0 x0 o0 ((f219.keep K222 (ninS ne217 nin0))) F222_0) pd_4 rfl rfl rfl rfl rfl (Nat.le_of_ble_eq_true rfl) (Nat.le_of_ble_eq_true rfl) (Nat.le_of_ble_eq_true rfl) (Nat.le_of_ble_eq_true rfl) at_231 rfl ?_
    rintro _ _ ⟨rfl, rfl⟩
    show Go _ _ _ _ _ _ _ _ _ _ _ _ 234 #[.val (.long p0), .second, .val (.long p1), .second, .val (.long p2), .second, .val (.long p3), .second, .val (.long p4), .second, .val (.long p5), .second, .val (.int (3 : Int32)), .val (.ref w3), .val (.ref b177), .val (.ref b183), .val (.long (p0 + (0 : Int64))), .second, .val (.long (p1 + (0 : Int64))), .second, .val (.long (p2 + (0 : Int64))), .second, .val (.long (p3 + p5)), .second, .val (.long (p4 + (0 : Int64))), .second] [(.long ((0 : Int64) + ((0 : Int64) + p0)))]
    refine Go.lload (pc' := 236) at_234 rfl rfl ?_
    refine Go.lcmp (pc' := 237) at_236 rfl ?_
    refine Go.ifNo (pc' := 240) at_237 (XT.ll_ne_f (by simp [Int64.add_comm] : ((0 : Int64) + ((0 : Int64) + p0)) = (p0 + (0 : Int64)))) rfl ?_
    refine Go.aload (pc' := 242) at_240 rfl rfl rfl ?_
    refine Go.callV (cells' := 4) (slots' := 12) (pc' := 245) [] [] (f221.keep K222) (hw _ (List.mem_of_getElem? (i := 52) rfl)) (hw _ (List.mem_of_getElem? (i := 53) rfl)) (fun s' hs' => notFace_of_selects (args := #[]) (mvT hs' (hw _ (List.mem_of_getElem? (i := 55) rfl)))) (hw _ (List.mem_of_getElem? (i := 55) rfl)) (hw _ (List.mem_of_getElem? (i := 54) rfl)) (hw _ (List.mem_of_getElem? (i := 7) rfl)) (hw _ (List.mem_of_getElem? (i := 56) rfl)) (by decide) (c_get1 l Z a0 hw h222 b177 w1 b_180 kb_180 (((0 : Int64) + ((0 : Int64) + p0))) (((0 : Int64) + ((0 : Int64) + p1))) (((0 : Int64) + ((0 : Int64) + p2))) ((((0 : Int64) + p5) + ((0 : Int64) + p3))) (((0 : Int64) + ((0 : Int64) + p4))) s1 x1 o1 ((f219.keep K222 (ninS ne217 nin0))) F222_0) pd_4 rfl rfl rfl rfl rfl (Nat.le_of_ble_eq_true rfl) (Nat.le_of_ble_eq_true rfl) (Nat.le_of_ble_eq_true rfl) (Nat.le_of_ble_eq_true rfl) at_242 rfl ?_
    rintro _ _ ⟨rfl, rfl⟩
    show Go _ _ _ _ _ _ _ _ _ _ _ _ 245 #[.val (.long p0), .second, .val (.long p1), .second, .val (.long p2), .second, .val (.long p3), .second, .val (.long p4), .second, .val (.long p5), .second, .val (.int (3 : Int32)), .val (.ref w3), .val (.ref b177), .val (.ref b183), .val (.long (p0 + (0 : Int64))), .second, .val (.long (p1 + (0 : Int64))), .second, .val (.long (p2 + (0 : Int64))), .second, .val (.long (p3 + p5)), .second, .val (.long (p4 + (0 : Int64))), .second] [(.long ((0 : Int64) + ((0 : Int64) + p1)))]
    refine Go.lload (pc' := 247) at_245 rfl rfl ?_
    refine Go.lcmp (pc' := 248) at_247 rfl ?_
    refine Go.ifNo (pc' := 251) at_248 (XT.ll_ne_f (by simp [Int64.add_comm] : ((0 : Int64) + ((0 : Int64) + p1)) = (p1 + (0 : Int64)))) rfl ?_
    refine Go.aload (pc' := 253) at_251 rfl rfl rfl ?_
    refine Go.callV (cells' := 4) (slots' := 12) (pc' := 256) [] [] (f221.keep K222) (hw _ (List.mem_of_getElem? (i := 58) rfl)) (hw _ (List.mem_of_getElem? (i := 59) rfl)) (fun s' hs' => notFace_of_selects (args := #[]) (mvT hs' (hw _ (List.mem_of_getElem? (i := 61) rfl)))) (hw _ (List.mem_of_getElem? (i := 61) rfl)) (hw _ (List.mem_of_getElem? (i := 60) rfl)) (hw _ (List.mem_of_getElem? (i := 7) rfl)) (hw _ (List.mem_of_getElem? (i := 62) rfl)) (by decide) (c_get2 l Z a0 hw h222 b177 w2 b_180 kb_180 (((0 : Int64) + ((0 : Int64) + p0))) (((0 : Int64) + ((0 : Int64) + p1))) (((0 : Int64) + ((0 : Int64) + p2))) ((((0 : Int64) + p5) + ((0 : Int64) + p3))) (((0 : Int64) + ((0 : Int64) + p4))) s2 x2 o2 ((f219.keep K222 (ninS ne217 nin0))) F222_0) pd_4 rfl rfl rfl rfl rfl (Nat.le_of_ble_eq_true rfl) (Nat.le_of_ble_eq_true rfl) (Nat.le_of_ble_eq_true rfl) (Nat.le_of_ble_eq_true rfl) at_253 rfl ?_
    rintro _ _ ⟨rfl, rfl⟩
    show Go _ _ _ _ _ _ _ _ _ _ _ _ 256 #[.val (.long p0), .second, .val (.long p1), .second, .val (.long p2), .second, .val (.long p3), .second, .val (.long p4), .second, .val (.long p5), .second, .val (.int (3 : Int32)), .val (.ref w3), .val (.ref b177), .val (.ref b183), .val (.long (p0 + (0 : Int64))), .second, .val (.long (p1 + (0 : Int64))), .second, .val (.long (p2 + (0 : Int64))), .second, .val (.long (p3 + p5)), .second, .val (.long (p4 + (0 : Int64))), .second] [(.long ((0 : Int64) + ((0 : Int64) + p2)))]
    refine Go.lload (pc' := 258) at_256 rfl rfl ?_
    refine Go.lcmp (pc' := 259) at_258 rfl ?_
    refine Go.ifNo (pc' := 262) at_259 (XT.ll_ne_f (by simp [Int64.add_comm] : ((0 : Int64) + ((0 : Int64) + p2)) = (p2 + (0 : Int64)))) rfl ?_
    refine Go.aload (pc' := 264) at_262 rfl rfl rfl ?_
    refine Go.callV (cells' := 4) (slots' := 12) (pc' := 267) [] [] (f221.keep K222) (hw _ (List.mem_of_getElem? (i := 64) rfl)) (hw _ (List.mem_of_getElem? (i := 65) rfl)) (fun s' hs' => notFace_of_selects (args := #[]) (mvT hs' (hw _ (List.mem_of_getElem? (i := 67) rfl)))) (hw _ (List.mem_of_getElem? (i := 67) rfl)) (hw _ (List.mem_of_getElem? (i := 66) rfl)) (hw _ (List.mem_of_getElem? (i := 7) rfl)) (hw _ (List.mem_of_getElem? (i := 68) rfl)) (by decide) (c_get3 l Z a0 hw h222 b177 w3 b_180 kb_180 (((0 : Int64) + ((0 : Int64) + p0))) (((0 : Int64) + ((0 : Int64) + p1))) (((0 : Int64) + ((0 : Int64) + p2))) ((((0 : Int64) + p5) + ((0 : Int64) + p3))) (((0 : Int64) + ((0 : Int64) + p4))) s3 x3 o3 ((f219.keep K222 (ninS ne217 nin0))) F222_0) pd_4 rfl rfl rfl rfl rfl (Nat.le_of_ble_eq_true rfl) (Nat.le_of_ble_eq_true rfl) (Nat.le_of_ble_eq_true rfl) (Nat.le_of_ble_eq_true rfl) at_264 rfl ?_
    rintro _ _ ⟨rfl, rfl⟩
    show Go _ _ _ _ _ _ _ _ _ _ _ _ 267 #[.val (.long p0), .second, .val (.long p1), .second, .val (.long p2), .second, .val (.long p3), .second, .val (.long p4), .second, .val (.long p5), .second, .val (.int (3 : Int32)), .val (.ref w3), .val (.ref b177), .val (.ref b183), .val (.long (p0 + (0 : Int64))), .second, .val (.long (p1 + (0 : Int64))), .second, .val (.long (p2 + (0 : Int64))), .second, .val (.long (p3 + p5)), .second, .val (.long (p4 + (0 : Int64))), .second] [(.long (((0 : Int64) + p5) + ((0 : Int64) + p3)))]
    refine Go.lload (pc' := 269) at_267 rfl rfl ?_
    refine Go.lcmp (pc' := 270) at_269 rfl ?_
    refine Go.ifNo (pc' := 273) at_270 (XT.ll_ne_f (by simp [Int64.add_comm] : (((0 : Int64) + p5) + ((0 : Int64) + p3)) = (p3 + p5))) rfl ?_
    refine Go.aload (pc' := 275) at_273 rfl rfl rfl ?_
    refine Go.callV (cells' := 4) (slots' := 12) (pc' := 278) [] [] (f221.keep K222) (hw _ (List.mem_of_getElem? (i := 70) rfl)) (hw _ (List.mem_of_getElem? (i := 71) rfl)) (fun s' hs' => notFace_of_selects (args := #[]) (mvT hs' (hw _ (List.mem_of_getElem? (i := 73) rfl)))) (hw _ (List.mem_of_getElem? (i := 73) rfl)) (hw _ (List.mem_of_getElem? (i := 72) rfl)) (hw _ (List.mem_of_getElem? (i := 7) rfl)) (hw _ (List.mem_of_getElem? (i := 74) rfl)) (by decide) (c_get4 l Z a0 hw h222 b177 w4 b_180 kb_180 (((0 : Int64) + ((0 : Int64) + p0))) (((0 : Int64) + ((0 : Int64) + p1))) (((0 : Int64) + ((0 : Int64) + p2))) ((((0 : Int64) + p5) + ((0 : Int64) + p3))) (((0 : Int64) + ((0 : Int64) + p4))) s4 x4 o4 ((f219.keep K222 (ninS ne217 nin0))) F222_0) pd_4 rfl rfl rfl rfl rfl (Nat.le_of_ble_eq_true rfl) (Nat.le_of_ble_eq_true rfl) (Nat.le_of_ble_eq_true rfl) (Nat.le_of_ble_eq_true rfl) at_275 rfl ?_
    rintro _ _ ⟨rfl, rfl⟩
    show Go _ _ _ _ _ _ _ _ _ _ _ _ 278 #[.val (.long p0), .second, .val (.long p1), .second, .val (.long p2), .second, .val (.long p3), .second, .val (.long p4), .second, .val (.long p5), .second, .val (.int (3 : Int32)), .val (.ref w3), .val (.ref b177), .val (.ref b183), .val (.long (p0 + (0 : Int64))), .second, .val (.long (p1 + (0 : Int64))), .second, .val (.long (p2 + (0 : Int64))), .second, .val (.long (p3 + p5)), .second, .val (.long (p4 + (0 : Int64))), .second] [(.long ((0 : Int64) + ((0 : Int64) + p4)))]
    refine Go.lload (pc' := 280) at_278 rfl rfl ?_
    refine Go.lcmp (pc' := 281) at_280 rfl ?_
    refine Go.ifNo (pc' := 284) at_281 (XT.ll_ne_f (by simp [Int64.add_comm] : ((0 : Int64) + ((0 : Int64) + p4)) = (p4 + (0 : Int64)))) rfl ?_
    refine Go.aload (pc' := 286) at_284 rfl rfl rfl ?_
    have f229 : Fld Z h222 b183 "com/example/illumine/illumine/RenderStats" "counts" "[J" (.ref b_186) := ((f214.keep K215 (ninS ne202 nin0)).keep K222 (ninS (Ne.symm ne191) nin0))
    have f230 : Arv Z h222 b_186 kb_186 .long (5 : Int32) [(.long ((0 : Int64) + p0)), (.long ((0 : Int64) + p1)), (.long ((0 : Int64) + p2)), (.long ((0 : Int64) + p3)), (.long ((0 : Int64) + p4))] (.long 0) := (F215_0.keep K222 (ninS (Ne.symm ne197) nin0))
    have f231 : Exa Z h222 b183 "com/example/illumine/illumine/RenderStats" := ((((f207.keep K208).keep K211).keep K215).keep K222)
    refine Go.callV (cells' := 4) (slots' := 12) (pc' := 289) [] [] f231 (hw _ (List.mem_of_getElem? (i := 46) rfl)) (hw _ (List.mem_of_getElem? (i := 47) rfl)) (fun s' hs' => notFace_of_selects (args := #[]) (mvT hs' (hw _ (List.mem_of_getElem? (i := 49) rfl)))) (hw _ (List.mem_of_getElem? (i := 49) rfl)) (hw _ (List.mem_of_getElem? (i := 48) rfl)) (hw _ (List.mem_of_getElem? (i := 7) rfl)) (hw _ (List.mem_of_getElem? (i := 50) rfl)) (by decide) (c_get0 l Z a0 hw h222 b183 w0 b_186 kb_186 (((0 : Int64) + p0)) (((0 : Int64) + p1)) (((0 : Int64) + p2)) (((0 : Int64) + p3)) (((0 : Int64) + p4)) s0 x0 o0 f229 f230) pd_4 rfl rfl rfl rfl rfl (Nat.le_of_ble_eq_true rfl) (Nat.le_of_ble_eq_true rfl) (Nat.le_of_ble_eq_true rfl) (Nat.le_of_ble_eq_true rfl) at_286 rfl ?_
    rintro _ _ ⟨rfl, rfl⟩
    show Go _ _ _ _ _ _ _ _ _ _ _ _ 289 #[.val (.long p0), .second, .val (.long p1), .second, .val (.long p2), .second, .val (.long p3), .second, .val (.long p4), .second, .val (.long p5), .second, .val (.int (3 : Int32)), .val (.ref w3), .val (.ref b177), .val (.ref b183), .val (.long (p0 + (0 : Int64))), .second, .val (.long (p1 + (0 : Int64))), .second, .val (.long (p2 + (0 : Int64))), .second, .val (.long (p3 + p5)), .second, .val (.long (p4 + (0 : Int64))), .second] [(.long ((0 : Int64) + p0))]
    refine Go.lloadN (pc' := 290) at_289 rfl rfl ?_
    refine Go.lcmp (pc' := 291) at_290 rfl ?_
    refine Go.ifNo (pc' := 294) at_291 (XT.ll_ne_f (by simp [Int64.add_comm] : ((0 : Int64) + p0) = p0)) rfl ?_
    refine Go.aload (pc' := 296) at_294 rfl rfl rfl ?_
    refine Go.callV (cells' := 4) (slots' := 12) (pc' := 299) [] [] f231 (hw _ (List.mem_of_getElem? (i := 70) rfl)) (hw _ (List.mem_of_getElem? (i := 71) rfl)) (fun s' hs' => notFace_of_selects (args := #[]) (mvT hs' (hw _ (List.mem_of_getElem? (i := 73) rfl)))) (hw _ (List.mem_of_getElem? (i := 73) rfl)) (hw _ (List.mem_of_getElem? (i := 72) rfl)) (hw _ (List.mem_of_getElem? (i := 7) rfl)) (hw _ (List.mem_of_getElem? (i := 74) rfl)) (by decide) (c_get4 l Z a0 hw h222 b183 w4 b_186 kb_186 (((0 : Int64) + p0)) (((0 : Int64) + p1)) (((0 : Int64) + p2)) (((0 : Int64) + p3)) (((0 : Int64) + p4)) s4 x4 o4 f229 f230) pd_4 rfl rfl rfl rfl rfl (Nat.le_of_ble_eq_true rfl) (Nat.le_of_ble_eq_true rfl) (Nat.le_of_ble_eq_true rfl) (Nat.le_of_ble_eq_true rfl) at_296 rfl ?_
    rintro _ _ ⟨rfl, rfl⟩
    show Go _ _ _ _ _ _ _ _ _ _ _ _ 299 #[.val (.long p0), .second, .val (.long p1), .second, .val (.long p2), .second, .val (.long p3), .second, .val (.long p4), .second, .val (.long p5), .second, .val (.int (3 : Int32)), .val (.ref w3), .val (.ref b177), .val (.ref b183), .val (.long (p0 + (0 : Int64))), .second, .val (.long (p1 + (0 : Int64))), .second, .val (.long (p2 + (0 : Int64))), .second, .val (.long (p3 + p5)), .second, .val (.long (p4 + (0 : Int64))), .second] [(.long ((0 : Int64) + p4))]
    refine Go.lload (pc' := 301) at_299 rfl rfl ?_
    refine Go.lcmp (pc' := 302) at_301 rfl ?_
    refine Go.ifNo (pc' := 305) at_302 (XT.ll_ne_f (by simp [Int64.add_comm] : ((0 : Int64) + p4) = p4)) rfl ?_
    refine Go.iconst (pc' := 306) (v := (1 : Int32)) at_305 rfl rfl ?_
    refine Go.goto (pc' := 310) at_306 (by decide) (by decide) ?_
    exact Go.retN (t := .boolean) rfl (by simp) at_310 ⟨rfl, K223⟩ (by decide) (by decide)
  ·
    rw [hk1]
    refine Go.iload (pc' := 15) at_13 rfl rfl ?_
    refine Go.ifYes (pc' := 24) at_15 (XT.i0_ne_t (by decide)) (by decide) (by decide) ?_
    refine Go.iload (pc' := 26) at_24 rfl rfl ?_
    refine Go.iconst (pc' := 27) (v := (1 : Int32)) at_26 rfl rfl ?_
    refine Go.icmpYes (pc' := 36) at_27 (XT.ii_ne_t (by decide)) (by decide) (by decide) ?_
    refine Go.iload (pc' := 38) at_36 rfl rfl ?_
    refine Go.iconst (pc' := 39) (v := (2 : Int32)) at_38 rfl rfl ?_
    refine Go.icmpYes (pc' := 48) at_39 (XT.ii_ne_t (by decide)) (by decide) (by decide) ?_
    refine Go.iload (pc' := 50) at_48 rfl rfl ?_
    refine Go.iconst (pc' := 51) (v := (3 : Int32)) at_50 rfl rfl ?_
    refine Go.icmpYes (pc' := 60) at_51 (XT.ii_ne_t (by decide)) (by decide) (by decide) ?_
    refine Go.old (fun old234 => ?_)
    refine Go.getstatic (pc' := 63) (host := "") (Or.inl (hw _ (List.mem_of_getElem? (i := 39) rfl))) Via.refl (s4.ext old234.2) at_60 rfl ?_
    refine Go.astore (pc' := 65) (Ls' := #[.val (.long p0), .second, .val (.long p1), .second, .val (.long p2), .second, .val (.long p3), .second, .val (.long p4), .second, .val (.long p5), .second, .val (.int (4 : Int32)), .val (.ref w4), .unset, .unset, .unset, .unset, .unset, .unset, .unset, .unset, .unset, .unset, .unset, .unset]) at_63 rfl rfl rfl ?_
    refine Go.new (pc' := 68) (cells' := 1) (slots' := 1) (hw _ (List.mem_of_getElem? (i := 5) rfl)) (hw _ (List.mem_of_getElem? (i := 6) rfl)) (hw _ (List.mem_of_getElem? (i := 7) rfl)) at_65 rfl rfl (by decide) (by decide) rfl ?_
    intro h235 b235 g235 E235 ge235 A235 D235
    have sz236 : h.size ≤ b235 := Nat.le_trans (Keep.refl h []).1 (Nat.le_of_eq g235.symm)
    have K237 : Keep h h235 [] := (Keep.refl h []).ext E235
    refine Go.dup (pc' := 69) at_68 rfl rfl ?_
    refine Go.callC (cells' := 2) (slots' := 6) (pc' := 72) [] [(.ref b235)] (a := b235) rfl rfl (hw _ (List.mem_of_getElem? (i := 8) rfl)) (hw _ (List.mem_of_getElem? (i := 9) rfl)) (hw _ (List.mem_of_getElem? (i := 7) rfl)) (hw _ (List.mem_of_getElem? (i := 10) rfl)) (by decide) (c_init l Z a0 hw h235 b235 wc kc vsc sc vc ge235 A235 ((D235 (Or.inr (hw _ (List.mem_of_getElem? (i := 18) rfl))) (ty := (.array .long)) (by decide) : Fld Z h235 b235 "com/example/illumine/illumine/RenderStats" "counts" "[J" .null))) pd_1 rfl rfl rfl rfl rfl (Nat.le_of_ble_eq_true rfl) (Nat.le_of_ble_eq_true rfl) (Nat.le_of_ble_eq_true rfl) (Nat.le_of_ble_eq_true rfl) at_69 rfl ?_
    rintro _ h238 ⟨b_238, kb_238, rfl, K238, ge_b_238, sz_b_238, F238_0, F238_1⟩
    have sz239 : h.size ≤ b_238 := Nat.le_trans K237.1 sz_b_238
    have K240 : Keep h h238 [] := K237.trans K238 (allS (Or.inr sz236) all0)
    show Go _ _ _ _ _ _ _ _ _ _ _ _ 72 #[.val (.long p0), .second, .val (.long p1), .second, .val (.long p2), .second, .val (.long p3), .second, .val (.long p4), .second, .val (.long p5), .second, .val (.int (4 : Int32)), .val (.ref w4), .unset, .unset, .unset, .unset, .unset, .unset, .unset, .unset, .unset, .unset, .unset, .unset] [(.ref b235)]
    refine Go.astore (pc' := 74) (Ls' := #[.val (.long p0), .second, .val (.long p1), .second, .val (.long p2), .second, .val (.long p3), .second, .val (.long p4), .second, .val (.long p5), .second, .val (.int (4 : Int32)), .val (.ref w4), .val (.ref b235), .unset, .unset, .unset, .unset, .unset, .unset, .unset, .unset, .unset, .unset, .unset]) at_72 rfl rfl rfl ?_
    refine Go.new (pc' := 77) (cells' := 3) (slots' := 7) (hw _ (List.mem_of_getElem? (i := 5) rfl)) (hw _ (List.mem_of_getElem? (i := 6) rfl)) (hw _ (List.mem_of_getElem? (i := 7) rfl)) at_74 rfl rfl (by decide) (by decide) rfl ?_
    intro h241 b241 g241 E241 ge241 A241 D241
    have sz242 : h.size ≤ b241 := Nat.le_trans K240.1 (Nat.le_of_eq g241.symm)
    have K243 : Keep h h241 [] := K240.ext E241
    refine Go.dup (pc' := 78) at_77 rfl rfl ?_
    refine Go.callC (cells' := 4) (slots' := 12) (pc' := 81) [] [(.ref b241)] (a := b241) rfl rfl (hw _ (List.mem_of_getElem? (i := 8) rfl)) (hw _ (List.mem_of_getElem? (i := 9) rfl)) (hw _ (List.mem_of_getElem? (i := 7) rfl)) (hw _ (List.mem_of_getElem? (i := 10) rfl)) (by decide) (c_init l Z a0 hw h241 b241 wc kc vsc sc vc ge241 A241 ((D241 (Or.inr (hw _ (List.mem_of_getElem? (i := 18) rfl))) (ty := (.array .long)) (by decide) : Fld Z h241 b241 "com/example/illumine/illumine/RenderStats" "counts" "[J" .null))) pd_1 rfl rfl rfl rfl rfl (Nat.le_of_ble_eq_true rfl) (Nat.le_of_ble_eq_true rfl) (Nat.le_of_ble_eq_true rfl) (Nat.le_of_ble_eq_true rfl) at_78 rfl ?_
    rintro _ h244 ⟨b_244, kb_244, rfl, K244, ge_b_244, sz_b_244, F244_0, F244_1⟩
    have sz245 : h.size ≤ b_244 := Nat.le_trans K243.1 sz_b_244
    have K246 : Keep h h244 [] := K243.trans K244 (allS (Or.inr sz242) all0)
    show Go _ _ _ _ _ _ _ _ _ _ _ _ 81 #[.val (.long p0), .second, .val (.long p1), .second, .val (.long p2), .second, .val (.long p3), .second, .val (.long p4), .second, .val (.long p5), .second, .val (.int (4 : Int32)), .val (.ref w4), .val (.ref b235), .unset, .unset, .unset, .unset, .unset, .unset, .unset, .unset, .unset, .unset, .unset] [(.ref b241)]
    refine Go.astore (pc' := 83) (Ls' := #[.val (.long p0), .second, .val (.long p1), .second, .val (.long p2), .second, .val (.long p3), .second, .val (.long p4), .second, .val (.long p5), .second, .val (.int (4 : Int32)), .val (.ref w4), .val (.ref b235), .val (.ref b241), .unset, .unset, .unset, .unset, .unset, .unset, .unset, .unset, .unset, .unset]) at_81 rfl rfl rfl ?_
    refine Go.aload (pc' := 85) at_83 rfl rfl rfl ?_
    refine Go.aload (pc' := 87) at_85 rfl rfl rfl ?_
    refine Go.lload (pc' := 89) at_87 rfl rfl ?_
    have ne247 : b235 ≠ b241 := (Nat.ne_of_lt (Nat.lt_of_lt_of_le F238_0.lt (Nat.le_of_eq g241.symm)))
    have f248 : Fld Z h244 b235 "com/example/illumine/illumine/RenderStats" "counts" "[J" (.ref b_238) := ((F238_0.ext E241).keep K244 (ninS ne247 nin0))
    have ne249 : b_238 ≠ b241 := (Nat.ne_of_lt (Nat.lt_of_lt_of_le F238_1.lt (Nat.le_of_eq g241.symm)))
    have f250 : Arv Z h244 b_238 kb_238 .long (5 : Int32) [(.long 0), (.long 0), (.long 0), (.long 0), (.long 0)] (.long 0) := ((F238_1.ext E241).keep K244 (ninS ne249 nin0))
    refine Go.callV (cells' := 4) (slots' := 12) (pc' := 92) [(.ref w4), (.long p5)] [] (((A235.keep K238).ext E241).keep K244) (hw _ (List.mem_of_getElem? (i := 19) rfl)) (hw _ (List.mem_of_getElem? (i := 20) rfl)) (fun s' hs' => notFace_of_selects (args := #[]) (mvT hs' (hw _ (List.mem_of_getElem? (i := 22) rfl)))) (hw _ (List.mem_of_getElem? (i := 22) rfl)) (hw _ (List.mem_of_getElem? (i := 21) rfl)) (hw _ (List.mem_of_getElem? (i := 7) rfl)) (hw _ (List.mem_of_getElem? (i := 23) rfl)) (by decide) (c_count4 l Z a0 hw h244 b235 w4 p5 b_238 kb_238 (0 : Int64) (0 : Int64) (0 : Int64) (0 : Int64) (0 : Int64) x4 o4 ge_b_238 f248 f250) pd_2 rfl rfl rfl rfl rfl (Nat.le_of_ble_eq_true rfl) (Nat.le_of_ble_eq_true rfl) (Nat.le_of_ble_eq_true rfl) (Nat.le_of_ble_eq_true rfl) at_89 rfl ?_
    rintro _ h251 ⟨rfl, K251, F251_0⟩
    have K252 : Keep h h251 [] := K246.trans K251 (allS (Or.inr sz239) all0)
    show Go _ _ _ _ _ _ _ _ _ _ _ _ 92 #[.val (.long p0), .second, .val (.long p1), .second, .val (.long p2), .second, .val (.long p3), .second, .val (.long p4), .second, .val (.long p5), .second, .val (.int (4 : Int32)), .val (.ref w4), .val (.ref b235), .val (.ref b241), .unset, .unset, .unset, .unset, .unset, .unset, .unset, .unset, .unset, .unset] []
    refine Go.aload (pc' := 94) at_92 rfl rfl rfl ?_
    refine Go.old (fun old253 => ?_)
    refine Go.getstatic (pc' := 97) (host := "") (Or.inl (hw _ (List.mem_of_getElem? (i := 33) rfl))) Via.refl (s0.ext old253.2) at_94 rfl ?_
    refine Go.lloadN (pc' := 98) at_97 rfl rfl ?_
    have f254 : Fld Z h251 b241 "com/example/illumine/illumine/RenderStats" "counts" "[J" (.ref b_244) := (F244_0.keep K251 (ninS (Ne.symm ne249) nin0))
    have ne255 : b_238 ≠ b_244 := (Nat.ne_of_lt (Nat.lt_of_lt_of_le (F238_1.ext E241).lt sz_b_244))
    have f256 : Arv Z h251 b_244 kb_244 .long (5 : Int32) [(.long 0), (.long 0), (.long 0), (.long 0), (.long 0)] (.long 0) := (F244_1.keep K251 (ninS (Ne.symm ne255) nin0))
    refine Go.callV (cells' := 4) (slots' := 12) (pc' := 101) [(.ref w0), (.long p0)] [] ((A241.keep K244).keep K251) (hw _ (List.mem_of_getElem? (i := 19) rfl)) (hw _ (List.mem_of_getElem? (i := 20) rfl)) (fun s' hs' => notFace_of_selects (args := #[]) (mvT hs' (hw _ (List.mem_of_getElem? (i := 22) rfl)))) (hw _ (List.mem_of_getElem? (i := 22) rfl)) (hw _ (List.mem_of_getElem? (i := 21) rfl)) (hw _ (List.mem_of_getElem? (i := 7) rfl)) (hw _ (List.mem_of_getElem? (i := 23) rfl)) (by decide) (c_count0 l Z a0 hw h251 b241 w0 p0 b_244 kb_244 (0 : Int64) (0 : Int64) (0 : Int64) (0 : Int64) (0 : Int64) x0 o0 ge_b_244 f254 f256) pd_2 rfl rfl rfl rfl rfl (Nat.le_of_ble_eq_true rfl) (Nat.le_of_ble_eq_true rfl) (Nat.le_of_ble_eq_true rfl) (Nat.le_of_ble_eq_true rfl) at_98 rfl ?_
    rintro _ h257 ⟨rfl, K257, F257_0⟩
    have K258 : Keep h h257 [] := K252.trans K257 (allS (Or.inr sz245) all0)
    show Go _ _ _ _ _ _ _ _ _ _ _ _ 101 #[.val (.long p0), .second, .val (.long p1), .second, .val (.long p2), .second, .val (.long p3), .second, .val (.long p4), .second, .val (.long p5), .second, .val (.int (4 : Int32)), .val (.ref w4), .val (.ref b235), .val (.ref b241), .unset, .unset, .unset, .unset, .unset, .unset, .unset, .unset, .unset, .unset] []
    refine Go.aload (pc' := 103) at_101 rfl rfl rfl ?_
    refine Go.old (fun old259 => ?_)
    refine Go.getstatic (pc' := 106) (host := "") (Or.inl (hw _ (List.mem_of_getElem? (i := 35) rfl))) Via.refl (s1.ext old259.2) at_103 rfl ?_
    refine Go.lloadN (pc' := 107) at_106 rfl rfl ?_
    have ne260 : b241 ≠ b_244 := (Nat.ne_of_lt (Nat.lt_of_lt_of_le A241.lt sz_b_244))
    refine Go.callV (cells' := 4) (slots' := 12) (pc' := 110) [(.ref w1), (.long p1)] [] (((A241.keep K244).keep K251).keep K257) (hw _ (List.mem_of_getElem? (i := 19) rfl)) (hw _ (List.mem_of_getElem? (i := 20) rfl)) (fun s' hs' => notFace_of_selects (args := #[]) (mvT hs' (hw _ (List.mem_of_getElem? (i := 22) rfl)))) (hw _ (List.mem_of_getElem? (i := 22) rfl)) (hw _ (List.mem_of_getElem? (i := 21) rfl)) (hw _ (List.mem_of_getElem? (i := 7) rfl)) (hw _ (List.mem_of_getElem? (i := 23) rfl)) (by decide) (c_count1 l Z a0 hw h257 b241 w1 p1 b_244 kb_244 (((0 : Int64) + p0)) (0 : Int64) (0 : Int64) (0 : Int64) (0 : Int64) x1 o1 ge_b_244 ((f254.keep K257 (ninS ne260 nin0))) F257_0) pd_2 rfl rfl rfl rfl rfl (Nat.le_of_ble_eq_true rfl) (Nat.le_of_ble_eq_true rfl) (Nat.le_of_ble_eq_true rfl) (Nat.le_of_ble_eq_true rfl) at_107 rfl ?_
    rintro _ h261 ⟨rfl, K261, F261_0⟩
    have K262 : Keep h h261 [] := K258.trans K261 (allS (Or.inr sz245) all0)
    show Go _ _ _ _ _ _ _ _ _ _ _ _ 110 #[.val (.long p0), .second, .val (.long p1), .second, .val (.long p2), .second, .val (.long p3), .second, .val (.long p4), .second, .val (.long p5), .second, .val (.int (4 : Int32)), .val (.ref w4), .val (.ref b235), .val (.ref b241), .unset, .unset, .unset, .unset, .unset, .unset, .unset, .unset, .unset, .unset] []
    refine Go.aload (pc' := 112) at_110 rfl rfl rfl ?_
    refine Go.old (fun old263 => ?_)
    refine Go.getstatic (pc' := 115) (host := "") (Or.inl (hw _ (List.mem_of_getElem? (i := 2) rfl))) Via.refl (s2.ext old263.2) at_112 rfl ?_
    refine Go.lload (pc' := 117) at_115 rfl rfl ?_
    have f264 : Fld Z h261 b241 "com/example/illumine/illumine/RenderStats" "counts" "[J" (.ref b_244) := ((f254.keep K257 (ninS ne260 nin0)).keep K261 (ninS ne260 nin0))
    have f265 : Exa Z h261 b241 "com/example/illumine/illumine/RenderStats" := ((((A241.keep K244).keep K251).keep K257).keep K261)
    refine Go.callV (cells' := 4) (slots' := 12) (pc' := 120) [(.ref w2), (.long p2)] [] f265 (hw _ (List.mem_of_getElem? (i := 19) rfl)) (hw _ (List.mem_of_getElem? (i := 20) rfl)) (fun s' hs' => notFace_of_selects (args := #[]) (mvT hs' (hw _ (List.mem_of_getElem? (i := 22) rfl)))) (hw _ (List.mem_of_getElem? (i := 22) rfl)) (hw _ (List.mem_of_getElem? (i := 21) rfl)) (hw _ (List.mem_of_getElem? (i := 7) rfl)) (hw _ (List.mem_of_getElem? (i := 23) rfl)) (by decide) (c_count2 l Z a0 hw h261 b241 w2 p2 b_244 kb_244 (((0 : Int64) + p0)) (((0 : Int64) + p1)) (0 : Int64) (0 : Int64) (0 : Int64) x2 o2 ge_b_244 f264 F261_0) pd_2 rfl rfl rfl rfl rfl (Nat.le_of_ble_eq_true rfl) (Nat.le_of_ble_eq_true rfl) (Nat.le_of_ble_eq_true rfl) (Nat.le_of_ble_eq_true rfl) at_117 rfl ?_
    rintro _ h266 ⟨rfl, K266, F266_0⟩
    have K267 : Keep h h266 [] := K262.trans K266 (allS (Or.inr sz245) all0)
    show Go _ _ _ _ _ _ _ _ _ _ _ _ 120 #[.val (.long p0), .second, .val (.long p1), .second, .val (.long p2), .second, .val (.long p3), .second, .val (.long p4), .second, .val (.long p5), .second, .val (.int (4 : Int32)), .val (.ref w4), .val (.ref b235), .val (.ref b241), .unset, .unset, .unset, .unset, .unset, .unset, .unset, .unset, .unset, .unset] []
    refine Go.aload (pc' := 122) at_120 rfl rfl rfl ?_
    refine Go.old (fun old268 => ?_)
    refine Go.getstatic (pc' := 125) (host := "") (Or.inl (hw _ (List.mem_of_getElem? (i := 37) rfl))) Via.refl (s3.ext old268.2) at_122 rfl ?_
    refine Go.lload (pc' := 127) at_125 rfl rfl ?_
    refine Go.callV (cells' := 4) (slots' := 12) (pc' := 130) [(.ref w3), (.long p3)] [] (f265.keep K266) (hw _ (List.mem_of_getElem? (i := 19) rfl)) (hw _ (List.mem_of_getElem? (i := 20) rfl)) (fun s' hs' => notFace_of_selects (args := #[]) (mvT hs' (hw _ (List.mem_of_getElem? (i := 22) rfl)))) (hw _ (List.mem_of_getElem? (i := 22) rfl)) (hw _ (List.mem_of_getElem? (i := 21) rfl)) (hw _ (List.mem_of_getElem? (i := 7) rfl)) (hw _ (List.mem_of_getElem? (i := 23) rfl)) (by decide) (c_count3 l Z a0 hw h266 b241 w3 p3 b_244 kb_244 (((0 : Int64) + p0)) (((0 : Int64) + p1)) (((0 : Int64) + p2)) (0 : Int64) (0 : Int64) x3 o3 ge_b_244 ((f264.keep K266 (ninS ne260 nin0))) F266_0) pd_2 rfl rfl rfl rfl rfl (Nat.le_of_ble_eq_true rfl) (Nat.le_of_ble_eq_true rfl) (Nat.le_of_ble_eq_true rfl) (Nat.le_of_ble_eq_true rfl) at_127 rfl ?_
    rintro _ h269 ⟨rfl, K269, F269_0⟩
    have K270 : Keep h h269 [] := K267.trans K269 (allS (Or.inr sz245) all0)
    show Go _ _ _ _ _ _ _ _ _ _ _ _ 130 #[.val (.long p0), .second, .val (.long p1), .second, .val (.long p2), .second, .val (.long p3), .second, .val (.long p4), .second, .val (.long p5), .second, .val (.int (4 : Int32)), .val (.ref w4), .val (.ref b235), .val (.ref b241), .unset, .unset, .unset, .unset, .unset, .unset, .unset, .unset, .unset, .unset] []
    refine Go.aload (pc' := 132) at_130 rfl rfl rfl ?_
    refine Go.old (fun old271 => ?_)
    refine Go.getstatic (pc' := 135) (host := "") (Or.inl (hw _ (List.mem_of_getElem? (i := 39) rfl))) Via.refl (s4.ext old271.2) at_132 rfl ?_
    refine Go.lload (pc' := 137) at_135 rfl rfl ?_
    have f272 : Fld Z h269 b241 "com/example/illumine/illumine/RenderStats" "counts" "[J" (.ref b_244) := ((f264.keep K266 (ninS ne260 nin0)).keep K269 (ninS ne260 nin0))
    refine Go.callV (cells' := 4) (slots' := 12) (pc' := 140) [(.ref w4), (.long p4)] [] ((f265.keep K266).keep K269) (hw _ (List.mem_of_getElem? (i := 19) rfl)) (hw _ (List.mem_of_getElem? (i := 20) rfl)) (fun s' hs' => notFace_of_selects (args := #[]) (mvT hs' (hw _ (List.mem_of_getElem? (i := 22) rfl)))) (hw _ (List.mem_of_getElem? (i := 22) rfl)) (hw _ (List.mem_of_getElem? (i := 21) rfl)) (hw _ (List.mem_of_getElem? (i := 7) rfl)) (hw _ (List.mem_of_getElem? (i := 23) rfl)) (by decide) (c_count4 l Z a0 hw h269 b241 w4 p4 b_244 kb_244 (((0 : Int64) + p0)) (((0 : Int64) + p1)) (((0 : Int64) + p2)) (((0 : Int64) + p3)) (0 : Int64) x4 o4 ge_b_244 f272 F269_0) pd_2 rfl rfl rfl rfl rfl (Nat.le_of_ble_eq_true rfl) (Nat.le_of_ble_eq_true rfl) (Nat.le_of_ble_eq_true rfl) (Nat.le_of_ble_eq_true rfl) at_137 rfl ?_
    rintro _ h273 ⟨rfl, K273, F273_0⟩
    have K274 : Keep h h273 [] := K270.trans K273 (allS (Or.inr sz245) all0)
    show Go _ _ _ _ _ _ _ _ _ _ _ _ 140 #[.val (.long p0), .second, .val (.long p1), .second, .val (.long p2), .second, .val (.long p3), .second, .val (.long p4), .second, .val (.long p5), .second, .val (.int (4 : Int32)), .val (.ref w4), .val (.ref b235), .val (.ref b241), .unset, .unset, .unset, .unset, .unset, .unset, .unset, .unset, .unset, .unset] []
    refine Go.aload (pc' := 142) at_140 rfl rfl rfl ?_
    refine Go.aload (pc' := 144) at_142 rfl rfl rfl ?_
    have ne275 : b235 ≠ b_238 := (Nat.ne_of_lt (Nat.lt_of_lt_of_le A235.lt sz_b_238))
    have ne276 : b235 ≠ b_244 := (Nat.ne_of_lt (Nat.lt_of_lt_of_le ((A235.keep K238).ext E241).lt sz_b_244))
    have f277 : Fld Z h273 b235 "com/example/illumine/illumine/RenderStats" "counts" "[J" (.ref b_238) := ((((((f248.keep K251 (ninS ne275 nin0)).keep K257 (ninS ne276 nin0)).keep K261 (ninS ne276 nin0)).keep K266 (ninS ne276 nin0)).keep K269 (ninS ne276 nin0)).keep K273 (ninS ne276 nin0))
    have f278 : Arv Z h273 b_238 kb_238 .long (5 : Int32) [(.long (0 : Int64)), (.long (0 : Int64)), (.long (0 : Int64)), (.long (0 : Int64)), (.long ((0 : Int64) + p5))] (.long 0) := (((((F251_0.keep K257 (ninS ne255 nin0)).keep K261 (ninS ne255 nin0)).keep K266 (ninS ne255 nin0)).keep K269 (ninS ne255 nin0)).keep K273 (ninS ne255 nin0))
    have f279 : Exa Z h273 b235 "com/example/illumine/illumine/RenderStats" := (((((((((A235.keep K238).ext E241).keep K244).keep K251).keep K257).keep K261).keep K266).keep K269).keep K273)
    refine Go.callV (cells' := 4) (slots' := 12) (pc' := 147) [(.ref b241)] [] f279 (hw _ (List.mem_of_getElem? (i := 41) rfl)) (hw _ (List.mem_of_getElem? (i := 42) rfl)) (fun s' hs' => notFace_of_selects (args := #[]) (mvT hs' (hw _ (List.mem_of_getElem? (i := 44) rfl)))) (hw _ (List.mem_of_getElem? (i := 44) rfl)) (hw _ (List.mem_of_getElem? (i := 43) rfl)) (hw _ (List.mem_of_getElem? (i := 7) rfl)) (hw _ (List.mem_of_getElem? (i := 45) rfl)) (by decide) (c_add l Z a0 hw h273 b235 b241 b_238 kb_238 b_244 kb_244 (0 : Int64) (0 : Int64) (0 : Int64) (0 : Int64) (((0 : Int64) + p5)) (((0 : Int64) + p0)) (((0 : Int64) + p1)) (((0 : Int64) + p2)) (((0 : Int64) + p3)) (((0 : Int64) + p4)) ge_b_238 ne275 (Ne.symm ne249) (Ne.symm ne255) f277 ((f272.keep K273 (ninS ne260 nin0))) f278 F273_0) pd_3 rfl rfl rfl rfl rfl (Nat.le_of_ble_eq_true rfl) (Nat.le_of_ble_eq_true rfl) (Nat.le_of_ble_eq_true rfl) (Nat.le_of_ble_eq_true rfl) at_144 rfl ?_
    rintro _ h280 ⟨rfl, K280, F280_0⟩
    have K281 : Keep h h280 [] := K274.trans K280 (allS (Or.inr sz239) all0)
    show Go _ _ _ _ _ _ _ _ _ _ _ _ 147 #[.val (.long p0), .second, .val (.long p1), .second, .val (.long p2), .second, .val (.long p3), .second, .val (.long p4), .second, .val (.long p5), .second, .val (.int (4 : Int32)), .val (.ref w4), .val (.ref b235), .val (.ref b241), .unset, .unset, .unset, .unset, .unset, .unset, .unset, .unset, .unset, .unset] []
    refine Go.lloadN (pc' := 148) at_147 rfl rfl ?_
    refine Go.iload (pc' := 150) at_148 rfl rfl ?_
    refine Go.ifYes (pc' := 158) at_150 (XT.i0_ne_t (by decide)) (by decide) (by decide) ?_
    refine Go.lconst (pc' := 159) (v := (0 : Int64)) at_158 rfl rfl ?_
    refine Go.ladd (pc' := 160) at_159 rfl ?_
    refine Go.lstore (pc' := 162) (Ls' := #[.val (.long p0), .second, .val (.long p1), .second, .val (.long p2), .second, .val (.long p3), .second, .val (.long p4), .second, .val (.long p5), .second, .val (.int (4 : Int32)), .val (.ref w4), .val (.ref b235), .val (.ref b241), .val (.long (p0 + (0 : Int64))), .second, .unset, .unset, .unset, .unset, .unset, .unset, .unset, .unset]) at_160 rfl rfl ?_
    refine Go.lloadN (pc' := 163) at_162 rfl rfl ?_
    refine Go.iload (pc' := 165) at_163 rfl rfl ?_
    refine Go.iconst (pc' := 166) (v := (1 : Int32)) at_165 rfl rfl ?_
    refine Go.icmpYes (pc' := 174) at_166 (XT.ii_ne_t (by decide)) (by decide) (by decide) ?_
    refine Go.lconst (pc' := 175) (v := (0 : Int64)) at_174 rfl rfl ?_
    refine Go.ladd (pc' := 176) at_175 rfl ?_
    refine Go.lstore (pc' := 178) (Ls' := #[.val (.long p0), .second, .val (.long p1), .second, .val (.long p2), .second, .val (.long p3), .second, .val (.long p4), .second, .val (.long p5), .second, .val (.int (4 : Int32)), .val (.ref w4), .val (.ref b235), .val (.ref b241), .val (.long (p0 + (0 : Int64))), .second, .val (.long (p1 + (0 : Int64))), .second, .unset, .unset, .unset, .unset, .unset, .unset]) at_176 rfl rfl ?_
    refine Go.lload (pc' := 180) at_178 rfl rfl ?_
    refine Go.iload (pc' := 182) at_180 rfl rfl ?_
    refine Go.iconst (pc' := 183) (v := (2 : Int32)) at_182 rfl rfl ?_
    refine Go.icmpYes (pc' := 191) at_183 (XT.ii_ne_t (by decide)) (by decide) (by decide) ?_
    refine Go.lconst (pc' := 192) (v := (0 : Int64)) at_191 rfl rfl ?_
    refine Go.ladd (pc' := 193) at_192 rfl ?_
    refine Go.lstore (pc' := 195) (Ls' := #[.val (.long p0), .second, .val (.long p1), .second, .val (.long p2), .second, .val (.long p3), .second, .val (.long p4), .second, .val (.long p5), .second, .val (.int (4 : Int32)), .val (.ref w4), .val (.ref b235), .val (.ref b241), .val (.long (p0 + (0 : Int64))), .second, .val (.long (p1 + (0 : Int64))), .second, .val (.long (p2 + (0 : Int64))), .second, .unset, .unset, .unset, .unset]) at_193 rfl rfl ?_
    refine Go.lload (pc' := 197) at_195 rfl rfl ?_
    refine Go.iload (pc' := 199) at_197 rfl rfl ?_
    refine Go.iconst (pc' := 200) (v := (3 : Int32)) at_199 rfl rfl ?_
    refine Go.icmpYes (pc' := 208) at_200 (XT.ii_ne_t (by decide)) (by decide) (by decide) ?_
    refine Go.lconst (pc' := 209) (v := (0 : Int64)) at_208 rfl rfl ?_
    refine Go.ladd (pc' := 210) at_209 rfl ?_
    refine Go.lstore (pc' := 212) (Ls' := #[.val (.long p0), .second, .val (.long p1), .second, .val (.long p2), .second, .val (.long p3), .second, .val (.long p4), .second, .val (.long p5), .second, .val (.int (4 : Int32)), .val (.ref w4), .val (.ref b235), .val (.ref b241), .val (.long (p0 + (0 : Int64))), .second, .val (.long (p1 + (0 : Int64))), .second, .val (.long (p2 + (0 : Int64))), .second, .val (.long (p3 + (0 : Int64))), .second, .unset, .unset]) at_210 rfl rfl ?_
    refine Go.lload (pc' := 214) at_212 rfl rfl ?_
    refine Go.iload (pc' := 216) at_214 rfl rfl ?_
    refine Go.iconst (pc' := 217) (v := (4 : Int32)) at_216 rfl rfl ?_
    refine Go.icmpNo (pc' := 220) at_217 (XT.ii_ne_f (by decide)) rfl ?_
    refine Go.lload (pc' := 222) at_220 rfl rfl ?_
    refine Go.goto (pc' := 226) at_222 (by decide) (by decide) ?_
    refine Go.ladd (pc' := 227) at_226 rfl ?_
    refine Go.lstore (pc' := 229) (Ls' := #[.val (.long p0), .second, .val (.long p1), .second, .val (.long p2), .second, .val (.long p3), .second, .val (.long p4), .second, .val (.long p5), .second, .val (.int (4 : Int32)), .val (.ref w4), .val (.ref b235), .val (.ref b241), .val (.long (p0 + (0 : Int64))), .second, .val (.long (p1 + (0 : Int64))), .second, .val (.long (p2 + (0 : Int64))), .second, .val (.long (p3 + (0 : Int64))), .second, .val (.long (p4 + p5)), .second]) at_227 rfl rfl ?_
    refine Go.aload (pc' := 231) at_229 rfl rfl rfl ?_
    refine Go.callV (cells' := 4) (slots' := 12) (pc' := 234) [] [] (f279.keep K280) (hw _ (List.mem_of_getElem? (i := 46) rfl)) (hw _ (List.mem_of_getElem? (i := 47) rfl)) (fun s' hs' => notFace_of_selects (args := #[]) (mvT hs' (hw _ (List.mem_of_getElem? (i := 49) rfl)))) (hw _ (List.mem_of_getElem? (i := 49) rfl)) (hw _ (List.mem_of_getElem? (i := 48) rfl)) (hw _ (List.mem_of_getElem? (i := 7) rfl)) (hw _ (List.mem_of_getElem? (i := 50) rfl)) (by decide) (c_get0 l Z a0 hw h280 b235 w0 b_238 kb_238 (((0 : Int64) + ((0 : Int64) + p0))) (((0 : Int64) + ((0 : Int64) + p1))) (((0 : Int64) + ((0 : Int64) + p2))) (((0 : Int64) + ((0 : Int64) + p3))) ((((0 : Int64) + p5) + ((0 : Int64) + p4))) s0 x0 o0 ((f277.keep K280 (ninS ne275 nin0))) F280_0) pd_4 rfl rfl rfl rfl rfl (Nat.le_of_ble_eq_true rfl) (Nat.le_of_ble_eq_true rfl) (Nat.le_of_ble_eq_true rfl) (Nat.le_of_ble_eq_true rfl) at_231 rfl ?_
    rintro _ _ ⟨rfl, rfl⟩
    show Go _ _ _ _ _ _ _ _ _ _ _ _ 234 #[.val (.long p0), .second, .val (.long p1), .second, .val (.long p2), .second, .val (.long p3), .second, .val (.long p4), .second, .val (.long p5), .second, .val (.int (4 : Int32)), .val (.ref w4), .val (.ref b235), .val (.ref b241), .val (.long (p0 + (0 : Int64))), .second, .val (.long (p1 + (0 : Int64))), .second, .val (.long (p2 + (0 : Int64))), .second, .val (.long (p3 + (0 : Int64))), .second, .val (.long (p4 + p5)), .second] [(.long ((0 : Int64) + ((0 : Int64) + p0)))]
    refine Go.lload (pc' := 236) at_234 rfl rfl ?_
    refine Go.lcmp (pc' := 237) at_236 rfl ?_
    refine Go.ifNo (pc' := 240) at_237 (XT.ll_ne_f (by simp [Int64.add_comm] : ((0 : Int64) + ((0 : Int64) + p0)) = (p0 + (0 : Int64)))) rfl ?_
    refine Go.aload (pc' := 242) at_240 rfl rfl rfl ?_
    refine Go.callV (cells' := 4) (slots' := 12) (pc' := 245) [] [] (f279.keep K280) (hw _ (List.mem_of_getElem? (i := 52) rfl)) (hw _ (List.mem_of_getElem? (i := 53) rfl)) (fun s' hs' => notFace_of_selects (args := #[]) (mvT hs' (hw _ (List.mem_of_getElem? (i := 55) rfl)))) (hw _ (List.mem_of_getElem? (i := 55) rfl)) (hw _ (List.mem_of_getElem? (i := 54) rfl)) (hw _ (List.mem_of_getElem? (i := 7) rfl)) (hw _ (List.mem_of_getElem? (i := 56) rfl)) (by decide) (c_get1 l Z a0 hw h280 b235 w1 b_238 kb_238 (((0 : Int64) + ((0 : Int64) + p0))) (((0 : Int64) + ((0 : Int64) + p1))) (((0 : Int64) + ((0 : Int64) + p2))) (((0 : Int64) + ((0 : Int64) + p3))) ((((0 : Int64) + p5) + ((0 : Int64) + p4))) s1 x1 o1 ((f277.keep K280 (ninS ne275 nin0))) F280_0) pd_4 rfl rfl rfl rfl rfl (Nat.le_of_ble_eq_true rfl) (Nat.le_of_ble_eq_true rfl) (Nat.le_of_ble_eq_true rfl) (Nat.le_of_ble_eq_true rfl) at_242 rfl ?_
    rintro _ _ ⟨rfl, rfl⟩
    show Go _ _ _ _ _ _ _ _ _ _ _ _ 245 #[.val (.long p0), .second, .val (.long p1), .second, .val (.long p2), .second, .val (.long p3), .second, .val (.long p4), .second, .val (.long p5), .second, .val (.int (4 : Int32)), .val (.ref w4), .val (.ref b235), .val (.ref b241), .val (.long (p0 + (0 : Int64))), .second, .val (.long (p1 + (0 : Int64))), .second, .val (.long (p2 + (0 : Int64))), .second, .val (.long (p3 + (0 : Int64))), .second, .val (.long (p4 + p5)), .second] [(.long ((0 : Int64) + ((0 : Int64) + p1)))]
    refine Go.lload (pc' := 247) at_245 rfl rfl ?_
    refine Go.lcmp (pc' := 248) at_247 rfl ?_
    refine Go.ifNo (pc' := 251) at_248 (XT.ll_ne_f (by simp [Int64.add_comm] : ((0 : Int64) + ((0 : Int64) + p1)) = (p1 + (0 : Int64)))) rfl ?_
    refine Go.aload (pc' := 253) at_251 rfl rfl rfl ?_
    refine Go.callV (cells' := 4) (slots' := 12) (pc' := 256) [] [] (f279.keep K280) (hw _ (List.mem_of_getElem? (i := 58) rfl)) (hw _ (List.mem_of_getElem? (i := 59) rfl)) (fun s' hs' => notFace_of_selects (args := #[]) (mvT hs' (hw _ (List.mem_of_getElem? (i := 61) rfl)))) (hw _ (List.mem_of_getElem? (i := 61) rfl)) (hw _ (List.mem_of_getElem? (i := 60) rfl)) (hw _ (List.mem_of_getElem? (i := 7) rfl)) (hw _ (List.mem_of_getElem? (i := 62) rfl)) (by decide) (c_get2 l Z a0 hw h280 b235 w2 b_238 kb_238 (((0 : Int64) + ((0 : Int64) + p0))) (((0 : Int64) + ((0 : Int64) + p1))) (((0 : Int64) + ((0 : Int64) + p2))) (((0 : Int64) + ((0 : Int64) + p3))) ((((0 : Int64) + p5) + ((0 : Int64) + p4))) s2 x2 o2 ((f277.keep K280 (ninS ne275 nin0))) F280_0) pd_4 rfl rfl rfl rfl rfl (Nat.le_of_ble_eq_true rfl) (Nat.le_of_ble_eq_true rfl) (Nat.le_of_ble_eq_true rfl) (Nat.le_of_ble_eq_true rfl) at_253 rfl ?_
    rintro _ _ ⟨rfl, rfl⟩
    show Go _ _ _ _ _ _ _ _ _ _ _ _ 256 #[.val (.long p0), .second, .val (.long p1), .second, .val (.long p2), .second, .val (.long p3), .second, .val (.long p4), .second, .val (.long p5), .second, .val (.int (4 : Int32)), .val (.ref w4), .val (.ref b235), .val (.ref b241), .val (.long (p0 + (0 : Int64))), .second, .val (.long (p1 + (0 : Int64))), .second, .val (.long (p2 + (0 : Int64))), .second, .val (.long (p3 + (0 : Int64))), .second, .val (.long (p4 + p5)), .second] [(.long ((0 : Int64) + ((0 : Int64) + p2)))]
    refine Go.lload (pc' := 258) at_256 rfl rfl ?_
    refine Go.lcmp (pc' := 259) at_258 rfl ?_
    refine Go.ifNo (pc' := 262) at_259 (XT.ll_ne_f (by simp [Int64.add_comm] : ((0 : Int64) + ((0 : Int64) + p2)) = (p2 + (0 : Int64)))) rfl ?_
    refine Go.aload (pc' := 264) at_262 rfl rfl rfl ?_
    refine Go.callV (cells' := 4) (slots' := 12) (pc' := 267) [] [] (f279.keep K280) (hw _ (List.mem_of_getElem? (i := 64) rfl)) (hw _ (List.mem_of_getElem? (i := 65) rfl)) (fun s' hs' => notFace_of_selects (args := #[]) (mvT hs' (hw _ (List.mem_of_getElem? (i := 67) rfl)))) (hw _ (List.mem_of_getElem? (i := 67) rfl)) (hw _ (List.mem_of_getElem? (i := 66) rfl)) (hw _ (List.mem_of_getElem? (i := 7) rfl)) (hw _ (List.mem_of_getElem? (i := 68) rfl)) (by decide) (c_get3 l Z a0 hw h280 b235 w3 b_238 kb_238 (((0 : Int64) + ((0 : Int64) + p0))) (((0 : Int64) + ((0 : Int64) + p1))) (((0 : Int64) + ((0 : Int64) + p2))) (((0 : Int64) + ((0 : Int64) + p3))) ((((0 : Int64) + p5) + ((0 : Int64) + p4))) s3 x3 o3 ((f277.keep K280 (ninS ne275 nin0))) F280_0) pd_4 rfl rfl rfl rfl rfl (Nat.le_of_ble_eq_true rfl) (Nat.le_of_ble_eq_true rfl) (Nat.le_of_ble_eq_true rfl) (Nat.le_of_ble_eq_true rfl) at_264 rfl ?_
    rintro _ _ ⟨rfl, rfl⟩
    show Go _ _ _ _ _ _ _ _ _ _ _ _ 267 #[.val (.long p0), .second, .val (.long p1), .second, .val (.long p2), .second, .val (.long p3), .second, .val (.long p4), .second, .val (.long p5), .second, .val (.int (4 : Int32)), .val (.ref w4), .val (.ref b235), .val (.ref b241), .val (.long (p0 + (0 : Int64))), .second, .val (.long (p1 + (0 : Int64))), .second, .val (.long (p2 + (0 : Int64))), .second, .val (.long (p3 + (0 : Int64))), .second, .val (.long (p4 + p5)), .second] [(.long ((0 : Int64) + ((0 : Int64) + p3)))]
    refine Go.lload (pc' := 269) at_267 rfl rfl ?_
    refine Go.lcmp (pc' := 270) at_269 rfl ?_
    refine Go.ifNo (pc' := 273) at_270 (XT.ll_ne_f (by simp [Int64.add_comm] : ((0 : Int64) + ((0 : Int64) + p3)) = (p3 + (0 : Int64)))) rfl ?_
    refine Go.aload (pc' := 275) at_273 rfl rfl rfl ?_
    refine Go.callV (cells' := 4) (slots' := 12) (pc' := 278) [] [] (f279.keep K280) (hw _ (List.mem_of_getElem? (i := 70) rfl)) (hw _ (List.mem_of_getElem? (i := 71) rfl)) (fun s' hs' => notFace_of_selects (args := #[]) (mvT hs' (hw _ (List.mem_of_getElem? (i := 73) rfl)))) (hw _ (List.mem_of_getElem? (i := 73) rfl)) (hw _ (List.mem_of_getElem? (i := 72) rfl)) (hw _ (List.mem_of_getElem? (i := 7) rfl)) (hw _ (List.mem_of_getElem? (i := 74) rfl)) (by decide) (c_get4 l Z a0 hw h280 b235 w4 b_238 kb_238 (((0 : Int64) + ((0 : Int64) + p0))) (((0 : Int64) + ((0 : Int64) + p1))) (((0 : Int64) + ((0 : Int64) + p2))) (((0 : Int64) + ((0 : Int64) + p3))) ((((0 : Int64) + p5) + ((0 : Int64) + p4))) s4 x4 o4 ((f277.keep K280 (ninS ne275 nin0))) F280_0) pd_4 rfl rfl rfl rfl rfl (Nat.le_of_ble_eq_true rfl) (Nat.le_of_ble_eq_true rfl) (Nat.le_of_ble_eq_true rfl) (Nat.le_of_ble_eq_true rfl) at_275 rfl ?_
    rintro _ _ ⟨rfl, rfl⟩
    show Go _ _ _ _ _ _ _ _ _ _ _ _ 278 #[.val (.long p0), .second, .val (.long p1), .second, .val (.long p2), .second, .val (.long p3), .second, .val (.long p4), .second, .val (.long p5), .second, .val (.int (4 : Int32)), .val (.ref w4), .val (.ref b235), .val (.ref b241), .val (.long (p0 + (0 : Int64))), .second, .val (.long (p1 + (0 : Int64))), .second, .val (.long (p2 + (0 : Int64))), .second, .val (.long (p3 + (0 : Int64))), .second, .val (.long (p4 + p5)), .second] [(.long (((0 : Int64) + p5) + ((0 : Int64) + p4)))]
    refine Go.lload (pc' := 280) at_278 rfl rfl ?_
    refine Go.lcmp (pc' := 281) at_280 rfl ?_
    refine Go.ifNo (pc' := 284) at_281 (XT.ll_ne_f (by simp [Int64.add_comm] : (((0 : Int64) + p5) + ((0 : Int64) + p4)) = (p4 + p5))) rfl ?_
    refine Go.aload (pc' := 286) at_284 rfl rfl rfl ?_
    have f287 : Fld Z h280 b241 "com/example/illumine/illumine/RenderStats" "counts" "[J" (.ref b_244) := ((f272.keep K273 (ninS ne260 nin0)).keep K280 (ninS (Ne.symm ne249) nin0))
    have f288 : Arv Z h280 b_244 kb_244 .long (5 : Int32) [(.long ((0 : Int64) + p0)), (.long ((0 : Int64) + p1)), (.long ((0 : Int64) + p2)), (.long ((0 : Int64) + p3)), (.long ((0 : Int64) + p4))] (.long 0) := (F273_0.keep K280 (ninS (Ne.symm ne255) nin0))
    have f289 : Exa Z h280 b241 "com/example/illumine/illumine/RenderStats" := ((((f265.keep K266).keep K269).keep K273).keep K280)
    refine Go.callV (cells' := 4) (slots' := 12) (pc' := 289) [] [] f289 (hw _ (List.mem_of_getElem? (i := 46) rfl)) (hw _ (List.mem_of_getElem? (i := 47) rfl)) (fun s' hs' => notFace_of_selects (args := #[]) (mvT hs' (hw _ (List.mem_of_getElem? (i := 49) rfl)))) (hw _ (List.mem_of_getElem? (i := 49) rfl)) (hw _ (List.mem_of_getElem? (i := 48) rfl)) (hw _ (List.mem_of_getElem? (i := 7) rfl)) (hw _ (List.mem_of_getElem? (i := 50) rfl)) (by decide) (c_get0 l Z a0 hw h280 b241 w0 b_244 kb_244 (((0 : Int64) + p0)) (((0 : Int64) + p1)) (((0 : Int64) + p2)) (((0 : Int64) + p3)) (((0 : Int64) + p4)) s0 x0 o0 f287 f288) pd_4 rfl rfl rfl rfl rfl (Nat.le_of_ble_eq_true rfl) (Nat.le_of_ble_eq_true rfl) (Nat.le_of_ble_eq_true rfl) (Nat.le_of_ble_eq_true rfl) at_286 rfl ?_
    rintro _ _ ⟨rfl, rfl⟩
    show Go _ _ _ _ _ _ _ _ _ _ _ _ 289 #[.val (.long p0), .second, .val (.long p1), .second, .val (.long p2), .second, .val (.long p3), .second, .val (.long p4), .second, .val (.long p5), .second, .val (.int (4 : Int32)), .val (.ref w4), .val (.ref b235), .val (.ref b241), .val (.long (p0 + (0 : Int64))), .second, .val (.long (p1 + (0 : Int64))), .second, .val (.long (p2 + (0 : Int64))), .second, .val (.long (p3 + (0 : Int64))), .second, .val (.long (p4 + p5)), .second] [(.long ((0 : Int64) + p0))]
    refine Go.lloadN (pc' := 290) at_289 rfl rfl ?_
    refine Go.lcmp (pc' := 291) at_290 rfl ?_
    refine Go.ifNo (pc' := 294) at_291 (XT.ll_ne_f (by simp [Int64.add_comm] : ((0 : Int64) + p0) = p0)) rfl ?_
    refine Go.aload (pc' := 296) at_294 rfl rfl rfl ?_
    refine Go.callV (cells' := 4) (slots' := 12) (pc' := 299) [] [] f289 (hw _ (List.mem_of_getElem? (i := 70) rfl)) (hw _ (List.mem_of_getElem? (i := 71) rfl)) (fun s' hs' => notFace_of_selects (args := #[]) (mvT hs' (hw _ (List.mem_of_getElem? (i := 73) rfl)))) (hw _ (List.mem_of_getElem? (i := 73) rfl)) (hw _ (List.mem_of_getElem? (i := 72) rfl)) (hw _ (List.mem_of_getElem? (i := 7) rfl)) (hw _ (List.mem_of_getElem? (i := 74) rfl)) (by decide) (c_get4 l Z a0 hw h280 b241 w4 b_244 kb_244 (((0 : Int64) + p0)) (((0 : Int64) + p1)) (((0 : Int64) + p2)) (((0 : Int64) + p3)) (((0 : Int64) + p4)) s4 x4 o4 f287 f288) pd_4 rfl rfl rfl rfl rfl (Nat.le_of_ble_eq_true rfl) (Nat.le_of_ble_eq_true rfl) (Nat.le_of_ble_eq_true rfl) (Nat.le_of_ble_eq_true rfl) at_296 rfl ?_
    rintro _ _ ⟨rfl, rfl⟩
    show Go _ _ _ _ _ _ _ _ _ _ _ _ 299 #[.val (.long p0), .second, .val (.long p1), .second, .val (.long p2), .second, .val (.long p3), .second, .val (.long p4), .second, .val (.long p5), .second, .val (.int (4 : Int32)), .val (.ref w4), .val (.ref b235), .val (.ref b241), .val (.long (p0 + (0 : Int64))), .second, .val (.long (p1 + (0 : Int64))), .second, .val (.long (p2 + (0 : Int64))), .second, .val (.long (p3 + (0 : Int64))), .second, .val (.long (p4 + p5)), .second] [(.long ((0 : Int64) + p4))]
    refine Go.lload (pc' := 301) at_299 rfl rfl ?_
    refine Go.lcmp (pc' := 302) at_301 rfl ?_
    refine Go.ifNo (pc' := 305) at_302 (XT.ll_ne_f (by simp [Int64.add_comm] : ((0 : Int64) + p4) = p4)) rfl ?_
    refine Go.iconst (pc' := 306) (v := (1 : Int32)) at_305 rfl rfl ?_
    refine Go.goto (pc' := 310) at_306 (by decide) (by decide) ?_
    exact Go.retN (t := .boolean) rfl (by simp) at_310 ⟨rfl, K281⟩ (by decide) (by decide)
set_option maxRecDepth 65536 in
set_option maxHeartbeats 4000000 in
theorem comes_1 {Post : Tables → Env → Array Value → State → Outcome → State → Prop} (hpost : ∀ tb e args s v u, (limb_1_1.after args s (.returned v) u = true ∧ limb_1_2.after args s (.returned v) u = true ∧ True) → FrameEnd s (.returned v) u (Jvm.fieldLocs frame_1_writes args s ++ Jvm.arrayLocs frame_1_arrays args s ++ Jvm.staticLocs frame_1_statics s) 16 128 → Post tb e args s (.returned v) u) :
    ArmFor flags0 classFile x code maxLocals ret World_1 tables_1 room_1 Calls_1 rest_1 Pre_1 Post := by
  intro l hfl _ _ p e ha hc hk s m args below hf hA hF happ hP
  obtain ⟨hcalls, hrest, hpre⟩ := hP
  obtain ⟨-, -, -, hnamed, -, -, -, hat⟩ := (Spec.applies_iff hf).mp happ
  obtain ⟨hg, hn⟩ := and_e (Cond.before_iff.mp (show (Jvm.Cond.and given_1 narrow_1).before args s = true from hpre))
  obtain ⟨g1, g2⟩ := and_e hg
  obtain ⟨g3, g4⟩ := and_e g2
  obtain ⟨g5, g6⟩ := and_e g4
  obtain ⟨g7, g8⟩ := and_e g6
  obtain ⟨g9, g10⟩ := and_e g8
  obtain ⟨g11, g12⟩ := and_e g10
  obtain ⟨w0, w1, w2, w3, w4, w5, rfl⟩ : ∃ w0 w1 w2 w3 w4 w5 : Value, args = #[w0, w1, w2, w3, w4, w5] := by
    have hs : args.size = 6 := by simpa [Cond.value, given_1] using g1
    obtain ⟨L⟩ := args
    match L, hs with
    | [w0, w1, w2, w3, w4, w5], _ => exact ⟨w0, w1, w2, w3, w4, w5, rfl⟩
  have hw := fun d (hd : d ∈ tables_1) => atoms_spec (ws := Jvm.Cond.code x code maxLocals ret :: tables_1) hat d (List.mem_cons_of_mem _ hd)
  have hfit : Fit s := fun {y c} hc i hi => by
    obtain ⟨ha, rfl⟩ := Array.getElem?_eq_some_iff.mp hc
    have q := List.all_eq_true.mp ((Array.all_eq_true_iff_forall_mem.mp hF) _ (Array.getElem_mem ha)) i (List.mem_range.mpr hi)
    simpa [Array.getElem?_eq_getElem hi] using q
  obtain ⟨i0, ei0⟩ := isL_v g3
  obtain rfl : w0 = (.long i0) := Option.some.inj ei0
  obtain ⟨i1, ei1⟩ := isL_v g5
  obtain rfl : w1 = (.long i1) := Option.some.inj ei1
  obtain ⟨i2, ei2⟩ := isL_v g7
  obtain rfl : w2 = (.long i2) := Option.some.inj ei2
  obtain ⟨i3, ei3⟩ := isL_v g9
  obtain rfl : w3 = (.long i3) := Option.some.inj ei3
  obtain ⟨i4, ei4⟩ := isL_v g11
  obtain rfl : w4 = (.long i4) := Option.some.inj ei4
  obtain ⟨i5, ei5⟩ := isL_v g12
  obtain rfl : w5 = (.long i5) := Option.some.inj ei5
  obtain ⟨c0, cr0⟩ := and_e hn
  obtain ⟨c1, cr1⟩ := and_e cr0
  obtain ⟨c2, cr2⟩ := and_e cr1
  obtain ⟨c3, cr3⟩ := and_e cr2
  obtain ⟨c4, cr4⟩ := and_e cr3
  obtain ⟨c5, cr5⟩ := and_e cr4
  obtain ⟨c6, cr6⟩ := and_e cr5
  obtain ⟨c7, cr7⟩ := and_e cr6
  obtain ⟨c8, cr8⟩ := and_e cr7
  obtain ⟨c9, cr9⟩ := and_e cr8
  obtain ⟨c10, cr10⟩ := and_e cr9
  obtain ⟨w0, ev_w0⟩ := exa_v c4
  have exa_w0 := Exa.start ev_w0 c4
  have sta_w0 := Sta.start ev_w0 (Or.inr ⟨(hw _ (List.mem_of_getElem? (i := 3) rfl)), (hw _ (List.mem_of_getElem? (i := 34) rfl))⟩)
  have ord_0 := own_fld ev_w0 (own_eqI c5)
  obtain ⟨w1, ev_w1⟩ := exa_v c6
  have exa_w1 := Exa.start ev_w1 c6
  have sta_w1 := Sta.start ev_w1 (Or.inr ⟨(hw _ (List.mem_of_getElem? (i := 3) rfl)), (hw _ (List.mem_of_getElem? (i := 36) rfl))⟩)
  have ord_1 := own_fld ev_w1 (own_eqI c7)
  obtain ⟨w2, ev_w2⟩ := exa_v c0
  have exa_w2 := Exa.start ev_w2 c0
  have sta_w2 := Sta.start ev_w2 (Or.inr ⟨(hw _ (List.mem_of_getElem? (i := 3) rfl)), (hw _ (List.mem_of_getElem? (i := 4) rfl))⟩)
  have ord_2 := own_fld ev_w2 (own_eqI c3)
  obtain ⟨w3, ev_w3⟩ := exa_v c8
  have exa_w3 := Exa.start ev_w3 c8
  have sta_w3 := Sta.start ev_w3 (Or.inr ⟨(hw _ (List.mem_of_getElem? (i := 3) rfl)), (hw _ (List.mem_of_getElem? (i := 38) rfl))⟩)
  have ord_3 := own_fld ev_w3 (own_eqI c9)
  obtain ⟨w4, ev_w4⟩ := exa_v c10
  have exa_w4 := Exa.start ev_w4 c10
  have sta_w4 := Sta.start ev_w4 (Or.inr ⟨(hw _ (List.mem_of_getElem? (i := 3) rfl)), (hw _ (List.mem_of_getElem? (i := 40) rfl))⟩)
  have ord_4 := own_fld ev_w4 (own_eqI cr10)
  obtain ⟨wc, ev_wc⟩ := arr_v c1
  obtain ⟨cc, Ac, hc1, hc2⟩ := own_arr ev_wc c1 (own_eqI c2)
  have sta_wc := Sta.start ev_wc (Or.inr ⟨(hw _ (List.mem_of_getElem? (i := 7) rfl)), (hw _ (List.mem_of_getElem? (i := 15) rfl))⟩)
  have vc := own_arvAny (dv := .null) hfit Ac hc1 hc2 (by decide)
  obtain ⟨n, o, h1, h2, h3, _, L, rfl, ⟨hQ, N⟩, hq⟩ := c_law l s _ hw s.heap i0 i1 i2 i3 i4 i5 w0 w1 w2 w3 w4 wc cc.cls cc.slots.toList sta_w0 exa_w0 ord_0 sta_w1 exa_w1 ord_1 sta_w2 exa_w2 ord_2 sta_w3 exa_w3 ord_3 sta_w4 exa_w4 ord_4 sta_wc vc (Old.start s) tables_1 p e ha hc hk s m _ below hf ((Spec.applies_iff_loose hf).mp happ).1 ⟨rfl, State.Warmed39.refl s, rfl⟩ trivial
  obtain rfl := hQ.1
  refine ⟨n, _, h1, h2, h3, hpost _ _ _ _ _ _ ⟨Cond.after_iff.mpr rfl, Cond.after_iff.mpr (eq_i res_at (Term.int_eval (1)) rfl), trivial⟩ ⟨hq.1, hq.2.1, (hq.2.2.sift fun y hy => Or.inr (N y hy)).mono (by decide) (by decide)⟩⟩
theorem main_1_1 : Claimed_1_1 := comes_1 fun _ _ _ _ _ _ h hF => ⟨h.1, hF⟩
theorem main_1_2 : Claimed_1_2 := comes_1 fun _ _ _ _ _ _ h hF => ⟨h.2.1, hF⟩

end Jvm.Pilot.@@N@@
namespace Jvm.Pilot.@@N@@
open Jvm Jvm.ClassFile Sem Op Lib Jvm.Free Jvm.Stand Jvm.Pilot.@@N@@.Jvm.D
/-! MADE BY PROGRAM (witnessworld.py) out of the Statement's table words and the real class files: 16 classes; the members and pool entries that the words name. The judged class is class 1, her method 1. -/
namespace start1
open Jvm.ClassFile
def u (s : String) : CpInfo := .utf8 (stringToUtf16 s)
/-- a pool by its gaps: so many unusable entries, then the entry; so many at the end -/
def gap : Nat → List CpInfo → List CpInfo
  | 0, r => r
  | n + 1, r => .unusable :: gap n r
def poolList (es : List (Nat × CpInfo)) (last : Nat) : List CpInfo := es.foldr (fun e r => gap e.1 (e.2 :: r)) (gap last [])
def pool (es : List (Nat × CpInfo)) (last : Nat) : Array CpInfo := ⟨poolList es last⟩
def fileOf (pool : Array CpInfo) (this : Nat) (attrs : Array Attribute := #[]) (ms : Array MethodInfo := #[]) (fl : Nat := 33) (sup : Nat := 0) (ifs : Array Nat := #[]) (fds : Array FieldInfo := #[]) : ClassFile where
  minorVersion := 0
  majorVersion := 65
  constantPool := pool
  accessFlags := fl
  thisClass := this
  superClass := sup
  interfaces := ifs
  fields := fds
  methods := ms
  attributes := attrs
def plain (name : String) (sup : Option ClassId) : Class where
  name := name
  kind := .ordinary
  loader := none
  accessFlags := 33
  super := sup
  interfaces := #[]
  cf := none
  fields := #[]
  methods := #[]
  instanceTypes := #[]
  staticTypes := #[]
  resolved := #[]
  callSites := []
  init := .initialized
  statics := none
  mirror := none

def pool0 : Array CpInfo := pool [(5, u "<init>"), (0, u "()V"), (1, .class_ 10), (1, u "java/lang/Object")] 113

def k0c0 : Code := { maxStack := 0, maxLocals := 1, code := object_method_1_code, exceptionTable := #[], attributes := #[] }
def k0m0 : Method := { name := "<init>", desc := "()V", sig := { parameters := [], returnType := none }, accessFlags := 1, code := some k0c0 }
/-- java/lang/Object -/
def k0 : Class := { plain "java/lang/Object" none with
  accessFlags := 33
  interfaces := #[]
  cf := some (fileOf pool0 8 #[] #[{ accessFlags := 1, nameIndex := 5, descriptorIndex := 6, attributes := #[] }] 33 0 #[] #[])
  fields := #[]
  methods := #[k0m0]
  instanceTypes := #[]
  staticTypes := #[]
  resolved := Array.replicate 124 none
  statics := none }

def pool1 : Array CpInfo := pool [(2, .class_ 4), (0, .nameAndType 5 6), (0, u "java/lang/Object"), (0, u "<init>"), (0, u "()V"), (0, .long 9223372036854775807), (1, .long 5), (1, .fieldref 12 13), (0, .class_ 14), (0, .nameAndType 15 16), (0, u "com/example/illumine/illumine/RenderStats$Count"), (0, u "TRIANGLES"), (0, u "Lcom/example/illumine/illumine/RenderStats$Count;"), (0, .fieldref 12 18), (0, .nameAndType 19 16), (0, u "PRIMARY_RAYS"), (0, .fieldref 12 21), (0, .nameAndType 22 16), (0, u "SHADOW_RAYS"), (0, .fieldref 12 24), (0, .nameAndType 25 16), (0, u "SECONDARY_RAYS"), (0, .fieldref 12 27), (0, .nameAndType 28 16), (0, u "CONE_TESTS"), (0, .class_ 30), (0, u "com/example/illumine/illumine/RenderStats"), (0, .methodref 29 3), (0, .methodref 29 33), (0, .nameAndType 34 35), (0, u "count"), (0, u "(Lcom/example/illumine/illumine/RenderStats$Count;J)V"), (0, .methodref 29 37), (0, .nameAndType 38 39), (0, u "add"), (0, u "(Lcom/example/illumine/illumine/RenderStats;)V"), (0, .methodref 29 41), (0, .nameAndType 42 43), (0, u "triangles"), (0, u "()J"), (0, .methodref 29 45), (0, .nameAndType 46 43), (0, u "primaryRays"), (0, .methodref 29 48), (0, .nameAndType 49 43), (0, u "shadowRays"), (0, .methodref 29 51), (0, .nameAndType 52 43), (0, u "secondaryRays"), (0, .methodref 29 54), (0, .nameAndType 55 43), (0, u "coneTests"), (0, .class_ 57), (0, u "com/example/illumine/illumine/RenderStatsAddPinLaw"), (2, u "law"), (0, u "(JJJJJJ)Z")] 5

def k1m0 : Method := { name := "<init>", desc := "()V", sig := { parameters := [], returnType := none }, accessFlags := 1, code := none }
def k1c1 : Code := { maxStack := 4, maxLocals := 26, code := code, exceptionTable := #[], attributes := #[] }
def k1m1 : Method := { name := "law", desc := "(JJJJJJ)Z", sig := { parameters := [.long, .long, .long, .long, .long, .long], returnType := some .boolean }, accessFlags := 9, code := some k1c1 }
/-- com/example/illumine/illumine/RenderStatsAddPinLaw -/
def k1 : Class := { plain "com/example/illumine/illumine/RenderStatsAddPinLaw" (some 0) with
  accessFlags := 49
  interfaces := #[]
  cf := some (fileOf pool1 56 #[] #[{ accessFlags := 1, nameIndex := 5, descriptorIndex := 6, attributes := #[] }, { accessFlags := 9, nameIndex := 60, descriptorIndex := 61, attributes := #[] }] 49 2 #[] #[])
  fields := #[]
  methods := #[k1m0, k1m1]
  instanceTypes := #[]
  staticTypes := #[]
  resolved := Array.replicate 67 none
  statics := none }

def pool2 : Array CpInfo := pool [(1, .class_ 2), (0, u "java/lang/constant/Constable"), (0, .class_ 4), (0, u "java/lang/Object")] 6

/-- java/lang/constant/Constable -/
def k2 : Class := { plain "java/lang/constant/Constable" (some 0) with
  accessFlags := 1537
  interfaces := #[]
  cf := some (fileOf pool2 1 #[] #[] 1537 3 #[] #[])
  fields := #[]
  methods := #[]
  instanceTypes := #[]
  staticTypes := #[]
  resolved := Array.replicate 11 none
  statics := none }

def pool3 : Array CpInfo := pool [(1, .class_ 2), (0, u "java/lang/Comparable"), (0, .class_ 4), (0, u "java/lang/Object")] 7

/-- java/lang/Comparable -/
def k3 : Class := { plain "java/lang/Comparable" (some 0) with
  accessFlags := 1537
  interfaces := #[]
  cf := some (fileOf pool3 1 #[] #[] 1537 3 #[] #[])
  fields := #[]
  methods := #[]
  instanceTypes := #[]
  staticTypes := #[]
  resolved := Array.replicate 12 none
  statics := none }

def pool4 : Array CpInfo := pool [(1, .class_ 2), (0, u "java/io/Serializable"), (0, .class_ 4), (0, u "java/lang/Object")] 2

/-- java/io/Serializable -/
def k4 : Class := { plain "java/io/Serializable" (some 0) with
  accessFlags := 1537
  interfaces := #[]
  cf := some (fileOf pool4 1 #[] #[] 1537 3 #[] #[])
  fields := #[]
  methods := #[]
  instanceTypes := #[]
  staticTypes := #[]
  resolved := Array.replicate 7 none
  statics := none }

def pool5 : Array CpInfo := pool [(2, .class_ 4), (1, u "java/lang/Enum"), (0, u "name"), (0, u "Ljava/lang/String;"), (0, .fieldref 2 8), (0, .nameAndType 9 10), (0, u "ordinal"), (0, u "I"), (1, .class_ 14), (1, u "java/lang/Object"), (4, u "hash"), (86, .class_ 108), (1, u "java/lang/Enum$EnumDesc"), (2, .class_ 112), (0, u "java/lang/constant/Constable"), (0, .class_ 114), (0, u "java/lang/Comparable"), (0, .class_ 116), (0, u "java/io/Serializable"), (9, u "()I")] 77

def k5c0 : Code := { maxStack := 1, maxLocals := 1, code := jdk_37_method_2_code, exceptionTable := #[], attributes := #[] }
def k5m0 : Method := { name := "ordinal", desc := "()I", sig := { parameters := [], returnType := some .int }, accessFlags := 17, code := some k5c0 }
/-- java/lang/Enum -/
def k5 : Class := { plain "java/lang/Enum" (some 0) with
  accessFlags := 1057
  interfaces := #[2, 3, 4]
  cf := some (fileOf pool5 2 #[.nestMembers #[106]] #[{ accessFlags := 17, nameIndex := 9, descriptorIndex := 126, attributes := #[] }] 1057 12 #[111, 113, 115] #[{ accessFlags := 18, nameIndex := 5, descriptorIndex := 6, attributes := #[] }, { accessFlags := 18, nameIndex := 9, descriptorIndex := 10, attributes := #[] }, { accessFlags := 2, nameIndex := 19, descriptorIndex := 10, attributes := #[] }])
  fields := #[{ name := "name", type := (.object "java/lang/String"), accessFlags := 18, slot := 0, constantValue := 0 }, { name := "ordinal", type := .int, accessFlags := 18, slot := 1, constantValue := 0 }, { name := "hash", type := .int, accessFlags := 2, slot := 2, constantValue := 0 }]
  methods := #[k5m0]
  instanceTypes := #[(.object "java/lang/String"), .int, .int]
  staticTypes := #[]
  resolved := Array.replicate 204 none
  statics := none }

def pool6 : Array CpInfo := pool [(1, .class_ 2), (0, u "com/example/illumine/illumine/RenderStats$Count"), (2, u "TRIANGLES"), (0, u "Lcom/example/illumine/illumine/RenderStats$Count;"), (2, u "PRIMARY_RAYS"), (2, u "SHADOW_RAYS"), (2, u "SECONDARY_RAYS"), (2, u "CONE_TESTS"), (2, u "$VALUES"), (0, u "[Lcom/example/illumine/illumine/RenderStats$Count;"), (6, .class_ 31), (1, u "java/lang/Enum"), (8, u "label"), (0, u "Ljava/lang/String;"), (35, .class_ 78), (0, u "com/example/illumine/illumine/RenderStats")] 2

/-- com/example/illumine/illumine/RenderStats$Count -/
def k6 : Class := { plain "com/example/illumine/illumine/RenderStats$Count" (some 5) with
  accessFlags := 16432
  interfaces := #[]
  cf := some (fileOf pool6 1 #[.nestHost 77] #[] 16432 29 #[] #[{ accessFlags := 16409, nameIndex := 5, descriptorIndex := 6, attributes := #[] }, { accessFlags := 16409, nameIndex := 9, descriptorIndex := 6, attributes := #[] }, { accessFlags := 16409, nameIndex := 12, descriptorIndex := 6, attributes := #[] }, { accessFlags := 16409, nameIndex := 15, descriptorIndex := 6, attributes := #[] }, { accessFlags := 16409, nameIndex := 18, descriptorIndex := 6, attributes := #[] }, { accessFlags := 18, nameIndex := 40, descriptorIndex := 41, attributes := #[] }, { accessFlags := 4122, nameIndex := 21, descriptorIndex := 22, attributes := #[] }])
  fields := #[{ name := "TRIANGLES", type := (.object "com/example/illumine/illumine/RenderStats$Count"), accessFlags := 16409, slot := 0, constantValue := 0 }, { name := "PRIMARY_RAYS", type := (.object "com/example/illumine/illumine/RenderStats$Count"), accessFlags := 16409, slot := 1, constantValue := 0 }, { name := "SHADOW_RAYS", type := (.object "com/example/illumine/illumine/RenderStats$Count"), accessFlags := 16409, slot := 2, constantValue := 0 }, { name := "SECONDARY_RAYS", type := (.object "com/example/illumine/illumine/RenderStats$Count"), accessFlags := 16409, slot := 3, constantValue := 0 }, { name := "CONE_TESTS", type := (.object "com/example/illumine/illumine/RenderStats$Count"), accessFlags := 16409, slot := 4, constantValue := 0 }, { name := "label", type := (.object "java/lang/String"), accessFlags := 18, slot := 3, constantValue := 0 }, { name := "$VALUES", type := (.array (.object "com/example/illumine/illumine/RenderStats$Count")), accessFlags := 4122, slot := 5, constantValue := 0 }]
  methods := #[]
  instanceTypes := #[(.object "java/lang/String"), .int, .int, (.object "java/lang/String")]
  staticTypes := #[(.object "com/example/illumine/illumine/RenderStats$Count"), (.object "com/example/illumine/illumine/RenderStats$Count"), (.object "com/example/illumine/illumine/RenderStats$Count"), (.object "com/example/illumine/illumine/RenderStats$Count"), (.object "com/example/illumine/illumine/RenderStats$Count"), (.array (.object "com/example/illumine/illumine/RenderStats$Count"))]
  resolved := Array.replicate 81 none
  statics := some 0 }

def pool7 : Array CpInfo := pool [(1, .methodref 2 3), (0, .class_ 4), (0, .nameAndType 5 6), (0, u "java/lang/Object"), (0, u "<init>"), (0, u "()V"), (0, .fieldref 8 9), (0, .class_ 10), (0, .nameAndType 11 12), (0, u "com/example/illumine/illumine/RenderStats"), (0, u "COUNTS"), (0, u "[Lcom/example/illumine/illumine/RenderStats$Count;"), (0, .fieldref 8 14), (0, .nameAndType 15 16), (0, u "counts"), (0, u "[J"), (0, .methodref 18 19), (0, .class_ 20), (0, .nameAndType 21 22), (0, u "com/example/illumine/illumine/RenderStats$Count"), (0, u "ordinal"), (0, u "()I"), (0, .fieldref 18 24), (0, .nameAndType 25 26), (0, u "TRIANGLES"), (0, u "Lcom/example/illumine/illumine/RenderStats$Count;"), (0, .fieldref 18 28), (0, .nameAndType 29 26), (0, u "PRIMARY_RAYS"), (0, .fieldref 18 31), (0, .nameAndType 32 26), (0, u "SHADOW_RAYS"), (0, .fieldref 18 34), (0, .nameAndType 35 26), (0, u "SECONDARY_RAYS"), (0, .fieldref 18 37), (0, .nameAndType 38 26), (0, u "CONE_TESTS"), (15, u "add"), (11, u "count"), (1, u "(Lcom/example/illumine/illumine/RenderStats$Count;J)V"), (0, u "(Lcom/example/illumine/illumine/RenderStats;)V"), (1, u "triangles"), (0, u "()J"), (0, u "primaryRays"), (0, u "shadowRays"), (0, u "secondaryRays"), (0, u "coneTests")] 25

def k7c0 : Code := { maxStack := 2, maxLocals := 1, code := prog_41_method_1_code, exceptionTable := #[], attributes := #[] }
def k7m0 : Method := { name := "<init>", desc := "()V", sig := { parameters := [], returnType := none }, accessFlags := 1, code := some k7c0 }
def k7c1 : Code := { maxStack := 6, maxLocals := 4, code := prog_41_method_3_code, exceptionTable := #[], attributes := #[] }
def k7m1 : Method := { name := "count", desc := "(Lcom/example/illumine/illumine/RenderStats$Count;J)V", sig := { parameters := [(.object "com/example/illumine/illumine/RenderStats$Count"), .long], returnType := none }, accessFlags := 0, code := some k7c1 }
def k7c2 : Code := { maxStack := 6, maxLocals := 3, code := prog_41_method_4_code, exceptionTable := #[], attributes := #[] }
def k7m2 : Method := { name := "add", desc := "(Lcom/example/illumine/illumine/RenderStats;)V", sig := { parameters := [(.object "com/example/illumine/illumine/RenderStats")], returnType := none }, accessFlags := 0, code := some k7c2 }
def k7c3 : Code := { maxStack := 2, maxLocals := 1, code := prog_41_method_5_code, exceptionTable := #[], attributes := #[] }
def k7m3 : Method := { name := "triangles", desc := "()J", sig := { parameters := [], returnType := some .long }, accessFlags := 1, code := some k7c3 }
def k7c4 : Code := { maxStack := 2, maxLocals := 1, code := prog_41_method_6_code, exceptionTable := #[], attributes := #[] }
def k7m4 : Method := { name := "primaryRays", desc := "()J", sig := { parameters := [], returnType := some .long }, accessFlags := 1, code := some k7c4 }
def k7c5 : Code := { maxStack := 2, maxLocals := 1, code := prog_41_method_7_code, exceptionTable := #[], attributes := #[] }
def k7m5 : Method := { name := "shadowRays", desc := "()J", sig := { parameters := [], returnType := some .long }, accessFlags := 1, code := some k7c5 }
def k7c6 : Code := { maxStack := 2, maxLocals := 1, code := prog_41_method_8_code, exceptionTable := #[], attributes := #[] }
def k7m6 : Method := { name := "secondaryRays", desc := "()J", sig := { parameters := [], returnType := some .long }, accessFlags := 1, code := some k7c6 }
def k7c7 : Code := { maxStack := 2, maxLocals := 1, code := prog_41_method_9_code, exceptionTable := #[], attributes := #[] }
def k7m7 : Method := { name := "coneTests", desc := "()J", sig := { parameters := [], returnType := some .long }, accessFlags := 1, code := some k7c7 }
/-- com/example/illumine/illumine/RenderStats -/
def k7 : Class := { plain "com/example/illumine/illumine/RenderStats" (some 0) with
  accessFlags := 49
  interfaces := #[]
  cf := some (fileOf pool7 8 #[.nestMembers #[18]] #[{ accessFlags := 1, nameIndex := 5, descriptorIndex := 6, attributes := #[] }, { accessFlags := 0, nameIndex := 66, descriptorIndex := 68, attributes := #[] }, { accessFlags := 0, nameIndex := 54, descriptorIndex := 69, attributes := #[] }, { accessFlags := 1, nameIndex := 71, descriptorIndex := 72, attributes := #[] }, { accessFlags := 1, nameIndex := 73, descriptorIndex := 72, attributes := #[] }, { accessFlags := 1, nameIndex := 74, descriptorIndex := 72, attributes := #[] }, { accessFlags := 1, nameIndex := 75, descriptorIndex := 72, attributes := #[] }, { accessFlags := 1, nameIndex := 76, descriptorIndex := 72, attributes := #[] }] 49 2 #[] #[{ accessFlags := 26, nameIndex := 11, descriptorIndex := 12, attributes := #[] }, { accessFlags := 18, nameIndex := 15, descriptorIndex := 16, attributes := #[] }])
  fields := #[{ name := "COUNTS", type := (.array (.object "com/example/illumine/illumine/RenderStats$Count")), accessFlags := 26, slot := 0, constantValue := 0 }, { name := "counts", type := (.array .long), accessFlags := 18, slot := 0, constantValue := 0 }]
  methods := #[k7m0, k7m1, k7m2, k7m3, k7m4, k7m5, k7m6, k7m7]
  instanceTypes := #[(.array .long)]
  staticTypes := #[(.array (.object "com/example/illumine/illumine/RenderStats$Count"))]
  resolved := Array.replicate 102 none
  statics := some 1 }

def pool8 : Array CpInfo := pool [(1, u "java/lang/Cloneable"), (0, .class_ 1), (0, u "java/lang/Object"), (0, .class_ 3)] 3

/-- java/lang/Cloneable -/
def k8 : Class := { plain "java/lang/Cloneable" (some 0) with
  accessFlags := 1537
  interfaces := #[]
  cf := some (fileOf pool8 2 #[] #[] 1537 4 #[] #[])
  fields := #[]
  methods := #[]
  instanceTypes := #[]
  staticTypes := #[]
  resolved := Array.replicate 8 none
  statics := none }

/-- the primitive byte -/
def k9 : Class := { plain "byte" none with kind := .primitive 'B', accessFlags := 0x411 }
/-- [B -/
def k10 : Class := { plain "[B" (some 0) with kind := .array 9 .byte, interfaces := #[8, 4], accessFlags := 1041 }

/-- the primitive int -/
def k11 : Class := { plain "int" none with kind := .primitive 'I', accessFlags := 0x411 }
/-- [I -/
def k12 : Class := { plain "[I" (some 0) with kind := .array 11 .int, interfaces := #[8, 4], accessFlags := 1041 }

/-- the primitive long -/
def k13 : Class := { plain "long" none with kind := .primitive 'J', accessFlags := 0x411 }
/-- [J -/
def k14 : Class := { plain "[J" (some 0) with kind := .array 13 .long, interfaces := #[8, 4], accessFlags := 1041 }

/-- [Lcom/example/illumine/illumine/RenderStats$Count; -/
def k15 : Class := { plain "[Lcom/example/illumine/illumine/RenderStats$Count;" (some 0) with kind := .array 6 (.object "com/example/illumine/illumine/RenderStats$Count"), interfaces := #[8, 4], accessFlags := 1041 }

def heap : Heap := #[{ cls := 6, slots := #[.ref 3, .ref 4, .ref 5, .ref 6, .ref 7, .null], vm := .statics 6 },
  { cls := 7, slots := #[.ref 2], vm := .statics 7 },
  { cls := 15, slots := #[.ref 3, .ref 4, .ref 5, .ref 6, .ref 7], vm := .none },
  { cls := 6, slots := #[.null, .int 0, .int 0, .null], vm := .none },
  { cls := 6, slots := #[.null, .int 1, .int 0, .null], vm := .none },
  { cls := 6, slots := #[.null, .int 2, .int 0, .null], vm := .none },
  { cls := 6, slots := #[.null, .int 3, .int 0, .null], vm := .none },
  { cls := 6, slots := #[.null, .int 4, .int 0, .null], vm := .none }]
def classes : Array Class := #[k0, k1, k2, k3, k4, k5, k6, k7, k8, k9, k10, k11, k12, k13, k14, k15]
def interned : List (Array UInt16 × Addr) := []
def slotsUsed : Nat := 32
def theMethod : MethodId := ⟨1, 1⟩
def args0 : Array Value := #[.long 3, .long 4, .long 5, .long 6, .long 7, .long 8]
def aboutOver (below : List Frame) : State where
  vm := { classes := classes, interned := interned.toArray }
  heap := heap
  slotsUsed := slotsUsed
  threads := #[{ frames := .invoking theMethod args0 :: below }]
def below0 : List Frame := [.native { method := ⟨0, 0⟩, args := #[] }]
def about1 : State := aboutOver below0
def p0 : Program := .bare "" "" ""
def e0 : Env := launch0.env 0 0 0
theorem w_frames : about1.frames = Frame.invoking theMethod args0 :: below0 := rfl
set_option maxRecDepth 65536 in
theorem w_args : argsFit about1.vm theMethod args0 = true := by decide +kernel
set_option maxRecDepth 65536 in
theorem w_heap : heapFits about1 = true := by decide +kernel
set_option maxRecDepth 65536 in
theorem w_runnable : about1.curStatus? = some .runnable := by decide +kernel
set_option maxRecDepth 65536 in
theorem w_alone : about1.alone = true := by decide +kernel
set_option maxRecDepth 65536 in
theorem w_named : about1.methodNamed? x = some theMethod := by decide +kernel
set_option maxRecDepth 65536 in
theorem w_hears : about1.hears theMethod below0 = true := by decide +kernel
set_option maxRecDepth 65536 in
theorem w_ripe : about1.ripe theMethod args0 below0 = true := by decide +kernel
theorem w_running : about1.status = .running := rfl
set_option maxRecDepth 65536 in
theorem w_room : about1.hasRoom e0.platform room_1 = true :=
  launch0.hasRoom_least _ room_1 (by decide +kernel) (by decide +kernel) (by decide +kernel) (by decide +kernel) (by decide +kernel) (by decide +kernel)
theorem allAtoms_all (ts : List Jvm.Cond) (a : Array Jvm.Value) (st : Jvm.State) : (allAtoms ts).before a st = ts.all (fun c => c.before a st) := by
  induction ts with
  | nil => rfl
  | cons c t ih =>
    show (Jvm.Cond.and c (allAtoms t)).before a st = _
    rw [Jvm.Cond.before_and, ih, List.all_cons]
def words1 : List Jvm.Cond := Jvm.Cond.code x code maxLocals ret :: tables_1
/-- a 'code' word, met by the world's own term for the bytes: nothing is compared byte by byte -/
theorem code_word {y : MethodName} {bytes : ByteArray} {mx : Nat} {rt : Option FieldType} {a : Array Value} {s : State} {m : MethodId} {meth : Method} {c : Code} (h1 : s.methodNamed? y = some m) (h2 : s.vm.method? m = some meth) (h3 : meth.code = some c) (h4 : c.code = bytes)
    (h5 : (c.maxLocals == mx && c.exceptionTable.isEmpty && decide (c.maxStack ≤ mostOperands) && decide (meth.sig.returnType = rt) && !meth.locks && decide (parseMethodDescriptor y.desc = some meth.sig)) = true) : (Jvm.Cond.code y bytes mx rt).before a s = true := by
  simp only [Bool.and_eq_true, beq_iff_eq, Bool.not_eq_true', decide_eq_true_eq] at h5
  obtain ⟨⟨⟨⟨⟨g1, g2⟩, g3⟩, g4⟩, g5⟩, g6⟩ := h5
  simp [Cond.before, Cond.holds, Cond.value, h1, h2, h3, h4, g1, g2, g3, g4, g5, g6]
def isCode : Jvm.Cond → Bool
  | .code _ _ _ _ => true
  | _ => false
theorem all_split {L : List Jvm.Cond} {P : Jvm.Cond → Bool} (h1 : L.all (fun c => isCode c || P c) = true) (h2 : ∀ c ∈ L.filter isCode, P c = true) : L.all P = true := by
  refine List.all_eq_true.mpr fun c hc => ?_
  have h := List.all_eq_true.mp h1 c hc
  rcases Bool.eq_false_or_eq_true (isCode c) with hi | hi
  · exact h2 c (List.mem_filter.mpr ⟨hc, hi⟩)
  · simpa [hi] using h
set_option maxRecDepth 65536 in
theorem w_c0 : (Jvm.Cond.code x code maxLocals ret).before args0 about1 = true := code_word (m := ⟨1, 1⟩) (meth := k1m1) (c := k1c1) (by decide +kernel) rfl rfl rfl (by decide +kernel)
set_option maxRecDepth 65536 in
theorem w_c1 : (Jvm.Cond.code ({ cls := "com/example/illumine/illumine/RenderStats", name := "<init>", desc := "()V" } : Jvm.MethodName) prog_41_method_1_code (1 : Nat) (Option.none : Option Jvm.ClassFile.FieldType)).before args0 about1 = true := code_word (m := ⟨7, 0⟩) (meth := k7m0) (c := k7c0) (by decide +kernel) rfl rfl rfl (by decide +kernel)
set_option maxRecDepth 65536 in
theorem w_c2 : (Jvm.Cond.code ({ cls := "java/lang/Object", name := "<init>", desc := "()V" } : Jvm.MethodName) object_method_1_code (1 : Nat) (Option.none : Option Jvm.ClassFile.FieldType)).before args0 about1 = true := code_word (m := ⟨0, 0⟩) (meth := k0m0) (c := k0c0) (by decide +kernel) rfl rfl rfl (by decide +kernel)
set_option maxRecDepth 65536 in
theorem w_c3 : (Jvm.Cond.code ({ cls := "com/example/illumine/illumine/RenderStats", name := "count", desc := "(Lcom/example/illumine/illumine/RenderStats$Count;J)V" } : Jvm.MethodName) prog_41_method_3_code (4 : Nat) (Option.none : Option Jvm.ClassFile.FieldType)).before args0 about1 = true := code_word (m := ⟨7, 1⟩) (meth := k7m1) (c := k7c1) (by decide +kernel) rfl rfl rfl (by decide +kernel)
set_option maxRecDepth 65536 in
theorem w_c4 : (Jvm.Cond.code ({ cls := "java/lang/Enum", name := "ordinal", desc := "()I" } : Jvm.MethodName) jdk_37_method_2_code (1 : Nat) (Option.some Jvm.ClassFile.FieldType.int)).before args0 about1 = true := code_word (m := ⟨5, 0⟩) (meth := k5m0) (c := k5c0) (by decide +kernel) rfl rfl rfl (by decide +kernel)
set_option maxRecDepth 65536 in
theorem w_c5 : (Jvm.Cond.code ({ cls := "com/example/illumine/illumine/RenderStats", name := "add", desc := "(Lcom/example/illumine/illumine/RenderStats;)V" } : Jvm.MethodName) prog_41_method_4_code (3 : Nat) (Option.none : Option Jvm.ClassFile.FieldType)).before args0 about1 = true := code_word (m := ⟨7, 2⟩) (meth := k7m2) (c := k7c2) (by decide +kernel) rfl rfl rfl (by decide +kernel)
set_option maxRecDepth 65536 in
theorem w_c6 : (Jvm.Cond.code ({ cls := "com/example/illumine/illumine/RenderStats", name := "triangles", desc := "()J" } : Jvm.MethodName) prog_41_method_5_code (1 : Nat) (Option.some Jvm.ClassFile.FieldType.long)).before args0 about1 = true := code_word (m := ⟨7, 3⟩) (meth := k7m3) (c := k7c3) (by decide +kernel) rfl rfl rfl (by decide +kernel)
set_option maxRecDepth 65536 in
theorem w_c7 : (Jvm.Cond.code ({ cls := "com/example/illumine/illumine/RenderStats", name := "primaryRays", desc := "()J" } : Jvm.MethodName) prog_41_method_6_code (1 : Nat) (Option.some Jvm.ClassFile.FieldType.long)).before args0 about1 = true := code_word (m := ⟨7, 4⟩) (meth := k7m4) (c := k7c4) (by decide +kernel) rfl rfl rfl (by decide +kernel)
set_option maxRecDepth 65536 in
theorem w_c8 : (Jvm.Cond.code ({ cls := "com/example/illumine/illumine/RenderStats", name := "shadowRays", desc := "()J" } : Jvm.MethodName) prog_41_method_7_code (1 : Nat) (Option.some Jvm.ClassFile.FieldType.long)).before args0 about1 = true := code_word (m := ⟨7, 5⟩) (meth := k7m5) (c := k7c5) (by decide +kernel) rfl rfl rfl (by decide +kernel)
set_option maxRecDepth 65536 in
theorem w_c9 : (Jvm.Cond.code ({ cls := "com/example/illumine/illumine/RenderStats", name := "secondaryRays", desc := "()J" } : Jvm.MethodName) prog_41_method_8_code (1 : Nat) (Option.some Jvm.ClassFile.FieldType.long)).before args0 about1 = true := code_word (m := ⟨7, 6⟩) (meth := k7m6) (c := k7c6) (by decide +kernel) rfl rfl rfl (by decide +kernel)
set_option maxRecDepth 65536 in
theorem w_c10 : (Jvm.Cond.code ({ cls := "com/example/illumine/illumine/RenderStats", name := "coneTests", desc := "()J" } : Jvm.MethodName) prog_41_method_9_code (1 : Nat) (Option.some Jvm.ClassFile.FieldType.long)).before args0 about1 = true := code_word (m := ⟨7, 7⟩) (meth := k7m7) (c := k7c7) (by decide +kernel) rfl rfl rfl (by decide +kernel)
def codes1 : List Jvm.Cond := [Jvm.Cond.code x code maxLocals ret, Jvm.Cond.code ({ cls := "com/example/illumine/illumine/RenderStats", name := "<init>", desc := "()V" } : Jvm.MethodName) prog_41_method_1_code (1 : Nat) (Option.none : Option Jvm.ClassFile.FieldType), Jvm.Cond.code ({ cls := "java/lang/Object", name := "<init>", desc := "()V" } : Jvm.MethodName) object_method_1_code (1 : Nat) (Option.none : Option Jvm.ClassFile.FieldType), Jvm.Cond.code ({ cls := "com/example/illumine/illumine/RenderStats", name := "count", desc := "(Lcom/example/illumine/illumine/RenderStats$Count;J)V" } : Jvm.MethodName) prog_41_method_3_code (4 : Nat) (Option.none : Option Jvm.ClassFile.FieldType), Jvm.Cond.code ({ cls := "java/lang/Enum", name := "ordinal", desc := "()I" } : Jvm.MethodName) jdk_37_method_2_code (1 : Nat) (Option.some Jvm.ClassFile.FieldType.int), Jvm.Cond.code ({ cls := "com/example/illumine/illumine/RenderStats", name := "add", desc := "(Lcom/example/illumine/illumine/RenderStats;)V" } : Jvm.MethodName) prog_41_method_4_code (3 : Nat) (Option.none : Option Jvm.ClassFile.FieldType), Jvm.Cond.code ({ cls := "com/example/illumine/illumine/RenderStats", name := "triangles", desc := "()J" } : Jvm.MethodName) prog_41_method_5_code (1 : Nat) (Option.some Jvm.ClassFile.FieldType.long), Jvm.Cond.code ({ cls := "com/example/illumine/illumine/RenderStats", name := "primaryRays", desc := "()J" } : Jvm.MethodName) prog_41_method_6_code (1 : Nat) (Option.some Jvm.ClassFile.FieldType.long), Jvm.Cond.code ({ cls := "com/example/illumine/illumine/RenderStats", name := "shadowRays", desc := "()J" } : Jvm.MethodName) prog_41_method_7_code (1 : Nat) (Option.some Jvm.ClassFile.FieldType.long), Jvm.Cond.code ({ cls := "com/example/illumine/illumine/RenderStats", name := "secondaryRays", desc := "()J" } : Jvm.MethodName) prog_41_method_8_code (1 : Nat) (Option.some Jvm.ClassFile.FieldType.long), Jvm.Cond.code ({ cls := "com/example/illumine/illumine/RenderStats", name := "coneTests", desc := "()J" } : Jvm.MethodName) prog_41_method_9_code (1 : Nat) (Option.some Jvm.ClassFile.FieldType.long)]
set_option maxRecDepth 65536 in
theorem codes_eq : words1.filter isCode = codes1 := rfl
theorem w_codes : ∀ c ∈ words1.filter isCode, c.before args0 about1 = true := by
  rw [codes_eq]
  intro c hc
  simp only [codes1, List.mem_cons, List.not_mem_nil, or_false] at hc
  rcases hc with rfl | rfl | rfl | rfl | rfl | rfl | rfl | rfl | rfl | rfl | rfl
  · exact w_c0
  · exact w_c1
  · exact w_c2
  · exact w_c3
  · exact w_c4
  · exact w_c5
  · exact w_c6
  · exact w_c7
  · exact w_c8
  · exact w_c9
  · exact w_c10
set_option maxRecDepth 65536 in
theorem w_t1 : (words1.take 24).all (fun c => isCode c || c.before args0 about1) = true := by decide +kernel
set_option maxRecDepth 65536 in
theorem w_t2 : ((words1.drop 24).take 24).all (fun c => isCode c || c.before args0 about1) = true := by decide +kernel
set_option maxRecDepth 65536 in
theorem w_t3 : (((words1.drop 24).drop 24).take 24).all (fun c => isCode c || c.before args0 about1) = true := by decide +kernel
set_option maxRecDepth 65536 in
theorem w_t4 : (((words1.drop 24).drop 24).drop 24).all (fun c => isCode c || c.before args0 about1) = true := by decide +kernel
theorem w_tables : (allAtoms (Jvm.Cond.code x code maxLocals ret :: tables_1)).before args0 about1 = true := by
  rw [allAtoms_all]
  show words1.all (fun c => c.before args0 about1) = true
  refine all_split ?_ w_codes
  rw [← List.take_append_drop 24 words1, List.all_append, w_t1, ← List.take_append_drop 24 (words1.drop 24), List.all_append, w_t2, ← List.take_append_drop 24 ((words1.drop 24).drop 24), List.all_append, w_t3, w_t4]
  rfl
set_option maxRecDepth 65536 in
theorem w_case : (Jvm.Cond.and given_1 narrow_1).before args0 about1 = true := by decide +kernel
theorem w_applies : (headSpec (Jvm.Cond.code x code maxLocals ret :: tables_1) room_1).applies x e0.platform about1 = true :=
  (Spec.applies_iff w_frames).mpr ⟨w_running, w_runnable, w_alone, w_named, w_hears, w_ripe, w_room, w_tables⟩
theorem atStart : AtStart classFile x code maxLocals ret World_1 tables_1 room_1 Calls_1 rest_1 Pre_1 launch0 p0 e0 about1 theMethod args0 below0 :=
  ⟨lists_1, trivial, launch0.admits_env _ _ _, launch0.least_env, fairChoices_fair.cas, fairChoices_fair.clock, w_frames, w_args, w_heap, w_applies, trivial, trivial, w_case⟩
end start1
theorem witness_1 : WitnessClaimed_1 := ⟨start1.p0, start1.e0, start1.about1, start1.theMethod, start1.args0, start1.below0, start1.atStart⟩
end Jvm.Pilot.@@N@@
