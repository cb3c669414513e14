import JvmDerived
import JvmDerived.Pilot.@@N@@Statement
import JvmDerived.Pilot.@@N@@Code
set_option linter.unusedVariables false
set_option linter.unusedSimpArgs false
namespace Jvm.OwnGo
open Jvm Jvm.ClassFile Sem Op Lib Jvm.Free Jvm.Stand Jvm.LawKit Jvm.RoadKit
/-- the setting of one body's run -/
def Cx (p : Program) (l : Launch) (e : Env) (R : Room) (s : State) (m : MethodId) (meth : Method) (c : Code) (Z : State) (n0 : Nat) (y : MethodName) (code : ByteArray) (ml : Nat) (ret : Option FieldType) : Prop :=
  p.tables.exec = Jvm.exec ∧ Z.Warmed39 s.vm ∧ s.vm.findClass y.cls = some m.cls ∧ c.code = code ∧ c.maxLocals = ml ∧ meth.sig.returnType = ret ∧ meth.locks = false ∧ meth.name = y.name ∧ Old Z n0 s.heap
/-- from pc, with these locals, this stack and this heap, the body of y returns, Q holds of what it returns and leaves, and it has written in cells at or above n0 alone -/
def Go (l : Launch) (R : Room) (Z : State) (n0 : Nat) (y : MethodName) (code : ByteArray) (ml : Nat) (ret : Option FieldType) (Q : Option Value → Heap → Prop) (cells slots : Nat) (h : Heap) (pc : Nat) (Ls : Array Slot) (st : List Value) : Prop :=
  ∀ (p : Program) (e : Env) (s : State) (m : MethodId) (args : Array Value) (below : List Frame) (meth : Method) (c : Code) (T : State) (locs : List Loc),
    Cx p l e R s m meth c Z n0 y code ml ret → Stand p l e R s m args below meth c T locs cells slots → Fr n0 locs → T.heap = h →
    ∃ s₂ o, Steps p.tables e below (T.setTop (mkF m pc Ls st)) s₂ ∧ s₂.status = .running ∧ Ended s₂ below o ∧ ∃ v L, o = .returned v ∧ (Q v s₂.heap ∧ Fr n0 L) ∧ FrameEnd s o s₂ L R.cells R.slots
/-- what a body called with these arguments at the heap h does -/
def Con (l : Launch) (y : MethodName) (code : ByteArray) (ml : Nat) (ret : Option FieldType) (R : Room) (Z : State) (n0 : Nat) (as : Array Value) (h : Heap) (Q : Option Value → Heap → Prop) : Prop :=
  Old Z n0 h → ∀ ws, MetFree l y (head1 (Jvm.Cond.code y code ml ret :: ws) R) (fun a U => a = as ∧ Z.Warmed39 U.vm ∧ U.heap = h) (fun _ _ _ _ _ => True)
    (fun _ U o U' => ∃ v L, o = .returned v ∧ (Q v U'.heap ∧ Fr n0 L) ∧ FrameEnd U o U' L R.cells R.slots)
def Mi (Z : State) (C : String) (mr : Addr) : Prop := ∃ (c : ClassId) (k : Class), Z.vm.findClass C = some c ∧ Z.vm.classes[c]? = some k ∧ k.mirror = some mr
theorem Mi.at {Z s : State} {C : String} {mr : Addr} (M : Mi Z C mr) (hZ : Z.Warmed39 s.vm) : ∃ (c : ClassId) (k : Class), s.vm.findClass C = some c ∧ s.vm.classes[c]? = some k ∧ k.mirror = some mr := by
  obtain ⟨c, k, m1, m2, m3⟩ := M
  obtain ⟨k', q, ek⟩ := hZ.alike.2.2 _ _ m2
  exact ⟨c, k', by rw [hZ.alike.findClass]; exact m1, q, by rw [ek]; exact m3⟩
theorem own_sto {Z : State} {h : Heap} {a b : Addr} {kA : ClassId} {ty : FieldType} {z : Int32} {vs : List Value} {dv : Value} {C : String} (F : Arv Z h a kA ty z vs dv) (O : Ovr Z kA C) (I : Ins Z h b C true) : Sto Z h a (.ref b) := by
  obtain ⟨c, A, q, -⟩ := F; exact Sto.ofV A q O I
theorem own_nar (t : FieldType) {v : Value} (h : v.isRef = true) : narrow t v = v := by cases v <;> first | rfl | (cases t <;> rfl) | (simp [Value.isRef] at h)
theorem own_fits {t : FieldType} {v : Value} (ht : t.isReference = true) (h : v.isRef = true) : fits t v = true := by cases t <;> first | (cases ht; done) | (cases v <;> first | rfl | (simp [Value.isRef] at h))
theorem own_old {p : Program} {l : Launch} {e : Env} {R : Room} {s : State} {m : MethodId} {args : Array Value} {below : List Frame} {meth : Method} {c : Code} {T : State} {locs : List Loc} {cells slots n0 : Nat} {Z : State} {h : Heap} (O : Old Z n0 s.heap) (X : Stand p l e R s m args below meth c T locs cells slots) (N : Fr n0 locs) (eT : T.heap = h) : Old Z n0 h := by
  subst eT
  obtain ⟨-, g1, -, -, -, g2⟩ := X.same
  refine ⟨O.1, Nat.le_trans O.2.1 g1, fun a c ha => ?_⟩
  obtain ⟨c', q1, q2, q3, q4⟩ := g2 a c (O.2.2 a c ha)
  have hlt : a < n0 := O.1 ▸ (Array.getElem?_eq_some_iff.mp ha).1
  have e1 : c'.slots = c.slots := Array.ext_getElem? fun i => q4 i fun hm => absurd (N _ hm) (Nat.not_le.mpr hlt)
  have e2 : c' = c := by rw [q2, e1]
  rw [← e2]; exact q1
section Rules
variable {l : Launch} {R : Room} {Z : State} {n0 : Nat} {y : MethodName} {code : ByteArray} {ml : Nat} {ret : Option FieldType} {Q : Option Value → Heap → Prop} {cells slots : Nat} {h : Heap} {pc pc' : Nat} {Ls Ls' : Array Slot} {st st' rest : List Value} {a0 : Array Value}
theorem Con.of_go {as : Array Value} (hp : plainFor y = true) (he : ∀ m, entryFrame m as ml = mkF m 0 Ls []) (k : Go l R Z n0 y code ml ret Q 0 0 h 0 Ls []) : Con l y code ml ret R Z n0 as h Q := by
  intro hn ws
  refine MetFree.of_bodySF hp hisR ?_
  intro p e s m args below meth c s₁ Bd hml0 hP hK
  obtain ⟨rfl, hZ, hh⟩ := hP
  have e0 : s₁.heap = h := by rw [← hh, Bd.state]; rfl
  have X0 : Stand p l e R s m args below meth c s₁ [] 0 0 := Stand.of_body Bd
  obtain ⟨s₂, o, h1, h2, h3, h4⟩ := k p e s m args below meth c s₁ [] ⟨Bd.exec, hZ, findClass_of_methodNamed Bd.named, Bd.bytes, hml0, Bd.returns, Bd.notSynchronized, (name_of_methodNamed Bd.named Bd.method).1, by rw [hh]; exact hn⟩ X0 (Fr.nil n0) e0
  exact ⟨s₂, o, castTop (he m) h1, h2, h3, h4⟩
theorem Con.mono {as : Array Value} {Q' : Option Value → Heap → Prop} (k : Con l y code ml ret R Z n0 as h Q) (hq : ∀ v h', Q v h' → Q' v h') : Con l y code ml ret R Z n0 as h Q' := by
  intro hn ws
  refine (k hn ws).mono (fun _ _ q => q) (fun _ _ _ _ _ q => q) ?_
  rintro a U o U' hP ⟨v, L, e, ⟨q, N⟩, r⟩
  exact ⟨v, L, e, ⟨hq _ _ q, N⟩, r⟩
theorem Go.mono {Q' : Option Value → Heap → Prop} (k : Go l R Z n0 y code ml ret Q' cells slots h pc Ls st) (hq : ∀ v h', Q' v h' → Q v h') : Go l R Z n0 y code ml ret Q cells slots h pc Ls st := by
  intro p e s m args below meth c T locs C X N eT
  obtain ⟨s₂, o, h1, h2, h3, v, L, h4, ⟨h5, h6⟩, h7⟩ := k p e s m args below meth c T locs C X N eT
  exact ⟨s₂, o, h1, h2, h3, v, L, h4, ⟨hq _ _ h5, h6⟩, h7⟩
theorem Go.more {cells' slots' : Nat} (k : Go l R Z n0 y code ml ret Q cells' slots' h pc Ls st) (hc : cells ≤ cells') (hs : slots ≤ slots') : Go l R Z n0 y code ml ret Q cells slots h pc Ls st := by
  intro p e s m args below meth c T locs C X N eT
  exact k p e s m args below meth c T locs C (X.more hc hs) N eT
theorem Go.old (k : Old Z n0 h → Go l R Z n0 y code ml ret Q cells slots h pc Ls st) : Go l R Z n0 y code ml ret Q cells slots h pc Ls st := by
  intro p e s m args below meth c T locs C X N eT
  exact k (own_old C.2.2.2.2.2.2.2.2 X N eT) p e s m args below meth c T locs C X N eT
theorem Go.step (hst : ∀ {p : Program} {e : Env} {s : State} {m : MethodId} {args : Array Value} {below : List Frame} {meth : Method} {c : Code} {T : State} {locs : List Loc} {target : State},
      Cx p l e R s m meth c Z n0 y code ml ret → Stand p l e R s m args below meth c T locs cells slots → T.heap = h → Steps p.tables e below (T.setTop (mkF m pc' Ls' st')) target → Steps p.tables e below (T.setTop (mkF m pc Ls st)) target)
    (k : Go l R Z n0 y code ml ret Q cells slots h pc' Ls' st') : Go l R Z n0 y code ml ret Q cells slots h pc Ls st := by
  intro p e s m args below meth c T locs C X N eT
  obtain ⟨s₂, o, h1, h2⟩ := k p e s m args below meth c T locs C X N eT
  exact ⟨s₂, o, hst C X eT h1, h2⟩
theorem Go.law {cells' slots' : Nat} {P : Heap → Prop} (hst : ∀ {p : Program} {e : Env} {s : State} {m : MethodId} {args : Array Value} {below : List Frame} {meth : Method} {c : Code} {T : State} {locs : List Loc},
      Cx p l e R s m meth c Z n0 y code ml ret → Stand p l e R s m args below meth c T locs cells slots → Fr n0 locs → T.heap = h → n0 ≤ h.size →
      ∃ T' locs' h', Stand p l e R s m args below meth c T' locs' cells' slots' ∧ Fr n0 locs' ∧ T'.heap = h' ∧ P h' ∧ ∀ target, Steps p.tables e below (T'.setTop (mkF m pc' Ls' st')) target → Steps p.tables e below (T.setTop (mkF m pc Ls st)) target)
    (k : ∀ h', P h' → Go l R Z n0 y code ml ret Q cells' slots' h' pc' Ls' st') : Go l R Z n0 y code ml ret Q cells slots h pc Ls st := by
  intro p e s m args below meth c T locs C X N eT
  have hold : Old Z n0 h := own_old C.2.2.2.2.2.2.2.2 X N eT
  obtain ⟨T', locs', h', X', N', e', hP, st⟩ := hst C X N eT (hold.1 ▸ hold.2.1)
  obtain ⟨s₂, o, h1, h2⟩ := k h' hP p e s m args below meth c T' locs' C X' N' e'
  exact ⟨s₂, o, st _ h1, h2⟩
theorem Go.iloadN {k : Fin 4} {v : Int32} (hd : decode code pc = .ok (.iload_n k, 1)) (hl : Ls[k.val]? = some (.val (.int v))) (hp : pc + 1 = pc') (k : Go l R Z n0 y code ml ret Q cells slots h pc' Ls (.int v :: st)) : Go l R Z n0 y code ml ret Q cells slots h pc Ls st := Go.step (fun C X _ q => by subst hp; exact XS.iloadN X.here C.1 rfl (hb C.2.2.2.1 hd) hl q) k
theorem Go.iload {k : Nat} {v : Int32} (hd : decode code pc = .ok (.iload k, 2)) (hl : Ls[k]? = some (.val (.int v))) (hp : pc + 2 = pc') (k : Go l R Z n0 y code ml ret Q cells slots h pc' Ls (.int v :: st)) : Go l R Z n0 y code ml ret Q cells slots h pc Ls st := Go.step (fun C X _ q => by subst hp; exact XS.iload X.here C.1 rfl (hb C.2.2.2.1 hd) hl q) k
theorem Go.lloadN {k : Fin 4} {v : Int64} (hd : decode code pc = .ok (.lload_n k, 1)) (hl : Ls[k.val]? = some (.val (.long v))) (hp : pc + 1 = pc') (k : Go l R Z n0 y code ml ret Q cells slots h pc' Ls (.long v :: st)) : Go l R Z n0 y code ml ret Q cells slots h pc Ls st := Go.step (fun C X _ q => by subst hp; exact XT.lloadN X.here C.1 rfl (hb C.2.2.2.1 hd) hl q) k
theorem Go.lload {k : Nat} {v : Int64} (hd : decode code pc = .ok (.lload k, 2)) (hl : Ls[k]? = some (.val (.long v))) (hp : pc + 2 = pc') (k : Go l R Z n0 y code ml ret Q cells slots h pc' Ls (.long v :: st)) : Go l R Z n0 y code ml ret Q cells slots h pc Ls st := Go.step (fun C X _ q => by subst hp; exact XT.lload X.here C.1 rfl (hb C.2.2.2.1 hd) hl q) k
theorem Go.aloadN {k : Fin 4} {v : Value} (hd : decode code pc = .ok (.aload_n k, 1)) (hl : Ls[k.val]? = some (.val v)) (hv : v.isRef = true) (hp : pc + 1 = pc') (k : Go l R Z n0 y code ml ret Q cells slots h pc' Ls (v :: st)) : Go l R Z n0 y code ml ret Q cells slots h pc Ls st := Go.step (fun C X _ q => by subst hp; exact XS.aloadN X.here C.1 rfl (hb C.2.2.2.1 hd) hl hv q) k
theorem Go.aload {k : Nat} {v : Value} (hd : decode code pc = .ok (.aload k, 2)) (hl : Ls[k]? = some (.val v)) (hv : v.isRef = true) (hp : pc + 2 = pc') (k : Go l R Z n0 y code ml ret Q cells slots h pc' Ls (v :: st)) : Go l R Z n0 y code ml ret Q cells slots h pc Ls st := Go.step (fun C X _ q => by subst hp; exact XS.aload X.here C.1 rfl (hb C.2.2.2.1 hd) hl hv q) k
theorem Go.istoreN {k : Fin 4} {v : Int32} (hd : decode code pc = .ok (.istore_n k, 1)) (hl : storeLocals Ls k.val (.int v) = some Ls') (hp : pc + 1 = pc') (k : Go l R Z n0 y code ml ret Q cells slots h pc' Ls' st) : Go l R Z n0 y code ml ret Q cells slots h pc Ls (.int v :: st) := Go.step (fun C X _ q => by subst hp; exact XS.istoreN X.here C.1 rfl (hb C.2.2.2.1 hd) rfl hl q) k
theorem Go.istore {k : Nat} {v : Int32} (hd : decode code pc = .ok (.istore k, 2)) (hl : storeLocals Ls k (.int v) = some Ls') (hp : pc + 2 = pc') (k : Go l R Z n0 y code ml ret Q cells slots h pc' Ls' st) : Go l R Z n0 y code ml ret Q cells slots h pc Ls (.int v :: st) := Go.step (fun C X _ q => by subst hp; exact XS.istore X.here C.1 rfl (hb C.2.2.2.1 hd) rfl hl q) k
theorem Go.lstoreN {k : Fin 4} {v : Int64} (hd : decode code pc = .ok (.lstore_n k, 1)) (hl : storeLocals Ls k.val (.long v) = some Ls') (hp : pc + 1 = pc') (k : Go l R Z n0 y code ml ret Q cells slots h pc' Ls' st) : Go l R Z n0 y code ml ret Q cells slots h pc Ls (.long v :: st) := Go.step (fun C X _ q => by subst hp; exact XT.lstoreN X.here C.1 rfl (hb C.2.2.2.1 hd) rfl hl q) k
theorem Go.lstore {k : Nat} {v : Int64} (hd : decode code pc = .ok (.lstore k, 2)) (hl : storeLocals Ls k (.long v) = some Ls') (hp : pc + 2 = pc') (k : Go l R Z n0 y code ml ret Q cells slots h pc' Ls' st) : Go l R Z n0 y code ml ret Q cells slots h pc Ls (.long v :: st) := Go.step (fun C X _ q => by subst hp; exact XT.lstore X.here C.1 rfl (hb C.2.2.2.1 hd) rfl hl q) k
theorem Go.astoreN {k : Fin 4} {v : Value} (hd : decode code pc = .ok (.astore_n k, 1)) (hv : v.isRef = true) (hl : storeLocals Ls k.val v = some Ls') (hp : pc + 1 = pc') (k : Go l R Z n0 y code ml ret Q cells slots h pc' Ls' st) : Go l R Z n0 y code ml ret Q cells slots h pc Ls (v :: st) := Go.step (fun C X _ q => by subst hp; exact XS.astoreN X.here C.1 rfl (hb C.2.2.2.1 hd) rfl hv hl q) k
theorem Go.astore {k : Nat} {v : Value} (hd : decode code pc = .ok (.astore k, 2)) (hv : v.isRef = true) (hl : storeLocals Ls k v = some Ls') (hp : pc + 2 = pc') (k : Go l R Z n0 y code ml ret Q cells slots h pc' Ls' st) : Go l R Z n0 y code ml ret Q cells slots h pc Ls (v :: st) := Go.step (fun C X _ q => by subst hp; exact XS.astore X.here C.1 rfl (hb C.2.2.2.1 hd) rfl hv hl q) k
theorem Go.iconst {i : Int} {v : Int32} (hd : decode code pc = .ok (.iconst i, 1)) (hv : Int32.ofInt i = v) (hp : pc + 1 = pc') (k : Go l R Z n0 y code ml ret Q cells slots h pc' Ls (.int v :: st)) : Go l R Z n0 y code ml ret Q cells slots h pc Ls st := Go.step (fun C X _ q => by subst hp; exact (by subst hv; exact XS.iconst X.here C.1 rfl (hb C.2.2.2.1 hd) q)) k
theorem Go.bipush {i : Int} {v : Int32} (hd : decode code pc = .ok (.bipush i, 2)) (hv : (Int8.ofInt i).toInt32 = v) (hp : pc + 2 = pc') (k : Go l R Z n0 y code ml ret Q cells slots h pc' Ls (.int v :: st)) : Go l R Z n0 y code ml ret Q cells slots h pc Ls st := Go.step (fun C X _ q => by subst hp; exact (by subst hv; exact XS.bipush X.here C.1 rfl (hb C.2.2.2.1 hd) q)) k
theorem Go.sipush {i : Int} {v : Int32} (hd : decode code pc = .ok (.sipush i, 3)) (hv : (Int16.ofInt i).toInt32 = v) (hp : pc + 3 = pc') (k : Go l R Z n0 y code ml ret Q cells slots h pc' Ls (.int v :: st)) : Go l R Z n0 y code ml ret Q cells slots h pc Ls st := Go.step (fun C X _ q => by subst hp; exact (by subst hv; exact XS.sipush X.here C.1 rfl (hb C.2.2.2.1 hd) q)) k
theorem Go.lconst {i : Fin 2} {v : Int64} (hd : decode code pc = .ok (.lconst i, 1)) (hv : Int64.ofNat i = v) (hp : pc + 1 = pc') (k : Go l R Z n0 y code ml ret Q cells slots h pc' Ls (.long v :: st)) : Go l R Z n0 y code ml ret Q cells slots h pc Ls st := Go.step (fun C X _ q => by subst hp; exact XT.lconstV X.here C.1 rfl v (hb C.2.2.2.1 hd) hv q) k
theorem Go.aconstNull (hd : decode code pc = .ok (.aconst_null, 1)) (hp : pc + 1 = pc') (k : Go l R Z n0 y code ml ret Q cells slots h pc' Ls (.null :: st)) : Go l R Z n0 y code ml ret Q cells slots h pc Ls st := Go.step (fun C X _ q => by subst hp; exact XS.aconstNull X.here C.1 rfl (hb C.2.2.2.1 hd) q) k
theorem Go.ldcI {i : Nat} {v : Int32} (w : (Jvm.Cond.constant y.cls i v).before a0 Z = true) (hd : decode code pc = .ok (.ldc i, 2)) (hp : pc + 2 = pc') (k : Go l R Z n0 y code ml ret Q cells slots h pc' Ls (.int v :: st)) : Go l R Z n0 y code ml ret Q cells slots h pc Ls st := Go.step (fun C X _ q => by subst hp; exact Jvm.Stand.ldcI X C.1 C.2.2.1 (mvT C.2.1 w) rfl (hb C.2.2.2.1 hd) q) k
theorem Go.ldcWI {i : Nat} {v : Int32} (w : (Jvm.Cond.constant y.cls i v).before a0 Z = true) (hd : decode code pc = .ok (.ldc_w i, 3)) (hp : pc + 3 = pc') (k : Go l R Z n0 y code ml ret Q cells slots h pc' Ls (.int v :: st)) : Go l R Z n0 y code ml ret Q cells slots h pc Ls st := Go.step (fun C X _ q => by subst hp; exact Jvm.Stand.ldcWI X C.1 C.2.2.1 (mvT C.2.1 w) rfl (hb C.2.2.2.1 hd) q) k
theorem Go.ldc2J {i : Nat} {v : Int64} (w : (Jvm.Cond.constantLong y.cls i v).before a0 Z = true) (hd : decode code pc = .ok (.ldc2_w i, 3)) (hp : pc + 3 = pc') (k : Go l R Z n0 y code ml ret Q cells slots h pc' Ls (.long v :: st)) : Go l R Z n0 y code ml ret Q cells slots h pc Ls st := Go.step (fun C X _ q => by subst hp; exact Jvm.Stand.ldc2J X C.1 C.2.2.1 (mvT C.2.1 w) rfl (hb C.2.2.2.1 hd) q) k
theorem Go.iadd {a b : Int32} (hd : decode code pc = .ok (.iadd, 1)) (hp : pc + 1 = pc') (k : Go l R Z n0 y code ml ret Q cells slots h pc' Ls (.int (a + b) :: st)) : Go l R Z n0 y code ml ret Q cells slots h pc Ls (.int b :: .int a :: st) := Go.step (fun C X _ q => by subst hp; exact XS.iadd X.here C.1 rfl (hb C.2.2.2.1 hd) rfl q) k
theorem Go.isub {a b : Int32} (hd : decode code pc = .ok (.isub, 1)) (hp : pc + 1 = pc') (k : Go l R Z n0 y code ml ret Q cells slots h pc' Ls (.int (a - b) :: st)) : Go l R Z n0 y code ml ret Q cells slots h pc Ls (.int b :: .int a :: st) := Go.step (fun C X _ q => by subst hp; exact XS.isub X.here C.1 rfl (hb C.2.2.2.1 hd) rfl q) k
theorem Go.imul {a b : Int32} (hd : decode code pc = .ok (.imul, 1)) (hp : pc + 1 = pc') (k : Go l R Z n0 y code ml ret Q cells slots h pc' Ls (.int (a * b) :: st)) : Go l R Z n0 y code ml ret Q cells slots h pc Ls (.int b :: .int a :: st) := Go.step (fun C X _ q => by subst hp; exact XS.imul X.here C.1 rfl (hb C.2.2.2.1 hd) rfl q) k
theorem Go.iand {a b : Int32} (hd : decode code pc = .ok (.iand, 1)) (hp : pc + 1 = pc') (k : Go l R Z n0 y code ml ret Q cells slots h pc' Ls (.int (a &&& b) :: st)) : Go l R Z n0 y code ml ret Q cells slots h pc Ls (.int b :: .int a :: st) := Go.step (fun C X _ q => by subst hp; exact XS.iand X.here C.1 rfl (hb C.2.2.2.1 hd) rfl q) k
theorem Go.ior {a b : Int32} (hd : decode code pc = .ok (.ior, 1)) (hp : pc + 1 = pc') (k : Go l R Z n0 y code ml ret Q cells slots h pc' Ls (.int (a ||| b) :: st)) : Go l R Z n0 y code ml ret Q cells slots h pc Ls (.int b :: .int a :: st) := Go.step (fun C X _ q => by subst hp; exact XT.ior X.here C.1 rfl (hb C.2.2.2.1 hd) rfl q) k
theorem Go.ixor {a b : Int32} (hd : decode code pc = .ok (.ixor, 1)) (hp : pc + 1 = pc') (k : Go l R Z n0 y code ml ret Q cells slots h pc' Ls (.int (a ^^^ b) :: st)) : Go l R Z n0 y code ml ret Q cells slots h pc Ls (.int b :: .int a :: st) := Go.step (fun C X _ q => by subst hp; exact XT.ixor X.here C.1 rfl (hb C.2.2.2.1 hd) rfl q) k
theorem Go.ladd {a b : Int64} (hd : decode code pc = .ok (.ladd, 1)) (hp : pc + 1 = pc') (k : Go l R Z n0 y code ml ret Q cells slots h pc' Ls (.long (a + b) :: st)) : Go l R Z n0 y code ml ret Q cells slots h pc Ls (.long b :: .long a :: st) := Go.step (fun C X _ q => by subst hp; exact XT.ladd X.here C.1 rfl (hb C.2.2.2.1 hd) rfl q) k
theorem Go.lsub {a b : Int64} (hd : decode code pc = .ok (.lsub, 1)) (hp : pc + 1 = pc') (k : Go l R Z n0 y code ml ret Q cells slots h pc' Ls (.long (a - b) :: st)) : Go l R Z n0 y code ml ret Q cells slots h pc Ls (.long b :: .long a :: st) := Go.step (fun C X _ q => by subst hp; exact XT.lsub X.here C.1 rfl (hb C.2.2.2.1 hd) rfl q) k
theorem Go.lmul {a b : Int64} (hd : decode code pc = .ok (.lmul, 1)) (hp : pc + 1 = pc') (k : Go l R Z n0 y code ml ret Q cells slots h pc' Ls (.long (a * b) :: st)) : Go l R Z n0 y code ml ret Q cells slots h pc Ls (.long b :: .long a :: st) := Go.step (fun C X _ q => by subst hp; exact XT.lmul X.here C.1 rfl (hb C.2.2.2.1 hd) rfl q) k
theorem Go.land {a b : Int64} (hd : decode code pc = .ok (.land, 1)) (hp : pc + 1 = pc') (k : Go l R Z n0 y code ml ret Q cells slots h pc' Ls (.long (a &&& b) :: st)) : Go l R Z n0 y code ml ret Q cells slots h pc Ls (.long b :: .long a :: st) := Go.step (fun C X _ q => by subst hp; exact XT.land X.here C.1 rfl (hb C.2.2.2.1 hd) rfl q) k
theorem Go.lor {a b : Int64} (hd : decode code pc = .ok (.lor, 1)) (hp : pc + 1 = pc') (k : Go l R Z n0 y code ml ret Q cells slots h pc' Ls (.long (a ||| b) :: st)) : Go l R Z n0 y code ml ret Q cells slots h pc Ls (.long b :: .long a :: st) := Go.step (fun C X _ q => by subst hp; exact XT.lor X.here C.1 rfl (hb C.2.2.2.1 hd) rfl q) k
theorem Go.lxor {a b : Int64} (hd : decode code pc = .ok (.lxor, 1)) (hp : pc + 1 = pc') (k : Go l R Z n0 y code ml ret Q cells slots h pc' Ls (.long (a ^^^ b) :: st)) : Go l R Z n0 y code ml ret Q cells slots h pc Ls (.long b :: .long a :: st) := Go.step (fun C X _ q => by subst hp; exact XT.lxor X.here C.1 rfl (hb C.2.2.2.1 hd) rfl q) k
theorem Go.ishl {a b : Int32} (hd : decode code pc = .ok (.ishl, 1)) (hp : pc + 1 = pc') (k : Go l R Z n0 y code ml ret Q cells slots h pc' Ls (.int (a <<< (b &&& 31)) :: st)) : Go l R Z n0 y code ml ret Q cells slots h pc Ls (.int b :: .int a :: st) := Go.step (fun C X _ q => by subst hp; exact XT.ishl X.here C.1 rfl (hb C.2.2.2.1 hd) rfl q) k
theorem Go.ishr {a b : Int32} (hd : decode code pc = .ok (.ishr, 1)) (hp : pc + 1 = pc') (k : Go l R Z n0 y code ml ret Q cells slots h pc' Ls (.int (a >>> (b &&& 31)) :: st)) : Go l R Z n0 y code ml ret Q cells slots h pc Ls (.int b :: .int a :: st) := Go.step (fun C X _ q => by subst hp; exact XT.ishr X.here C.1 rfl (hb C.2.2.2.1 hd) rfl q) k
theorem Go.iushr {a b : Int32} (hd : decode code pc = .ok (.iushr, 1)) (hp : pc + 1 = pc') (k : Go l R Z n0 y code ml ret Q cells slots h pc' Ls (.int (XT.ushr a b) :: st)) : Go l R Z n0 y code ml ret Q cells slots h pc Ls (.int b :: .int a :: st) := Go.step (fun C X _ q => by subst hp; exact XT.iushr X.here C.1 rfl (hb C.2.2.2.1 hd) rfl q) k
theorem Go.lshr {a : Int64} {b : Int32} (hd : decode code pc = .ok (.lshr, 1)) (hp : pc + 1 = pc') (k : Go l R Z n0 y code ml ret Q cells slots h pc' Ls (.long (a >>> (b.toInt64 &&& 63)) :: st)) : Go l R Z n0 y code ml ret Q cells slots h pc Ls (.int b :: .long a :: st) := Go.step (fun C X _ q => by subst hp; exact XT.lshr X.here C.1 rfl (hb C.2.2.2.1 hd) rfl q) k
theorem Go.lshl {a : Int64} {b : Int32} (hd : decode code pc = .ok (.lshl, 1)) (hp : pc + 1 = pc') (k : Go l R Z n0 y code ml ret Q cells slots h pc' Ls (.long (a <<< (b.toInt64 &&& 63)) :: st)) : Go l R Z n0 y code ml ret Q cells slots h pc Ls (.int b :: .long a :: st) := Go.step (fun C X _ q => by subst hp; exact XT.lshl X.here C.1 rfl (hb C.2.2.2.1 hd) rfl q) k
theorem Go.lushr {a : Int64} {b : Int32} (hd : decode code pc = .ok (.lushr, 1)) (hp : pc + 1 = pc') (k : Go l R Z n0 y code ml ret Q cells slots h pc' Ls (.long (XT.ushrL a b) :: st)) : Go l R Z n0 y code ml ret Q cells slots h pc Ls (.int b :: .long a :: st) := Go.step (fun C X _ q => by subst hp; exact XT.lushr X.here C.1 rfl (hb C.2.2.2.1 hd) rfl q) k
theorem Go.irem {a b : Int32} (hd : decode code pc = .ok (.irem, 1)) (hz : b ≠ 0) (hp : pc + 1 = pc') (k : Go l R Z n0 y code ml ret Q cells slots h pc' Ls (.int (a % b) :: st)) : Go l R Z n0 y code ml ret Q cells slots h pc Ls (.int b :: .int a :: st) := Go.step (fun C X _ q => by subst hp; exact iremM X C.1 rfl (hb C.2.2.2.1 hd) rfl hz q) k
theorem Go.idiv {a b : Int32} (hd : decode code pc = .ok (.idiv, 1)) (hz : b ≠ 0) (hp : pc + 1 = pc') (k : Go l R Z n0 y code ml ret Q cells slots h pc' Ls (.int (a / b) :: st)) : Go l R Z n0 y code ml ret Q cells slots h pc Ls (.int b :: .int a :: st) := Go.step (fun C X _ q => by subst hp; exact XS.idiv X.here C.1 rfl (hb C.2.2.2.1 hd) rfl hz q) k
theorem Go.ldiv {a b : Int64} (hd : decode code pc = .ok (.ldiv, 1)) (hz : b ≠ 0) (hp : pc + 1 = pc') (k : Go l R Z n0 y code ml ret Q cells slots h pc' Ls (.long (a / b) :: st)) : Go l R Z n0 y code ml ret Q cells slots h pc Ls (.long b :: .long a :: st) := Go.step (fun C X _ q => by subst hp; exact XT.ldiv X.here C.1 rfl (hb C.2.2.2.1 hd) rfl hz q) k
theorem Go.lrem {a b : Int64} (hd : decode code pc = .ok (.lrem, 1)) (hz : b ≠ 0) (hp : pc + 1 = pc') (k : Go l R Z n0 y code ml ret Q cells slots h pc' Ls (.long (a - (a / b) * b) :: st)) : Go l R Z n0 y code ml ret Q cells slots h pc Ls (.long b :: .long a :: st) := Go.step (fun C X _ q => by subst hp; exact XT.lrem X.here C.1 rfl (hb C.2.2.2.1 hd) rfl hz q) k
theorem Go.ineg {a : Int32} (hd : decode code pc = .ok (.ineg, 1)) (hp : pc + 1 = pc') (k : Go l R Z n0 y code ml ret Q cells slots h pc' Ls (.int (-a) :: st)) : Go l R Z n0 y code ml ret Q cells slots h pc Ls (.int a :: st) := Go.step (fun C X _ q => by subst hp; exact XS.ineg X.here C.1 rfl (hb C.2.2.2.1 hd) rfl q) k
theorem Go.lneg {a : Int64} (hd : decode code pc = .ok (.lneg, 1)) (hp : pc + 1 = pc') (k : Go l R Z n0 y code ml ret Q cells slots h pc' Ls (.long (-a) :: st)) : Go l R Z n0 y code ml ret Q cells slots h pc Ls (.long a :: st) := Go.step (fun C X _ q => by subst hp; exact XT.lneg X.here C.1 rfl (hb C.2.2.2.1 hd) rfl q) k
theorem Go.i2l {a : Int32} (hd : decode code pc = .ok (.i2l, 1)) (hp : pc + 1 = pc') (k : Go l R Z n0 y code ml ret Q cells slots h pc' Ls (.long a.toInt64 :: st)) : Go l R Z n0 y code ml ret Q cells slots h pc Ls (.int a :: st) := Go.step (fun C X _ q => by subst hp; exact XT.i2l X.here C.1 rfl (hb C.2.2.2.1 hd) rfl q) k
theorem Go.l2i {a : Int64} (hd : decode code pc = .ok (.l2i, 1)) (hp : pc + 1 = pc') (k : Go l R Z n0 y code ml ret Q cells slots h pc' Ls (.int a.toInt32 :: st)) : Go l R Z n0 y code ml ret Q cells slots h pc Ls (.long a :: st) := Go.step (fun C X _ q => by subst hp; exact XT.l2i X.here C.1 rfl (hb C.2.2.2.1 hd) rfl q) k
theorem Go.i2b {a : Int32} (hd : decode code pc = .ok (.i2b, 1)) (hp : pc + 1 = pc') (k : Go l R Z n0 y code ml ret Q cells slots h pc' Ls (.int a.toInt8.toInt32 :: st)) : Go l R Z n0 y code ml ret Q cells slots h pc Ls (.int a :: st) := Go.step (fun C X _ q => by subst hp; exact XT.i2b X.here C.1 rfl (hb C.2.2.2.1 hd) rfl q) k
theorem Go.i2c {a : Int32} (hd : decode code pc = .ok (.i2c, 1)) (hp : pc + 1 = pc') (k : Go l R Z n0 y code ml ret Q cells slots h pc' Ls (.int a.toUInt32.toUInt16.toUInt32.toInt32 :: st)) : Go l R Z n0 y code ml ret Q cells slots h pc Ls (.int a :: st) := Go.step (fun C X _ q => by subst hp; exact XT.i2c X.here C.1 rfl (hb C.2.2.2.1 hd) rfl q) k
theorem Go.lcmp {a b : Int64} (hd : decode code pc = .ok (.lcmp, 1)) (hp : pc + 1 = pc') (k : Go l R Z n0 y code ml ret Q cells slots h pc' Ls (.int (XT.cmpL a b) :: st)) : Go l R Z n0 y code ml ret Q cells slots h pc Ls (.long b :: .long a :: st) := Go.step (fun C X _ q => by subst hp; exact XT.lcmp X.here C.1 rfl (hb C.2.2.2.1 hd) rfl q) k
theorem Go.iinc {k : Nat} {i : Int} {v w : Int32} (hd : decode code pc = .ok (.iinc k i, 3)) (hv : Int32.ofInt i = w) (hl : Ls[k]? = some (.val (.int v))) (hl' : storeLocals Ls k (.int (v + w)) = some Ls') (hp : pc + 3 = pc') (k : Go l R Z n0 y code ml ret Q cells slots h pc' Ls' st) : Go l R Z n0 y code ml ret Q cells slots h pc Ls st := Go.step (fun C X _ q => by subst hp; exact XT.iincV X.here C.1 rfl w (hb C.2.2.2.1 hd) hv hl hl' q) k
theorem Go.dup {v : Value} (hd : decode code pc = .ok (.dup, 1)) (hc : v.category = 1) (hp : pc + 1 = pc') (k : Go l R Z n0 y code ml ret Q cells slots h pc' Ls (v :: v :: st)) : Go l R Z n0 y code ml ret Q cells slots h pc Ls (v :: st) := Go.step (fun C X _ q => by subst hp; exact XS.dup X.here C.1 rfl (hb C.2.2.2.1 hd) rfl hc q) k
theorem Go.pop {v : Value} (hd : decode code pc = .ok (.pop, 1)) (hc : v.category = 1) (hp : pc + 1 = pc') (k : Go l R Z n0 y code ml ret Q cells slots h pc' Ls st) : Go l R Z n0 y code ml ret Q cells slots h pc Ls (v :: st) := Go.step (fun C X _ q => by subst hp; exact XT.pop X.here C.1 rfl (hb C.2.2.2.1 hd) rfl hc q) k
theorem Go.dupX1 {v w : Value} (hd : decode code pc = .ok (.dup_x1, 1)) (hc : v.category = 1) (hc' : w.category = 1) (hp : pc + 1 = pc') (k : Go l R Z n0 y code ml ret Q cells slots h pc' Ls (v :: w :: v :: st)) : Go l R Z n0 y code ml ret Q cells slots h pc Ls (v :: w :: st) := Go.step (fun C X _ q => by subst hp; exact XT.dupX1 X.here C.1 rfl (hb C.2.2.2.1 hd) rfl hc hc' q) k
theorem Go.dup2 {v w : Value} (hd : decode code pc = .ok (.dup2, 1)) (hc : v.category = 1) (hc' : w.category = 1) (hp : pc + 1 = pc') (k : Go l R Z n0 y code ml ret Q cells slots h pc' Ls (v :: w :: v :: w :: st)) : Go l R Z n0 y code ml ret Q cells slots h pc Ls (v :: w :: st) := Go.step (fun C X _ q => by subst hp; exact XT.dup2 X.here C.1 rfl (hb C.2.2.2.1 hd) rfl hc hc' q) k
theorem Go.dup2L {a : Int64} (hd : decode code pc = .ok (.dup2, 1)) (hp : pc + 1 = pc') (k : Go l R Z n0 y code ml ret Q cells slots h pc' Ls (.long a :: .long a :: st)) : Go l R Z n0 y code ml ret Q cells slots h pc Ls (.long a :: st) := Go.step (fun C X _ q => by subst hp; exact XT.dup2L X.here C.1 rfl (hb C.2.2.2.1 hd) rfl q) k
theorem Go.goto {o : Int} (hd : decode code pc = .ok (.goto o, 3)) (ho : 0 ≤ (pc : Int) + o := by decide) (hp : ((pc : Int) + o).toNat = pc' := by decide) (k : Go l R Z n0 y code ml ret Q cells slots h pc' Ls st) : Go l R Z n0 y code ml ret Q cells slots h pc Ls st := Go.step (fun C X _ q => XS.goto X.here C.1 rfl rfl (hb C.2.2.2.1 hd) ho hp q) k
theorem Go.ifYes {o : Int} {cd : ClassFile.Cond} {a : Int32} (hd : decode code pc = .ok (.ifCond cd o, 3)) (hc : ifCond.holds cd a = true) (ho : 0 ≤ (pc : Int) + o := by decide) (hp : ((pc : Int) + o).toNat = pc' := by decide) (k : Go l R Z n0 y code ml ret Q cells slots h pc' Ls st) : Go l R Z n0 y code ml ret Q cells slots h pc Ls (.int a :: st) := Go.step (fun C X _ q => XS.ifYes X.here C.1 rfl rfl (hb C.2.2.2.1 hd) rfl hc ho hp q) k
theorem Go.icmpYes {o : Int} {cd : ClassFile.Cond} {a b : Int32} (hd : decode code pc = .ok (.if_icmp cd o, 3)) (hc : if_icmp.holds cd a b = true) (ho : 0 ≤ (pc : Int) + o := by decide) (hp : ((pc : Int) + o).toNat = pc' := by decide) (k : Go l R Z n0 y code ml ret Q cells slots h pc' Ls st) : Go l R Z n0 y code ml ret Q cells slots h pc Ls (.int b :: .int a :: st) := Go.step (fun C X _ q => XS.icmpYes X.here C.1 rfl rfl (hb C.2.2.2.1 hd) rfl hc ho hp q) k
theorem Go.acmpYes {o : Int} {cd : ClassFile.ACond} {a b : Value} (hd : decode code pc = .ok (.if_acmp cd o, 3)) (ha : a.isRef = true) (hb' : b.isRef = true) (hc : XT.acmp cd a b = true) (ho : 0 ≤ (pc : Int) + o := by decide) (hp : ((pc : Int) + o).toNat = pc' := by decide) (k : Go l R Z n0 y code ml ret Q cells slots h pc' Ls st) : Go l R Z n0 y code ml ret Q cells slots h pc Ls (b :: a :: st) := Go.step (fun C X _ q => XT.acmpYes X.here C.1 rfl rfl (hb C.2.2.2.1 hd) rfl ha hb' hc ho hp q) k
theorem Go.nullYes {o : Int} {a : Value} (hd : decode code pc = .ok (.ifnull o, 3)) (hv : a = .null) (ho : 0 ≤ (pc : Int) + o := by decide) (hp : ((pc : Int) + o).toNat = pc' := by decide) (k : Go l R Z n0 y code ml ret Q cells slots h pc' Ls st) : Go l R Z n0 y code ml ret Q cells slots h pc Ls (a :: st) := Go.step (fun C X _ q => XT.nullYes X.here C.1 rfl rfl (hb C.2.2.2.1 hd) rfl hv ho hp q) k
theorem Go.nonnullYes {o : Int} {a : Value} (hd : decode code pc = .ok (.ifnonnull o, 3)) (ha : a.isRef = true) (hv : ¬ a = .null) (ho : 0 ≤ (pc : Int) + o := by decide) (hp : ((pc : Int) + o).toNat = pc' := by decide) (k : Go l R Z n0 y code ml ret Q cells slots h pc' Ls st) : Go l R Z n0 y code ml ret Q cells slots h pc Ls (a :: st) := Go.step (fun C X _ q => XT.nonnullYes X.here C.1 rfl rfl (hb C.2.2.2.1 hd) rfl ha hv ho hp q) k
theorem Go.ifNo {o : Int} {cd : ClassFile.Cond} {a : Int32} (hd : decode code pc = .ok (.ifCond cd o, 3)) (hc : ifCond.holds cd a = false) (hp : pc + 3 = pc') (k : Go l R Z n0 y code ml ret Q cells slots h pc' Ls st) : Go l R Z n0 y code ml ret Q cells slots h pc Ls (.int a :: st) := Go.step (fun C X _ q => by subst hp; exact XS.ifNo X.here C.1 rfl (hb C.2.2.2.1 hd) rfl hc q) k
theorem Go.icmpNo {o : Int} {cd : ClassFile.Cond} {a b : Int32} (hd : decode code pc = .ok (.if_icmp cd o, 3)) (hc : if_icmp.holds cd a b = false) (hp : pc + 3 = pc') (k : Go l R Z n0 y code ml ret Q cells slots h pc' Ls st) : Go l R Z n0 y code ml ret Q cells slots h pc Ls (.int b :: .int a :: st) := Go.step (fun C X _ q => by subst hp; exact XS.icmpNo X.here C.1 rfl (hb C.2.2.2.1 hd) rfl hc q) k
theorem Go.acmpNo {o : Int} {cd : ClassFile.ACond} {a b : Value} (hd : decode code pc = .ok (.if_acmp cd o, 3)) (ha : a.isRef = true) (hb' : b.isRef = true) (hc : XT.acmp cd a b = false) (hp : pc + 3 = pc') (k : Go l R Z n0 y code ml ret Q cells slots h pc' Ls st) : Go l R Z n0 y code ml ret Q cells slots h pc Ls (b :: a :: st) := Go.step (fun C X _ q => by subst hp; exact XT.acmpNo X.here C.1 rfl (hb C.2.2.2.1 hd) rfl ha hb' hc q) k
theorem Go.nullNo {o : Int} {a : Value} (hd : decode code pc = .ok (.ifnull o, 3)) (ha : a.isRef = true) (hv : ¬ a = .null) (hp : pc + 3 = pc') (k : Go l R Z n0 y code ml ret Q cells slots h pc' Ls st) : Go l R Z n0 y code ml ret Q cells slots h pc Ls (a :: st) := Go.step (fun C X _ q => by subst hp; exact XT.nullNo X.here C.1 rfl (hb C.2.2.2.1 hd) rfl ha hv q) k
theorem Go.nonnullNo {o : Int} {a : Value} (hd : decode code pc = .ok (.ifnonnull o, 3)) (hv : a = .null) (hp : pc + 3 = pc') (k : Go l R Z n0 y code ml ret Q cells slots h pc' Ls st) : Go l R Z n0 y code ml ret Q cells slots h pc Ls (a :: st) := Go.step (fun C X _ q => by subst hp; exact XT.nonnullNo X.here C.1 rfl (hb C.2.2.2.1 hd) rfl hv q) k
theorem Go.tsw {a : Int32} {dflt low high o : Int} {offs : Array Int} {len : Nat} (hd : decode code pc = .ok (.tableswitch dflt low high offs, len)) (hin : ¬ (a.toInt < low ∨ a.toInt > high)) (hoff : offs[(a.toInt - low).toNat]? = some o) (ho : 0 ≤ (pc : Int) + o) (hp : ((pc : Int) + o).toNat = pc') (k : Go l R Z n0 y code ml ret Q cells slots h pc' Ls st) : Go l R Z n0 y code ml ret Q cells slots h pc Ls (.int a :: st) := Go.step (fun C X _ q => XS.tswIn X.here C.1 rfl rfl (hb C.2.2.2.1 hd) rfl hin hoff ho hp q) k
theorem Go.tswOut {a : Int32} {dflt low high : Int} {offs : Array Int} {len : Nat} (hd : decode code pc = .ok (.tableswitch dflt low high offs, len)) (hout : a.toInt < low ∨ a.toInt > high) (ho : 0 ≤ (pc : Int) + dflt) (hp : ((pc : Int) + dflt).toNat = pc') (k : Go l R Z n0 y code ml ret Q cells slots h pc' Ls st) : Go l R Z n0 y code ml ret Q cells slots h pc Ls (.int a :: st) := Go.step (fun C X _ q => XS.tswOut X.here C.1 rfl rfl (hb C.2.2.2.1 hd) rfl hout ho hp q) k
theorem Go.getstatic {host : String} {R0 O n d : String} {i : Nat} (w : (Jvm.Cond.fieldLink y.cls i R0 n d).before a0 Z = true ∨ (Jvm.Cond.fieldLinkNest y.cls i R0 n d host).before a0 Z = true) (via : Via Z R0 O n d) {v : Value} (F : Sta Z h O n d v) (hd : decode code pc = .ok (.getstatic i, 3)) (hp : pc + 3 = pc') (k : Go l R Z n0 y code ml ret Q cells slots h pc' Ls (v :: st)) : Go l R Z n0 y code ml ret Q cells slots h pc Ls st := by
  refine Go.law (P := fun h' => h' = h) (fun C X N eT _ => ?_) (fun h' e => e ▸ k)
  subst hp
  obtain ⟨T', X', e', st⟩ := getS2 X C.1 C.2.1 C.2.2.1 w via eT F (g := mkF _ pc Ls st) rfl (hb C.2.2.2.1 hd)
  exact ⟨T', _, h, X', N, e', rfl, st⟩
theorem Go.getfield {host : String} {R0 O n d : String} {i : Nat} (w : (Jvm.Cond.fieldLink y.cls i R0 n d).before a0 Z = true ∨ (Jvm.Cond.fieldLinkNest y.cls i R0 n d host).before a0 Z = true) (via : Via Z R0 O n d) {v : Value} {a : Addr} (F : Fld Z h a O n d v) (hd : decode code pc = .ok (.getfield i, 3)) (hp : pc + 3 = pc') (k : Go l R Z n0 y code ml ret Q cells slots h pc' Ls (v :: st)) : Go l R Z n0 y code ml ret Q cells slots h pc Ls (.ref a :: st) := by
  refine Go.law (P := fun h' => h' = h) (fun C X N eT _ => ?_) (fun h' e => e ▸ k)
  subst hp
  obtain ⟨T', X', e', st⟩ := getF X C.1 C.2.1 C.2.2.1 w via eT F (g := mkF _ pc Ls (.ref a :: st)) rfl rfl (hb C.2.2.2.1 hd)
  exact ⟨T', _, h, X', N, e', rfl, st⟩
theorem Go.castY {K : String} {i : Nat} {a : Addr} (w : (Jvm.Cond.classLink y.cls i K).before a0 Z = true) (F : Ins Z h a K true) (hd : decode code pc = .ok (.checkcast i, 3)) (hp : pc + 3 = pc') (k : Go l R Z n0 y code ml ret Q cells slots h pc' Ls (.ref a :: st)) : Go l R Z n0 y code ml ret Q cells slots h pc Ls (.ref a :: st) := by
  refine Go.law (P := fun h' => h' = h) (fun C X N eT _ => ?_) (fun h' e => e ▸ k)
  subst hp
  obtain ⟨T', X', e', st⟩ := castY X C.1 C.2.1 C.2.2.1 w eT F (g := mkF _ pc Ls (.ref a :: st)) rfl rfl (hb C.2.2.2.1 hd)
  exact ⟨T', _, h, X', N, e', rfl, st⟩
theorem Go.instY {K : String} {i : Nat} {a : Addr} (w : (Jvm.Cond.classLink y.cls i K).before a0 Z = true) (F : Ins Z h a K true) (hd : decode code pc = .ok (.instanceof i, 3)) (hp : pc + 3 = pc') (k : Go l R Z n0 y code ml ret Q cells slots h pc' Ls (.int 1 :: st)) : Go l R Z n0 y code ml ret Q cells slots h pc Ls (.ref a :: st) := by
  refine Go.law (P := fun h' => h' = h) (fun C X N eT _ => ?_) (fun h' e => e ▸ k)
  subst hp
  obtain ⟨T', X', e', st⟩ := instY X C.1 C.2.1 C.2.2.1 w eT F (g := mkF _ pc Ls (.ref a :: st)) rfl rfl (hb C.2.2.2.1 hd)
  exact ⟨T', _, h, X', N, e', rfl, st⟩
theorem Go.instNo {K C' : String} {i : Nat} {a : Addr} (w : (Jvm.Cond.classLink y.cls i K).before a0 Z = true) (E : Exa Z h a C') (F : ∃ c t, Z.vm.findClass C' = some c ∧ Z.vm.findClass K = some t ∧ Z.vm.assignable c t = false) (hd : decode code pc = .ok (.instanceof i, 3)) (hp : pc + 3 = pc') (k : Go l R Z n0 y code ml ret Q cells slots h pc' Ls (.int 0 :: st)) : Go l R Z n0 y code ml ret Q cells slots h pc Ls (.ref a :: st) := by
  refine Go.law (P := fun h' => h' = h) (fun C X N eT _ => ?_) (fun h' e => e ▸ k)
  subst hp
  obtain ⟨T', X', e', st⟩ := instNo X C.1 C.2.1 C.2.2.1 w eT E F (g := mkF _ pc Ls (.ref a :: st)) rfl rfl (hb C.2.2.2.1 hd)
  exact ⟨T', _, h, X', N, e', rfl, st⟩
theorem Go.castNull {i : Nat} (hd : decode code pc = .ok (.checkcast i, 3)) (hp : pc + 3 = pc') (k : Go l R Z n0 y code ml ret Q cells slots h pc' Ls (.null :: st)) : Go l R Z n0 y code ml ret Q cells slots h pc Ls (.null :: st) := Go.step (fun C X _ q => by subst hp; exact (X.checkcastNull C.1 (g := mkF _ pc Ls (.null :: st)) rfl rfl (hb C.2.2.2.1 hd) _ q)) k
theorem Go.initO {i : Nat} {a : Addr} (w1 : (Jvm.Cond.methodLink y.cls i Lib.objectInit).before a0 Z = true) (w2 : (Jvm.Cond.instanceMethod Lib.objectInit).before a0 Z = true) (w3 : (Jvm.Cond.code Lib.objectInit ⟨#[0xb1]⟩ 1 none).before a0 Z = true) (hd : decode code pc = .ok (.invokespecial i, 3)) (hz : Ls.size = ml) (hf : 1 ≤ R.frames := by decide) (hl : (st.map fun v => v.category).sum + 12 ≤ R.locals := by decide) (hp : pc + 3 = pc') (k : Go l R Z n0 y code ml ret Q cells slots h pc' Ls st) : Go l R Z n0 y code ml ret Q cells slots h pc Ls (.ref a :: st) := by
  refine Go.law (P := fun h' => h' = h) (fun C X N eT _ => ?_) (fun h' e => e ▸ k)
  subst hp
  obtain ⟨T', X', e', st⟩ := initO X C.1 C.2.1 C.2.2.1 w1 w2 w3 eT (g := mkF _ pc Ls (.ref a :: st)) rfl (by rw [C.2.2.2.2.1]; exact hz) rfl (hb C.2.2.2.1 hd) hf (W := (st.map fun v => v.category).sum) (by simp) hl
  exact ⟨T', _, h, X', N, e', rfl, st⟩
theorem Go.getClass {i : Nat} {a mr : Addr} {C' : String} (w1 : (Jvm.Cond.methodLink y.cls i ⟨"java/lang/Object", "getClass", "()Ljava/lang/Class;"⟩).before a0 Z = true) (w2 : (Jvm.Cond.declares ⟨"java/lang/Object", "getClass", "()Ljava/lang/Class;"⟩).before a0 Z = true) (w3 : (Jvm.Cond.noSuperclass "java/lang/Object").before a0 Z = true) (w4 : (Jvm.Cond.selects C' ⟨"java/lang/Object", "getClass", "()Ljava/lang/Class;"⟩ ⟨"java/lang/Object", "getClass", "()Ljava/lang/Class;"⟩).before a0 Z = true) (w5 : (Jvm.Cond.instanceMethod ⟨"java/lang/Object", "getClass", "()Ljava/lang/Class;"⟩).before a0 Z = true) (w6 : (Jvm.Cond.native ⟨"java/lang/Object", "getClass", "()Ljava/lang/Class;"⟩).before a0 Z = true) (E : Exa Z h a C') (M : Mi Z C' mr) (hd : decode code pc = .ok (.invokevirtual i, 3)) (hz : Ls.size = ml) (hf : 1 ≤ R.frames := by decide) (hl : (st.map fun v => v.category).sum + (nativeFrameWords "java/lang/Object" "getClass" 1 + 11) ≤ R.locals := by decide) (hp : pc + 3 = pc') (k : Go l R Z n0 y code ml ret Q cells slots h pc' Ls (.ref mr :: st)) : Go l R Z n0 y code ml ret Q cells slots h pc Ls (.ref a :: st) := by
  refine Go.law (P := fun h' => h' = h) (fun C X N eT _ => ?_) (fun h' e => e ▸ k)
  subst hp
  obtain ⟨cB, kB, i1, i2, i3⟩ := isOf C.2.1 eT E
  obtain ⟨cc, kc, m1, m2, m3⟩ := M.at C.2.1
  cases i1.symm.trans m1
  obtain ⟨vm', X', st⟩ := X.getClassOf C.1 C.2.2.1 (mvT C.2.1 w1) (mvT C.2.1 w2) (nf_top (args := #[]) (mvT C.2.1 w3)) (mvT C.2.1 w4) (mvT C.2.1 w5) (mvT C.2.1 w6) m1 i3 m2 m3 (g := mkF _ pc Ls (.ref a :: st)) rfl (by rw [C.2.2.2.2.1]; exact hz) rfl (hb C.2.2.2.1 hd) hf (by simpa using hl)
  exact ⟨_, _, h, X', N, eT, rfl, st⟩
theorem Go.ldcMirror {i : Nat} {mr : Addr} {C' : String} (w : (Jvm.Cond.classLink y.cls i C').before a0 Z = true) (M : Mi Z C' mr) (hd : decode code pc = .ok (.ldc i, 2)) (hp : pc + 2 = pc') (k : Go l R Z n0 y code ml ret Q cells slots h pc' Ls (.ref mr :: st)) : Go l R Z n0 y code ml ret Q cells slots h pc Ls st := by
  refine Go.law (P := fun h' => h' = h) (fun C X N eT _ => ?_) (fun h' e => e ▸ k)
  subst hp
  obtain ⟨cc, kc, m1, m2, m3⟩ := M.at C.2.1
  obtain ⟨vm', X', st⟩ := X.ldcMirror C.1 C.2.2.1 (mvT C.2.1 w) (a := mr) (by simp [Term.eval, m1, m2, m3]) (g := mkF _ pc Ls st) rfl (hb C.2.2.2.1 hd)
  exact ⟨_, _, h, X', N, eT, rfl, st⟩
theorem Go.putfield {host : String} {R0 O n d : String} {i : Nat} (w : (Jvm.Cond.fieldLink y.cls i R0 n d).before a0 Z = true ∨ (Jvm.Cond.fieldLinkNest y.cls i R0 n d host).before a0 Z = true) {ty : FieldType} {C' : String} {kk : Nat} (via : Via Z R0 O n d) {v old : Value} {a : Addr} (F : Fld Z h a O n d old) (E : Exa Z h a C') (L : (Jvm.Cond.lays C' O n d).before a0 Z = true ∨ ((Jvm.Cond.laysFinal C' O n d).before a0 Z = true ∧ y.cls = O ∧ y.name = "<init>")) (wi : (Jvm.Cond.instantiable C' kk).before a0 Z = true) (hty : parseFieldDescriptor d = some ty) (hn : narrow ty v = v) (hf : fits ty v = true) (ha : n0 ≤ a) (hd : decode code pc = .ok (.putfield i, 3)) (hp : pc + 3 = pc') (k : ∀ h', Wr h h' a (Jvm.RoadKit.slotOf Z O n d) v → Go l R Z n0 y code ml ret Q cells slots h' pc' Ls st) : Go l R Z n0 y code ml ret Q cells slots h pc Ls (v :: .ref a :: st) := by
  refine Go.law (P := fun h' => Wr h h' a (Jvm.RoadKit.slotOf Z O n d) v) (fun C X N eT hn => ?_) (k)
  subst hp
  obtain ⟨T', h', X', e', W, st⟩ := putF X C.1 C.2.1 C.2.2.1 w via eT F E (L.imp id fun q => ⟨q.1, q.2.1, C.2.2.2.2.2.2.2.1.trans q.2.2⟩) wi hty ‹narrow ty v = v› hf (g := mkF _ pc Ls (v :: .ref a :: st)) rfl rfl (hb C.2.2.2.1 hd)
  exact ⟨T', _, h', X', Fr.snoc X' N ha, e', W, st⟩
theorem Go.putfieldN {R0 O n d : String} {i : Nat} (w : (Jvm.Cond.fieldLink y.cls i R0 n d).before a0 Z = true) {ty : FieldType} {C' : String} {kk : Nat} (via : Via Z R0 O n d) {v v' : Int32} {old : Value} {a : Addr} (F : Fld Z h a O n d old) (E : Exa Z h a C') (L : (Jvm.Cond.lays C' O n d).before a0 Z = true ∨ ((Jvm.Cond.laysFinal C' O n d).before a0 Z = true ∧ y.cls = O ∧ y.name = "<init>")) (wi : (Jvm.Cond.instantiable C' kk).before a0 Z = true) (hty : parseFieldDescriptor d = some ty) (hn : narrow ty (.int v) = .int v') (hf : fits ty (.int v') = true) (ha : n0 ≤ a) (hd : decode code pc = .ok (.putfield i, 3)) (hp : pc + 3 = pc') (k : ∀ h', Wr h h' a (Jvm.RoadKit.slotOf Z O n d) (.int v') → Go l R Z n0 y code ml ret Q cells slots h' pc' Ls st) : Go l R Z n0 y code ml ret Q cells slots h pc Ls (.int v :: .ref a :: st) := by
  refine Go.law (P := fun h' => Wr h h' a (Jvm.RoadKit.slotOf Z O n d) (.int v')) (fun C X N eT hn => ?_) (k)
  subst hp
  obtain ⟨T', h', X', e', W, st⟩ := putFN X C.1 C.2.1 C.2.2.1 w via eT F E (L.imp id fun q => ⟨q.1, q.2.1, C.2.2.2.2.2.2.2.1.trans q.2.2⟩) wi hty ‹narrow ty (.int v) = .int v'› hf (g := mkF _ pc Ls (.int v :: .ref a :: st)) rfl rfl (hb C.2.2.2.1 hd)
  exact ⟨T', _, h', X', Fr.snoc X' N ha, e', W, st⟩
theorem Go.new {C' : String} {i n cells' slots' : Nat} (w : (Jvm.Cond.classLink y.cls i C').before a0 Z = true) (wi : (Jvm.Cond.instantiable C' n).before a0 Z = true) (wz : (Jvm.Cond.initialized C').before a0 Z = true) (hd : decode code pc = .ok (.new i, 3)) (hc' : cells + 1 = cells') (hs' : slots + n = slots') (hc : cells' ≤ R.cells := by decide) (hl : slots' ≤ R.slots := by decide) (hp : pc + 3 = pc') (k : ∀ (h' : Heap) (b : Addr), b = h.size → Ext h h' → n0 ≤ b → Exa Z h' b C' → (∀ {O nm d : String} {ty : FieldType}, Laid Z a0 C' O nm d → parseFieldDescriptor d = some ty → Fld Z h' b O nm d (defaultValue ty)) → Go l R Z n0 y code ml ret Q cells' slots' h' pc' Ls (.ref b :: st)) : Go l R Z n0 y code ml ret Q cells slots h pc Ls st := by
  refine Go.law (P := fun h' => (Ext h h' ∧ n0 ≤ h.size ∧ Exa Z h' h.size C' ∧ ∀ {O nm d : String} {ty : FieldType}, Laid Z a0 C' O nm d → parseFieldDescriptor d = some ty → Fld Z h' h.size O nm d (defaultValue ty))) (fun C X N eT hn => ?_) (fun h' q => k h' h.size rfl q.1 q.2.1 q.2.2.1 q.2.2.2)
  subst hp
  subst hc' hs'
  obtain ⟨T', h', X', e', E, A, D, -, st⟩ := newO X C.1 C.2.1 C.2.2.1 w wi wz eT (g := mkF _ pc Ls st) rfl (hb C.2.2.2.1 hd) hc hl
  exact ⟨T', _, h', X', N, e', ⟨E, hn, A, D⟩, st⟩
theorem Go.newarray {aty : ArrayType} {ad : String} {n : Int32} {cap cells' slots' : Nat} (w : (Jvm.Cond.arrayClass (newarray.typeOf aty)).before a0 Z = true) (hd : decode code pc = .ok (.newarray aty, 2)) (had : "[" ++ (newarray.typeOf aty).toString = ad) (hn' : ¬ n < 0) (hcap : n.toNatClampNeg ≤ cap) (hc' : cells + 1 = cells') (hs' : slots + cap = slots') (hb8 : cap * 8 ≤ 536870912 := by decide) (hc : cells' ≤ R.cells := by decide) (hl : slots' ≤ R.slots := by decide) (hp : pc + 2 = pc') (k : ∀ (h' : Heap) (b : Addr), b = h.size → Ext h h' → n0 ≤ b → ∀ cA, Arv Z h' b cA (newarray.typeOf aty) n [] (defaultValue (newarray.typeOf aty)) → Exa Z h' b ad → Go l R Z n0 y code ml ret Q cells' slots' h' pc' Ls (.ref b :: st)) : Go l R Z n0 y code ml ret Q cells slots h pc Ls (.int n :: st) := by
  refine Go.law (P := fun h' => (Ext h h' ∧ n0 ≤ h.size ∧ ∃ cA, Arv Z h' h.size cA (newarray.typeOf aty) n [] (defaultValue (newarray.typeOf aty)) ∧ Exa Z h' h.size ad)) (fun C X N eT hn => ?_) (fun h' q => q.2.2.elim fun cA u => k h' h.size rfl q.1 q.2.1 cA u.1 u.2)
  subst hp
  subst hc' hs'
  obtain ⟨T', h', cA, X', e', E, A, A2, st⟩ := newPE X C.1 C.2.1 w eT (g := mkF _ pc Ls (.int n :: st)) rfl (hb C.2.2.2.1 hd) rfl hn' hcap hb8 hc hl had
  exact ⟨T', _, h', X', N, e', ⟨E, hn, cA, Arv.new A hn', A2⟩, st⟩
theorem Go.anewarray {C' ad : String} {i : Nat} {n : Int32} {cap cells' slots' : Nat} (w : (Jvm.Cond.classLink y.cls i C').before a0 Z = true) (w2 : (Jvm.Cond.arrayOver (.object C')).before a0 Z = true) (hd : decode code pc = .ok (.anewarray i, 3)) (had : "[" ++ (FieldType.object C').toString = ad) (hn' : ¬ n < 0) (hcap : n.toNatClampNeg ≤ cap) (hc' : cells + 1 = cells') (hs' : slots + cap = slots') (hb8 : cap * 8 ≤ 536870912 := by decide) (hc : cells' ≤ R.cells := by decide) (hl : slots' ≤ R.slots := by decide) (hp : pc + 3 = pc') (k : ∀ (h' : Heap) (b : Addr), b = h.size → Ext h h' → n0 ≤ b → ∀ cA, Arv Z h' b cA (.object C') n [] .null → Exa Z h' b ad → Ovr Z cA C' → Go l R Z n0 y code ml ret Q cells' slots' h' pc' Ls (.ref b :: st)) : Go l R Z n0 y code ml ret Q cells slots h pc Ls (.int n :: st) := by
  refine Go.law (P := fun h' => (Ext h h' ∧ n0 ≤ h.size ∧ ∃ cA, Arv Z h' h.size cA (.object C') n [] .null ∧ Exa Z h' h.size ad ∧ Ovr Z cA C')) (fun C X N eT hn => ?_) (fun h' q => q.2.2.elim fun cA u => k h' h.size rfl q.1 q.2.1 cA u.1 u.2.1 u.2.2)
  subst hp
  subst hc' hs'
  obtain ⟨T', h', cA, X', e', E, A, A2, O, st⟩ := newRE X C.1 C.2.1 C.2.2.1 w w2 eT (g := mkF _ pc Ls (.int n :: st)) rfl (hb C.2.2.2.1 hd) rfl hn' hcap hb8 hc hl had
  exact ⟨T', _, h', X', N, e', ⟨E, hn, cA, Arv.new A hn', A2, O⟩, st⟩
theorem Go.arraycopy {i : Nat} {a b : Addr} {kA kB : ClassId} {ty ty' : FieldType} {z z' sp dp nn : Int32} {vs vd us vd' : List Value} {dv dd : Value} (w1 : (Jvm.Cond.methodLink y.cls i Jvm.Stand.acN).before a0 Z = true) (w2 : (Jvm.Cond.native Jvm.Stand.acN).before a0 Z = true) (w3 : (Jvm.Cond.static Jvm.Stand.acN).before a0 Z = true) (w4 : (Jvm.Cond.initialized "java/lang/System").before a0 Z = true)
    (A : Arv Z h a kA ty z vs dv) (B : Arv Z h b kB ty' z' vd dd) (hty : (ty = ty' ∧ refKind ty = false) ∨ (refKind ty = true ∧ refKind ty' = true ∧ StoL Z h b us)) (h1 : ¬ sp < 0) (h2 : ¬ dp < 0) (h3 : ¬ nn < 0) (h4 : sp.toNatClampNeg + nn.toNatClampNeg ≤ z.toNatClampNeg) (h5 : dp.toNatClampNeg + nn.toNatClampNeg ≤ z'.toNatClampNeg)
    (hus : us = (List.range nn.toNatClampNeg).map fun i => vs.getD (sp.toNatClampNeg + i) dv) (hl : dp.toNatClampNeg + nn.toNatClampNeg ≤ vd.length) (hvd : vd.take dp.toNatClampNeg ++ us ++ vd.drop (dp.toNatClampNeg + nn.toNatClampNeg) = vd') (ge : n0 ≤ b) (hd : decode code pc = .ok (.invokestatic i, 3)) (hz : Ls.size = ml) (hf : 1 ≤ R.frames := by decide) (hlo : (st.map fun v => v.category).sum + (nativeFrameWords "java/lang/System" "arraycopy" 5 + 11) ≤ R.locals := by decide) (hp : pc + 3 = pc')
    (k : ∀ h', Keep h h' [b] → Arv Z h' b kB ty' z' vd' dd → Go l R Z n0 y code ml ret Q cells slots h' pc' Ls st) : Go l R Z n0 y code ml ret Q cells slots h pc Ls (.int nn :: .int dp :: .ref b :: .int sp :: .ref a :: st) := by
  refine Go.law (P := fun h' => Keep h h' [b] ∧ Arv Z h' b kB ty' z' vd' dd) (fun C X N eT hn => ?_) (fun h' q => k h' q.1 q.2)
  subst hp hvd
  obtain ⟨T', h', L, X', e', N', K, V, st⟩ := cpA X C.1 C.2.1 C.2.2.1 w1 w2 w3 w4 eT A B hty h1 h2 h3 h4 h5 hus hl N ge (g := mkF _ pc Ls (.int nn :: .int dp :: .ref b :: .int sp :: .ref a :: st)) rfl (by rw [C.2.2.2.2.1]; exact hz) rfl (hb C.2.2.2.1 hd) hf (W := (st.map fun v => v.category).sum) (by simp) hlo
  exact ⟨T', L, h', X', N', e', ⟨K, V⟩, st⟩
theorem Go.iastore {a : Addr} {kA : ClassId} {z j : Int32} {vs : List Value} {dv : Value} {v : Int32} {i : Nat} (F : Arv Z h a kA .int z vs dv) (ha : n0 ≤ a) (hd : decode code pc = .ok (.iastore, 1)) (hj : ¬ j < 0) (hjz : j < z) (hi : j.toNatClampNeg = i) (hil : i < vs.length) (hp : pc + 1 = pc') (k : ∀ h', Wr h h' a i (.int v) → Arv Z h' a kA .int z (vs.set i (.int v)) dv → Go l R Z n0 y code ml ret Q cells slots h' pc' Ls st) : Go l R Z n0 y code ml ret Q cells slots h pc Ls (.int v :: .int j :: .ref a :: st) := by
  refine Go.law (P := fun h' => (Wr h h' a i (.int v) ∧ Arv Z h' a kA .int z (vs.set i (.int v)) dv)) (fun C X N eT hn => ?_) (fun h' q => k h' q.1 q.2)
  subst hp
  obtain ⟨cl, A, q1, S, q3, H, G⟩ := F
  obtain ⟨T', h', X', e', W, st⟩ := stI X C.1 C.2.1 eT A (j := j) (inb_of S ⟨hj, hjz⟩) (g := mkF _ pc Ls (.int v :: .int j :: .ref a :: st)) rfl rfl (hb C.2.2.2.1 hd)
  have V := Arv.set A q1 S q3 H G rfl W i hi hil
  subst hi
  exact ⟨T', _, h', X', Fr.snoc X' N ha, e', ⟨W, V⟩, st⟩
theorem Go.lastore {a : Addr} {kA : ClassId} {z j : Int32} {vs : List Value} {dv : Value} {v : Int64} {i : Nat} (F : Arv Z h a kA .long z vs dv) (ha : n0 ≤ a) (hd : decode code pc = .ok (.lastore, 1)) (hj : ¬ j < 0) (hjz : j < z) (hi : j.toNatClampNeg = i) (hil : i < vs.length) (hp : pc + 1 = pc') (k : ∀ h', Wr h h' a i (.long v) → Arv Z h' a kA .long z (vs.set i (.long v)) dv → Go l R Z n0 y code ml ret Q cells slots h' pc' Ls st) : Go l R Z n0 y code ml ret Q cells slots h pc Ls (.long v :: .int j :: .ref a :: st) := by
  refine Go.law (P := fun h' => (Wr h h' a i (.long v) ∧ Arv Z h' a kA .long z (vs.set i (.long v)) dv)) (fun C X N eT hn => ?_) (fun h' q => k h' q.1 q.2)
  subst hp
  obtain ⟨cl, A, q1, S, q3, H, G⟩ := F
  obtain ⟨T', h', X', e', W, st⟩ := stJ X C.1 C.2.1 eT A (j := j) (inb_of S ⟨hj, hjz⟩) (g := mkF _ pc Ls (.long v :: .int j :: .ref a :: st)) rfl rfl (hb C.2.2.2.1 hd)
  have V := Arv.set A q1 S q3 H G rfl W i hi hil
  subst hi
  exact ⟨T', _, h', X', Fr.snoc X' N ha, e', ⟨W, V⟩, st⟩
theorem Go.castore {a : Addr} {kA : ClassId} {z j : Int32} {vs : List Value} {dv : Value} {v : Int32} {i : Nat} (F : Arv Z h a kA .char z vs dv) (ha : n0 ≤ a) (hd : decode code pc = .ok (.castore, 1)) (hj : ¬ j < 0) (hjz : j < z) (hi : j.toNatClampNeg = i) (hil : i < vs.length) (hp : pc + 1 = pc') (k : ∀ h', Wr h h' a i (.int (nar .char v)) → Arv Z h' a kA .char z (vs.set i (.int (nar .char v))) dv → Go l R Z n0 y code ml ret Q cells slots h' pc' Ls st) : Go l R Z n0 y code ml ret Q cells slots h pc Ls (.int v :: .int j :: .ref a :: st) := by
  refine Go.law (P := fun h' => (Wr h h' a i (.int (nar .char v)) ∧ Arv Z h' a kA .char z (vs.set i (.int (nar .char v))) dv)) (fun C X N eT hn => ?_) (fun h' q => k h' q.1 q.2)
  subst hp
  obtain ⟨cl, A, q1, S, q3, H, G⟩ := F
  obtain ⟨T', h', X', e', W, st⟩ := stC X C.1 C.2.1 eT A (j := j) (inb_of S ⟨hj, hjz⟩) (g := mkF _ pc Ls (.int v :: .int j :: .ref a :: st)) rfl rfl (hb C.2.2.2.1 hd)
  have V := Arv.set A q1 S q3 H G (fits_nar_char v) W i hi hil
  subst hi
  exact ⟨T', _, h', X', Fr.snoc X' N ha, e', ⟨W, V⟩, st⟩
theorem Go.bastore {a : Addr} {kA : ClassId} {z j : Int32} {vs : List Value} {dv : Value} {v : Int32} {i : Nat} (F : Arv Z h a kA .byte z vs dv) (ha : n0 ≤ a) (hd : decode code pc = .ok (.bastore, 1)) (hj : ¬ j < 0) (hjz : j < z) (hi : j.toNatClampNeg = i) (hil : i < vs.length) (hp : pc + 1 = pc') (k : ∀ h', Wr h h' a i (.int v.toInt8.toInt32) → Arv Z h' a kA .byte z (vs.set i (.int v.toInt8.toInt32)) dv → Go l R Z n0 y code ml ret Q cells slots h' pc' Ls st) : Go l R Z n0 y code ml ret Q cells slots h pc Ls (.int v :: .int j :: .ref a :: st) := by
  refine Go.law (P := fun h' => (Wr h h' a i (.int v.toInt8.toInt32) ∧ Arv Z h' a kA .byte z (vs.set i (.int v.toInt8.toInt32)) dv)) (fun C X N eT hn => ?_) (fun h' q => k h' q.1 q.2)
  subst hp
  obtain ⟨cl, A, q1, S, q3, H, G⟩ := F
  obtain ⟨T', h', X', e', W, st⟩ := stB X C.1 C.2.1 eT A (j := j) (inb_of S ⟨hj, hjz⟩) (g := mkF _ pc Ls (.int v :: .int j :: .ref a :: st)) rfl rfl (hb C.2.2.2.1 hd)
  have V := Arv.set A q1 S q3 H G (fits_nar_byte v) W i hi hil
  subst hi
  exact ⟨T', _, h', X', Fr.snoc X' N ha, e', ⟨W, V⟩, st⟩
theorem Go.aastore {a : Addr} {kA : ClassId} {ty : FieldType} {z j : Int32} {vs : List Value} {dv v : Value} {i : Nat} (F : Arv Z h a kA ty z vs dv) (ha : n0 ≤ a) (hty : ty.isReference = true) (hfit : fits ty v = true) (Fs : Sto Z h a v) (hd : decode code pc = .ok (.aastore, 1)) (hj : ¬ j < 0) (hjz : j < z) (hi : j.toNatClampNeg = i) (hil : i < vs.length) (hp : pc + 1 = pc') (k : ∀ h', Wr h h' a i v → Arv Z h' a kA ty z (vs.set i v) dv → Go l R Z n0 y code ml ret Q cells slots h' pc' Ls st) : Go l R Z n0 y code ml ret Q cells slots h pc Ls (v :: .int j :: .ref a :: st) := by
  refine Go.law (P := fun h' => (Wr h h' a i v ∧ Arv Z h' a kA ty z (vs.set i v) dv)) (fun C X N eT hn => ?_) (fun h' q => k h' q.1 q.2)
  subst hp
  obtain ⟨cl, A, q1, S, q3, H, G⟩ := F
  obtain ⟨T', h', X', e', W, st⟩ := stR X C.1 C.2.1 eT A (j := j) (inb_of S ⟨hj, hjz⟩) hty Fs (g := mkF _ pc Ls (v :: .int j :: .ref a :: st)) rfl rfl (hb C.2.2.2.1 hd)
  have V := Arv.set A q1 S q3 H G hfit W i hi hil
  subst hi
  exact ⟨T', _, h', X', Fr.snoc X' N ha, e', ⟨W, V⟩, st⟩
theorem Go.iaload {a : Addr} {kA : ClassId} {z j : Int32} {vs : List Value} {dv : Value} {v : Int32} (F : Arv Z h a kA .int z vs dv) (hd : decode code pc = .ok (.iaload, 1)) (hj : ¬ j < 0) (hjz : j < z) (hv : vs.getD j.toNatClampNeg dv = .int v) (hp : pc + 1 = pc') (k : Go l R Z n0 y code ml ret Q cells slots h pc' Ls (.int v :: st)) : Go l R Z n0 y code ml ret Q cells slots h pc Ls (.int j :: .ref a :: st) := by
  refine Go.step (fun C X eT q => ?_) k
  subst hp
  obtain ⟨cl, A, q1, S, q3, H, G⟩ := F
  have hin := inb_of S ⟨hj, hjz⟩
  exact X.iaload C.1 (j := j) (v := .int v) (by rw [eT]; exact A.1) (State.isArrayOf_alike C.2.1.alike A.2.1) A.2.2 hin (Has.at H hin hv) (g := mkF _ pc Ls (.int j :: .ref a :: st)) rfl rfl (hb C.2.2.2.1 hd) _ q
theorem Go.laload {a : Addr} {kA : ClassId} {z j : Int32} {vs : List Value} {dv : Value} {v : Int64} (F : Arv Z h a kA .long z vs dv) (hd : decode code pc = .ok (.laload, 1)) (hj : ¬ j < 0) (hjz : j < z) (hv : vs.getD j.toNatClampNeg dv = .long v) (hp : pc + 1 = pc') (k : Go l R Z n0 y code ml ret Q cells slots h pc' Ls (.long v :: st)) : Go l R Z n0 y code ml ret Q cells slots h pc Ls (.int j :: .ref a :: st) := by
  refine Go.step (fun C X eT q => ?_) k
  subst hp
  obtain ⟨cl, A, q1, S, q3, H, G⟩ := F
  have hin := inb_of S ⟨hj, hjz⟩
  exact X.laload C.1 (j := j) (v := .long v) (by rw [eT]; exact A.1) (State.isArrayOf_alike C.2.1.alike A.2.1) A.2.2 hin (Has.at H hin hv) (g := mkF _ pc Ls (.int j :: .ref a :: st)) rfl rfl (hb C.2.2.2.1 hd) _ q
theorem Go.caload {a : Addr} {kA : ClassId} {z j : Int32} {vs : List Value} {dv : Value} {v : Int32} (F : Arv Z h a kA .char z vs dv) (hd : decode code pc = .ok (.caload, 1)) (hj : ¬ j < 0) (hjz : j < z) (hv : vs.getD j.toNatClampNeg dv = .int v) (hp : pc + 1 = pc') (k : Go l R Z n0 y code ml ret Q cells slots h pc' Ls (.int v :: st)) : Go l R Z n0 y code ml ret Q cells slots h pc Ls (.int j :: .ref a :: st) := by
  refine Go.step (fun C X eT q => ?_) k
  subst hp
  obtain ⟨cl, A, q1, S, q3, H, G⟩ := F
  have hin := inb_of S ⟨hj, hjz⟩
  exact X.caload C.1 (j := j) (v := .int v) (by rw [eT]; exact A.1) (State.isArrayOf_alike C.2.1.alike A.2.1) A.2.2 hin (Has.at H hin hv) (g := mkF _ pc Ls (.int j :: .ref a :: st)) rfl rfl (hb C.2.2.2.1 hd) _ q
theorem Go.baload {a : Addr} {kA : ClassId} {z j : Int32} {vs : List Value} {dv : Value} {v : Int32} (F : Arv Z h a kA .byte z vs dv) (hd : decode code pc = .ok (.baload, 1)) (hj : ¬ j < 0) (hjz : j < z) (hv : vs.getD j.toNatClampNeg dv = .int v) (hp : pc + 1 = pc') (k : Go l R Z n0 y code ml ret Q cells slots h pc' Ls (.int v :: st)) : Go l R Z n0 y code ml ret Q cells slots h pc Ls (.int j :: .ref a :: st) := by
  refine Go.step (fun C X eT q => ?_) k
  subst hp
  obtain ⟨cl, A, q1, S, q3, H, G⟩ := F
  have hin := inb_of S ⟨hj, hjz⟩
  exact X.baloadBytes C.1 (j := j) (v := .int v) (by rw [eT]; exact A.1) (State.isArrayOf_alike C.2.1.alike A.2.1) A.2.2 hin (Has.at H hin hv) (g := mkF _ pc Ls (.int j :: .ref a :: st)) rfl rfl (hb C.2.2.2.1 hd) _ q
theorem Go.aaload {a : Addr} {kA : ClassId} {z j : Int32} {vs : List Value} {dv : Value} {v : Value} {ty : FieldType} (F : Arv Z h a kA ty z vs dv) (hty : ty.isReference = true) (hd : decode code pc = .ok (.aaload, 1)) (hj : ¬ j < 0) (hjz : j < z) (hv : vs.getD j.toNatClampNeg dv = v) (hp : pc + 1 = pc') (k : Go l R Z n0 y code ml ret Q cells slots h pc' Ls (v :: st)) : Go l R Z n0 y code ml ret Q cells slots h pc Ls (.int j :: .ref a :: st) := by
  refine Go.step (fun C X eT q => ?_) k
  subst hp
  obtain ⟨cl, A, q1, S, q3, H, G⟩ := F
  have hin := inb_of S ⟨hj, hjz⟩
  exact X.aaload C.1 (j := j) (v := v) (by rw [eT]; exact A.1) (State.isArrayOf_alike C.2.1.alike A.2.1) hty A.2.2 hin (Has.at H hin hv) (g := mkF _ pc Ls (.int j :: .ref a :: st)) rfl rfl (hb C.2.2.2.1 hd) _ q
theorem Go.arraylength {a : Addr} {kA : ClassId} {ty : FieldType} {z : Int32} {vs : List Value} {dv : Value} (F : Arv Z h a kA ty z vs dv) (hd : decode code pc = .ok (.arraylength, 1)) (hp : pc + 1 = pc') (k : Go l R Z n0 y code ml ret Q cells slots h pc' Ls (.int z :: st)) : Go l R Z n0 y code ml ret Q cells slots h pc Ls (.ref a :: st) := by
  refine Go.step (fun C X eT q => ?_) k
  subst hp
  obtain ⟨cl, A, q1, S, q3, H, G⟩ := F
  refine X.arraylength C.1 (by rw [eT]; exact A.1) (State.isArrayOf_alike C.2.1.alike A.2.1) (g := mkF _ pc Ls (.ref a :: st)) rfl rfl (hb C.2.2.2.1 hd) _ ?_
  rw [len_of S q3]
  exact q
theorem Go.retV (hr : ret = none) (hd : decode code pc = .ok (.return_, 1)) (hq : Q none h) (hc : cells ≤ R.cells := by decide) (hs : slots ≤ R.slots := by decide) : Go l R Z n0 y code ml ret Q cells slots h pc Ls [] := by
  intro p e s m args below meth c T locs C X N eT
  obtain ⟨fs, hr', hrun, hended, hW, hsame⟩ := X.leave (v := none) (fun _ => rfl) C.2.2.2.2.2.2.1
  refine ⟨_, _, X.returnOut C.1 (C.2.2.2.2.2.1.trans hr) (hb C.2.2.2.1 hd) hr', hrun, hended, _, locs, rfl, ⟨?_, N⟩, ⟨_, rfl⟩, hW, hsame.mono hc hs⟩
  show Q _ T.heap
  rw [eT]; exact hq
theorem Go.retN {t : FieldType} {v : Int32} (hr : ret = some t) (ht : t = .boolean ∨ t = .byte ∨ t = .char ∨ t = .short) (hd : decode code pc = .ok (.ireturn, 1)) (hq : Q (some (.int (nar t v))) h) (hc : cells ≤ R.cells := by decide) (hs : slots ≤ R.slots := by decide) : Go l R Z n0 y code ml ret Q cells slots h pc Ls (.int v :: st) := by
  intro p e s m args below meth c T locs C X N eT
  obtain ⟨fs, hr', hrun, hended, hW, hsame⟩ := X.leave (v := some (.int (nar t v))) (fun q => by rw [C.2.2.2.2.2.1, hr] at q; cases q) C.2.2.2.2.2.2.1
  refine ⟨_, _, Jvm.RoadKit.retN X C.1 (C.2.2.2.2.2.1.trans hr) ht (hb C.2.2.2.1 hd) hr', hrun, hended, _, locs, rfl, ⟨?_, N⟩, ⟨_, rfl⟩, hW, hsame.mono hc hs⟩
  show Q _ T.heap
  rw [eT]; exact hq
theorem Go.retI {v : Int32} (hr : ret = some .int) (hd : decode code pc = .ok (.ireturn, 1)) (hq : Q (some (.int v)) h) (hc : cells ≤ R.cells := by decide) (hs : slots ≤ R.slots := by decide) : Go l R Z n0 y code ml ret Q cells slots h pc Ls (.int v :: st) := by
  intro p e s m args below meth c T locs C X N eT
  obtain ⟨fs, hr', hrun, hended, hW, hsame⟩ := X.leave (v := some (.int v)) (fun q => by rw [C.2.2.2.2.2.1, hr] at q; cases q) C.2.2.2.2.2.2.1
  refine ⟨_, _, retOut X C.1 (C.2.2.2.2.2.1.trans hr) rfl (Or.inl ⟨rfl, Or.inl rfl, _, rfl⟩) (hb C.2.2.2.1 hd) hr', hrun, hended, _, locs, rfl, ⟨?_, N⟩, ⟨_, rfl⟩, hW, hsame.mono hc hs⟩
  show Q _ T.heap
  rw [eT]; exact hq
theorem Go.retJ {v : Int64} (hr : ret = some .long) (hd : decode code pc = .ok (.lreturn, 1)) (hq : Q (some (.long v)) h) (hc : cells ≤ R.cells := by decide) (hs : slots ≤ R.slots := by decide) : Go l R Z n0 y code ml ret Q cells slots h pc Ls (.long v :: st) := by
  intro p e s m args below meth c T locs C X N eT
  obtain ⟨fs, hr', hrun, hended, hW, hsame⟩ := X.leave (v := some (.long v)) (fun q => by rw [C.2.2.2.2.2.1, hr] at q; cases q) C.2.2.2.2.2.2.1
  refine ⟨_, _, retOut X C.1 (C.2.2.2.2.2.1.trans hr) rfl (Or.inr (Or.inl ⟨rfl, rfl, _, rfl⟩)) (hb C.2.2.2.1 hd) hr', hrun, hended, _, locs, rfl, ⟨?_, N⟩, ⟨_, rfl⟩, hW, hsame.mono hc hs⟩
  show Q _ T.heap
  rw [eT]; exact hq
theorem Go.retR {t : FieldType} {v : Value} (hr : ret = some t) (ht : t.isReference = true) (hv : v.isRef = true) (hn : narrow t v = v) (hd : decode code pc = .ok (.areturn, 1)) (hq : Q (some v) h) (hc : cells ≤ R.cells := by decide) (hs : slots ≤ R.slots := by decide) : Go l R Z n0 y code ml ret Q cells slots h pc Ls (v :: st) := by
  intro p e s m args below meth c T locs C X N eT
  obtain ⟨fs, hr', hrun, hended, hW, hsame⟩ := X.leave (v := some v) (fun q => by rw [C.2.2.2.2.2.1, hr] at q; cases q) C.2.2.2.2.2.2.1
  refine ⟨_, _, retOut X C.1 (C.2.2.2.2.2.1.trans hr) hn (Or.inr (Or.inr (Or.inr (Or.inr ⟨rfl, ht, hv⟩)))) (hb C.2.2.2.1 hd) hr', hrun, hended, _, locs, rfl, ⟨?_, N⟩, ⟨_, rfl⟩, hW, hsame.mono hc hs⟩
  show Q _ T.heap
  rw [eT]; exact hq
theorem Go.callS {z : MethodName} {zc : ByteArray} {zm : Nat} {zr : Option FieldType} {rm : Room} {Q' : Option Value → Heap → Prop} {cells' slots' i : Nat} (argsL rest : List Value) {ps : List FieldType} {r : Option FieldType} (w1 : (Jvm.Cond.methodLink y.cls i z).before a0 Z = true) (w2 : (Jvm.Cond.static z).before a0 Z = true) (wi : (Jvm.Cond.initialized z.cls).before a0 Z = true) (wc : (Jvm.Cond.code z zc zm zr).before a0 Z = true) (hy : z.cls ≠ "java/lang/invoke/MethodHandle" ∧ z.cls ≠ "java/lang/invoke/VarHandle") (hK : Con l z zc zm zr rm Z n0 argsL.toArray h Q') (hpd : parseMethodDescriptor z.desc = some ⟨ps, r⟩) (hlen : argsL.length = ps.length) (hst : st = argsL.reverse ++ rest) (hz : Ls.size = ml) (hc' : cells + rm.cells = cells') (hs' : slots + rm.slots = slots') (hfr : rm.frames + 1 ≤ R.frames := by decide) (hlo : (rest.map fun v => v.category).sum + (zm + 11) + rm.locals ≤ R.locals := by decide) (hc : cells' ≤ R.cells := by decide) (hs : slots' ≤ R.slots := by decide) (hd : decode code pc = .ok (.invokestatic i, 3)) (hp : pc + 3 = pc')
    (k : ∀ v h', Q' v h' → Go l R Z n0 y code ml ret Q cells' slots' h' pc' Ls (v.toList ++ rest)) : Go l R Z n0 y code ml ret Q cells slots h pc Ls st := by
  intro p e s m args below meth c T locs C X N eT
  subst hc' hs' hp hst
  have hold : Old Z n0 h := own_old C.2.2.2.2.2.2.2.2 X N eT
  obtain ⟨v, _, ⟨T', L', k', n'⟩, -, X', ⟨Lc, hQ, l', y', z'⟩, st⟩ := Jvm.LawKit.callS X C.1 (y := z) C.2.2.1 (mvT C.2.1 w1) (mvT C.2.1 w2) (mvT C.2.1 wi) (mvT C.2.1 wc) hy (backOf (W := (rest.map fun v => v.category).sum) (Q := fun v h L => Q' v h ∧ Fr n0 L) (hK hold []) C.2.1 wc wi hfr hlo) (g := mkF m pc Ls (argsL.reverse ++ rest)) rfl (by rw [C.2.2.2.2.1]; exact hz) (argsL := argsL) (rest := rest) (lenOf hpd hlen) rfl (by simp) (hb C.2.2.2.1 hd) (fun _ _ => ⟨rfl, eT, hc, hs⟩)
  dsimp only [Pt.U, Pt.locs, Pt.cells, Pt.slots] at X' l' y' z' st hQ
  subst l' y' z'
  obtain ⟨s₂, o, h1, h2⟩ := k v _ hQ.1 p e s m args below meth c T' _ C X' (Fr.app N hQ.2) rfl
  exact ⟨s₂, o, st _ h1, h2⟩
theorem Go.callC {z : MethodName} {zc : ByteArray} {zm : Nat} {zr : Option FieldType} {rm : Room} {Q' : Option Value → Heap → Prop} {cells' slots' i : Nat} (argsL rest : List Value) {ps : List FieldType} {r : Option FieldType} {a : Addr} (hzi : z.name = "<init>") (hzr : zr = none) (w1 : (Jvm.Cond.methodLink y.cls i z).before a0 Z = true) (w2 : (Jvm.Cond.instanceMethod z).before a0 Z = true) (wi : (Jvm.Cond.initialized z.cls).before a0 Z = true) (wc : (Jvm.Cond.code z zc zm zr).before a0 Z = true) (hy : z.cls ≠ "java/lang/invoke/MethodHandle" ∧ z.cls ≠ "java/lang/invoke/VarHandle") (hK : Con l z zc zm zr rm Z n0 (.ref a :: argsL).toArray h Q') (hpd : parseMethodDescriptor z.desc = some ⟨ps, r⟩) (hlen : argsL.length = ps.length) (hst : st = argsL.reverse ++ .ref a :: rest) (hz : Ls.size = ml) (hc' : cells + rm.cells = cells') (hs' : slots + rm.slots = slots') (hfr : rm.frames + 1 ≤ R.frames := by decide) (hlo : (rest.map fun v => v.category).sum + (zm + 11) + rm.locals ≤ R.locals := by decide) (hc : cells' ≤ R.cells := by decide) (hs : slots' ≤ R.slots := by decide) (hd : decode code pc = .ok (.invokespecial i, 3)) (hp : pc + 3 = pc')
    (k : ∀ v h', Q' v h' → Go l R Z n0 y code ml ret Q cells' slots' h' pc' Ls (v.toList ++ rest)) : Go l R Z n0 y code ml ret Q cells slots h pc Ls st := by
  intro p e s m args below meth c T locs C X N eT
  subst hc' hs' hp hst
  have hold : Old Z n0 h := own_old C.2.2.2.2.2.2.2.2 X N eT
  subst hzr
  obtain ⟨v, _, ⟨T', L', k', n'⟩, -, X', ⟨Lc, hQ, l', y', z'⟩, st⟩ := X.specialBack C.1 (y := z) hzi C.2.2.1 (mvT C.2.1 w1) (mvT C.2.1 w2) (mvT C.2.1 wc) hy (backOf (W := (rest.map fun v => v.category).sum) (Q := fun v h L => Q' v h ∧ Fr n0 L) (hK hold []) C.2.1 wc wi hfr hlo) (g := mkF m pc Ls (argsL.reverse ++ .ref a :: rest)) rfl (by rw [C.2.2.2.2.1]; exact hz) (Steps.refl _) (a := a) (argsL := argsL) (rest := rest) (lenOf hpd hlen) rfl (by simp) (hb C.2.2.2.1 hd) (fun _ _ => ⟨rfl, eT, hc, hs⟩)
  dsimp only [Pt.U, Pt.locs, Pt.cells, Pt.slots] at X' l' y' z' st hQ
  subst l' y' z'
  obtain ⟨s₂, o, h1, h2⟩ := k v _ hQ.1 p e s m args below meth c T' _ C X' (Fr.app N hQ.2) rfl
  exact ⟨s₂, o, st.trans h1, h2⟩
theorem Go.callCN {z : MethodName} {zc : ByteArray} {zm : Nat} {zr : Option FieldType} {rm : Room} {Q' : Option Value → Heap → Prop} {cells' slots' i : Nat} (argsL rest : List Value) {ps : List FieldType} {r : Option FieldType} {a : Addr} {host : String} (hzi : z.name = "<init>") (hzr : zr = none) (w1 : (Jvm.Cond.methodLinkNest y.cls i z host).before a0 Z = true) (w2 : (Jvm.Cond.instanceMethod z).before a0 Z = true) (wi : (Jvm.Cond.initialized z.cls).before a0 Z = true) (wc : (Jvm.Cond.code z zc zm zr).before a0 Z = true) (hy : z.cls ≠ "java/lang/invoke/MethodHandle" ∧ z.cls ≠ "java/lang/invoke/VarHandle") (hK : Con l z zc zm zr rm Z n0 (.ref a :: argsL).toArray h Q') (hpd : parseMethodDescriptor z.desc = some ⟨ps, r⟩) (hlen : argsL.length = ps.length) (hst : st = argsL.reverse ++ .ref a :: rest) (hz : Ls.size = ml) (hc' : cells + rm.cells = cells') (hs' : slots + rm.slots = slots') (hfr : rm.frames + 1 ≤ R.frames := by decide) (hlo : (rest.map fun v => v.category).sum + (zm + 11) + rm.locals ≤ R.locals := by decide) (hc : cells' ≤ R.cells := by decide) (hs : slots' ≤ R.slots := by decide) (hd : decode code pc = .ok (.invokespecial i, 3)) (hp : pc + 3 = pc')
    (k : ∀ v h', Q' v h' → Go l R Z n0 y code ml ret Q cells' slots' h' pc' Ls (v.toList ++ rest)) : Go l R Z n0 y code ml ret Q cells slots h pc Ls st := by
  intro p e s m args below meth c T locs C X N eT
  subst hc' hs' hp hst
  have hold : Old Z n0 h := own_old C.2.2.2.2.2.2.2.2 X N eT
  subst hzr
  obtain ⟨v, _, ⟨T', L', k', n'⟩, -, X', ⟨Lc, hQ, l', y', z'⟩, st⟩ := X.specialBackNest C.1 (y := z) hzi C.2.2.1 ((Cond.methodLinkNest_wide C.2.1 w1 :)) (mvT C.2.1 w2) (mvT C.2.1 wc) hy (backOf (W := (rest.map fun v => v.category).sum) (Q := fun v h L => Q' v h ∧ Fr n0 L) (hK hold []) C.2.1 wc wi hfr hlo) (g := mkF m pc Ls (argsL.reverse ++ .ref a :: rest)) rfl (by rw [C.2.2.2.2.1]; exact hz) (Steps.refl _) (a := a) (argsL := argsL) (rest := rest) (lenOf hpd hlen) rfl (by simp) (hb C.2.2.2.1 hd) (fun _ _ => ⟨rfl, eT, hc, hs⟩)
  dsimp only [Pt.U, Pt.locs, Pt.cells, Pt.slots] at X' l' y' z' st hQ
  subst l' y' z'
  obtain ⟨s₂, o, h1, h2⟩ := k v _ hQ.1 p e s m args below meth c T' _ C X' (Fr.app N hQ.2) rfl
  exact ⟨s₂, o, st.trans h1, h2⟩
theorem Go.callV {z : MethodName} {zc : ByteArray} {zm : Nat} {zr : Option FieldType} {rm : Room} {Q' : Option Value → Heap → Prop} {cells' slots' i : Nat} (argsL rest : List Value) {ps : List FieldType} {r : Option FieldType} {a : Addr} {x' : MethodName} {C' : String} (E : Exa Z h a C') (w1 : (Jvm.Cond.methodLink y.cls i x').before a0 Z = true) (w2 : (Jvm.Cond.declares x').before a0 Z = true) (nf : ∀ s' : State, Z.Warmed39 s'.vm → NotFace s' x') (w3 : (Jvm.Cond.selects C' x' z).before a0 Z = true) (w4 : (Jvm.Cond.instanceMethod z).before a0 Z = true) (wi : (Jvm.Cond.initialized z.cls).before a0 Z = true) (wc : (Jvm.Cond.code z zc zm zr).before a0 Z = true) (hy : x'.cls ≠ "java/lang/invoke/MethodHandle" ∧ x'.cls ≠ "java/lang/invoke/VarHandle") (hK : Con l z zc zm zr rm Z n0 (.ref a :: argsL).toArray h Q') (hpd : parseMethodDescriptor x'.desc = some ⟨ps, r⟩) (hlen : argsL.length = ps.length) (hst : st = argsL.reverse ++ .ref a :: rest) (hz : Ls.size = ml) (hc' : cells + rm.cells = cells') (hs' : slots + rm.slots = slots') (hfr : rm.frames + 1 ≤ R.frames := by decide) (hlo : (rest.map fun v => v.category).sum + (zm + 11) + rm.locals ≤ R.locals := by decide) (hc : cells' ≤ R.cells := by decide) (hs : slots' ≤ R.slots := by decide) (hd : decode code pc = .ok (.invokevirtual i, 3)) (hp : pc + 3 = pc')
    (k : ∀ v h', Q' v h' → Go l R Z n0 y code ml ret Q cells' slots' h' pc' Ls (v.toList ++ rest)) : Go l R Z n0 y code ml ret Q cells slots h pc Ls st := by
  intro p e s m args below meth c T locs C X N eT
  subst hc' hs' hp hst
  have hold : Old Z n0 h := own_old C.2.2.2.2.2.2.2.2 X N eT
  obtain ⟨cq, kq, qa, qb, qc⟩ := isOf C.2.1 eT E
  obtain ⟨v, _, ⟨T', L', k', n'⟩, -, X', ⟨Lc, hQ, l', y', z'⟩, st⟩ := X.virtualBack C.1 (y := x') (z := z) C.2.2.1 (mvT C.2.1 w1) (mvT C.2.1 w2) (nf s C.2.1) (mvT C.2.1 w3) (mvT C.2.1 w4) hy (backOf (W := (rest.map fun v => v.category).sum) (Q := fun v h L => Q' v h ∧ Fr n0 L) (hK hold []) C.2.1 wc wi hfr hlo) qa qc (g := mkF m pc Ls (argsL.reverse ++ .ref a :: rest)) rfl (by rw [C.2.2.2.2.1]; exact hz) (Steps.refl _) (argsL := argsL) (rest := rest) (lenOf hpd hlen) rfl (by simp) (hb C.2.2.2.1 hd) (fun _ _ => ⟨rfl, eT, hc, hs⟩)
  dsimp only [Pt.U, Pt.locs, Pt.cells, Pt.slots] at X' l' y' z' st hQ
  subst l' y' z'
  obtain ⟨s₂, o, h1, h2⟩ := k v _ hQ.1 p e s m args below meth c T' _ C X' (Fr.app N hQ.2) rfl
  exact ⟨s₂, o, st.trans h1, h2⟩
theorem Go.callU {z : MethodName} {zc : ByteArray} {zm : Nat} {zr : Option FieldType} {rm : Room} {Q' : Option Value → Heap → Prop} {cells' slots' i : Nat} (argsL rest : List Value) {ps : List FieldType} {r : Option FieldType} {a : Addr} {x' : MethodName} {C' owner : String} (E : Exa Z h a C') (w1 : (Jvm.Cond.methodLink y.cls i x').before a0 Z = true) (w2 : (Jvm.Cond.sameMethod x'.cls owner x'.name x'.desc).before a0 Z = true) (w5 : (Jvm.Cond.declares ⟨owner, x'.name, x'.desc⟩).before a0 Z = true) (w3 : (Jvm.Cond.selects C' x' z).before a0 Z = true) (w4 : (Jvm.Cond.instanceMethod z).before a0 Z = true) (wi : (Jvm.Cond.initialized z.cls).before a0 Z = true) (wc : (Jvm.Cond.code z zc zm zr).before a0 Z = true) (hy : owner ≠ "java/lang/invoke/MethodHandle" ∧ owner ≠ "java/lang/invoke/VarHandle") (hK : Con l z zc zm zr rm Z n0 (.ref a :: argsL).toArray h Q') (hpd : parseMethodDescriptor x'.desc = some ⟨ps, r⟩) (hlen : argsL.length = ps.length) (hst : st = argsL.reverse ++ .ref a :: rest) (hz : Ls.size = ml) (hc' : cells + rm.cells = cells') (hs' : slots + rm.slots = slots') (hfr : rm.frames + 1 ≤ R.frames := by decide) (hlo : (rest.map fun v => v.category).sum + (zm + 11) + rm.locals ≤ R.locals := by decide) (hc : cells' ≤ R.cells := by decide) (hs : slots' ≤ R.slots := by decide) (hd : decode code pc = .ok (.invokevirtual i, 3)) (hp : pc + 3 = pc')
    (k : ∀ v h', Q' v h' → Go l R Z n0 y code ml ret Q cells' slots' h' pc' Ls (v.toList ++ rest)) : Go l R Z n0 y code ml ret Q cells slots h pc Ls st := by
  intro p e s m args below meth c T locs C X N eT
  subst hc' hs' hp hst
  have hold : Old Z n0 h := own_old C.2.2.2.2.2.2.2.2 X N eT
  obtain ⟨cq, kq, qa, qb, qc⟩ := isOf C.2.1 eT E
  obtain ⟨v, _, ⟨T', L', k', n'⟩, -, X', ⟨Lc, hQ, l', y', z'⟩, st⟩ := X.virtualBackUp C.1 (x := x') (y := z) C.2.2.1 (mvT C.2.1 w1) (mvT C.2.1 w2) (mvT C.2.1 w5) hy (mvT C.2.1 w3) (mvT C.2.1 w4) (backOf (W := (rest.map fun v => v.category).sum) (Q := fun v h L => Q' v h ∧ Fr n0 L) (hK hold []) C.2.1 wc wi hfr hlo) qa qc (g := mkF m pc Ls (argsL.reverse ++ .ref a :: rest)) rfl (by rw [C.2.2.2.2.1]; exact hz) (Steps.refl _) (argsL := argsL) (rest := rest) (lenOf hpd hlen) rfl (by simp) (hb C.2.2.2.1 hd) (fun _ _ => ⟨rfl, eT, hc, hs⟩)
  dsimp only [Pt.U, Pt.locs, Pt.cells, Pt.slots] at X' l' y' z' st hQ
  subst l' y' z'
  obtain ⟨s₂, o, h1, h2⟩ := k v _ hQ.1 p e s m args below meth c T' _ C X' (Fr.app N hQ.2) rfl
  exact ⟨s₂, o, st.trans h1, h2⟩
theorem Go.callP {z : MethodName} {zc : ByteArray} {zm : Nat} {zr : Option FieldType} {rm : Room} {Q' : Option Value → Heap → Prop} {cells' slots' i : Nat} (argsL rest : List Value) {ps : List FieldType} {r : Option FieldType} {a : Addr} {C' : String} (E : Exa Z h a C') (w1 : (Jvm.Cond.methodLink y.cls i z).before a0 Z = true) (w2 : (Jvm.Cond.instanceMethod z).before a0 Z = true) (w3 : (Jvm.Cond.selects z.cls z z).before a0 Z = true) (w4 : (Jvm.Cond.privateMethod z).before a0 Z = true) (wi : (Jvm.Cond.initialized z.cls).before a0 Z = true) (wc : (Jvm.Cond.code z zc zm zr).before a0 Z = true) (hy : z.cls ≠ "java/lang/invoke/MethodHandle" ∧ z.cls ≠ "java/lang/invoke/VarHandle") (hK : Con l z zc zm zr rm Z n0 (.ref a :: argsL).toArray h Q') (hpd : parseMethodDescriptor z.desc = some ⟨ps, r⟩) (hlen : argsL.length = ps.length) (hst : st = argsL.reverse ++ .ref a :: rest) (hz : Ls.size = ml) (hc' : cells + rm.cells = cells') (hs' : slots + rm.slots = slots') (hfr : rm.frames + 1 ≤ R.frames := by decide) (hlo : (rest.map fun v => v.category).sum + (zm + 11) + rm.locals ≤ R.locals := by decide) (hc : cells' ≤ R.cells := by decide) (hs : slots' ≤ R.slots := by decide) (hd : decode code pc = .ok (.invokevirtual i, 3)) (hp : pc + 3 = pc')
    (k : ∀ v h', Q' v h' → Go l R Z n0 y code ml ret Q cells' slots' h' pc' Ls (v.toList ++ rest)) : Go l R Z n0 y code ml ret Q cells slots h pc Ls st := by
  intro p e s m args below meth c T locs C X N eT
  subst hc' hs' hp hst
  have hold : Old Z n0 h := own_old C.2.2.2.2.2.2.2.2 X N eT
  obtain ⟨cq, qa, qb⟩ := E.cell
  obtain ⟨v, _, ⟨T', L', k', n'⟩, -, X', ⟨Lc, hQ, l', y', z'⟩, st⟩ := X.privateBack C.1 (y := z) C.2.2.1 (mvT C.2.1 w1) (mvT C.2.1 w2) (mvT C.2.1 w3) (Cond.privateMethod_at (mvP C.2.1 w4 (args := #[]))) (mvT C.2.1 wc) hy (backOf (W := (rest.map fun v => v.category).sum) (Q := fun v h L => Q' v h ∧ Fr n0 L) (hK hold []) C.2.1 wc wi hfr hlo) (g := mkF m pc Ls (argsL.reverse ++ .ref a :: rest)) rfl (by rw [C.2.2.2.2.1]; exact hz) (Steps.refl _) (a := a) (by rw [eT]; exact qa) qb (argsL := argsL) (rest := rest) (lenOf hpd hlen) rfl (by simp) (hb C.2.2.2.1 hd) (fun _ _ => ⟨rfl, eT, hc, hs⟩)
  dsimp only [Pt.U, Pt.locs, Pt.cells, Pt.slots] at X' l' y' z' st hQ
  subst l' y' z'
  obtain ⟨s₂, o, h1, h2⟩ := k v _ hQ.1 p e s m args below meth c T' _ C X' (Fr.app N hQ.2) rfl
  exact ⟨s₂, o, st.trans h1, h2⟩
theorem Go.callI {z : MethodName} {zc : ByteArray} {zm : Nat} {zr : Option FieldType} {rm : Room} {Q' : Option Value → Heap → Prop} {cells' slots' i : Nat} (argsL rest : List Value) {ps : List FieldType} {r : Option FieldType} {a : Addr} {x' : MethodName} {C' : String} {cnt : Nat} (E : Exa Z h a C') (w1 : (Jvm.Cond.methodLink y.cls i x').before a0 Z = true) (w2 : (Jvm.Cond.declares x').before a0 Z = true) (w3 : (Jvm.Cond.interfaceMethod x'.cls x'.cls x'.name x'.desc).before a0 Z = true) (w4 : (Jvm.Cond.selects C' x' z).before a0 Z = true) (w5 : (Jvm.Cond.instanceMethod z).before a0 Z = true) (w6 : (Jvm.Cond.publicMethod z).before a0 Z = true) (w7 : (Jvm.Cond.unhidden C' x'.name x'.desc).before a0 Z = true) (w8 : (Jvm.Cond.castable C' x'.cls).before a0 Z = true) (wi : (Jvm.Cond.initialized z.cls).before a0 Z = true) (wc : (Jvm.Cond.code z zc zm zr).before a0 Z = true) (hy : x'.cls ≠ "java/lang/invoke/MethodHandle" ∧ x'.cls ≠ "java/lang/invoke/VarHandle") (hK : Con l z zc zm zr rm Z n0 (.ref a :: argsL).toArray h Q') (hpd : parseMethodDescriptor x'.desc = some ⟨ps, r⟩) (hlen : argsL.length = ps.length) (hst : st = argsL.reverse ++ .ref a :: rest) (hz : Ls.size = ml) (hc' : cells + rm.cells = cells') (hs' : slots + rm.slots = slots') (hfr : rm.frames + 1 ≤ R.frames := by decide) (hlo : (rest.map fun v => v.category).sum + (zm + 11) + rm.locals ≤ R.locals := by decide) (hc : cells' ≤ R.cells := by decide) (hs : slots' ≤ R.slots := by decide) (hd : decode code pc = .ok (.invokeinterface i cnt, 5)) (hp : pc + 5 = pc')
    (k : ∀ v h', Q' v h' → Go l R Z n0 y code ml ret Q cells' slots' h' pc' Ls (v.toList ++ rest)) : Go l R Z n0 y code ml ret Q cells slots h pc Ls st := by
  intro p e s m args below meth c T locs C X N eT
  subst hc' hs' hp hst
  have hold : Old Z n0 h := own_old C.2.2.2.2.2.2.2.2 X N eT
  obtain ⟨cq, kq, qa, qb, qc⟩ := isOf C.2.1 eT E
  obtain ⟨v, _, ⟨T', L', k', n'⟩, -, X', ⟨Lc, hQ, l', y', z'⟩, st⟩ := X.interfaceBack C.1 (xi := x') (y := z) C.2.2.1 (mvT C.2.1 w1) (mvT C.2.1 w2) (mvT C.2.1 w3 (hd := by simp [Cond.onTables, Cond.keepsFace, Cond.keeps, Cond.steady, Cond.faceAtom]; exact hy)) (mvT C.2.1 w4) (mvT C.2.1 w5) (mvT C.2.1 w6) (mvT C.2.1 w7) (mvT C.2.1 w8) hy (backOf (W := (rest.map fun v => v.category).sum) (Q := fun v h L => Q' v h ∧ Fr n0 L) (hK hold []) C.2.1 wc wi hfr hlo) qa qb qc (g := mkF m pc Ls (argsL.reverse ++ .ref a :: rest)) rfl (by rw [C.2.2.2.2.1]; exact hz) (Steps.refl _) (argsL := argsL) (rest := rest) (lenOf hpd hlen) rfl (by simp) (hb C.2.2.2.1 hd) (fun _ _ => ⟨rfl, eT, hc, hs⟩)
  dsimp only [Pt.U, Pt.locs, Pt.cells, Pt.slots] at X' l' y' z' st hQ
  subst l' y' z'
  obtain ⟨s₂, o, h1, h2⟩ := k v _ hQ.1 p e s m args below meth c T' _ C X' (Fr.app N hQ.2) rfl
  exact ⟨s₂, o, st.trans h1, h2⟩
end Rules
end Jvm.OwnGo
namespace Jvm.OwnNum
theorem mask (x m : Int32) (hm : 0 ≤ m.toInt) : 0 ≤ (x &&& m).toInt ∧ (x &&& m).toInt ≤ m.toInt := by
  have e : ∀ z : Int32, z.toInt = z.toBitVec.toInt := fun _ => rfl
  have hb : (x &&& m).toBitVec = x.toBitVec &&& m.toBitVec := rfl
  rw [e] at hm
  rw [e (x &&& m), e m, hb]
  have h1 : 2 * m.toBitVec.toNat < 2 ^ 32 := by
    rw [BitVec.toInt_eq_toNat_cond] at hm
    split at hm
    · assumption
    · have := m.toBitVec.isLt; omega
  have h2 : (x.toBitVec &&& m.toBitVec).toNat ≤ m.toBitVec.toNat := by
    rw [BitVec.toNat_and]; exact Nat.and_le_right
  rw [BitVec.toInt_eq_toNat_of_lt (x := m.toBitVec) h1, BitVec.toInt_eq_toNat_of_lt (x := x.toBitVec &&& m.toBitVec) (by omega)]
  omega
theorem modr (y k : Int32) (hy : 0 ≤ y.toInt) (hk : 0 < k.toInt) : 0 ≤ (y % k).toInt ∧ (y % k).toInt < k.toInt := by
  rw [Int32.toInt_mod]
  exact ⟨Int.tmod_nonneg _ hy, Int.tmod_lt_of_pos _ hk⟩
theorem maskmod (x k : Int32) (hk : 0 < k.toInt) : 0 ≤ ((x &&& 2147483647) % k).toInt ∧ ((x &&& 2147483647) % k).toInt < k.toInt := modr _ k (mask x 2147483647 (by decide)).1 hk
theorem eqI {a k : Int32} (h : a.toInt = k.toInt) : a = k := Int32.toInt_inj.mp h
end Jvm.OwnNum
namespace Jvm.OwnNum
theorem lremE (x y : Int64) : x - (x / y) * y = x % y := by
  apply Int64.toInt_inj.mp
  rw [Int64.toInt_mod, Int64.toInt_sub, Int64.toInt_mul, Int64.toInt_div]
  have h := Int.mul_tdiv_add_tmod x.toInt y.toInt
  have e : (x.toInt - ((x.toInt.tdiv y.toInt).bmod (2^64) * y.toInt).bmod (2^64)).bmod (2^64) = (x.toInt - (x.toInt.tdiv y.toInt * y.toInt)).bmod (2^64) := by
    simp
  rw [e]
  have q : x.toInt - x.toInt.tdiv y.toInt * y.toInt = x.toInt.tmod y.toInt := by
    rw [Int.mul_comm]; omega
  rw [q]
  have h1 := Int64.le_toInt (x % y)
  have h2 := Int64.toInt_lt (x % y)
  rw [Int64.toInt_mod] at h1 h2
  exact Int.bmod_eq_of_le_mul_two (by omega) (by omega)
theorem mask64 (x m : Int64) (hm : 0 ≤ m.toInt) : 0 ≤ (x &&& m).toInt ∧ (x &&& m).toInt ≤ m.toInt := by
  have e : ∀ z : Int64, z.toInt = z.toBitVec.toInt := fun _ => rfl
  have hb : (x &&& m).toBitVec = x.toBitVec &&& m.toBitVec := rfl
  rw [e] at hm
  rw [e (x &&& m), e m, hb]
  have h1 : 2 * m.toBitVec.toNat < 2 ^ 64 := by
    rw [BitVec.toInt_eq_toNat_cond] at hm
    split at hm
    · assumption
    · have := m.toBitVec.isLt; omega
  have h2 : (x.toBitVec &&& m.toBitVec).toNat ≤ m.toBitVec.toNat := by
    rw [BitVec.toNat_and]; exact Nat.and_le_right
  rw [BitVec.toInt_eq_toNat_of_lt (x := m.toBitVec) h1, BitVec.toInt_eq_toNat_of_lt (x := x.toBitVec &&& m.toBitVec) (by omega)]
  omega
theorem maskmod64 (x m k : Int64) (hm : 0 ≤ m.toInt) (hk : 0 < k.toInt) : 0 ≤ ((x &&& m) - ((x &&& m) / k) * k).toInt ∧ ((x &&& m) - ((x &&& m) / k) * k).toInt < k.toInt := by
  rw [lremE, Int64.toInt_mod]
  exact ⟨Int.tmod_nonneg _ (mask64 x m hm).1, Int.tmod_lt_of_pos _ hk⟩
theorem narrowI (x : Int64) (h1 : 0 ≤ x.toInt) (h2 : x.toInt < 2147483648) : x.toInt32.toInt = x.toInt := by
  rw [Int64.toInt_toInt32]
  exact Int.bmod_eq_of_le_mul_two (by omega) (by omega)
theorem lmod5 (x : Int64) : 0 ≤ (((x &&& (9223372036854775807 : Int64)) - ((x &&& (9223372036854775807 : Int64)) / (5 : Int64)) * (5 : Int64)).toInt32).toInt ∧ (((x &&& (9223372036854775807 : Int64)) - ((x &&& (9223372036854775807 : Int64)) / (5 : Int64)) * (5 : Int64)).toInt32).toInt < 5 := by
  have h := maskmod64 x 9223372036854775807 5 (by decide) (by decide)
  have e5 : (5 : Int64).toInt = 5 := by decide
  rw [e5] at h
  rw [narrowI _ h.1 (by omega)]
  exact h
end Jvm.OwnNum
namespace Jvm.OwnNum
theorem b8 (x : Int32) : x.toInt8.toInt32.toInt8.toInt32 = x.toInt8.toInt32 := by simp
theorem c16 (x : Int32) : x.toUInt32.toUInt16.toUInt32.toInt32.toUInt32.toUInt16.toUInt32.toInt32 = x.toUInt32.toUInt16.toUInt32.toInt32 := by simp only [UInt32.toUInt32_toInt32, UInt16.toUInt16_toUInt32]
theorem le255 (x : Int32) : ¬ (255 : Int32) < x &&& 255 := by
  have h := mask x 255 (by decide)
  have e : (255 : Int32).toInt = 255 := by decide
  rw [Int32.lt_iff_toInt_lt]; omega
end Jvm.OwnNum
namespace Jvm.OwnGo
open Jvm Jvm.ClassFile Sem Op Lib Jvm.Free Jvm.Stand Jvm.LawKit Jvm.RoadKit
section Sheet
variable {args : Array Value} {s : State} {t : Term} {a : Addr}
theorem own_eqI {k : Int32} (h : (Jvm.Cond.eq t (.int k)).value args s none s [] = some true) : t.eval args s none [] s = some (.int k) := by
  simp only [Cond.value, Term.eval] at h
  cases ht : t.eval args s none [] s with
  | none => simp [ht] at h
  | some x => cases x <;> simp [ht] at h ⊢; exact h
theorem own_eqJ {k : Int64} (h : (Jvm.Cond.eq t (.long k)).value args s none s [] = some true) : t.eval args s none [] s = some (.long k) := by
  simp only [Cond.value, Term.eval] at h
  cases ht : t.eval args s none [] s with
  | none => simp [ht] at h
  | some x => cases x <;> simp [ht] at h ⊢; exact h
theorem own_eqR {u : Term} {b : Addr} (hu : u.eval args s none [] s = some (.ref b)) (h : (Jvm.Cond.eq t u).value args s none s [] = some true) : t.eval args s none [] s = some (.ref b) := by
  simp only [Cond.value, hu] at h
  cases ht : t.eval args s none [] s with
  | none => simp [ht] at h
  | some x => cases x <;> simp [ht] at h ⊢; exact h
theorem own_fld {C n d : String} {v : Value} (ht : t.eval args s none [] s = some (.ref a)) (h : (Term.field t C n d).eval args s none [] s = some v) : Jvm.RoadKit.Fld s s.heap a C n d v :=
  Fld.start (by rw [← fld_at (C := C) (n := n) (dd := d) ht]; exact h)
theorem own_arr {ty : FieldType} {n : Int32} (ev : t.eval args s none [] s = some (.ref a)) (hx : (Jvm.Cond.arrayOf t ty).value args s none s [] = some true) (hl : (Term.length t).eval args s none [] s = some (.int n)) :
    ∃ c, Arr s s.heap a c ty ∧ c.slots.size < 2 ^ 31 ∧ c.slots.size.toInt32 = n := by
  obtain ⟨c, A⟩ := Arr.start ev hx
  have e := A.fin (Vm.Alike.refl _)
  refine ⟨c, A, ?_⟩
  simp only [Term.eval, ev, Option.bind_eq_bind, Option.bind_some, e] at hl
  split at hl
  · rename_i q; exact ⟨q, by simpa using hl⟩
  · cases hl
theorem own_elem {ty : FieldType} {j : Int32} {c : Cell} {v : Value} (ev : t.eval args s none [] s = some (.ref a)) (A : Arr s s.heap a c ty) (hj : ¬ j < 0) (h : (Term.elem t (.int j)).eval args s none [] s = some v) : c.slots[j.toNatClampNeg]? = some v := by
  rw [elem_f ev (Term.int_eval j) (A.fin (Vm.Alike.refl _)) hj] at h; exact h
end Sheet
end Jvm.OwnGo
namespace Jvm.OwnGo
open Jvm Jvm.ClassFile Sem Op Lib Jvm.Free Jvm.Stand Jvm.LawKit Jvm.RoadKit
theorem own_arvAny {s : State} {a : Addr} {c : Cell} {ty : FieldType} {n : Int32} {dv : Value} (hf : Fit s) (A : Arr s s.heap a c ty) (q : c.slots.size < 2 ^ 31) (e : c.slots.size.toInt32 = n) (hn : ¬ n < 0) : Jvm.RoadKit.Arv s s.heap a c.cls ty n c.slots.toList dv := by
  have S : c.slots.size = n.toNatClampNeg := by rw [← e]; simp only [Int32.toNatClampNeg, len_toInt q]; rfl
  have H : Has c c.slots.toList dv := fun k hk => by simp [List.getD_eq_getElem?_getD, hk]
  refine ⟨c, A, rfl, S, hn, H, fun j hj => ?_⟩
  have hi := idx_in hj q
  obtain ⟨v, h1, h2⟩ := elem_fit hf A hi
  have ej : (j.toInt32).toNatClampNeg = j := by
    simp only [Int32.toNatClampNeg, len_toInt (Nat.lt_trans hj q)]; rfl
  rw [ej, H j hj] at h1
  cases h1
  exact h2
end Jvm.OwnGo
namespace Jvm.OwnGo
open Jvm Jvm.ClassFile Sem Op Lib Jvm.Free Jvm.Stand Jvm.LawKit Jvm.RoadKit
theorem own_eqV {args : Array Value} {s : State} {t u : Term} {idx : List Nat} {k : Int32} (hu : u.eval args s none idx s = some (.int k)) (h : (Jvm.Cond.eq t u).value args s none s idx = some true) : t.eval args s none idx s = some (.int k) := by
  simp only [Cond.value, hu] at h
  cases ht : t.eval args s none idx s with
  | none => simp [ht] at h
  | some x => cases x <;> simp [ht] at h ⊢; exact h
theorem own_static_idx {args : Array Value} {s : State} {C n d : String} {v : Value} (h : (Term.static C n d).eval args s none [] s = some v) (idx : List Nat) : (Term.static C n d).eval args s none idx s = some v := by
  simp only [Term.eval] at h ⊢; exact h
theorem own_i128 (i : Int32) (h1 : ¬ i < -128) (h2 : ¬ 127 < i) : ¬ i + 128 < 0 ∧ i + 128 < 256 ∧ (i + 128).toNatClampNeg < 256 := by
  rw [Int32.lt_iff_toInt_lt] at h1 h2
  have e1 : (-128 : Int32).toInt = -128 := by decide
  have e2 : (127 : Int32).toInt = 127 := by decide
  have e3 : (128 : Int32).toInt = 128 := by decide
  rw [e1] at h1; rw [e2] at h2
  have e : (i + 128).toInt = i.toInt + 128 := by
    rw [Int32.toInt_add, e3]; exact Int.bmod_eq_of_le_mul_two (by omega) (by omega)
  refine ⟨?_, ?_, ?_⟩
  · rw [Int32.lt_iff_toInt_lt, e]; have : (0 : Int32).toInt = 0 := by decide
    omega
  · rw [Int32.lt_iff_toInt_lt, e]; have : (256 : Int32).toInt = 256 := by decide
    omega
  · simp only [Int32.toNatClampNeg, e]; omega
theorem own_cache {args : Array Value} {s : State} {a : Addr} {c : Cell} {ct : Term} (ev : ∀ idx, ct.eval args s none idx s = some (.ref a)) (A : Arr s s.heap a c (.object "java/lang/Integer")) (hsz : c.slots.size < 2 ^ 31) (hn : c.slots.size.toInt32 = 256)
    (hall : (Jvm.Cond.all ct (.and (.exactly (.elem ct (.index 0)) "java/lang/Integer") (.eq (.field (.elem ct (.index 0)) "java/lang/Integer" "value" "I") (.sub (.index 0) (.int 128))))).value args s none s [] = some true) :
    ∀ i : Int32, ¬ i < -128 → ¬ 127 < i → ∃ w, c.slots.toList.getD (i + 128).toNatClampNeg .null = .ref w ∧ Jvm.RoadKit.Exa s s.heap w "java/lang/Integer" ∧ Jvm.RoadKit.Fld s s.heap w "java/lang/Integer" "value" "I" (.int i) := by
  intro i h1 h2
  obtain ⟨b1, b2, b3⟩ := own_i128 i h1 h2
  have hat := A.fin (Vm.Alike.refl _)
  have S : c.slots.size = 256 := by
    have : c.slots.size = (256 : Int32).toNatClampNeg := by rw [← hn]; simp only [Int32.toNatClampNeg, len_toInt hsz]; rfl
    rw [this]; decide
  have q := Cond.all_elim (ev []) hat hall (i + 128).toNatClampNeg (by rw [S]; exact b3)
  obtain ⟨q1, q2⟩ := and_e q
  have ei : (Term.index 0).eval args s none [(i + 128).toNatClampNeg] s = some (.int (i + 128)) := idx_at b1
  obtain ⟨w, ew⟩ := exa_v q1
  have ew' := ew
  rw [elem_f (ev _) ei hat b1] at ew'
  have es : (Term.sub (.index 0) (.int 128)).eval args s none [(i + 128).toNatClampNeg] s = some (.int i) := by
    have e0 : i + 128 - 128 = i := by
      rw [Int32.sub_eq_add_neg, Int32.add_assoc]; simp
    have e1 := (back32 b1).1
    simp [Term.eval, e1, e0]
  have ef := own_eqV es q2
  refine ⟨w, ?_, exa_at ew q1, Fld.start ?_⟩
  · rw [List.getD_eq_getElem?_getD, Array.getElem?_toList, ew']; rfl
  · rw [← fld_at (C := "java/lang/Integer") (n := "value") (dd := "I") ew]; exact ef
end Jvm.OwnGo
namespace Jvm.OwnGo
open Jvm Jvm.ClassFile Sem Op Lib Jvm.Free Jvm.Stand Jvm.LawKit Jvm.RoadKit
theorem own_nroot {Z : State} {a0 : Array Value} {O K : String} {n : Nat} (w : (Jvm.Cond.noSuperclass O).before a0 Z = true) (wk : (Jvm.Cond.instantiable K n).before a0 Z = true) (hn : O ≠ K) : NS Z O K := by
  obtain ⟨c, k, h1, h2, h3, -, -⟩ := Cond.noSuperclass_spec w
  obtain ⟨t, kt, g1, -⟩ := Cond.instantiable_spec wk
  have ne := ids_ne h1 g1 hn
  refine ⟨c, t, h1, g1, fun fuel => ?_⟩
  cases fuel with
  | zero => rfl
  | succ f => simp [Vm.isSubclassAux, ne, h2, h3]
theorem own_nno {Z : State} {a0 : Array Value} {C S K : String} {n : Nat} (w : (Jvm.Cond.superclass C S).before a0 Z = true) (wk : (Jvm.Cond.instantiable K n).before a0 Z = true) (nn : NS Z C K) (hn : C ≠ K) : ∃ c t, Z.vm.findClass C = some c ∧ Z.vm.findClass K = some t ∧ Z.vm.assignable c t = false := by
  obtain ⟨c, t, h0, g0, n3⟩ := nn
  obtain ⟨p, k, kp, h1, h2, h3, h4, h5, -, h7⟩ := Cond.superclass_spec h0 w
  obtain ⟨t', kt, g1, g2, g3, g4, -⟩ := Cond.instantiable_spec wk
  cases g0.symm.trans g1
  have gi : kt.isInterface = false := by
    cases q : kt.isInterface with
    | false => rfl
    | true => simp [q] at g4
  have ne := ids_ne h0 g0 hn
  refine ⟨c, t, h0, g0, ?_⟩
  show Z.vm.assignableAux (255 + 1) c t = false
  simp [Vm.assignableAux, ne, h2, g2, h5, g3, gi, Vm.isSubclass, n3]
end Jvm.OwnGo
namespace Jvm.Pilot.@@N@@
open Jvm Jvm.ClassFile Sem Op Lib Jvm.Free Jvm.Stand Jvm.LawKit Jvm.RoadKit Bundle Jvm.OwnGo Jvm.Pilot.@@N@@.Jvm.D
theorem ww {Z : State} {a0 : Array Value} (hw : ∀ d ∈ tables_1, d.before a0 Z = true) (i : Nat) {d : Jvm.Cond} (h : tables_1[i]? = some d) : d.before a0 Z = true := hw d (List.mem_of_getElem? h)
theorem nl {n m : Nat} (h : Nat.ble n m = true) : n ≤ m := Nat.le_of_ble_eq_true h
theorem own_mod5 (x : Int32) : (x &&& (2147483647 : Int32)) % (5 : Int32) = (0 : Int32) ∨ (x &&& (2147483647 : Int32)) % (5 : Int32) = (1 : Int32) ∨ (x &&& (2147483647 : Int32)) % (5 : Int32) = (2 : Int32) ∨ (x &&& (2147483647 : Int32)) % (5 : Int32) = (3 : Int32) ∨ (x &&& (2147483647 : Int32)) % (5 : Int32) = (4 : Int32) := by
  obtain ⟨h1, h2⟩ := OwnNum.maskmod x 5 (by decide)
  have e : (5 : Int32).toInt = 5 := by decide
  have e' : (4 : Int32).toInt = 4 := by decide
  generalize (x &&& (2147483647 : Int32)) % (5 : Int32) = z at h1 h2 ⊢
  have q : z.toInt = 0 ∨ z.toInt = 1 ∨ z.toInt = 2 ∨ z.toInt = 3 ∨ z.toInt = 4 := by omega
  rcases q with q | q | q | q | q
  · exact Or.inl (OwnNum.eqI (q.trans (by decide)))
  · exact Or.inr (Or.inl (OwnNum.eqI (q.trans (by decide))))
  · exact Or.inr (Or.inr (Or.inl (OwnNum.eqI (q.trans (by decide)))))
  · exact Or.inr (Or.inr (Or.inr (Or.inl (OwnNum.eqI (q.trans (by decide))))))
  · exact Or.inr (Or.inr (Or.inr (Or.inr ((OwnNum.eqI (q.trans (by decide)))))))
theorem d32_0 : decode jdk_18_method_1_code 0 = .ok (.aload_n 0, 1) := by decide +kernel
theorem d32_1 : decode jdk_18_method_1_code 1 = .ok (.invokespecial 1, 3) := by decide +kernel
theorem d32_4 : decode jdk_18_method_1_code 4 = .ok (.return_, 1) := by decide +kernel
theorem pn_0 : plainName "java/lang/Number" = true := by first | (simp [plainName, overriddenIn]; done) | decide +kernel
set_option maxRecDepth 65536 in
set_option maxHeartbeats 4000000 in
theorem c_number (l : Launch) (Z : State) (a0 : Array Value) (hw : ∀ d ∈ tables_1, d.before a0 Z = true) {n0 : Nat} (h : Heap) (a : Addr) :
    Con l (⟨"java/lang/Number", "<init>", "()V"⟩ : MethodName) jdk_18_method_1_code 1 none ({ frames := 1, cells := 0, slots := 0, locals := 12 } : Room) Z n0 #[(.ref a)] h (fun v h' => v = none ∧ h = h') := by
  refine Con.of_go (plainFor_of_name pn_0) (Ls := #[.val (.ref a)]) (fun m => by first | (simp [entryFrame, mkF, argsToLocals, Value.category]; done) | rfl) ?_
  refine Go.aloadN (pc' := 1) d32_0 rfl rfl rfl ?_
  refine Go.initO (pc' := 4) (ww hw 226 rfl) (ww hw 25 rfl) (ww hw 26 rfl) d32_1 rfl (nl rfl) (nl rfl) rfl ?_
  exact Go.retV rfl d32_4 ⟨rfl, rfl⟩ (by decide) (by decide)
theorem d31_0 : decode jdk_33_method_23_code 0 = .ok (.aload_n 0, 1) := by decide +kernel
theorem d31_1 : decode jdk_33_method_23_code 1 = .ok (.invokespecial 202, 3) := by decide +kernel
theorem d31_4 : decode jdk_33_method_23_code 4 = .ok (.aload_n 0, 1) := by decide +kernel
theorem d31_5 : decode jdk_33_method_23_code 5 = .ok (.iload_n 1, 1) := by decide +kernel
theorem d31_6 : decode jdk_33_method_23_code 6 = .ok (.putfield 205, 3) := by decide +kernel
theorem d31_9 : decode jdk_33_method_23_code 9 = .ok (.return_, 1) := by decide +kernel
theorem pd_0 : parseMethodDescriptor "()V" = some ⟨[], none⟩ := by decide +kernel
theorem pn_1 : plainName "java/lang/Integer" = true := by first | (simp [plainName, overriddenIn]; done) | decide +kernel
set_option maxRecDepth 65536 in
set_option maxHeartbeats 4000000 in
theorem c_intInit (l : Launch) (Z : State) (a0 : Array Value) (hw : ∀ d ∈ tables_1, d.before a0 Z = true) {n0 : Nat} (h : Heap) (a : Addr) (i : Int32) (ge_a : n0 ≤ a) (e : Exa Z h a "java/lang/Integer") (f : Fld Z h a "java/lang/Integer" "value" "I" (.int (0 : Int32))) :
    Con l (⟨"java/lang/Integer", "<init>", "(I)V"⟩ : MethodName) jdk_33_method_23_code 2 none ({ frames := 2, cells := 0, slots := 0, locals := 24 } : Room) Z n0 #[(.ref a), (.int i)] h (fun v h' => v = none ∧ Keep h h' [a] ∧ Fld Z h' a "java/lang/Integer" "value" "I" (.int i)) := by
  refine Con.of_go (plainFor_of_name pn_1) (Ls := #[.val (.ref a), .val (.int i)]) (fun m => by first | (simp [entryFrame, mkF, argsToLocals, Value.category]; done) | rfl) ?_
  refine Go.aloadN (pc' := 1) d31_0 rfl rfl rfl ?_
  refine Go.callC (cells' := 0) (slots' := 0) (pc' := 4) [] [] (a := a) rfl rfl (ww hw 220 rfl) (ww hw 221 rfl) (ww hw 224 rfl) (ww hw 225 rfl) (by decide) (c_number l Z a0 hw h a) pd_0 rfl rfl rfl rfl rfl (nl rfl) (nl rfl) (nl rfl) (nl rfl) d31_1 rfl ?_
  rintro _ _ ⟨rfl, rfl⟩
  show Go _ _ _ _ _ _ _ _ _ _ _ _ 4 #[.val (.ref a), .val (.int i)] []
  refine Go.aloadN (pc' := 5) d31_4 rfl rfl rfl ?_
  refine Go.iloadN (pc' := 6) d31_5 rfl rfl ?_
  refine Go.putfield (pc' := 9) (host := "") (Or.inl (ww hw 213 rfl)) Via.refl f e (Or.inr ⟨(ww hw 214 rfl), rfl, rfl⟩) (ww hw 216 rfl) (ty := .int) (by decide) rfl rfl ge_a d31_6 rfl ?_
  intro h2 W3
  have K4 : Keep h h2 [a] := (Keep.refl h [a]).wr W3 (Or.inl (List.mem_of_getElem? (i := 0) rfl))
  have f5 := f.same W3
  exact Go.retV rfl d31_9 ⟨rfl, K4, f5⟩ (by decide) (by decide)
theorem d12_0 : decode jdk_33_method_22_code 0 = .ok (.iload_n 0, 1) := by decide +kernel
theorem d12_1 : decode jdk_33_method_22_code 1 = .ok (.bipush (-128), 2) := by decide +kernel
theorem d12_3 : decode jdk_33_method_22_code 3 = .ok (.if_icmp .lt 20, 3) := by decide +kernel
theorem d12_6 : decode jdk_33_method_22_code 6 = .ok (.iload_n 0, 1) := by decide +kernel
theorem d12_7 : decode jdk_33_method_22_code 7 = .ok (.getstatic 191, 3) := by decide +kernel
theorem d12_10 : decode jdk_33_method_22_code 10 = .ok (.if_icmp .gt 13, 3) := by decide +kernel
theorem d12_13 : decode jdk_33_method_22_code 13 = .ok (.getstatic 195, 3) := by decide +kernel
theorem d12_16 : decode jdk_33_method_22_code 16 = .ok (.iload_n 0, 1) := by decide +kernel
theorem d12_17 : decode jdk_33_method_22_code 17 = .ok (.sipush 128, 3) := by decide +kernel
theorem d12_20 : decode jdk_33_method_22_code 20 = .ok (.iadd, 1) := by decide +kernel
theorem d12_21 : decode jdk_33_method_22_code 21 = .ok (.aaload, 1) := by decide +kernel
theorem d12_22 : decode jdk_33_method_22_code 22 = .ok (.areturn, 1) := by decide +kernel
theorem d12_23 : decode jdk_33_method_22_code 23 = .ok (.new 1, 3) := by decide +kernel
theorem d12_26 : decode jdk_33_method_22_code 26 = .ok (.dup, 1) := by decide +kernel
theorem d12_27 : decode jdk_33_method_22_code 27 = .ok (.iload_n 0, 1) := by decide +kernel
theorem d12_28 : decode jdk_33_method_22_code 28 = .ok (.invokespecial 199, 3) := by decide +kernel
theorem d12_31 : decode jdk_33_method_22_code 31 = .ok (.areturn, 1) := by decide +kernel
theorem pd_1 : parseMethodDescriptor "(I)V" = some ⟨[.int], none⟩ := by decide +kernel
set_option maxRecDepth 65536 in
set_option maxHeartbeats 4000000 in
theorem c_valueOf (l : Launch) (Z : State) (a0 : Array Value) (hw : ∀ d ∈ tables_1, d.before a0 Z = true) {n0 : Nat} (h : Heap) (i : Int32) (wc : Addr) (kc : ClassId) (vsc : List Value) (hcache : ∀ ii : Int32, ¬ ii < -128 → ¬ 127 < ii → ∃ w, vsc.getD (ii + 128).toNatClampNeg .null = .ref w ∧ Exa Z Z.heap w "java/lang/Integer" ∧ Fld Z Z.heap w "java/lang/Integer" "value" "I" (.int ii)) (sh : Sta Z Z.heap "java/lang/Integer$IntegerCache" "high" "I" (.int (127 : Int32))) (sc : Sta Z Z.heap "java/lang/Integer$IntegerCache" "cache" "[Ljava/lang/Integer;" (.ref wc)) (vc : Arv Z Z.heap wc kc (.object "java/lang/Integer") (256 : Int32) vsc .null) :
    Con l (⟨"java/lang/Integer", "valueOf", "(I)Ljava/lang/Integer;"⟩ : MethodName) jdk_33_method_22_code 1 (some (.object "java/lang/Integer")) ({ frames := 3, cells := 1, slots := 1, locals := 38 } : Room) Z n0 #[(.int i)] h (fun v h' => ∃ w : Addr, v = some (.ref w) ∧ Keep h h' [] ∧ Exa Z h' w "java/lang/Integer" ∧ Fld Z h' w "java/lang/Integer" "value" "I" (.int i)) := by
  refine Con.of_go (plainFor_of_name pn_1) (Ls := #[.val (.int i)]) (fun m => by first | (simp [entryFrame, mkF, argsToLocals, Value.category]; done) | rfl) ?_
  refine Go.iloadN (pc' := 1) d12_0 rfl rfl ?_
  refine Go.bipush (pc' := 3) (v := (-128 : Int32)) d12_1 rfl rfl ?_
  by_cases hc1 : i < (-128 : Int32)
  ·
    refine Go.icmpYes (pc' := 23) d12_3 (XT.ii_lt_t hc1) (by decide) (by decide) ?_
    refine Go.new (pc' := 26) (cells' := 1) (slots' := 1) (ww hw 215 rfl) (ww hw 216 rfl) (ww hw 81 rfl) d12_23 rfl rfl (by decide) (by decide) rfl ?_
    intro h2 b2 g2 E2 ge2 A2 D2
    have sz3 : h.size ≤ b2 := Nat.le_trans (Keep.refl h []).1 (Nat.le_of_eq g2.symm)
    have K4 : Keep h h2 [] := (Keep.refl h []).ext E2
    refine Go.dup (pc' := 27) d12_26 rfl rfl ?_
    refine Go.iloadN (pc' := 28) d12_27 rfl rfl ?_
    refine Go.callC (cells' := 1) (slots' := 1) (pc' := 31) [(.int i)] [(.ref b2)] (a := b2) rfl rfl (ww hw 217 rfl) (ww hw 218 rfl) (ww hw 81 rfl) (ww hw 219 rfl) (by decide) (c_intInit l Z a0 hw h2 b2 i ge2 A2 ((D2 (Or.inr (ww hw 214 rfl)) (ty := .int) (by decide) : Fld Z h2 b2 "java/lang/Integer" "value" "I" (.int (0 : Int32))))) pd_1 rfl rfl rfl rfl rfl (nl rfl) (nl rfl) (nl rfl) (nl rfl) d12_28 rfl ?_
    rintro _ h5 ⟨rfl, K5, F5_0⟩
    have K6 : Keep h h5 [] := K4.trans K5 (allS (Or.inr sz3) all0)
    show Go _ _ _ _ _ _ _ _ _ _ _ _ 31 #[.val (.int i)] [(.ref b2)]
    exact Go.retR rfl rfl rfl rfl d12_31 ⟨b2, rfl, K6, (A2.keep K5), F5_0⟩ (by decide) (by decide)
  ·
    refine Go.icmpNo (pc' := 6) d12_3 (XT.ii_lt_f hc1) rfl ?_
    refine Go.iloadN (pc' := 7) d12_6 rfl rfl ?_
    refine Go.old (fun old7 => ?_)
    refine Go.getstatic (pc' := 10) (host := "") (Or.inl (ww hw 83 rfl)) Via.refl (sh.ext old7.2) d12_7 rfl ?_
    by_cases hc8 : (127 : Int32) < i
    ·
      refine Go.icmpYes (pc' := 23) d12_10 (XT.ii_gt_t hc8) (by decide) (by decide) ?_
      refine Go.new (pc' := 26) (cells' := 1) (slots' := 1) (ww hw 215 rfl) (ww hw 216 rfl) (ww hw 81 rfl) d12_23 rfl rfl (by decide) (by decide) rfl ?_
      intro h9 b9 g9 E9 ge9 A9 D9
      have sz10 : h.size ≤ b9 := Nat.le_trans (Keep.refl h []).1 (Nat.le_of_eq g9.symm)
      have K11 : Keep h h9 [] := (Keep.refl h []).ext E9
      refine Go.dup (pc' := 27) d12_26 rfl rfl ?_
      refine Go.iloadN (pc' := 28) d12_27 rfl rfl ?_
      refine Go.callC (cells' := 1) (slots' := 1) (pc' := 31) [(.int i)] [(.ref b9)] (a := b9) rfl rfl (ww hw 217 rfl) (ww hw 218 rfl) (ww hw 81 rfl) (ww hw 219 rfl) (by decide) (c_intInit l Z a0 hw h9 b9 i ge9 A9 ((D9 (Or.inr (ww hw 214 rfl)) (ty := .int) (by decide) : Fld Z h9 b9 "java/lang/Integer" "value" "I" (.int (0 : Int32))))) pd_1 rfl rfl rfl rfl rfl (nl rfl) (nl rfl) (nl rfl) (nl rfl) d12_28 rfl ?_
      rintro _ h12 ⟨rfl, K12, F12_0⟩
      have K13 : Keep h h12 [] := K11.trans K12 (allS (Or.inr sz10) all0)
      show Go _ _ _ _ _ _ _ _ _ _ _ _ 31 #[.val (.int i)] [(.ref b9)]
      exact Go.retR rfl rfl rfl rfl d12_31 ⟨b9, rfl, K13, (A9.keep K12), F12_0⟩ (by decide) (by decide)
    ·
      refine Go.icmpNo (pc' := 13) d12_10 (XT.ii_gt_f hc8) rfl ?_
      refine Go.getstatic (pc' := 16) (host := "") (Or.inl (ww hw 85 rfl)) Via.refl (sc.ext old7.2) d12_13 rfl ?_
      refine Go.iloadN (pc' := 17) d12_16 rfl rfl ?_
      refine Go.sipush (pc' := 20) (v := (128 : Int32)) d12_17 rfl rfl ?_
      refine Go.iadd (pc' := 21) d12_20 rfl ?_
      obtain ⟨w14, eq14, x14, f14⟩ := hcache i hc1 hc8
      refine Go.aaload (pc' := 22) (v := .ref w14) (vc.ext old7.2) rfl d12_21 (own_i128 i hc1 hc8).1 (own_i128 i hc1 hc8).2.1 eq14 rfl ?_
      exact Go.retR rfl rfl rfl rfl d12_22 ⟨w14, rfl, (Keep.refl h []), (x14.ext old7.2), (f14.ext old7.2)⟩ (by decide) (by decide)
theorem d30_0 : decode jdk_33_method_27_code 0 = .ok (.aload_n 0, 1) := by decide +kernel
theorem d30_1 : decode jdk_33_method_27_code 1 = .ok (.getfield 205, 3) := by decide +kernel
theorem d30_4 : decode jdk_33_method_27_code 4 = .ok (.ireturn, 1) := by decide +kernel
set_option maxRecDepth 65536 in
set_option maxHeartbeats 4000000 in
theorem c_intValue (l : Launch) (Z : State) (a0 : Array Value) (hw : ∀ d ∈ tables_1, d.before a0 Z = true) {n0 : Nat} (h : Heap) (a : Addr) (i : Int32) (f : Fld Z h a "java/lang/Integer" "value" "I" (.int i)) :
    Con l (⟨"java/lang/Integer", "intValue", "()I"⟩ : MethodName) jdk_33_method_27_code 1 (some .int) ({ frames := 0, cells := 0, slots := 0, locals := 0 } : Room) Z n0 #[(.ref a)] h (fun v h' => v = some (.int i) ∧ h = h') := by
  refine Con.of_go (plainFor_of_name pn_1) (Ls := #[.val (.ref a)]) (fun m => by first | (simp [entryFrame, mkF, argsToLocals, Value.category]; done) | rfl) ?_
  refine Go.aloadN (pc' := 1) d30_0 rfl rfl rfl ?_
  refine Go.getfield (pc' := 4) (host := "") (Or.inl (ww hw 213 rfl)) Via.refl f d30_1 rfl ?_
  exact Go.retI rfl d30_4 ⟨rfl, rfl⟩ (by decide) (by decide)
theorem d4_0 : decode jdk_22_method_1_code 0 = .ok (.aload_n 0, 1) := by decide +kernel
theorem d4_1 : decode jdk_22_method_1_code 1 = .ok (.invokespecial 1, 3) := by decide +kernel
theorem d4_4 : decode jdk_22_method_1_code 4 = .ok (.return_, 1) := by decide +kernel
theorem pn_2 : plainName "java/util/AbstractCollection" = true := by first | (simp [plainName, overriddenIn]; done) | decide +kernel
set_option maxRecDepth 65536 in
set_option maxHeartbeats 4000000 in
theorem c_acInit (l : Launch) (Z : State) (a0 : Array Value) (hw : ∀ d ∈ tables_1, d.before a0 Z = true) {n0 : Nat} (h : Heap) (a : Addr) :
    Con l (⟨"java/util/AbstractCollection", "<init>", "()V"⟩ : MethodName) jdk_22_method_1_code 1 none ({ frames := 1, cells := 0, slots := 0, locals := 12 } : Room) Z n0 #[(.ref a)] h (fun v h' => v = none ∧ h = h') := by
  refine Con.of_go (plainFor_of_name pn_2) (Ls := #[.val (.ref a)]) (fun m => by first | (simp [entryFrame, mkF, argsToLocals, Value.category]; done) | rfl) ?_
  refine Go.aloadN (pc' := 1) d4_0 rfl rfl rfl ?_
  refine Go.initO (pc' := 4) (ww hw 24 rfl) (ww hw 25 rfl) (ww hw 26 rfl) d4_1 rfl (nl rfl) (nl rfl) rfl ?_
  exact Go.retV rfl d4_4 ⟨rfl, rfl⟩ (by decide) (by decide)
theorem d3_0 : decode jdk_39_method_1_code 0 = .ok (.aload_n 0, 1) := by decide +kernel
theorem d3_1 : decode jdk_39_method_1_code 1 = .ok (.invokespecial 1, 3) := by decide +kernel
theorem d3_4 : decode jdk_39_method_1_code 4 = .ok (.aload_n 0, 1) := by decide +kernel
theorem d3_5 : decode jdk_39_method_1_code 5 = .ok (.iconst 0, 1) := by decide +kernel
theorem d3_6 : decode jdk_39_method_1_code 6 = .ok (.putfield 7, 3) := by decide +kernel
theorem d3_9 : decode jdk_39_method_1_code 9 = .ok (.return_, 1) := by decide +kernel
theorem pn_3 : plainName "java/util/AbstractList" = true := by first | (simp [plainName, overriddenIn]; done) | decide +kernel
set_option maxRecDepth 65536 in
set_option maxHeartbeats 4000000 in
theorem c_alsInit (l : Launch) (Z : State) (a0 : Array Value) (hw : ∀ d ∈ tables_1, d.before a0 Z = true) {n0 : Nat} (h : Heap) (a : Addr) (ge_a : n0 ≤ a) (e : Exa Z h a "java/util/ArrayList") (pf0 : Fld Z h a "java/util/ArrayList" "elementData" "[Ljava/lang/Object;" .null) (pf1 : Fld Z h a "java/util/ArrayList" "size" "I" (.int (0 : Int32))) (pf2 : Fld Z h a "java/util/AbstractList" "modCount" "I" (.int (0 : Int32))) :
    Con l (⟨"java/util/AbstractList", "<init>", "()V"⟩ : MethodName) jdk_39_method_1_code 1 none ({ frames := 2, cells := 0, slots := 0, locals := 24 } : Room) Z n0 #[(.ref a)] h (fun v h' => v = none ∧ Keep h h' [a] ∧ Fld Z h' a "java/util/ArrayList" "elementData" "[Ljava/lang/Object;" .null ∧ Fld Z h' a "java/util/ArrayList" "size" "I" (.int (0 : Int32)) ∧ Fld Z h' a "java/util/AbstractList" "modCount" "I" (.int (0 : Int32))) := by
  refine Con.of_go (plainFor_of_name pn_3) (Ls := #[.val (.ref a)]) (fun m => by first | (simp [entryFrame, mkF, argsToLocals, Value.category]; done) | rfl) ?_
  refine Go.aloadN (pc' := 1) d3_0 rfl rfl rfl ?_
  refine Go.callC (cells' := 0) (slots' := 0) (pc' := 4) [] [] (a := a) rfl rfl (ww hw 18 rfl) (ww hw 19 rfl) (ww hw 22 rfl) (ww hw 23 rfl) (by decide) (c_acInit l Z a0 hw h a) pd_0 rfl rfl rfl rfl rfl (nl rfl) (nl rfl) (nl rfl) (nl rfl) d3_1 rfl ?_
  rintro _ _ ⟨rfl, rfl⟩
  show Go _ _ _ _ _ _ _ _ _ _ _ _ 4 #[.val (.ref a)] []
  refine Go.aloadN (pc' := 5) d3_4 rfl rfl rfl ?_
  refine Go.iconst (pc' := 6) (v := (0 : Int32)) d3_5 rfl rfl ?_
  refine Go.putfield (pc' := 9) (host := "") (Or.inl (ww hw 27 rfl)) Via.refl pf2 e (Or.inl (ww hw 28 rfl)) (ww hw 7 rfl) (ty := .int) (by decide) rfl rfl ge_a d3_6 rfl ?_
  intro h2 W3
  have K4 : Keep h h2 [a] := (Keep.refl h [a]).wr W3 (Or.inl (List.mem_of_getElem? (i := 0) rfl))
  have f5 := pf2.same W3
  have f6 : Fld Z h2 a "java/util/ArrayList" "elementData" "[Ljava/lang/Object;" .null := (pf0.other W3 (Or.inr (slot_ne (Or.inl (ww hw 31 rfl)) (Or.inl (ww hw 28 rfl)) (by decide) (t := (.array (.object "java/lang/Object"))) (t' := .int) (by decide) (by decide))))
  have f7 : Fld Z h2 a "java/util/ArrayList" "size" "I" (.int (0 : Int32)) := (pf1.other W3 (Or.inr (slot_ne (Or.inl (ww hw 56 rfl)) (Or.inl (ww hw 28 rfl)) (by decide) (t := .int) (t' := .int) (by decide) (by decide))))
  exact Go.retV rfl d3_9 ⟨rfl, K4, f6, f7, f5⟩ (by decide) (by decide)
theorem d8_0 : decode jdk_38_method_9_code 0 = .ok (.aload_n 0, 1) := by decide +kernel
theorem d8_1 : decode jdk_38_method_9_code 1 = .ok (.getfield 48, 3) := by decide +kernel
theorem d8_4 : decode jdk_38_method_9_code 4 = .ok (.ifCond .ne 7, 3) := by decide +kernel
theorem d8_7 : decode jdk_38_method_9_code 7 = .ok (.iconst 1, 1) := by decide +kernel
theorem d8_8 : decode jdk_38_method_9_code 8 = .ok (.goto 4, 3) := by decide +kernel
theorem d8_12 : decode jdk_38_method_9_code 12 = .ok (.ireturn, 1) := by decide +kernel
theorem pn_4 : plainName "java/util/ArrayList" = true := by first | (simp [plainName, overriddenIn]; done) | decide +kernel
set_option maxRecDepth 65536 in
set_option maxHeartbeats 4000000 in
theorem c_alEmpty0 (l : Launch) (Z : State) (a0 : Array Value) (hw : ∀ d ∈ tables_1, d.before a0 Z = true) {n0 : Nat} (h : Heap) (a : Addr) (f : Fld Z h a "java/util/ArrayList" "size" "I" (.int (0 : Int32))) :
    Con l (⟨"java/util/ArrayList", "isEmpty", "()Z"⟩ : MethodName) jdk_38_method_9_code 1 (some .boolean) ({ frames := 0, cells := 0, slots := 0, locals := 0 } : Room) Z n0 #[(.ref a)] h (fun v h' => v = some (.int (1 : Int32)) ∧ h = h') := by
  refine Con.of_go (plainFor_of_name pn_4) (Ls := #[.val (.ref a)]) (fun m => by first | (simp [entryFrame, mkF, argsToLocals, Value.category]; done) | rfl) ?_
  refine Go.aloadN (pc' := 1) d8_0 rfl rfl rfl ?_
  refine Go.getfield (pc' := 4) (host := "") (Or.inl (ww hw 55 rfl)) Via.refl f d8_1 rfl ?_
  refine Go.ifNo (pc' := 7) d8_4 (XT.i0_ne_f (by decide)) rfl ?_
  refine Go.iconst (pc' := 8) (v := (1 : Int32)) d8_7 rfl rfl ?_
  refine Go.goto (pc' := 12) d8_8 (by decide) (by decide) ?_
  exact Go.retN (t := .boolean) rfl (by simp) d8_12 ⟨rfl, rfl⟩ (by decide) (by decide)
theorem d8_11 : decode jdk_38_method_9_code 11 = .ok (.iconst 0, 1) := by decide +kernel
set_option maxRecDepth 65536 in
set_option maxHeartbeats 4000000 in
theorem c_alEmptyN (l : Launch) (Z : State) (a0 : Array Value) (hw : ∀ d ∈ tables_1, d.before a0 Z = true) {n0 : Nat} (h : Heap) (a : Addr) (n : Int32) (hz : ¬ (n = (0 : Int32))) (f : Fld Z h a "java/util/ArrayList" "size" "I" (.int n)) :
    Con l (⟨"java/util/ArrayList", "isEmpty", "()Z"⟩ : MethodName) jdk_38_method_9_code 1 (some .boolean) ({ frames := 0, cells := 0, slots := 0, locals := 0 } : Room) Z n0 #[(.ref a)] h (fun v h' => v = some (.int (0 : Int32)) ∧ h = h') := by
  refine Con.of_go (plainFor_of_name pn_4) (Ls := #[.val (.ref a)]) (fun m => by first | (simp [entryFrame, mkF, argsToLocals, Value.category]; done) | rfl) ?_
  refine Go.aloadN (pc' := 1) d8_0 rfl rfl rfl ?_
  refine Go.getfield (pc' := 4) (host := "") (Or.inl (ww hw 55 rfl)) Via.refl f d8_1 rfl ?_
  refine Go.ifYes (pc' := 11) d8_4 (XT.i0_ne_t hz) (by decide) (by decide) ?_
  refine Go.iconst (pc' := 12) (v := (0 : Int32)) d8_11 rfl rfl ?_
  exact Go.retN (t := .boolean) rfl (by simp) d8_12 ⟨rfl, rfl⟩ (by decide) (by decide)
theorem d17_0 : decode jdk_31_method_10_code 0 = .ok (.aload_n 0, 1) := by decide +kernel
theorem d17_1 : decode jdk_31_method_10_code 1 = .ok (.ifnonnull 11, 3) := by decide +kernel
theorem d17_12 : decode jdk_31_method_10_code 12 = .ok (.aload_n 0, 1) := by decide +kernel
theorem d17_13 : decode jdk_31_method_10_code 13 = .ok (.areturn, 1) := by decide +kernel
theorem pn_5 : plainName "java/util/Objects" = true := by first | (simp [plainName, overriddenIn]; done) | decide +kernel
set_option maxRecDepth 65536 in
set_option maxHeartbeats 4000000 in
theorem c_rnn (l : Launch) (Z : State) (a0 : Array Value) (hw : ∀ d ∈ tables_1, d.before a0 Z = true) {n0 : Nat} (h : Heap) (a : Addr) :
    Con l (⟨"java/util/Objects", "requireNonNull", "(Ljava/lang/Object;)Ljava/lang/Object;"⟩ : MethodName) jdk_31_method_10_code 1 (some (.object "java/lang/Object")) ({ frames := 0, cells := 0, slots := 0, locals := 0 } : Room) Z n0 #[(.ref a)] h (fun v h' => v = some (.ref a) ∧ h = h') := by
  refine Con.of_go (plainFor_of_name pn_5) (Ls := #[.val (.ref a)]) (fun m => by first | (simp [entryFrame, mkF, argsToLocals, Value.category]; done) | rfl) ?_
  refine Go.aloadN (pc' := 1) d17_0 rfl rfl rfl ?_
  refine Go.nonnullYes (pc' := 12) d17_1 rfl nofun (by decide) (by decide) ?_
  refine Go.aloadN (pc' := 13) d17_12 rfl rfl rfl ?_
  exact Go.retR rfl rfl rfl rfl d17_13 ⟨rfl, rfl⟩ (by decide) (by decide)
theorem d16_0 : decode jdk_47_method_1_code 0 = .ok (.aload_n 0, 1) := by decide +kernel
theorem d16_1 : decode jdk_47_method_1_code 1 = .ok (.invokespecial 1, 3) := by decide +kernel
theorem d16_4 : decode jdk_47_method_1_code 4 = .ok (.return_, 1) := by decide +kernel
theorem pn_6 : plainName "java/util/ImmutableCollections$AbstractImmutableCollection" = true := by first | (simp [plainName, overriddenIn]; done) | decide +kernel
set_option maxRecDepth 65536 in
set_option maxHeartbeats 4000000 in
theorem c_aic (l : Launch) (Z : State) (a0 : Array Value) (hw : ∀ d ∈ tables_1, d.before a0 Z = true) {n0 : Nat} (h : Heap) (a : Addr) :
    Con l (⟨"java/util/ImmutableCollections$AbstractImmutableCollection", "<init>", "()V"⟩ : MethodName) jdk_47_method_1_code 1 none ({ frames := 2, cells := 0, slots := 0, locals := 24 } : Room) Z n0 #[(.ref a)] h (fun v h' => v = none ∧ h = h') := by
  refine Con.of_go (plainFor_of_name pn_6) (Ls := #[.val (.ref a)]) (fun m => by first | (simp [entryFrame, mkF, argsToLocals, Value.category]; done) | rfl) ?_
  refine Go.aloadN (pc' := 1) d16_0 rfl rfl rfl ?_
  refine Go.callC (cells' := 0) (slots' := 0) (pc' := 4) [] [] (a := a) rfl rfl (ww hw 108 rfl) (ww hw 19 rfl) (ww hw 22 rfl) (ww hw 23 rfl) (by decide) (c_acInit l Z a0 hw h a) pd_0 rfl rfl rfl rfl rfl (nl rfl) (nl rfl) (nl rfl) (nl rfl) d16_1 rfl ?_
  rintro _ _ ⟨rfl, rfl⟩
  show Go _ _ _ _ _ _ _ _ _ _ _ _ 4 #[.val (.ref a)] []
  exact Go.retV rfl d16_4 ⟨rfl, rfl⟩ (by decide) (by decide)
theorem d15_0 : decode jdk_46_method_1_code 0 = .ok (.aload_n 0, 1) := by decide +kernel
theorem d15_1 : decode jdk_46_method_1_code 1 = .ok (.invokespecial 1, 3) := by decide +kernel
theorem d15_4 : decode jdk_46_method_1_code 4 = .ok (.return_, 1) := by decide +kernel
theorem pn_7 : plainName "java/util/ImmutableCollections$AbstractImmutableList" = true := by first | (simp [plainName, overriddenIn]; done) | decide +kernel
set_option maxRecDepth 65536 in
set_option maxHeartbeats 4000000 in
theorem c_ail (l : Launch) (Z : State) (a0 : Array Value) (hw : ∀ d ∈ tables_1, d.before a0 Z = true) {n0 : Nat} (h : Heap) (a : Addr) :
    Con l (⟨"java/util/ImmutableCollections$AbstractImmutableList", "<init>", "()V"⟩ : MethodName) jdk_46_method_1_code 1 none ({ frames := 3, cells := 0, slots := 0, locals := 36 } : Room) Z n0 #[(.ref a)] h (fun v h' => v = none ∧ h = h') := by
  refine Con.of_go (plainFor_of_name pn_7) (Ls := #[.val (.ref a)]) (fun m => by first | (simp [entryFrame, mkF, argsToLocals, Value.category]; done) | rfl) ?_
  refine Go.aloadN (pc' := 1) d15_0 rfl rfl rfl ?_
  refine Go.callC (cells' := 0) (slots' := 0) (pc' := 4) [] [] (a := a) rfl rfl (ww hw 102 rfl) (ww hw 103 rfl) (ww hw 106 rfl) (ww hw 107 rfl) (by decide) (c_aic l Z a0 hw h a) pd_0 rfl rfl rfl rfl rfl (nl rfl) (nl rfl) (nl rfl) (nl rfl) d15_1 rfl ?_
  rintro _ _ ⟨rfl, rfl⟩
  show Go _ _ _ _ _ _ _ _ _ _ _ _ 4 #[.val (.ref a)] []
  exact Go.retV rfl d15_4 ⟨rfl, rfl⟩ (by decide) (by decide)
theorem d14_0 : decode jdk_44_method_1_code 0 = .ok (.aload_n 0, 1) := by decide +kernel
theorem d14_1 : decode jdk_44_method_1_code 1 = .ok (.invokespecial 1, 3) := by decide +kernel
theorem d14_4 : decode jdk_44_method_1_code 4 = .ok (.aload_n 0, 1) := by decide +kernel
theorem d14_5 : decode jdk_44_method_1_code 5 = .ok (.aload_n 1, 1) := by decide +kernel
theorem d14_6 : decode jdk_44_method_1_code 6 = .ok (.invokestatic 7, 3) := by decide +kernel
theorem d14_9 : decode jdk_44_method_1_code 9 = .ok (.putfield 13, 3) := by decide +kernel
theorem d14_12 : decode jdk_44_method_1_code 12 = .ok (.aload_n 0, 1) := by decide +kernel
theorem d14_13 : decode jdk_44_method_1_code 13 = .ok (.getstatic 19, 3) := by decide +kernel
theorem d14_16 : decode jdk_44_method_1_code 16 = .ok (.putfield 24, 3) := by decide +kernel
theorem d14_19 : decode jdk_44_method_1_code 19 = .ok (.return_, 1) := by decide +kernel
theorem pd_2 : parseMethodDescriptor "(Ljava/lang/Object;)Ljava/lang/Object;" = some ⟨[(.object "java/lang/Object")], some (.object "java/lang/Object")⟩ := by decide +kernel
theorem pn_8 : plainName "java/util/ImmutableCollections$List12" = true := by first | (simp [plainName, overriddenIn]; done) | decide +kernel
set_option maxRecDepth 65536 in
set_option maxHeartbeats 4000000 in
theorem c_l1Init (l : Launch) (Z : State) (a0 : Array Value) (hw : ∀ d ∈ tables_1, d.before a0 Z = true) {n0 : Nat} (h : Heap) (a : Addr) (e : Addr) (wE : Addr) (se : Sta Z Z.heap "java/util/ImmutableCollections" "EMPTY" "Ljava/lang/Object;" (.ref wE)) (xE : Exa Z Z.heap wE "java/lang/Object") (ge_a : n0 ≤ a) (x : Exa Z h a "java/util/ImmutableCollections$List12") (f0 : Fld Z h a "java/util/ImmutableCollections$List12" "e0" "Ljava/lang/Object;" .null) (f1 : Fld Z h a "java/util/ImmutableCollections$List12" "e1" "Ljava/lang/Object;" .null) :
    Con l (⟨"java/util/ImmutableCollections$List12", "<init>", "(Ljava/lang/Object;)V"⟩ : MethodName) jdk_44_method_1_code 2 none ({ frames := 4, cells := 0, slots := 0, locals := 48 } : Room) Z n0 #[(.ref a), (.ref e)] h (fun v h' => v = none ∧ Keep h h' [a] ∧ Fld Z h' a "java/util/ImmutableCollections$List12" "e0" "Ljava/lang/Object;" (.ref e) ∧ Fld Z h' a "java/util/ImmutableCollections$List12" "e1" "Ljava/lang/Object;" (.ref wE)) := by
  refine Con.of_go (plainFor_of_name pn_8) (Ls := #[.val (.ref a), .val (.ref e)]) (fun m => by first | (simp [entryFrame, mkF, argsToLocals, Value.category]; done) | rfl) ?_
  refine Go.aloadN (pc' := 1) d14_0 rfl rfl rfl ?_
  refine Go.callC (cells' := 0) (slots' := 0) (pc' := 4) [] [] (a := a) rfl rfl (ww hw 96 rfl) (ww hw 97 rfl) (ww hw 100 rfl) (ww hw 101 rfl) (by decide) (c_ail l Z a0 hw h a) pd_0 rfl rfl rfl rfl rfl (nl rfl) (nl rfl) (nl rfl) (nl rfl) d14_1 rfl ?_
  rintro _ _ ⟨rfl, rfl⟩
  show Go _ _ _ _ _ _ _ _ _ _ _ _ 4 #[.val (.ref a), .val (.ref e)] []
  refine Go.aloadN (pc' := 5) d14_4 rfl rfl rfl ?_
  refine Go.aloadN (pc' := 6) d14_5 rfl rfl rfl ?_
  refine Go.callS (cells' := 0) (slots' := 0) (pc' := 9) [(.ref e)] [(.ref a)] (ww hw 110 rfl) (ww hw 111 rfl) (ww hw 112 rfl) (ww hw 113 rfl) (by decide) (c_rnn l Z a0 hw h e) pd_2 rfl rfl rfl rfl rfl (nl rfl) (nl rfl) (nl rfl) (nl rfl) d14_6 rfl ?_
  rintro _ _ ⟨rfl, rfl⟩
  show Go _ _ _ _ _ _ _ _ _ _ _ _ 9 #[.val (.ref a), .val (.ref e)] [(.ref e), (.ref a)]
  refine Go.putfield (pc' := 12) (host := "") (Or.inl (ww hw 114 rfl)) Via.refl f0 x (Or.inr ⟨(ww hw 115 rfl), rfl, rfl⟩) (ww hw 90 rfl) (ty := (.object "java/lang/Object")) (by decide) rfl rfl ge_a d14_9 rfl ?_
  intro h3 W4
  have K5 : Keep h h3 [a] := (Keep.refl h [a]).wr W4 (Or.inl (List.mem_of_getElem? (i := 0) rfl))
  have f6 := f0.same W4
  refine Go.aloadN (pc' := 13) d14_12 rfl rfl rfl ?_
  refine Go.old (fun old7 => ?_)
  refine Go.getstatic (pc' := 16) (Or.inr (ww hw 116 rfl)) Via.refl (se.ext old7.2) d14_13 rfl ?_
  have f8 : Fld Z h3 a "java/util/ImmutableCollections$List12" "e1" "Ljava/lang/Object;" .null := (f1.other W4 (Or.inr (slot_ne (Or.inr (ww hw 118 rfl)) (Or.inr (ww hw 115 rfl)) (by decide) (t := (.object "java/lang/Object")) (t' := (.object "java/lang/Object")) (by decide) (by decide))))
  refine Go.putfield (pc' := 19) (host := "") (Or.inl (ww hw 117 rfl)) Via.refl f8 (x.wr W4) (Or.inr ⟨(ww hw 118 rfl), rfl, rfl⟩) (ww hw 90 rfl) (ty := (.object "java/lang/Object")) (by decide) rfl rfl ge_a d14_16 rfl ?_
  intro h9 W10
  have K11 : Keep h h9 [a] := K5.wr W10 (Or.inl (List.mem_of_getElem? (i := 0) rfl))
  have f12 := f8.same W10
  have f13 : Fld Z h9 a "java/util/ImmutableCollections$List12" "e0" "Ljava/lang/Object;" (.ref e) := (f6.other W10 (Or.inr (slot_ne (Or.inr (ww hw 115 rfl)) (Or.inr (ww hw 118 rfl)) (by decide) (t := (.object "java/lang/Object")) (t' := (.object "java/lang/Object")) (by decide) (by decide))))
  exact Go.retV rfl d14_19 ⟨rfl, K11, f13, f12⟩ (by decide) (by decide)
theorem d33_0 : decode jdk_44_method_2_code 0 = .ok (.aload_n 0, 1) := by decide +kernel
theorem d33_1 : decode jdk_44_method_2_code 1 = .ok (.invokespecial 1, 3) := by decide +kernel
theorem d33_4 : decode jdk_44_method_2_code 4 = .ok (.aload_n 0, 1) := by decide +kernel
theorem d33_5 : decode jdk_44_method_2_code 5 = .ok (.aload_n 1, 1) := by decide +kernel
theorem d33_6 : decode jdk_44_method_2_code 6 = .ok (.invokestatic 7, 3) := by decide +kernel
theorem d33_9 : decode jdk_44_method_2_code 9 = .ok (.putfield 13, 3) := by decide +kernel
theorem d33_12 : decode jdk_44_method_2_code 12 = .ok (.aload_n 0, 1) := by decide +kernel
theorem d33_13 : decode jdk_44_method_2_code 13 = .ok (.aload_n 2, 1) := by decide +kernel
theorem d33_14 : decode jdk_44_method_2_code 14 = .ok (.invokestatic 7, 3) := by decide +kernel
theorem d33_17 : decode jdk_44_method_2_code 17 = .ok (.putfield 24, 3) := by decide +kernel
theorem d33_20 : decode jdk_44_method_2_code 20 = .ok (.return_, 1) := by decide +kernel
set_option maxRecDepth 65536 in
set_option maxHeartbeats 4000000 in
theorem c_l2Init (l : Launch) (Z : State) (a0 : Array Value) (hw : ∀ d ∈ tables_1, d.before a0 Z = true) {n0 : Nat} (h : Heap) (a : Addr) (e : Addr) (d : Addr) (ge_a : n0 ≤ a) (x : Exa Z h a "java/util/ImmutableCollections$List12") (f0 : Fld Z h a "java/util/ImmutableCollections$List12" "e0" "Ljava/lang/Object;" .null) (f1 : Fld Z h a "java/util/ImmutableCollections$List12" "e1" "Ljava/lang/Object;" .null) :
    Con l (⟨"java/util/ImmutableCollections$List12", "<init>", "(Ljava/lang/Object;Ljava/lang/Object;)V"⟩ : MethodName) jdk_44_method_2_code 3 none ({ frames := 4, cells := 0, slots := 0, locals := 48 } : Room) Z n0 #[(.ref a), (.ref e), (.ref d)] h (fun v h' => v = none ∧ Keep h h' [a] ∧ Fld Z h' a "java/util/ImmutableCollections$List12" "e0" "Ljava/lang/Object;" (.ref e) ∧ Fld Z h' a "java/util/ImmutableCollections$List12" "e1" "Ljava/lang/Object;" (.ref d)) := by
  refine Con.of_go (plainFor_of_name pn_8) (Ls := #[.val (.ref a), .val (.ref e), .val (.ref d)]) (fun m => by first | (simp [entryFrame, mkF, argsToLocals, Value.category]; done) | rfl) ?_
  refine Go.aloadN (pc' := 1) d33_0 rfl rfl rfl ?_
  refine Go.callC (cells' := 0) (slots' := 0) (pc' := 4) [] [] (a := a) rfl rfl (ww hw 96 rfl) (ww hw 97 rfl) (ww hw 100 rfl) (ww hw 101 rfl) (by decide) (c_ail l Z a0 hw h a) pd_0 rfl rfl rfl rfl rfl (nl rfl) (nl rfl) (nl rfl) (nl rfl) d33_1 rfl ?_
  rintro _ _ ⟨rfl, rfl⟩
  show Go _ _ _ _ _ _ _ _ _ _ _ _ 4 #[.val (.ref a), .val (.ref e), .val (.ref d)] []
  refine Go.aloadN (pc' := 5) d33_4 rfl rfl rfl ?_
  refine Go.aloadN (pc' := 6) d33_5 rfl rfl rfl ?_
  refine Go.callS (cells' := 0) (slots' := 0) (pc' := 9) [(.ref e)] [(.ref a)] (ww hw 110 rfl) (ww hw 111 rfl) (ww hw 112 rfl) (ww hw 113 rfl) (by decide) (c_rnn l Z a0 hw h e) pd_2 rfl rfl rfl rfl rfl (nl rfl) (nl rfl) (nl rfl) (nl rfl) d33_6 rfl ?_
  rintro _ _ ⟨rfl, rfl⟩
  show Go _ _ _ _ _ _ _ _ _ _ _ _ 9 #[.val (.ref a), .val (.ref e), .val (.ref d)] [(.ref e), (.ref a)]
  refine Go.putfield (pc' := 12) (host := "") (Or.inl (ww hw 114 rfl)) Via.refl f0 x (Or.inr ⟨(ww hw 115 rfl), rfl, rfl⟩) (ww hw 90 rfl) (ty := (.object "java/lang/Object")) (by decide) rfl rfl ge_a d33_9 rfl ?_
  intro h3 W4
  have K5 : Keep h h3 [a] := (Keep.refl h [a]).wr W4 (Or.inl (List.mem_of_getElem? (i := 0) rfl))
  have f6 := f0.same W4
  refine Go.aloadN (pc' := 13) d33_12 rfl rfl rfl ?_
  refine Go.aloadN (pc' := 14) d33_13 rfl rfl rfl ?_
  refine Go.callS (cells' := 0) (slots' := 0) (pc' := 17) [(.ref d)] [(.ref a)] (ww hw 110 rfl) (ww hw 111 rfl) (ww hw 112 rfl) (ww hw 113 rfl) (by decide) (c_rnn l Z a0 hw h3 d) pd_2 rfl rfl rfl rfl rfl (nl rfl) (nl rfl) (nl rfl) (nl rfl) d33_14 rfl ?_
  rintro _ _ ⟨rfl, rfl⟩
  show Go _ _ _ _ _ _ _ _ _ _ _ _ 17 #[.val (.ref a), .val (.ref e), .val (.ref d)] [(.ref d), (.ref a)]
  have f8 : Fld Z h3 a "java/util/ImmutableCollections$List12" "e1" "Ljava/lang/Object;" .null := (f1.other W4 (Or.inr (slot_ne (Or.inr (ww hw 118 rfl)) (Or.inr (ww hw 115 rfl)) (by decide) (t := (.object "java/lang/Object")) (t' := (.object "java/lang/Object")) (by decide) (by decide))))
  refine Go.putfield (pc' := 20) (host := "") (Or.inl (ww hw 117 rfl)) Via.refl f8 (x.wr W4) (Or.inr ⟨(ww hw 118 rfl), rfl, rfl⟩) (ww hw 90 rfl) (ty := (.object "java/lang/Object")) (by decide) rfl rfl ge_a d33_17 rfl ?_
  intro h9 W10
  have K11 : Keep h h9 [a] := K5.wr W10 (Or.inl (List.mem_of_getElem? (i := 0) rfl))
  have f12 := f8.same W10
  have f13 : Fld Z h9 a "java/util/ImmutableCollections$List12" "e0" "Ljava/lang/Object;" (.ref e) := (f6.other W10 (Or.inr (slot_ne (Or.inr (ww hw 115 rfl)) (Or.inr (ww hw 118 rfl)) (by decide) (t := (.object "java/lang/Object")) (t' := (.object "java/lang/Object")) (by decide) (by decide))))
  exact Go.retV rfl d33_20 ⟨rfl, K11, f13, f12⟩ (by decide) (by decide)
theorem d26_0 : decode jdk_45_method_1_code 0 = .ok (.aload_n 0, 1) := by decide +kernel
theorem d26_1 : decode jdk_45_method_1_code 1 = .ok (.invokespecial 1, 3) := by decide +kernel
theorem d26_4 : decode jdk_45_method_1_code 4 = .ok (.aload_n 0, 1) := by decide +kernel
theorem d26_5 : decode jdk_45_method_1_code 5 = .ok (.aload_n 1, 1) := by decide +kernel
theorem d26_6 : decode jdk_45_method_1_code 6 = .ok (.putfield 7, 3) := by decide +kernel
theorem d26_9 : decode jdk_45_method_1_code 9 = .ok (.aload_n 0, 1) := by decide +kernel
theorem d26_10 : decode jdk_45_method_1_code 10 = .ok (.iload_n 2, 1) := by decide +kernel
theorem d26_11 : decode jdk_45_method_1_code 11 = .ok (.putfield 13, 3) := by decide +kernel
theorem d26_14 : decode jdk_45_method_1_code 14 = .ok (.return_, 1) := by decide +kernel
theorem pn_9 : plainName "java/util/ImmutableCollections$ListN" = true := by first | (simp [plainName, overriddenIn]; done) | decide +kernel
set_option maxRecDepth 65536 in
set_option maxHeartbeats 4000000 in
theorem c_lnInit (l : Launch) (Z : State) (a0 : Array Value) (hw : ∀ d ∈ tables_1, d.before a0 Z = true) {n0 : Nat} (h : Heap) (a : Addr) (b : Addr) (ge_a : n0 ≤ a) (x : Exa Z h a "java/util/ImmutableCollections$ListN") (f0 : Fld Z h a "java/util/ImmutableCollections$ListN" "elements" "[Ljava/lang/Object;" .null) (f1 : Fld Z h a "java/util/ImmutableCollections$ListN" "allowNulls" "Z" (.int (0 : Int32))) :
    Con l (⟨"java/util/ImmutableCollections$ListN", "<init>", "([Ljava/lang/Object;Z)V"⟩ : MethodName) jdk_45_method_1_code 3 none ({ frames := 4, cells := 0, slots := 0, locals := 48 } : Room) Z n0 #[(.ref a), (.ref b), (.int (0 : Int32))] h (fun v h' => v = none ∧ Keep h h' [a] ∧ Fld Z h' a "java/util/ImmutableCollections$ListN" "elements" "[Ljava/lang/Object;" (.ref b) ∧ Fld Z h' a "java/util/ImmutableCollections$ListN" "allowNulls" "Z" (.int (0 : Int32))) := by
  refine Con.of_go (plainFor_of_name pn_9) (Ls := #[.val (.ref a), .val (.ref b), .val (.int (0 : Int32))]) (fun m => by first | (simp [entryFrame, mkF, argsToLocals, Value.category]; done) | rfl) ?_
  refine Go.aloadN (pc' := 1) d26_0 rfl rfl rfl ?_
  refine Go.callC (cells' := 0) (slots' := 0) (pc' := 4) [] [] (a := a) rfl rfl (ww hw 180 rfl) (ww hw 97 rfl) (ww hw 100 rfl) (ww hw 101 rfl) (by decide) (c_ail l Z a0 hw h a) pd_0 rfl rfl rfl rfl rfl (nl rfl) (nl rfl) (nl rfl) (nl rfl) d26_1 rfl ?_
  rintro _ _ ⟨rfl, rfl⟩
  show Go _ _ _ _ _ _ _ _ _ _ _ _ 4 #[.val (.ref a), .val (.ref b), .val (.int (0 : Int32))] []
  refine Go.aloadN (pc' := 5) d26_4 rfl rfl rfl ?_
  refine Go.aloadN (pc' := 6) d26_5 rfl rfl rfl ?_
  refine Go.putfield (pc' := 9) (host := "") (Or.inl (ww hw 71 rfl)) Via.refl f0 x (Or.inr ⟨(ww hw 72 rfl), rfl, rfl⟩) (ww hw 175 rfl) (ty := (.array (.object "java/lang/Object"))) (by decide) rfl rfl ge_a d26_6 rfl ?_
  intro h2 W3
  have K4 : Keep h h2 [a] := (Keep.refl h [a]).wr W3 (Or.inl (List.mem_of_getElem? (i := 0) rfl))
  have f5 := f0.same W3
  refine Go.aloadN (pc' := 10) d26_9 rfl rfl rfl ?_
  refine Go.iloadN (pc' := 11) d26_10 rfl rfl ?_
  have f6 : Fld Z h2 a "java/util/ImmutableCollections$ListN" "allowNulls" "Z" (.int (0 : Int32)) := (f1.other W3 (Or.inr (slot_ne (Or.inr (ww hw 185 rfl)) (Or.inr (ww hw 72 rfl)) (by decide) (t := .boolean) (t' := (.array (.object "java/lang/Object"))) (by decide) (by decide))))
  refine Go.putfieldN (pc' := 14) (ww hw 184 rfl) Via.refl f6 (x.wr W3) (Or.inr ⟨(ww hw 185 rfl), rfl, rfl⟩) (ww hw 175 rfl) (ty := .boolean) (v' := (0 : Int32)) (by decide) (by first | rfl | decide) (by first | rfl | decide | exact fits_nar_bool _) ge_a d26_11 rfl ?_
  intro h7 W8
  have K9 : Keep h h7 [a] := K4.wr W8 (Or.inl (List.mem_of_getElem? (i := 0) rfl))
  have f10 := f6.same W8
  have f11 : Fld Z h7 a "java/util/ImmutableCollections$ListN" "elements" "[Ljava/lang/Object;" (.ref b) := (f5.other W8 (Or.inr (slot_ne (Or.inr (ww hw 72 rfl)) (Or.inr (ww hw 185 rfl)) (by decide) (t := (.array (.object "java/lang/Object"))) (t' := .boolean) (by decide) (by decide))))
  exact Go.retV rfl d26_14 ⟨rfl, K9, f11, f10⟩ (by decide) (by decide)
theorem d9_0 : decode jdk_40_method_36_code 0 = .ok (.getstatic 90, 3) := by decide +kernel
theorem d9_3 : decode jdk_40_method_36_code 3 = .ok (.areturn, 1) := by decide +kernel
theorem pn_10 : plainName "java/util/List" = true := by first | (simp [plainName, overriddenIn]; done) | decide +kernel
set_option maxRecDepth 65536 in
set_option maxHeartbeats 4000000 in
theorem c_listOf0 (l : Launch) (Z : State) (a0 : Array Value) (hw : ∀ d ∈ tables_1, d.before a0 Z = true) {n0 : Nat} (h : Heap) (wL : Addr) (wLe : Addr) (kLe : ClassId) (vsL : List Value) (sl : Sta Z Z.heap "java/util/ImmutableCollections" "EMPTY_LIST" "Ljava/util/ImmutableCollections$ListN;" (.ref wL)) (xL : Exa Z Z.heap wL "java/util/ImmutableCollections$ListN") (fL : Fld Z Z.heap wL "java/util/ImmutableCollections$ListN" "elements" "[Ljava/lang/Object;" (.ref wLe)) (vL : Arv Z Z.heap wLe kLe (.object "java/lang/Object") (0 : Int32) vsL .null) :
    Con l (⟨"java/util/List", "of", "()Ljava/util/List;"⟩ : MethodName) jdk_40_method_36_code 0 (some (.object "java/util/List")) ({ frames := 0, cells := 0, slots := 0, locals := 0 } : Room) Z n0 #[] h (fun v h' => v = some (.ref wL) ∧ h = h') := by
  refine Con.of_go (plainFor_of_name pn_10) (Ls := #[]) (fun m => by first | (simp [entryFrame, mkF, argsToLocals, Value.category]; done) | rfl) ?_
  refine Go.old (fun old1 => ?_)
  refine Go.getstatic (pc' := 3) (host := "") (Or.inl (ww hw 60 rfl)) Via.refl (sl.ext old1.2) d9_0 rfl ?_
  exact Go.retR rfl rfl rfl rfl d9_3 ⟨rfl, rfl⟩ (by decide) (by decide)
theorem d13_0 : decode jdk_40_method_37_code 0 = .ok (.new 96, 3) := by decide +kernel
theorem d13_3 : decode jdk_40_method_37_code 3 = .ok (.dup, 1) := by decide +kernel
theorem d13_4 : decode jdk_40_method_37_code 4 = .ok (.aload_n 0, 1) := by decide +kernel
theorem d13_5 : decode jdk_40_method_37_code 5 = .ok (.invokespecial 98, 3) := by decide +kernel
theorem d13_8 : decode jdk_40_method_37_code 8 = .ok (.areturn, 1) := by decide +kernel
theorem pd_3 : parseMethodDescriptor "(Ljava/lang/Object;)V" = some ⟨[(.object "java/lang/Object")], none⟩ := by decide +kernel
set_option maxRecDepth 65536 in
set_option maxHeartbeats 4000000 in
theorem c_listOf1 (l : Launch) (Z : State) (a0 : Array Value) (hw : ∀ d ∈ tables_1, d.before a0 Z = true) {n0 : Nat} (h : Heap) (e : Addr) (wE : Addr) (se : Sta Z Z.heap "java/util/ImmutableCollections" "EMPTY" "Ljava/lang/Object;" (.ref wE)) (xE : Exa Z Z.heap wE "java/lang/Object") :
    Con l (⟨"java/util/List", "of", "(Ljava/lang/Object;)Ljava/util/List;"⟩ : MethodName) jdk_40_method_37_code 1 (some (.object "java/util/List")) ({ frames := 5, cells := 1, slots := 2, locals := 62 } : Room) Z n0 #[(.ref e)] h (fun v h' => ∃ r : Addr, v = some (.ref r) ∧ Keep h h' [] ∧ n0 ≤ r ∧ h.size ≤ r ∧ Exa Z h' r "java/util/ImmutableCollections$List12" ∧ Fld Z h' r "java/util/ImmutableCollections$List12" "e0" "Ljava/lang/Object;" (.ref e) ∧ Fld Z h' r "java/util/ImmutableCollections$List12" "e1" "Ljava/lang/Object;" (.ref wE)) := by
  refine Con.of_go (plainFor_of_name pn_10) (Ls := #[.val (.ref e)]) (fun m => by first | (simp [entryFrame, mkF, argsToLocals, Value.category]; done) | rfl) ?_
  refine Go.new (pc' := 3) (cells' := 1) (slots' := 2) (ww hw 89 rfl) (ww hw 90 rfl) (ww hw 91 rfl) d13_0 rfl rfl (by decide) (by decide) rfl ?_
  intro h1 b1 g1 E1 ge1 A1 D1
  have sz2 : h.size ≤ b1 := Nat.le_trans (Keep.refl h []).1 (Nat.le_of_eq g1.symm)
  have K3 : Keep h h1 [] := (Keep.refl h []).ext E1
  refine Go.dup (pc' := 4) d13_3 rfl rfl ?_
  refine Go.aloadN (pc' := 5) d13_4 rfl rfl rfl ?_
  refine Go.callC (cells' := 1) (slots' := 2) (pc' := 8) [(.ref e)] [(.ref b1)] (a := b1) rfl rfl (ww hw 92 rfl) (ww hw 93 rfl) (ww hw 91 rfl) (ww hw 95 rfl) (by decide) (c_l1Init l Z a0 hw h1 b1 e wE se xE ge1 A1 ((D1 (Or.inr (ww hw 115 rfl)) (ty := (.object "java/lang/Object")) (by decide) : Fld Z h1 b1 "java/util/ImmutableCollections$List12" "e0" "Ljava/lang/Object;" .null)) ((D1 (Or.inr (ww hw 118 rfl)) (ty := (.object "java/lang/Object")) (by decide) : Fld Z h1 b1 "java/util/ImmutableCollections$List12" "e1" "Ljava/lang/Object;" .null))) pd_3 rfl rfl rfl rfl rfl (nl rfl) (nl rfl) (nl rfl) (nl rfl) d13_5 rfl ?_
  rintro _ h4 ⟨rfl, K4, F4_0, F4_1⟩
  have K5 : Keep h h4 [] := K3.trans K4 (allS (Or.inr sz2) all0)
  show Go _ _ _ _ _ _ _ _ _ _ _ _ 8 #[.val (.ref e)] [(.ref b1)]
  exact Go.retR rfl rfl rfl rfl d13_8 ⟨b1, rfl, K5, ge1, sz2, (A1.keep K4), F4_0, F4_1⟩ (by decide) (by decide)
theorem d7_0 : decode jdk_56_method_3_code 0 = .ok (.aload_n 0, 1) := by decide +kernel
theorem d7_1 : decode jdk_56_method_3_code 1 = .ok (.instanceof 10, 3) := by decide +kernel
theorem d7_4 : decode jdk_56_method_3_code 4 = .ok (.ifCond .ne 22, 3) := by decide +kernel
theorem d7_7 : decode jdk_56_method_3_code 7 = .ok (.aload_n 0, 1) := by decide +kernel
theorem d7_8 : decode jdk_56_method_3_code 8 = .ok (.instanceof 12, 3) := by decide +kernel
theorem d7_11 : decode jdk_56_method_3_code 11 = .ok (.ifCond .eq 20, 3) := by decide +kernel
theorem d7_31 : decode jdk_56_method_3_code 31 = .ok (.aload_n 0, 1) := by decide +kernel
theorem d7_32 : decode jdk_56_method_3_code 32 = .ok (.invokeinterface 20 1, 5) := by decide +kernel
theorem d7_37 : decode jdk_56_method_3_code 37 = .ok (.ifCond .eq 7, 3) := by decide +kernel
theorem d7_40 : decode jdk_56_method_3_code 40 = .ok (.invokestatic 26, 3) := by decide +kernel
theorem d7_43 : decode jdk_56_method_3_code 43 = .ok (.areturn, 1) := by decide +kernel
theorem pd_4 : parseMethodDescriptor "()Z" = some ⟨[], some .boolean⟩ := by decide +kernel
theorem pd_5 : parseMethodDescriptor "()Ljava/util/List;" = some ⟨[], some (.object "java/util/List")⟩ := by decide +kernel
theorem pn_11 : plainName "java/util/ImmutableCollections" = true := by first | (simp [plainName, overriddenIn]; done) | decide +kernel
set_option maxRecDepth 65536 in
set_option maxHeartbeats 4000000 in
theorem c_listCopy0 (l : Launch) (Z : State) (a0 : Array Value) (hw : ∀ d ∈ tables_1, d.before a0 Z = true) {n0 : Nat} (h : Heap) (a : Addr) (wL : Addr) (wLe : Addr) (kLe : ClassId) (vsL : List Value) (sl : Sta Z Z.heap "java/util/ImmutableCollections" "EMPTY_LIST" "Ljava/util/ImmutableCollections$ListN;" (.ref wL)) (xL : Exa Z Z.heap wL "java/util/ImmutableCollections$ListN") (fL : Fld Z Z.heap wL "java/util/ImmutableCollections$ListN" "elements" "[Ljava/lang/Object;" (.ref wLe)) (vL : Arv Z Z.heap wLe kLe (.object "java/lang/Object") (0 : Int32) vsL .null) (xa : Exa Z h a "java/util/ArrayList") (f : Fld Z h a "java/util/ArrayList" "size" "I" (.int (0 : Int32))) :
    Con l (⟨"java/util/ImmutableCollections", "listCopy", "(Ljava/util/Collection;)Ljava/util/List;"⟩ : MethodName) jdk_56_method_3_code 2 (some (.object "java/util/List")) ({ frames := 1, cells := 0, slots := 0, locals := 12 } : Room) Z n0 #[(.ref a)] h (fun v h' => v = some (.ref wL) ∧ h = h') := by
  refine Con.of_go (plainFor_of_name pn_11) (Ls := #[.val (.ref a), .unset]) (fun m => by first | (simp [entryFrame, mkF, argsToLocals, Value.category]; done) | rfl) ?_
  refine Go.aloadN (pc' := 1) d7_0 rfl rfl rfl ?_
  refine Go.instNo (pc' := 4) (ww hw 40 rfl) xa (own_nno (ww hw 41 rfl) (ww hw 90 rfl) (NS.step (ww hw 41 rfl) (NS.step (ww hw 42 rfl) (NS.step (ww hw 43 rfl) (own_nroot (ww hw 44 rfl) (ww hw 90 rfl) (by decide)) (by decide)) (by decide)) (by decide)) (by decide)) d7_1 rfl ?_
  refine Go.ifNo (pc' := 7) d7_4 (XT.i0_ne_f (by decide)) rfl ?_
  refine Go.aloadN (pc' := 8) d7_7 rfl rfl rfl ?_
  refine Go.instNo (pc' := 11) (ww hw 45 rfl) xa (own_nno (ww hw 41 rfl) (ww hw 175 rfl) (NS.step (ww hw 41 rfl) (NS.step (ww hw 42 rfl) (NS.step (ww hw 43 rfl) (own_nroot (ww hw 44 rfl) (ww hw 175 rfl) (by decide)) (by decide)) (by decide)) (by decide)) (by decide)) d7_8 rfl ?_
  refine Go.ifYes (pc' := 31) d7_11 (XT.i0_eq_t (by decide)) (by decide) (by decide) ?_
  refine Go.aloadN (pc' := 32) d7_31 rfl rfl rfl ?_
  refine Go.callI (cells' := 0) (slots' := 0) (pc' := 37) [] [] xa (ww hw 46 rfl) (ww hw 47 rfl) (ww hw 48 rfl) (ww hw 49 rfl) (ww hw 50 rfl) (ww hw 51 rfl) (ww hw 52 rfl) (ww hw 53 rfl) (ww hw 8 rfl) (ww hw 54 rfl) (by decide) (c_alEmpty0 l Z a0 hw h a f) pd_4 rfl rfl rfl rfl rfl (nl rfl) (nl rfl) (nl rfl) (nl rfl) d7_32 rfl ?_
  rintro _ _ ⟨rfl, rfl⟩
  show Go _ _ _ _ _ _ _ _ _ _ _ _ 37 #[.val (.ref a), .unset] [(.int (1 : Int32))]
  refine Go.ifNo (pc' := 40) d7_37 (XT.i0_eq_f (by decide)) rfl ?_
  refine Go.callS (cells' := 0) (slots' := 0) (pc' := 43) [] [] (ww hw 57 rfl) (ww hw 58 rfl) (ww hw 34 rfl) (ww hw 59 rfl) (by decide) (c_listOf0 l Z a0 hw h wL wLe kLe vsL sl xL fL vL) pd_5 rfl rfl rfl rfl rfl (nl rfl) (nl rfl) (nl rfl) (nl rfl) d7_40 rfl ?_
  rintro _ _ ⟨rfl, rfl⟩
  show Go _ _ _ _ _ _ _ _ _ _ _ _ 43 #[.val (.ref a), .unset] [(.ref wL)]
  exact Go.retR rfl rfl rfl rfl d7_43 ⟨rfl, rfl⟩ (by decide) (by decide)
theorem d6_0 : decode jdk_40_method_48_code 0 = .ok (.aload_n 0, 1) := by decide +kernel
theorem d6_1 : decode jdk_40_method_48_code 1 = .ok (.invokestatic 112, 3) := by decide +kernel
theorem d6_4 : decode jdk_40_method_48_code 4 = .ok (.areturn, 1) := by decide +kernel
theorem pd_6 : parseMethodDescriptor "(Ljava/util/Collection;)Ljava/util/List;" = some ⟨[(.object "java/util/Collection")], some (.object "java/util/List")⟩ := by decide +kernel
set_option maxRecDepth 65536 in
set_option maxHeartbeats 4000000 in
theorem c_copy0 (l : Launch) (Z : State) (a0 : Array Value) (hw : ∀ d ∈ tables_1, d.before a0 Z = true) {n0 : Nat} (h : Heap) (a : Addr) (wL : Addr) (wLe : Addr) (kLe : ClassId) (vsL : List Value) (sl : Sta Z Z.heap "java/util/ImmutableCollections" "EMPTY_LIST" "Ljava/util/ImmutableCollections$ListN;" (.ref wL)) (xL : Exa Z Z.heap wL "java/util/ImmutableCollections$ListN") (fL : Fld Z Z.heap wL "java/util/ImmutableCollections$ListN" "elements" "[Ljava/lang/Object;" (.ref wLe)) (vL : Arv Z Z.heap wLe kLe (.object "java/lang/Object") (0 : Int32) vsL .null) (xa : Exa Z h a "java/util/ArrayList") (f : Fld Z h a "java/util/ArrayList" "size" "I" (.int (0 : Int32))) :
    Con l (⟨"java/util/List", "copyOf", "(Ljava/util/Collection;)Ljava/util/List;"⟩ : MethodName) jdk_40_method_48_code 1 (some (.object "java/util/List")) ({ frames := 2, cells := 0, slots := 0, locals := 25 } : Room) Z n0 #[(.ref a)] h (fun v h' => v = some (.ref wL) ∧ h = h') := by
  refine Con.of_go (plainFor_of_name pn_10) (Ls := #[.val (.ref a)]) (fun m => by first | (simp [entryFrame, mkF, argsToLocals, Value.category]; done) | rfl) ?_
  refine Go.aloadN (pc' := 1) d6_0 rfl rfl rfl ?_
  refine Go.callS (cells' := 0) (slots' := 0) (pc' := 4) [(.ref a)] [] (ww hw 36 rfl) (ww hw 37 rfl) (ww hw 38 rfl) (ww hw 39 rfl) (by decide) (c_listCopy0 l Z a0 hw h a wL wLe kLe vsL sl xL fL vL xa f) pd_6 rfl rfl rfl rfl rfl (nl rfl) (nl rfl) (nl rfl) (nl rfl) d6_1 rfl ?_
  rintro _ _ ⟨rfl, rfl⟩
  show Go _ _ _ _ _ _ _ _ _ _ _ _ 4 #[.val (.ref a)] [(.ref wL)]
  exact Go.retR rfl rfl rfl rfl d6_4 ⟨rfl, rfl⟩ (by decide) (by decide)
theorem d23_0 : decode jdk_29_method_69_code 0 = .ok (.iload_n 0, 1) := by decide +kernel
theorem d23_1 : decode jdk_29_method_69_code 1 = .ok (.iload_n 1, 1) := by decide +kernel
theorem d23_2 : decode jdk_29_method_69_code 2 = .ok (.if_icmp .gt 7, 3) := by decide +kernel
theorem d23_5 : decode jdk_29_method_69_code 5 = .ok (.iload_n 0, 1) := by decide +kernel
theorem d23_6 : decode jdk_29_method_69_code 6 = .ok (.goto 4, 3) := by decide +kernel
theorem d23_10 : decode jdk_29_method_69_code 10 = .ok (.ireturn, 1) := by decide +kernel
set_option maxRecDepth 65536 in
set_option maxHeartbeats 4000000 in
theorem c_min1 (l : Launch) (Z : State) (a0 : Array Value) (hw : ∀ d ∈ tables_1, d.before a0 Z = true) {n0 : Nat} (h : Heap) :
    Con l (⟨"java/lang/Math", "min", "(II)I"⟩ : MethodName) jdk_29_method_69_code 2 (some .int) ({ frames := 0, cells := 0, slots := 0, locals := 0 } : Room) Z n0 #[(.int (1 : Int32)), (.int (1 : Int32))] h (fun v h' => v = some (.int (1 : Int32)) ∧ h = h') := by
  refine Con.of_go (Jvm.Free.JP.mathPlain rfl (by decide +kernel)) (Ls := #[.val (.int (1 : Int32)), .val (.int (1 : Int32))]) (fun m => by first | (simp [entryFrame, mkF, argsToLocals, Value.category]; done) | rfl) ?_
  refine Go.iloadN (pc' := 1) d23_0 rfl rfl ?_
  refine Go.iloadN (pc' := 2) d23_1 rfl rfl ?_
  refine Go.icmpNo (pc' := 5) d23_2 (XT.ii_gt_f (by decide)) rfl ?_
  refine Go.iloadN (pc' := 6) d23_5 rfl rfl ?_
  refine Go.goto (pc' := 10) d23_6 (by decide) (by decide) ?_
  exact Go.retI rfl d23_10 ⟨rfl, rfl⟩ (by decide) (by decide)
theorem d22_0 : decode jdk_65_method_120_code 0 = .ok (.aload_n 2, 1) := by decide +kernel
theorem d22_1 : decode jdk_65_method_120_code 1 = .ok (.ldc 110, 2) := by decide +kernel
theorem d22_3 : decode jdk_65_method_120_code 3 = .ok (.if_acmp .ne 10, 3) := by decide +kernel
theorem d22_6 : decode jdk_65_method_120_code 6 = .ok (.iload_n 1, 1) := by decide +kernel
theorem d22_7 : decode jdk_65_method_120_code 7 = .ok (.anewarray 2, 3) := by decide +kernel
theorem d22_10 : decode jdk_65_method_120_code 10 = .ok (.goto 14, 3) := by decide +kernel
theorem d22_24 : decode jdk_65_method_120_code 24 = .ok (.astore_n 3, 1) := by decide +kernel
theorem d22_25 : decode jdk_65_method_120_code 25 = .ok (.aload_n 0, 1) := by decide +kernel
theorem d22_26 : decode jdk_65_method_120_code 26 = .ok (.iconst 0, 1) := by decide +kernel
theorem d22_27 : decode jdk_65_method_120_code 27 = .ok (.aload_n 3, 1) := by decide +kernel
theorem d22_28 : decode jdk_65_method_120_code 28 = .ok (.iconst 0, 1) := by decide +kernel
theorem d22_29 : decode jdk_65_method_120_code 29 = .ok (.aload_n 0, 1) := by decide +kernel
theorem d22_30 : decode jdk_65_method_120_code 30 = .ok (.arraylength, 1) := by decide +kernel
theorem d22_31 : decode jdk_65_method_120_code 31 = .ok (.iload_n 1, 1) := by decide +kernel
theorem d22_32 : decode jdk_65_method_120_code 32 = .ok (.invokestatic 304, 3) := by decide +kernel
theorem d22_35 : decode jdk_65_method_120_code 35 = .ok (.invokestatic 150, 3) := by decide +kernel
theorem d22_38 : decode jdk_65_method_120_code 38 = .ok (.aload_n 3, 1) := by decide +kernel
theorem d22_39 : decode jdk_65_method_120_code 39 = .ok (.areturn, 1) := by decide +kernel
theorem pd_7 : parseMethodDescriptor "(II)I" = some ⟨[.int, .int], some .int⟩ := by decide +kernel
theorem pn_12 : plainName "java/util/Arrays" = true := by first | (simp [plainName, overriddenIn]; done) | decide +kernel
set_option maxRecDepth 65536 in
set_option maxHeartbeats 4000000 in
theorem c_copyOfC1 (l : Launch) (Z : State) (a0 : Array Value) (hw : ∀ d ∈ tables_1, d.before a0 Z = true) {n0 : Nat} (h : Heap) (b : Addr) (kb : ClassId) (e0 : Addr) (mO : Addr) (mo : Mi Z "[Ljava/lang/Object;" mO) (v : Arv Z h b kb (.object "java/lang/Object") (1 : Int32) [(.ref e0)] .null) (xb : Exa Z h b "[Ljava/lang/Object;") (xe0 : Exa Z h e0 "java/util/ImmutableCollections$List12") :
    Con l (⟨"java/util/Arrays", "copyOf", "([Ljava/lang/Object;ILjava/lang/Class;)[Ljava/lang/Object;"⟩ : MethodName) jdk_65_method_120_code 4 (some (.array (.object "java/lang/Object"))) ({ frames := 1, cells := 1, slots := 1, locals := 18 } : Room) Z n0 #[(.ref b), (.int (1 : Int32)), (.ref mO)] h (fun v h' => ∃ r : Addr, ∃ kr : ClassId, v = some (.ref r) ∧ Keep h h' [] ∧ n0 ≤ r ∧ h.size ≤ r ∧ Arv Z h' r kr (.object "java/lang/Object") (1 : Int32) [(.ref e0)] .null ∧ Exa Z h' r "[Ljava/lang/Object;" ∧ Ovr Z kr "java/lang/Object") := by
  refine Con.of_go (plainFor_of_name pn_12) (Ls := #[.val (.ref b), .val (.int (1 : Int32)), .val (.ref mO), .unset]) (fun m => by first | (simp [entryFrame, mkF, argsToLocals, Value.category]; done) | rfl) ?_
  refine Go.aloadN (pc' := 1) d22_0 rfl rfl rfl ?_
  refine Go.ldcMirror (pc' := 3) (ww hw 157 rfl) mo d22_1 rfl ?_
  refine Go.acmpNo (pc' := 6) d22_3 rfl rfl (XT.aa_ne_f rfl) rfl ?_
  refine Go.iloadN (pc' := 7) d22_6 rfl rfl ?_
  refine Go.anewarray (pc' := 10) (cells' := 1) (slots' := 1) (cap := 1) (ww hw 158 rfl) (ww hw 78 rfl) d22_7 (ad := "[Ljava/lang/Object;") (by decide) (by decide) (by decide) rfl rfl (by decide) (by decide) (by decide) rfl ?_
  intro h1 b1 g1 E1 ge1 kA1 A1 X1 O1
  have sz2 : h.size ≤ b1 := Nat.le_trans (Keep.refl h []).1 (Nat.le_of_eq g1.symm)
  have K3 : Keep h h1 [] := (Keep.refl h []).ext E1
  have V1 : Arv Z h1 b1 kA1 (.object "java/lang/Object") (1 : Int32) [.null] .null := Arv.pad A1 (pad_rep [] .null 1)
  refine Go.goto (pc' := 24) d22_10 (by decide) (by decide) ?_
  refine Go.astoreN (pc' := 25) (Ls' := #[.val (.ref b), .val (.int (1 : Int32)), .val (.ref mO), .val (.ref b1)]) d22_24 rfl rfl rfl ?_
  refine Go.aloadN (pc' := 26) d22_25 rfl rfl rfl ?_
  refine Go.iconst (pc' := 27) (v := (0 : Int32)) d22_26 rfl rfl ?_
  refine Go.aloadN (pc' := 28) d22_27 rfl rfl rfl ?_
  refine Go.iconst (pc' := 29) (v := (0 : Int32)) d22_28 rfl rfl ?_
  refine Go.aloadN (pc' := 30) d22_29 rfl rfl rfl ?_
  refine Go.arraylength (pc' := 31) (v.ext E1) d22_30 rfl ?_
  refine Go.iloadN (pc' := 32) d22_31 rfl rfl ?_
  refine Go.callS (cells' := 1) (slots' := 1) (pc' := 35) [(.int (1 : Int32)), (.int (1 : Int32))] [(.int (0 : Int32)), (.ref b1), (.int (0 : Int32)), (.ref b)] (ww hw 159 rfl) (ww hw 160 rfl) (ww hw 161 rfl) (ww hw 162 rfl) (by decide) (c_min1 l Z a0 hw h1) pd_7 rfl rfl rfl rfl rfl (nl rfl) (nl rfl) (nl rfl) (nl rfl) d22_32 rfl ?_
  rintro _ _ ⟨rfl, rfl⟩
  show Go _ _ _ _ _ _ _ _ _ _ _ _ 35 #[.val (.ref b), .val (.int (1 : Int32)), .val (.ref mO), .val (.ref b1)] [(.int (1 : Int32)), (.int (0 : Int32)), (.ref b1), (.int (0 : Int32)), (.ref b)]
  refine Go.arraycopy (pc' := 38) (us := [(.ref e0)]) (vd' := [(.ref e0)]) (ww hw 163 rfl) (ww hw 166 rfl) (ww hw 164 rfl) (ww hw 165 rfl) (v.ext E1) V1 (Or.inr ⟨rfl, rfl, ⟨(own_sto V1 O1 (Ins.of_exa (xe0.ext E1) (ww hw 135 rfl))), trivial⟩⟩) (by decide) (by decide) (by decide) (by decide) (by decide) rfl (nl rfl) rfl ge1 d22_35 rfl (nl rfl) (nl rfl) rfl ?_
  intro h5 K6 V7
  have K8 : Keep h h5 [] := K3.trans K6 (allS (Or.inr sz2) all0)
  refine Go.aloadN (pc' := 39) d22_38 rfl rfl rfl ?_
  exact Go.retR rfl rfl rfl rfl d22_39 ⟨b1, kA1, rfl, K8, ge1, sz2, V7, (X1.keep K6), O1⟩ (by decide) (by decide)
theorem d21_0 : decode jdk_65_method_119_code 0 = .ok (.aload_n 0, 1) := by decide +kernel
theorem d21_1 : decode jdk_65_method_119_code 1 = .ok (.iload_n 1, 1) := by decide +kernel
theorem d21_2 : decode jdk_65_method_119_code 2 = .ok (.aload_n 0, 1) := by decide +kernel
theorem d21_3 : decode jdk_65_method_119_code 3 = .ok (.invokevirtual 86, 3) := by decide +kernel
theorem d21_6 : decode jdk_65_method_119_code 6 = .ok (.invokestatic 300, 3) := by decide +kernel
theorem d21_9 : decode jdk_65_method_119_code 9 = .ok (.areturn, 1) := by decide +kernel
theorem pd_8 : parseMethodDescriptor "([Ljava/lang/Object;ILjava/lang/Class;)[Ljava/lang/Object;" = some ⟨[(.array (.object "java/lang/Object")), .int, (.object "java/lang/Class")], some (.array (.object "java/lang/Object"))⟩ := by decide +kernel
set_option maxRecDepth 65536 in
set_option maxHeartbeats 4000000 in
theorem c_copyOf1 (l : Launch) (Z : State) (a0 : Array Value) (hw : ∀ d ∈ tables_1, d.before a0 Z = true) {n0 : Nat} (h : Heap) (b : Addr) (kb : ClassId) (e0 : Addr) (mO : Addr) (mo : Mi Z "[Ljava/lang/Object;" mO) (v : Arv Z h b kb (.object "java/lang/Object") (1 : Int32) [(.ref e0)] .null) (xb : Exa Z h b "[Ljava/lang/Object;") (xe0 : Exa Z h e0 "java/util/ImmutableCollections$List12") :
    Con l (⟨"java/util/Arrays", "copyOf", "([Ljava/lang/Object;I)[Ljava/lang/Object;"⟩ : MethodName) jdk_65_method_119_code 2 (some (.array (.object "java/lang/Object"))) ({ frames := 2, cells := 1, slots := 1, locals := 33 } : Room) Z n0 #[(.ref b), (.int (1 : Int32))] h (fun v h' => ∃ r : Addr, ∃ kr : ClassId, v = some (.ref r) ∧ Keep h h' [] ∧ n0 ≤ r ∧ h.size ≤ r ∧ Arv Z h' r kr (.object "java/lang/Object") (1 : Int32) [(.ref e0)] .null ∧ Exa Z h' r "[Ljava/lang/Object;" ∧ Ovr Z kr "java/lang/Object") := by
  refine Con.of_go (plainFor_of_name pn_12) (Ls := #[.val (.ref b), .val (.int (1 : Int32))]) (fun m => by first | (simp [entryFrame, mkF, argsToLocals, Value.category]; done) | rfl) ?_
  refine Go.aloadN (pc' := 1) d21_0 rfl rfl rfl ?_
  refine Go.iloadN (pc' := 2) d21_1 rfl rfl ?_
  refine Go.aloadN (pc' := 3) d21_2 rfl rfl rfl ?_
  refine Go.getClass (pc' := 6) (ww hw 148 rfl) (ww hw 149 rfl) (ww hw 44 rfl) (ww hw 151 rfl) (ww hw 150 rfl) (ww hw 152 rfl) xb mo d21_3 rfl (nl rfl) (nl rfl) rfl ?_
  refine Go.callS (cells' := 1) (slots' := 1) (pc' := 9) [(.ref b), (.int (1 : Int32)), (.ref mO)] [] (ww hw 154 rfl) (ww hw 155 rfl) (ww hw 146 rfl) (ww hw 156 rfl) (by decide) (c_copyOfC1 l Z a0 hw h b kb e0 mO mo v xb xe0) pd_8 rfl rfl rfl rfl rfl (nl rfl) (nl rfl) (nl rfl) (nl rfl) d21_6 rfl ?_
  rintro _ h1 ⟨r_1, kr_1, rfl, K1, ge_r_1, sz_r_1, F1_0, F1_1, F1_2⟩
  have sz2 : h.size ≤ r_1 := Nat.le_trans (Keep.refl h []).1 sz_r_1
  have K3 : Keep h h1 [] := (Keep.refl h []).trans K1 all0
  show Go _ _ _ _ _ _ _ _ _ _ _ _ 9 #[.val (.ref b), .val (.int (1 : Int32))] [(.ref r_1)]
  exact Go.retR rfl rfl rfl rfl d21_9 ⟨r_1, kr_1, rfl, K3, ge_r_1, sz2, F1_0, F1_1, F1_2⟩ (by decide) (by decide)
theorem d20_0 : decode jdk_38_method_16_code 0 = .ok (.aload_n 0, 1) := by decide +kernel
theorem d20_1 : decode jdk_38_method_16_code 1 = .ok (.getfield 9, 3) := by decide +kernel
theorem d20_4 : decode jdk_38_method_16_code 4 = .ok (.aload_n 0, 1) := by decide +kernel
theorem d20_5 : decode jdk_38_method_16_code 5 = .ok (.getfield 48, 3) := by decide +kernel
theorem d20_8 : decode jdk_38_method_16_code 8 = .ok (.invokestatic 66, 3) := by decide +kernel
theorem d20_11 : decode jdk_38_method_16_code 11 = .ok (.areturn, 1) := by decide +kernel
theorem pd_9 : parseMethodDescriptor "([Ljava/lang/Object;I)[Ljava/lang/Object;" = some ⟨[(.array (.object "java/lang/Object")), .int], some (.array (.object "java/lang/Object"))⟩ := by decide +kernel
set_option maxRecDepth 65536 in
set_option maxHeartbeats 4000000 in
theorem c_toArray1 (l : Launch) (Z : State) (a0 : Array Value) (hw : ∀ d ∈ tables_1, d.before a0 Z = true) {n0 : Nat} (h : Heap) (a : Addr) (b : Addr) (kb : ClassId) (e0 : Addr) (mO : Addr) (mo : Mi Z "[Ljava/lang/Object;" mO) (pf0 : Fld Z h a "java/util/ArrayList" "elementData" "[Ljava/lang/Object;" (.ref b)) (pf1 : Fld Z h a "java/util/ArrayList" "size" "I" (.int (1 : Int32))) (v : Arv Z h b kb (.object "java/lang/Object") (1 : Int32) [(.ref e0)] .null) (xb : Exa Z h b "[Ljava/lang/Object;") (xe0 : Exa Z h e0 "java/util/ImmutableCollections$List12") :
    Con l (⟨"java/util/ArrayList", "toArray", "()[Ljava/lang/Object;"⟩ : MethodName) jdk_38_method_16_code 1 (some (.array (.object "java/lang/Object"))) ({ frames := 3, cells := 1, slots := 1, locals := 46 } : Room) Z n0 #[(.ref a)] h (fun v h' => ∃ r : Addr, ∃ kr : ClassId, v = some (.ref r) ∧ Keep h h' [] ∧ n0 ≤ r ∧ h.size ≤ r ∧ Arv Z h' r kr (.object "java/lang/Object") (1 : Int32) [(.ref e0)] .null ∧ Exa Z h' r "[Ljava/lang/Object;" ∧ Ovr Z kr "java/lang/Object") := by
  refine Con.of_go (plainFor_of_name pn_4) (Ls := #[.val (.ref a)]) (fun m => by first | (simp [entryFrame, mkF, argsToLocals, Value.category]; done) | rfl) ?_
  refine Go.aloadN (pc' := 1) d20_0 rfl rfl rfl ?_
  refine Go.getfield (pc' := 4) (host := "") (Or.inl (ww hw 30 rfl)) Via.refl pf0 d20_1 rfl ?_
  refine Go.aloadN (pc' := 5) d20_4 rfl rfl rfl ?_
  refine Go.getfield (pc' := 8) (host := "") (Or.inl (ww hw 55 rfl)) Via.refl pf1 d20_5 rfl ?_
  refine Go.callS (cells' := 1) (slots' := 1) (pc' := 11) [(.ref b), (.int (1 : Int32))] [] (ww hw 144 rfl) (ww hw 145 rfl) (ww hw 146 rfl) (ww hw 147 rfl) (by decide) (c_copyOf1 l Z a0 hw h b kb e0 mO mo v xb xe0) pd_9 rfl rfl rfl rfl rfl (nl rfl) (nl rfl) (nl rfl) (nl rfl) d20_8 rfl ?_
  rintro _ h1 ⟨r_1, kr_1, rfl, K1, ge_r_1, sz_r_1, F1_0, F1_1, F1_2⟩
  have sz2 : h.size ≤ r_1 := Nat.le_trans (Keep.refl h []).1 sz_r_1
  have K3 : Keep h h1 [] := (Keep.refl h []).trans K1 all0
  show Go _ _ _ _ _ _ _ _ _ _ _ _ 11 #[.val (.ref a)] [(.ref r_1)]
  exact Go.retR rfl rfl rfl rfl d20_11 ⟨r_1, kr_1, rfl, K3, ge_r_1, sz2, F1_0, F1_1, F1_2⟩ (by decide) (by decide)
theorem d24_0 : decode jdk_40_method_47_code 0 = .ok (.aload_n 0, 1) := by decide +kernel
theorem d24_1 : decode jdk_40_method_47_code 1 = .ok (.arraylength, 1) := by decide +kernel
theorem d24_2 : decode jdk_40_method_47_code 2 = .ok (.tableswitch 57 0 2 #[26, 32, 43], 26) := by decide +kernel
theorem d24_34 : decode jdk_40_method_47_code 34 = .ok (.new 96, 3) := by decide +kernel
theorem d24_37 : decode jdk_40_method_47_code 37 = .ok (.dup, 1) := by decide +kernel
theorem d24_38 : decode jdk_40_method_47_code 38 = .ok (.aload_n 0, 1) := by decide +kernel
theorem d24_39 : decode jdk_40_method_47_code 39 = .ok (.iconst 0, 1) := by decide +kernel
theorem d24_40 : decode jdk_40_method_47_code 40 = .ok (.aaload, 1) := by decide +kernel
theorem d24_41 : decode jdk_40_method_47_code 41 = .ok (.invokespecial 98, 3) := by decide +kernel
theorem d24_44 : decode jdk_40_method_47_code 44 = .ok (.areturn, 1) := by decide +kernel
set_option maxRecDepth 65536 in
set_option maxHeartbeats 4000000 in
theorem c_ofA1 (l : Launch) (Z : State) (a0 : Array Value) (hw : ∀ d ∈ tables_1, d.before a0 Z = true) {n0 : Nat} (h : Heap) (b : Addr) (kb : ClassId) (e0 : Addr) (wE : Addr) (se : Sta Z Z.heap "java/util/ImmutableCollections" "EMPTY" "Ljava/lang/Object;" (.ref wE)) (xE : Exa Z Z.heap wE "java/lang/Object") (v : Arv Z h b kb (.object "java/lang/Object") (1 : Int32) [(.ref e0)] .null) (xe0 : Exa Z h e0 "java/util/ImmutableCollections$List12") :
    Con l (⟨"java/util/List", "of", "([Ljava/lang/Object;)Ljava/util/List;"⟩ : MethodName) jdk_40_method_47_code 2 (some (.object "java/util/List")) ({ frames := 5, cells := 1, slots := 2, locals := 62 } : Room) Z n0 #[(.ref b)] h (fun v h' => ∃ r : Addr, v = some (.ref r) ∧ Keep h h' [] ∧ n0 ≤ r ∧ h.size ≤ r ∧ Exa Z h' r "java/util/ImmutableCollections$List12" ∧ Fld Z h' r "java/util/ImmutableCollections$List12" "e0" "Ljava/lang/Object;" (.ref e0) ∧ Fld Z h' r "java/util/ImmutableCollections$List12" "e1" "Ljava/lang/Object;" (.ref wE)) := by
  refine Con.of_go (plainFor_of_name pn_10) (Ls := #[.val (.ref b), .unset]) (fun m => by first | (simp [entryFrame, mkF, argsToLocals, Value.category]; done) | rfl) ?_
  refine Go.aloadN (pc' := 1) d24_0 rfl rfl rfl ?_
  refine Go.arraylength (pc' := 2) v d24_1 rfl ?_
  refine Go.tsw (pc' := 34) (o := 32) d24_2 (by decide) (by decide) (by decide) (by decide) ?_
  refine Go.new (pc' := 37) (cells' := 1) (slots' := 2) (ww hw 89 rfl) (ww hw 90 rfl) (ww hw 91 rfl) d24_34 rfl rfl (by decide) (by decide) rfl ?_
  intro h1 b1 g1 E1 ge1 A1 D1
  have sz2 : h.size ≤ b1 := Nat.le_trans (Keep.refl h []).1 (Nat.le_of_eq g1.symm)
  have K3 : Keep h h1 [] := (Keep.refl h []).ext E1
  refine Go.dup (pc' := 38) d24_37 rfl rfl ?_
  refine Go.aloadN (pc' := 39) d24_38 rfl rfl rfl ?_
  refine Go.iconst (pc' := 40) (v := (0 : Int32)) d24_39 rfl rfl ?_
  refine Go.aaload (pc' := 41) (v := (.ref e0)) (v.ext E1) rfl d24_40 (by decide) (by decide) rfl rfl ?_
  refine Go.callC (cells' := 1) (slots' := 2) (pc' := 44) [(.ref e0)] [(.ref b1)] (a := b1) rfl rfl (ww hw 92 rfl) (ww hw 93 rfl) (ww hw 91 rfl) (ww hw 95 rfl) (by decide) (c_l1Init l Z a0 hw h1 b1 e0 wE se xE ge1 A1 ((D1 (Or.inr (ww hw 115 rfl)) (ty := (.object "java/lang/Object")) (by decide) : Fld Z h1 b1 "java/util/ImmutableCollections$List12" "e0" "Ljava/lang/Object;" .null)) ((D1 (Or.inr (ww hw 118 rfl)) (ty := (.object "java/lang/Object")) (by decide) : Fld Z h1 b1 "java/util/ImmutableCollections$List12" "e1" "Ljava/lang/Object;" .null))) pd_3 rfl rfl rfl rfl rfl (nl rfl) (nl rfl) (nl rfl) (nl rfl) d24_41 rfl ?_
  rintro _ h4 ⟨rfl, K4, F4_0, F4_1⟩
  have K5 : Keep h h4 [] := K3.trans K4 (allS (Or.inr sz2) all0)
  show Go _ _ _ _ _ _ _ _ _ _ _ _ 44 #[.val (.ref b), .unset] [(.ref b1)]
  exact Go.retR rfl rfl rfl rfl d24_44 ⟨b1, rfl, K5, ge1, sz2, (A1.keep K4), F4_0, F4_1⟩ (by decide) (by decide)
theorem d7_44 : decode jdk_56_method_3_code 44 = .ok (.aload_n 0, 1) := by decide +kernel
theorem d7_45 : decode jdk_56_method_3_code 45 = .ok (.invokeinterface 30 1, 5) := by decide +kernel
theorem d7_50 : decode jdk_56_method_3_code 50 = .ok (.invokestatic 34, 3) := by decide +kernel
theorem d7_53 : decode jdk_56_method_3_code 53 = .ok (.areturn, 1) := by decide +kernel
theorem pd_10 : parseMethodDescriptor "()[Ljava/lang/Object;" = some ⟨[], some (.array (.object "java/lang/Object"))⟩ := by decide +kernel
theorem pd_11 : parseMethodDescriptor "([Ljava/lang/Object;)Ljava/util/List;" = some ⟨[(.array (.object "java/lang/Object"))], some (.object "java/util/List")⟩ := by decide +kernel
set_option maxRecDepth 65536 in
set_option maxHeartbeats 4000000 in
theorem c_listCopy1 (l : Launch) (Z : State) (a0 : Array Value) (hw : ∀ d ∈ tables_1, d.before a0 Z = true) {n0 : Nat} (h : Heap) (a : Addr) (b : Addr) (kb : ClassId) (e0 : Addr) (wE : Addr) (mO : Addr) (se : Sta Z Z.heap "java/util/ImmutableCollections" "EMPTY" "Ljava/lang/Object;" (.ref wE)) (xE : Exa Z Z.heap wE "java/lang/Object") (mo : Mi Z "[Ljava/lang/Object;" mO) (xa : Exa Z h a "java/util/ArrayList") (pf0 : Fld Z h a "java/util/ArrayList" "elementData" "[Ljava/lang/Object;" (.ref b)) (pf1 : Fld Z h a "java/util/ArrayList" "size" "I" (.int (1 : Int32))) (v : Arv Z h b kb (.object "java/lang/Object") (1 : Int32) [(.ref e0)] .null) (xb : Exa Z h b "[Ljava/lang/Object;") (xe0 : Exa Z h e0 "java/util/ImmutableCollections$List12") :
    Con l (⟨"java/util/ImmutableCollections", "listCopy", "(Ljava/util/Collection;)Ljava/util/List;"⟩ : MethodName) jdk_56_method_3_code 2 (some (.object "java/util/List")) ({ frames := 6, cells := 2, slots := 3, locals := 75 } : Room) Z n0 #[(.ref a)] h (fun v h' => ∃ r : Addr, v = some (.ref r) ∧ Keep h h' [] ∧ n0 ≤ r ∧ h.size ≤ r ∧ Exa Z h' r "java/util/ImmutableCollections$List12" ∧ Fld Z h' r "java/util/ImmutableCollections$List12" "e0" "Ljava/lang/Object;" (.ref e0) ∧ Fld Z h' r "java/util/ImmutableCollections$List12" "e1" "Ljava/lang/Object;" (.ref wE)) := by
  refine Con.of_go (plainFor_of_name pn_11) (Ls := #[.val (.ref a), .unset]) (fun m => by first | (simp [entryFrame, mkF, argsToLocals, Value.category]; done) | rfl) ?_
  refine Go.aloadN (pc' := 1) d7_0 rfl rfl rfl ?_
  refine Go.instNo (pc' := 4) (ww hw 40 rfl) xa (own_nno (ww hw 41 rfl) (ww hw 90 rfl) (NS.step (ww hw 41 rfl) (NS.step (ww hw 42 rfl) (NS.step (ww hw 43 rfl) (own_nroot (ww hw 44 rfl) (ww hw 90 rfl) (by decide)) (by decide)) (by decide)) (by decide)) (by decide)) d7_1 rfl ?_
  refine Go.ifNo (pc' := 7) d7_4 (XT.i0_ne_f (by decide)) rfl ?_
  refine Go.aloadN (pc' := 8) d7_7 rfl rfl rfl ?_
  refine Go.instNo (pc' := 11) (ww hw 45 rfl) xa (own_nno (ww hw 41 rfl) (ww hw 175 rfl) (NS.step (ww hw 41 rfl) (NS.step (ww hw 42 rfl) (NS.step (ww hw 43 rfl) (own_nroot (ww hw 44 rfl) (ww hw 175 rfl) (by decide)) (by decide)) (by decide)) (by decide)) (by decide)) d7_8 rfl ?_
  refine Go.ifYes (pc' := 31) d7_11 (XT.i0_eq_t (by decide)) (by decide) (by decide) ?_
  refine Go.aloadN (pc' := 32) d7_31 rfl rfl rfl ?_
  refine Go.callI (cells' := 0) (slots' := 0) (pc' := 37) [] [] xa (ww hw 46 rfl) (ww hw 47 rfl) (ww hw 48 rfl) (ww hw 49 rfl) (ww hw 50 rfl) (ww hw 51 rfl) (ww hw 52 rfl) (ww hw 53 rfl) (ww hw 8 rfl) (ww hw 54 rfl) (by decide) (c_alEmptyN l Z a0 hw h a (1 : Int32) (by decide) pf1) pd_4 rfl rfl rfl rfl rfl (nl rfl) (nl rfl) (nl rfl) (nl rfl) d7_32 rfl ?_
  rintro _ _ ⟨rfl, rfl⟩
  show Go _ _ _ _ _ _ _ _ _ _ _ _ 37 #[.val (.ref a), .unset] [(.int (0 : Int32))]
  refine Go.ifYes (pc' := 44) d7_37 (XT.i0_eq_t (by decide)) (by decide) (by decide) ?_
  refine Go.aloadN (pc' := 45) d7_44 rfl rfl rfl ?_
  refine Go.callI (cells' := 1) (slots' := 1) (pc' := 50) [] [] xa (ww hw 136 rfl) (ww hw 137 rfl) (ww hw 138 rfl) (ww hw 139 rfl) (ww hw 140 rfl) (ww hw 141 rfl) (ww hw 142 rfl) (ww hw 53 rfl) (ww hw 8 rfl) (ww hw 143 rfl) (by decide) (c_toArray1 l Z a0 hw h a b kb e0 mO mo pf0 pf1 v xb xe0) pd_10 rfl rfl rfl rfl rfl (nl rfl) (nl rfl) (nl rfl) (nl rfl) d7_45 rfl ?_
  rintro _ h2 ⟨r_2, kr_2, rfl, K2, ge_r_2, sz_r_2, F2_0, F2_1, F2_2⟩
  have sz3 : h.size ≤ r_2 := Nat.le_trans (Keep.refl h []).1 sz_r_2
  have K4 : Keep h h2 [] := (Keep.refl h []).trans K2 all0
  show Go _ _ _ _ _ _ _ _ _ _ _ _ 50 #[.val (.ref a), .unset] [(.ref r_2)]
  refine Go.callS (cells' := 2) (slots' := 3) (pc' := 53) [(.ref r_2)] [] (ww hw 167 rfl) (ww hw 168 rfl) (ww hw 34 rfl) (ww hw 169 rfl) (by decide) (c_ofA1 l Z a0 hw h2 r_2 kr_2 e0 wE se xE F2_0 (xe0.keep K2)) pd_11 rfl rfl rfl rfl rfl (nl rfl) (nl rfl) (nl rfl) (nl rfl) d7_50 rfl ?_
  rintro _ h5 ⟨r_5, rfl, K5, ge_r_5, sz_r_5, F5_0, F5_1, F5_2⟩
  have sz6 : h.size ≤ r_5 := Nat.le_trans K4.1 sz_r_5
  have K7 : Keep h h5 [] := K4.trans K5 all0
  show Go _ _ _ _ _ _ _ _ _ _ _ _ 53 #[.val (.ref a), .unset] [(.ref r_5)]
  exact Go.retR rfl rfl rfl rfl d7_53 ⟨r_5, rfl, K7, ge_r_5, sz6, F5_0, F5_1, F5_2⟩ (by decide) (by decide)
set_option maxRecDepth 65536 in
set_option maxHeartbeats 4000000 in
theorem c_copy1 (l : Launch) (Z : State) (a0 : Array Value) (hw : ∀ d ∈ tables_1, d.before a0 Z = true) {n0 : Nat} (h : Heap) (a : Addr) (b : Addr) (kb : ClassId) (e0 : Addr) (wE : Addr) (mO : Addr) (se : Sta Z Z.heap "java/util/ImmutableCollections" "EMPTY" "Ljava/lang/Object;" (.ref wE)) (xE : Exa Z Z.heap wE "java/lang/Object") (mo : Mi Z "[Ljava/lang/Object;" mO) (xa : Exa Z h a "java/util/ArrayList") (pf0 : Fld Z h a "java/util/ArrayList" "elementData" "[Ljava/lang/Object;" (.ref b)) (pf1 : Fld Z h a "java/util/ArrayList" "size" "I" (.int (1 : Int32))) (v : Arv Z h b kb (.object "java/lang/Object") (1 : Int32) [(.ref e0)] .null) (xb : Exa Z h b "[Ljava/lang/Object;") (xe0 : Exa Z h e0 "java/util/ImmutableCollections$List12") :
    Con l (⟨"java/util/List", "copyOf", "(Ljava/util/Collection;)Ljava/util/List;"⟩ : MethodName) jdk_40_method_48_code 1 (some (.object "java/util/List")) ({ frames := 7, cells := 2, slots := 3, locals := 88 } : Room) Z n0 #[(.ref a)] h (fun v h' => ∃ r : Addr, v = some (.ref r) ∧ Keep h h' [] ∧ n0 ≤ r ∧ h.size ≤ r ∧ Exa Z h' r "java/util/ImmutableCollections$List12" ∧ Fld Z h' r "java/util/ImmutableCollections$List12" "e0" "Ljava/lang/Object;" (.ref e0) ∧ Fld Z h' r "java/util/ImmutableCollections$List12" "e1" "Ljava/lang/Object;" (.ref wE)) := by
  refine Con.of_go (plainFor_of_name pn_10) (Ls := #[.val (.ref a)]) (fun m => by first | (simp [entryFrame, mkF, argsToLocals, Value.category]; done) | rfl) ?_
  refine Go.aloadN (pc' := 1) d6_0 rfl rfl rfl ?_
  refine Go.callS (cells' := 2) (slots' := 3) (pc' := 4) [(.ref a)] [] (ww hw 36 rfl) (ww hw 37 rfl) (ww hw 38 rfl) (ww hw 39 rfl) (by decide) (c_listCopy1 l Z a0 hw h a b kb e0 wE mO se xE mo xa pf0 pf1 v xb xe0) pd_6 rfl rfl rfl rfl rfl (nl rfl) (nl rfl) (nl rfl) (nl rfl) d6_1 rfl ?_
  rintro _ h1 ⟨r_1, rfl, K1, ge_r_1, sz_r_1, F1_0, F1_1, F1_2⟩
  have sz2 : h.size ≤ r_1 := Nat.le_trans (Keep.refl h []).1 sz_r_1
  have K3 : Keep h h1 [] := (Keep.refl h []).trans K1 all0
  show Go _ _ _ _ _ _ _ _ _ _ _ _ 4 #[.val (.ref a)] [(.ref r_1)]
  exact Go.retR rfl rfl rfl rfl d6_4 ⟨r_1, rfl, K3, ge_r_1, sz2, F1_0, F1_1, F1_2⟩ (by decide) (by decide)
set_option maxRecDepth 65536 in
set_option maxHeartbeats 4000000 in
theorem c_min2 (l : Launch) (Z : State) (a0 : Array Value) (hw : ∀ d ∈ tables_1, d.before a0 Z = true) {n0 : Nat} (h : Heap) :
    Con l (⟨"java/lang/Math", "min", "(II)I"⟩ : MethodName) jdk_29_method_69_code 2 (some .int) ({ frames := 0, cells := 0, slots := 0, locals := 0 } : Room) Z n0 #[(.int (2 : Int32)), (.int (2 : Int32))] h (fun v h' => v = some (.int (2 : Int32)) ∧ h = h') := by
  refine Con.of_go (Jvm.Free.JP.mathPlain rfl (by decide +kernel)) (Ls := #[.val (.int (2 : Int32)), .val (.int (2 : Int32))]) (fun m => by first | (simp [entryFrame, mkF, argsToLocals, Value.category]; done) | rfl) ?_
  refine Go.iloadN (pc' := 1) d23_0 rfl rfl ?_
  refine Go.iloadN (pc' := 2) d23_1 rfl rfl ?_
  refine Go.icmpNo (pc' := 5) d23_2 (XT.ii_gt_f (by decide)) rfl ?_
  refine Go.iloadN (pc' := 6) d23_5 rfl rfl ?_
  refine Go.goto (pc' := 10) d23_6 (by decide) (by decide) ?_
  exact Go.retI rfl d23_10 ⟨rfl, rfl⟩ (by decide) (by decide)
set_option maxRecDepth 65536 in
set_option maxHeartbeats 4000000 in
theorem c_copyOfC2 (l : Launch) (Z : State) (a0 : Array Value) (hw : ∀ d ∈ tables_1, d.before a0 Z = true) {n0 : Nat} (h : Heap) (b : Addr) (kb : ClassId) (e0 : Addr) (e1 : Addr) (mO : Addr) (mo : Mi Z "[Ljava/lang/Object;" mO) (v : Arv Z h b kb (.object "java/lang/Object") (2 : Int32) [(.ref e0), (.ref e1)] .null) (xb : Exa Z h b "[Ljava/lang/Object;") (xe0 : Exa Z h e0 "java/util/ImmutableCollections$List12") (xe1 : Exa Z h e1 "java/util/ImmutableCollections$List12") :
    Con l (⟨"java/util/Arrays", "copyOf", "([Ljava/lang/Object;ILjava/lang/Class;)[Ljava/lang/Object;"⟩ : MethodName) jdk_65_method_120_code 4 (some (.array (.object "java/lang/Object"))) ({ frames := 1, cells := 1, slots := 2, locals := 18 } : Room) Z n0 #[(.ref b), (.int (2 : Int32)), (.ref mO)] h (fun v h' => ∃ r : Addr, ∃ kr : ClassId, v = some (.ref r) ∧ Keep h h' [] ∧ n0 ≤ r ∧ h.size ≤ r ∧ Arv Z h' r kr (.object "java/lang/Object") (2 : Int32) [(.ref e0), (.ref e1)] .null ∧ Exa Z h' r "[Ljava/lang/Object;" ∧ Ovr Z kr "java/lang/Object") := by
  refine Con.of_go (plainFor_of_name pn_12) (Ls := #[.val (.ref b), .val (.int (2 : Int32)), .val (.ref mO), .unset]) (fun m => by first | (simp [entryFrame, mkF, argsToLocals, Value.category]; done) | rfl) ?_
  refine Go.aloadN (pc' := 1) d22_0 rfl rfl rfl ?_
  refine Go.ldcMirror (pc' := 3) (ww hw 157 rfl) mo d22_1 rfl ?_
  refine Go.acmpNo (pc' := 6) d22_3 rfl rfl (XT.aa_ne_f rfl) rfl ?_
  refine Go.iloadN (pc' := 7) d22_6 rfl rfl ?_
  refine Go.anewarray (pc' := 10) (cells' := 1) (slots' := 2) (cap := 2) (ww hw 158 rfl) (ww hw 78 rfl) d22_7 (ad := "[Ljava/lang/Object;") (by decide) (by decide) (by decide) rfl rfl (by decide) (by decide) (by decide) rfl ?_
  intro h1 b1 g1 E1 ge1 kA1 A1 X1 O1
  have sz2 : h.size ≤ b1 := Nat.le_trans (Keep.refl h []).1 (Nat.le_of_eq g1.symm)
  have K3 : Keep h h1 [] := (Keep.refl h []).ext E1
  have V1 : Arv Z h1 b1 kA1 (.object "java/lang/Object") (2 : Int32) [.null, .null] .null := Arv.pad A1 (pad_rep [] .null 2)
  refine Go.goto (pc' := 24) d22_10 (by decide) (by decide) ?_
  refine Go.astoreN (pc' := 25) (Ls' := #[.val (.ref b), .val (.int (2 : Int32)), .val (.ref mO), .val (.ref b1)]) d22_24 rfl rfl rfl ?_
  refine Go.aloadN (pc' := 26) d22_25 rfl rfl rfl ?_
  refine Go.iconst (pc' := 27) (v := (0 : Int32)) d22_26 rfl rfl ?_
  refine Go.aloadN (pc' := 28) d22_27 rfl rfl rfl ?_
  refine Go.iconst (pc' := 29) (v := (0 : Int32)) d22_28 rfl rfl ?_
  refine Go.aloadN (pc' := 30) d22_29 rfl rfl rfl ?_
  refine Go.arraylength (pc' := 31) (v.ext E1) d22_30 rfl ?_
  refine Go.iloadN (pc' := 32) d22_31 rfl rfl ?_
  refine Go.callS (cells' := 1) (slots' := 2) (pc' := 35) [(.int (2 : Int32)), (.int (2 : Int32))] [(.int (0 : Int32)), (.ref b1), (.int (0 : Int32)), (.ref b)] (ww hw 159 rfl) (ww hw 160 rfl) (ww hw 161 rfl) (ww hw 162 rfl) (by decide) (c_min2 l Z a0 hw h1) pd_7 rfl rfl rfl rfl rfl (nl rfl) (nl rfl) (nl rfl) (nl rfl) d22_32 rfl ?_
  rintro _ _ ⟨rfl, rfl⟩
  show Go _ _ _ _ _ _ _ _ _ _ _ _ 35 #[.val (.ref b), .val (.int (2 : Int32)), .val (.ref mO), .val (.ref b1)] [(.int (2 : Int32)), (.int (0 : Int32)), (.ref b1), (.int (0 : Int32)), (.ref b)]
  refine Go.arraycopy (pc' := 38) (us := [(.ref e0), (.ref e1)]) (vd' := [(.ref e0), (.ref e1)]) (ww hw 163 rfl) (ww hw 166 rfl) (ww hw 164 rfl) (ww hw 165 rfl) (v.ext E1) V1 (Or.inr ⟨rfl, rfl, ⟨(own_sto V1 O1 (Ins.of_exa (xe0.ext E1) (ww hw 135 rfl))), ⟨(own_sto V1 O1 (Ins.of_exa (xe1.ext E1) (ww hw 135 rfl))), trivial⟩⟩⟩) (by decide) (by decide) (by decide) (by decide) (by decide) rfl (nl rfl) rfl ge1 d22_35 rfl (nl rfl) (nl rfl) rfl ?_
  intro h5 K6 V7
  have K8 : Keep h h5 [] := K3.trans K6 (allS (Or.inr sz2) all0)
  refine Go.aloadN (pc' := 39) d22_38 rfl rfl rfl ?_
  exact Go.retR rfl rfl rfl rfl d22_39 ⟨b1, kA1, rfl, K8, ge1, sz2, V7, (X1.keep K6), O1⟩ (by decide) (by decide)
set_option maxRecDepth 65536 in
set_option maxHeartbeats 4000000 in
theorem c_copyOf2 (l : Launch) (Z : State) (a0 : Array Value) (hw : ∀ d ∈ tables_1, d.before a0 Z = true) {n0 : Nat} (h : Heap) (b : Addr) (kb : ClassId) (e0 : Addr) (e1 : Addr) (mO : Addr) (mo : Mi Z "[Ljava/lang/Object;" mO) (v : Arv Z h b kb (.object "java/lang/Object") (2 : Int32) [(.ref e0), (.ref e1)] .null) (xb : Exa Z h b "[Ljava/lang/Object;") (xe0 : Exa Z h e0 "java/util/ImmutableCollections$List12") (xe1 : Exa Z h e1 "java/util/ImmutableCollections$List12") :
    Con l (⟨"java/util/Arrays", "copyOf", "([Ljava/lang/Object;I)[Ljava/lang/Object;"⟩ : MethodName) jdk_65_method_119_code 2 (some (.array (.object "java/lang/Object"))) ({ frames := 2, cells := 1, slots := 2, locals := 33 } : Room) Z n0 #[(.ref b), (.int (2 : Int32))] h (fun v h' => ∃ r : Addr, ∃ kr : ClassId, v = some (.ref r) ∧ Keep h h' [] ∧ n0 ≤ r ∧ h.size ≤ r ∧ Arv Z h' r kr (.object "java/lang/Object") (2 : Int32) [(.ref e0), (.ref e1)] .null ∧ Exa Z h' r "[Ljava/lang/Object;" ∧ Ovr Z kr "java/lang/Object") := by
  refine Con.of_go (plainFor_of_name pn_12) (Ls := #[.val (.ref b), .val (.int (2 : Int32))]) (fun m => by first | (simp [entryFrame, mkF, argsToLocals, Value.category]; done) | rfl) ?_
  refine Go.aloadN (pc' := 1) d21_0 rfl rfl rfl ?_
  refine Go.iloadN (pc' := 2) d21_1 rfl rfl ?_
  refine Go.aloadN (pc' := 3) d21_2 rfl rfl rfl ?_
  refine Go.getClass (pc' := 6) (ww hw 148 rfl) (ww hw 149 rfl) (ww hw 44 rfl) (ww hw 151 rfl) (ww hw 150 rfl) (ww hw 152 rfl) xb mo d21_3 rfl (nl rfl) (nl rfl) rfl ?_
  refine Go.callS (cells' := 1) (slots' := 2) (pc' := 9) [(.ref b), (.int (2 : Int32)), (.ref mO)] [] (ww hw 154 rfl) (ww hw 155 rfl) (ww hw 146 rfl) (ww hw 156 rfl) (by decide) (c_copyOfC2 l Z a0 hw h b kb e0 e1 mO mo v xb xe0 xe1) pd_8 rfl rfl rfl rfl rfl (nl rfl) (nl rfl) (nl rfl) (nl rfl) d21_6 rfl ?_
  rintro _ h1 ⟨r_1, kr_1, rfl, K1, ge_r_1, sz_r_1, F1_0, F1_1, F1_2⟩
  have sz2 : h.size ≤ r_1 := Nat.le_trans (Keep.refl h []).1 sz_r_1
  have K3 : Keep h h1 [] := (Keep.refl h []).trans K1 all0
  show Go _ _ _ _ _ _ _ _ _ _ _ _ 9 #[.val (.ref b), .val (.int (2 : Int32))] [(.ref r_1)]
  exact Go.retR rfl rfl rfl rfl d21_9 ⟨r_1, kr_1, rfl, K3, ge_r_1, sz2, F1_0, F1_1, F1_2⟩ (by decide) (by decide)
set_option maxRecDepth 65536 in
set_option maxHeartbeats 4000000 in
theorem c_toArray2 (l : Launch) (Z : State) (a0 : Array Value) (hw : ∀ d ∈ tables_1, d.before a0 Z = true) {n0 : Nat} (h : Heap) (a : Addr) (b : Addr) (kb : ClassId) (e0 : Addr) (e1 : Addr) (mO : Addr) (mo : Mi Z "[Ljava/lang/Object;" mO) (pf0 : Fld Z h a "java/util/ArrayList" "elementData" "[Ljava/lang/Object;" (.ref b)) (pf1 : Fld Z h a "java/util/ArrayList" "size" "I" (.int (2 : Int32))) (v : Arv Z h b kb (.object "java/lang/Object") (2 : Int32) [(.ref e0), (.ref e1)] .null) (xb : Exa Z h b "[Ljava/lang/Object;") (xe0 : Exa Z h e0 "java/util/ImmutableCollections$List12") (xe1 : Exa Z h e1 "java/util/ImmutableCollections$List12") :
    Con l (⟨"java/util/ArrayList", "toArray", "()[Ljava/lang/Object;"⟩ : MethodName) jdk_38_method_16_code 1 (some (.array (.object "java/lang/Object"))) ({ frames := 3, cells := 1, slots := 2, locals := 46 } : Room) Z n0 #[(.ref a)] h (fun v h' => ∃ r : Addr, ∃ kr : ClassId, v = some (.ref r) ∧ Keep h h' [] ∧ n0 ≤ r ∧ h.size ≤ r ∧ Arv Z h' r kr (.object "java/lang/Object") (2 : Int32) [(.ref e0), (.ref e1)] .null ∧ Exa Z h' r "[Ljava/lang/Object;" ∧ Ovr Z kr "java/lang/Object") := by
  refine Con.of_go (plainFor_of_name pn_4) (Ls := #[.val (.ref a)]) (fun m => by first | (simp [entryFrame, mkF, argsToLocals, Value.category]; done) | rfl) ?_
  refine Go.aloadN (pc' := 1) d20_0 rfl rfl rfl ?_
  refine Go.getfield (pc' := 4) (host := "") (Or.inl (ww hw 30 rfl)) Via.refl pf0 d20_1 rfl ?_
  refine Go.aloadN (pc' := 5) d20_4 rfl rfl rfl ?_
  refine Go.getfield (pc' := 8) (host := "") (Or.inl (ww hw 55 rfl)) Via.refl pf1 d20_5 rfl ?_
  refine Go.callS (cells' := 1) (slots' := 2) (pc' := 11) [(.ref b), (.int (2 : Int32))] [] (ww hw 144 rfl) (ww hw 145 rfl) (ww hw 146 rfl) (ww hw 147 rfl) (by decide) (c_copyOf2 l Z a0 hw h b kb e0 e1 mO mo v xb xe0 xe1) pd_9 rfl rfl rfl rfl rfl (nl rfl) (nl rfl) (nl rfl) (nl rfl) d20_8 rfl ?_
  rintro _ h1 ⟨r_1, kr_1, rfl, K1, ge_r_1, sz_r_1, F1_0, F1_1, F1_2⟩
  have sz2 : h.size ≤ r_1 := Nat.le_trans (Keep.refl h []).1 sz_r_1
  have K3 : Keep h h1 [] := (Keep.refl h []).trans K1 all0
  show Go _ _ _ _ _ _ _ _ _ _ _ _ 11 #[.val (.ref a)] [(.ref r_1)]
  exact Go.retR rfl rfl rfl rfl d20_11 ⟨r_1, kr_1, rfl, K3, ge_r_1, sz2, F1_0, F1_1, F1_2⟩ (by decide) (by decide)
theorem d24_45 : decode jdk_40_method_47_code 45 = .ok (.new 96, 3) := by decide +kernel
theorem d24_48 : decode jdk_40_method_47_code 48 = .ok (.dup, 1) := by decide +kernel
theorem d24_49 : decode jdk_40_method_47_code 49 = .ok (.aload_n 0, 1) := by decide +kernel
theorem d24_50 : decode jdk_40_method_47_code 50 = .ok (.iconst 0, 1) := by decide +kernel
theorem d24_51 : decode jdk_40_method_47_code 51 = .ok (.aaload, 1) := by decide +kernel
theorem d24_52 : decode jdk_40_method_47_code 52 = .ok (.aload_n 0, 1) := by decide +kernel
theorem d24_53 : decode jdk_40_method_47_code 53 = .ok (.iconst 1, 1) := by decide +kernel
theorem d24_54 : decode jdk_40_method_47_code 54 = .ok (.aaload, 1) := by decide +kernel
theorem d24_55 : decode jdk_40_method_47_code 55 = .ok (.invokespecial 100, 3) := by decide +kernel
theorem d24_58 : decode jdk_40_method_47_code 58 = .ok (.areturn, 1) := by decide +kernel
theorem pd_12 : parseMethodDescriptor "(Ljava/lang/Object;Ljava/lang/Object;)V" = some ⟨[(.object "java/lang/Object"), (.object "java/lang/Object")], none⟩ := by decide +kernel
set_option maxRecDepth 65536 in
set_option maxHeartbeats 4000000 in
theorem c_ofA2 (l : Launch) (Z : State) (a0 : Array Value) (hw : ∀ d ∈ tables_1, d.before a0 Z = true) {n0 : Nat} (h : Heap) (b : Addr) (kb : ClassId) (e0 : Addr) (e1 : Addr) (v : Arv Z h b kb (.object "java/lang/Object") (2 : Int32) [(.ref e0), (.ref e1)] .null) (xe0 : Exa Z h e0 "java/util/ImmutableCollections$List12") (xe1 : Exa Z h e1 "java/util/ImmutableCollections$List12") :
    Con l (⟨"java/util/List", "of", "([Ljava/lang/Object;)Ljava/util/List;"⟩ : MethodName) jdk_40_method_47_code 2 (some (.object "java/util/List")) ({ frames := 5, cells := 1, slots := 2, locals := 63 } : Room) Z n0 #[(.ref b)] h (fun v h' => ∃ r : Addr, v = some (.ref r) ∧ Keep h h' [] ∧ n0 ≤ r ∧ h.size ≤ r ∧ Exa Z h' r "java/util/ImmutableCollections$List12" ∧ Fld Z h' r "java/util/ImmutableCollections$List12" "e0" "Ljava/lang/Object;" (.ref e0) ∧ Fld Z h' r "java/util/ImmutableCollections$List12" "e1" "Ljava/lang/Object;" (.ref e1)) := by
  refine Con.of_go (plainFor_of_name pn_10) (Ls := #[.val (.ref b), .unset]) (fun m => by first | (simp [entryFrame, mkF, argsToLocals, Value.category]; done) | rfl) ?_
  refine Go.aloadN (pc' := 1) d24_0 rfl rfl rfl ?_
  refine Go.arraylength (pc' := 2) v d24_1 rfl ?_
  refine Go.tsw (pc' := 45) (o := 43) d24_2 (by decide) (by decide) (by decide) (by decide) ?_
  refine Go.new (pc' := 48) (cells' := 1) (slots' := 2) (ww hw 89 rfl) (ww hw 90 rfl) (ww hw 91 rfl) d24_45 rfl rfl (by decide) (by decide) rfl ?_
  intro h1 b1 g1 E1 ge1 A1 D1
  have sz2 : h.size ≤ b1 := Nat.le_trans (Keep.refl h []).1 (Nat.le_of_eq g1.symm)
  have K3 : Keep h h1 [] := (Keep.refl h []).ext E1
  refine Go.dup (pc' := 49) d24_48 rfl rfl ?_
  refine Go.aloadN (pc' := 50) d24_49 rfl rfl rfl ?_
  refine Go.iconst (pc' := 51) (v := (0 : Int32)) d24_50 rfl rfl ?_
  refine Go.aaload (pc' := 52) (v := (.ref e0)) (v.ext E1) rfl d24_51 (by decide) (by decide) rfl rfl ?_
  refine Go.aloadN (pc' := 53) d24_52 rfl rfl rfl ?_
  refine Go.iconst (pc' := 54) (v := (1 : Int32)) d24_53 rfl rfl ?_
  refine Go.aaload (pc' := 55) (v := (.ref e1)) (v.ext E1) rfl d24_54 (by decide) (by decide) rfl rfl ?_
  refine Go.callC (cells' := 1) (slots' := 2) (pc' := 58) [(.ref e0), (.ref e1)] [(.ref b1)] (a := b1) rfl rfl (ww hw 227 rfl) (ww hw 228 rfl) (ww hw 91 rfl) (ww hw 229 rfl) (by decide) (c_l2Init l Z a0 hw h1 b1 e0 e1 ge1 A1 ((D1 (Or.inr (ww hw 115 rfl)) (ty := (.object "java/lang/Object")) (by decide) : Fld Z h1 b1 "java/util/ImmutableCollections$List12" "e0" "Ljava/lang/Object;" .null)) ((D1 (Or.inr (ww hw 118 rfl)) (ty := (.object "java/lang/Object")) (by decide) : Fld Z h1 b1 "java/util/ImmutableCollections$List12" "e1" "Ljava/lang/Object;" .null))) pd_12 rfl rfl rfl rfl rfl (nl rfl) (nl rfl) (nl rfl) (nl rfl) d24_55 rfl ?_
  rintro _ h4 ⟨rfl, K4, F4_0, F4_1⟩
  have K5 : Keep h h4 [] := K3.trans K4 (allS (Or.inr sz2) all0)
  show Go _ _ _ _ _ _ _ _ _ _ _ _ 58 #[.val (.ref b), .unset] [(.ref b1)]
  exact Go.retR rfl rfl rfl rfl d24_58 ⟨b1, rfl, K5, ge1, sz2, (A1.keep K4), F4_0, F4_1⟩ (by decide) (by decide)
set_option maxRecDepth 65536 in
set_option maxHeartbeats 4000000 in
theorem c_listCopy2 (l : Launch) (Z : State) (a0 : Array Value) (hw : ∀ d ∈ tables_1, d.before a0 Z = true) {n0 : Nat} (h : Heap) (a : Addr) (b : Addr) (kb : ClassId) (e0 : Addr) (e1 : Addr) (mO : Addr) (mo : Mi Z "[Ljava/lang/Object;" mO) (xa : Exa Z h a "java/util/ArrayList") (pf0 : Fld Z h a "java/util/ArrayList" "elementData" "[Ljava/lang/Object;" (.ref b)) (pf1 : Fld Z h a "java/util/ArrayList" "size" "I" (.int (2 : Int32))) (v : Arv Z h b kb (.object "java/lang/Object") (2 : Int32) [(.ref e0), (.ref e1)] .null) (xb : Exa Z h b "[Ljava/lang/Object;") (xe0 : Exa Z h e0 "java/util/ImmutableCollections$List12") (xe1 : Exa Z h e1 "java/util/ImmutableCollections$List12") :
    Con l (⟨"java/util/ImmutableCollections", "listCopy", "(Ljava/util/Collection;)Ljava/util/List;"⟩ : MethodName) jdk_56_method_3_code 2 (some (.object "java/util/List")) ({ frames := 6, cells := 2, slots := 4, locals := 76 } : Room) Z n0 #[(.ref a)] h (fun v h' => ∃ r : Addr, v = some (.ref r) ∧ Keep h h' [] ∧ n0 ≤ r ∧ h.size ≤ r ∧ Exa Z h' r "java/util/ImmutableCollections$List12" ∧ Fld Z h' r "java/util/ImmutableCollections$List12" "e0" "Ljava/lang/Object;" (.ref e0) ∧ Fld Z h' r "java/util/ImmutableCollections$List12" "e1" "Ljava/lang/Object;" (.ref e1)) := by
  refine Con.of_go (plainFor_of_name pn_11) (Ls := #[.val (.ref a), .unset]) (fun m => by first | (simp [entryFrame, mkF, argsToLocals, Value.category]; done) | rfl) ?_
  refine Go.aloadN (pc' := 1) d7_0 rfl rfl rfl ?_
  refine Go.instNo (pc' := 4) (ww hw 40 rfl) xa (own_nno (ww hw 41 rfl) (ww hw 90 rfl) (NS.step (ww hw 41 rfl) (NS.step (ww hw 42 rfl) (NS.step (ww hw 43 rfl) (own_nroot (ww hw 44 rfl) (ww hw 90 rfl) (by decide)) (by decide)) (by decide)) (by decide)) (by decide)) d7_1 rfl ?_
  refine Go.ifNo (pc' := 7) d7_4 (XT.i0_ne_f (by decide)) rfl ?_
  refine Go.aloadN (pc' := 8) d7_7 rfl rfl rfl ?_
  refine Go.instNo (pc' := 11) (ww hw 45 rfl) xa (own_nno (ww hw 41 rfl) (ww hw 175 rfl) (NS.step (ww hw 41 rfl) (NS.step (ww hw 42 rfl) (NS.step (ww hw 43 rfl) (own_nroot (ww hw 44 rfl) (ww hw 175 rfl) (by decide)) (by decide)) (by decide)) (by decide)) (by decide)) d7_8 rfl ?_
  refine Go.ifYes (pc' := 31) d7_11 (XT.i0_eq_t (by decide)) (by decide) (by decide) ?_
  refine Go.aloadN (pc' := 32) d7_31 rfl rfl rfl ?_
  refine Go.callI (cells' := 0) (slots' := 0) (pc' := 37) [] [] xa (ww hw 46 rfl) (ww hw 47 rfl) (ww hw 48 rfl) (ww hw 49 rfl) (ww hw 50 rfl) (ww hw 51 rfl) (ww hw 52 rfl) (ww hw 53 rfl) (ww hw 8 rfl) (ww hw 54 rfl) (by decide) (c_alEmptyN l Z a0 hw h a (2 : Int32) (by decide) pf1) pd_4 rfl rfl rfl rfl rfl (nl rfl) (nl rfl) (nl rfl) (nl rfl) d7_32 rfl ?_
  rintro _ _ ⟨rfl, rfl⟩
  show Go _ _ _ _ _ _ _ _ _ _ _ _ 37 #[.val (.ref a), .unset] [(.int (0 : Int32))]
  refine Go.ifYes (pc' := 44) d7_37 (XT.i0_eq_t (by decide)) (by decide) (by decide) ?_
  refine Go.aloadN (pc' := 45) d7_44 rfl rfl rfl ?_
  refine Go.callI (cells' := 1) (slots' := 2) (pc' := 50) [] [] xa (ww hw 136 rfl) (ww hw 137 rfl) (ww hw 138 rfl) (ww hw 139 rfl) (ww hw 140 rfl) (ww hw 141 rfl) (ww hw 142 rfl) (ww hw 53 rfl) (ww hw 8 rfl) (ww hw 143 rfl) (by decide) (c_toArray2 l Z a0 hw h a b kb e0 e1 mO mo pf0 pf1 v xb xe0 xe1) pd_10 rfl rfl rfl rfl rfl (nl rfl) (nl rfl) (nl rfl) (nl rfl) d7_45 rfl ?_
  rintro _ h2 ⟨r_2, kr_2, rfl, K2, ge_r_2, sz_r_2, F2_0, F2_1, F2_2⟩
  have sz3 : h.size ≤ r_2 := Nat.le_trans (Keep.refl h []).1 sz_r_2
  have K4 : Keep h h2 [] := (Keep.refl h []).trans K2 all0
  show Go _ _ _ _ _ _ _ _ _ _ _ _ 50 #[.val (.ref a), .unset] [(.ref r_2)]
  refine Go.callS (cells' := 2) (slots' := 4) (pc' := 53) [(.ref r_2)] [] (ww hw 167 rfl) (ww hw 168 rfl) (ww hw 34 rfl) (ww hw 169 rfl) (by decide) (c_ofA2 l Z a0 hw h2 r_2 kr_2 e0 e1 F2_0 (xe0.keep K2) (xe1.keep K2)) pd_11 rfl rfl rfl rfl rfl (nl rfl) (nl rfl) (nl rfl) (nl rfl) d7_50 rfl ?_
  rintro _ h5 ⟨r_5, rfl, K5, ge_r_5, sz_r_5, F5_0, F5_1, F5_2⟩
  have sz6 : h.size ≤ r_5 := Nat.le_trans K4.1 sz_r_5
  have K7 : Keep h h5 [] := K4.trans K5 all0
  show Go _ _ _ _ _ _ _ _ _ _ _ _ 53 #[.val (.ref a), .unset] [(.ref r_5)]
  exact Go.retR rfl rfl rfl rfl d7_53 ⟨r_5, rfl, K7, ge_r_5, sz6, F5_0, F5_1, F5_2⟩ (by decide) (by decide)
set_option maxRecDepth 65536 in
set_option maxHeartbeats 4000000 in
theorem c_copy2 (l : Launch) (Z : State) (a0 : Array Value) (hw : ∀ d ∈ tables_1, d.before a0 Z = true) {n0 : Nat} (h : Heap) (a : Addr) (b : Addr) (kb : ClassId) (e0 : Addr) (e1 : Addr) (mO : Addr) (mo : Mi Z "[Ljava/lang/Object;" mO) (xa : Exa Z h a "java/util/ArrayList") (pf0 : Fld Z h a "java/util/ArrayList" "elementData" "[Ljava/lang/Object;" (.ref b)) (pf1 : Fld Z h a "java/util/ArrayList" "size" "I" (.int (2 : Int32))) (v : Arv Z h b kb (.object "java/lang/Object") (2 : Int32) [(.ref e0), (.ref e1)] .null) (xb : Exa Z h b "[Ljava/lang/Object;") (xe0 : Exa Z h e0 "java/util/ImmutableCollections$List12") (xe1 : Exa Z h e1 "java/util/ImmutableCollections$List12") :
    Con l (⟨"java/util/List", "copyOf", "(Ljava/util/Collection;)Ljava/util/List;"⟩ : MethodName) jdk_40_method_48_code 1 (some (.object "java/util/List")) ({ frames := 7, cells := 2, slots := 4, locals := 89 } : Room) Z n0 #[(.ref a)] h (fun v h' => ∃ r : Addr, v = some (.ref r) ∧ Keep h h' [] ∧ n0 ≤ r ∧ h.size ≤ r ∧ Exa Z h' r "java/util/ImmutableCollections$List12" ∧ Fld Z h' r "java/util/ImmutableCollections$List12" "e0" "Ljava/lang/Object;" (.ref e0) ∧ Fld Z h' r "java/util/ImmutableCollections$List12" "e1" "Ljava/lang/Object;" (.ref e1)) := by
  refine Con.of_go (plainFor_of_name pn_10) (Ls := #[.val (.ref a)]) (fun m => by first | (simp [entryFrame, mkF, argsToLocals, Value.category]; done) | rfl) ?_
  refine Go.aloadN (pc' := 1) d6_0 rfl rfl rfl ?_
  refine Go.callS (cells' := 2) (slots' := 4) (pc' := 4) [(.ref a)] [] (ww hw 36 rfl) (ww hw 37 rfl) (ww hw 38 rfl) (ww hw 39 rfl) (by decide) (c_listCopy2 l Z a0 hw h a b kb e0 e1 mO mo xa pf0 pf1 v xb xe0 xe1) pd_6 rfl rfl rfl rfl rfl (nl rfl) (nl rfl) (nl rfl) (nl rfl) d6_1 rfl ?_
  rintro _ h1 ⟨r_1, rfl, K1, ge_r_1, sz_r_1, F1_0, F1_1, F1_2⟩
  have sz2 : h.size ≤ r_1 := Nat.le_trans (Keep.refl h []).1 sz_r_1
  have K3 : Keep h h1 [] := (Keep.refl h []).trans K1 all0
  show Go _ _ _ _ _ _ _ _ _ _ _ _ 4 #[.val (.ref a)] [(.ref r_1)]
  exact Go.retR rfl rfl rfl rfl d6_4 ⟨r_1, rfl, K3, ge_r_1, sz2, F1_0, F1_1, F1_2⟩ (by decide) (by decide)
set_option maxRecDepth 65536 in
set_option maxHeartbeats 4000000 in
theorem c_min3 (l : Launch) (Z : State) (a0 : Array Value) (hw : ∀ d ∈ tables_1, d.before a0 Z = true) {n0 : Nat} (h : Heap) :
    Con l (⟨"java/lang/Math", "min", "(II)I"⟩ : MethodName) jdk_29_method_69_code 2 (some .int) ({ frames := 0, cells := 0, slots := 0, locals := 0 } : Room) Z n0 #[(.int (3 : Int32)), (.int (3 : Int32))] h (fun v h' => v = some (.int (3 : Int32)) ∧ h = h') := by
  refine Con.of_go (Jvm.Free.JP.mathPlain rfl (by decide +kernel)) (Ls := #[.val (.int (3 : Int32)), .val (.int (3 : Int32))]) (fun m => by first | (simp [entryFrame, mkF, argsToLocals, Value.category]; done) | rfl) ?_
  refine Go.iloadN (pc' := 1) d23_0 rfl rfl ?_
  refine Go.iloadN (pc' := 2) d23_1 rfl rfl ?_
  refine Go.icmpNo (pc' := 5) d23_2 (XT.ii_gt_f (by decide)) rfl ?_
  refine Go.iloadN (pc' := 6) d23_5 rfl rfl ?_
  refine Go.goto (pc' := 10) d23_6 (by decide) (by decide) ?_
  exact Go.retI rfl d23_10 ⟨rfl, rfl⟩ (by decide) (by decide)
set_option maxRecDepth 65536 in
set_option maxHeartbeats 4000000 in
theorem c_copyOfC3 (l : Launch) (Z : State) (a0 : Array Value) (hw : ∀ d ∈ tables_1, d.before a0 Z = true) {n0 : Nat} (h : Heap) (b : Addr) (kb : ClassId) (e0 : Addr) (e1 : Addr) (e2 : Addr) (mO : Addr) (mo : Mi Z "[Ljava/lang/Object;" mO) (v : Arv Z h b kb (.object "java/lang/Object") (3 : Int32) [(.ref e0), (.ref e1), (.ref e2)] .null) (xb : Exa Z h b "[Ljava/lang/Object;") (xe0 : Exa Z h e0 "java/util/ImmutableCollections$List12") (xe1 : Exa Z h e1 "java/util/ImmutableCollections$List12") (xe2 : Exa Z h e2 "java/util/ImmutableCollections$List12") :
    Con l (⟨"java/util/Arrays", "copyOf", "([Ljava/lang/Object;ILjava/lang/Class;)[Ljava/lang/Object;"⟩ : MethodName) jdk_65_method_120_code 4 (some (.array (.object "java/lang/Object"))) ({ frames := 1, cells := 1, slots := 3, locals := 18 } : Room) Z n0 #[(.ref b), (.int (3 : Int32)), (.ref mO)] h (fun v h' => ∃ r : Addr, ∃ kr : ClassId, v = some (.ref r) ∧ Keep h h' [] ∧ n0 ≤ r ∧ h.size ≤ r ∧ Arv Z h' r kr (.object "java/lang/Object") (3 : Int32) [(.ref e0), (.ref e1), (.ref e2)] .null ∧ Exa Z h' r "[Ljava/lang/Object;" ∧ Ovr Z kr "java/lang/Object") := by
  refine Con.of_go (plainFor_of_name pn_12) (Ls := #[.val (.ref b), .val (.int (3 : Int32)), .val (.ref mO), .unset]) (fun m => by first | (simp [entryFrame, mkF, argsToLocals, Value.category]; done) | rfl) ?_
  refine Go.aloadN (pc' := 1) d22_0 rfl rfl rfl ?_
  refine Go.ldcMirror (pc' := 3) (ww hw 157 rfl) mo d22_1 rfl ?_
  refine Go.acmpNo (pc' := 6) d22_3 rfl rfl (XT.aa_ne_f rfl) rfl ?_
  refine Go.iloadN (pc' := 7) d22_6 rfl rfl ?_
  refine Go.anewarray (pc' := 10) (cells' := 1) (slots' := 3) (cap := 3) (ww hw 158 rfl) (ww hw 78 rfl) d22_7 (ad := "[Ljava/lang/Object;") (by decide) (by decide) (by decide) rfl rfl (by decide) (by decide) (by decide) rfl ?_
  intro h1 b1 g1 E1 ge1 kA1 A1 X1 O1
  have sz2 : h.size ≤ b1 := Nat.le_trans (Keep.refl h []).1 (Nat.le_of_eq g1.symm)
  have K3 : Keep h h1 [] := (Keep.refl h []).ext E1
  have V1 : Arv Z h1 b1 kA1 (.object "java/lang/Object") (3 : Int32) [.null, .null, .null] .null := Arv.pad A1 (pad_rep [] .null 3)
  refine Go.goto (pc' := 24) d22_10 (by decide) (by decide) ?_
  refine Go.astoreN (pc' := 25) (Ls' := #[.val (.ref b), .val (.int (3 : Int32)), .val (.ref mO), .val (.ref b1)]) d22_24 rfl rfl rfl ?_
  refine Go.aloadN (pc' := 26) d22_25 rfl rfl rfl ?_
  refine Go.iconst (pc' := 27) (v := (0 : Int32)) d22_26 rfl rfl ?_
  refine Go.aloadN (pc' := 28) d22_27 rfl rfl rfl ?_
  refine Go.iconst (pc' := 29) (v := (0 : Int32)) d22_28 rfl rfl ?_
  refine Go.aloadN (pc' := 30) d22_29 rfl rfl rfl ?_
  refine Go.arraylength (pc' := 31) (v.ext E1) d22_30 rfl ?_
  refine Go.iloadN (pc' := 32) d22_31 rfl rfl ?_
  refine Go.callS (cells' := 1) (slots' := 3) (pc' := 35) [(.int (3 : Int32)), (.int (3 : Int32))] [(.int (0 : Int32)), (.ref b1), (.int (0 : Int32)), (.ref b)] (ww hw 159 rfl) (ww hw 160 rfl) (ww hw 161 rfl) (ww hw 162 rfl) (by decide) (c_min3 l Z a0 hw h1) pd_7 rfl rfl rfl rfl rfl (nl rfl) (nl rfl) (nl rfl) (nl rfl) d22_32 rfl ?_
  rintro _ _ ⟨rfl, rfl⟩
  show Go _ _ _ _ _ _ _ _ _ _ _ _ 35 #[.val (.ref b), .val (.int (3 : Int32)), .val (.ref mO), .val (.ref b1)] [(.int (3 : Int32)), (.int (0 : Int32)), (.ref b1), (.int (0 : Int32)), (.ref b)]
  refine Go.arraycopy (pc' := 38) (us := [(.ref e0), (.ref e1), (.ref e2)]) (vd' := [(.ref e0), (.ref e1), (.ref e2)]) (ww hw 163 rfl) (ww hw 166 rfl) (ww hw 164 rfl) (ww hw 165 rfl) (v.ext E1) V1 (Or.inr ⟨rfl, rfl, ⟨(own_sto V1 O1 (Ins.of_exa (xe0.ext E1) (ww hw 135 rfl))), ⟨(own_sto V1 O1 (Ins.of_exa (xe1.ext E1) (ww hw 135 rfl))), ⟨(own_sto V1 O1 (Ins.of_exa (xe2.ext E1) (ww hw 135 rfl))), trivial⟩⟩⟩⟩) (by decide) (by decide) (by decide) (by decide) (by decide) rfl (nl rfl) rfl ge1 d22_35 rfl (nl rfl) (nl rfl) rfl ?_
  intro h5 K6 V7
  have K8 : Keep h h5 [] := K3.trans K6 (allS (Or.inr sz2) all0)
  refine Go.aloadN (pc' := 39) d22_38 rfl rfl rfl ?_
  exact Go.retR rfl rfl rfl rfl d22_39 ⟨b1, kA1, rfl, K8, ge1, sz2, V7, (X1.keep K6), O1⟩ (by decide) (by decide)
set_option maxRecDepth 65536 in
set_option maxHeartbeats 4000000 in
theorem c_copyOf3 (l : Launch) (Z : State) (a0 : Array Value) (hw : ∀ d ∈ tables_1, d.before a0 Z = true) {n0 : Nat} (h : Heap) (b : Addr) (kb : ClassId) (e0 : Addr) (e1 : Addr) (e2 : Addr) (mO : Addr) (mo : Mi Z "[Ljava/lang/Object;" mO) (v : Arv Z h b kb (.object "java/lang/Object") (3 : Int32) [(.ref e0), (.ref e1), (.ref e2)] .null) (xb : Exa Z h b "[Ljava/lang/Object;") (xe0 : Exa Z h e0 "java/util/ImmutableCollections$List12") (xe1 : Exa Z h e1 "java/util/ImmutableCollections$List12") (xe2 : Exa Z h e2 "java/util/ImmutableCollections$List12") :
    Con l (⟨"java/util/Arrays", "copyOf", "([Ljava/lang/Object;I)[Ljava/lang/Object;"⟩ : MethodName) jdk_65_method_119_code 2 (some (.array (.object "java/lang/Object"))) ({ frames := 2, cells := 1, slots := 3, locals := 33 } : Room) Z n0 #[(.ref b), (.int (3 : Int32))] h (fun v h' => ∃ r : Addr, ∃ kr : ClassId, v = some (.ref r) ∧ Keep h h' [] ∧ n0 ≤ r ∧ h.size ≤ r ∧ Arv Z h' r kr (.object "java/lang/Object") (3 : Int32) [(.ref e0), (.ref e1), (.ref e2)] .null ∧ Exa Z h' r "[Ljava/lang/Object;" ∧ Ovr Z kr "java/lang/Object") := by
  refine Con.of_go (plainFor_of_name pn_12) (Ls := #[.val (.ref b), .val (.int (3 : Int32))]) (fun m => by first | (simp [entryFrame, mkF, argsToLocals, Value.category]; done) | rfl) ?_
  refine Go.aloadN (pc' := 1) d21_0 rfl rfl rfl ?_
  refine Go.iloadN (pc' := 2) d21_1 rfl rfl ?_
  refine Go.aloadN (pc' := 3) d21_2 rfl rfl rfl ?_
  refine Go.getClass (pc' := 6) (ww hw 148 rfl) (ww hw 149 rfl) (ww hw 44 rfl) (ww hw 151 rfl) (ww hw 150 rfl) (ww hw 152 rfl) xb mo d21_3 rfl (nl rfl) (nl rfl) rfl ?_
  refine Go.callS (cells' := 1) (slots' := 3) (pc' := 9) [(.ref b), (.int (3 : Int32)), (.ref mO)] [] (ww hw 154 rfl) (ww hw 155 rfl) (ww hw 146 rfl) (ww hw 156 rfl) (by decide) (c_copyOfC3 l Z a0 hw h b kb e0 e1 e2 mO mo v xb xe0 xe1 xe2) pd_8 rfl rfl rfl rfl rfl (nl rfl) (nl rfl) (nl rfl) (nl rfl) d21_6 rfl ?_
  rintro _ h1 ⟨r_1, kr_1, rfl, K1, ge_r_1, sz_r_1, F1_0, F1_1, F1_2⟩
  have sz2 : h.size ≤ r_1 := Nat.le_trans (Keep.refl h []).1 sz_r_1
  have K3 : Keep h h1 [] := (Keep.refl h []).trans K1 all0
  show Go _ _ _ _ _ _ _ _ _ _ _ _ 9 #[.val (.ref b), .val (.int (3 : Int32))] [(.ref r_1)]
  exact Go.retR rfl rfl rfl rfl d21_9 ⟨r_1, kr_1, rfl, K3, ge_r_1, sz2, F1_0, F1_1, F1_2⟩ (by decide) (by decide)
set_option maxRecDepth 65536 in
set_option maxHeartbeats 4000000 in
theorem c_toArray3 (l : Launch) (Z : State) (a0 : Array Value) (hw : ∀ d ∈ tables_1, d.before a0 Z = true) {n0 : Nat} (h : Heap) (a : Addr) (b : Addr) (kb : ClassId) (e0 : Addr) (e1 : Addr) (e2 : Addr) (mO : Addr) (mo : Mi Z "[Ljava/lang/Object;" mO) (pf0 : Fld Z h a "java/util/ArrayList" "elementData" "[Ljava/lang/Object;" (.ref b)) (pf1 : Fld Z h a "java/util/ArrayList" "size" "I" (.int (3 : Int32))) (v : Arv Z h b kb (.object "java/lang/Object") (3 : Int32) [(.ref e0), (.ref e1), (.ref e2)] .null) (xb : Exa Z h b "[Ljava/lang/Object;") (xe0 : Exa Z h e0 "java/util/ImmutableCollections$List12") (xe1 : Exa Z h e1 "java/util/ImmutableCollections$List12") (xe2 : Exa Z h e2 "java/util/ImmutableCollections$List12") :
    Con l (⟨"java/util/ArrayList", "toArray", "()[Ljava/lang/Object;"⟩ : MethodName) jdk_38_method_16_code 1 (some (.array (.object "java/lang/Object"))) ({ frames := 3, cells := 1, slots := 3, locals := 46 } : Room) Z n0 #[(.ref a)] h (fun v h' => ∃ r : Addr, ∃ kr : ClassId, v = some (.ref r) ∧ Keep h h' [] ∧ n0 ≤ r ∧ h.size ≤ r ∧ Arv Z h' r kr (.object "java/lang/Object") (3 : Int32) [(.ref e0), (.ref e1), (.ref e2)] .null ∧ Exa Z h' r "[Ljava/lang/Object;" ∧ Ovr Z kr "java/lang/Object") := by
  refine Con.of_go (plainFor_of_name pn_4) (Ls := #[.val (.ref a)]) (fun m => by first | (simp [entryFrame, mkF, argsToLocals, Value.category]; done) | rfl) ?_
  refine Go.aloadN (pc' := 1) d20_0 rfl rfl rfl ?_
  refine Go.getfield (pc' := 4) (host := "") (Or.inl (ww hw 30 rfl)) Via.refl pf0 d20_1 rfl ?_
  refine Go.aloadN (pc' := 5) d20_4 rfl rfl rfl ?_
  refine Go.getfield (pc' := 8) (host := "") (Or.inl (ww hw 55 rfl)) Via.refl pf1 d20_5 rfl ?_
  refine Go.callS (cells' := 1) (slots' := 3) (pc' := 11) [(.ref b), (.int (3 : Int32))] [] (ww hw 144 rfl) (ww hw 145 rfl) (ww hw 146 rfl) (ww hw 147 rfl) (by decide) (c_copyOf3 l Z a0 hw h b kb e0 e1 e2 mO mo v xb xe0 xe1 xe2) pd_9 rfl rfl rfl rfl rfl (nl rfl) (nl rfl) (nl rfl) (nl rfl) d20_8 rfl ?_
  rintro _ h1 ⟨r_1, kr_1, rfl, K1, ge_r_1, sz_r_1, F1_0, F1_1, F1_2⟩
  have sz2 : h.size ≤ r_1 := Nat.le_trans (Keep.refl h []).1 sz_r_1
  have K3 : Keep h h1 [] := (Keep.refl h []).trans K1 all0
  show Go _ _ _ _ _ _ _ _ _ _ _ _ 11 #[.val (.ref a)] [(.ref r_1)]
  exact Go.retR rfl rfl rfl rfl d20_11 ⟨r_1, kr_1, rfl, K3, ge_r_1, sz2, F1_0, F1_1, F1_2⟩ (by decide) (by decide)
theorem d25_0 : decode jdk_56_method_4_code 0 = .ok (.aload_n 0, 1) := by decide +kernel
theorem d25_1 : decode jdk_56_method_4_code 1 = .ok (.arraylength, 1) := by decide +kernel
theorem d25_2 : decode jdk_56_method_4_code 2 = .ok (.anewarray 2, 3) := by decide +kernel
theorem d25_5 : decode jdk_56_method_4_code 5 = .ok (.astore_n 1, 1) := by decide +kernel
theorem d25_6 : decode jdk_56_method_4_code 6 = .ok (.iconst 0, 1) := by decide +kernel
theorem d25_7 : decode jdk_56_method_4_code 7 = .ok (.istore_n 2, 1) := by decide +kernel
theorem d25_8 : decode jdk_56_method_4_code 8 = .ok (.iload_n 2, 1) := by decide +kernel
theorem d25_9 : decode jdk_56_method_4_code 9 = .ok (.aload_n 0, 1) := by decide +kernel
theorem d25_10 : decode jdk_56_method_4_code 10 = .ok (.arraylength, 1) := by decide +kernel
theorem d25_11 : decode jdk_56_method_4_code 11 = .ok (.if_icmp .ge 18, 3) := by decide +kernel
theorem d25_14 : decode jdk_56_method_4_code 14 = .ok (.aload_n 1, 1) := by decide +kernel
theorem d25_15 : decode jdk_56_method_4_code 15 = .ok (.iload_n 2, 1) := by decide +kernel
theorem d25_16 : decode jdk_56_method_4_code 16 = .ok (.aload_n 0, 1) := by decide +kernel
theorem d25_17 : decode jdk_56_method_4_code 17 = .ok (.iload_n 2, 1) := by decide +kernel
theorem d25_18 : decode jdk_56_method_4_code 18 = .ok (.aaload, 1) := by decide +kernel
theorem d25_19 : decode jdk_56_method_4_code 19 = .ok (.invokestatic 37, 3) := by decide +kernel
theorem d25_22 : decode jdk_56_method_4_code 22 = .ok (.aastore, 1) := by decide +kernel
theorem d25_23 : decode jdk_56_method_4_code 23 = .ok (.iinc 2 1, 3) := by decide +kernel
theorem d25_26 : decode jdk_56_method_4_code 26 = .ok (.goto (-18), 3) := by decide +kernel
theorem d25_29 : decode jdk_56_method_4_code 29 = .ok (.new 12, 3) := by decide +kernel
theorem d25_32 : decode jdk_56_method_4_code 32 = .ok (.dup, 1) := by decide +kernel
theorem d25_33 : decode jdk_56_method_4_code 33 = .ok (.aload_n 1, 1) := by decide +kernel
theorem d25_34 : decode jdk_56_method_4_code 34 = .ok (.iconst 0, 1) := by decide +kernel
theorem d25_35 : decode jdk_56_method_4_code 35 = .ok (.invokespecial 43, 3) := by decide +kernel
theorem d25_38 : decode jdk_56_method_4_code 38 = .ok (.areturn, 1) := by decide +kernel
theorem pd_13 : parseMethodDescriptor "([Ljava/lang/Object;Z)V" = some ⟨[(.array (.object "java/lang/Object")), .boolean], none⟩ := by decide +kernel
set_option maxRecDepth 65536 in
set_option maxHeartbeats 4000000 in
theorem c_lfa3 (l : Launch) (Z : State) (a0 : Array Value) (hw : ∀ d ∈ tables_1, d.before a0 Z = true) {n0 : Nat} (h : Heap) (b : Addr) (kb : ClassId) (e0 : Addr) (e1 : Addr) (e2 : Addr) (v : Arv Z h b kb (.object "java/lang/Object") (3 : Int32) [(.ref e0), (.ref e1), (.ref e2)] .null) (xe0 : Exa Z h e0 "java/util/ImmutableCollections$List12") (xe1 : Exa Z h e1 "java/util/ImmutableCollections$List12") (xe2 : Exa Z h e2 "java/util/ImmutableCollections$List12") :
    Con l (⟨"java/util/ImmutableCollections", "listFromArray", "([Ljava/lang/Object;)Ljava/util/List;"⟩ : MethodName) jdk_56_method_4_code 3 (some (.object "java/util/List")) ({ frames := 5, cells := 2, slots := 5, locals := 63 } : Room) Z n0 #[(.ref b)] h (fun v h' => ∃ r : Addr, ∃ c : Addr, ∃ kc2 : ClassId, v = some (.ref r) ∧ Keep h h' [] ∧ n0 ≤ r ∧ h.size ≤ r ∧ n0 ≤ c ∧ h.size ≤ c ∧ Exa Z h' r "java/util/ImmutableCollections$ListN" ∧ Fld Z h' r "java/util/ImmutableCollections$ListN" "elements" "[Ljava/lang/Object;" (.ref c) ∧ Arv Z h' c kc2 (.object "java/lang/Object") (3 : Int32) [(.ref e0), (.ref e1), (.ref e2)] .null) := by
  refine Con.of_go (plainFor_of_name pn_11) (Ls := #[.val (.ref b), .unset, .unset]) (fun m => by first | (simp [entryFrame, mkF, argsToLocals, Value.category]; done) | rfl) ?_
  refine Go.aloadN (pc' := 1) d25_0 rfl rfl rfl ?_
  refine Go.arraylength (pc' := 2) v d25_1 rfl ?_
  refine Go.anewarray (pc' := 5) (cells' := 1) (slots' := 3) (cap := 3) (ww hw 173 rfl) (ww hw 78 rfl) d25_2 (ad := "[Ljava/lang/Object;") (by decide) (by decide) (by decide) rfl rfl (by decide) (by decide) (by decide) rfl ?_
  intro h1 b1 g1 E1 ge1 kA1 A1 X1 O1
  have sz2 : h.size ≤ b1 := Nat.le_trans (Keep.refl h []).1 (Nat.le_of_eq g1.symm)
  have K3 : Keep h h1 [] := (Keep.refl h []).ext E1
  have V1 : Arv Z h1 b1 kA1 (.object "java/lang/Object") (3 : Int32) [.null, .null, .null] .null := Arv.pad A1 (pad_rep [] .null 3)
  refine Go.astoreN (pc' := 6) (Ls' := #[.val (.ref b), .val (.ref b1), .unset]) d25_5 rfl rfl rfl ?_
  refine Go.iconst (pc' := 7) (v := (0 : Int32)) d25_6 rfl rfl ?_
  refine Go.istoreN (pc' := 8) (Ls' := #[.val (.ref b), .val (.ref b1), .val (.int (0 : Int32))]) d25_7 rfl rfl ?_
  refine Go.iloadN (pc' := 9) d25_8 rfl rfl ?_
  refine Go.aloadN (pc' := 10) d25_9 rfl rfl rfl ?_
  refine Go.arraylength (pc' := 11) (v.ext E1) d25_10 rfl ?_
  refine Go.icmpNo (pc' := 14) d25_11 (XT.ii_ge_f (by decide)) rfl ?_
  refine Go.aloadN (pc' := 15) d25_14 rfl rfl rfl ?_
  refine Go.iloadN (pc' := 16) d25_15 rfl rfl ?_
  refine Go.aloadN (pc' := 17) d25_16 rfl rfl rfl ?_
  refine Go.iloadN (pc' := 18) d25_17 rfl rfl ?_
  refine Go.aaload (pc' := 19) (v := (.ref e0)) (v.ext E1) rfl d25_18 (by decide) (by decide) rfl rfl ?_
  refine Go.callS (cells' := 1) (slots' := 3) (pc' := 22) [(.ref e0)] [(.int (0 : Int32)), (.ref b1)] (ww hw 174 rfl) (ww hw 111 rfl) (ww hw 112 rfl) (ww hw 113 rfl) (by decide) (c_rnn l Z a0 hw h1 e0) pd_2 rfl rfl rfl rfl rfl (nl rfl) (nl rfl) (nl rfl) (nl rfl) d25_19 rfl ?_
  rintro _ _ ⟨rfl, rfl⟩
  show Go _ _ _ _ _ _ _ _ _ _ _ _ 22 #[.val (.ref b), .val (.ref b1), .val (.int (0 : Int32))] [(.ref e0), (.int (0 : Int32)), (.ref b1)]
  refine Go.aastore (pc' := 23) V1 ge1 rfl rfl (own_sto V1 O1 (Ins.of_exa (xe0.ext E1) (ww hw 135 rfl))) d25_22 (by decide) (by decide) (i := 0) rfl (nl rfl) rfl ?_
  intro h5 W6 V7
  have K8 : Keep h h5 [] := K3.wr W6 (Or.inr sz2)
  replace V7 : Arv Z h5 b1 kA1 (.object "java/lang/Object") (3 : Int32) [(.ref e0), .null, .null] .null := V7
  refine Go.iinc (pc' := 26) (Ls' := #[.val (.ref b), .val (.ref b1), .val (.int ((0 : Int32) + (1 : Int32)))]) (w := (1 : Int32)) d25_23 rfl rfl rfl rfl ?_
  show Go _ _ _ _ _ _ _ _ _ _ _ _ 26 #[.val (.ref b), .val (.ref b1), .val (.int (1 : Int32))] []
  refine Go.goto (pc' := 8) d25_26 (by decide) (by decide) ?_
  refine Go.iloadN (pc' := 9) d25_8 rfl rfl ?_
  refine Go.aloadN (pc' := 10) d25_9 rfl rfl rfl ?_
  have ne9 : b ≠ b1 := (Nat.ne_of_lt (Nat.lt_of_lt_of_le v.lt (Nat.le_of_eq g1.symm)))
  refine Go.arraylength (pc' := 11) ((v.ext E1).other W6 ne9) d25_10 rfl ?_
  refine Go.icmpNo (pc' := 14) d25_11 (XT.ii_ge_f (by decide)) rfl ?_
  refine Go.aloadN (pc' := 15) d25_14 rfl rfl rfl ?_
  refine Go.iloadN (pc' := 16) d25_15 rfl rfl ?_
  refine Go.aloadN (pc' := 17) d25_16 rfl rfl rfl ?_
  refine Go.iloadN (pc' := 18) d25_17 rfl rfl ?_
  refine Go.aaload (pc' := 19) (v := (.ref e1)) ((v.ext E1).other W6 ne9) rfl d25_18 (by decide) (by decide) rfl rfl ?_
  refine Go.callS (cells' := 1) (slots' := 3) (pc' := 22) [(.ref e1)] [(.int (1 : Int32)), (.ref b1)] (ww hw 174 rfl) (ww hw 111 rfl) (ww hw 112 rfl) (ww hw 113 rfl) (by decide) (c_rnn l Z a0 hw h5 e1) pd_2 rfl rfl rfl rfl rfl (nl rfl) (nl rfl) (nl rfl) (nl rfl) d25_19 rfl ?_
  rintro _ _ ⟨rfl, rfl⟩
  show Go _ _ _ _ _ _ _ _ _ _ _ _ 22 #[.val (.ref b), .val (.ref b1), .val (.int (1 : Int32))] [(.ref e1), (.int (1 : Int32)), (.ref b1)]
  refine Go.aastore (pc' := 23) V7 ge1 rfl rfl (own_sto V7 O1 (Ins.of_exa ((xe1.ext E1).wr W6) (ww hw 135 rfl))) d25_22 (by decide) (by decide) (i := 1) rfl (nl rfl) rfl ?_
  intro h11 W12 V13
  have K14 : Keep h h11 [] := K8.wr W12 (Or.inr sz2)
  replace V13 : Arv Z h11 b1 kA1 (.object "java/lang/Object") (3 : Int32) [(.ref e0), (.ref e1), .null] .null := V13
  refine Go.iinc (pc' := 26) (Ls' := #[.val (.ref b), .val (.ref b1), .val (.int ((1 : Int32) + (1 : Int32)))]) (w := (1 : Int32)) d25_23 rfl rfl rfl rfl ?_
  show Go _ _ _ _ _ _ _ _ _ _ _ _ 26 #[.val (.ref b), .val (.ref b1), .val (.int (2 : Int32))] []
  refine Go.goto (pc' := 8) d25_26 (by decide) (by decide) ?_
  refine Go.iloadN (pc' := 9) d25_8 rfl rfl ?_
  refine Go.aloadN (pc' := 10) d25_9 rfl rfl rfl ?_
  have f15 : Arv Z h11 b kb (.object "java/lang/Object") (3 : Int32) [(.ref e0), (.ref e1), (.ref e2)] .null := (((v.ext E1).other W6 ne9).other W12 ne9)
  refine Go.arraylength (pc' := 11) f15 d25_10 rfl ?_
  refine Go.icmpNo (pc' := 14) d25_11 (XT.ii_ge_f (by decide)) rfl ?_
  refine Go.aloadN (pc' := 15) d25_14 rfl rfl rfl ?_
  refine Go.iloadN (pc' := 16) d25_15 rfl rfl ?_
  refine Go.aloadN (pc' := 17) d25_16 rfl rfl rfl ?_
  refine Go.iloadN (pc' := 18) d25_17 rfl rfl ?_
  refine Go.aaload (pc' := 19) (v := (.ref e2)) f15 rfl d25_18 (by decide) (by decide) rfl rfl ?_
  refine Go.callS (cells' := 1) (slots' := 3) (pc' := 22) [(.ref e2)] [(.int (2 : Int32)), (.ref b1)] (ww hw 174 rfl) (ww hw 111 rfl) (ww hw 112 rfl) (ww hw 113 rfl) (by decide) (c_rnn l Z a0 hw h11 e2) pd_2 rfl rfl rfl rfl rfl (nl rfl) (nl rfl) (nl rfl) (nl rfl) d25_19 rfl ?_
  rintro _ _ ⟨rfl, rfl⟩
  show Go _ _ _ _ _ _ _ _ _ _ _ _ 22 #[.val (.ref b), .val (.ref b1), .val (.int (2 : Int32))] [(.ref e2), (.int (2 : Int32)), (.ref b1)]
  refine Go.aastore (pc' := 23) V13 ge1 rfl rfl (own_sto V13 O1 (Ins.of_exa (((xe2.ext E1).wr W6).wr W12) (ww hw 135 rfl))) d25_22 (by decide) (by decide) (i := 2) rfl (nl rfl) rfl ?_
  intro h17 W18 V19
  have K20 : Keep h h17 [] := K14.wr W18 (Or.inr sz2)
  replace V19 : Arv Z h17 b1 kA1 (.object "java/lang/Object") (3 : Int32) [(.ref e0), (.ref e1), (.ref e2)] .null := V19
  refine Go.iinc (pc' := 26) (Ls' := #[.val (.ref b), .val (.ref b1), .val (.int ((2 : Int32) + (1 : Int32)))]) (w := (1 : Int32)) d25_23 rfl rfl rfl rfl ?_
  show Go _ _ _ _ _ _ _ _ _ _ _ _ 26 #[.val (.ref b), .val (.ref b1), .val (.int (3 : Int32))] []
  refine Go.goto (pc' := 8) d25_26 (by decide) (by decide) ?_
  refine Go.iloadN (pc' := 9) d25_8 rfl rfl ?_
  refine Go.aloadN (pc' := 10) d25_9 rfl rfl rfl ?_
  refine Go.arraylength (pc' := 11) (f15.other W18 ne9) d25_10 rfl ?_
  refine Go.icmpYes (pc' := 29) d25_11 (XT.ii_ge_t (by decide)) (by decide) (by decide) ?_
  refine Go.new (pc' := 32) (cells' := 2) (slots' := 5) (ww hw 45 rfl) (ww hw 175 rfl) (ww hw 69 rfl) d25_29 rfl rfl (by decide) (by decide) rfl ?_
  intro h21 b21 g21 E21 ge21 A21 D21
  have sz22 : h.size ≤ b21 := Nat.le_trans K20.1 (Nat.le_of_eq g21.symm)
  have K23 : Keep h h21 [] := K20.ext E21
  refine Go.dup (pc' := 33) d25_32 rfl rfl ?_
  refine Go.aloadN (pc' := 34) d25_33 rfl rfl rfl ?_
  refine Go.iconst (pc' := 35) (v := (0 : Int32)) d25_34 rfl rfl ?_
  refine Go.callCN (cells' := 2) (slots' := 5) (pc' := 38) [(.ref b1), (.int (0 : Int32))] [(.ref b21)] (a := b21) rfl rfl (ww hw 176 rfl) (ww hw 177 rfl) (ww hw 69 rfl) (ww hw 179 rfl) (by decide) (c_lnInit l Z a0 hw h21 b21 b1 ge21 A21 ((D21 (Or.inr (ww hw 72 rfl)) (ty := (.array (.object "java/lang/Object"))) (by decide) : Fld Z h21 b21 "java/util/ImmutableCollections$ListN" "elements" "[Ljava/lang/Object;" .null)) ((D21 (Or.inr (ww hw 185 rfl)) (ty := .boolean) (by decide) : Fld Z h21 b21 "java/util/ImmutableCollections$ListN" "allowNulls" "Z" (.int (0 : Int32))))) pd_13 rfl rfl rfl rfl rfl (nl rfl) (nl rfl) (nl rfl) (nl rfl) d25_35 rfl ?_
  rintro _ h24 ⟨rfl, K24, F24_0, F24_1⟩
  have K25 : Keep h h24 [] := K23.trans K24 (allS (Or.inr sz22) all0)
  show Go _ _ _ _ _ _ _ _ _ _ _ _ 38 #[.val (.ref b), .val (.ref b1), .val (.int (3 : Int32))] [(.ref b21)]
  have ne26 : b1 ≠ b21 := (Nat.ne_of_lt (Nat.lt_of_lt_of_le (((X1.wr W6).wr W12).wr W18).lt (Nat.le_of_eq g21.symm)))
  have f27 : Arv Z h24 b1 kA1 (.object "java/lang/Object") (3 : Int32) [(.ref e0), (.ref e1), (.ref e2)] .null := ((V19.ext E21).keep K24 (ninS ne26 nin0))
  exact Go.retR rfl rfl rfl rfl d25_38 ⟨b21, b1, kA1, rfl, K25, ge21, sz22, ge1, sz2, (A21.keep K24), F24_0, f27⟩ (by decide) (by decide)
theorem d24_59 : decode jdk_40_method_47_code 59 = .ok (.aload_n 0, 1) := by decide +kernel
theorem d24_60 : decode jdk_40_method_47_code 60 = .ok (.invokestatic 109, 3) := by decide +kernel
theorem d24_63 : decode jdk_40_method_47_code 63 = .ok (.areturn, 1) := by decide +kernel
set_option maxRecDepth 65536 in
set_option maxHeartbeats 4000000 in
theorem c_ofA3 (l : Launch) (Z : State) (a0 : Array Value) (hw : ∀ d ∈ tables_1, d.before a0 Z = true) {n0 : Nat} (h : Heap) (b : Addr) (kb : ClassId) (e0 : Addr) (e1 : Addr) (e2 : Addr) (v : Arv Z h b kb (.object "java/lang/Object") (3 : Int32) [(.ref e0), (.ref e1), (.ref e2)] .null) (xe0 : Exa Z h e0 "java/util/ImmutableCollections$List12") (xe1 : Exa Z h e1 "java/util/ImmutableCollections$List12") (xe2 : Exa Z h e2 "java/util/ImmutableCollections$List12") :
    Con l (⟨"java/util/List", "of", "([Ljava/lang/Object;)Ljava/util/List;"⟩ : MethodName) jdk_40_method_47_code 2 (some (.object "java/util/List")) ({ frames := 6, cells := 2, slots := 5, locals := 77 } : Room) Z n0 #[(.ref b)] h (fun v h' => ∃ r : Addr, ∃ c : Addr, ∃ kc2 : ClassId, v = some (.ref r) ∧ Keep h h' [] ∧ n0 ≤ r ∧ h.size ≤ r ∧ n0 ≤ c ∧ h.size ≤ c ∧ Exa Z h' r "java/util/ImmutableCollections$ListN" ∧ Fld Z h' r "java/util/ImmutableCollections$ListN" "elements" "[Ljava/lang/Object;" (.ref c) ∧ Arv Z h' c kc2 (.object "java/lang/Object") (3 : Int32) [(.ref e0), (.ref e1), (.ref e2)] .null) := by
  refine Con.of_go (plainFor_of_name pn_10) (Ls := #[.val (.ref b), .unset]) (fun m => by first | (simp [entryFrame, mkF, argsToLocals, Value.category]; done) | rfl) ?_
  refine Go.aloadN (pc' := 1) d24_0 rfl rfl rfl ?_
  refine Go.arraylength (pc' := 2) v d24_1 rfl ?_
  refine Go.tswOut (pc' := 59) d24_2 (by decide) (by decide) (by decide) ?_
  refine Go.aloadN (pc' := 60) d24_59 rfl rfl rfl ?_
  refine Go.callS (cells' := 2) (slots' := 5) (pc' := 63) [(.ref b)] [] (ww hw 170 rfl) (ww hw 171 rfl) (ww hw 38 rfl) (ww hw 172 rfl) (by decide) (c_lfa3 l Z a0 hw h b kb e0 e1 e2 v xe0 xe1 xe2) pd_11 rfl rfl rfl rfl rfl (nl rfl) (nl rfl) (nl rfl) (nl rfl) d24_60 rfl ?_
  rintro _ h1 ⟨r_1, c_1, kc2_1, rfl, K1, ge_r_1, sz_r_1, ge_c_1, sz_c_1, F1_0, F1_1, F1_2⟩
  have sz2 : h.size ≤ r_1 := Nat.le_trans (Keep.refl h []).1 sz_r_1
  have sz3 : h.size ≤ c_1 := Nat.le_trans (Keep.refl h []).1 sz_c_1
  have K4 : Keep h h1 [] := (Keep.refl h []).trans K1 all0
  show Go _ _ _ _ _ _ _ _ _ _ _ _ 63 #[.val (.ref b), .unset] [(.ref r_1)]
  exact Go.retR rfl rfl rfl rfl d24_63 ⟨r_1, c_1, kc2_1, rfl, K4, ge_r_1, sz2, ge_c_1, sz3, F1_0, F1_1, F1_2⟩ (by decide) (by decide)
set_option maxRecDepth 65536 in
set_option maxHeartbeats 4000000 in
theorem c_listCopy3 (l : Launch) (Z : State) (a0 : Array Value) (hw : ∀ d ∈ tables_1, d.before a0 Z = true) {n0 : Nat} (h : Heap) (a : Addr) (b : Addr) (kb : ClassId) (e0 : Addr) (e1 : Addr) (e2 : Addr) (mO : Addr) (mo : Mi Z "[Ljava/lang/Object;" mO) (xa : Exa Z h a "java/util/ArrayList") (pf0 : Fld Z h a "java/util/ArrayList" "elementData" "[Ljava/lang/Object;" (.ref b)) (pf1 : Fld Z h a "java/util/ArrayList" "size" "I" (.int (3 : Int32))) (v : Arv Z h b kb (.object "java/lang/Object") (3 : Int32) [(.ref e0), (.ref e1), (.ref e2)] .null) (xb : Exa Z h b "[Ljava/lang/Object;") (xe0 : Exa Z h e0 "java/util/ImmutableCollections$List12") (xe1 : Exa Z h e1 "java/util/ImmutableCollections$List12") (xe2 : Exa Z h e2 "java/util/ImmutableCollections$List12") :
    Con l (⟨"java/util/ImmutableCollections", "listCopy", "(Ljava/util/Collection;)Ljava/util/List;"⟩ : MethodName) jdk_56_method_3_code 2 (some (.object "java/util/List")) ({ frames := 7, cells := 3, slots := 8, locals := 90 } : Room) Z n0 #[(.ref a)] h (fun v h' => ∃ r : Addr, ∃ c : Addr, ∃ kc2 : ClassId, v = some (.ref r) ∧ Keep h h' [] ∧ n0 ≤ r ∧ h.size ≤ r ∧ n0 ≤ c ∧ h.size ≤ c ∧ Exa Z h' r "java/util/ImmutableCollections$ListN" ∧ Fld Z h' r "java/util/ImmutableCollections$ListN" "elements" "[Ljava/lang/Object;" (.ref c) ∧ Arv Z h' c kc2 (.object "java/lang/Object") (3 : Int32) [(.ref e0), (.ref e1), (.ref e2)] .null) := by
  refine Con.of_go (plainFor_of_name pn_11) (Ls := #[.val (.ref a), .unset]) (fun m => by first | (simp [entryFrame, mkF, argsToLocals, Value.category]; done) | rfl) ?_
  refine Go.aloadN (pc' := 1) d7_0 rfl rfl rfl ?_
  refine Go.instNo (pc' := 4) (ww hw 40 rfl) xa (own_nno (ww hw 41 rfl) (ww hw 90 rfl) (NS.step (ww hw 41 rfl) (NS.step (ww hw 42 rfl) (NS.step (ww hw 43 rfl) (own_nroot (ww hw 44 rfl) (ww hw 90 rfl) (by decide)) (by decide)) (by decide)) (by decide)) (by decide)) d7_1 rfl ?_
  refine Go.ifNo (pc' := 7) d7_4 (XT.i0_ne_f (by decide)) rfl ?_
  refine Go.aloadN (pc' := 8) d7_7 rfl rfl rfl ?_
  refine Go.instNo (pc' := 11) (ww hw 45 rfl) xa (own_nno (ww hw 41 rfl) (ww hw 175 rfl) (NS.step (ww hw 41 rfl) (NS.step (ww hw 42 rfl) (NS.step (ww hw 43 rfl) (own_nroot (ww hw 44 rfl) (ww hw 175 rfl) (by decide)) (by decide)) (by decide)) (by decide)) (by decide)) d7_8 rfl ?_
  refine Go.ifYes (pc' := 31) d7_11 (XT.i0_eq_t (by decide)) (by decide) (by decide) ?_
  refine Go.aloadN (pc' := 32) d7_31 rfl rfl rfl ?_
  refine Go.callI (cells' := 0) (slots' := 0) (pc' := 37) [] [] xa (ww hw 46 rfl) (ww hw 47 rfl) (ww hw 48 rfl) (ww hw 49 rfl) (ww hw 50 rfl) (ww hw 51 rfl) (ww hw 52 rfl) (ww hw 53 rfl) (ww hw 8 rfl) (ww hw 54 rfl) (by decide) (c_alEmptyN l Z a0 hw h a (3 : Int32) (by decide) pf1) pd_4 rfl rfl rfl rfl rfl (nl rfl) (nl rfl) (nl rfl) (nl rfl) d7_32 rfl ?_
  rintro _ _ ⟨rfl, rfl⟩
  show Go _ _ _ _ _ _ _ _ _ _ _ _ 37 #[.val (.ref a), .unset] [(.int (0 : Int32))]
  refine Go.ifYes (pc' := 44) d7_37 (XT.i0_eq_t (by decide)) (by decide) (by decide) ?_
  refine Go.aloadN (pc' := 45) d7_44 rfl rfl rfl ?_
  refine Go.callI (cells' := 1) (slots' := 3) (pc' := 50) [] [] xa (ww hw 136 rfl) (ww hw 137 rfl) (ww hw 138 rfl) (ww hw 139 rfl) (ww hw 140 rfl) (ww hw 141 rfl) (ww hw 142 rfl) (ww hw 53 rfl) (ww hw 8 rfl) (ww hw 143 rfl) (by decide) (c_toArray3 l Z a0 hw h a b kb e0 e1 e2 mO mo pf0 pf1 v xb xe0 xe1 xe2) pd_10 rfl rfl rfl rfl rfl (nl rfl) (nl rfl) (nl rfl) (nl rfl) d7_45 rfl ?_
  rintro _ h2 ⟨r_2, kr_2, rfl, K2, ge_r_2, sz_r_2, F2_0, F2_1, F2_2⟩
  have sz3 : h.size ≤ r_2 := Nat.le_trans (Keep.refl h []).1 sz_r_2
  have K4 : Keep h h2 [] := (Keep.refl h []).trans K2 all0
  show Go _ _ _ _ _ _ _ _ _ _ _ _ 50 #[.val (.ref a), .unset] [(.ref r_2)]
  refine Go.callS (cells' := 3) (slots' := 8) (pc' := 53) [(.ref r_2)] [] (ww hw 167 rfl) (ww hw 168 rfl) (ww hw 34 rfl) (ww hw 169 rfl) (by decide) (c_ofA3 l Z a0 hw h2 r_2 kr_2 e0 e1 e2 F2_0 (xe0.keep K2) (xe1.keep K2) (xe2.keep K2)) pd_11 rfl rfl rfl rfl rfl (nl rfl) (nl rfl) (nl rfl) (nl rfl) d7_50 rfl ?_
  rintro _ h5 ⟨r_5, c_5, kc2_5, rfl, K5, ge_r_5, sz_r_5, ge_c_5, sz_c_5, F5_0, F5_1, F5_2⟩
  have sz6 : h.size ≤ r_5 := Nat.le_trans K4.1 sz_r_5
  have sz7 : h.size ≤ c_5 := Nat.le_trans K4.1 sz_c_5
  have K8 : Keep h h5 [] := K4.trans K5 all0
  show Go _ _ _ _ _ _ _ _ _ _ _ _ 53 #[.val (.ref a), .unset] [(.ref r_5)]
  exact Go.retR rfl rfl rfl rfl d7_53 ⟨r_5, c_5, kc2_5, rfl, K8, ge_r_5, sz6, ge_c_5, sz7, F5_0, F5_1, F5_2⟩ (by decide) (by decide)
set_option maxRecDepth 65536 in
set_option maxHeartbeats 4000000 in
theorem c_copy3 (l : Launch) (Z : State) (a0 : Array Value) (hw : ∀ d ∈ tables_1, d.before a0 Z = true) {n0 : Nat} (h : Heap) (a : Addr) (b : Addr) (kb : ClassId) (e0 : Addr) (e1 : Addr) (e2 : Addr) (mO : Addr) (mo : Mi Z "[Ljava/lang/Object;" mO) (xa : Exa Z h a "java/util/ArrayList") (pf0 : Fld Z h a "java/util/ArrayList" "elementData" "[Ljava/lang/Object;" (.ref b)) (pf1 : Fld Z h a "java/util/ArrayList" "size" "I" (.int (3 : Int32))) (v : Arv Z h b kb (.object "java/lang/Object") (3 : Int32) [(.ref e0), (.ref e1), (.ref e2)] .null) (xb : Exa Z h b "[Ljava/lang/Object;") (xe0 : Exa Z h e0 "java/util/ImmutableCollections$List12") (xe1 : Exa Z h e1 "java/util/ImmutableCollections$List12") (xe2 : Exa Z h e2 "java/util/ImmutableCollections$List12") :
    Con l (⟨"java/util/List", "copyOf", "(Ljava/util/Collection;)Ljava/util/List;"⟩ : MethodName) jdk_40_method_48_code 1 (some (.object "java/util/List")) ({ frames := 8, cells := 3, slots := 8, locals := 103 } : Room) Z n0 #[(.ref a)] h (fun v h' => ∃ r : Addr, ∃ c : Addr, ∃ kc2 : ClassId, v = some (.ref r) ∧ Keep h h' [] ∧ n0 ≤ r ∧ h.size ≤ r ∧ n0 ≤ c ∧ h.size ≤ c ∧ Exa Z h' r "java/util/ImmutableCollections$ListN" ∧ Fld Z h' r "java/util/ImmutableCollections$ListN" "elements" "[Ljava/lang/Object;" (.ref c) ∧ Arv Z h' c kc2 (.object "java/lang/Object") (3 : Int32) [(.ref e0), (.ref e1), (.ref e2)] .null) := by
  refine Con.of_go (plainFor_of_name pn_10) (Ls := #[.val (.ref a)]) (fun m => by first | (simp [entryFrame, mkF, argsToLocals, Value.category]; done) | rfl) ?_
  refine Go.aloadN (pc' := 1) d6_0 rfl rfl rfl ?_
  refine Go.callS (cells' := 3) (slots' := 8) (pc' := 4) [(.ref a)] [] (ww hw 36 rfl) (ww hw 37 rfl) (ww hw 38 rfl) (ww hw 39 rfl) (by decide) (c_listCopy3 l Z a0 hw h a b kb e0 e1 e2 mO mo xa pf0 pf1 v xb xe0 xe1 xe2) pd_6 rfl rfl rfl rfl rfl (nl rfl) (nl rfl) (nl rfl) (nl rfl) d6_1 rfl ?_
  rintro _ h1 ⟨r_1, c_1, kc2_1, rfl, K1, ge_r_1, sz_r_1, ge_c_1, sz_c_1, F1_0, F1_1, F1_2⟩
  have sz2 : h.size ≤ r_1 := Nat.le_trans (Keep.refl h []).1 sz_r_1
  have sz3 : h.size ≤ c_1 := Nat.le_trans (Keep.refl h []).1 sz_c_1
  have K4 : Keep h h1 [] := (Keep.refl h []).trans K1 all0
  show Go _ _ _ _ _ _ _ _ _ _ _ _ 4 #[.val (.ref a)] [(.ref r_1)]
  exact Go.retR rfl rfl rfl rfl d6_4 ⟨r_1, c_1, kc2_1, rfl, K4, ge_r_1, sz2, ge_c_1, sz3, F1_0, F1_1, F1_2⟩ (by decide) (by decide)
set_option maxRecDepth 65536 in
set_option maxHeartbeats 4000000 in
theorem c_min4 (l : Launch) (Z : State) (a0 : Array Value) (hw : ∀ d ∈ tables_1, d.before a0 Z = true) {n0 : Nat} (h : Heap) :
    Con l (⟨"java/lang/Math", "min", "(II)I"⟩ : MethodName) jdk_29_method_69_code 2 (some .int) ({ frames := 0, cells := 0, slots := 0, locals := 0 } : Room) Z n0 #[(.int (4 : Int32)), (.int (4 : Int32))] h (fun v h' => v = some (.int (4 : Int32)) ∧ h = h') := by
  refine Con.of_go (Jvm.Free.JP.mathPlain rfl (by decide +kernel)) (Ls := #[.val (.int (4 : Int32)), .val (.int (4 : Int32))]) (fun m => by first | (simp [entryFrame, mkF, argsToLocals, Value.category]; done) | rfl) ?_
  refine Go.iloadN (pc' := 1) d23_0 rfl rfl ?_
  refine Go.iloadN (pc' := 2) d23_1 rfl rfl ?_
  refine Go.icmpNo (pc' := 5) d23_2 (XT.ii_gt_f (by decide)) rfl ?_
  refine Go.iloadN (pc' := 6) d23_5 rfl rfl ?_
  refine Go.goto (pc' := 10) d23_6 (by decide) (by decide) ?_
  exact Go.retI rfl d23_10 ⟨rfl, rfl⟩ (by decide) (by decide)
set_option maxRecDepth 65536 in
set_option maxHeartbeats 4000000 in
theorem c_copyOfC4 (l : Launch) (Z : State) (a0 : Array Value) (hw : ∀ d ∈ tables_1, d.before a0 Z = true) {n0 : Nat} (h : Heap) (b : Addr) (kb : ClassId) (e0 : Addr) (e1 : Addr) (e2 : Addr) (e3 : Addr) (mO : Addr) (mo : Mi Z "[Ljava/lang/Object;" mO) (v : Arv Z h b kb (.object "java/lang/Object") (4 : Int32) [(.ref e0), (.ref e1), (.ref e2), (.ref e3)] .null) (xb : Exa Z h b "[Ljava/lang/Object;") (xe0 : Exa Z h e0 "java/util/ImmutableCollections$List12") (xe1 : Exa Z h e1 "java/util/ImmutableCollections$List12") (xe2 : Exa Z h e2 "java/util/ImmutableCollections$List12") (xe3 : Exa Z h e3 "java/util/ImmutableCollections$List12") :
    Con l (⟨"java/util/Arrays", "copyOf", "([Ljava/lang/Object;ILjava/lang/Class;)[Ljava/lang/Object;"⟩ : MethodName) jdk_65_method_120_code 4 (some (.array (.object "java/lang/Object"))) ({ frames := 1, cells := 1, slots := 4, locals := 18 } : Room) Z n0 #[(.ref b), (.int (4 : Int32)), (.ref mO)] h (fun v h' => ∃ r : Addr, ∃ kr : ClassId, v = some (.ref r) ∧ Keep h h' [] ∧ n0 ≤ r ∧ h.size ≤ r ∧ Arv Z h' r kr (.object "java/lang/Object") (4 : Int32) [(.ref e0), (.ref e1), (.ref e2), (.ref e3)] .null ∧ Exa Z h' r "[Ljava/lang/Object;" ∧ Ovr Z kr "java/lang/Object") := by
  refine Con.of_go (plainFor_of_name pn_12) (Ls := #[.val (.ref b), .val (.int (4 : Int32)), .val (.ref mO), .unset]) (fun m => by first | (simp [entryFrame, mkF, argsToLocals, Value.category]; done) | rfl) ?_
  refine Go.aloadN (pc' := 1) d22_0 rfl rfl rfl ?_
  refine Go.ldcMirror (pc' := 3) (ww hw 157 rfl) mo d22_1 rfl ?_
  refine Go.acmpNo (pc' := 6) d22_3 rfl rfl (XT.aa_ne_f rfl) rfl ?_
  refine Go.iloadN (pc' := 7) d22_6 rfl rfl ?_
  refine Go.anewarray (pc' := 10) (cells' := 1) (slots' := 4) (cap := 4) (ww hw 158 rfl) (ww hw 78 rfl) d22_7 (ad := "[Ljava/lang/Object;") (by decide) (by decide) (by decide) rfl rfl (by decide) (by decide) (by decide) rfl ?_
  intro h1 b1 g1 E1 ge1 kA1 A1 X1 O1
  have sz2 : h.size ≤ b1 := Nat.le_trans (Keep.refl h []).1 (Nat.le_of_eq g1.symm)
  have K3 : Keep h h1 [] := (Keep.refl h []).ext E1
  have V1 : Arv Z h1 b1 kA1 (.object "java/lang/Object") (4 : Int32) [.null, .null, .null, .null] .null := Arv.pad A1 (pad_rep [] .null 4)
  refine Go.goto (pc' := 24) d22_10 (by decide) (by decide) ?_
  refine Go.astoreN (pc' := 25) (Ls' := #[.val (.ref b), .val (.int (4 : Int32)), .val (.ref mO), .val (.ref b1)]) d22_24 rfl rfl rfl ?_
  refine Go.aloadN (pc' := 26) d22_25 rfl rfl rfl ?_
  refine Go.iconst (pc' := 27) (v := (0 : Int32)) d22_26 rfl rfl ?_
  refine Go.aloadN (pc' := 28) d22_27 rfl rfl rfl ?_
  refine Go.iconst (pc' := 29) (v := (0 : Int32)) d22_28 rfl rfl ?_
  refine Go.aloadN (pc' := 30) d22_29 rfl rfl rfl ?_
  refine Go.arraylength (pc' := 31) (v.ext E1) d22_30 rfl ?_
  refine Go.iloadN (pc' := 32) d22_31 rfl rfl ?_
  refine Go.callS (cells' := 1) (slots' := 4) (pc' := 35) [(.int (4 : Int32)), (.int (4 : Int32))] [(.int (0 : Int32)), (.ref b1), (.int (0 : Int32)), (.ref b)] (ww hw 159 rfl) (ww hw 160 rfl) (ww hw 161 rfl) (ww hw 162 rfl) (by decide) (c_min4 l Z a0 hw h1) pd_7 rfl rfl rfl rfl rfl (nl rfl) (nl rfl) (nl rfl) (nl rfl) d22_32 rfl ?_
  rintro _ _ ⟨rfl, rfl⟩
  show Go _ _ _ _ _ _ _ _ _ _ _ _ 35 #[.val (.ref b), .val (.int (4 : Int32)), .val (.ref mO), .val (.ref b1)] [(.int (4 : Int32)), (.int (0 : Int32)), (.ref b1), (.int (0 : Int32)), (.ref b)]
  refine Go.arraycopy (pc' := 38) (us := [(.ref e0), (.ref e1), (.ref e2), (.ref e3)]) (vd' := [(.ref e0), (.ref e1), (.ref e2), (.ref e3)]) (ww hw 163 rfl) (ww hw 166 rfl) (ww hw 164 rfl) (ww hw 165 rfl) (v.ext E1) V1 (Or.inr ⟨rfl, rfl, ⟨(own_sto V1 O1 (Ins.of_exa (xe0.ext E1) (ww hw 135 rfl))), ⟨(own_sto V1 O1 (Ins.of_exa (xe1.ext E1) (ww hw 135 rfl))), ⟨(own_sto V1 O1 (Ins.of_exa (xe2.ext E1) (ww hw 135 rfl))), ⟨(own_sto V1 O1 (Ins.of_exa (xe3.ext E1) (ww hw 135 rfl))), trivial⟩⟩⟩⟩⟩) (by decide) (by decide) (by decide) (by decide) (by decide) rfl (nl rfl) rfl ge1 d22_35 rfl (nl rfl) (nl rfl) rfl ?_
  intro h5 K6 V7
  have K8 : Keep h h5 [] := K3.trans K6 (allS (Or.inr sz2) all0)
  refine Go.aloadN (pc' := 39) d22_38 rfl rfl rfl ?_
  exact Go.retR rfl rfl rfl rfl d22_39 ⟨b1, kA1, rfl, K8, ge1, sz2, V7, (X1.keep K6), O1⟩ (by decide) (by decide)
set_option maxRecDepth 65536 in
set_option maxHeartbeats 4000000 in
theorem c_copyOf4 (l : Launch) (Z : State) (a0 : Array Value) (hw : ∀ d ∈ tables_1, d.before a0 Z = true) {n0 : Nat} (h : Heap) (b : Addr) (kb : ClassId) (e0 : Addr) (e1 : Addr) (e2 : Addr) (e3 : Addr) (mO : Addr) (mo : Mi Z "[Ljava/lang/Object;" mO) (v : Arv Z h b kb (.object "java/lang/Object") (4 : Int32) [(.ref e0), (.ref e1), (.ref e2), (.ref e3)] .null) (xb : Exa Z h b "[Ljava/lang/Object;") (xe0 : Exa Z h e0 "java/util/ImmutableCollections$List12") (xe1 : Exa Z h e1 "java/util/ImmutableCollections$List12") (xe2 : Exa Z h e2 "java/util/ImmutableCollections$List12") (xe3 : Exa Z h e3 "java/util/ImmutableCollections$List12") :
    Con l (⟨"java/util/Arrays", "copyOf", "([Ljava/lang/Object;I)[Ljava/lang/Object;"⟩ : MethodName) jdk_65_method_119_code 2 (some (.array (.object "java/lang/Object"))) ({ frames := 2, cells := 1, slots := 4, locals := 33 } : Room) Z n0 #[(.ref b), (.int (4 : Int32))] h (fun v h' => ∃ r : Addr, ∃ kr : ClassId, v = some (.ref r) ∧ Keep h h' [] ∧ n0 ≤ r ∧ h.size ≤ r ∧ Arv Z h' r kr (.object "java/lang/Object") (4 : Int32) [(.ref e0), (.ref e1), (.ref e2), (.ref e3)] .null ∧ Exa Z h' r "[Ljava/lang/Object;" ∧ Ovr Z kr "java/lang/Object") := by
  refine Con.of_go (plainFor_of_name pn_12) (Ls := #[.val (.ref b), .val (.int (4 : Int32))]) (fun m => by first | (simp [entryFrame, mkF, argsToLocals, Value.category]; done) | rfl) ?_
  refine Go.aloadN (pc' := 1) d21_0 rfl rfl rfl ?_
  refine Go.iloadN (pc' := 2) d21_1 rfl rfl ?_
  refine Go.aloadN (pc' := 3) d21_2 rfl rfl rfl ?_
  refine Go.getClass (pc' := 6) (ww hw 148 rfl) (ww hw 149 rfl) (ww hw 44 rfl) (ww hw 151 rfl) (ww hw 150 rfl) (ww hw 152 rfl) xb mo d21_3 rfl (nl rfl) (nl rfl) rfl ?_
  refine Go.callS (cells' := 1) (slots' := 4) (pc' := 9) [(.ref b), (.int (4 : Int32)), (.ref mO)] [] (ww hw 154 rfl) (ww hw 155 rfl) (ww hw 146 rfl) (ww hw 156 rfl) (by decide) (c_copyOfC4 l Z a0 hw h b kb e0 e1 e2 e3 mO mo v xb xe0 xe1 xe2 xe3) pd_8 rfl rfl rfl rfl rfl (nl rfl) (nl rfl) (nl rfl) (nl rfl) d21_6 rfl ?_
  rintro _ h1 ⟨r_1, kr_1, rfl, K1, ge_r_1, sz_r_1, F1_0, F1_1, F1_2⟩
  have sz2 : h.size ≤ r_1 := Nat.le_trans (Keep.refl h []).1 sz_r_1
  have K3 : Keep h h1 [] := (Keep.refl h []).trans K1 all0
  show Go _ _ _ _ _ _ _ _ _ _ _ _ 9 #[.val (.ref b), .val (.int (4 : Int32))] [(.ref r_1)]
  exact Go.retR rfl rfl rfl rfl d21_9 ⟨r_1, kr_1, rfl, K3, ge_r_1, sz2, F1_0, F1_1, F1_2⟩ (by decide) (by decide)
set_option maxRecDepth 65536 in
set_option maxHeartbeats 4000000 in
theorem c_toArray4 (l : Launch) (Z : State) (a0 : Array Value) (hw : ∀ d ∈ tables_1, d.before a0 Z = true) {n0 : Nat} (h : Heap) (a : Addr) (b : Addr) (kb : ClassId) (e0 : Addr) (e1 : Addr) (e2 : Addr) (e3 : Addr) (mO : Addr) (mo : Mi Z "[Ljava/lang/Object;" mO) (pf0 : Fld Z h a "java/util/ArrayList" "elementData" "[Ljava/lang/Object;" (.ref b)) (pf1 : Fld Z h a "java/util/ArrayList" "size" "I" (.int (4 : Int32))) (v : Arv Z h b kb (.object "java/lang/Object") (4 : Int32) [(.ref e0), (.ref e1), (.ref e2), (.ref e3)] .null) (xb : Exa Z h b "[Ljava/lang/Object;") (xe0 : Exa Z h e0 "java/util/ImmutableCollections$List12") (xe1 : Exa Z h e1 "java/util/ImmutableCollections$List12") (xe2 : Exa Z h e2 "java/util/ImmutableCollections$List12") (xe3 : Exa Z h e3 "java/util/ImmutableCollections$List12") :
    Con l (⟨"java/util/ArrayList", "toArray", "()[Ljava/lang/Object;"⟩ : MethodName) jdk_38_method_16_code 1 (some (.array (.object "java/lang/Object"))) ({ frames := 3, cells := 1, slots := 4, locals := 46 } : Room) Z n0 #[(.ref a)] h (fun v h' => ∃ r : Addr, ∃ kr : ClassId, v = some (.ref r) ∧ Keep h h' [] ∧ n0 ≤ r ∧ h.size ≤ r ∧ Arv Z h' r kr (.object "java/lang/Object") (4 : Int32) [(.ref e0), (.ref e1), (.ref e2), (.ref e3)] .null ∧ Exa Z h' r "[Ljava/lang/Object;" ∧ Ovr Z kr "java/lang/Object") := by
  refine Con.of_go (plainFor_of_name pn_4) (Ls := #[.val (.ref a)]) (fun m => by first | (simp [entryFrame, mkF, argsToLocals, Value.category]; done) | rfl) ?_
  refine Go.aloadN (pc' := 1) d20_0 rfl rfl rfl ?_
  refine Go.getfield (pc' := 4) (host := "") (Or.inl (ww hw 30 rfl)) Via.refl pf0 d20_1 rfl ?_
  refine Go.aloadN (pc' := 5) d20_4 rfl rfl rfl ?_
  refine Go.getfield (pc' := 8) (host := "") (Or.inl (ww hw 55 rfl)) Via.refl pf1 d20_5 rfl ?_
  refine Go.callS (cells' := 1) (slots' := 4) (pc' := 11) [(.ref b), (.int (4 : Int32))] [] (ww hw 144 rfl) (ww hw 145 rfl) (ww hw 146 rfl) (ww hw 147 rfl) (by decide) (c_copyOf4 l Z a0 hw h b kb e0 e1 e2 e3 mO mo v xb xe0 xe1 xe2 xe3) pd_9 rfl rfl rfl rfl rfl (nl rfl) (nl rfl) (nl rfl) (nl rfl) d20_8 rfl ?_
  rintro _ h1 ⟨r_1, kr_1, rfl, K1, ge_r_1, sz_r_1, F1_0, F1_1, F1_2⟩
  have sz2 : h.size ≤ r_1 := Nat.le_trans (Keep.refl h []).1 sz_r_1
  have K3 : Keep h h1 [] := (Keep.refl h []).trans K1 all0
  show Go _ _ _ _ _ _ _ _ _ _ _ _ 11 #[.val (.ref a)] [(.ref r_1)]
  exact Go.retR rfl rfl rfl rfl d20_11 ⟨r_1, kr_1, rfl, K3, ge_r_1, sz2, F1_0, F1_1, F1_2⟩ (by decide) (by decide)
set_option maxRecDepth 65536 in
set_option maxHeartbeats 4000000 in
theorem c_lfa4 (l : Launch) (Z : State) (a0 : Array Value) (hw : ∀ d ∈ tables_1, d.before a0 Z = true) {n0 : Nat} (h : Heap) (b : Addr) (kb : ClassId) (e0 : Addr) (e1 : Addr) (e2 : Addr) (e3 : Addr) (v : Arv Z h b kb (.object "java/lang/Object") (4 : Int32) [(.ref e0), (.ref e1), (.ref e2), (.ref e3)] .null) (xe0 : Exa Z h e0 "java/util/ImmutableCollections$List12") (xe1 : Exa Z h e1 "java/util/ImmutableCollections$List12") (xe2 : Exa Z h e2 "java/util/ImmutableCollections$List12") (xe3 : Exa Z h e3 "java/util/ImmutableCollections$List12") :
    Con l (⟨"java/util/ImmutableCollections", "listFromArray", "([Ljava/lang/Object;)Ljava/util/List;"⟩ : MethodName) jdk_56_method_4_code 3 (some (.object "java/util/List")) ({ frames := 5, cells := 2, slots := 6, locals := 63 } : Room) Z n0 #[(.ref b)] h (fun v h' => ∃ r : Addr, ∃ c : Addr, ∃ kc2 : ClassId, v = some (.ref r) ∧ Keep h h' [] ∧ n0 ≤ r ∧ h.size ≤ r ∧ n0 ≤ c ∧ h.size ≤ c ∧ Exa Z h' r "java/util/ImmutableCollections$ListN" ∧ Fld Z h' r "java/util/ImmutableCollections$ListN" "elements" "[Ljava/lang/Object;" (.ref c) ∧ Arv Z h' c kc2 (.object "java/lang/Object") (4 : Int32) [(.ref e0), (.ref e1), (.ref e2), (.ref e3)] .null) := by
  refine Con.of_go (plainFor_of_name pn_11) (Ls := #[.val (.ref b), .unset, .unset]) (fun m => by first | (simp [entryFrame, mkF, argsToLocals, Value.category]; done) | rfl) ?_
  refine Go.aloadN (pc' := 1) d25_0 rfl rfl rfl ?_
  refine Go.arraylength (pc' := 2) v d25_1 rfl ?_
  refine Go.anewarray (pc' := 5) (cells' := 1) (slots' := 4) (cap := 4) (ww hw 173 rfl) (ww hw 78 rfl) d25_2 (ad := "[Ljava/lang/Object;") (by decide) (by decide) (by decide) rfl rfl (by decide) (by decide) (by decide) rfl ?_
  intro h1 b1 g1 E1 ge1 kA1 A1 X1 O1
  have sz2 : h.size ≤ b1 := Nat.le_trans (Keep.refl h []).1 (Nat.le_of_eq g1.symm)
  have K3 : Keep h h1 [] := (Keep.refl h []).ext E1
  have V1 : Arv Z h1 b1 kA1 (.object "java/lang/Object") (4 : Int32) [.null, .null, .null, .null] .null := Arv.pad A1 (pad_rep [] .null 4)
  refine Go.astoreN (pc' := 6) (Ls' := #[.val (.ref b), .val (.ref b1), .unset]) d25_5 rfl rfl rfl ?_
  refine Go.iconst (pc' := 7) (v := (0 : Int32)) d25_6 rfl rfl ?_
  refine Go.istoreN (pc' := 8) (Ls' := #[.val (.ref b), .val (.ref b1), .val (.int (0 : Int32))]) d25_7 rfl rfl ?_
  refine Go.iloadN (pc' := 9) d25_8 rfl rfl ?_
  refine Go.aloadN (pc' := 10) d25_9 rfl rfl rfl ?_
  refine Go.arraylength (pc' := 11) (v.ext E1) d25_10 rfl ?_
  refine Go.icmpNo (pc' := 14) d25_11 (XT.ii_ge_f (by decide)) rfl ?_
  refine Go.aloadN (pc' := 15) d25_14 rfl rfl rfl ?_
  refine Go.iloadN (pc' := 16) d25_15 rfl rfl ?_
  refine Go.aloadN (pc' := 17) d25_16 rfl rfl rfl ?_
  refine Go.iloadN (pc' := 18) d25_17 rfl rfl ?_
  refine Go.aaload (pc' := 19) (v := (.ref e0)) (v.ext E1) rfl d25_18 (by decide) (by decide) rfl rfl ?_
  refine Go.callS (cells' := 1) (slots' := 4) (pc' := 22) [(.ref e0)] [(.int (0 : Int32)), (.ref b1)] (ww hw 174 rfl) (ww hw 111 rfl) (ww hw 112 rfl) (ww hw 113 rfl) (by decide) (c_rnn l Z a0 hw h1 e0) pd_2 rfl rfl rfl rfl rfl (nl rfl) (nl rfl) (nl rfl) (nl rfl) d25_19 rfl ?_
  rintro _ _ ⟨rfl, rfl⟩
  show Go _ _ _ _ _ _ _ _ _ _ _ _ 22 #[.val (.ref b), .val (.ref b1), .val (.int (0 : Int32))] [(.ref e0), (.int (0 : Int32)), (.ref b1)]
  refine Go.aastore (pc' := 23) V1 ge1 rfl rfl (own_sto V1 O1 (Ins.of_exa (xe0.ext E1) (ww hw 135 rfl))) d25_22 (by decide) (by decide) (i := 0) rfl (nl rfl) rfl ?_
  intro h5 W6 V7
  have K8 : Keep h h5 [] := K3.wr W6 (Or.inr sz2)
  replace V7 : Arv Z h5 b1 kA1 (.object "java/lang/Object") (4 : Int32) [(.ref e0), .null, .null, .null] .null := V7
  refine Go.iinc (pc' := 26) (Ls' := #[.val (.ref b), .val (.ref b1), .val (.int ((0 : Int32) + (1 : Int32)))]) (w := (1 : Int32)) d25_23 rfl rfl rfl rfl ?_
  show Go _ _ _ _ _ _ _ _ _ _ _ _ 26 #[.val (.ref b), .val (.ref b1), .val (.int (1 : Int32))] []
  refine Go.goto (pc' := 8) d25_26 (by decide) (by decide) ?_
  refine Go.iloadN (pc' := 9) d25_8 rfl rfl ?_
  refine Go.aloadN (pc' := 10) d25_9 rfl rfl rfl ?_
  have ne9 : b ≠ b1 := (Nat.ne_of_lt (Nat.lt_of_lt_of_le v.lt (Nat.le_of_eq g1.symm)))
  refine Go.arraylength (pc' := 11) ((v.ext E1).other W6 ne9) d25_10 rfl ?_
  refine Go.icmpNo (pc' := 14) d25_11 (XT.ii_ge_f (by decide)) rfl ?_
  refine Go.aloadN (pc' := 15) d25_14 rfl rfl rfl ?_
  refine Go.iloadN (pc' := 16) d25_15 rfl rfl ?_
  refine Go.aloadN (pc' := 17) d25_16 rfl rfl rfl ?_
  refine Go.iloadN (pc' := 18) d25_17 rfl rfl ?_
  refine Go.aaload (pc' := 19) (v := (.ref e1)) ((v.ext E1).other W6 ne9) rfl d25_18 (by decide) (by decide) rfl rfl ?_
  refine Go.callS (cells' := 1) (slots' := 4) (pc' := 22) [(.ref e1)] [(.int (1 : Int32)), (.ref b1)] (ww hw 174 rfl) (ww hw 111 rfl) (ww hw 112 rfl) (ww hw 113 rfl) (by decide) (c_rnn l Z a0 hw h5 e1) pd_2 rfl rfl rfl rfl rfl (nl rfl) (nl rfl) (nl rfl) (nl rfl) d25_19 rfl ?_
  rintro _ _ ⟨rfl, rfl⟩
  show Go _ _ _ _ _ _ _ _ _ _ _ _ 22 #[.val (.ref b), .val (.ref b1), .val (.int (1 : Int32))] [(.ref e1), (.int (1 : Int32)), (.ref b1)]
  refine Go.aastore (pc' := 23) V7 ge1 rfl rfl (own_sto V7 O1 (Ins.of_exa ((xe1.ext E1).wr W6) (ww hw 135 rfl))) d25_22 (by decide) (by decide) (i := 1) rfl (nl rfl) rfl ?_
  intro h11 W12 V13
  have K14 : Keep h h11 [] := K8.wr W12 (Or.inr sz2)
  replace V13 : Arv Z h11 b1 kA1 (.object "java/lang/Object") (4 : Int32) [(.ref e0), (.ref e1), .null, .null] .null := V13
  refine Go.iinc (pc' := 26) (Ls' := #[.val (.ref b), .val (.ref b1), .val (.int ((1 : Int32) + (1 : Int32)))]) (w := (1 : Int32)) d25_23 rfl rfl rfl rfl ?_
  show Go _ _ _ _ _ _ _ _ _ _ _ _ 26 #[.val (.ref b), .val (.ref b1), .val (.int (2 : Int32))] []
  refine Go.goto (pc' := 8) d25_26 (by decide) (by decide) ?_
  refine Go.iloadN (pc' := 9) d25_8 rfl rfl ?_
  refine Go.aloadN (pc' := 10) d25_9 rfl rfl rfl ?_
  have f15 : Arv Z h11 b kb (.object "java/lang/Object") (4 : Int32) [(.ref e0), (.ref e1), (.ref e2), (.ref e3)] .null := (((v.ext E1).other W6 ne9).other W12 ne9)
  refine Go.arraylength (pc' := 11) f15 d25_10 rfl ?_
  refine Go.icmpNo (pc' := 14) d25_11 (XT.ii_ge_f (by decide)) rfl ?_
  refine Go.aloadN (pc' := 15) d25_14 rfl rfl rfl ?_
  refine Go.iloadN (pc' := 16) d25_15 rfl rfl ?_
  refine Go.aloadN (pc' := 17) d25_16 rfl rfl rfl ?_
  refine Go.iloadN (pc' := 18) d25_17 rfl rfl ?_
  refine Go.aaload (pc' := 19) (v := (.ref e2)) f15 rfl d25_18 (by decide) (by decide) rfl rfl ?_
  refine Go.callS (cells' := 1) (slots' := 4) (pc' := 22) [(.ref e2)] [(.int (2 : Int32)), (.ref b1)] (ww hw 174 rfl) (ww hw 111 rfl) (ww hw 112 rfl) (ww hw 113 rfl) (by decide) (c_rnn l Z a0 hw h11 e2) pd_2 rfl rfl rfl rfl rfl (nl rfl) (nl rfl) (nl rfl) (nl rfl) d25_19 rfl ?_
  rintro _ _ ⟨rfl, rfl⟩
  show Go _ _ _ _ _ _ _ _ _ _ _ _ 22 #[.val (.ref b), .val (.ref b1), .val (.int (2 : Int32))] [(.ref e2), (.int (2 : Int32)), (.ref b1)]
  refine Go.aastore (pc' := 23) V13 ge1 rfl rfl (own_sto V13 O1 (Ins.of_exa (((xe2.ext E1).wr W6).wr W12) (ww hw 135 rfl))) d25_22 (by decide) (by decide) (i := 2) rfl (nl rfl) rfl ?_
  intro h17 W18 V19
  have K20 : Keep h h17 [] := K14.wr W18 (Or.inr sz2)
  replace V19 : Arv Z h17 b1 kA1 (.object "java/lang/Object") (4 : Int32) [(.ref e0), (.ref e1), (.ref e2), .null] .null := V19
  refine Go.iinc (pc' := 26) (Ls' := #[.val (.ref b), .val (.ref b1), .val (.int ((2 : Int32) + (1 : Int32)))]) (w := (1 : Int32)) d25_23 rfl rfl rfl rfl ?_
  show Go _ _ _ _ _ _ _ _ _ _ _ _ 26 #[.val (.ref b), .val (.ref b1), .val (.int (3 : Int32))] []
  refine Go.goto (pc' := 8) d25_26 (by decide) (by decide) ?_
  refine Go.iloadN (pc' := 9) d25_8 rfl rfl ?_
  refine Go.aloadN (pc' := 10) d25_9 rfl rfl rfl ?_
  refine Go.arraylength (pc' := 11) (f15.other W18 ne9) d25_10 rfl ?_
  refine Go.icmpNo (pc' := 14) d25_11 (XT.ii_ge_f (by decide)) rfl ?_
  refine Go.aloadN (pc' := 15) d25_14 rfl rfl rfl ?_
  refine Go.iloadN (pc' := 16) d25_15 rfl rfl ?_
  refine Go.aloadN (pc' := 17) d25_16 rfl rfl rfl ?_
  refine Go.iloadN (pc' := 18) d25_17 rfl rfl ?_
  refine Go.aaload (pc' := 19) (v := (.ref e3)) (f15.other W18 ne9) rfl d25_18 (by decide) (by decide) rfl rfl ?_
  refine Go.callS (cells' := 1) (slots' := 4) (pc' := 22) [(.ref e3)] [(.int (3 : Int32)), (.ref b1)] (ww hw 174 rfl) (ww hw 111 rfl) (ww hw 112 rfl) (ww hw 113 rfl) (by decide) (c_rnn l Z a0 hw h17 e3) pd_2 rfl rfl rfl rfl rfl (nl rfl) (nl rfl) (nl rfl) (nl rfl) d25_19 rfl ?_
  rintro _ _ ⟨rfl, rfl⟩
  show Go _ _ _ _ _ _ _ _ _ _ _ _ 22 #[.val (.ref b), .val (.ref b1), .val (.int (3 : Int32))] [(.ref e3), (.int (3 : Int32)), (.ref b1)]
  refine Go.aastore (pc' := 23) V19 ge1 rfl rfl (own_sto V19 O1 (Ins.of_exa ((((xe3.ext E1).wr W6).wr W12).wr W18) (ww hw 135 rfl))) d25_22 (by decide) (by decide) (i := 3) rfl (nl rfl) rfl ?_
  intro h22 W23 V24
  have K25 : Keep h h22 [] := K20.wr W23 (Or.inr sz2)
  replace V24 : Arv Z h22 b1 kA1 (.object "java/lang/Object") (4 : Int32) [(.ref e0), (.ref e1), (.ref e2), (.ref e3)] .null := V24
  refine Go.iinc (pc' := 26) (Ls' := #[.val (.ref b), .val (.ref b1), .val (.int ((3 : Int32) + (1 : Int32)))]) (w := (1 : Int32)) d25_23 rfl rfl rfl rfl ?_
  show Go _ _ _ _ _ _ _ _ _ _ _ _ 26 #[.val (.ref b), .val (.ref b1), .val (.int (4 : Int32))] []
  refine Go.goto (pc' := 8) d25_26 (by decide) (by decide) ?_
  refine Go.iloadN (pc' := 9) d25_8 rfl rfl ?_
  refine Go.aloadN (pc' := 10) d25_9 rfl rfl rfl ?_
  refine Go.arraylength (pc' := 11) ((f15.other W18 ne9).other W23 ne9) d25_10 rfl ?_
  refine Go.icmpYes (pc' := 29) d25_11 (XT.ii_ge_t (by decide)) (by decide) (by decide) ?_
  refine Go.new (pc' := 32) (cells' := 2) (slots' := 6) (ww hw 45 rfl) (ww hw 175 rfl) (ww hw 69 rfl) d25_29 rfl rfl (by decide) (by decide) rfl ?_
  intro h26 b26 g26 E26 ge26 A26 D26
  have sz27 : h.size ≤ b26 := Nat.le_trans K25.1 (Nat.le_of_eq g26.symm)
  have K28 : Keep h h26 [] := K25.ext E26
  refine Go.dup (pc' := 33) d25_32 rfl rfl ?_
  refine Go.aloadN (pc' := 34) d25_33 rfl rfl rfl ?_
  refine Go.iconst (pc' := 35) (v := (0 : Int32)) d25_34 rfl rfl ?_
  refine Go.callCN (cells' := 2) (slots' := 6) (pc' := 38) [(.ref b1), (.int (0 : Int32))] [(.ref b26)] (a := b26) rfl rfl (ww hw 176 rfl) (ww hw 177 rfl) (ww hw 69 rfl) (ww hw 179 rfl) (by decide) (c_lnInit l Z a0 hw h26 b26 b1 ge26 A26 ((D26 (Or.inr (ww hw 72 rfl)) (ty := (.array (.object "java/lang/Object"))) (by decide) : Fld Z h26 b26 "java/util/ImmutableCollections$ListN" "elements" "[Ljava/lang/Object;" .null)) ((D26 (Or.inr (ww hw 185 rfl)) (ty := .boolean) (by decide) : Fld Z h26 b26 "java/util/ImmutableCollections$ListN" "allowNulls" "Z" (.int (0 : Int32))))) pd_13 rfl rfl rfl rfl rfl (nl rfl) (nl rfl) (nl rfl) (nl rfl) d25_35 rfl ?_
  rintro _ h29 ⟨rfl, K29, F29_0, F29_1⟩
  have K30 : Keep h h29 [] := K28.trans K29 (allS (Or.inr sz27) all0)
  show Go _ _ _ _ _ _ _ _ _ _ _ _ 38 #[.val (.ref b), .val (.ref b1), .val (.int (4 : Int32))] [(.ref b26)]
  have ne31 : b1 ≠ b26 := (Nat.ne_of_lt (Nat.lt_of_lt_of_le ((((X1.wr W6).wr W12).wr W18).wr W23).lt (Nat.le_of_eq g26.symm)))
  have f32 : Arv Z h29 b1 kA1 (.object "java/lang/Object") (4 : Int32) [(.ref e0), (.ref e1), (.ref e2), (.ref e3)] .null := ((V24.ext E26).keep K29 (ninS ne31 nin0))
  exact Go.retR rfl rfl rfl rfl d25_38 ⟨b26, b1, kA1, rfl, K30, ge26, sz27, ge1, sz2, (A26.keep K29), F29_0, f32⟩ (by decide) (by decide)
set_option maxRecDepth 65536 in
set_option maxHeartbeats 4000000 in
theorem c_ofA4 (l : Launch) (Z : State) (a0 : Array Value) (hw : ∀ d ∈ tables_1, d.before a0 Z = true) {n0 : Nat} (h : Heap) (b : Addr) (kb : ClassId) (e0 : Addr) (e1 : Addr) (e2 : Addr) (e3 : Addr) (v : Arv Z h b kb (.object "java/lang/Object") (4 : Int32) [(.ref e0), (.ref e1), (.ref e2), (.ref e3)] .null) (xe0 : Exa Z h e0 "java/util/ImmutableCollections$List12") (xe1 : Exa Z h e1 "java/util/ImmutableCollections$List12") (xe2 : Exa Z h e2 "java/util/ImmutableCollections$List12") (xe3 : Exa Z h e3 "java/util/ImmutableCollections$List12") :
    Con l (⟨"java/util/List", "of", "([Ljava/lang/Object;)Ljava/util/List;"⟩ : MethodName) jdk_40_method_47_code 2 (some (.object "java/util/List")) ({ frames := 6, cells := 2, slots := 6, locals := 77 } : Room) Z n0 #[(.ref b)] h (fun v h' => ∃ r : Addr, ∃ c : Addr, ∃ kc2 : ClassId, v = some (.ref r) ∧ Keep h h' [] ∧ n0 ≤ r ∧ h.size ≤ r ∧ n0 ≤ c ∧ h.size ≤ c ∧ Exa Z h' r "java/util/ImmutableCollections$ListN" ∧ Fld Z h' r "java/util/ImmutableCollections$ListN" "elements" "[Ljava/lang/Object;" (.ref c) ∧ Arv Z h' c kc2 (.object "java/lang/Object") (4 : Int32) [(.ref e0), (.ref e1), (.ref e2), (.ref e3)] .null) := by
  refine Con.of_go (plainFor_of_name pn_10) (Ls := #[.val (.ref b), .unset]) (fun m => by first | (simp [entryFrame, mkF, argsToLocals, Value.category]; done) | rfl) ?_
  refine Go.aloadN (pc' := 1) d24_0 rfl rfl rfl ?_
  refine Go.arraylength (pc' := 2) v d24_1 rfl ?_
  refine Go.tswOut (pc' := 59) d24_2 (by decide) (by decide) (by decide) ?_
  refine Go.aloadN (pc' := 60) d24_59 rfl rfl rfl ?_
  refine Go.callS (cells' := 2) (slots' := 6) (pc' := 63) [(.ref b)] [] (ww hw 170 rfl) (ww hw 171 rfl) (ww hw 38 rfl) (ww hw 172 rfl) (by decide) (c_lfa4 l Z a0 hw h b kb e0 e1 e2 e3 v xe0 xe1 xe2 xe3) pd_11 rfl rfl rfl rfl rfl (nl rfl) (nl rfl) (nl rfl) (nl rfl) d24_60 rfl ?_
  rintro _ h1 ⟨r_1, c_1, kc2_1, rfl, K1, ge_r_1, sz_r_1, ge_c_1, sz_c_1, F1_0, F1_1, F1_2⟩
  have sz2 : h.size ≤ r_1 := Nat.le_trans (Keep.refl h []).1 sz_r_1
  have sz3 : h.size ≤ c_1 := Nat.le_trans (Keep.refl h []).1 sz_c_1
  have K4 : Keep h h1 [] := (Keep.refl h []).trans K1 all0
  show Go _ _ _ _ _ _ _ _ _ _ _ _ 63 #[.val (.ref b), .unset] [(.ref r_1)]
  exact Go.retR rfl rfl rfl rfl d24_63 ⟨r_1, c_1, kc2_1, rfl, K4, ge_r_1, sz2, ge_c_1, sz3, F1_0, F1_1, F1_2⟩ (by decide) (by decide)
set_option maxRecDepth 65536 in
set_option maxHeartbeats 4000000 in
theorem c_listCopy4 (l : Launch) (Z : State) (a0 : Array Value) (hw : ∀ d ∈ tables_1, d.before a0 Z = true) {n0 : Nat} (h : Heap) (a : Addr) (b : Addr) (kb : ClassId) (e0 : Addr) (e1 : Addr) (e2 : Addr) (e3 : Addr) (mO : Addr) (mo : Mi Z "[Ljava/lang/Object;" mO) (xa : Exa Z h a "java/util/ArrayList") (pf0 : Fld Z h a "java/util/ArrayList" "elementData" "[Ljava/lang/Object;" (.ref b)) (pf1 : Fld Z h a "java/util/ArrayList" "size" "I" (.int (4 : Int32))) (v : Arv Z h b kb (.object "java/lang/Object") (4 : Int32) [(.ref e0), (.ref e1), (.ref e2), (.ref e3)] .null) (xb : Exa Z h b "[Ljava/lang/Object;") (xe0 : Exa Z h e0 "java/util/ImmutableCollections$List12") (xe1 : Exa Z h e1 "java/util/ImmutableCollections$List12") (xe2 : Exa Z h e2 "java/util/ImmutableCollections$List12") (xe3 : Exa Z h e3 "java/util/ImmutableCollections$List12") :
    Con l (⟨"java/util/ImmutableCollections", "listCopy", "(Ljava/util/Collection;)Ljava/util/List;"⟩ : MethodName) jdk_56_method_3_code 2 (some (.object "java/util/List")) ({ frames := 7, cells := 3, slots := 10, locals := 90 } : Room) Z n0 #[(.ref a)] h (fun v h' => ∃ r : Addr, ∃ c : Addr, ∃ kc2 : ClassId, v = some (.ref r) ∧ Keep h h' [] ∧ n0 ≤ r ∧ h.size ≤ r ∧ n0 ≤ c ∧ h.size ≤ c ∧ Exa Z h' r "java/util/ImmutableCollections$ListN" ∧ Fld Z h' r "java/util/ImmutableCollections$ListN" "elements" "[Ljava/lang/Object;" (.ref c) ∧ Arv Z h' c kc2 (.object "java/lang/Object") (4 : Int32) [(.ref e0), (.ref e1), (.ref e2), (.ref e3)] .null) := by
  refine Con.of_go (plainFor_of_name pn_11) (Ls := #[.val (.ref a), .unset]) (fun m => by first | (simp [entryFrame, mkF, argsToLocals, Value.category]; done) | rfl) ?_
  refine Go.aloadN (pc' := 1) d7_0 rfl rfl rfl ?_
  refine Go.instNo (pc' := 4) (ww hw 40 rfl) xa (own_nno (ww hw 41 rfl) (ww hw 90 rfl) (NS.step (ww hw 41 rfl) (NS.step (ww hw 42 rfl) (NS.step (ww hw 43 rfl) (own_nroot (ww hw 44 rfl) (ww hw 90 rfl) (by decide)) (by decide)) (by decide)) (by decide)) (by decide)) d7_1 rfl ?_
  refine Go.ifNo (pc' := 7) d7_4 (XT.i0_ne_f (by decide)) rfl ?_
  refine Go.aloadN (pc' := 8) d7_7 rfl rfl rfl ?_
  refine Go.instNo (pc' := 11) (ww hw 45 rfl) xa (own_nno (ww hw 41 rfl) (ww hw 175 rfl) (NS.step (ww hw 41 rfl) (NS.step (ww hw 42 rfl) (NS.step (ww hw 43 rfl) (own_nroot (ww hw 44 rfl) (ww hw 175 rfl) (by decide)) (by decide)) (by decide)) (by decide)) (by decide)) d7_8 rfl ?_
  refine Go.ifYes (pc' := 31) d7_11 (XT.i0_eq_t (by decide)) (by decide) (by decide) ?_
  refine Go.aloadN (pc' := 32) d7_31 rfl rfl rfl ?_
  refine Go.callI (cells' := 0) (slots' := 0) (pc' := 37) [] [] xa (ww hw 46 rfl) (ww hw 47 rfl) (ww hw 48 rfl) (ww hw 49 rfl) (ww hw 50 rfl) (ww hw 51 rfl) (ww hw 52 rfl) (ww hw 53 rfl) (ww hw 8 rfl) (ww hw 54 rfl) (by decide) (c_alEmptyN l Z a0 hw h a (4 : Int32) (by decide) pf1) pd_4 rfl rfl rfl rfl rfl (nl rfl) (nl rfl) (nl rfl) (nl rfl) d7_32 rfl ?_
  rintro _ _ ⟨rfl, rfl⟩
  show Go _ _ _ _ _ _ _ _ _ _ _ _ 37 #[.val (.ref a), .unset] [(.int (0 : Int32))]
  refine Go.ifYes (pc' := 44) d7_37 (XT.i0_eq_t (by decide)) (by decide) (by decide) ?_
  refine Go.aloadN (pc' := 45) d7_44 rfl rfl rfl ?_
  refine Go.callI (cells' := 1) (slots' := 4) (pc' := 50) [] [] xa (ww hw 136 rfl) (ww hw 137 rfl) (ww hw 138 rfl) (ww hw 139 rfl) (ww hw 140 rfl) (ww hw 141 rfl) (ww hw 142 rfl) (ww hw 53 rfl) (ww hw 8 rfl) (ww hw 143 rfl) (by decide) (c_toArray4 l Z a0 hw h a b kb e0 e1 e2 e3 mO mo pf0 pf1 v xb xe0 xe1 xe2 xe3) pd_10 rfl rfl rfl rfl rfl (nl rfl) (nl rfl) (nl rfl) (nl rfl) d7_45 rfl ?_
  rintro _ h2 ⟨r_2, kr_2, rfl, K2, ge_r_2, sz_r_2, F2_0, F2_1, F2_2⟩
  have sz3 : h.size ≤ r_2 := Nat.le_trans (Keep.refl h []).1 sz_r_2
  have K4 : Keep h h2 [] := (Keep.refl h []).trans K2 all0
  show Go _ _ _ _ _ _ _ _ _ _ _ _ 50 #[.val (.ref a), .unset] [(.ref r_2)]
  refine Go.callS (cells' := 3) (slots' := 10) (pc' := 53) [(.ref r_2)] [] (ww hw 167 rfl) (ww hw 168 rfl) (ww hw 34 rfl) (ww hw 169 rfl) (by decide) (c_ofA4 l Z a0 hw h2 r_2 kr_2 e0 e1 e2 e3 F2_0 (xe0.keep K2) (xe1.keep K2) (xe2.keep K2) (xe3.keep K2)) pd_11 rfl rfl rfl rfl rfl (nl rfl) (nl rfl) (nl rfl) (nl rfl) d7_50 rfl ?_
  rintro _ h5 ⟨r_5, c_5, kc2_5, rfl, K5, ge_r_5, sz_r_5, ge_c_5, sz_c_5, F5_0, F5_1, F5_2⟩
  have sz6 : h.size ≤ r_5 := Nat.le_trans K4.1 sz_r_5
  have sz7 : h.size ≤ c_5 := Nat.le_trans K4.1 sz_c_5
  have K8 : Keep h h5 [] := K4.trans K5 all0
  show Go _ _ _ _ _ _ _ _ _ _ _ _ 53 #[.val (.ref a), .unset] [(.ref r_5)]
  exact Go.retR rfl rfl rfl rfl d7_53 ⟨r_5, c_5, kc2_5, rfl, K8, ge_r_5, sz6, ge_c_5, sz7, F5_0, F5_1, F5_2⟩ (by decide) (by decide)
set_option maxRecDepth 65536 in
set_option maxHeartbeats 4000000 in
theorem c_copy4 (l : Launch) (Z : State) (a0 : Array Value) (hw : ∀ d ∈ tables_1, d.before a0 Z = true) {n0 : Nat} (h : Heap) (a : Addr) (b : Addr) (kb : ClassId) (e0 : Addr) (e1 : Addr) (e2 : Addr) (e3 : Addr) (mO : Addr) (mo : Mi Z "[Ljava/lang/Object;" mO) (xa : Exa Z h a "java/util/ArrayList") (pf0 : Fld Z h a "java/util/ArrayList" "elementData" "[Ljava/lang/Object;" (.ref b)) (pf1 : Fld Z h a "java/util/ArrayList" "size" "I" (.int (4 : Int32))) (v : Arv Z h b kb (.object "java/lang/Object") (4 : Int32) [(.ref e0), (.ref e1), (.ref e2), (.ref e3)] .null) (xb : Exa Z h b "[Ljava/lang/Object;") (xe0 : Exa Z h e0 "java/util/ImmutableCollections$List12") (xe1 : Exa Z h e1 "java/util/ImmutableCollections$List12") (xe2 : Exa Z h e2 "java/util/ImmutableCollections$List12") (xe3 : Exa Z h e3 "java/util/ImmutableCollections$List12") :
    Con l (⟨"java/util/List", "copyOf", "(Ljava/util/Collection;)Ljava/util/List;"⟩ : MethodName) jdk_40_method_48_code 1 (some (.object "java/util/List")) ({ frames := 8, cells := 3, slots := 10, locals := 103 } : Room) Z n0 #[(.ref a)] h (fun v h' => ∃ r : Addr, ∃ c : Addr, ∃ kc2 : ClassId, v = some (.ref r) ∧ Keep h h' [] ∧ n0 ≤ r ∧ h.size ≤ r ∧ n0 ≤ c ∧ h.size ≤ c ∧ Exa Z h' r "java/util/ImmutableCollections$ListN" ∧ Fld Z h' r "java/util/ImmutableCollections$ListN" "elements" "[Ljava/lang/Object;" (.ref c) ∧ Arv Z h' c kc2 (.object "java/lang/Object") (4 : Int32) [(.ref e0), (.ref e1), (.ref e2), (.ref e3)] .null) := by
  refine Con.of_go (plainFor_of_name pn_10) (Ls := #[.val (.ref a)]) (fun m => by first | (simp [entryFrame, mkF, argsToLocals, Value.category]; done) | rfl) ?_
  refine Go.aloadN (pc' := 1) d6_0 rfl rfl rfl ?_
  refine Go.callS (cells' := 3) (slots' := 10) (pc' := 4) [(.ref a)] [] (ww hw 36 rfl) (ww hw 37 rfl) (ww hw 38 rfl) (ww hw 39 rfl) (by decide) (c_listCopy4 l Z a0 hw h a b kb e0 e1 e2 e3 mO mo xa pf0 pf1 v xb xe0 xe1 xe2 xe3) pd_6 rfl rfl rfl rfl rfl (nl rfl) (nl rfl) (nl rfl) (nl rfl) d6_1 rfl ?_
  rintro _ h1 ⟨r_1, c_1, kc2_1, rfl, K1, ge_r_1, sz_r_1, ge_c_1, sz_c_1, F1_0, F1_1, F1_2⟩
  have sz2 : h.size ≤ r_1 := Nat.le_trans (Keep.refl h []).1 sz_r_1
  have sz3 : h.size ≤ c_1 := Nat.le_trans (Keep.refl h []).1 sz_c_1
  have K4 : Keep h h1 [] := (Keep.refl h []).trans K1 all0
  show Go _ _ _ _ _ _ _ _ _ _ _ _ 4 #[.val (.ref a)] [(.ref r_1)]
  exact Go.retR rfl rfl rfl rfl d6_4 ⟨r_1, c_1, kc2_1, rfl, K4, ge_r_1, sz2, ge_c_1, sz3, F1_0, F1_1, F1_2⟩ (by decide) (by decide)
theorem d2_0 : decode jdk_38_method_1_code 0 = .ok (.aload_n 0, 1) := by decide +kernel
theorem d2_1 : decode jdk_38_method_1_code 1 = .ok (.invokespecial 1, 3) := by decide +kernel
theorem d2_4 : decode jdk_38_method_1_code 4 = .ok (.iload_n 1, 1) := by decide +kernel
theorem d2_5 : decode jdk_38_method_1_code 5 = .ok (.ifCond .le 14, 3) := by decide +kernel
theorem d2_19 : decode jdk_38_method_1_code 19 = .ok (.iload_n 1, 1) := by decide +kernel
theorem d2_20 : decode jdk_38_method_1_code 20 = .ok (.ifCond .ne 13, 3) := by decide +kernel
theorem d2_23 : decode jdk_38_method_1_code 23 = .ok (.aload_n 0, 1) := by decide +kernel
theorem d2_24 : decode jdk_38_method_1_code 24 = .ok (.getstatic 15, 3) := by decide +kernel
theorem d2_27 : decode jdk_38_method_1_code 27 = .ok (.putfield 9, 3) := by decide +kernel
theorem d2_30 : decode jdk_38_method_1_code 30 = .ok (.goto 30, 3) := by decide +kernel
theorem d2_60 : decode jdk_38_method_1_code 60 = .ok (.return_, 1) := by decide +kernel
set_option maxRecDepth 65536 in
set_option maxHeartbeats 4000000 in
theorem c_alInitI0 (l : Launch) (Z : State) (a0 : Array Value) (hw : ∀ d ∈ tables_1, d.before a0 Z = true) {n0 : Nat} (h : Heap) (a : Addr) (wd0 : Addr) (sd0 : Sta Z Z.heap "java/util/ArrayList" "EMPTY_ELEMENTDATA" "[Ljava/lang/Object;" (.ref wd0)) (ge_a : n0 ≤ a) (e : Exa Z h a "java/util/ArrayList") (pf0 : Fld Z h a "java/util/ArrayList" "elementData" "[Ljava/lang/Object;" .null) (pf1 : Fld Z h a "java/util/ArrayList" "size" "I" (.int (0 : Int32))) (pf2 : Fld Z h a "java/util/AbstractList" "modCount" "I" (.int (0 : Int32))) :
    Con l (⟨"java/util/ArrayList", "<init>", "(I)V"⟩ : MethodName) jdk_38_method_1_code 2 none ({ frames := 3, cells := 0, slots := 0, locals := 36 } : Room) Z n0 #[(.ref a), (.int (0 : Int32))] h (fun v h' => v = none ∧ Keep h h' [a] ∧ Fld Z h' a "java/util/ArrayList" "elementData" "[Ljava/lang/Object;" (.ref wd0) ∧ Fld Z h' a "java/util/ArrayList" "size" "I" (.int (0 : Int32)) ∧ Fld Z h' a "java/util/AbstractList" "modCount" "I" (.int (0 : Int32))) := by
  refine Con.of_go (plainFor_of_name pn_4) (Ls := #[.val (.ref a), .val (.int (0 : Int32))]) (fun m => by first | (simp [entryFrame, mkF, argsToLocals, Value.category]; done) | rfl) ?_
  refine Go.aloadN (pc' := 1) d2_0 rfl rfl rfl ?_
  refine Go.callC (cells' := 0) (slots' := 0) (pc' := 4) [] [] (a := a) rfl rfl (ww hw 12 rfl) (ww hw 13 rfl) (ww hw 16 rfl) (ww hw 17 rfl) (by decide) (c_alsInit l Z a0 hw h a ge_a e pf0 pf1 pf2) pd_0 rfl rfl rfl rfl rfl (nl rfl) (nl rfl) (nl rfl) (nl rfl) d2_1 rfl ?_
  rintro _ h1 ⟨rfl, K1, F1_0, F1_1, F1_2⟩
  have K2 : Keep h h1 [a] := (Keep.refl h [a]).trans K1 (allS (Or.inl (List.mem_of_getElem? (i := 0) rfl)) all0)
  show Go _ _ _ _ _ _ _ _ _ _ _ _ 4 #[.val (.ref a), .val (.int (0 : Int32))] []
  refine Go.iloadN (pc' := 5) d2_4 rfl rfl ?_
  refine Go.ifYes (pc' := 19) d2_5 (XT.i0_le_t (by decide)) (by decide) (by decide) ?_
  refine Go.iloadN (pc' := 20) d2_19 rfl rfl ?_
  refine Go.ifNo (pc' := 23) d2_20 (XT.i0_ne_f (by decide)) rfl ?_
  refine Go.aloadN (pc' := 24) d2_23 rfl rfl rfl ?_
  refine Go.old (fun old3 => ?_)
  refine Go.getstatic (pc' := 27) (host := "") (Or.inl (ww hw 29 rfl)) Via.refl (sd0.ext old3.2) d2_24 rfl ?_
  refine Go.putfield (pc' := 30) (host := "") (Or.inl (ww hw 30 rfl)) Via.refl F1_0 (e.keep K1) (Or.inl (ww hw 31 rfl)) (ww hw 7 rfl) (ty := (.array (.object "java/lang/Object"))) (by decide) rfl rfl ge_a d2_27 rfl ?_
  intro h4 W5
  have K6 : Keep h h4 [a] := K2.wr W5 (Or.inl (List.mem_of_getElem? (i := 0) rfl))
  have f7 := F1_0.same W5
  refine Go.goto (pc' := 60) d2_30 (by decide) (by decide) ?_
  have f8 : Fld Z h4 a "java/util/ArrayList" "size" "I" (.int (0 : Int32)) := (F1_1.other W5 (Or.inr (slot_ne (Or.inl (ww hw 56 rfl)) (Or.inl (ww hw 31 rfl)) (by decide) (t := .int) (t' := (.array (.object "java/lang/Object"))) (by decide) (by decide))))
  have f9 : Fld Z h4 a "java/util/AbstractList" "modCount" "I" (.int (0 : Int32)) := (F1_2.other W5 (Or.inr (slot_ne (Or.inl (ww hw 28 rfl)) (Or.inl (ww hw 31 rfl)) (by decide) (t := .int) (t' := (.array (.object "java/lang/Object"))) (by decide) (by decide))))
  exact Go.retV rfl d2_60 ⟨rfl, K6, f7, f8, f9⟩ (by decide) (by decide)
theorem d2_8 : decode jdk_38_method_1_code 8 = .ok (.aload_n 0, 1) := by decide +kernel
theorem d2_9 : decode jdk_38_method_1_code 9 = .ok (.iload_n 1, 1) := by decide +kernel
theorem d2_10 : decode jdk_38_method_1_code 10 = .ok (.anewarray 7, 3) := by decide +kernel
theorem d2_13 : decode jdk_38_method_1_code 13 = .ok (.putfield 9, 3) := by decide +kernel
theorem d2_16 : decode jdk_38_method_1_code 16 = .ok (.goto 44, 3) := by decide +kernel
set_option maxRecDepth 65536 in
set_option maxHeartbeats 4000000 in
theorem c_alInitI1 (l : Launch) (Z : State) (a0 : Array Value) (hw : ∀ d ∈ tables_1, d.before a0 Z = true) {n0 : Nat} (h : Heap) (a : Addr) (ge_a : n0 ≤ a) (e : Exa Z h a "java/util/ArrayList") (pf0 : Fld Z h a "java/util/ArrayList" "elementData" "[Ljava/lang/Object;" .null) (pf1 : Fld Z h a "java/util/ArrayList" "size" "I" (.int (0 : Int32))) (pf2 : Fld Z h a "java/util/AbstractList" "modCount" "I" (.int (0 : Int32))) :
    Con l (⟨"java/util/ArrayList", "<init>", "(I)V"⟩ : MethodName) jdk_38_method_1_code 2 none ({ frames := 3, cells := 1, slots := 1, locals := 36 } : Room) Z n0 #[(.ref a), (.int (1 : Int32))] h (fun v h' => ∃ b : Addr, ∃ kb : ClassId, v = none ∧ Keep h h' [a] ∧ n0 ≤ b ∧ h.size ≤ b ∧ Fld Z h' a "java/util/ArrayList" "elementData" "[Ljava/lang/Object;" (.ref b) ∧ Fld Z h' a "java/util/ArrayList" "size" "I" (.int (0 : Int32)) ∧ Fld Z h' a "java/util/AbstractList" "modCount" "I" (.int (0 : Int32)) ∧ Arv Z h' b kb (.object "java/lang/Object") (1 : Int32) [.null] .null ∧ Exa Z h' b "[Ljava/lang/Object;" ∧ Ovr Z kb "java/lang/Object") := by
  refine Con.of_go (plainFor_of_name pn_4) (Ls := #[.val (.ref a), .val (.int (1 : Int32))]) (fun m => by first | (simp [entryFrame, mkF, argsToLocals, Value.category]; done) | rfl) ?_
  refine Go.aloadN (pc' := 1) d2_0 rfl rfl rfl ?_
  refine Go.callC (cells' := 0) (slots' := 0) (pc' := 4) [] [] (a := a) rfl rfl (ww hw 12 rfl) (ww hw 13 rfl) (ww hw 16 rfl) (ww hw 17 rfl) (by decide) (c_alsInit l Z a0 hw h a ge_a e pf0 pf1 pf2) pd_0 rfl rfl rfl rfl rfl (nl rfl) (nl rfl) (nl rfl) (nl rfl) d2_1 rfl ?_
  rintro _ h1 ⟨rfl, K1, F1_0, F1_1, F1_2⟩
  have K2 : Keep h h1 [a] := (Keep.refl h [a]).trans K1 (allS (Or.inl (List.mem_of_getElem? (i := 0) rfl)) all0)
  show Go _ _ _ _ _ _ _ _ _ _ _ _ 4 #[.val (.ref a), .val (.int (1 : Int32))] []
  refine Go.iloadN (pc' := 5) d2_4 rfl rfl ?_
  refine Go.ifNo (pc' := 8) d2_5 (XT.i0_le_f (by decide)) rfl ?_
  refine Go.aloadN (pc' := 9) d2_8 rfl rfl rfl ?_
  refine Go.iloadN (pc' := 10) d2_9 rfl rfl ?_
  refine Go.anewarray (pc' := 13) (cells' := 1) (slots' := 1) (cap := 1) (ww hw 77 rfl) (ww hw 78 rfl) d2_10 (ad := "[Ljava/lang/Object;") (by decide) (by decide) (by decide) rfl rfl (by decide) (by decide) (by decide) rfl ?_
  intro h3 b3 g3 E3 ge3 kA3 A3 X3 O3
  have sz4 : h.size ≤ b3 := Nat.le_trans K2.1 (Nat.le_of_eq g3.symm)
  have K5 : Keep h h3 [a] := K2.ext E3
  have V3 : Arv Z h3 b3 kA3 (.object "java/lang/Object") (1 : Int32) [.null] .null := Arv.pad A3 (pad_rep [] .null 1)
  refine Go.putfield (pc' := 16) (host := "") (Or.inl (ww hw 30 rfl)) Via.refl (F1_0.ext E3) ((e.keep K1).ext E3) (Or.inl (ww hw 31 rfl)) (ww hw 7 rfl) (ty := (.array (.object "java/lang/Object"))) (by decide) rfl rfl ge_a d2_13 rfl ?_
  intro h6 W7
  have K8 : Keep h h6 [a] := K5.wr W7 (Or.inl (List.mem_of_getElem? (i := 0) rfl))
  have f9 := (F1_0.ext E3).same W7
  refine Go.goto (pc' := 60) d2_16 (by decide) (by decide) ?_
  have f10 : Fld Z h6 a "java/util/ArrayList" "size" "I" (.int (0 : Int32)) := ((F1_1.ext E3).other W7 (Or.inr (slot_ne (Or.inl (ww hw 56 rfl)) (Or.inl (ww hw 31 rfl)) (by decide) (t := .int) (t' := (.array (.object "java/lang/Object"))) (by decide) (by decide))))
  have f11 : Fld Z h6 a "java/util/AbstractList" "modCount" "I" (.int (0 : Int32)) := ((F1_2.ext E3).other W7 (Or.inr (slot_ne (Or.inl (ww hw 28 rfl)) (Or.inl (ww hw 31 rfl)) (by decide) (t := .int) (t' := (.array (.object "java/lang/Object"))) (by decide) (by decide))))
  have ne12 : a ≠ b3 := (Nat.ne_of_lt (Nat.lt_of_lt_of_le F1_2.lt (Nat.le_of_eq g3.symm)))
  exact Go.retV rfl d2_60 ⟨b3, kA3, rfl, K8, ge3, sz4, f9, f10, f11, (V3.other W7 (Ne.symm ne12)), (X3.wr W7), O3⟩ (by decide) (by decide)
theorem d19_0 : decode jdk_38_method_24_code 0 = .ok (.iload_n 3, 1) := by decide +kernel
theorem d19_1 : decode jdk_38_method_24_code 1 = .ok (.aload_n 2, 1) := by decide +kernel
theorem d19_2 : decode jdk_38_method_24_code 2 = .ok (.arraylength, 1) := by decide +kernel
theorem d19_3 : decode jdk_38_method_24_code 3 = .ok (.if_icmp .ne 8, 3) := by decide +kernel
theorem d19_11 : decode jdk_38_method_24_code 11 = .ok (.aload_n 2, 1) := by decide +kernel
theorem d19_12 : decode jdk_38_method_24_code 12 = .ok (.iload_n 3, 1) := by decide +kernel
theorem d19_13 : decode jdk_38_method_24_code 13 = .ok (.aload_n 1, 1) := by decide +kernel
theorem d19_14 : decode jdk_38_method_24_code 14 = .ok (.aastore, 1) := by decide +kernel
theorem d19_15 : decode jdk_38_method_24_code 15 = .ok (.aload_n 0, 1) := by decide +kernel
theorem d19_16 : decode jdk_38_method_24_code 16 = .ok (.iload_n 3, 1) := by decide +kernel
theorem d19_17 : decode jdk_38_method_24_code 17 = .ok (.iconst 1, 1) := by decide +kernel
theorem d19_18 : decode jdk_38_method_24_code 18 = .ok (.iadd, 1) := by decide +kernel
theorem d19_19 : decode jdk_38_method_24_code 19 = .ok (.putfield 48, 3) := by decide +kernel
theorem d19_22 : decode jdk_38_method_24_code 22 = .ok (.return_, 1) := by decide +kernel
set_option maxRecDepth 65536 in
set_option maxHeartbeats 4000000 in
theorem c_addP1_0 (l : Launch) (Z : State) (a0 : Array Value) (hw : ∀ d ∈ tables_1, d.before a0 Z = true) {n0 : Nat} (h : Heap) (a : Addr) (e : Addr) (b : Addr) (kb : ClassId) (ge_a : n0 ≤ a) (ge_b : n0 ≤ b) (ne_a_b : a ≠ b) (xa : Exa Z h a "java/util/ArrayList") (xe : Exa Z h e "java/util/ImmutableCollections$List12") (pf0 : Fld Z h a "java/util/ArrayList" "elementData" "[Ljava/lang/Object;" (.ref b)) (pf1 : Fld Z h a "java/util/ArrayList" "size" "I" (.int (0 : Int32))) (pf2 : Fld Z h a "java/util/AbstractList" "modCount" "I" (.int (1 : Int32))) (vb : Arv Z h b kb (.object "java/lang/Object") (1 : Int32) [.null] .null) (xb : Exa Z h b "[Ljava/lang/Object;") (ob : Ovr Z kb "java/lang/Object") :
    Con l (⟨"java/util/ArrayList", "add", "(Ljava/lang/Object;[Ljava/lang/Object;I)V"⟩ : MethodName) jdk_38_method_24_code 4 none ({ frames := 0, cells := 0, slots := 0, locals := 0 } : Room) Z n0 #[(.ref a), (.ref e), (.ref b), (.int (0 : Int32))] h (fun v h' => v = none ∧ Keep h h' [a, b] ∧ Fld Z h' a "java/util/ArrayList" "elementData" "[Ljava/lang/Object;" (.ref b) ∧ Fld Z h' a "java/util/ArrayList" "size" "I" (.int (1 : Int32)) ∧ Fld Z h' a "java/util/AbstractList" "modCount" "I" (.int (1 : Int32)) ∧ Arv Z h' b kb (.object "java/lang/Object") (1 : Int32) [(.ref e)] .null) := by
  refine Con.of_go (plainFor_of_name pn_4) (Ls := #[.val (.ref a), .val (.ref e), .val (.ref b), .val (.int (0 : Int32))]) (fun m => by first | (simp [entryFrame, mkF, argsToLocals, Value.category]; done) | rfl) ?_
  refine Go.iloadN (pc' := 1) d19_0 rfl rfl ?_
  refine Go.aloadN (pc' := 2) d19_1 rfl rfl rfl ?_
  refine Go.arraylength (pc' := 3) vb d19_2 rfl ?_
  refine Go.icmpYes (pc' := 11) d19_3 (XT.ii_ne_t (by decide)) (by decide) (by decide) ?_
  refine Go.aloadN (pc' := 12) d19_11 rfl rfl rfl ?_
  refine Go.iloadN (pc' := 13) d19_12 rfl rfl ?_
  refine Go.aloadN (pc' := 14) d19_13 rfl rfl rfl ?_
  refine Go.aastore (pc' := 15) vb ge_b rfl rfl (own_sto vb ob (Ins.of_exa xe (ww hw 135 rfl))) d19_14 (by decide) (by decide) (i := 0) rfl (nl rfl) rfl ?_
  intro h1 W2 V3
  have K4 : Keep h h1 [a, b] := (Keep.refl h [a, b]).wr W2 (Or.inl (List.mem_of_getElem? (i := 1) rfl))
  replace V3 : Arv Z h1 b kb (.object "java/lang/Object") (1 : Int32) [(.ref e)] .null := V3
  refine Go.aloadN (pc' := 16) d19_15 rfl rfl rfl ?_
  refine Go.iloadN (pc' := 17) d19_16 rfl rfl ?_
  refine Go.iconst (pc' := 18) (v := (1 : Int32)) d19_17 rfl rfl ?_
  refine Go.iadd (pc' := 19) d19_18 rfl ?_
  show Go _ _ _ _ _ _ _ _ _ _ _ _ 19 #[.val (.ref a), .val (.ref e), .val (.ref b), .val (.int (0 : Int32))] [(.int (1 : Int32)), (.ref a)]
  refine Go.putfield (pc' := 22) (host := "") (Or.inl (ww hw 55 rfl)) Via.refl (pf1.other W2 (Or.inl ne_a_b)) (xa.wr W2) (Or.inl (ww hw 56 rfl)) (ww hw 7 rfl) (ty := .int) (by decide) rfl rfl ge_a d19_19 rfl ?_
  intro h5 W6
  have K7 : Keep h h5 [a, b] := K4.wr W6 (Or.inl (List.mem_of_getElem? (i := 0) rfl))
  have f8 := (pf1.other W2 (Or.inl ne_a_b)).same W6
  have f9 : Fld Z h5 a "java/util/ArrayList" "elementData" "[Ljava/lang/Object;" (.ref b) := ((pf0.other W2 (Or.inl ne_a_b)).other W6 (Or.inr (slot_ne (Or.inl (ww hw 31 rfl)) (Or.inl (ww hw 56 rfl)) (by decide) (t := (.array (.object "java/lang/Object"))) (t' := .int) (by decide) (by decide))))
  have f10 : Fld Z h5 a "java/util/AbstractList" "modCount" "I" (.int (1 : Int32)) := ((pf2.other W2 (Or.inl ne_a_b)).other W6 (Or.inr (slot_ne (Or.inl (ww hw 28 rfl)) (Or.inl (ww hw 56 rfl)) (by decide) (t := .int) (t' := .int) (by decide) (by decide))))
  exact Go.retV rfl d19_22 ⟨rfl, K7, f9, f8, f10, (V3.other W6 (Ne.symm ne_a_b))⟩ (by decide) (by decide)
theorem d18_0 : decode jdk_38_method_25_code 0 = .ok (.aload_n 0, 1) := by decide +kernel
theorem d18_1 : decode jdk_38_method_25_code 1 = .ok (.dup, 1) := by decide +kernel
theorem d18_2 : decode jdk_38_method_25_code 2 = .ok (.getfield 63, 3) := by decide +kernel
theorem d18_5 : decode jdk_38_method_25_code 5 = .ok (.iconst 1, 1) := by decide +kernel
theorem d18_6 : decode jdk_38_method_25_code 6 = .ok (.iadd, 1) := by decide +kernel
theorem d18_7 : decode jdk_38_method_25_code 7 = .ok (.putfield 63, 3) := by decide +kernel
theorem d18_10 : decode jdk_38_method_25_code 10 = .ok (.aload_n 0, 1) := by decide +kernel
theorem d18_11 : decode jdk_38_method_25_code 11 = .ok (.aload_n 1, 1) := by decide +kernel
theorem d18_12 : decode jdk_38_method_25_code 12 = .ok (.aload_n 0, 1) := by decide +kernel
theorem d18_13 : decode jdk_38_method_25_code 13 = .ok (.getfield 9, 3) := by decide +kernel
theorem d18_16 : decode jdk_38_method_25_code 16 = .ok (.aload_n 0, 1) := by decide +kernel
theorem d18_17 : decode jdk_38_method_25_code 17 = .ok (.getfield 48, 3) := by decide +kernel
theorem d18_20 : decode jdk_38_method_25_code 20 = .ok (.invokevirtual 131, 3) := by decide +kernel
theorem d18_23 : decode jdk_38_method_25_code 23 = .ok (.iconst 1, 1) := by decide +kernel
theorem d18_24 : decode jdk_38_method_25_code 24 = .ok (.ireturn, 1) := by decide +kernel
theorem pd_14 : parseMethodDescriptor "(Ljava/lang/Object;[Ljava/lang/Object;I)V" = some ⟨[(.object "java/lang/Object"), (.array (.object "java/lang/Object")), .int], none⟩ := by decide +kernel
set_option maxRecDepth 65536 in
set_option maxHeartbeats 4000000 in
theorem c_add1_0 (l : Launch) (Z : State) (a0 : Array Value) (hw : ∀ d ∈ tables_1, d.before a0 Z = true) {n0 : Nat} (h : Heap) (a : Addr) (e : Addr) (b : Addr) (kb : ClassId) (ge_a : n0 ≤ a) (ge_b : n0 ≤ b) (ne_a_b : a ≠ b) (xa : Exa Z h a "java/util/ArrayList") (xe : Exa Z h e "java/util/ImmutableCollections$List12") (pf0 : Fld Z h a "java/util/ArrayList" "elementData" "[Ljava/lang/Object;" (.ref b)) (pf1 : Fld Z h a "java/util/ArrayList" "size" "I" (.int (0 : Int32))) (pf2 : Fld Z h a "java/util/AbstractList" "modCount" "I" (.int (0 : Int32))) (vb : Arv Z h b kb (.object "java/lang/Object") (1 : Int32) [.null] .null) (xb : Exa Z h b "[Ljava/lang/Object;") (ob : Ovr Z kb "java/lang/Object") :
    Con l (⟨"java/util/ArrayList", "add", "(Ljava/lang/Object;)Z"⟩ : MethodName) jdk_38_method_25_code 2 (some .boolean) ({ frames := 1, cells := 0, slots := 0, locals := 15 } : Room) Z n0 #[(.ref a), (.ref e)] h (fun v h' => v = some (.int (1 : Int32)) ∧ Keep h h' [a, b] ∧ Fld Z h' a "java/util/ArrayList" "elementData" "[Ljava/lang/Object;" (.ref b) ∧ Fld Z h' a "java/util/ArrayList" "size" "I" (.int (1 : Int32)) ∧ Fld Z h' a "java/util/AbstractList" "modCount" "I" (.int (1 : Int32)) ∧ Arv Z h' b kb (.object "java/lang/Object") (1 : Int32) [(.ref e)] .null) := by
  refine Con.of_go (plainFor_of_name pn_4) (Ls := #[.val (.ref a), .val (.ref e)]) (fun m => by first | (simp [entryFrame, mkF, argsToLocals, Value.category]; done) | rfl) ?_
  refine Go.aloadN (pc' := 1) d18_0 rfl rfl rfl ?_
  refine Go.dup (pc' := 2) d18_1 rfl rfl ?_
  refine Go.getfield (pc' := 5) (host := "") (Or.inl (ww hw 128 rfl)) (Via.of (ww hw 129 rfl)) pf2 d18_2 rfl ?_
  refine Go.iconst (pc' := 6) (v := (1 : Int32)) d18_5 rfl rfl ?_
  refine Go.iadd (pc' := 7) d18_6 rfl ?_
  show Go _ _ _ _ _ _ _ _ _ _ _ _ 7 #[.val (.ref a), .val (.ref e)] [(.int (1 : Int32)), (.ref a)]
  refine Go.putfield (pc' := 10) (host := "") (Or.inl (ww hw 128 rfl)) (Via.of (ww hw 129 rfl)) pf2 xa (Or.inl (ww hw 28 rfl)) (ww hw 7 rfl) (ty := .int) (by decide) rfl rfl ge_a d18_7 rfl ?_
  intro h1 W2
  have K3 : Keep h h1 [a, b] := (Keep.refl h [a, b]).wr W2 (Or.inl (List.mem_of_getElem? (i := 0) rfl))
  have f4 := pf2.same W2
  refine Go.aloadN (pc' := 11) d18_10 rfl rfl rfl ?_
  refine Go.aloadN (pc' := 12) d18_11 rfl rfl rfl ?_
  refine Go.aloadN (pc' := 13) d18_12 rfl rfl rfl ?_
  have f5 : Fld Z h1 a "java/util/ArrayList" "elementData" "[Ljava/lang/Object;" (.ref b) := (pf0.other W2 (Or.inr (slot_ne (Or.inl (ww hw 31 rfl)) (Or.inl (ww hw 28 rfl)) (by decide) (t := (.array (.object "java/lang/Object"))) (t' := .int) (by decide) (by decide))))
  refine Go.getfield (pc' := 16) (host := "") (Or.inl (ww hw 30 rfl)) Via.refl f5 d18_13 rfl ?_
  refine Go.aloadN (pc' := 17) d18_16 rfl rfl rfl ?_
  have f6 : Fld Z h1 a "java/util/ArrayList" "size" "I" (.int (0 : Int32)) := (pf1.other W2 (Or.inr (slot_ne (Or.inl (ww hw 56 rfl)) (Or.inl (ww hw 28 rfl)) (by decide) (t := .int) (t' := .int) (by decide) (by decide))))
  refine Go.getfield (pc' := 20) (host := "") (Or.inl (ww hw 55 rfl)) Via.refl f6 d18_17 rfl ?_
  refine Go.callP (cells' := 0) (slots' := 0) (pc' := 23) [(.ref e), (.ref b), (.int (0 : Int32))] [] (xa.wr W2) (ww hw 130 rfl) (ww hw 131 rfl) (ww hw 133 rfl) (ww hw 132 rfl) (ww hw 8 rfl) (ww hw 134 rfl) (by decide) (c_addP1_0 l Z a0 hw h1 a e b kb ge_a ge_b ne_a_b (xa.wr W2) (xe.wr W2) f5 f6 f4 ((vb.other W2 (Ne.symm ne_a_b))) (xb.wr W2) ob) pd_14 rfl rfl rfl rfl rfl (nl rfl) (nl rfl) (nl rfl) (nl rfl) d18_20 rfl ?_
  rintro _ h7 ⟨rfl, K7, F7_0, F7_1, F7_2, F7_3⟩
  have K8 : Keep h h7 [a, b] := K3.trans K7 (allS (Or.inl (List.mem_of_getElem? (i := 0) rfl)) (allS (Or.inl (List.mem_of_getElem? (i := 1) rfl)) all0))
  show Go _ _ _ _ _ _ _ _ _ _ _ _ 23 #[.val (.ref a), .val (.ref e)] []
  refine Go.iconst (pc' := 24) (v := (1 : Int32)) d18_23 rfl rfl ?_
  exact Go.retN (t := .boolean) rfl (by simp) d18_24 ⟨rfl, K8, F7_0, F7_1, F7_2, F7_3⟩ (by decide) (by decide)
set_option maxRecDepth 65536 in
set_option maxHeartbeats 4000000 in
theorem c_alInitI2 (l : Launch) (Z : State) (a0 : Array Value) (hw : ∀ d ∈ tables_1, d.before a0 Z = true) {n0 : Nat} (h : Heap) (a : Addr) (ge_a : n0 ≤ a) (e : Exa Z h a "java/util/ArrayList") (pf0 : Fld Z h a "java/util/ArrayList" "elementData" "[Ljava/lang/Object;" .null) (pf1 : Fld Z h a "java/util/ArrayList" "size" "I" (.int (0 : Int32))) (pf2 : Fld Z h a "java/util/AbstractList" "modCount" "I" (.int (0 : Int32))) :
    Con l (⟨"java/util/ArrayList", "<init>", "(I)V"⟩ : MethodName) jdk_38_method_1_code 2 none ({ frames := 3, cells := 1, slots := 2, locals := 36 } : Room) Z n0 #[(.ref a), (.int (2 : Int32))] h (fun v h' => ∃ b : Addr, ∃ kb : ClassId, v = none ∧ Keep h h' [a] ∧ n0 ≤ b ∧ h.size ≤ b ∧ Fld Z h' a "java/util/ArrayList" "elementData" "[Ljava/lang/Object;" (.ref b) ∧ Fld Z h' a "java/util/ArrayList" "size" "I" (.int (0 : Int32)) ∧ Fld Z h' a "java/util/AbstractList" "modCount" "I" (.int (0 : Int32)) ∧ Arv Z h' b kb (.object "java/lang/Object") (2 : Int32) [.null, .null] .null ∧ Exa Z h' b "[Ljava/lang/Object;" ∧ Ovr Z kb "java/lang/Object") := by
  refine Con.of_go (plainFor_of_name pn_4) (Ls := #[.val (.ref a), .val (.int (2 : Int32))]) (fun m => by first | (simp [entryFrame, mkF, argsToLocals, Value.category]; done) | rfl) ?_
  refine Go.aloadN (pc' := 1) d2_0 rfl rfl rfl ?_
  refine Go.callC (cells' := 0) (slots' := 0) (pc' := 4) [] [] (a := a) rfl rfl (ww hw 12 rfl) (ww hw 13 rfl) (ww hw 16 rfl) (ww hw 17 rfl) (by decide) (c_alsInit l Z a0 hw h a ge_a e pf0 pf1 pf2) pd_0 rfl rfl rfl rfl rfl (nl rfl) (nl rfl) (nl rfl) (nl rfl) d2_1 rfl ?_
  rintro _ h1 ⟨rfl, K1, F1_0, F1_1, F1_2⟩
  have K2 : Keep h h1 [a] := (Keep.refl h [a]).trans K1 (allS (Or.inl (List.mem_of_getElem? (i := 0) rfl)) all0)
  show Go _ _ _ _ _ _ _ _ _ _ _ _ 4 #[.val (.ref a), .val (.int (2 : Int32))] []
  refine Go.iloadN (pc' := 5) d2_4 rfl rfl ?_
  refine Go.ifNo (pc' := 8) d2_5 (XT.i0_le_f (by decide)) rfl ?_
  refine Go.aloadN (pc' := 9) d2_8 rfl rfl rfl ?_
  refine Go.iloadN (pc' := 10) d2_9 rfl rfl ?_
  refine Go.anewarray (pc' := 13) (cells' := 1) (slots' := 2) (cap := 2) (ww hw 77 rfl) (ww hw 78 rfl) d2_10 (ad := "[Ljava/lang/Object;") (by decide) (by decide) (by decide) rfl rfl (by decide) (by decide) (by decide) rfl ?_
  intro h3 b3 g3 E3 ge3 kA3 A3 X3 O3
  have sz4 : h.size ≤ b3 := Nat.le_trans K2.1 (Nat.le_of_eq g3.symm)
  have K5 : Keep h h3 [a] := K2.ext E3
  have V3 : Arv Z h3 b3 kA3 (.object "java/lang/Object") (2 : Int32) [.null, .null] .null := Arv.pad A3 (pad_rep [] .null 2)
  refine Go.putfield (pc' := 16) (host := "") (Or.inl (ww hw 30 rfl)) Via.refl (F1_0.ext E3) ((e.keep K1).ext E3) (Or.inl (ww hw 31 rfl)) (ww hw 7 rfl) (ty := (.array (.object "java/lang/Object"))) (by decide) rfl rfl ge_a d2_13 rfl ?_
  intro h6 W7
  have K8 : Keep h h6 [a] := K5.wr W7 (Or.inl (List.mem_of_getElem? (i := 0) rfl))
  have f9 := (F1_0.ext E3).same W7
  refine Go.goto (pc' := 60) d2_16 (by decide) (by decide) ?_
  have f10 : Fld Z h6 a "java/util/ArrayList" "size" "I" (.int (0 : Int32)) := ((F1_1.ext E3).other W7 (Or.inr (slot_ne (Or.inl (ww hw 56 rfl)) (Or.inl (ww hw 31 rfl)) (by decide) (t := .int) (t' := (.array (.object "java/lang/Object"))) (by decide) (by decide))))
  have f11 : Fld Z h6 a "java/util/AbstractList" "modCount" "I" (.int (0 : Int32)) := ((F1_2.ext E3).other W7 (Or.inr (slot_ne (Or.inl (ww hw 28 rfl)) (Or.inl (ww hw 31 rfl)) (by decide) (t := .int) (t' := (.array (.object "java/lang/Object"))) (by decide) (by decide))))
  have ne12 : a ≠ b3 := (Nat.ne_of_lt (Nat.lt_of_lt_of_le F1_2.lt (Nat.le_of_eq g3.symm)))
  exact Go.retV rfl d2_60 ⟨b3, kA3, rfl, K8, ge3, sz4, f9, f10, f11, (V3.other W7 (Ne.symm ne12)), (X3.wr W7), O3⟩ (by decide) (by decide)
set_option maxRecDepth 65536 in
set_option maxHeartbeats 4000000 in
theorem c_addP2_0 (l : Launch) (Z : State) (a0 : Array Value) (hw : ∀ d ∈ tables_1, d.before a0 Z = true) {n0 : Nat} (h : Heap) (a : Addr) (e : Addr) (b : Addr) (kb : ClassId) (ge_a : n0 ≤ a) (ge_b : n0 ≤ b) (ne_a_b : a ≠ b) (xa : Exa Z h a "java/util/ArrayList") (xe : Exa Z h e "java/util/ImmutableCollections$List12") (pf0 : Fld Z h a "java/util/ArrayList" "elementData" "[Ljava/lang/Object;" (.ref b)) (pf1 : Fld Z h a "java/util/ArrayList" "size" "I" (.int (0 : Int32))) (pf2 : Fld Z h a "java/util/AbstractList" "modCount" "I" (.int (1 : Int32))) (vb : Arv Z h b kb (.object "java/lang/Object") (2 : Int32) [.null, .null] .null) (xb : Exa Z h b "[Ljava/lang/Object;") (ob : Ovr Z kb "java/lang/Object") :
    Con l (⟨"java/util/ArrayList", "add", "(Ljava/lang/Object;[Ljava/lang/Object;I)V"⟩ : MethodName) jdk_38_method_24_code 4 none ({ frames := 0, cells := 0, slots := 0, locals := 0 } : Room) Z n0 #[(.ref a), (.ref e), (.ref b), (.int (0 : Int32))] h (fun v h' => v = none ∧ Keep h h' [a, b] ∧ Fld Z h' a "java/util/ArrayList" "elementData" "[Ljava/lang/Object;" (.ref b) ∧ Fld Z h' a "java/util/ArrayList" "size" "I" (.int (1 : Int32)) ∧ Fld Z h' a "java/util/AbstractList" "modCount" "I" (.int (1 : Int32)) ∧ Arv Z h' b kb (.object "java/lang/Object") (2 : Int32) [(.ref e), .null] .null) := by
  refine Con.of_go (plainFor_of_name pn_4) (Ls := #[.val (.ref a), .val (.ref e), .val (.ref b), .val (.int (0 : Int32))]) (fun m => by first | (simp [entryFrame, mkF, argsToLocals, Value.category]; done) | rfl) ?_
  refine Go.iloadN (pc' := 1) d19_0 rfl rfl ?_
  refine Go.aloadN (pc' := 2) d19_1 rfl rfl rfl ?_
  refine Go.arraylength (pc' := 3) vb d19_2 rfl ?_
  refine Go.icmpYes (pc' := 11) d19_3 (XT.ii_ne_t (by decide)) (by decide) (by decide) ?_
  refine Go.aloadN (pc' := 12) d19_11 rfl rfl rfl ?_
  refine Go.iloadN (pc' := 13) d19_12 rfl rfl ?_
  refine Go.aloadN (pc' := 14) d19_13 rfl rfl rfl ?_
  refine Go.aastore (pc' := 15) vb ge_b rfl rfl (own_sto vb ob (Ins.of_exa xe (ww hw 135 rfl))) d19_14 (by decide) (by decide) (i := 0) rfl (nl rfl) rfl ?_
  intro h1 W2 V3
  have K4 : Keep h h1 [a, b] := (Keep.refl h [a, b]).wr W2 (Or.inl (List.mem_of_getElem? (i := 1) rfl))
  replace V3 : Arv Z h1 b kb (.object "java/lang/Object") (2 : Int32) [(.ref e), .null] .null := V3
  refine Go.aloadN (pc' := 16) d19_15 rfl rfl rfl ?_
  refine Go.iloadN (pc' := 17) d19_16 rfl rfl ?_
  refine Go.iconst (pc' := 18) (v := (1 : Int32)) d19_17 rfl rfl ?_
  refine Go.iadd (pc' := 19) d19_18 rfl ?_
  show Go _ _ _ _ _ _ _ _ _ _ _ _ 19 #[.val (.ref a), .val (.ref e), .val (.ref b), .val (.int (0 : Int32))] [(.int (1 : Int32)), (.ref a)]
  refine Go.putfield (pc' := 22) (host := "") (Or.inl (ww hw 55 rfl)) Via.refl (pf1.other W2 (Or.inl ne_a_b)) (xa.wr W2) (Or.inl (ww hw 56 rfl)) (ww hw 7 rfl) (ty := .int) (by decide) rfl rfl ge_a d19_19 rfl ?_
  intro h5 W6
  have K7 : Keep h h5 [a, b] := K4.wr W6 (Or.inl (List.mem_of_getElem? (i := 0) rfl))
  have f8 := (pf1.other W2 (Or.inl ne_a_b)).same W6
  have f9 : Fld Z h5 a "java/util/ArrayList" "elementData" "[Ljava/lang/Object;" (.ref b) := ((pf0.other W2 (Or.inl ne_a_b)).other W6 (Or.inr (slot_ne (Or.inl (ww hw 31 rfl)) (Or.inl (ww hw 56 rfl)) (by decide) (t := (.array (.object "java/lang/Object"))) (t' := .int) (by decide) (by decide))))
  have f10 : Fld Z h5 a "java/util/AbstractList" "modCount" "I" (.int (1 : Int32)) := ((pf2.other W2 (Or.inl ne_a_b)).other W6 (Or.inr (slot_ne (Or.inl (ww hw 28 rfl)) (Or.inl (ww hw 56 rfl)) (by decide) (t := .int) (t' := .int) (by decide) (by decide))))
  exact Go.retV rfl d19_22 ⟨rfl, K7, f9, f8, f10, (V3.other W6 (Ne.symm ne_a_b))⟩ (by decide) (by decide)
set_option maxRecDepth 65536 in
set_option maxHeartbeats 4000000 in
theorem c_add2_0 (l : Launch) (Z : State) (a0 : Array Value) (hw : ∀ d ∈ tables_1, d.before a0 Z = true) {n0 : Nat} (h : Heap) (a : Addr) (e : Addr) (b : Addr) (kb : ClassId) (ge_a : n0 ≤ a) (ge_b : n0 ≤ b) (ne_a_b : a ≠ b) (xa : Exa Z h a "java/util/ArrayList") (xe : Exa Z h e "java/util/ImmutableCollections$List12") (pf0 : Fld Z h a "java/util/ArrayList" "elementData" "[Ljava/lang/Object;" (.ref b)) (pf1 : Fld Z h a "java/util/ArrayList" "size" "I" (.int (0 : Int32))) (pf2 : Fld Z h a "java/util/AbstractList" "modCount" "I" (.int (0 : Int32))) (vb : Arv Z h b kb (.object "java/lang/Object") (2 : Int32) [.null, .null] .null) (xb : Exa Z h b "[Ljava/lang/Object;") (ob : Ovr Z kb "java/lang/Object") :
    Con l (⟨"java/util/ArrayList", "add", "(Ljava/lang/Object;)Z"⟩ : MethodName) jdk_38_method_25_code 2 (some .boolean) ({ frames := 1, cells := 0, slots := 0, locals := 15 } : Room) Z n0 #[(.ref a), (.ref e)] h (fun v h' => v = some (.int (1 : Int32)) ∧ Keep h h' [a, b] ∧ Fld Z h' a "java/util/ArrayList" "elementData" "[Ljava/lang/Object;" (.ref b) ∧ Fld Z h' a "java/util/ArrayList" "size" "I" (.int (1 : Int32)) ∧ Fld Z h' a "java/util/AbstractList" "modCount" "I" (.int (1 : Int32)) ∧ Arv Z h' b kb (.object "java/lang/Object") (2 : Int32) [(.ref e), .null] .null) := by
  refine Con.of_go (plainFor_of_name pn_4) (Ls := #[.val (.ref a), .val (.ref e)]) (fun m => by first | (simp [entryFrame, mkF, argsToLocals, Value.category]; done) | rfl) ?_
  refine Go.aloadN (pc' := 1) d18_0 rfl rfl rfl ?_
  refine Go.dup (pc' := 2) d18_1 rfl rfl ?_
  refine Go.getfield (pc' := 5) (host := "") (Or.inl (ww hw 128 rfl)) (Via.of (ww hw 129 rfl)) pf2 d18_2 rfl ?_
  refine Go.iconst (pc' := 6) (v := (1 : Int32)) d18_5 rfl rfl ?_
  refine Go.iadd (pc' := 7) d18_6 rfl ?_
  show Go _ _ _ _ _ _ _ _ _ _ _ _ 7 #[.val (.ref a), .val (.ref e)] [(.int (1 : Int32)), (.ref a)]
  refine Go.putfield (pc' := 10) (host := "") (Or.inl (ww hw 128 rfl)) (Via.of (ww hw 129 rfl)) pf2 xa (Or.inl (ww hw 28 rfl)) (ww hw 7 rfl) (ty := .int) (by decide) rfl rfl ge_a d18_7 rfl ?_
  intro h1 W2
  have K3 : Keep h h1 [a, b] := (Keep.refl h [a, b]).wr W2 (Or.inl (List.mem_of_getElem? (i := 0) rfl))
  have f4 := pf2.same W2
  refine Go.aloadN (pc' := 11) d18_10 rfl rfl rfl ?_
  refine Go.aloadN (pc' := 12) d18_11 rfl rfl rfl ?_
  refine Go.aloadN (pc' := 13) d18_12 rfl rfl rfl ?_
  have f5 : Fld Z h1 a "java/util/ArrayList" "elementData" "[Ljava/lang/Object;" (.ref b) := (pf0.other W2 (Or.inr (slot_ne (Or.inl (ww hw 31 rfl)) (Or.inl (ww hw 28 rfl)) (by decide) (t := (.array (.object "java/lang/Object"))) (t' := .int) (by decide) (by decide))))
  refine Go.getfield (pc' := 16) (host := "") (Or.inl (ww hw 30 rfl)) Via.refl f5 d18_13 rfl ?_
  refine Go.aloadN (pc' := 17) d18_16 rfl rfl rfl ?_
  have f6 : Fld Z h1 a "java/util/ArrayList" "size" "I" (.int (0 : Int32)) := (pf1.other W2 (Or.inr (slot_ne (Or.inl (ww hw 56 rfl)) (Or.inl (ww hw 28 rfl)) (by decide) (t := .int) (t' := .int) (by decide) (by decide))))
  refine Go.getfield (pc' := 20) (host := "") (Or.inl (ww hw 55 rfl)) Via.refl f6 d18_17 rfl ?_
  refine Go.callP (cells' := 0) (slots' := 0) (pc' := 23) [(.ref e), (.ref b), (.int (0 : Int32))] [] (xa.wr W2) (ww hw 130 rfl) (ww hw 131 rfl) (ww hw 133 rfl) (ww hw 132 rfl) (ww hw 8 rfl) (ww hw 134 rfl) (by decide) (c_addP2_0 l Z a0 hw h1 a e b kb ge_a ge_b ne_a_b (xa.wr W2) (xe.wr W2) f5 f6 f4 ((vb.other W2 (Ne.symm ne_a_b))) (xb.wr W2) ob) pd_14 rfl rfl rfl rfl rfl (nl rfl) (nl rfl) (nl rfl) (nl rfl) d18_20 rfl ?_
  rintro _ h7 ⟨rfl, K7, F7_0, F7_1, F7_2, F7_3⟩
  have K8 : Keep h h7 [a, b] := K3.trans K7 (allS (Or.inl (List.mem_of_getElem? (i := 0) rfl)) (allS (Or.inl (List.mem_of_getElem? (i := 1) rfl)) all0))
  show Go _ _ _ _ _ _ _ _ _ _ _ _ 23 #[.val (.ref a), .val (.ref e)] []
  refine Go.iconst (pc' := 24) (v := (1 : Int32)) d18_23 rfl rfl ?_
  exact Go.retN (t := .boolean) rfl (by simp) d18_24 ⟨rfl, K8, F7_0, F7_1, F7_2, F7_3⟩ (by decide) (by decide)
set_option maxRecDepth 65536 in
set_option maxHeartbeats 4000000 in
theorem c_addP2_1 (l : Launch) (Z : State) (a0 : Array Value) (hw : ∀ d ∈ tables_1, d.before a0 Z = true) {n0 : Nat} (h : Heap) (a : Addr) (e : Addr) (b : Addr) (kb : ClassId) (e0 : Addr) (ge_a : n0 ≤ a) (ge_b : n0 ≤ b) (ne_a_b : a ≠ b) (xa : Exa Z h a "java/util/ArrayList") (xe : Exa Z h e "java/util/ImmutableCollections$List12") (pf0 : Fld Z h a "java/util/ArrayList" "elementData" "[Ljava/lang/Object;" (.ref b)) (pf1 : Fld Z h a "java/util/ArrayList" "size" "I" (.int (1 : Int32))) (pf2 : Fld Z h a "java/util/AbstractList" "modCount" "I" (.int (2 : Int32))) (vb : Arv Z h b kb (.object "java/lang/Object") (2 : Int32) [(.ref e0), .null] .null) (xb : Exa Z h b "[Ljava/lang/Object;") (ob : Ovr Z kb "java/lang/Object") :
    Con l (⟨"java/util/ArrayList", "add", "(Ljava/lang/Object;[Ljava/lang/Object;I)V"⟩ : MethodName) jdk_38_method_24_code 4 none ({ frames := 0, cells := 0, slots := 0, locals := 0 } : Room) Z n0 #[(.ref a), (.ref e), (.ref b), (.int (1 : Int32))] h (fun v h' => v = none ∧ Keep h h' [a, b] ∧ Fld Z h' a "java/util/ArrayList" "elementData" "[Ljava/lang/Object;" (.ref b) ∧ Fld Z h' a "java/util/ArrayList" "size" "I" (.int (2 : Int32)) ∧ Fld Z h' a "java/util/AbstractList" "modCount" "I" (.int (2 : Int32)) ∧ Arv Z h' b kb (.object "java/lang/Object") (2 : Int32) [(.ref e0), (.ref e)] .null) := by
  refine Con.of_go (plainFor_of_name pn_4) (Ls := #[.val (.ref a), .val (.ref e), .val (.ref b), .val (.int (1 : Int32))]) (fun m => by first | (simp [entryFrame, mkF, argsToLocals, Value.category]; done) | rfl) ?_
  refine Go.iloadN (pc' := 1) d19_0 rfl rfl ?_
  refine Go.aloadN (pc' := 2) d19_1 rfl rfl rfl ?_
  refine Go.arraylength (pc' := 3) vb d19_2 rfl ?_
  refine Go.icmpYes (pc' := 11) d19_3 (XT.ii_ne_t (by decide)) (by decide) (by decide) ?_
  refine Go.aloadN (pc' := 12) d19_11 rfl rfl rfl ?_
  refine Go.iloadN (pc' := 13) d19_12 rfl rfl ?_
  refine Go.aloadN (pc' := 14) d19_13 rfl rfl rfl ?_
  refine Go.aastore (pc' := 15) vb ge_b rfl rfl (own_sto vb ob (Ins.of_exa xe (ww hw 135 rfl))) d19_14 (by decide) (by decide) (i := 1) rfl (nl rfl) rfl ?_
  intro h1 W2 V3
  have K4 : Keep h h1 [a, b] := (Keep.refl h [a, b]).wr W2 (Or.inl (List.mem_of_getElem? (i := 1) rfl))
  replace V3 : Arv Z h1 b kb (.object "java/lang/Object") (2 : Int32) [(.ref e0), (.ref e)] .null := V3
  refine Go.aloadN (pc' := 16) d19_15 rfl rfl rfl ?_
  refine Go.iloadN (pc' := 17) d19_16 rfl rfl ?_
  refine Go.iconst (pc' := 18) (v := (1 : Int32)) d19_17 rfl rfl ?_
  refine Go.iadd (pc' := 19) d19_18 rfl ?_
  show Go _ _ _ _ _ _ _ _ _ _ _ _ 19 #[.val (.ref a), .val (.ref e), .val (.ref b), .val (.int (1 : Int32))] [(.int (2 : Int32)), (.ref a)]
  refine Go.putfield (pc' := 22) (host := "") (Or.inl (ww hw 55 rfl)) Via.refl (pf1.other W2 (Or.inl ne_a_b)) (xa.wr W2) (Or.inl (ww hw 56 rfl)) (ww hw 7 rfl) (ty := .int) (by decide) rfl rfl ge_a d19_19 rfl ?_
  intro h5 W6
  have K7 : Keep h h5 [a, b] := K4.wr W6 (Or.inl (List.mem_of_getElem? (i := 0) rfl))
  have f8 := (pf1.other W2 (Or.inl ne_a_b)).same W6
  have f9 : Fld Z h5 a "java/util/ArrayList" "elementData" "[Ljava/lang/Object;" (.ref b) := ((pf0.other W2 (Or.inl ne_a_b)).other W6 (Or.inr (slot_ne (Or.inl (ww hw 31 rfl)) (Or.inl (ww hw 56 rfl)) (by decide) (t := (.array (.object "java/lang/Object"))) (t' := .int) (by decide) (by decide))))
  have f10 : Fld Z h5 a "java/util/AbstractList" "modCount" "I" (.int (2 : Int32)) := ((pf2.other W2 (Or.inl ne_a_b)).other W6 (Or.inr (slot_ne (Or.inl (ww hw 28 rfl)) (Or.inl (ww hw 56 rfl)) (by decide) (t := .int) (t' := .int) (by decide) (by decide))))
  exact Go.retV rfl d19_22 ⟨rfl, K7, f9, f8, f10, (V3.other W6 (Ne.symm ne_a_b))⟩ (by decide) (by decide)
set_option maxRecDepth 65536 in
set_option maxHeartbeats 4000000 in
theorem c_add2_1 (l : Launch) (Z : State) (a0 : Array Value) (hw : ∀ d ∈ tables_1, d.before a0 Z = true) {n0 : Nat} (h : Heap) (a : Addr) (e : Addr) (b : Addr) (kb : ClassId) (e0 : Addr) (ge_a : n0 ≤ a) (ge_b : n0 ≤ b) (ne_a_b : a ≠ b) (xa : Exa Z h a "java/util/ArrayList") (xe : Exa Z h e "java/util/ImmutableCollections$List12") (pf0 : Fld Z h a "java/util/ArrayList" "elementData" "[Ljava/lang/Object;" (.ref b)) (pf1 : Fld Z h a "java/util/ArrayList" "size" "I" (.int (1 : Int32))) (pf2 : Fld Z h a "java/util/AbstractList" "modCount" "I" (.int (1 : Int32))) (vb : Arv Z h b kb (.object "java/lang/Object") (2 : Int32) [(.ref e0), .null] .null) (xb : Exa Z h b "[Ljava/lang/Object;") (ob : Ovr Z kb "java/lang/Object") :
    Con l (⟨"java/util/ArrayList", "add", "(Ljava/lang/Object;)Z"⟩ : MethodName) jdk_38_method_25_code 2 (some .boolean) ({ frames := 1, cells := 0, slots := 0, locals := 15 } : Room) Z n0 #[(.ref a), (.ref e)] h (fun v h' => v = some (.int (1 : Int32)) ∧ Keep h h' [a, b] ∧ Fld Z h' a "java/util/ArrayList" "elementData" "[Ljava/lang/Object;" (.ref b) ∧ Fld Z h' a "java/util/ArrayList" "size" "I" (.int (2 : Int32)) ∧ Fld Z h' a "java/util/AbstractList" "modCount" "I" (.int (2 : Int32)) ∧ Arv Z h' b kb (.object "java/lang/Object") (2 : Int32) [(.ref e0), (.ref e)] .null) := by
  refine Con.of_go (plainFor_of_name pn_4) (Ls := #[.val (.ref a), .val (.ref e)]) (fun m => by first | (simp [entryFrame, mkF, argsToLocals, Value.category]; done) | rfl) ?_
  refine Go.aloadN (pc' := 1) d18_0 rfl rfl rfl ?_
  refine Go.dup (pc' := 2) d18_1 rfl rfl ?_
  refine Go.getfield (pc' := 5) (host := "") (Or.inl (ww hw 128 rfl)) (Via.of (ww hw 129 rfl)) pf2 d18_2 rfl ?_
  refine Go.iconst (pc' := 6) (v := (1 : Int32)) d18_5 rfl rfl ?_
  refine Go.iadd (pc' := 7) d18_6 rfl ?_
  show Go _ _ _ _ _ _ _ _ _ _ _ _ 7 #[.val (.ref a), .val (.ref e)] [(.int (2 : Int32)), (.ref a)]
  refine Go.putfield (pc' := 10) (host := "") (Or.inl (ww hw 128 rfl)) (Via.of (ww hw 129 rfl)) pf2 xa (Or.inl (ww hw 28 rfl)) (ww hw 7 rfl) (ty := .int) (by decide) rfl rfl ge_a d18_7 rfl ?_
  intro h1 W2
  have K3 : Keep h h1 [a, b] := (Keep.refl h [a, b]).wr W2 (Or.inl (List.mem_of_getElem? (i := 0) rfl))
  have f4 := pf2.same W2
  refine Go.aloadN (pc' := 11) d18_10 rfl rfl rfl ?_
  refine Go.aloadN (pc' := 12) d18_11 rfl rfl rfl ?_
  refine Go.aloadN (pc' := 13) d18_12 rfl rfl rfl ?_
  have f5 : Fld Z h1 a "java/util/ArrayList" "elementData" "[Ljava/lang/Object;" (.ref b) := (pf0.other W2 (Or.inr (slot_ne (Or.inl (ww hw 31 rfl)) (Or.inl (ww hw 28 rfl)) (by decide) (t := (.array (.object "java/lang/Object"))) (t' := .int) (by decide) (by decide))))
  refine Go.getfield (pc' := 16) (host := "") (Or.inl (ww hw 30 rfl)) Via.refl f5 d18_13 rfl ?_
  refine Go.aloadN (pc' := 17) d18_16 rfl rfl rfl ?_
  have f6 : Fld Z h1 a "java/util/ArrayList" "size" "I" (.int (1 : Int32)) := (pf1.other W2 (Or.inr (slot_ne (Or.inl (ww hw 56 rfl)) (Or.inl (ww hw 28 rfl)) (by decide) (t := .int) (t' := .int) (by decide) (by decide))))
  refine Go.getfield (pc' := 20) (host := "") (Or.inl (ww hw 55 rfl)) Via.refl f6 d18_17 rfl ?_
  refine Go.callP (cells' := 0) (slots' := 0) (pc' := 23) [(.ref e), (.ref b), (.int (1 : Int32))] [] (xa.wr W2) (ww hw 130 rfl) (ww hw 131 rfl) (ww hw 133 rfl) (ww hw 132 rfl) (ww hw 8 rfl) (ww hw 134 rfl) (by decide) (c_addP2_1 l Z a0 hw h1 a e b kb e0 ge_a ge_b ne_a_b (xa.wr W2) (xe.wr W2) f5 f6 f4 ((vb.other W2 (Ne.symm ne_a_b))) (xb.wr W2) ob) pd_14 rfl rfl rfl rfl rfl (nl rfl) (nl rfl) (nl rfl) (nl rfl) d18_20 rfl ?_
  rintro _ h7 ⟨rfl, K7, F7_0, F7_1, F7_2, F7_3⟩
  have K8 : Keep h h7 [a, b] := K3.trans K7 (allS (Or.inl (List.mem_of_getElem? (i := 0) rfl)) (allS (Or.inl (List.mem_of_getElem? (i := 1) rfl)) all0))
  show Go _ _ _ _ _ _ _ _ _ _ _ _ 23 #[.val (.ref a), .val (.ref e)] []
  refine Go.iconst (pc' := 24) (v := (1 : Int32)) d18_23 rfl rfl ?_
  exact Go.retN (t := .boolean) rfl (by simp) d18_24 ⟨rfl, K8, F7_0, F7_1, F7_2, F7_3⟩ (by decide) (by decide)
set_option maxRecDepth 65536 in
set_option maxHeartbeats 4000000 in
theorem c_alInitI3 (l : Launch) (Z : State) (a0 : Array Value) (hw : ∀ d ∈ tables_1, d.before a0 Z = true) {n0 : Nat} (h : Heap) (a : Addr) (ge_a : n0 ≤ a) (e : Exa Z h a "java/util/ArrayList") (pf0 : Fld Z h a "java/util/ArrayList" "elementData" "[Ljava/lang/Object;" .null) (pf1 : Fld Z h a "java/util/ArrayList" "size" "I" (.int (0 : Int32))) (pf2 : Fld Z h a "java/util/AbstractList" "modCount" "I" (.int (0 : Int32))) :
    Con l (⟨"java/util/ArrayList", "<init>", "(I)V"⟩ : MethodName) jdk_38_method_1_code 2 none ({ frames := 3, cells := 1, slots := 3, locals := 36 } : Room) Z n0 #[(.ref a), (.int (3 : Int32))] h (fun v h' => ∃ b : Addr, ∃ kb : ClassId, v = none ∧ Keep h h' [a] ∧ n0 ≤ b ∧ h.size ≤ b ∧ Fld Z h' a "java/util/ArrayList" "elementData" "[Ljava/lang/Object;" (.ref b) ∧ Fld Z h' a "java/util/ArrayList" "size" "I" (.int (0 : Int32)) ∧ Fld Z h' a "java/util/AbstractList" "modCount" "I" (.int (0 : Int32)) ∧ Arv Z h' b kb (.object "java/lang/Object") (3 : Int32) [.null, .null, .null] .null ∧ Exa Z h' b "[Ljava/lang/Object;" ∧ Ovr Z kb "java/lang/Object") := by
  refine Con.of_go (plainFor_of_name pn_4) (Ls := #[.val (.ref a), .val (.int (3 : Int32))]) (fun m => by first | (simp [entryFrame, mkF, argsToLocals, Value.category]; done) | rfl) ?_
  refine Go.aloadN (pc' := 1) d2_0 rfl rfl rfl ?_
  refine Go.callC (cells' := 0) (slots' := 0) (pc' := 4) [] [] (a := a) rfl rfl (ww hw 12 rfl) (ww hw 13 rfl) (ww hw 16 rfl) (ww hw 17 rfl) (by decide) (c_alsInit l Z a0 hw h a ge_a e pf0 pf1 pf2) pd_0 rfl rfl rfl rfl rfl (nl rfl) (nl rfl) (nl rfl) (nl rfl) d2_1 rfl ?_
  rintro _ h1 ⟨rfl, K1, F1_0, F1_1, F1_2⟩
  have K2 : Keep h h1 [a] := (Keep.refl h [a]).trans K1 (allS (Or.inl (List.mem_of_getElem? (i := 0) rfl)) all0)
  show Go _ _ _ _ _ _ _ _ _ _ _ _ 4 #[.val (.ref a), .val (.int (3 : Int32))] []
  refine Go.iloadN (pc' := 5) d2_4 rfl rfl ?_
  refine Go.ifNo (pc' := 8) d2_5 (XT.i0_le_f (by decide)) rfl ?_
  refine Go.aloadN (pc' := 9) d2_8 rfl rfl rfl ?_
  refine Go.iloadN (pc' := 10) d2_9 rfl rfl ?_
  refine Go.anewarray (pc' := 13) (cells' := 1) (slots' := 3) (cap := 3) (ww hw 77 rfl) (ww hw 78 rfl) d2_10 (ad := "[Ljava/lang/Object;") (by decide) (by decide) (by decide) rfl rfl (by decide) (by decide) (by decide) rfl ?_
  intro h3 b3 g3 E3 ge3 kA3 A3 X3 O3
  have sz4 : h.size ≤ b3 := Nat.le_trans K2.1 (Nat.le_of_eq g3.symm)
  have K5 : Keep h h3 [a] := K2.ext E3
  have V3 : Arv Z h3 b3 kA3 (.object "java/lang/Object") (3 : Int32) [.null, .null, .null] .null := Arv.pad A3 (pad_rep [] .null 3)
  refine Go.putfield (pc' := 16) (host := "") (Or.inl (ww hw 30 rfl)) Via.refl (F1_0.ext E3) ((e.keep K1).ext E3) (Or.inl (ww hw 31 rfl)) (ww hw 7 rfl) (ty := (.array (.object "java/lang/Object"))) (by decide) rfl rfl ge_a d2_13 rfl ?_
  intro h6 W7
  have K8 : Keep h h6 [a] := K5.wr W7 (Or.inl (List.mem_of_getElem? (i := 0) rfl))
  have f9 := (F1_0.ext E3).same W7
  refine Go.goto (pc' := 60) d2_16 (by decide) (by decide) ?_
  have f10 : Fld Z h6 a "java/util/ArrayList" "size" "I" (.int (0 : Int32)) := ((F1_1.ext E3).other W7 (Or.inr (slot_ne (Or.inl (ww hw 56 rfl)) (Or.inl (ww hw 31 rfl)) (by decide) (t := .int) (t' := (.array (.object "java/lang/Object"))) (by decide) (by decide))))
  have f11 : Fld Z h6 a "java/util/AbstractList" "modCount" "I" (.int (0 : Int32)) := ((F1_2.ext E3).other W7 (Or.inr (slot_ne (Or.inl (ww hw 28 rfl)) (Or.inl (ww hw 31 rfl)) (by decide) (t := .int) (t' := (.array (.object "java/lang/Object"))) (by decide) (by decide))))
  have ne12 : a ≠ b3 := (Nat.ne_of_lt (Nat.lt_of_lt_of_le F1_2.lt (Nat.le_of_eq g3.symm)))
  exact Go.retV rfl d2_60 ⟨b3, kA3, rfl, K8, ge3, sz4, f9, f10, f11, (V3.other W7 (Ne.symm ne12)), (X3.wr W7), O3⟩ (by decide) (by decide)
set_option maxRecDepth 65536 in
set_option maxHeartbeats 4000000 in
theorem c_addP3_0 (l : Launch) (Z : State) (a0 : Array Value) (hw : ∀ d ∈ tables_1, d.before a0 Z = true) {n0 : Nat} (h : Heap) (a : Addr) (e : Addr) (b : Addr) (kb : ClassId) (ge_a : n0 ≤ a) (ge_b : n0 ≤ b) (ne_a_b : a ≠ b) (xa : Exa Z h a "java/util/ArrayList") (xe : Exa Z h e "java/util/ImmutableCollections$List12") (pf0 : Fld Z h a "java/util/ArrayList" "elementData" "[Ljava/lang/Object;" (.ref b)) (pf1 : Fld Z h a "java/util/ArrayList" "size" "I" (.int (0 : Int32))) (pf2 : Fld Z h a "java/util/AbstractList" "modCount" "I" (.int (1 : Int32))) (vb : Arv Z h b kb (.object "java/lang/Object") (3 : Int32) [.null, .null, .null] .null) (xb : Exa Z h b "[Ljava/lang/Object;") (ob : Ovr Z kb "java/lang/Object") :
    Con l (⟨"java/util/ArrayList", "add", "(Ljava/lang/Object;[Ljava/lang/Object;I)V"⟩ : MethodName) jdk_38_method_24_code 4 none ({ frames := 0, cells := 0, slots := 0, locals := 0 } : Room) Z n0 #[(.ref a), (.ref e), (.ref b), (.int (0 : Int32))] h (fun v h' => v = none ∧ Keep h h' [a, b] ∧ Fld Z h' a "java/util/ArrayList" "elementData" "[Ljava/lang/Object;" (.ref b) ∧ Fld Z h' a "java/util/ArrayList" "size" "I" (.int (1 : Int32)) ∧ Fld Z h' a "java/util/AbstractList" "modCount" "I" (.int (1 : Int32)) ∧ Arv Z h' b kb (.object "java/lang/Object") (3 : Int32) [(.ref e), .null, .null] .null) := by
  refine Con.of_go (plainFor_of_name pn_4) (Ls := #[.val (.ref a), .val (.ref e), .val (.ref b), .val (.int (0 : Int32))]) (fun m => by first | (simp [entryFrame, mkF, argsToLocals, Value.category]; done) | rfl) ?_
  refine Go.iloadN (pc' := 1) d19_0 rfl rfl ?_
  refine Go.aloadN (pc' := 2) d19_1 rfl rfl rfl ?_
  refine Go.arraylength (pc' := 3) vb d19_2 rfl ?_
  refine Go.icmpYes (pc' := 11) d19_3 (XT.ii_ne_t (by decide)) (by decide) (by decide) ?_
  refine Go.aloadN (pc' := 12) d19_11 rfl rfl rfl ?_
  refine Go.iloadN (pc' := 13) d19_12 rfl rfl ?_
  refine Go.aloadN (pc' := 14) d19_13 rfl rfl rfl ?_
  refine Go.aastore (pc' := 15) vb ge_b rfl rfl (own_sto vb ob (Ins.of_exa xe (ww hw 135 rfl))) d19_14 (by decide) (by decide) (i := 0) rfl (nl rfl) rfl ?_
  intro h1 W2 V3
  have K4 : Keep h h1 [a, b] := (Keep.refl h [a, b]).wr W2 (Or.inl (List.mem_of_getElem? (i := 1) rfl))
  replace V3 : Arv Z h1 b kb (.object "java/lang/Object") (3 : Int32) [(.ref e), .null, .null] .null := V3
  refine Go.aloadN (pc' := 16) d19_15 rfl rfl rfl ?_
  refine Go.iloadN (pc' := 17) d19_16 rfl rfl ?_
  refine Go.iconst (pc' := 18) (v := (1 : Int32)) d19_17 rfl rfl ?_
  refine Go.iadd (pc' := 19) d19_18 rfl ?_
  show Go _ _ _ _ _ _ _ _ _ _ _ _ 19 #[.val (.ref a), .val (.ref e), .val (.ref b), .val (.int (0 : Int32))] [(.int (1 : Int32)), (.ref a)]
  refine Go.putfield (pc' := 22) (host := "") (Or.inl (ww hw 55 rfl)) Via.refl (pf1.other W2 (Or.inl ne_a_b)) (xa.wr W2) (Or.inl (ww hw 56 rfl)) (ww hw 7 rfl) (ty := .int) (by decide) rfl rfl ge_a d19_19 rfl ?_
  intro h5 W6
  have K7 : Keep h h5 [a, b] := K4.wr W6 (Or.inl (List.mem_of_getElem? (i := 0) rfl))
  have f8 := (pf1.other W2 (Or.inl ne_a_b)).same W6
  have f9 : Fld Z h5 a "java/util/ArrayList" "elementData" "[Ljava/lang/Object;" (.ref b) := ((pf0.other W2 (Or.inl ne_a_b)).other W6 (Or.inr (slot_ne (Or.inl (ww hw 31 rfl)) (Or.inl (ww hw 56 rfl)) (by decide) (t := (.array (.object "java/lang/Object"))) (t' := .int) (by decide) (by decide))))
  have f10 : Fld Z h5 a "java/util/AbstractList" "modCount" "I" (.int (1 : Int32)) := ((pf2.other W2 (Or.inl ne_a_b)).other W6 (Or.inr (slot_ne (Or.inl (ww hw 28 rfl)) (Or.inl (ww hw 56 rfl)) (by decide) (t := .int) (t' := .int) (by decide) (by decide))))
  exact Go.retV rfl d19_22 ⟨rfl, K7, f9, f8, f10, (V3.other W6 (Ne.symm ne_a_b))⟩ (by decide) (by decide)
set_option maxRecDepth 65536 in
set_option maxHeartbeats 4000000 in
theorem c_add3_0 (l : Launch) (Z : State) (a0 : Array Value) (hw : ∀ d ∈ tables_1, d.before a0 Z = true) {n0 : Nat} (h : Heap) (a : Addr) (e : Addr) (b : Addr) (kb : ClassId) (ge_a : n0 ≤ a) (ge_b : n0 ≤ b) (ne_a_b : a ≠ b) (xa : Exa Z h a "java/util/ArrayList") (xe : Exa Z h e "java/util/ImmutableCollections$List12") (pf0 : Fld Z h a "java/util/ArrayList" "elementData" "[Ljava/lang/Object;" (.ref b)) (pf1 : Fld Z h a "java/util/ArrayList" "size" "I" (.int (0 : Int32))) (pf2 : Fld Z h a "java/util/AbstractList" "modCount" "I" (.int (0 : Int32))) (vb : Arv Z h b kb (.object "java/lang/Object") (3 : Int32) [.null, .null, .null] .null) (xb : Exa Z h b "[Ljava/lang/Object;") (ob : Ovr Z kb "java/lang/Object") :
    Con l (⟨"java/util/ArrayList", "add", "(Ljava/lang/Object;)Z"⟩ : MethodName) jdk_38_method_25_code 2 (some .boolean) ({ frames := 1, cells := 0, slots := 0, locals := 15 } : Room) Z n0 #[(.ref a), (.ref e)] h (fun v h' => v = some (.int (1 : Int32)) ∧ Keep h h' [a, b] ∧ Fld Z h' a "java/util/ArrayList" "elementData" "[Ljava/lang/Object;" (.ref b) ∧ Fld Z h' a "java/util/ArrayList" "size" "I" (.int (1 : Int32)) ∧ Fld Z h' a "java/util/AbstractList" "modCount" "I" (.int (1 : Int32)) ∧ Arv Z h' b kb (.object "java/lang/Object") (3 : Int32) [(.ref e), .null, .null] .null) := by
  refine Con.of_go (plainFor_of_name pn_4) (Ls := #[.val (.ref a), .val (.ref e)]) (fun m => by first | (simp [entryFrame, mkF, argsToLocals, Value.category]; done) | rfl) ?_
  refine Go.aloadN (pc' := 1) d18_0 rfl rfl rfl ?_
  refine Go.dup (pc' := 2) d18_1 rfl rfl ?_
  refine Go.getfield (pc' := 5) (host := "") (Or.inl (ww hw 128 rfl)) (Via.of (ww hw 129 rfl)) pf2 d18_2 rfl ?_
  refine Go.iconst (pc' := 6) (v := (1 : Int32)) d18_5 rfl rfl ?_
  refine Go.iadd (pc' := 7) d18_6 rfl ?_
  show Go _ _ _ _ _ _ _ _ _ _ _ _ 7 #[.val (.ref a), .val (.ref e)] [(.int (1 : Int32)), (.ref a)]
  refine Go.putfield (pc' := 10) (host := "") (Or.inl (ww hw 128 rfl)) (Via.of (ww hw 129 rfl)) pf2 xa (Or.inl (ww hw 28 rfl)) (ww hw 7 rfl) (ty := .int) (by decide) rfl rfl ge_a d18_7 rfl ?_
  intro h1 W2
  have K3 : Keep h h1 [a, b] := (Keep.refl h [a, b]).wr W2 (Or.inl (List.mem_of_getElem? (i := 0) rfl))
  have f4 := pf2.same W2
  refine Go.aloadN (pc' := 11) d18_10 rfl rfl rfl ?_
  refine Go.aloadN (pc' := 12) d18_11 rfl rfl rfl ?_
  refine Go.aloadN (pc' := 13) d18_12 rfl rfl rfl ?_
  have f5 : Fld Z h1 a "java/util/ArrayList" "elementData" "[Ljava/lang/Object;" (.ref b) := (pf0.other W2 (Or.inr (slot_ne (Or.inl (ww hw 31 rfl)) (Or.inl (ww hw 28 rfl)) (by decide) (t := (.array (.object "java/lang/Object"))) (t' := .int) (by decide) (by decide))))
  refine Go.getfield (pc' := 16) (host := "") (Or.inl (ww hw 30 rfl)) Via.refl f5 d18_13 rfl ?_
  refine Go.aloadN (pc' := 17) d18_16 rfl rfl rfl ?_
  have f6 : Fld Z h1 a "java/util/ArrayList" "size" "I" (.int (0 : Int32)) := (pf1.other W2 (Or.inr (slot_ne (Or.inl (ww hw 56 rfl)) (Or.inl (ww hw 28 rfl)) (by decide) (t := .int) (t' := .int) (by decide) (by decide))))
  refine Go.getfield (pc' := 20) (host := "") (Or.inl (ww hw 55 rfl)) Via.refl f6 d18_17 rfl ?_
  refine Go.callP (cells' := 0) (slots' := 0) (pc' := 23) [(.ref e), (.ref b), (.int (0 : Int32))] [] (xa.wr W2) (ww hw 130 rfl) (ww hw 131 rfl) (ww hw 133 rfl) (ww hw 132 rfl) (ww hw 8 rfl) (ww hw 134 rfl) (by decide) (c_addP3_0 l Z a0 hw h1 a e b kb ge_a ge_b ne_a_b (xa.wr W2) (xe.wr W2) f5 f6 f4 ((vb.other W2 (Ne.symm ne_a_b))) (xb.wr W2) ob) pd_14 rfl rfl rfl rfl rfl (nl rfl) (nl rfl) (nl rfl) (nl rfl) d18_20 rfl ?_
  rintro _ h7 ⟨rfl, K7, F7_0, F7_1, F7_2, F7_3⟩
  have K8 : Keep h h7 [a, b] := K3.trans K7 (allS (Or.inl (List.mem_of_getElem? (i := 0) rfl)) (allS (Or.inl (List.mem_of_getElem? (i := 1) rfl)) all0))
  show Go _ _ _ _ _ _ _ _ _ _ _ _ 23 #[.val (.ref a), .val (.ref e)] []
  refine Go.iconst (pc' := 24) (v := (1 : Int32)) d18_23 rfl rfl ?_
  exact Go.retN (t := .boolean) rfl (by simp) d18_24 ⟨rfl, K8, F7_0, F7_1, F7_2, F7_3⟩ (by decide) (by decide)
set_option maxRecDepth 65536 in
set_option maxHeartbeats 4000000 in
theorem c_addP3_1 (l : Launch) (Z : State) (a0 : Array Value) (hw : ∀ d ∈ tables_1, d.before a0 Z = true) {n0 : Nat} (h : Heap) (a : Addr) (e : Addr) (b : Addr) (kb : ClassId) (e0 : Addr) (ge_a : n0 ≤ a) (ge_b : n0 ≤ b) (ne_a_b : a ≠ b) (xa : Exa Z h a "java/util/ArrayList") (xe : Exa Z h e "java/util/ImmutableCollections$List12") (pf0 : Fld Z h a "java/util/ArrayList" "elementData" "[Ljava/lang/Object;" (.ref b)) (pf1 : Fld Z h a "java/util/ArrayList" "size" "I" (.int (1 : Int32))) (pf2 : Fld Z h a "java/util/AbstractList" "modCount" "I" (.int (2 : Int32))) (vb : Arv Z h b kb (.object "java/lang/Object") (3 : Int32) [(.ref e0), .null, .null] .null) (xb : Exa Z h b "[Ljava/lang/Object;") (ob : Ovr Z kb "java/lang/Object") :
    Con l (⟨"java/util/ArrayList", "add", "(Ljava/lang/Object;[Ljava/lang/Object;I)V"⟩ : MethodName) jdk_38_method_24_code 4 none ({ frames := 0, cells := 0, slots := 0, locals := 0 } : Room) Z n0 #[(.ref a), (.ref e), (.ref b), (.int (1 : Int32))] h (fun v h' => v = none ∧ Keep h h' [a, b] ∧ Fld Z h' a "java/util/ArrayList" "elementData" "[Ljava/lang/Object;" (.ref b) ∧ Fld Z h' a "java/util/ArrayList" "size" "I" (.int (2 : Int32)) ∧ Fld Z h' a "java/util/AbstractList" "modCount" "I" (.int (2 : Int32)) ∧ Arv Z h' b kb (.object "java/lang/Object") (3 : Int32) [(.ref e0), (.ref e), .null] .null) := by
  refine Con.of_go (plainFor_of_name pn_4) (Ls := #[.val (.ref a), .val (.ref e), .val (.ref b), .val (.int (1 : Int32))]) (fun m => by first | (simp [entryFrame, mkF, argsToLocals, Value.category]; done) | rfl) ?_
  refine Go.iloadN (pc' := 1) d19_0 rfl rfl ?_
  refine Go.aloadN (pc' := 2) d19_1 rfl rfl rfl ?_
  refine Go.arraylength (pc' := 3) vb d19_2 rfl ?_
  refine Go.icmpYes (pc' := 11) d19_3 (XT.ii_ne_t (by decide)) (by decide) (by decide) ?_
  refine Go.aloadN (pc' := 12) d19_11 rfl rfl rfl ?_
  refine Go.iloadN (pc' := 13) d19_12 rfl rfl ?_
  refine Go.aloadN (pc' := 14) d19_13 rfl rfl rfl ?_
  refine Go.aastore (pc' := 15) vb ge_b rfl rfl (own_sto vb ob (Ins.of_exa xe (ww hw 135 rfl))) d19_14 (by decide) (by decide) (i := 1) rfl (nl rfl) rfl ?_
  intro h1 W2 V3
  have K4 : Keep h h1 [a, b] := (Keep.refl h [a, b]).wr W2 (Or.inl (List.mem_of_getElem? (i := 1) rfl))
  replace V3 : Arv Z h1 b kb (.object "java/lang/Object") (3 : Int32) [(.ref e0), (.ref e), .null] .null := V3
  refine Go.aloadN (pc' := 16) d19_15 rfl rfl rfl ?_
  refine Go.iloadN (pc' := 17) d19_16 rfl rfl ?_
  refine Go.iconst (pc' := 18) (v := (1 : Int32)) d19_17 rfl rfl ?_
  refine Go.iadd (pc' := 19) d19_18 rfl ?_
  show Go _ _ _ _ _ _ _ _ _ _ _ _ 19 #[.val (.ref a), .val (.ref e), .val (.ref b), .val (.int (1 : Int32))] [(.int (2 : Int32)), (.ref a)]
  refine Go.putfield (pc' := 22) (host := "") (Or.inl (ww hw 55 rfl)) Via.refl (pf1.other W2 (Or.inl ne_a_b)) (xa.wr W2) (Or.inl (ww hw 56 rfl)) (ww hw 7 rfl) (ty := .int) (by decide) rfl rfl ge_a d19_19 rfl ?_
  intro h5 W6
  have K7 : Keep h h5 [a, b] := K4.wr W6 (Or.inl (List.mem_of_getElem? (i := 0) rfl))
  have f8 := (pf1.other W2 (Or.inl ne_a_b)).same W6
  have f9 : Fld Z h5 a "java/util/ArrayList" "elementData" "[Ljava/lang/Object;" (.ref b) := ((pf0.other W2 (Or.inl ne_a_b)).other W6 (Or.inr (slot_ne (Or.inl (ww hw 31 rfl)) (Or.inl (ww hw 56 rfl)) (by decide) (t := (.array (.object "java/lang/Object"))) (t' := .int) (by decide) (by decide))))
  have f10 : Fld Z h5 a "java/util/AbstractList" "modCount" "I" (.int (2 : Int32)) := ((pf2.other W2 (Or.inl ne_a_b)).other W6 (Or.inr (slot_ne (Or.inl (ww hw 28 rfl)) (Or.inl (ww hw 56 rfl)) (by decide) (t := .int) (t' := .int) (by decide) (by decide))))
  exact Go.retV rfl d19_22 ⟨rfl, K7, f9, f8, f10, (V3.other W6 (Ne.symm ne_a_b))⟩ (by decide) (by decide)
set_option maxRecDepth 65536 in
set_option maxHeartbeats 4000000 in
theorem c_add3_1 (l : Launch) (Z : State) (a0 : Array Value) (hw : ∀ d ∈ tables_1, d.before a0 Z = true) {n0 : Nat} (h : Heap) (a : Addr) (e : Addr) (b : Addr) (kb : ClassId) (e0 : Addr) (ge_a : n0 ≤ a) (ge_b : n0 ≤ b) (ne_a_b : a ≠ b) (xa : Exa Z h a "java/util/ArrayList") (xe : Exa Z h e "java/util/ImmutableCollections$List12") (pf0 : Fld Z h a "java/util/ArrayList" "elementData" "[Ljava/lang/Object;" (.ref b)) (pf1 : Fld Z h a "java/util/ArrayList" "size" "I" (.int (1 : Int32))) (pf2 : Fld Z h a "java/util/AbstractList" "modCount" "I" (.int (1 : Int32))) (vb : Arv Z h b kb (.object "java/lang/Object") (3 : Int32) [(.ref e0), .null, .null] .null) (xb : Exa Z h b "[Ljava/lang/Object;") (ob : Ovr Z kb "java/lang/Object") :
    Con l (⟨"java/util/ArrayList", "add", "(Ljava/lang/Object;)Z"⟩ : MethodName) jdk_38_method_25_code 2 (some .boolean) ({ frames := 1, cells := 0, slots := 0, locals := 15 } : Room) Z n0 #[(.ref a), (.ref e)] h (fun v h' => v = some (.int (1 : Int32)) ∧ Keep h h' [a, b] ∧ Fld Z h' a "java/util/ArrayList" "elementData" "[Ljava/lang/Object;" (.ref b) ∧ Fld Z h' a "java/util/ArrayList" "size" "I" (.int (2 : Int32)) ∧ Fld Z h' a "java/util/AbstractList" "modCount" "I" (.int (2 : Int32)) ∧ Arv Z h' b kb (.object "java/lang/Object") (3 : Int32) [(.ref e0), (.ref e), .null] .null) := by
  refine Con.of_go (plainFor_of_name pn_4) (Ls := #[.val (.ref a), .val (.ref e)]) (fun m => by first | (simp [entryFrame, mkF, argsToLocals, Value.category]; done) | rfl) ?_
  refine Go.aloadN (pc' := 1) d18_0 rfl rfl rfl ?_
  refine Go.dup (pc' := 2) d18_1 rfl rfl ?_
  refine Go.getfield (pc' := 5) (host := "") (Or.inl (ww hw 128 rfl)) (Via.of (ww hw 129 rfl)) pf2 d18_2 rfl ?_
  refine Go.iconst (pc' := 6) (v := (1 : Int32)) d18_5 rfl rfl ?_
  refine Go.iadd (pc' := 7) d18_6 rfl ?_
  show Go _ _ _ _ _ _ _ _ _ _ _ _ 7 #[.val (.ref a), .val (.ref e)] [(.int (2 : Int32)), (.ref a)]
  refine Go.putfield (pc' := 10) (host := "") (Or.inl (ww hw 128 rfl)) (Via.of (ww hw 129 rfl)) pf2 xa (Or.inl (ww hw 28 rfl)) (ww hw 7 rfl) (ty := .int) (by decide) rfl rfl ge_a d18_7 rfl ?_
  intro h1 W2
  have K3 : Keep h h1 [a, b] := (Keep.refl h [a, b]).wr W2 (Or.inl (List.mem_of_getElem? (i := 0) rfl))
  have f4 := pf2.same W2
  refine Go.aloadN (pc' := 11) d18_10 rfl rfl rfl ?_
  refine Go.aloadN (pc' := 12) d18_11 rfl rfl rfl ?_
  refine Go.aloadN (pc' := 13) d18_12 rfl rfl rfl ?_
  have f5 : Fld Z h1 a "java/util/ArrayList" "elementData" "[Ljava/lang/Object;" (.ref b) := (pf0.other W2 (Or.inr (slot_ne (Or.inl (ww hw 31 rfl)) (Or.inl (ww hw 28 rfl)) (by decide) (t := (.array (.object "java/lang/Object"))) (t' := .int) (by decide) (by decide))))
  refine Go.getfield (pc' := 16) (host := "") (Or.inl (ww hw 30 rfl)) Via.refl f5 d18_13 rfl ?_
  refine Go.aloadN (pc' := 17) d18_16 rfl rfl rfl ?_
  have f6 : Fld Z h1 a "java/util/ArrayList" "size" "I" (.int (1 : Int32)) := (pf1.other W2 (Or.inr (slot_ne (Or.inl (ww hw 56 rfl)) (Or.inl (ww hw 28 rfl)) (by decide) (t := .int) (t' := .int) (by decide) (by decide))))
  refine Go.getfield (pc' := 20) (host := "") (Or.inl (ww hw 55 rfl)) Via.refl f6 d18_17 rfl ?_
  refine Go.callP (cells' := 0) (slots' := 0) (pc' := 23) [(.ref e), (.ref b), (.int (1 : Int32))] [] (xa.wr W2) (ww hw 130 rfl) (ww hw 131 rfl) (ww hw 133 rfl) (ww hw 132 rfl) (ww hw 8 rfl) (ww hw 134 rfl) (by decide) (c_addP3_1 l Z a0 hw h1 a e b kb e0 ge_a ge_b ne_a_b (xa.wr W2) (xe.wr W2) f5 f6 f4 ((vb.other W2 (Ne.symm ne_a_b))) (xb.wr W2) ob) pd_14 rfl rfl rfl rfl rfl (nl rfl) (nl rfl) (nl rfl) (nl rfl) d18_20 rfl ?_
  rintro _ h7 ⟨rfl, K7, F7_0, F7_1, F7_2, F7_3⟩
  have K8 : Keep h h7 [a, b] := K3.trans K7 (allS (Or.inl (List.mem_of_getElem? (i := 0) rfl)) (allS (Or.inl (List.mem_of_getElem? (i := 1) rfl)) all0))
  show Go _ _ _ _ _ _ _ _ _ _ _ _ 23 #[.val (.ref a), .val (.ref e)] []
  refine Go.iconst (pc' := 24) (v := (1 : Int32)) d18_23 rfl rfl ?_
  exact Go.retN (t := .boolean) rfl (by simp) d18_24 ⟨rfl, K8, F7_0, F7_1, F7_2, F7_3⟩ (by decide) (by decide)
set_option maxRecDepth 65536 in
set_option maxHeartbeats 4000000 in
theorem c_addP3_2 (l : Launch) (Z : State) (a0 : Array Value) (hw : ∀ d ∈ tables_1, d.before a0 Z = true) {n0 : Nat} (h : Heap) (a : Addr) (e : Addr) (b : Addr) (kb : ClassId) (e0 : Addr) (e1 : Addr) (ge_a : n0 ≤ a) (ge_b : n0 ≤ b) (ne_a_b : a ≠ b) (xa : Exa Z h a "java/util/ArrayList") (xe : Exa Z h e "java/util/ImmutableCollections$List12") (pf0 : Fld Z h a "java/util/ArrayList" "elementData" "[Ljava/lang/Object;" (.ref b)) (pf1 : Fld Z h a "java/util/ArrayList" "size" "I" (.int (2 : Int32))) (pf2 : Fld Z h a "java/util/AbstractList" "modCount" "I" (.int (3 : Int32))) (vb : Arv Z h b kb (.object "java/lang/Object") (3 : Int32) [(.ref e0), (.ref e1), .null] .null) (xb : Exa Z h b "[Ljava/lang/Object;") (ob : Ovr Z kb "java/lang/Object") :
    Con l (⟨"java/util/ArrayList", "add", "(Ljava/lang/Object;[Ljava/lang/Object;I)V"⟩ : MethodName) jdk_38_method_24_code 4 none ({ frames := 0, cells := 0, slots := 0, locals := 0 } : Room) Z n0 #[(.ref a), (.ref e), (.ref b), (.int (2 : Int32))] h (fun v h' => v = none ∧ Keep h h' [a, b] ∧ Fld Z h' a "java/util/ArrayList" "elementData" "[Ljava/lang/Object;" (.ref b) ∧ Fld Z h' a "java/util/ArrayList" "size" "I" (.int (3 : Int32)) ∧ Fld Z h' a "java/util/AbstractList" "modCount" "I" (.int (3 : Int32)) ∧ Arv Z h' b kb (.object "java/lang/Object") (3 : Int32) [(.ref e0), (.ref e1), (.ref e)] .null) := by
  refine Con.of_go (plainFor_of_name pn_4) (Ls := #[.val (.ref a), .val (.ref e), .val (.ref b), .val (.int (2 : Int32))]) (fun m => by first | (simp [entryFrame, mkF, argsToLocals, Value.category]; done) | rfl) ?_
  refine Go.iloadN (pc' := 1) d19_0 rfl rfl ?_
  refine Go.aloadN (pc' := 2) d19_1 rfl rfl rfl ?_
  refine Go.arraylength (pc' := 3) vb d19_2 rfl ?_
  refine Go.icmpYes (pc' := 11) d19_3 (XT.ii_ne_t (by decide)) (by decide) (by decide) ?_
  refine Go.aloadN (pc' := 12) d19_11 rfl rfl rfl ?_
  refine Go.iloadN (pc' := 13) d19_12 rfl rfl ?_
  refine Go.aloadN (pc' := 14) d19_13 rfl rfl rfl ?_
  refine Go.aastore (pc' := 15) vb ge_b rfl rfl (own_sto vb ob (Ins.of_exa xe (ww hw 135 rfl))) d19_14 (by decide) (by decide) (i := 2) rfl (nl rfl) rfl ?_
  intro h1 W2 V3
  have K4 : Keep h h1 [a, b] := (Keep.refl h [a, b]).wr W2 (Or.inl (List.mem_of_getElem? (i := 1) rfl))
  replace V3 : Arv Z h1 b kb (.object "java/lang/Object") (3 : Int32) [(.ref e0), (.ref e1), (.ref e)] .null := V3
  refine Go.aloadN (pc' := 16) d19_15 rfl rfl rfl ?_
  refine Go.iloadN (pc' := 17) d19_16 rfl rfl ?_
  refine Go.iconst (pc' := 18) (v := (1 : Int32)) d19_17 rfl rfl ?_
  refine Go.iadd (pc' := 19) d19_18 rfl ?_
  show Go _ _ _ _ _ _ _ _ _ _ _ _ 19 #[.val (.ref a), .val (.ref e), .val (.ref b), .val (.int (2 : Int32))] [(.int (3 : Int32)), (.ref a)]
  refine Go.putfield (pc' := 22) (host := "") (Or.inl (ww hw 55 rfl)) Via.refl (pf1.other W2 (Or.inl ne_a_b)) (xa.wr W2) (Or.inl (ww hw 56 rfl)) (ww hw 7 rfl) (ty := .int) (by decide) rfl rfl ge_a d19_19 rfl ?_
  intro h5 W6
  have K7 : Keep h h5 [a, b] := K4.wr W6 (Or.inl (List.mem_of_getElem? (i := 0) rfl))
  have f8 := (pf1.other W2 (Or.inl ne_a_b)).same W6
  have f9 : Fld Z h5 a "java/util/ArrayList" "elementData" "[Ljava/lang/Object;" (.ref b) := ((pf0.other W2 (Or.inl ne_a_b)).other W6 (Or.inr (slot_ne (Or.inl (ww hw 31 rfl)) (Or.inl (ww hw 56 rfl)) (by decide) (t := (.array (.object "java/lang/Object"))) (t' := .int) (by decide) (by decide))))
  have f10 : Fld Z h5 a "java/util/AbstractList" "modCount" "I" (.int (3 : Int32)) := ((pf2.other W2 (Or.inl ne_a_b)).other W6 (Or.inr (slot_ne (Or.inl (ww hw 28 rfl)) (Or.inl (ww hw 56 rfl)) (by decide) (t := .int) (t' := .int) (by decide) (by decide))))
  exact Go.retV rfl d19_22 ⟨rfl, K7, f9, f8, f10, (V3.other W6 (Ne.symm ne_a_b))⟩ (by decide) (by decide)
set_option maxRecDepth 65536 in
set_option maxHeartbeats 4000000 in
theorem c_add3_2 (l : Launch) (Z : State) (a0 : Array Value) (hw : ∀ d ∈ tables_1, d.before a0 Z = true) {n0 : Nat} (h : Heap) (a : Addr) (e : Addr) (b : Addr) (kb : ClassId) (e0 : Addr) (e1 : Addr) (ge_a : n0 ≤ a) (ge_b : n0 ≤ b) (ne_a_b : a ≠ b) (xa : Exa Z h a "java/util/ArrayList") (xe : Exa Z h e "java/util/ImmutableCollections$List12") (pf0 : Fld Z h a "java/util/ArrayList" "elementData" "[Ljava/lang/Object;" (.ref b)) (pf1 : Fld Z h a "java/util/ArrayList" "size" "I" (.int (2 : Int32))) (pf2 : Fld Z h a "java/util/AbstractList" "modCount" "I" (.int (2 : Int32))) (vb : Arv Z h b kb (.object "java/lang/Object") (3 : Int32) [(.ref e0), (.ref e1), .null] .null) (xb : Exa Z h b "[Ljava/lang/Object;") (ob : Ovr Z kb "java/lang/Object") :
    Con l (⟨"java/util/ArrayList", "add", "(Ljava/lang/Object;)Z"⟩ : MethodName) jdk_38_method_25_code 2 (some .boolean) ({ frames := 1, cells := 0, slots := 0, locals := 15 } : Room) Z n0 #[(.ref a), (.ref e)] h (fun v h' => v = some (.int (1 : Int32)) ∧ Keep h h' [a, b] ∧ Fld Z h' a "java/util/ArrayList" "elementData" "[Ljava/lang/Object;" (.ref b) ∧ Fld Z h' a "java/util/ArrayList" "size" "I" (.int (3 : Int32)) ∧ Fld Z h' a "java/util/AbstractList" "modCount" "I" (.int (3 : Int32)) ∧ Arv Z h' b kb (.object "java/lang/Object") (3 : Int32) [(.ref e0), (.ref e1), (.ref e)] .null) := by
  refine Con.of_go (plainFor_of_name pn_4) (Ls := #[.val (.ref a), .val (.ref e)]) (fun m => by first | (simp [entryFrame, mkF, argsToLocals, Value.category]; done) | rfl) ?_
  refine Go.aloadN (pc' := 1) d18_0 rfl rfl rfl ?_
  refine Go.dup (pc' := 2) d18_1 rfl rfl ?_
  refine Go.getfield (pc' := 5) (host := "") (Or.inl (ww hw 128 rfl)) (Via.of (ww hw 129 rfl)) pf2 d18_2 rfl ?_
  refine Go.iconst (pc' := 6) (v := (1 : Int32)) d18_5 rfl rfl ?_
  refine Go.iadd (pc' := 7) d18_6 rfl ?_
  show Go _ _ _ _ _ _ _ _ _ _ _ _ 7 #[.val (.ref a), .val (.ref e)] [(.int (3 : Int32)), (.ref a)]
  refine Go.putfield (pc' := 10) (host := "") (Or.inl (ww hw 128 rfl)) (Via.of (ww hw 129 rfl)) pf2 xa (Or.inl (ww hw 28 rfl)) (ww hw 7 rfl) (ty := .int) (by decide) rfl rfl ge_a d18_7 rfl ?_
  intro h1 W2
  have K3 : Keep h h1 [a, b] := (Keep.refl h [a, b]).wr W2 (Or.inl (List.mem_of_getElem? (i := 0) rfl))
  have f4 := pf2.same W2
  refine Go.aloadN (pc' := 11) d18_10 rfl rfl rfl ?_
  refine Go.aloadN (pc' := 12) d18_11 rfl rfl rfl ?_
  refine Go.aloadN (pc' := 13) d18_12 rfl rfl rfl ?_
  have f5 : Fld Z h1 a "java/util/ArrayList" "elementData" "[Ljava/lang/Object;" (.ref b) := (pf0.other W2 (Or.inr (slot_ne (Or.inl (ww hw 31 rfl)) (Or.inl (ww hw 28 rfl)) (by decide) (t := (.array (.object "java/lang/Object"))) (t' := .int) (by decide) (by decide))))
  refine Go.getfield (pc' := 16) (host := "") (Or.inl (ww hw 30 rfl)) Via.refl f5 d18_13 rfl ?_
  refine Go.aloadN (pc' := 17) d18_16 rfl rfl rfl ?_
  have f6 : Fld Z h1 a "java/util/ArrayList" "size" "I" (.int (2 : Int32)) := (pf1.other W2 (Or.inr (slot_ne (Or.inl (ww hw 56 rfl)) (Or.inl (ww hw 28 rfl)) (by decide) (t := .int) (t' := .int) (by decide) (by decide))))
  refine Go.getfield (pc' := 20) (host := "") (Or.inl (ww hw 55 rfl)) Via.refl f6 d18_17 rfl ?_
  refine Go.callP (cells' := 0) (slots' := 0) (pc' := 23) [(.ref e), (.ref b), (.int (2 : Int32))] [] (xa.wr W2) (ww hw 130 rfl) (ww hw 131 rfl) (ww hw 133 rfl) (ww hw 132 rfl) (ww hw 8 rfl) (ww hw 134 rfl) (by decide) (c_addP3_2 l Z a0 hw h1 a e b kb e0 e1 ge_a ge_b ne_a_b (xa.wr W2) (xe.wr W2) f5 f6 f4 ((vb.other W2 (Ne.symm ne_a_b))) (xb.wr W2) ob) pd_14 rfl rfl rfl rfl rfl (nl rfl) (nl rfl) (nl rfl) (nl rfl) d18_20 rfl ?_
  rintro _ h7 ⟨rfl, K7, F7_0, F7_1, F7_2, F7_3⟩
  have K8 : Keep h h7 [a, b] := K3.trans K7 (allS (Or.inl (List.mem_of_getElem? (i := 0) rfl)) (allS (Or.inl (List.mem_of_getElem? (i := 1) rfl)) all0))
  show Go _ _ _ _ _ _ _ _ _ _ _ _ 23 #[.val (.ref a), .val (.ref e)] []
  refine Go.iconst (pc' := 24) (v := (1 : Int32)) d18_23 rfl rfl ?_
  exact Go.retN (t := .boolean) rfl (by simp) d18_24 ⟨rfl, K8, F7_0, F7_1, F7_2, F7_3⟩ (by decide) (by decide)
set_option maxRecDepth 65536 in
set_option maxHeartbeats 4000000 in
theorem c_alInitI4 (l : Launch) (Z : State) (a0 : Array Value) (hw : ∀ d ∈ tables_1, d.before a0 Z = true) {n0 : Nat} (h : Heap) (a : Addr) (ge_a : n0 ≤ a) (e : Exa Z h a "java/util/ArrayList") (pf0 : Fld Z h a "java/util/ArrayList" "elementData" "[Ljava/lang/Object;" .null) (pf1 : Fld Z h a "java/util/ArrayList" "size" "I" (.int (0 : Int32))) (pf2 : Fld Z h a "java/util/AbstractList" "modCount" "I" (.int (0 : Int32))) :
    Con l (⟨"java/util/ArrayList", "<init>", "(I)V"⟩ : MethodName) jdk_38_method_1_code 2 none ({ frames := 3, cells := 1, slots := 4, locals := 36 } : Room) Z n0 #[(.ref a), (.int (4 : Int32))] h (fun v h' => ∃ b : Addr, ∃ kb : ClassId, v = none ∧ Keep h h' [a] ∧ n0 ≤ b ∧ h.size ≤ b ∧ Fld Z h' a "java/util/ArrayList" "elementData" "[Ljava/lang/Object;" (.ref b) ∧ Fld Z h' a "java/util/ArrayList" "size" "I" (.int (0 : Int32)) ∧ Fld Z h' a "java/util/AbstractList" "modCount" "I" (.int (0 : Int32)) ∧ Arv Z h' b kb (.object "java/lang/Object") (4 : Int32) [.null, .null, .null, .null] .null ∧ Exa Z h' b "[Ljava/lang/Object;" ∧ Ovr Z kb "java/lang/Object") := by
  refine Con.of_go (plainFor_of_name pn_4) (Ls := #[.val (.ref a), .val (.int (4 : Int32))]) (fun m => by first | (simp [entryFrame, mkF, argsToLocals, Value.category]; done) | rfl) ?_
  refine Go.aloadN (pc' := 1) d2_0 rfl rfl rfl ?_
  refine Go.callC (cells' := 0) (slots' := 0) (pc' := 4) [] [] (a := a) rfl rfl (ww hw 12 rfl) (ww hw 13 rfl) (ww hw 16 rfl) (ww hw 17 rfl) (by decide) (c_alsInit l Z a0 hw h a ge_a e pf0 pf1 pf2) pd_0 rfl rfl rfl rfl rfl (nl rfl) (nl rfl) (nl rfl) (nl rfl) d2_1 rfl ?_
  rintro _ h1 ⟨rfl, K1, F1_0, F1_1, F1_2⟩
  have K2 : Keep h h1 [a] := (Keep.refl h [a]).trans K1 (allS (Or.inl (List.mem_of_getElem? (i := 0) rfl)) all0)
  show Go _ _ _ _ _ _ _ _ _ _ _ _ 4 #[.val (.ref a), .val (.int (4 : Int32))] []
  refine Go.iloadN (pc' := 5) d2_4 rfl rfl ?_
  refine Go.ifNo (pc' := 8) d2_5 (XT.i0_le_f (by decide)) rfl ?_
  refine Go.aloadN (pc' := 9) d2_8 rfl rfl rfl ?_
  refine Go.iloadN (pc' := 10) d2_9 rfl rfl ?_
  refine Go.anewarray (pc' := 13) (cells' := 1) (slots' := 4) (cap := 4) (ww hw 77 rfl) (ww hw 78 rfl) d2_10 (ad := "[Ljava/lang/Object;") (by decide) (by decide) (by decide) rfl rfl (by decide) (by decide) (by decide) rfl ?_
  intro h3 b3 g3 E3 ge3 kA3 A3 X3 O3
  have sz4 : h.size ≤ b3 := Nat.le_trans K2.1 (Nat.le_of_eq g3.symm)
  have K5 : Keep h h3 [a] := K2.ext E3
  have V3 : Arv Z h3 b3 kA3 (.object "java/lang/Object") (4 : Int32) [.null, .null, .null, .null] .null := Arv.pad A3 (pad_rep [] .null 4)
  refine Go.putfield (pc' := 16) (host := "") (Or.inl (ww hw 30 rfl)) Via.refl (F1_0.ext E3) ((e.keep K1).ext E3) (Or.inl (ww hw 31 rfl)) (ww hw 7 rfl) (ty := (.array (.object "java/lang/Object"))) (by decide) rfl rfl ge_a d2_13 rfl ?_
  intro h6 W7
  have K8 : Keep h h6 [a] := K5.wr W7 (Or.inl (List.mem_of_getElem? (i := 0) rfl))
  have f9 := (F1_0.ext E3).same W7
  refine Go.goto (pc' := 60) d2_16 (by decide) (by decide) ?_
  have f10 : Fld Z h6 a "java/util/ArrayList" "size" "I" (.int (0 : Int32)) := ((F1_1.ext E3).other W7 (Or.inr (slot_ne (Or.inl (ww hw 56 rfl)) (Or.inl (ww hw 31 rfl)) (by decide) (t := .int) (t' := (.array (.object "java/lang/Object"))) (by decide) (by decide))))
  have f11 : Fld Z h6 a "java/util/AbstractList" "modCount" "I" (.int (0 : Int32)) := ((F1_2.ext E3).other W7 (Or.inr (slot_ne (Or.inl (ww hw 28 rfl)) (Or.inl (ww hw 31 rfl)) (by decide) (t := .int) (t' := (.array (.object "java/lang/Object"))) (by decide) (by decide))))
  have ne12 : a ≠ b3 := (Nat.ne_of_lt (Nat.lt_of_lt_of_le F1_2.lt (Nat.le_of_eq g3.symm)))
  exact Go.retV rfl d2_60 ⟨b3, kA3, rfl, K8, ge3, sz4, f9, f10, f11, (V3.other W7 (Ne.symm ne12)), (X3.wr W7), O3⟩ (by decide) (by decide)
set_option maxRecDepth 65536 in
set_option maxHeartbeats 4000000 in
theorem c_addP4_0 (l : Launch) (Z : State) (a0 : Array Value) (hw : ∀ d ∈ tables_1, d.before a0 Z = true) {n0 : Nat} (h : Heap) (a : Addr) (e : Addr) (b : Addr) (kb : ClassId) (ge_a : n0 ≤ a) (ge_b : n0 ≤ b) (ne_a_b : a ≠ b) (xa : Exa Z h a "java/util/ArrayList") (xe : Exa Z h e "java/util/ImmutableCollections$List12") (pf0 : Fld Z h a "java/util/ArrayList" "elementData" "[Ljava/lang/Object;" (.ref b)) (pf1 : Fld Z h a "java/util/ArrayList" "size" "I" (.int (0 : Int32))) (pf2 : Fld Z h a "java/util/AbstractList" "modCount" "I" (.int (1 : Int32))) (vb : Arv Z h b kb (.object "java/lang/Object") (4 : Int32) [.null, .null, .null, .null] .null) (xb : Exa Z h b "[Ljava/lang/Object;") (ob : Ovr Z kb "java/lang/Object") :
    Con l (⟨"java/util/ArrayList", "add", "(Ljava/lang/Object;[Ljava/lang/Object;I)V"⟩ : MethodName) jdk_38_method_24_code 4 none ({ frames := 0, cells := 0, slots := 0, locals := 0 } : Room) Z n0 #[(.ref a), (.ref e), (.ref b), (.int (0 : Int32))] h (fun v h' => v = none ∧ Keep h h' [a, b] ∧ Fld Z h' a "java/util/ArrayList" "elementData" "[Ljava/lang/Object;" (.ref b) ∧ Fld Z h' a "java/util/ArrayList" "size" "I" (.int (1 : Int32)) ∧ Fld Z h' a "java/util/AbstractList" "modCount" "I" (.int (1 : Int32)) ∧ Arv Z h' b kb (.object "java/lang/Object") (4 : Int32) [(.ref e), .null, .null, .null] .null) := by
  refine Con.of_go (plainFor_of_name pn_4) (Ls := #[.val (.ref a), .val (.ref e), .val (.ref b), .val (.int (0 : Int32))]) (fun m => by first | (simp [entryFrame, mkF, argsToLocals, Value.category]; done) | rfl) ?_
  refine Go.iloadN (pc' := 1) d19_0 rfl rfl ?_
  refine Go.aloadN (pc' := 2) d19_1 rfl rfl rfl ?_
  refine Go.arraylength (pc' := 3) vb d19_2 rfl ?_
  refine Go.icmpYes (pc' := 11) d19_3 (XT.ii_ne_t (by decide)) (by decide) (by decide) ?_
  refine Go.aloadN (pc' := 12) d19_11 rfl rfl rfl ?_
  refine Go.iloadN (pc' := 13) d19_12 rfl rfl ?_
  refine Go.aloadN (pc' := 14) d19_13 rfl rfl rfl ?_
  refine Go.aastore (pc' := 15) vb ge_b rfl rfl (own_sto vb ob (Ins.of_exa xe (ww hw 135 rfl))) d19_14 (by decide) (by decide) (i := 0) rfl (nl rfl) rfl ?_
  intro h1 W2 V3
  have K4 : Keep h h1 [a, b] := (Keep.refl h [a, b]).wr W2 (Or.inl (List.mem_of_getElem? (i := 1) rfl))
  replace V3 : Arv Z h1 b kb (.object "java/lang/Object") (4 : Int32) [(.ref e), .null, .null, .null] .null := V3
  refine Go.aloadN (pc' := 16) d19_15 rfl rfl rfl ?_
  refine Go.iloadN (pc' := 17) d19_16 rfl rfl ?_
  refine Go.iconst (pc' := 18) (v := (1 : Int32)) d19_17 rfl rfl ?_
  refine Go.iadd (pc' := 19) d19_18 rfl ?_
  show Go _ _ _ _ _ _ _ _ _ _ _ _ 19 #[.val (.ref a), .val (.ref e), .val (.ref b), .val (.int (0 : Int32))] [(.int (1 : Int32)), (.ref a)]
  refine Go.putfield (pc' := 22) (host := "") (Or.inl (ww hw 55 rfl)) Via.refl (pf1.other W2 (Or.inl ne_a_b)) (xa.wr W2) (Or.inl (ww hw 56 rfl)) (ww hw 7 rfl) (ty := .int) (by decide) rfl rfl ge_a d19_19 rfl ?_
  intro h5 W6
  have K7 : Keep h h5 [a, b] := K4.wr W6 (Or.inl (List.mem_of_getElem? (i := 0) rfl))
  have f8 := (pf1.other W2 (Or.inl ne_a_b)).same W6
  have f9 : Fld Z h5 a "java/util/ArrayList" "elementData" "[Ljava/lang/Object;" (.ref b) := ((pf0.other W2 (Or.inl ne_a_b)).other W6 (Or.inr (slot_ne (Or.inl (ww hw 31 rfl)) (Or.inl (ww hw 56 rfl)) (by decide) (t := (.array (.object "java/lang/Object"))) (t' := .int) (by decide) (by decide))))
  have f10 : Fld Z h5 a "java/util/AbstractList" "modCount" "I" (.int (1 : Int32)) := ((pf2.other W2 (Or.inl ne_a_b)).other W6 (Or.inr (slot_ne (Or.inl (ww hw 28 rfl)) (Or.inl (ww hw 56 rfl)) (by decide) (t := .int) (t' := .int) (by decide) (by decide))))
  exact Go.retV rfl d19_22 ⟨rfl, K7, f9, f8, f10, (V3.other W6 (Ne.symm ne_a_b))⟩ (by decide) (by decide)
set_option maxRecDepth 65536 in
set_option maxHeartbeats 4000000 in
theorem c_add4_0 (l : Launch) (Z : State) (a0 : Array Value) (hw : ∀ d ∈ tables_1, d.before a0 Z = true) {n0 : Nat} (h : Heap) (a : Addr) (e : Addr) (b : Addr) (kb : ClassId) (ge_a : n0 ≤ a) (ge_b : n0 ≤ b) (ne_a_b : a ≠ b) (xa : Exa Z h a "java/util/ArrayList") (xe : Exa Z h e "java/util/ImmutableCollections$List12") (pf0 : Fld Z h a "java/util/ArrayList" "elementData" "[Ljava/lang/Object;" (.ref b)) (pf1 : Fld Z h a "java/util/ArrayList" "size" "I" (.int (0 : Int32))) (pf2 : Fld Z h a "java/util/AbstractList" "modCount" "I" (.int (0 : Int32))) (vb : Arv Z h b kb (.object "java/lang/Object") (4 : Int32) [.null, .null, .null, .null] .null) (xb : Exa Z h b "[Ljava/lang/Object;") (ob : Ovr Z kb "java/lang/Object") :
    Con l (⟨"java/util/ArrayList", "add", "(Ljava/lang/Object;)Z"⟩ : MethodName) jdk_38_method_25_code 2 (some .boolean) ({ frames := 1, cells := 0, slots := 0, locals := 15 } : Room) Z n0 #[(.ref a), (.ref e)] h (fun v h' => v = some (.int (1 : Int32)) ∧ Keep h h' [a, b] ∧ Fld Z h' a "java/util/ArrayList" "elementData" "[Ljava/lang/Object;" (.ref b) ∧ Fld Z h' a "java/util/ArrayList" "size" "I" (.int (1 : Int32)) ∧ Fld Z h' a "java/util/AbstractList" "modCount" "I" (.int (1 : Int32)) ∧ Arv Z h' b kb (.object "java/lang/Object") (4 : Int32) [(.ref e), .null, .null, .null] .null) := by
  refine Con.of_go (plainFor_of_name pn_4) (Ls := #[.val (.ref a), .val (.ref e)]) (fun m => by first | (simp [entryFrame, mkF, argsToLocals, Value.category]; done) | rfl) ?_
  refine Go.aloadN (pc' := 1) d18_0 rfl rfl rfl ?_
  refine Go.dup (pc' := 2) d18_1 rfl rfl ?_
  refine Go.getfield (pc' := 5) (host := "") (Or.inl (ww hw 128 rfl)) (Via.of (ww hw 129 rfl)) pf2 d18_2 rfl ?_
  refine Go.iconst (pc' := 6) (v := (1 : Int32)) d18_5 rfl rfl ?_
  refine Go.iadd (pc' := 7) d18_6 rfl ?_
  show Go _ _ _ _ _ _ _ _ _ _ _ _ 7 #[.val (.ref a), .val (.ref e)] [(.int (1 : Int32)), (.ref a)]
  refine Go.putfield (pc' := 10) (host := "") (Or.inl (ww hw 128 rfl)) (Via.of (ww hw 129 rfl)) pf2 xa (Or.inl (ww hw 28 rfl)) (ww hw 7 rfl) (ty := .int) (by decide) rfl rfl ge_a d18_7 rfl ?_
  intro h1 W2
  have K3 : Keep h h1 [a, b] := (Keep.refl h [a, b]).wr W2 (Or.inl (List.mem_of_getElem? (i := 0) rfl))
  have f4 := pf2.same W2
  refine Go.aloadN (pc' := 11) d18_10 rfl rfl rfl ?_
  refine Go.aloadN (pc' := 12) d18_11 rfl rfl rfl ?_
  refine Go.aloadN (pc' := 13) d18_12 rfl rfl rfl ?_
  have f5 : Fld Z h1 a "java/util/ArrayList" "elementData" "[Ljava/lang/Object;" (.ref b) := (pf0.other W2 (Or.inr (slot_ne (Or.inl (ww hw 31 rfl)) (Or.inl (ww hw 28 rfl)) (by decide) (t := (.array (.object "java/lang/Object"))) (t' := .int) (by decide) (by decide))))
  refine Go.getfield (pc' := 16) (host := "") (Or.inl (ww hw 30 rfl)) Via.refl f5 d18_13 rfl ?_
  refine Go.aloadN (pc' := 17) d18_16 rfl rfl rfl ?_
  have f6 : Fld Z h1 a "java/util/ArrayList" "size" "I" (.int (0 : Int32)) := (pf1.other W2 (Or.inr (slot_ne (Or.inl (ww hw 56 rfl)) (Or.inl (ww hw 28 rfl)) (by decide) (t := .int) (t' := .int) (by decide) (by decide))))
  refine Go.getfield (pc' := 20) (host := "") (Or.inl (ww hw 55 rfl)) Via.refl f6 d18_17 rfl ?_
  refine Go.callP (cells' := 0) (slots' := 0) (pc' := 23) [(.ref e), (.ref b), (.int (0 : Int32))] [] (xa.wr W2) (ww hw 130 rfl) (ww hw 131 rfl) (ww hw 133 rfl) (ww hw 132 rfl) (ww hw 8 rfl) (ww hw 134 rfl) (by decide) (c_addP4_0 l Z a0 hw h1 a e b kb ge_a ge_b ne_a_b (xa.wr W2) (xe.wr W2) f5 f6 f4 ((vb.other W2 (Ne.symm ne_a_b))) (xb.wr W2) ob) pd_14 rfl rfl rfl rfl rfl (nl rfl) (nl rfl) (nl rfl) (nl rfl) d18_20 rfl ?_
  rintro _ h7 ⟨rfl, K7, F7_0, F7_1, F7_2, F7_3⟩
  have K8 : Keep h h7 [a, b] := K3.trans K7 (allS (Or.inl (List.mem_of_getElem? (i := 0) rfl)) (allS (Or.inl (List.mem_of_getElem? (i := 1) rfl)) all0))
  show Go _ _ _ _ _ _ _ _ _ _ _ _ 23 #[.val (.ref a), .val (.ref e)] []
  refine Go.iconst (pc' := 24) (v := (1 : Int32)) d18_23 rfl rfl ?_
  exact Go.retN (t := .boolean) rfl (by simp) d18_24 ⟨rfl, K8, F7_0, F7_1, F7_2, F7_3⟩ (by decide) (by decide)
set_option maxRecDepth 65536 in
set_option maxHeartbeats 4000000 in
theorem c_addP4_1 (l : Launch) (Z : State) (a0 : Array Value) (hw : ∀ d ∈ tables_1, d.before a0 Z = true) {n0 : Nat} (h : Heap) (a : Addr) (e : Addr) (b : Addr) (kb : ClassId) (e0 : Addr) (ge_a : n0 ≤ a) (ge_b : n0 ≤ b) (ne_a_b : a ≠ b) (xa : Exa Z h a "java/util/ArrayList") (xe : Exa Z h e "java/util/ImmutableCollections$List12") (pf0 : Fld Z h a "java/util/ArrayList" "elementData" "[Ljava/lang/Object;" (.ref b)) (pf1 : Fld Z h a "java/util/ArrayList" "size" "I" (.int (1 : Int32))) (pf2 : Fld Z h a "java/util/AbstractList" "modCount" "I" (.int (2 : Int32))) (vb : Arv Z h b kb (.object "java/lang/Object") (4 : Int32) [(.ref e0), .null, .null, .null] .null) (xb : Exa Z h b "[Ljava/lang/Object;") (ob : Ovr Z kb "java/lang/Object") :
    Con l (⟨"java/util/ArrayList", "add", "(Ljava/lang/Object;[Ljava/lang/Object;I)V"⟩ : MethodName) jdk_38_method_24_code 4 none ({ frames := 0, cells := 0, slots := 0, locals := 0 } : Room) Z n0 #[(.ref a), (.ref e), (.ref b), (.int (1 : Int32))] h (fun v h' => v = none ∧ Keep h h' [a, b] ∧ Fld Z h' a "java/util/ArrayList" "elementData" "[Ljava/lang/Object;" (.ref b) ∧ Fld Z h' a "java/util/ArrayList" "size" "I" (.int (2 : Int32)) ∧ Fld Z h' a "java/util/AbstractList" "modCount" "I" (.int (2 : Int32)) ∧ Arv Z h' b kb (.object "java/lang/Object") (4 : Int32) [(.ref e0), (.ref e), .null, .null] .null) := by
  refine Con.of_go (plainFor_of_name pn_4) (Ls := #[.val (.ref a), .val (.ref e), .val (.ref b), .val (.int (1 : Int32))]) (fun m => by first | (simp [entryFrame, mkF, argsToLocals, Value.category]; done) | rfl) ?_
  refine Go.iloadN (pc' := 1) d19_0 rfl rfl ?_
  refine Go.aloadN (pc' := 2) d19_1 rfl rfl rfl ?_
  refine Go.arraylength (pc' := 3) vb d19_2 rfl ?_
  refine Go.icmpYes (pc' := 11) d19_3 (XT.ii_ne_t (by decide)) (by decide) (by decide) ?_
  refine Go.aloadN (pc' := 12) d19_11 rfl rfl rfl ?_
  refine Go.iloadN (pc' := 13) d19_12 rfl rfl ?_
  refine Go.aloadN (pc' := 14) d19_13 rfl rfl rfl ?_
  refine Go.aastore (pc' := 15) vb ge_b rfl rfl (own_sto vb ob (Ins.of_exa xe (ww hw 135 rfl))) d19_14 (by decide) (by decide) (i := 1) rfl (nl rfl) rfl ?_
  intro h1 W2 V3
  have K4 : Keep h h1 [a, b] := (Keep.refl h [a, b]).wr W2 (Or.inl (List.mem_of_getElem? (i := 1) rfl))
  replace V3 : Arv Z h1 b kb (.object "java/lang/Object") (4 : Int32) [(.ref e0), (.ref e), .null, .null] .null := V3
  refine Go.aloadN (pc' := 16) d19_15 rfl rfl rfl ?_
  refine Go.iloadN (pc' := 17) d19_16 rfl rfl ?_
  refine Go.iconst (pc' := 18) (v := (1 : Int32)) d19_17 rfl rfl ?_
  refine Go.iadd (pc' := 19) d19_18 rfl ?_
  show Go _ _ _ _ _ _ _ _ _ _ _ _ 19 #[.val (.ref a), .val (.ref e), .val (.ref b), .val (.int (1 : Int32))] [(.int (2 : Int32)), (.ref a)]
  refine Go.putfield (pc' := 22) (host := "") (Or.inl (ww hw 55 rfl)) Via.refl (pf1.other W2 (Or.inl ne_a_b)) (xa.wr W2) (Or.inl (ww hw 56 rfl)) (ww hw 7 rfl) (ty := .int) (by decide) rfl rfl ge_a d19_19 rfl ?_
  intro h5 W6
  have K7 : Keep h h5 [a, b] := K4.wr W6 (Or.inl (List.mem_of_getElem? (i := 0) rfl))
  have f8 := (pf1.other W2 (Or.inl ne_a_b)).same W6
  have f9 : Fld Z h5 a "java/util/ArrayList" "elementData" "[Ljava/lang/Object;" (.ref b) := ((pf0.other W2 (Or.inl ne_a_b)).other W6 (Or.inr (slot_ne (Or.inl (ww hw 31 rfl)) (Or.inl (ww hw 56 rfl)) (by decide) (t := (.array (.object "java/lang/Object"))) (t' := .int) (by decide) (by decide))))
  have f10 : Fld Z h5 a "java/util/AbstractList" "modCount" "I" (.int (2 : Int32)) := ((pf2.other W2 (Or.inl ne_a_b)).other W6 (Or.inr (slot_ne (Or.inl (ww hw 28 rfl)) (Or.inl (ww hw 56 rfl)) (by decide) (t := .int) (t' := .int) (by decide) (by decide))))
  exact Go.retV rfl d19_22 ⟨rfl, K7, f9, f8, f10, (V3.other W6 (Ne.symm ne_a_b))⟩ (by decide) (by decide)
set_option maxRecDepth 65536 in
set_option maxHeartbeats 4000000 in
theorem c_add4_1 (l : Launch) (Z : State) (a0 : Array Value) (hw : ∀ d ∈ tables_1, d.before a0 Z = true) {n0 : Nat} (h : Heap) (a : Addr) (e : Addr) (b : Addr) (kb : ClassId) (e0 : Addr) (ge_a : n0 ≤ a) (ge_b : n0 ≤ b) (ne_a_b : a ≠ b) (xa : Exa Z h a "java/util/ArrayList") (xe : Exa Z h e "java/util/ImmutableCollections$List12") (pf0 : Fld Z h a "java/util/ArrayList" "elementData" "[Ljava/lang/Object;" (.ref b)) (pf1 : Fld Z h a "java/util/ArrayList" "size" "I" (.int (1 : Int32))) (pf2 : Fld Z h a "java/util/AbstractList" "modCount" "I" (.int (1 : Int32))) (vb : Arv Z h b kb (.object "java/lang/Object") (4 : Int32) [(.ref e0), .null, .null, .null] .null) (xb : Exa Z h b "[Ljava/lang/Object;") (ob : Ovr Z kb "java/lang/Object") :
    Con l (⟨"java/util/ArrayList", "add", "(Ljava/lang/Object;)Z"⟩ : MethodName) jdk_38_method_25_code 2 (some .boolean) ({ frames := 1, cells := 0, slots := 0, locals := 15 } : Room) Z n0 #[(.ref a), (.ref e)] h (fun v h' => v = some (.int (1 : Int32)) ∧ Keep h h' [a, b] ∧ Fld Z h' a "java/util/ArrayList" "elementData" "[Ljava/lang/Object;" (.ref b) ∧ Fld Z h' a "java/util/ArrayList" "size" "I" (.int (2 : Int32)) ∧ Fld Z h' a "java/util/AbstractList" "modCount" "I" (.int (2 : Int32)) ∧ Arv Z h' b kb (.object "java/lang/Object") (4 : Int32) [(.ref e0), (.ref e), .null, .null] .null) := by
  refine Con.of_go (plainFor_of_name pn_4) (Ls := #[.val (.ref a), .val (.ref e)]) (fun m => by first | (simp [entryFrame, mkF, argsToLocals, Value.category]; done) | rfl) ?_
  refine Go.aloadN (pc' := 1) d18_0 rfl rfl rfl ?_
  refine Go.dup (pc' := 2) d18_1 rfl rfl ?_
  refine Go.getfield (pc' := 5) (host := "") (Or.inl (ww hw 128 rfl)) (Via.of (ww hw 129 rfl)) pf2 d18_2 rfl ?_
  refine Go.iconst (pc' := 6) (v := (1 : Int32)) d18_5 rfl rfl ?_
  refine Go.iadd (pc' := 7) d18_6 rfl ?_
  show Go _ _ _ _ _ _ _ _ _ _ _ _ 7 #[.val (.ref a), .val (.ref e)] [(.int (2 : Int32)), (.ref a)]
  refine Go.putfield (pc' := 10) (host := "") (Or.inl (ww hw 128 rfl)) (Via.of (ww hw 129 rfl)) pf2 xa (Or.inl (ww hw 28 rfl)) (ww hw 7 rfl) (ty := .int) (by decide) rfl rfl ge_a d18_7 rfl ?_
  intro h1 W2
  have K3 : Keep h h1 [a, b] := (Keep.refl h [a, b]).wr W2 (Or.inl (List.mem_of_getElem? (i := 0) rfl))
  have f4 := pf2.same W2
  refine Go.aloadN (pc' := 11) d18_10 rfl rfl rfl ?_
  refine Go.aloadN (pc' := 12) d18_11 rfl rfl rfl ?_
  refine Go.aloadN (pc' := 13) d18_12 rfl rfl rfl ?_
  have f5 : Fld Z h1 a "java/util/ArrayList" "elementData" "[Ljava/lang/Object;" (.ref b) := (pf0.other W2 (Or.inr (slot_ne (Or.inl (ww hw 31 rfl)) (Or.inl (ww hw 28 rfl)) (by decide) (t := (.array (.object "java/lang/Object"))) (t' := .int) (by decide) (by decide))))
  refine Go.getfield (pc' := 16) (host := "") (Or.inl (ww hw 30 rfl)) Via.refl f5 d18_13 rfl ?_
  refine Go.aloadN (pc' := 17) d18_16 rfl rfl rfl ?_
  have f6 : Fld Z h1 a "java/util/ArrayList" "size" "I" (.int (1 : Int32)) := (pf1.other W2 (Or.inr (slot_ne (Or.inl (ww hw 56 rfl)) (Or.inl (ww hw 28 rfl)) (by decide) (t := .int) (t' := .int) (by decide) (by decide))))
  refine Go.getfield (pc' := 20) (host := "") (Or.inl (ww hw 55 rfl)) Via.refl f6 d18_17 rfl ?_
  refine Go.callP (cells' := 0) (slots' := 0) (pc' := 23) [(.ref e), (.ref b), (.int (1 : Int32))] [] (xa.wr W2) (ww hw 130 rfl) (ww hw 131 rfl) (ww hw 133 rfl) (ww hw 132 rfl) (ww hw 8 rfl) (ww hw 134 rfl) (by decide) (c_addP4_1 l Z a0 hw h1 a e b kb e0 ge_a ge_b ne_a_b (xa.wr W2) (xe.wr W2) f5 f6 f4 ((vb.other W2 (Ne.symm ne_a_b))) (xb.wr W2) ob) pd_14 rfl rfl rfl rfl rfl (nl rfl) (nl rfl) (nl rfl) (nl rfl) d18_20 rfl ?_
  rintro _ h7 ⟨rfl, K7, F7_0, F7_1, F7_2, F7_3⟩
  have K8 : Keep h h7 [a, b] := K3.trans K7 (allS (Or.inl (List.mem_of_getElem? (i := 0) rfl)) (allS (Or.inl (List.mem_of_getElem? (i := 1) rfl)) all0))
  show Go _ _ _ _ _ _ _ _ _ _ _ _ 23 #[.val (.ref a), .val (.ref e)] []
  refine Go.iconst (pc' := 24) (v := (1 : Int32)) d18_23 rfl rfl ?_
  exact Go.retN (t := .boolean) rfl (by simp) d18_24 ⟨rfl, K8, F7_0, F7_1, F7_2, F7_3⟩ (by decide) (by decide)
set_option maxRecDepth 65536 in
set_option maxHeartbeats 4000000 in
theorem c_addP4_2 (l : Launch) (Z : State) (a0 : Array Value) (hw : ∀ d ∈ tables_1, d.before a0 Z = true) {n0 : Nat} (h : Heap) (a : Addr) (e : Addr) (b : Addr) (kb : ClassId) (e0 : Addr) (e1 : Addr) (ge_a : n0 ≤ a) (ge_b : n0 ≤ b) (ne_a_b : a ≠ b) (xa : Exa Z h a "java/util/ArrayList") (xe : Exa Z h e "java/util/ImmutableCollections$List12") (pf0 : Fld Z h a "java/util/ArrayList" "elementData" "[Ljava/lang/Object;" (.ref b)) (pf1 : Fld Z h a "java/util/ArrayList" "size" "I" (.int (2 : Int32))) (pf2 : Fld Z h a "java/util/AbstractList" "modCount" "I" (.int (3 : Int32))) (vb : Arv Z h b kb (.object "java/lang/Object") (4 : Int32) [(.ref e0), (.ref e1), .null, .null] .null) (xb : Exa Z h b "[Ljava/lang/Object;") (ob : Ovr Z kb "java/lang/Object") :
    Con l (⟨"java/util/ArrayList", "add", "(Ljava/lang/Object;[Ljava/lang/Object;I)V"⟩ : MethodName) jdk_38_method_24_code 4 none ({ frames := 0, cells := 0, slots := 0, locals := 0 } : Room) Z n0 #[(.ref a), (.ref e), (.ref b), (.int (2 : Int32))] h (fun v h' => v = none ∧ Keep h h' [a, b] ∧ Fld Z h' a "java/util/ArrayList" "elementData" "[Ljava/lang/Object;" (.ref b) ∧ Fld Z h' a "java/util/ArrayList" "size" "I" (.int (3 : Int32)) ∧ Fld Z h' a "java/util/AbstractList" "modCount" "I" (.int (3 : Int32)) ∧ Arv Z h' b kb (.object "java/lang/Object") (4 : Int32) [(.ref e0), (.ref e1), (.ref e), .null] .null) := by
  refine Con.of_go (plainFor_of_name pn_4) (Ls := #[.val (.ref a), .val (.ref e), .val (.ref b), .val (.int (2 : Int32))]) (fun m => by first | (simp [entryFrame, mkF, argsToLocals, Value.category]; done) | rfl) ?_
  refine Go.iloadN (pc' := 1) d19_0 rfl rfl ?_
  refine Go.aloadN (pc' := 2) d19_1 rfl rfl rfl ?_
  refine Go.arraylength (pc' := 3) vb d19_2 rfl ?_
  refine Go.icmpYes (pc' := 11) d19_3 (XT.ii_ne_t (by decide)) (by decide) (by decide) ?_
  refine Go.aloadN (pc' := 12) d19_11 rfl rfl rfl ?_
  refine Go.iloadN (pc' := 13) d19_12 rfl rfl ?_
  refine Go.aloadN (pc' := 14) d19_13 rfl rfl rfl ?_
  refine Go.aastore (pc' := 15) vb ge_b rfl rfl (own_sto vb ob (Ins.of_exa xe (ww hw 135 rfl))) d19_14 (by decide) (by decide) (i := 2) rfl (nl rfl) rfl ?_
  intro h1 W2 V3
  have K4 : Keep h h1 [a, b] := (Keep.refl h [a, b]).wr W2 (Or.inl (List.mem_of_getElem? (i := 1) rfl))
  replace V3 : Arv Z h1 b kb (.object "java/lang/Object") (4 : Int32) [(.ref e0), (.ref e1), (.ref e), .null] .null := V3
  refine Go.aloadN (pc' := 16) d19_15 rfl rfl rfl ?_
  refine Go.iloadN (pc' := 17) d19_16 rfl rfl ?_
  refine Go.iconst (pc' := 18) (v := (1 : Int32)) d19_17 rfl rfl ?_
  refine Go.iadd (pc' := 19) d19_18 rfl ?_
  show Go _ _ _ _ _ _ _ _ _ _ _ _ 19 #[.val (.ref a), .val (.ref e), .val (.ref b), .val (.int (2 : Int32))] [(.int (3 : Int32)), (.ref a)]
  refine Go.putfield (pc' := 22) (host := "") (Or.inl (ww hw 55 rfl)) Via.refl (pf1.other W2 (Or.inl ne_a_b)) (xa.wr W2) (Or.inl (ww hw 56 rfl)) (ww hw 7 rfl) (ty := .int) (by decide) rfl rfl ge_a d19_19 rfl ?_
  intro h5 W6
  have K7 : Keep h h5 [a, b] := K4.wr W6 (Or.inl (List.mem_of_getElem? (i := 0) rfl))
  have f8 := (pf1.other W2 (Or.inl ne_a_b)).same W6
  have f9 : Fld Z h5 a "java/util/ArrayList" "elementData" "[Ljava/lang/Object;" (.ref b) := ((pf0.other W2 (Or.inl ne_a_b)).other W6 (Or.inr (slot_ne (Or.inl (ww hw 31 rfl)) (Or.inl (ww hw 56 rfl)) (by decide) (t := (.array (.object "java/lang/Object"))) (t' := .int) (by decide) (by decide))))
  have f10 : Fld Z h5 a "java/util/AbstractList" "modCount" "I" (.int (3 : Int32)) := ((pf2.other W2 (Or.inl ne_a_b)).other W6 (Or.inr (slot_ne (Or.inl (ww hw 28 rfl)) (Or.inl (ww hw 56 rfl)) (by decide) (t := .int) (t' := .int) (by decide) (by decide))))
  exact Go.retV rfl d19_22 ⟨rfl, K7, f9, f8, f10, (V3.other W6 (Ne.symm ne_a_b))⟩ (by decide) (by decide)
set_option maxRecDepth 65536 in
set_option maxHeartbeats 4000000 in
theorem c_add4_2 (l : Launch) (Z : State) (a0 : Array Value) (hw : ∀ d ∈ tables_1, d.before a0 Z = true) {n0 : Nat} (h : Heap) (a : Addr) (e : Addr) (b : Addr) (kb : ClassId) (e0 : Addr) (e1 : Addr) (ge_a : n0 ≤ a) (ge_b : n0 ≤ b) (ne_a_b : a ≠ b) (xa : Exa Z h a "java/util/ArrayList") (xe : Exa Z h e "java/util/ImmutableCollections$List12") (pf0 : Fld Z h a "java/util/ArrayList" "elementData" "[Ljava/lang/Object;" (.ref b)) (pf1 : Fld Z h a "java/util/ArrayList" "size" "I" (.int (2 : Int32))) (pf2 : Fld Z h a "java/util/AbstractList" "modCount" "I" (.int (2 : Int32))) (vb : Arv Z h b kb (.object "java/lang/Object") (4 : Int32) [(.ref e0), (.ref e1), .null, .null] .null) (xb : Exa Z h b "[Ljava/lang/Object;") (ob : Ovr Z kb "java/lang/Object") :
    Con l (⟨"java/util/ArrayList", "add", "(Ljava/lang/Object;)Z"⟩ : MethodName) jdk_38_method_25_code 2 (some .boolean) ({ frames := 1, cells := 0, slots := 0, locals := 15 } : Room) Z n0 #[(.ref a), (.ref e)] h (fun v h' => v = some (.int (1 : Int32)) ∧ Keep h h' [a, b] ∧ Fld Z h' a "java/util/ArrayList" "elementData" "[Ljava/lang/Object;" (.ref b) ∧ Fld Z h' a "java/util/ArrayList" "size" "I" (.int (3 : Int32)) ∧ Fld Z h' a "java/util/AbstractList" "modCount" "I" (.int (3 : Int32)) ∧ Arv Z h' b kb (.object "java/lang/Object") (4 : Int32) [(.ref e0), (.ref e1), (.ref e), .null] .null) := by
  refine Con.of_go (plainFor_of_name pn_4) (Ls := #[.val (.ref a), .val (.ref e)]) (fun m => by first | (simp [entryFrame, mkF, argsToLocals, Value.category]; done) | rfl) ?_
  refine Go.aloadN (pc' := 1) d18_0 rfl rfl rfl ?_
  refine Go.dup (pc' := 2) d18_1 rfl rfl ?_
  refine Go.getfield (pc' := 5) (host := "") (Or.inl (ww hw 128 rfl)) (Via.of (ww hw 129 rfl)) pf2 d18_2 rfl ?_
  refine Go.iconst (pc' := 6) (v := (1 : Int32)) d18_5 rfl rfl ?_
  refine Go.iadd (pc' := 7) d18_6 rfl ?_
  show Go _ _ _ _ _ _ _ _ _ _ _ _ 7 #[.val (.ref a), .val (.ref e)] [(.int (3 : Int32)), (.ref a)]
  refine Go.putfield (pc' := 10) (host := "") (Or.inl (ww hw 128 rfl)) (Via.of (ww hw 129 rfl)) pf2 xa (Or.inl (ww hw 28 rfl)) (ww hw 7 rfl) (ty := .int) (by decide) rfl rfl ge_a d18_7 rfl ?_
  intro h1 W2
  have K3 : Keep h h1 [a, b] := (Keep.refl h [a, b]).wr W2 (Or.inl (List.mem_of_getElem? (i := 0) rfl))
  have f4 := pf2.same W2
  refine Go.aloadN (pc' := 11) d18_10 rfl rfl rfl ?_
  refine Go.aloadN (pc' := 12) d18_11 rfl rfl rfl ?_
  refine Go.aloadN (pc' := 13) d18_12 rfl rfl rfl ?_
  have f5 : Fld Z h1 a "java/util/ArrayList" "elementData" "[Ljava/lang/Object;" (.ref b) := (pf0.other W2 (Or.inr (slot_ne (Or.inl (ww hw 31 rfl)) (Or.inl (ww hw 28 rfl)) (by decide) (t := (.array (.object "java/lang/Object"))) (t' := .int) (by decide) (by decide))))
  refine Go.getfield (pc' := 16) (host := "") (Or.inl (ww hw 30 rfl)) Via.refl f5 d18_13 rfl ?_
  refine Go.aloadN (pc' := 17) d18_16 rfl rfl rfl ?_
  have f6 : Fld Z h1 a "java/util/ArrayList" "size" "I" (.int (2 : Int32)) := (pf1.other W2 (Or.inr (slot_ne (Or.inl (ww hw 56 rfl)) (Or.inl (ww hw 28 rfl)) (by decide) (t := .int) (t' := .int) (by decide) (by decide))))
  refine Go.getfield (pc' := 20) (host := "") (Or.inl (ww hw 55 rfl)) Via.refl f6 d18_17 rfl ?_
  refine Go.callP (cells' := 0) (slots' := 0) (pc' := 23) [(.ref e), (.ref b), (.int (2 : Int32))] [] (xa.wr W2) (ww hw 130 rfl) (ww hw 131 rfl) (ww hw 133 rfl) (ww hw 132 rfl) (ww hw 8 rfl) (ww hw 134 rfl) (by decide) (c_addP4_2 l Z a0 hw h1 a e b kb e0 e1 ge_a ge_b ne_a_b (xa.wr W2) (xe.wr W2) f5 f6 f4 ((vb.other W2 (Ne.symm ne_a_b))) (xb.wr W2) ob) pd_14 rfl rfl rfl rfl rfl (nl rfl) (nl rfl) (nl rfl) (nl rfl) d18_20 rfl ?_
  rintro _ h7 ⟨rfl, K7, F7_0, F7_1, F7_2, F7_3⟩
  have K8 : Keep h h7 [a, b] := K3.trans K7 (allS (Or.inl (List.mem_of_getElem? (i := 0) rfl)) (allS (Or.inl (List.mem_of_getElem? (i := 1) rfl)) all0))
  show Go _ _ _ _ _ _ _ _ _ _ _ _ 23 #[.val (.ref a), .val (.ref e)] []
  refine Go.iconst (pc' := 24) (v := (1 : Int32)) d18_23 rfl rfl ?_
  exact Go.retN (t := .boolean) rfl (by simp) d18_24 ⟨rfl, K8, F7_0, F7_1, F7_2, F7_3⟩ (by decide) (by decide)
set_option maxRecDepth 65536 in
set_option maxHeartbeats 4000000 in
theorem c_addP4_3 (l : Launch) (Z : State) (a0 : Array Value) (hw : ∀ d ∈ tables_1, d.before a0 Z = true) {n0 : Nat} (h : Heap) (a : Addr) (e : Addr) (b : Addr) (kb : ClassId) (e0 : Addr) (e1 : Addr) (e2 : Addr) (ge_a : n0 ≤ a) (ge_b : n0 ≤ b) (ne_a_b : a ≠ b) (xa : Exa Z h a "java/util/ArrayList") (xe : Exa Z h e "java/util/ImmutableCollections$List12") (pf0 : Fld Z h a "java/util/ArrayList" "elementData" "[Ljava/lang/Object;" (.ref b)) (pf1 : Fld Z h a "java/util/ArrayList" "size" "I" (.int (3 : Int32))) (pf2 : Fld Z h a "java/util/AbstractList" "modCount" "I" (.int (4 : Int32))) (vb : Arv Z h b kb (.object "java/lang/Object") (4 : Int32) [(.ref e0), (.ref e1), (.ref e2), .null] .null) (xb : Exa Z h b "[Ljava/lang/Object;") (ob : Ovr Z kb "java/lang/Object") :
    Con l (⟨"java/util/ArrayList", "add", "(Ljava/lang/Object;[Ljava/lang/Object;I)V"⟩ : MethodName) jdk_38_method_24_code 4 none ({ frames := 0, cells := 0, slots := 0, locals := 0 } : Room) Z n0 #[(.ref a), (.ref e), (.ref b), (.int (3 : Int32))] h (fun v h' => v = none ∧ Keep h h' [a, b] ∧ Fld Z h' a "java/util/ArrayList" "elementData" "[Ljava/lang/Object;" (.ref b) ∧ Fld Z h' a "java/util/ArrayList" "size" "I" (.int (4 : Int32)) ∧ Fld Z h' a "java/util/AbstractList" "modCount" "I" (.int (4 : Int32)) ∧ Arv Z h' b kb (.object "java/lang/Object") (4 : Int32) [(.ref e0), (.ref e1), (.ref e2), (.ref e)] .null) := by
  refine Con.of_go (plainFor_of_name pn_4) (Ls := #[.val (.ref a), .val (.ref e), .val (.ref b), .val (.int (3 : Int32))]) (fun m => by first | (simp [entryFrame, mkF, argsToLocals, Value.category]; done) | rfl) ?_
  refine Go.iloadN (pc' := 1) d19_0 rfl rfl ?_
  refine Go.aloadN (pc' := 2) d19_1 rfl rfl rfl ?_
  refine Go.arraylength (pc' := 3) vb d19_2 rfl ?_
  refine Go.icmpYes (pc' := 11) d19_3 (XT.ii_ne_t (by decide)) (by decide) (by decide) ?_
  refine Go.aloadN (pc' := 12) d19_11 rfl rfl rfl ?_
  refine Go.iloadN (pc' := 13) d19_12 rfl rfl ?_
  refine Go.aloadN (pc' := 14) d19_13 rfl rfl rfl ?_
  refine Go.aastore (pc' := 15) vb ge_b rfl rfl (own_sto vb ob (Ins.of_exa xe (ww hw 135 rfl))) d19_14 (by decide) (by decide) (i := 3) rfl (nl rfl) rfl ?_
  intro h1 W2 V3
  have K4 : Keep h h1 [a, b] := (Keep.refl h [a, b]).wr W2 (Or.inl (List.mem_of_getElem? (i := 1) rfl))
  replace V3 : Arv Z h1 b kb (.object "java/lang/Object") (4 : Int32) [(.ref e0), (.ref e1), (.ref e2), (.ref e)] .null := V3
  refine Go.aloadN (pc' := 16) d19_15 rfl rfl rfl ?_
  refine Go.iloadN (pc' := 17) d19_16 rfl rfl ?_
  refine Go.iconst (pc' := 18) (v := (1 : Int32)) d19_17 rfl rfl ?_
  refine Go.iadd (pc' := 19) d19_18 rfl ?_
  show Go _ _ _ _ _ _ _ _ _ _ _ _ 19 #[.val (.ref a), .val (.ref e), .val (.ref b), .val (.int (3 : Int32))] [(.int (4 : Int32)), (.ref a)]
  refine Go.putfield (pc' := 22) (host := "") (Or.inl (ww hw 55 rfl)) Via.refl (pf1.other W2 (Or.inl ne_a_b)) (xa.wr W2) (Or.inl (ww hw 56 rfl)) (ww hw 7 rfl) (ty := .int) (by decide) rfl rfl ge_a d19_19 rfl ?_
  intro h5 W6
  have K7 : Keep h h5 [a, b] := K4.wr W6 (Or.inl (List.mem_of_getElem? (i := 0) rfl))
  have f8 := (pf1.other W2 (Or.inl ne_a_b)).same W6
  have f9 : Fld Z h5 a "java/util/ArrayList" "elementData" "[Ljava/lang/Object;" (.ref b) := ((pf0.other W2 (Or.inl ne_a_b)).other W6 (Or.inr (slot_ne (Or.inl (ww hw 31 rfl)) (Or.inl (ww hw 56 rfl)) (by decide) (t := (.array (.object "java/lang/Object"))) (t' := .int) (by decide) (by decide))))
  have f10 : Fld Z h5 a "java/util/AbstractList" "modCount" "I" (.int (4 : Int32)) := ((pf2.other W2 (Or.inl ne_a_b)).other W6 (Or.inr (slot_ne (Or.inl (ww hw 28 rfl)) (Or.inl (ww hw 56 rfl)) (by decide) (t := .int) (t' := .int) (by decide) (by decide))))
  exact Go.retV rfl d19_22 ⟨rfl, K7, f9, f8, f10, (V3.other W6 (Ne.symm ne_a_b))⟩ (by decide) (by decide)
set_option maxRecDepth 65536 in
set_option maxHeartbeats 4000000 in
theorem c_add4_3 (l : Launch) (Z : State) (a0 : Array Value) (hw : ∀ d ∈ tables_1, d.before a0 Z = true) {n0 : Nat} (h : Heap) (a : Addr) (e : Addr) (b : Addr) (kb : ClassId) (e0 : Addr) (e1 : Addr) (e2 : Addr) (ge_a : n0 ≤ a) (ge_b : n0 ≤ b) (ne_a_b : a ≠ b) (xa : Exa Z h a "java/util/ArrayList") (xe : Exa Z h e "java/util/ImmutableCollections$List12") (pf0 : Fld Z h a "java/util/ArrayList" "elementData" "[Ljava/lang/Object;" (.ref b)) (pf1 : Fld Z h a "java/util/ArrayList" "size" "I" (.int (3 : Int32))) (pf2 : Fld Z h a "java/util/AbstractList" "modCount" "I" (.int (3 : Int32))) (vb : Arv Z h b kb (.object "java/lang/Object") (4 : Int32) [(.ref e0), (.ref e1), (.ref e2), .null] .null) (xb : Exa Z h b "[Ljava/lang/Object;") (ob : Ovr Z kb "java/lang/Object") :
    Con l (⟨"java/util/ArrayList", "add", "(Ljava/lang/Object;)Z"⟩ : MethodName) jdk_38_method_25_code 2 (some .boolean) ({ frames := 1, cells := 0, slots := 0, locals := 15 } : Room) Z n0 #[(.ref a), (.ref e)] h (fun v h' => v = some (.int (1 : Int32)) ∧ Keep h h' [a, b] ∧ Fld Z h' a "java/util/ArrayList" "elementData" "[Ljava/lang/Object;" (.ref b) ∧ Fld Z h' a "java/util/ArrayList" "size" "I" (.int (4 : Int32)) ∧ Fld Z h' a "java/util/AbstractList" "modCount" "I" (.int (4 : Int32)) ∧ Arv Z h' b kb (.object "java/lang/Object") (4 : Int32) [(.ref e0), (.ref e1), (.ref e2), (.ref e)] .null) := by
  refine Con.of_go (plainFor_of_name pn_4) (Ls := #[.val (.ref a), .val (.ref e)]) (fun m => by first | (simp [entryFrame, mkF, argsToLocals, Value.category]; done) | rfl) ?_
  refine Go.aloadN (pc' := 1) d18_0 rfl rfl rfl ?_
  refine Go.dup (pc' := 2) d18_1 rfl rfl ?_
  refine Go.getfield (pc' := 5) (host := "") (Or.inl (ww hw 128 rfl)) (Via.of (ww hw 129 rfl)) pf2 d18_2 rfl ?_
  refine Go.iconst (pc' := 6) (v := (1 : Int32)) d18_5 rfl rfl ?_
  refine Go.iadd (pc' := 7) d18_6 rfl ?_
  show Go _ _ _ _ _ _ _ _ _ _ _ _ 7 #[.val (.ref a), .val (.ref e)] [(.int (4 : Int32)), (.ref a)]
  refine Go.putfield (pc' := 10) (host := "") (Or.inl (ww hw 128 rfl)) (Via.of (ww hw 129 rfl)) pf2 xa (Or.inl (ww hw 28 rfl)) (ww hw 7 rfl) (ty := .int) (by decide) rfl rfl ge_a d18_7 rfl ?_
  intro h1 W2
  have K3 : Keep h h1 [a, b] := (Keep.refl h [a, b]).wr W2 (Or.inl (List.mem_of_getElem? (i := 0) rfl))
  have f4 := pf2.same W2
  refine Go.aloadN (pc' := 11) d18_10 rfl rfl rfl ?_
  refine Go.aloadN (pc' := 12) d18_11 rfl rfl rfl ?_
  refine Go.aloadN (pc' := 13) d18_12 rfl rfl rfl ?_
  have f5 : Fld Z h1 a "java/util/ArrayList" "elementData" "[Ljava/lang/Object;" (.ref b) := (pf0.other W2 (Or.inr (slot_ne (Or.inl (ww hw 31 rfl)) (Or.inl (ww hw 28 rfl)) (by decide) (t := (.array (.object "java/lang/Object"))) (t' := .int) (by decide) (by decide))))
  refine Go.getfield (pc' := 16) (host := "") (Or.inl (ww hw 30 rfl)) Via.refl f5 d18_13 rfl ?_
  refine Go.aloadN (pc' := 17) d18_16 rfl rfl rfl ?_
  have f6 : Fld Z h1 a "java/util/ArrayList" "size" "I" (.int (3 : Int32)) := (pf1.other W2 (Or.inr (slot_ne (Or.inl (ww hw 56 rfl)) (Or.inl (ww hw 28 rfl)) (by decide) (t := .int) (t' := .int) (by decide) (by decide))))
  refine Go.getfield (pc' := 20) (host := "") (Or.inl (ww hw 55 rfl)) Via.refl f6 d18_17 rfl ?_
  refine Go.callP (cells' := 0) (slots' := 0) (pc' := 23) [(.ref e), (.ref b), (.int (3 : Int32))] [] (xa.wr W2) (ww hw 130 rfl) (ww hw 131 rfl) (ww hw 133 rfl) (ww hw 132 rfl) (ww hw 8 rfl) (ww hw 134 rfl) (by decide) (c_addP4_3 l Z a0 hw h1 a e b kb e0 e1 e2 ge_a ge_b ne_a_b (xa.wr W2) (xe.wr W2) f5 f6 f4 ((vb.other W2 (Ne.symm ne_a_b))) (xb.wr W2) ob) pd_14 rfl rfl rfl rfl rfl (nl rfl) (nl rfl) (nl rfl) (nl rfl) d18_20 rfl ?_
  rintro _ h7 ⟨rfl, K7, F7_0, F7_1, F7_2, F7_3⟩
  have K8 : Keep h h7 [a, b] := K3.trans K7 (allS (Or.inl (List.mem_of_getElem? (i := 0) rfl)) (allS (Or.inl (List.mem_of_getElem? (i := 1) rfl)) all0))
  show Go _ _ _ _ _ _ _ _ _ _ _ _ 23 #[.val (.ref a), .val (.ref e)] []
  refine Go.iconst (pc' := 24) (v := (1 : Int32)) d18_23 rfl rfl ?_
  exact Go.retN (t := .boolean) rfl (by simp) d18_24 ⟨rfl, K8, F7_0, F7_1, F7_2, F7_3⟩ (by decide) (by decide)
theorem d1_0 : decode prog_11_method_3_code 0 = .ok (.new 7, 3) := by decide +kernel
theorem d1_3 : decode prog_11_method_3_code 3 = .ok (.dup, 1) := by decide +kernel
theorem d1_4 : decode prog_11_method_3_code 4 = .ok (.aload_n 0, 1) := by decide +kernel
theorem d1_5 : decode prog_11_method_3_code 5 = .ok (.arraylength, 1) := by decide +kernel
theorem d1_6 : decode prog_11_method_3_code 6 = .ok (.invokespecial 15, 3) := by decide +kernel
theorem d1_9 : decode prog_11_method_3_code 9 = .ok (.astore_n 1, 1) := by decide +kernel
theorem d1_10 : decode prog_11_method_3_code 10 = .ok (.aload_n 0, 1) := by decide +kernel
theorem d1_11 : decode prog_11_method_3_code 11 = .ok (.astore_n 2, 1) := by decide +kernel
theorem d1_12 : decode prog_11_method_3_code 12 = .ok (.aload_n 2, 1) := by decide +kernel
theorem d1_13 : decode prog_11_method_3_code 13 = .ok (.arraylength, 1) := by decide +kernel
theorem d1_14 : decode prog_11_method_3_code 14 = .ok (.istore_n 3, 1) := by decide +kernel
theorem d1_15 : decode prog_11_method_3_code 15 = .ok (.iconst 0, 1) := by decide +kernel
theorem d1_16 : decode prog_11_method_3_code 16 = .ok (.istore 4, 2) := by decide +kernel
theorem d1_18 : decode prog_11_method_3_code 18 = .ok (.iload 4, 2) := by decide +kernel
theorem d1_20 : decode prog_11_method_3_code 20 = .ok (.iload_n 3, 1) := by decide +kernel
theorem d1_21 : decode prog_11_method_3_code 21 = .ok (.if_icmp .ge 30, 3) := by decide +kernel
theorem d1_51 : decode prog_11_method_3_code 51 = .ok (.aload_n 1, 1) := by decide +kernel
theorem d1_52 : decode prog_11_method_3_code 52 = .ok (.invokestatic 32, 3) := by decide +kernel
theorem d1_55 : decode prog_11_method_3_code 55 = .ok (.areturn, 1) := by decide +kernel
theorem pn_13 : plainName "com/example/wildmotif/wildmotif/match/Outcome" = true := by first | (simp [plainName, overriddenIn]; done) | decide +kernel
set_option maxRecDepth 65536 in
set_option maxHeartbeats 4000000 in
theorem c_wit0 (l : Launch) (Z : State) (a0 : Array Value) (hw : ∀ d ∈ tables_1, d.before a0 Z = true) {n0 : Nat} (h : Heap) (t : Addr) (kt : ClassId) (wd0 : Addr) (wE : Addr) (wL : Addr) (wLe : Addr) (kLe : ClassId) (vsL : List Value) (mO : Addr) (wc : Addr) (kc : ClassId) (vsc : List Value) (hcache : ∀ ii : Int32, ¬ ii < -128 → ¬ 127 < ii → ∃ w, vsc.getD (ii + 128).toNatClampNeg .null = .ref w ∧ Exa Z Z.heap w "java/lang/Integer" ∧ Fld Z Z.heap w "java/lang/Integer" "value" "I" (.int ii)) (sd0 : Sta Z Z.heap "java/util/ArrayList" "EMPTY_ELEMENTDATA" "[Ljava/lang/Object;" (.ref wd0)) (se : Sta Z Z.heap "java/util/ImmutableCollections" "EMPTY" "Ljava/lang/Object;" (.ref wE)) (xE : Exa Z Z.heap wE "java/lang/Object") (sl : Sta Z Z.heap "java/util/ImmutableCollections" "EMPTY_LIST" "Ljava/util/ImmutableCollections$ListN;" (.ref wL)) (xL : Exa Z Z.heap wL "java/util/ImmutableCollections$ListN") (fL : Fld Z Z.heap wL "java/util/ImmutableCollections$ListN" "elements" "[Ljava/lang/Object;" (.ref wLe)) (vL : Arv Z Z.heap wLe kLe (.object "java/lang/Object") (0 : Int32) vsL .null) (mo : Mi Z "[Ljava/lang/Object;" mO) (sh : Sta Z Z.heap "java/lang/Integer$IntegerCache" "high" "I" (.int (127 : Int32))) (sc : Sta Z Z.heap "java/lang/Integer$IntegerCache" "cache" "[Ljava/lang/Integer;" (.ref wc)) (vc : Arv Z Z.heap wc kc (.object "java/lang/Integer") (256 : Int32) vsc .null) (v : Arv Z h t kt .int (0 : Int32) [] (.int 0)) :
    Con l (⟨"com/example/wildmotif/wildmotif/match/Outcome", "witnessOfSingleNodes", "([I)Ljava/util/List;"⟩ : MethodName) prog_11_method_3_code 6 (some (.object "java/util/List")) ({ frames := 4, cells := 1, slots := 3, locals := 50 } : Room) Z n0 #[(.ref t)] h (fun v h' => v = some (.ref wL) ∧ Keep h h' []) := by
  refine Con.of_go (plainFor_of_name pn_13) (Ls := #[.val (.ref t), .unset, .unset, .unset, .unset, .unset]) (fun m => by first | (simp [entryFrame, mkF, argsToLocals, Value.category]; done) | rfl) ?_
  refine Go.new (pc' := 3) (cells' := 1) (slots' := 3) (ww hw 6 rfl) (ww hw 7 rfl) (ww hw 8 rfl) d1_0 rfl rfl (by decide) (by decide) rfl ?_
  intro h1 b1 g1 E1 ge1 A1 D1
  have sz2 : h.size ≤ b1 := Nat.le_trans (Keep.refl h []).1 (Nat.le_of_eq g1.symm)
  have K3 : Keep h h1 [] := (Keep.refl h []).ext E1
  refine Go.dup (pc' := 4) d1_3 rfl rfl ?_
  refine Go.aloadN (pc' := 5) d1_4 rfl rfl rfl ?_
  refine Go.arraylength (pc' := 6) (v.ext E1) d1_5 rfl ?_
  refine Go.callC (cells' := 1) (slots' := 3) (pc' := 9) [(.int (0 : Int32))] [(.ref b1)] (a := b1) rfl rfl (ww hw 9 rfl) (ww hw 10 rfl) (ww hw 8 rfl) (ww hw 11 rfl) (by decide) (c_alInitI0 l Z a0 hw h1 b1 wd0 sd0 ge1 A1 ((D1 (Or.inl (ww hw 31 rfl)) (ty := (.array (.object "java/lang/Object"))) (by decide) : Fld Z h1 b1 "java/util/ArrayList" "elementData" "[Ljava/lang/Object;" .null)) ((D1 (Or.inl (ww hw 56 rfl)) (ty := .int) (by decide) : Fld Z h1 b1 "java/util/ArrayList" "size" "I" (.int (0 : Int32)))) ((D1 (Or.inl (ww hw 28 rfl)) (ty := .int) (by decide) : Fld Z h1 b1 "java/util/AbstractList" "modCount" "I" (.int (0 : Int32))))) pd_1 rfl rfl rfl rfl rfl (nl rfl) (nl rfl) (nl rfl) (nl rfl) d1_6 rfl ?_
  rintro _ h4 ⟨rfl, K4, F4_0, F4_1, F4_2⟩
  have K5 : Keep h h4 [] := K3.trans K4 (allS (Or.inr sz2) all0)
  show Go _ _ _ _ _ _ _ _ _ _ _ _ 9 #[.val (.ref t), .unset, .unset, .unset, .unset, .unset] [(.ref b1)]
  refine Go.astoreN (pc' := 10) (Ls' := #[.val (.ref t), .val (.ref b1), .unset, .unset, .unset, .unset]) d1_9 rfl rfl rfl ?_
  refine Go.aloadN (pc' := 11) d1_10 rfl rfl rfl ?_
  refine Go.astoreN (pc' := 12) (Ls' := #[.val (.ref t), .val (.ref b1), .val (.ref t), .unset, .unset, .unset]) d1_11 rfl rfl rfl ?_
  refine Go.aloadN (pc' := 13) d1_12 rfl rfl rfl ?_
  have ne6 : t ≠ b1 := (Nat.ne_of_lt (Nat.lt_of_lt_of_le v.lt (Nat.le_of_eq g1.symm)))
  refine Go.arraylength (pc' := 14) ((v.ext E1).keep K4 (ninS ne6 nin0)) d1_13 rfl ?_
  refine Go.istoreN (pc' := 15) (Ls' := #[.val (.ref t), .val (.ref b1), .val (.ref t), .val (.int (0 : Int32)), .unset, .unset]) d1_14 rfl rfl ?_
  refine Go.iconst (pc' := 16) (v := (0 : Int32)) d1_15 rfl rfl ?_
  refine Go.istore (pc' := 18) (Ls' := #[.val (.ref t), .val (.ref b1), .val (.ref t), .val (.int (0 : Int32)), .val (.int (0 : Int32)), .unset]) d1_16 rfl rfl ?_
  refine Go.iload (pc' := 20) d1_18 rfl rfl ?_
  refine Go.iloadN (pc' := 21) d1_20 rfl rfl ?_
  refine Go.icmpYes (pc' := 51) d1_21 (XT.ii_ge_t (by decide)) (by decide) (by decide) ?_
  refine Go.aloadN (pc' := 52) d1_51 rfl rfl rfl ?_
  refine Go.callS (cells' := 1) (slots' := 3) (pc' := 55) [(.ref b1)] [] (ww hw 32 rfl) (ww hw 33 rfl) (ww hw 34 rfl) (ww hw 35 rfl) (by decide) (c_copy0 l Z a0 hw h4 b1 wL wLe kLe vsL sl xL fL vL (A1.keep K4) F4_1) pd_6 rfl rfl rfl rfl rfl (nl rfl) (nl rfl) (nl rfl) (nl rfl) d1_52 rfl ?_
  rintro _ _ ⟨rfl, rfl⟩
  show Go _ _ _ _ _ _ _ _ _ _ _ _ 55 #[.val (.ref t), .val (.ref b1), .val (.ref t), .val (.int (0 : Int32)), .val (.int (0 : Int32)), .unset] [(.ref wL)]
  exact Go.retR rfl rfl rfl rfl d1_55 ⟨rfl, K5⟩ (by decide) (by decide)
theorem d1_24 : decode prog_11_method_3_code 24 = .ok (.aload_n 2, 1) := by decide +kernel
theorem d1_25 : decode prog_11_method_3_code 25 = .ok (.iload 4, 2) := by decide +kernel
theorem d1_27 : decode prog_11_method_3_code 27 = .ok (.iaload, 1) := by decide +kernel
theorem d1_28 : decode prog_11_method_3_code 28 = .ok (.istore 5, 2) := by decide +kernel
theorem d1_30 : decode prog_11_method_3_code 30 = .ok (.aload_n 1, 1) := by decide +kernel
theorem d1_31 : decode prog_11_method_3_code 31 = .ok (.iload 5, 2) := by decide +kernel
theorem d1_33 : decode prog_11_method_3_code 33 = .ok (.invokestatic 62, 3) := by decide +kernel
theorem d1_36 : decode prog_11_method_3_code 36 = .ok (.invokestatic 68, 3) := by decide +kernel
theorem d1_39 : decode prog_11_method_3_code 39 = .ok (.invokeinterface 36 2, 5) := by decide +kernel
theorem d1_44 : decode prog_11_method_3_code 44 = .ok (.pop, 1) := by decide +kernel
theorem d1_45 : decode prog_11_method_3_code 45 = .ok (.iinc 4 1, 3) := by decide +kernel
theorem d1_48 : decode prog_11_method_3_code 48 = .ok (.goto (-30), 3) := by decide +kernel
theorem pd_15 : parseMethodDescriptor "(I)Ljava/lang/Integer;" = some ⟨[.int], some (.object "java/lang/Integer")⟩ := by decide +kernel
theorem pd_16 : parseMethodDescriptor "(Ljava/lang/Object;)Ljava/util/List;" = some ⟨[(.object "java/lang/Object")], some (.object "java/util/List")⟩ := by decide +kernel
theorem pd_17 : parseMethodDescriptor "(Ljava/lang/Object;)Z" = some ⟨[(.object "java/lang/Object")], some .boolean⟩ := by decide +kernel
set_option maxRecDepth 65536 in
set_option maxHeartbeats 4000000 in
theorem c_wit1 (l : Launch) (Z : State) (a0 : Array Value) (hw : ∀ d ∈ tables_1, d.before a0 Z = true) {n0 : Nat} (h : Heap) (t : Addr) (kt : ClassId) (q0 : Int32) (wd0 : Addr) (wE : Addr) (wL : Addr) (wLe : Addr) (kLe : ClassId) (vsL : List Value) (mO : Addr) (wc : Addr) (kc : ClassId) (vsc : List Value) (hcache : ∀ ii : Int32, ¬ ii < -128 → ¬ 127 < ii → ∃ w, vsc.getD (ii + 128).toNatClampNeg .null = .ref w ∧ Exa Z Z.heap w "java/lang/Integer" ∧ Fld Z Z.heap w "java/lang/Integer" "value" "I" (.int ii)) (sd0 : Sta Z Z.heap "java/util/ArrayList" "EMPTY_ELEMENTDATA" "[Ljava/lang/Object;" (.ref wd0)) (se : Sta Z Z.heap "java/util/ImmutableCollections" "EMPTY" "Ljava/lang/Object;" (.ref wE)) (xE : Exa Z Z.heap wE "java/lang/Object") (sl : Sta Z Z.heap "java/util/ImmutableCollections" "EMPTY_LIST" "Ljava/util/ImmutableCollections$ListN;" (.ref wL)) (xL : Exa Z Z.heap wL "java/util/ImmutableCollections$ListN") (fL : Fld Z Z.heap wL "java/util/ImmutableCollections$ListN" "elements" "[Ljava/lang/Object;" (.ref wLe)) (vL : Arv Z Z.heap wLe kLe (.object "java/lang/Object") (0 : Int32) vsL .null) (mo : Mi Z "[Ljava/lang/Object;" mO) (sh : Sta Z Z.heap "java/lang/Integer$IntegerCache" "high" "I" (.int (127 : Int32))) (sc : Sta Z Z.heap "java/lang/Integer$IntegerCache" "cache" "[Ljava/lang/Integer;" (.ref wc)) (vc : Arv Z Z.heap wc kc (.object "java/lang/Integer") (256 : Int32) vsc .null) (v : Arv Z h t kt .int (1 : Int32) [(.int q0)] (.int 0)) :
    Con l (⟨"com/example/wildmotif/wildmotif/match/Outcome", "witnessOfSingleNodes", "([I)Ljava/util/List;"⟩ : MethodName) prog_11_method_3_code 6 (some (.object "java/util/List")) ({ frames := 8, cells := 6, slots := 10, locals := 100 } : Room) Z n0 #[(.ref t)] h (fun v h' => ∃ r : Addr, ∃ e0 : Addr, ∃ g0 : Addr, v = some (.ref r) ∧ Keep h h' [] ∧ Exa Z h' r "java/util/ImmutableCollections$List12" ∧ Fld Z h' r "java/util/ImmutableCollections$List12" "e0" "Ljava/lang/Object;" (.ref e0) ∧ Fld Z h' r "java/util/ImmutableCollections$List12" "e1" "Ljava/lang/Object;" (.ref wE) ∧ Exa Z h' e0 "java/util/ImmutableCollections$List12" ∧ Fld Z h' e0 "java/util/ImmutableCollections$List12" "e0" "Ljava/lang/Object;" (.ref g0) ∧ Fld Z h' e0 "java/util/ImmutableCollections$List12" "e1" "Ljava/lang/Object;" (.ref wE) ∧ Exa Z h' g0 "java/lang/Integer" ∧ Fld Z h' g0 "java/lang/Integer" "value" "I" (.int q0)) := by
  refine Con.of_go (plainFor_of_name pn_13) (Ls := #[.val (.ref t), .unset, .unset, .unset, .unset, .unset]) (fun m => by first | (simp [entryFrame, mkF, argsToLocals, Value.category]; done) | rfl) ?_
  refine Go.new (pc' := 3) (cells' := 1) (slots' := 3) (ww hw 6 rfl) (ww hw 7 rfl) (ww hw 8 rfl) d1_0 rfl rfl (by decide) (by decide) rfl ?_
  intro h1 b1 g1 E1 ge1 A1 D1
  have sz2 : h.size ≤ b1 := Nat.le_trans (Keep.refl h []).1 (Nat.le_of_eq g1.symm)
  have K3 : Keep h h1 [] := (Keep.refl h []).ext E1
  refine Go.dup (pc' := 4) d1_3 rfl rfl ?_
  refine Go.aloadN (pc' := 5) d1_4 rfl rfl rfl ?_
  refine Go.arraylength (pc' := 6) (v.ext E1) d1_5 rfl ?_
  refine Go.callC (cells' := 2) (slots' := 4) (pc' := 9) [(.int (1 : Int32))] [(.ref b1)] (a := b1) rfl rfl (ww hw 9 rfl) (ww hw 10 rfl) (ww hw 8 rfl) (ww hw 11 rfl) (by decide) (c_alInitI1 l Z a0 hw h1 b1 ge1 A1 ((D1 (Or.inl (ww hw 31 rfl)) (ty := (.array (.object "java/lang/Object"))) (by decide) : Fld Z h1 b1 "java/util/ArrayList" "elementData" "[Ljava/lang/Object;" .null)) ((D1 (Or.inl (ww hw 56 rfl)) (ty := .int) (by decide) : Fld Z h1 b1 "java/util/ArrayList" "size" "I" (.int (0 : Int32)))) ((D1 (Or.inl (ww hw 28 rfl)) (ty := .int) (by decide) : Fld Z h1 b1 "java/util/AbstractList" "modCount" "I" (.int (0 : Int32))))) pd_1 rfl rfl rfl rfl rfl (nl rfl) (nl rfl) (nl rfl) (nl rfl) d1_6 rfl ?_
  rintro _ h4 ⟨b_4, kb_4, rfl, K4, ge_b_4, sz_b_4, F4_0, F4_1, F4_2, F4_3, F4_4, F4_5⟩
  have sz5 : h.size ≤ b_4 := Nat.le_trans K3.1 sz_b_4
  have K6 : Keep h h4 [] := K3.trans K4 (allS (Or.inr sz2) all0)
  show Go _ _ _ _ _ _ _ _ _ _ _ _ 9 #[.val (.ref t), .unset, .unset, .unset, .unset, .unset] [(.ref b1)]
  refine Go.astoreN (pc' := 10) (Ls' := #[.val (.ref t), .val (.ref b1), .unset, .unset, .unset, .unset]) d1_9 rfl rfl rfl ?_
  refine Go.aloadN (pc' := 11) d1_10 rfl rfl rfl ?_
  refine Go.astoreN (pc' := 12) (Ls' := #[.val (.ref t), .val (.ref b1), .val (.ref t), .unset, .unset, .unset]) d1_11 rfl rfl rfl ?_
  refine Go.aloadN (pc' := 13) d1_12 rfl rfl rfl ?_
  have ne7 : t ≠ b1 := (Nat.ne_of_lt (Nat.lt_of_lt_of_le v.lt (Nat.le_of_eq g1.symm)))
  refine Go.arraylength (pc' := 14) ((v.ext E1).keep K4 (ninS ne7 nin0)) d1_13 rfl ?_
  refine Go.istoreN (pc' := 15) (Ls' := #[.val (.ref t), .val (.ref b1), .val (.ref t), .val (.int (1 : Int32)), .unset, .unset]) d1_14 rfl rfl ?_
  refine Go.iconst (pc' := 16) (v := (0 : Int32)) d1_15 rfl rfl ?_
  refine Go.istore (pc' := 18) (Ls' := #[.val (.ref t), .val (.ref b1), .val (.ref t), .val (.int (1 : Int32)), .val (.int (0 : Int32)), .unset]) d1_16 rfl rfl ?_
  refine Go.iload (pc' := 20) d1_18 rfl rfl ?_
  refine Go.iloadN (pc' := 21) d1_20 rfl rfl ?_
  refine Go.icmpNo (pc' := 24) d1_21 (XT.ii_ge_f (by decide)) rfl ?_
  refine Go.aloadN (pc' := 25) d1_24 rfl rfl rfl ?_
  refine Go.iload (pc' := 27) d1_25 rfl rfl ?_
  refine Go.iaload (pc' := 28) (v := q0) ((v.ext E1).keep K4 (ninS ne7 nin0)) d1_27 (by decide) (by decide) rfl rfl ?_
  refine Go.istore (pc' := 30) (Ls' := #[.val (.ref t), .val (.ref b1), .val (.ref t), .val (.int (1 : Int32)), .val (.int (0 : Int32)), .val (.int q0)]) d1_28 rfl rfl ?_
  refine Go.aloadN (pc' := 31) d1_30 rfl rfl rfl ?_
  refine Go.iload (pc' := 33) d1_31 rfl rfl ?_
  refine Go.callS (cells' := 3) (slots' := 5) (pc' := 36) [(.int q0)] [(.ref b1)] (ww hw 79 rfl) (ww hw 80 rfl) (ww hw 81 rfl) (ww hw 82 rfl) (by decide) (c_valueOf l Z a0 hw h4 q0 wc kc vsc hcache sh sc vc) pd_15 rfl rfl rfl rfl rfl (nl rfl) (nl rfl) (nl rfl) (nl rfl) d1_33 rfl ?_
  rintro _ h8 ⟨w_8, rfl, K8, F8_0, F8_1⟩
  have K9 : Keep h h8 [] := K6.trans K8 all0
  show Go _ _ _ _ _ _ _ _ _ _ _ _ 36 #[.val (.ref t), .val (.ref b1), .val (.ref t), .val (.int (1 : Int32)), .val (.int (0 : Int32)), .val (.int q0)] [(.ref w_8), (.ref b1)]
  refine Go.callS (cells' := 4) (slots' := 7) (pc' := 39) [(.ref w_8)] [(.ref b1)] (ww hw 86 rfl) (ww hw 87 rfl) (ww hw 34 rfl) (ww hw 88 rfl) (by decide) (c_listOf1 l Z a0 hw h8 w_8 wE se xE) pd_16 rfl rfl rfl rfl rfl (nl rfl) (nl rfl) (nl rfl) (nl rfl) d1_36 rfl ?_
  rintro _ h10 ⟨r_10, rfl, K10, ge_r_10, sz_r_10, F10_0, F10_1, F10_2⟩
  have sz11 : h.size ≤ r_10 := Nat.le_trans K9.1 sz_r_10
  have K12 : Keep h h10 [] := K9.trans K10 all0
  show Go _ _ _ _ _ _ _ _ _ _ _ _ 39 #[.val (.ref t), .val (.ref b1), .val (.ref t), .val (.int (1 : Int32)), .val (.int (0 : Int32)), .val (.int q0)] [(.ref r_10), (.ref b1)]
  have ne13 : b1 ≠ b_4 := (Nat.ne_of_lt (Nat.lt_of_lt_of_le A1.lt sz_b_4))
  refine Go.callI (cells' := 4) (slots' := 7) (pc' := 44) [(.ref r_10)] [] (((A1.keep K4).keep K8).keep K10) (ww hw 119 rfl) (ww hw 120 rfl) (ww hw 121 rfl) (ww hw 122 rfl) (ww hw 123 rfl) (ww hw 124 rfl) (ww hw 125 rfl) (ww hw 126 rfl) (ww hw 8 rfl) (ww hw 127 rfl) (by decide) (c_add1_0 l Z a0 hw h10 b1 r_10 b_4 kb_4 ge1 ge_b_4 ne13 ((((A1.keep K4).keep K8).keep K10)) F10_0 (((F4_0.keep K8 nin0).keep K10 nin0)) (((F4_1.keep K8 nin0).keep K10 nin0)) (((F4_2.keep K8 nin0).keep K10 nin0)) (((F4_3.keep K8 nin0).keep K10 nin0)) (((F4_4.keep K8).keep K10)) F4_5) pd_17 rfl rfl rfl rfl rfl (nl rfl) (nl rfl) (nl rfl) (nl rfl) d1_39 rfl ?_
  rintro _ h14 ⟨rfl, K14, F14_0, F14_1, F14_2, F14_3⟩
  have K15 : Keep h h14 [] := K12.trans K14 (allS (Or.inr sz2) (allS (Or.inr sz5) all0))
  show Go _ _ _ _ _ _ _ _ _ _ _ _ 44 #[.val (.ref t), .val (.ref b1), .val (.ref t), .val (.int (1 : Int32)), .val (.int (0 : Int32)), .val (.int q0)] [(.int (1 : Int32))]
  refine Go.pop (pc' := 45) d1_44 rfl rfl ?_
  refine Go.iinc (pc' := 48) (Ls' := #[.val (.ref t), .val (.ref b1), .val (.ref t), .val (.int (1 : Int32)), .val (.int ((0 : Int32) + (1 : Int32))), .val (.int q0)]) (w := (1 : Int32)) d1_45 rfl rfl rfl rfl ?_
  show Go _ _ _ _ _ _ _ _ _ _ _ _ 48 #[.val (.ref t), .val (.ref b1), .val (.ref t), .val (.int (1 : Int32)), .val (.int (1 : Int32)), .val (.int q0)] []
  refine Go.goto (pc' := 18) d1_48 (by decide) (by decide) ?_
  refine Go.iload (pc' := 20) d1_18 rfl rfl ?_
  refine Go.iloadN (pc' := 21) d1_20 rfl rfl ?_
  refine Go.icmpYes (pc' := 51) d1_21 (XT.ii_ge_t (by decide)) (by decide) (by decide) ?_
  refine Go.aloadN (pc' := 52) d1_51 rfl rfl rfl ?_
  have f16 : Exa Z h14 b1 "java/util/ArrayList" := ((((A1.keep K4).keep K8).keep K10).keep K14)
  refine Go.callS (cells' := 6) (slots' := 10) (pc' := 55) [(.ref b1)] [] (ww hw 32 rfl) (ww hw 33 rfl) (ww hw 34 rfl) (ww hw 35 rfl) (by decide) (c_copy1 l Z a0 hw h14 b1 b_4 kb_4 r_10 wE mO se xE mo f16 F14_0 F14_1 F14_3 ((((F4_4.keep K8).keep K10).keep K14)) (F10_0.keep K14)) pd_6 rfl rfl rfl rfl rfl (nl rfl) (nl rfl) (nl rfl) (nl rfl) d1_52 rfl ?_
  rintro _ h17 ⟨r_17, rfl, K17, ge_r_17, sz_r_17, F17_0, F17_1, F17_2⟩
  have sz18 : h.size ≤ r_17 := Nat.le_trans K15.1 sz_r_17
  have K19 : Keep h h17 [] := K15.trans K17 all0
  show Go _ _ _ _ _ _ _ _ _ _ _ _ 55 #[.val (.ref t), .val (.ref b1), .val (.ref t), .val (.int (1 : Int32)), .val (.int (1 : Int32)), .val (.int q0)] [(.ref r_17)]
  have ne20 : b_4 ≠ r_10 := (Nat.ne_of_lt (Nat.lt_of_lt_of_le (F4_4.keep K8).lt sz_r_10))
  have ne21 : b1 ≠ r_10 := (Nat.ne_of_lt (Nat.lt_of_lt_of_le (F4_2.keep K8 nin0).lt sz_r_10))
  have f22 : Fld Z h17 r_10 "java/util/ImmutableCollections$List12" "e0" "Ljava/lang/Object;" (.ref w_8) := ((F10_1.keep K14 (ninS (Ne.symm ne21) (ninS (Ne.symm ne20) nin0))).keep K17 nin0)
  have f23 : Fld Z h17 r_10 "java/util/ImmutableCollections$List12" "e1" "Ljava/lang/Object;" (.ref wE) := ((F10_2.keep K14 (ninS (Ne.symm ne21) (ninS (Ne.symm ne20) nin0))).keep K17 nin0)
  have f24 : Exa Z h17 b_4 "[Ljava/lang/Object;" := ((((F4_4.keep K8).keep K10).keep K14).keep K17)
  have ne25 : w_8 ≠ b_4 := ne_exa (((F8_0.keep K10).keep K14).keep K17) f24 (by decide)
  have ne26 : w_8 ≠ b1 := ne_exa (((F8_0.keep K10).keep K14).keep K17) (f16.keep K17) (by decide)
  have f27 : Fld Z h17 w_8 "java/lang/Integer" "value" "I" (.int q0) := (((F8_1.keep K10 nin0).keep K14 (ninS ne26 (ninS ne25 nin0))).keep K17 nin0)
  exact Go.retR rfl rfl rfl rfl d1_55 ⟨r_17, r_10, w_8, rfl, K19, F17_0, F17_1, F17_2, ((F10_0.keep K14).keep K17), f22, f23, (((F8_0.keep K10).keep K14).keep K17), f27⟩ (by decide) (by decide)
set_option maxRecDepth 65536 in
set_option maxHeartbeats 4000000 in
theorem c_wit2 (l : Launch) (Z : State) (a0 : Array Value) (hw : ∀ d ∈ tables_1, d.before a0 Z = true) {n0 : Nat} (h : Heap) (t : Addr) (kt : ClassId) (q0 : Int32) (q1 : Int32) (wd0 : Addr) (wE : Addr) (wL : Addr) (wLe : Addr) (kLe : ClassId) (vsL : List Value) (mO : Addr) (wc : Addr) (kc : ClassId) (vsc : List Value) (hcache : ∀ ii : Int32, ¬ ii < -128 → ¬ 127 < ii → ∃ w, vsc.getD (ii + 128).toNatClampNeg .null = .ref w ∧ Exa Z Z.heap w "java/lang/Integer" ∧ Fld Z Z.heap w "java/lang/Integer" "value" "I" (.int ii)) (sd0 : Sta Z Z.heap "java/util/ArrayList" "EMPTY_ELEMENTDATA" "[Ljava/lang/Object;" (.ref wd0)) (se : Sta Z Z.heap "java/util/ImmutableCollections" "EMPTY" "Ljava/lang/Object;" (.ref wE)) (xE : Exa Z Z.heap wE "java/lang/Object") (sl : Sta Z Z.heap "java/util/ImmutableCollections" "EMPTY_LIST" "Ljava/util/ImmutableCollections$ListN;" (.ref wL)) (xL : Exa Z Z.heap wL "java/util/ImmutableCollections$ListN") (fL : Fld Z Z.heap wL "java/util/ImmutableCollections$ListN" "elements" "[Ljava/lang/Object;" (.ref wLe)) (vL : Arv Z Z.heap wLe kLe (.object "java/lang/Object") (0 : Int32) vsL .null) (mo : Mi Z "[Ljava/lang/Object;" mO) (sh : Sta Z Z.heap "java/lang/Integer$IntegerCache" "high" "I" (.int (127 : Int32))) (sc : Sta Z Z.heap "java/lang/Integer$IntegerCache" "cache" "[Ljava/lang/Integer;" (.ref wc)) (vc : Arv Z Z.heap wc kc (.object "java/lang/Integer") (256 : Int32) vsc .null) (v : Arv Z h t kt .int (2 : Int32) [(.int q0), (.int q1)] (.int 0)) :
    Con l (⟨"com/example/wildmotif/wildmotif/match/Outcome", "witnessOfSingleNodes", "([I)Ljava/util/List;"⟩ : MethodName) prog_11_method_3_code 6 (some (.object "java/util/List")) ({ frames := 8, cells := 8, slots := 15, locals := 101 } : Room) Z n0 #[(.ref t)] h (fun v h' => ∃ r : Addr, ∃ e0 : Addr, ∃ g0 : Addr, ∃ e1 : Addr, ∃ g1 : Addr, v = some (.ref r) ∧ Keep h h' [] ∧ Exa Z h' r "java/util/ImmutableCollections$List12" ∧ Fld Z h' r "java/util/ImmutableCollections$List12" "e0" "Ljava/lang/Object;" (.ref e0) ∧ Fld Z h' r "java/util/ImmutableCollections$List12" "e1" "Ljava/lang/Object;" (.ref e1) ∧ Exa Z h' e0 "java/util/ImmutableCollections$List12" ∧ Fld Z h' e0 "java/util/ImmutableCollections$List12" "e0" "Ljava/lang/Object;" (.ref g0) ∧ Fld Z h' e0 "java/util/ImmutableCollections$List12" "e1" "Ljava/lang/Object;" (.ref wE) ∧ Exa Z h' g0 "java/lang/Integer" ∧ Fld Z h' g0 "java/lang/Integer" "value" "I" (.int q0) ∧ Exa Z h' e1 "java/util/ImmutableCollections$List12" ∧ Fld Z h' e1 "java/util/ImmutableCollections$List12" "e0" "Ljava/lang/Object;" (.ref g1) ∧ Fld Z h' e1 "java/util/ImmutableCollections$List12" "e1" "Ljava/lang/Object;" (.ref wE) ∧ Exa Z h' g1 "java/lang/Integer" ∧ Fld Z h' g1 "java/lang/Integer" "value" "I" (.int q1)) := by
  refine Con.of_go (plainFor_of_name pn_13) (Ls := #[.val (.ref t), .unset, .unset, .unset, .unset, .unset]) (fun m => by first | (simp [entryFrame, mkF, argsToLocals, Value.category]; done) | rfl) ?_
  refine Go.new (pc' := 3) (cells' := 1) (slots' := 3) (ww hw 6 rfl) (ww hw 7 rfl) (ww hw 8 rfl) d1_0 rfl rfl (by decide) (by decide) rfl ?_
  intro h1 b1 g1 E1 ge1 A1 D1
  have sz2 : h.size ≤ b1 := Nat.le_trans (Keep.refl h []).1 (Nat.le_of_eq g1.symm)
  have K3 : Keep h h1 [] := (Keep.refl h []).ext E1
  refine Go.dup (pc' := 4) d1_3 rfl rfl ?_
  refine Go.aloadN (pc' := 5) d1_4 rfl rfl rfl ?_
  refine Go.arraylength (pc' := 6) (v.ext E1) d1_5 rfl ?_
  refine Go.callC (cells' := 2) (slots' := 5) (pc' := 9) [(.int (2 : Int32))] [(.ref b1)] (a := b1) rfl rfl (ww hw 9 rfl) (ww hw 10 rfl) (ww hw 8 rfl) (ww hw 11 rfl) (by decide) (c_alInitI2 l Z a0 hw h1 b1 ge1 A1 ((D1 (Or.inl (ww hw 31 rfl)) (ty := (.array (.object "java/lang/Object"))) (by decide) : Fld Z h1 b1 "java/util/ArrayList" "elementData" "[Ljava/lang/Object;" .null)) ((D1 (Or.inl (ww hw 56 rfl)) (ty := .int) (by decide) : Fld Z h1 b1 "java/util/ArrayList" "size" "I" (.int (0 : Int32)))) ((D1 (Or.inl (ww hw 28 rfl)) (ty := .int) (by decide) : Fld Z h1 b1 "java/util/AbstractList" "modCount" "I" (.int (0 : Int32))))) pd_1 rfl rfl rfl rfl rfl (nl rfl) (nl rfl) (nl rfl) (nl rfl) d1_6 rfl ?_
  rintro _ h4 ⟨b_4, kb_4, rfl, K4, ge_b_4, sz_b_4, F4_0, F4_1, F4_2, F4_3, F4_4, F4_5⟩
  have sz5 : h.size ≤ b_4 := Nat.le_trans K3.1 sz_b_4
  have K6 : Keep h h4 [] := K3.trans K4 (allS (Or.inr sz2) all0)
  show Go _ _ _ _ _ _ _ _ _ _ _ _ 9 #[.val (.ref t), .unset, .unset, .unset, .unset, .unset] [(.ref b1)]
  refine Go.astoreN (pc' := 10) (Ls' := #[.val (.ref t), .val (.ref b1), .unset, .unset, .unset, .unset]) d1_9 rfl rfl rfl ?_
  refine Go.aloadN (pc' := 11) d1_10 rfl rfl rfl ?_
  refine Go.astoreN (pc' := 12) (Ls' := #[.val (.ref t), .val (.ref b1), .val (.ref t), .unset, .unset, .unset]) d1_11 rfl rfl rfl ?_
  refine Go.aloadN (pc' := 13) d1_12 rfl rfl rfl ?_
  have ne7 : t ≠ b1 := (Nat.ne_of_lt (Nat.lt_of_lt_of_le v.lt (Nat.le_of_eq g1.symm)))
  refine Go.arraylength (pc' := 14) ((v.ext E1).keep K4 (ninS ne7 nin0)) d1_13 rfl ?_
  refine Go.istoreN (pc' := 15) (Ls' := #[.val (.ref t), .val (.ref b1), .val (.ref t), .val (.int (2 : Int32)), .unset, .unset]) d1_14 rfl rfl ?_
  refine Go.iconst (pc' := 16) (v := (0 : Int32)) d1_15 rfl rfl ?_
  refine Go.istore (pc' := 18) (Ls' := #[.val (.ref t), .val (.ref b1), .val (.ref t), .val (.int (2 : Int32)), .val (.int (0 : Int32)), .unset]) d1_16 rfl rfl ?_
  refine Go.iload (pc' := 20) d1_18 rfl rfl ?_
  refine Go.iloadN (pc' := 21) d1_20 rfl rfl ?_
  refine Go.icmpNo (pc' := 24) d1_21 (XT.ii_ge_f (by decide)) rfl ?_
  refine Go.aloadN (pc' := 25) d1_24 rfl rfl rfl ?_
  refine Go.iload (pc' := 27) d1_25 rfl rfl ?_
  refine Go.iaload (pc' := 28) (v := q0) ((v.ext E1).keep K4 (ninS ne7 nin0)) d1_27 (by decide) (by decide) rfl rfl ?_
  refine Go.istore (pc' := 30) (Ls' := #[.val (.ref t), .val (.ref b1), .val (.ref t), .val (.int (2 : Int32)), .val (.int (0 : Int32)), .val (.int q0)]) d1_28 rfl rfl ?_
  refine Go.aloadN (pc' := 31) d1_30 rfl rfl rfl ?_
  refine Go.iload (pc' := 33) d1_31 rfl rfl ?_
  refine Go.callS (cells' := 3) (slots' := 6) (pc' := 36) [(.int q0)] [(.ref b1)] (ww hw 79 rfl) (ww hw 80 rfl) (ww hw 81 rfl) (ww hw 82 rfl) (by decide) (c_valueOf l Z a0 hw h4 q0 wc kc vsc hcache sh sc vc) pd_15 rfl rfl rfl rfl rfl (nl rfl) (nl rfl) (nl rfl) (nl rfl) d1_33 rfl ?_
  rintro _ h8 ⟨w_8, rfl, K8, F8_0, F8_1⟩
  have K9 : Keep h h8 [] := K6.trans K8 all0
  show Go _ _ _ _ _ _ _ _ _ _ _ _ 36 #[.val (.ref t), .val (.ref b1), .val (.ref t), .val (.int (2 : Int32)), .val (.int (0 : Int32)), .val (.int q0)] [(.ref w_8), (.ref b1)]
  refine Go.callS (cells' := 4) (slots' := 8) (pc' := 39) [(.ref w_8)] [(.ref b1)] (ww hw 86 rfl) (ww hw 87 rfl) (ww hw 34 rfl) (ww hw 88 rfl) (by decide) (c_listOf1 l Z a0 hw h8 w_8 wE se xE) pd_16 rfl rfl rfl rfl rfl (nl rfl) (nl rfl) (nl rfl) (nl rfl) d1_36 rfl ?_
  rintro _ h10 ⟨r_10, rfl, K10, ge_r_10, sz_r_10, F10_0, F10_1, F10_2⟩
  have sz11 : h.size ≤ r_10 := Nat.le_trans K9.1 sz_r_10
  have K12 : Keep h h10 [] := K9.trans K10 all0
  show Go _ _ _ _ _ _ _ _ _ _ _ _ 39 #[.val (.ref t), .val (.ref b1), .val (.ref t), .val (.int (2 : Int32)), .val (.int (0 : Int32)), .val (.int q0)] [(.ref r_10), (.ref b1)]
  have ne13 : b1 ≠ b_4 := (Nat.ne_of_lt (Nat.lt_of_lt_of_le A1.lt sz_b_4))
  refine Go.callI (cells' := 4) (slots' := 8) (pc' := 44) [(.ref r_10)] [] (((A1.keep K4).keep K8).keep K10) (ww hw 119 rfl) (ww hw 120 rfl) (ww hw 121 rfl) (ww hw 122 rfl) (ww hw 123 rfl) (ww hw 124 rfl) (ww hw 125 rfl) (ww hw 126 rfl) (ww hw 8 rfl) (ww hw 127 rfl) (by decide) (c_add2_0 l Z a0 hw h10 b1 r_10 b_4 kb_4 ge1 ge_b_4 ne13 ((((A1.keep K4).keep K8).keep K10)) F10_0 (((F4_0.keep K8 nin0).keep K10 nin0)) (((F4_1.keep K8 nin0).keep K10 nin0)) (((F4_2.keep K8 nin0).keep K10 nin0)) (((F4_3.keep K8 nin0).keep K10 nin0)) (((F4_4.keep K8).keep K10)) F4_5) pd_17 rfl rfl rfl rfl rfl (nl rfl) (nl rfl) (nl rfl) (nl rfl) d1_39 rfl ?_
  rintro _ h14 ⟨rfl, K14, F14_0, F14_1, F14_2, F14_3⟩
  have K15 : Keep h h14 [] := K12.trans K14 (allS (Or.inr sz2) (allS (Or.inr sz5) all0))
  show Go _ _ _ _ _ _ _ _ _ _ _ _ 44 #[.val (.ref t), .val (.ref b1), .val (.ref t), .val (.int (2 : Int32)), .val (.int (0 : Int32)), .val (.int q0)] [(.int (1 : Int32))]
  refine Go.pop (pc' := 45) d1_44 rfl rfl ?_
  refine Go.iinc (pc' := 48) (Ls' := #[.val (.ref t), .val (.ref b1), .val (.ref t), .val (.int (2 : Int32)), .val (.int ((0 : Int32) + (1 : Int32))), .val (.int q0)]) (w := (1 : Int32)) d1_45 rfl rfl rfl rfl ?_
  show Go _ _ _ _ _ _ _ _ _ _ _ _ 48 #[.val (.ref t), .val (.ref b1), .val (.ref t), .val (.int (2 : Int32)), .val (.int (1 : Int32)), .val (.int q0)] []
  refine Go.goto (pc' := 18) d1_48 (by decide) (by decide) ?_
  refine Go.iload (pc' := 20) d1_18 rfl rfl ?_
  refine Go.iloadN (pc' := 21) d1_20 rfl rfl ?_
  refine Go.icmpNo (pc' := 24) d1_21 (XT.ii_ge_f (by decide)) rfl ?_
  refine Go.aloadN (pc' := 25) d1_24 rfl rfl rfl ?_
  refine Go.iload (pc' := 27) d1_25 rfl rfl ?_
  have ne16 : t ≠ b_4 := (Nat.ne_of_lt (Nat.lt_of_lt_of_le (v.ext E1).lt sz_b_4))
  have f17 : Arv Z h14 t kt .int (2 : Int32) [(.int q0), (.int q1)] (.int 0) := (((((v.ext E1).keep K4 (ninS ne7 nin0)).keep K8 nin0).keep K10 nin0).keep K14 (ninS ne7 (ninS ne16 nin0)))
  refine Go.iaload (pc' := 28) (v := q1) f17 d1_27 (by decide) (by decide) rfl rfl ?_
  refine Go.istore (pc' := 30) (Ls' := #[.val (.ref t), .val (.ref b1), .val (.ref t), .val (.int (2 : Int32)), .val (.int (1 : Int32)), .val (.int q1)]) d1_28 rfl rfl ?_
  refine Go.aloadN (pc' := 31) d1_30 rfl rfl rfl ?_
  refine Go.iload (pc' := 33) d1_31 rfl rfl ?_
  refine Go.callS (cells' := 5) (slots' := 9) (pc' := 36) [(.int q1)] [(.ref b1)] (ww hw 79 rfl) (ww hw 80 rfl) (ww hw 81 rfl) (ww hw 82 rfl) (by decide) (c_valueOf l Z a0 hw h14 q1 wc kc vsc hcache sh sc vc) pd_15 rfl rfl rfl rfl rfl (nl rfl) (nl rfl) (nl rfl) (nl rfl) d1_33 rfl ?_
  rintro _ h18 ⟨w_18, rfl, K18, F18_0, F18_1⟩
  have K19 : Keep h h18 [] := K15.trans K18 all0
  show Go _ _ _ _ _ _ _ _ _ _ _ _ 36 #[.val (.ref t), .val (.ref b1), .val (.ref t), .val (.int (2 : Int32)), .val (.int (1 : Int32)), .val (.int q1)] [(.ref w_18), (.ref b1)]
  refine Go.callS (cells' := 6) (slots' := 11) (pc' := 39) [(.ref w_18)] [(.ref b1)] (ww hw 86 rfl) (ww hw 87 rfl) (ww hw 34 rfl) (ww hw 88 rfl) (by decide) (c_listOf1 l Z a0 hw h18 w_18 wE se xE) pd_16 rfl rfl rfl rfl rfl (nl rfl) (nl rfl) (nl rfl) (nl rfl) d1_36 rfl ?_
  rintro _ h20 ⟨r_20, rfl, K20, ge_r_20, sz_r_20, F20_0, F20_1, F20_2⟩
  have sz21 : h.size ≤ r_20 := Nat.le_trans K19.1 sz_r_20
  have K22 : Keep h h20 [] := K19.trans K20 all0
  show Go _ _ _ _ _ _ _ _ _ _ _ _ 39 #[.val (.ref t), .val (.ref b1), .val (.ref t), .val (.int (2 : Int32)), .val (.int (1 : Int32)), .val (.int q1)] [(.ref r_20), (.ref b1)]
  have f23 : Exa Z h20 b1 "java/util/ArrayList" := ((((((A1.keep K4).keep K8).keep K10).keep K14).keep K18).keep K20)
  have f24 : Exa Z h20 b_4 "[Ljava/lang/Object;" := (((((F4_4.keep K8).keep K10).keep K14).keep K18).keep K20)
  refine Go.callI (cells' := 6) (slots' := 11) (pc' := 44) [(.ref r_20)] [] f23 (ww hw 119 rfl) (ww hw 120 rfl) (ww hw 121 rfl) (ww hw 122 rfl) (ww hw 123 rfl) (ww hw 124 rfl) (ww hw 125 rfl) (ww hw 126 rfl) (ww hw 8 rfl) (ww hw 127 rfl) (by decide) (c_add2_1 l Z a0 hw h20 b1 r_20 b_4 kb_4 r_10 ge1 ge_b_4 ne13 f23 F20_0 (((F14_0.keep K18 nin0).keep K20 nin0)) (((F14_1.keep K18 nin0).keep K20 nin0)) (((F14_2.keep K18 nin0).keep K20 nin0)) (((F14_3.keep K18 nin0).keep K20 nin0)) f24 F4_5) pd_17 rfl rfl rfl rfl rfl (nl rfl) (nl rfl) (nl rfl) (nl rfl) d1_39 rfl ?_
  rintro _ h25 ⟨rfl, K25, F25_0, F25_1, F25_2, F25_3⟩
  have K26 : Keep h h25 [] := K22.trans K25 (allS (Or.inr sz2) (allS (Or.inr sz5) all0))
  show Go _ _ _ _ _ _ _ _ _ _ _ _ 44 #[.val (.ref t), .val (.ref b1), .val (.ref t), .val (.int (2 : Int32)), .val (.int (1 : Int32)), .val (.int q1)] [(.int (1 : Int32))]
  refine Go.pop (pc' := 45) d1_44 rfl rfl ?_
  refine Go.iinc (pc' := 48) (Ls' := #[.val (.ref t), .val (.ref b1), .val (.ref t), .val (.int (2 : Int32)), .val (.int ((1 : Int32) + (1 : Int32))), .val (.int q1)]) (w := (1 : Int32)) d1_45 rfl rfl rfl rfl ?_
  show Go _ _ _ _ _ _ _ _ _ _ _ _ 48 #[.val (.ref t), .val (.ref b1), .val (.ref t), .val (.int (2 : Int32)), .val (.int (2 : Int32)), .val (.int q1)] []
  refine Go.goto (pc' := 18) d1_48 (by decide) (by decide) ?_
  refine Go.iload (pc' := 20) d1_18 rfl rfl ?_
  refine Go.iloadN (pc' := 21) d1_20 rfl rfl ?_
  refine Go.icmpYes (pc' := 51) d1_21 (XT.ii_ge_t (by decide)) (by decide) (by decide) ?_
  refine Go.aloadN (pc' := 52) d1_51 rfl rfl rfl ?_
  have f27 : Exa Z h25 r_10 "java/util/ImmutableCollections$List12" := ((((F10_0.keep K14).keep K18).keep K20).keep K25)
  refine Go.callS (cells' := 8) (slots' := 15) (pc' := 55) [(.ref b1)] [] (ww hw 32 rfl) (ww hw 33 rfl) (ww hw 34 rfl) (ww hw 35 rfl) (by decide) (c_copy2 l Z a0 hw h25 b1 b_4 kb_4 r_10 r_20 mO mo (f23.keep K25) F25_0 F25_1 F25_3 (f24.keep K25) f27 (F20_0.keep K25)) pd_6 rfl rfl rfl rfl rfl (nl rfl) (nl rfl) (nl rfl) (nl rfl) d1_52 rfl ?_
  rintro _ h28 ⟨r_28, rfl, K28, ge_r_28, sz_r_28, F28_0, F28_1, F28_2⟩
  have sz29 : h.size ≤ r_28 := Nat.le_trans K26.1 sz_r_28
  have K30 : Keep h h28 [] := K26.trans K28 all0
  show Go _ _ _ _ _ _ _ _ _ _ _ _ 55 #[.val (.ref t), .val (.ref b1), .val (.ref t), .val (.int (2 : Int32)), .val (.int (2 : Int32)), .val (.int q1)] [(.ref r_28)]
  have ne31 : b_4 ≠ r_10 := (Nat.ne_of_lt (Nat.lt_of_lt_of_le (F4_4.keep K8).lt sz_r_10))
  have ne32 : b1 ≠ r_10 := (Nat.ne_of_lt (Nat.lt_of_lt_of_le (F4_2.keep K8 nin0).lt sz_r_10))
  have f33 : Fld Z h28 r_10 "java/util/ImmutableCollections$List12" "e0" "Ljava/lang/Object;" (.ref w_8) := (((((F10_1.keep K14 (ninS (Ne.symm ne32) (ninS (Ne.symm ne31) nin0))).keep K18 nin0).keep K20 nin0).keep K25 (ninS (Ne.symm ne32) (ninS (Ne.symm ne31) nin0))).keep K28 nin0)
  have f34 : Fld Z h28 r_10 "java/util/ImmutableCollections$List12" "e1" "Ljava/lang/Object;" (.ref wE) := (((((F10_2.keep K14 (ninS (Ne.symm ne32) (ninS (Ne.symm ne31) nin0))).keep K18 nin0).keep K20 nin0).keep K25 (ninS (Ne.symm ne32) (ninS (Ne.symm ne31) nin0))).keep K28 nin0)
  have f35 : Exa Z h28 w_8 "java/lang/Integer" := ((((((F8_0.keep K10).keep K14).keep K18).keep K20).keep K25).keep K28)
  have ne36 : w_8 ≠ b_4 := ne_exa f35 ((f24.keep K25).keep K28) (by decide)
  have ne37 : w_8 ≠ b1 := ne_exa f35 ((f23.keep K25).keep K28) (by decide)
  have f38 : Fld Z h28 w_8 "java/lang/Integer" "value" "I" (.int q0) := ((((((F8_1.keep K10 nin0).keep K14 (ninS ne37 (ninS ne36 nin0))).keep K18 nin0).keep K20 nin0).keep K25 (ninS ne37 (ninS ne36 nin0))).keep K28 nin0)
  have ne39 : b_4 ≠ r_20 := (Nat.ne_of_lt (Nat.lt_of_lt_of_le ((((F4_4.keep K8).keep K10).keep K14).keep K18).lt sz_r_20))
  have ne40 : b1 ≠ r_20 := (Nat.ne_of_lt (Nat.lt_of_lt_of_le (F14_2.keep K18 nin0).lt sz_r_20))
  have f41 : Fld Z h28 r_20 "java/util/ImmutableCollections$List12" "e0" "Ljava/lang/Object;" (.ref w_18) := ((F20_1.keep K25 (ninS (Ne.symm ne40) (ninS (Ne.symm ne39) nin0))).keep K28 nin0)
  have f42 : Fld Z h28 r_20 "java/util/ImmutableCollections$List12" "e1" "Ljava/lang/Object;" (.ref wE) := ((F20_2.keep K25 (ninS (Ne.symm ne40) (ninS (Ne.symm ne39) nin0))).keep K28 nin0)
  have ne43 : w_18 ≠ b_4 := ne_exa (((F18_0.keep K20).keep K25).keep K28) ((f24.keep K25).keep K28) (by decide)
  have ne44 : w_18 ≠ b1 := ne_exa (((F18_0.keep K20).keep K25).keep K28) ((f23.keep K25).keep K28) (by decide)
  have f45 : Fld Z h28 w_18 "java/lang/Integer" "value" "I" (.int q1) := (((F18_1.keep K20 nin0).keep K25 (ninS ne44 (ninS ne43 nin0))).keep K28 nin0)
  exact Go.retR rfl rfl rfl rfl d1_55 ⟨r_28, r_10, w_8, r_20, w_18, rfl, K30, F28_0, F28_1, F28_2, (f27.keep K28), f33, f34, f35, f38, ((F20_0.keep K25).keep K28), f41, f42, (((F18_0.keep K20).keep K25).keep K28), f45⟩ (by decide) (by decide)
set_option maxRecDepth 65536 in
set_option maxHeartbeats 4000000 in
theorem c_wit3 (l : Launch) (Z : State) (a0 : Array Value) (hw : ∀ d ∈ tables_1, d.before a0 Z = true) {n0 : Nat} (h : Heap) (t : Addr) (kt : ClassId) (q0 : Int32) (q1 : Int32) (q2 : Int32) (wd0 : Addr) (wE : Addr) (wL : Addr) (wLe : Addr) (kLe : ClassId) (vsL : List Value) (mO : Addr) (wc : Addr) (kc : ClassId) (vsc : List Value) (hcache : ∀ ii : Int32, ¬ ii < -128 → ¬ 127 < ii → ∃ w, vsc.getD (ii + 128).toNatClampNeg .null = .ref w ∧ Exa Z Z.heap w "java/lang/Integer" ∧ Fld Z Z.heap w "java/lang/Integer" "value" "I" (.int ii)) (sd0 : Sta Z Z.heap "java/util/ArrayList" "EMPTY_ELEMENTDATA" "[Ljava/lang/Object;" (.ref wd0)) (se : Sta Z Z.heap "java/util/ImmutableCollections" "EMPTY" "Ljava/lang/Object;" (.ref wE)) (xE : Exa Z Z.heap wE "java/lang/Object") (sl : Sta Z Z.heap "java/util/ImmutableCollections" "EMPTY_LIST" "Ljava/util/ImmutableCollections$ListN;" (.ref wL)) (xL : Exa Z Z.heap wL "java/util/ImmutableCollections$ListN") (fL : Fld Z Z.heap wL "java/util/ImmutableCollections$ListN" "elements" "[Ljava/lang/Object;" (.ref wLe)) (vL : Arv Z Z.heap wLe kLe (.object "java/lang/Object") (0 : Int32) vsL .null) (mo : Mi Z "[Ljava/lang/Object;" mO) (sh : Sta Z Z.heap "java/lang/Integer$IntegerCache" "high" "I" (.int (127 : Int32))) (sc : Sta Z Z.heap "java/lang/Integer$IntegerCache" "cache" "[Ljava/lang/Integer;" (.ref wc)) (vc : Arv Z Z.heap wc kc (.object "java/lang/Integer") (256 : Int32) vsc .null) (v : Arv Z h t kt .int (3 : Int32) [(.int q0), (.int q1), (.int q2)] (.int 0)) :
    Con l (⟨"com/example/wildmotif/wildmotif/match/Outcome", "witnessOfSingleNodes", "([I)Ljava/util/List;"⟩ : MethodName) prog_11_method_3_code 6 (some (.object "java/util/List")) ({ frames := 9, cells := 11, slots := 23, locals := 115 } : Room) Z n0 #[(.ref t)] h (fun v h' => ∃ r : Addr, ∃ c : Addr, ∃ kc2 : ClassId, ∃ e0 : Addr, ∃ g0 : Addr, ∃ e1 : Addr, ∃ g1 : Addr, ∃ e2 : Addr, ∃ g2 : Addr, v = some (.ref r) ∧ Keep h h' [] ∧ Exa Z h' r "java/util/ImmutableCollections$ListN" ∧ Fld Z h' r "java/util/ImmutableCollections$ListN" "elements" "[Ljava/lang/Object;" (.ref c) ∧ Arv Z h' c kc2 (.object "java/lang/Object") (3 : Int32) [(.ref e0), (.ref e1), (.ref e2)] .null ∧ Exa Z h' e0 "java/util/ImmutableCollections$List12" ∧ Fld Z h' e0 "java/util/ImmutableCollections$List12" "e0" "Ljava/lang/Object;" (.ref g0) ∧ Fld Z h' e0 "java/util/ImmutableCollections$List12" "e1" "Ljava/lang/Object;" (.ref wE) ∧ Exa Z h' g0 "java/lang/Integer" ∧ Fld Z h' g0 "java/lang/Integer" "value" "I" (.int q0) ∧ Exa Z h' e1 "java/util/ImmutableCollections$List12" ∧ Fld Z h' e1 "java/util/ImmutableCollections$List12" "e0" "Ljava/lang/Object;" (.ref g1) ∧ Fld Z h' e1 "java/util/ImmutableCollections$List12" "e1" "Ljava/lang/Object;" (.ref wE) ∧ Exa Z h' g1 "java/lang/Integer" ∧ Fld Z h' g1 "java/lang/Integer" "value" "I" (.int q1) ∧ Exa Z h' e2 "java/util/ImmutableCollections$List12" ∧ Fld Z h' e2 "java/util/ImmutableCollections$List12" "e0" "Ljava/lang/Object;" (.ref g2) ∧ Fld Z h' e2 "java/util/ImmutableCollections$List12" "e1" "Ljava/lang/Object;" (.ref wE) ∧ Exa Z h' g2 "java/lang/Integer" ∧ Fld Z h' g2 "java/lang/Integer" "value" "I" (.int q2)) := by
  refine Con.of_go (plainFor_of_name pn_13) (Ls := #[.val (.ref t), .unset, .unset, .unset, .unset, .unset]) (fun m => by first | (simp [entryFrame, mkF, argsToLocals, Value.category]; done) | rfl) ?_
  refine Go.new (pc' := 3) (cells' := 1) (slots' := 3) (ww hw 6 rfl) (ww hw 7 rfl) (ww hw 8 rfl) d1_0 rfl rfl (by decide) (by decide) rfl ?_
  intro h1 b1 g1 E1 ge1 A1 D1
  have sz2 : h.size ≤ b1 := Nat.le_trans (Keep.refl h []).1 (Nat.le_of_eq g1.symm)
  have K3 : Keep h h1 [] := (Keep.refl h []).ext E1
  refine Go.dup (pc' := 4) d1_3 rfl rfl ?_
  refine Go.aloadN (pc' := 5) d1_4 rfl rfl rfl ?_
  refine Go.arraylength (pc' := 6) (v.ext E1) d1_5 rfl ?_
  refine Go.callC (cells' := 2) (slots' := 6) (pc' := 9) [(.int (3 : Int32))] [(.ref b1)] (a := b1) rfl rfl (ww hw 9 rfl) (ww hw 10 rfl) (ww hw 8 rfl) (ww hw 11 rfl) (by decide) (c_alInitI3 l Z a0 hw h1 b1 ge1 A1 ((D1 (Or.inl (ww hw 31 rfl)) (ty := (.array (.object "java/lang/Object"))) (by decide) : Fld Z h1 b1 "java/util/ArrayList" "elementData" "[Ljava/lang/Object;" .null)) ((D1 (Or.inl (ww hw 56 rfl)) (ty := .int) (by decide) : Fld Z h1 b1 "java/util/ArrayList" "size" "I" (.int (0 : Int32)))) ((D1 (Or.inl (ww hw 28 rfl)) (ty := .int) (by decide) : Fld Z h1 b1 "java/util/AbstractList" "modCount" "I" (.int (0 : Int32))))) pd_1 rfl rfl rfl rfl rfl (nl rfl) (nl rfl) (nl rfl) (nl rfl) d1_6 rfl ?_
  rintro _ h4 ⟨b_4, kb_4, rfl, K4, ge_b_4, sz_b_4, F4_0, F4_1, F4_2, F4_3, F4_4, F4_5⟩
  have sz5 : h.size ≤ b_4 := Nat.le_trans K3.1 sz_b_4
  have K6 : Keep h h4 [] := K3.trans K4 (allS (Or.inr sz2) all0)
  show Go _ _ _ _ _ _ _ _ _ _ _ _ 9 #[.val (.ref t), .unset, .unset, .unset, .unset, .unset] [(.ref b1)]
  refine Go.astoreN (pc' := 10) (Ls' := #[.val (.ref t), .val (.ref b1), .unset, .unset, .unset, .unset]) d1_9 rfl rfl rfl ?_
  refine Go.aloadN (pc' := 11) d1_10 rfl rfl rfl ?_
  refine Go.astoreN (pc' := 12) (Ls' := #[.val (.ref t), .val (.ref b1), .val (.ref t), .unset, .unset, .unset]) d1_11 rfl rfl rfl ?_
  refine Go.aloadN (pc' := 13) d1_12 rfl rfl rfl ?_
  have ne7 : t ≠ b1 := (Nat.ne_of_lt (Nat.lt_of_lt_of_le v.lt (Nat.le_of_eq g1.symm)))
  refine Go.arraylength (pc' := 14) ((v.ext E1).keep K4 (ninS ne7 nin0)) d1_13 rfl ?_
  refine Go.istoreN (pc' := 15) (Ls' := #[.val (.ref t), .val (.ref b1), .val (.ref t), .val (.int (3 : Int32)), .unset, .unset]) d1_14 rfl rfl ?_
  refine Go.iconst (pc' := 16) (v := (0 : Int32)) d1_15 rfl rfl ?_
  refine Go.istore (pc' := 18) (Ls' := #[.val (.ref t), .val (.ref b1), .val (.ref t), .val (.int (3 : Int32)), .val (.int (0 : Int32)), .unset]) d1_16 rfl rfl ?_
  refine Go.iload (pc' := 20) d1_18 rfl rfl ?_
  refine Go.iloadN (pc' := 21) d1_20 rfl rfl ?_
  refine Go.icmpNo (pc' := 24) d1_21 (XT.ii_ge_f (by decide)) rfl ?_
  refine Go.aloadN (pc' := 25) d1_24 rfl rfl rfl ?_
  refine Go.iload (pc' := 27) d1_25 rfl rfl ?_
  refine Go.iaload (pc' := 28) (v := q0) ((v.ext E1).keep K4 (ninS ne7 nin0)) d1_27 (by decide) (by decide) rfl rfl ?_
  refine Go.istore (pc' := 30) (Ls' := #[.val (.ref t), .val (.ref b1), .val (.ref t), .val (.int (3 : Int32)), .val (.int (0 : Int32)), .val (.int q0)]) d1_28 rfl rfl ?_
  refine Go.aloadN (pc' := 31) d1_30 rfl rfl rfl ?_
  refine Go.iload (pc' := 33) d1_31 rfl rfl ?_
  refine Go.callS (cells' := 3) (slots' := 7) (pc' := 36) [(.int q0)] [(.ref b1)] (ww hw 79 rfl) (ww hw 80 rfl) (ww hw 81 rfl) (ww hw 82 rfl) (by decide) (c_valueOf l Z a0 hw h4 q0 wc kc vsc hcache sh sc vc) pd_15 rfl rfl rfl rfl rfl (nl rfl) (nl rfl) (nl rfl) (nl rfl) d1_33 rfl ?_
  rintro _ h8 ⟨w_8, rfl, K8, F8_0, F8_1⟩
  have K9 : Keep h h8 [] := K6.trans K8 all0
  show Go _ _ _ _ _ _ _ _ _ _ _ _ 36 #[.val (.ref t), .val (.ref b1), .val (.ref t), .val (.int (3 : Int32)), .val (.int (0 : Int32)), .val (.int q0)] [(.ref w_8), (.ref b1)]
  refine Go.callS (cells' := 4) (slots' := 9) (pc' := 39) [(.ref w_8)] [(.ref b1)] (ww hw 86 rfl) (ww hw 87 rfl) (ww hw 34 rfl) (ww hw 88 rfl) (by decide) (c_listOf1 l Z a0 hw h8 w_8 wE se xE) pd_16 rfl rfl rfl rfl rfl (nl rfl) (nl rfl) (nl rfl) (nl rfl) d1_36 rfl ?_
  rintro _ h10 ⟨r_10, rfl, K10, ge_r_10, sz_r_10, F10_0, F10_1, F10_2⟩
  have sz11 : h.size ≤ r_10 := Nat.le_trans K9.1 sz_r_10
  have K12 : Keep h h10 [] := K9.trans K10 all0
  show Go _ _ _ _ _ _ _ _ _ _ _ _ 39 #[.val (.ref t), .val (.ref b1), .val (.ref t), .val (.int (3 : Int32)), .val (.int (0 : Int32)), .val (.int q0)] [(.ref r_10), (.ref b1)]
  have ne13 : b1 ≠ b_4 := (Nat.ne_of_lt (Nat.lt_of_lt_of_le A1.lt sz_b_4))
  refine Go.callI (cells' := 4) (slots' := 9) (pc' := 44) [(.ref r_10)] [] (((A1.keep K4).keep K8).keep K10) (ww hw 119 rfl) (ww hw 120 rfl) (ww hw 121 rfl) (ww hw 122 rfl) (ww hw 123 rfl) (ww hw 124 rfl) (ww hw 125 rfl) (ww hw 126 rfl) (ww hw 8 rfl) (ww hw 127 rfl) (by decide) (c_add3_0 l Z a0 hw h10 b1 r_10 b_4 kb_4 ge1 ge_b_4 ne13 ((((A1.keep K4).keep K8).keep K10)) F10_0 (((F4_0.keep K8 nin0).keep K10 nin0)) (((F4_1.keep K8 nin0).keep K10 nin0)) (((F4_2.keep K8 nin0).keep K10 nin0)) (((F4_3.keep K8 nin0).keep K10 nin0)) (((F4_4.keep K8).keep K10)) F4_5) pd_17 rfl rfl rfl rfl rfl (nl rfl) (nl rfl) (nl rfl) (nl rfl) d1_39 rfl ?_
  rintro _ h14 ⟨rfl, K14, F14_0, F14_1, F14_2, F14_3⟩
  have K15 : Keep h h14 [] := K12.trans K14 (allS (Or.inr sz2) (allS (Or.inr sz5) all0))
  show Go _ _ _ _ _ _ _ _ _ _ _ _ 44 #[.val (.ref t), .val (.ref b1), .val (.ref t), .val (.int (3 : Int32)), .val (.int (0 : Int32)), .val (.int q0)] [(.int (1 : Int32))]
  refine Go.pop (pc' := 45) d1_44 rfl rfl ?_
  refine Go.iinc (pc' := 48) (Ls' := #[.val (.ref t), .val (.ref b1), .val (.ref t), .val (.int (3 : Int32)), .val (.int ((0 : Int32) + (1 : Int32))), .val (.int q0)]) (w := (1 : Int32)) d1_45 rfl rfl rfl rfl ?_
  show Go _ _ _ _ _ _ _ _ _ _ _ _ 48 #[.val (.ref t), .val (.ref b1), .val (.ref t), .val (.int (3 : Int32)), .val (.int (1 : Int32)), .val (.int q0)] []
  refine Go.goto (pc' := 18) d1_48 (by decide) (by decide) ?_
  refine Go.iload (pc' := 20) d1_18 rfl rfl ?_
  refine Go.iloadN (pc' := 21) d1_20 rfl rfl ?_
  refine Go.icmpNo (pc' := 24) d1_21 (XT.ii_ge_f (by decide)) rfl ?_
  refine Go.aloadN (pc' := 25) d1_24 rfl rfl rfl ?_
  refine Go.iload (pc' := 27) d1_25 rfl rfl ?_
  have ne16 : t ≠ b_4 := (Nat.ne_of_lt (Nat.lt_of_lt_of_le (v.ext E1).lt sz_b_4))
  have f17 : Arv Z h14 t kt .int (3 : Int32) [(.int q0), (.int q1), (.int q2)] (.int 0) := (((((v.ext E1).keep K4 (ninS ne7 nin0)).keep K8 nin0).keep K10 nin0).keep K14 (ninS ne7 (ninS ne16 nin0)))
  refine Go.iaload (pc' := 28) (v := q1) f17 d1_27 (by decide) (by decide) rfl rfl ?_
  refine Go.istore (pc' := 30) (Ls' := #[.val (.ref t), .val (.ref b1), .val (.ref t), .val (.int (3 : Int32)), .val (.int (1 : Int32)), .val (.int q1)]) d1_28 rfl rfl ?_
  refine Go.aloadN (pc' := 31) d1_30 rfl rfl rfl ?_
  refine Go.iload (pc' := 33) d1_31 rfl rfl ?_
  refine Go.callS (cells' := 5) (slots' := 10) (pc' := 36) [(.int q1)] [(.ref b1)] (ww hw 79 rfl) (ww hw 80 rfl) (ww hw 81 rfl) (ww hw 82 rfl) (by decide) (c_valueOf l Z a0 hw h14 q1 wc kc vsc hcache sh sc vc) pd_15 rfl rfl rfl rfl rfl (nl rfl) (nl rfl) (nl rfl) (nl rfl) d1_33 rfl ?_
  rintro _ h18 ⟨w_18, rfl, K18, F18_0, F18_1⟩
  have K19 : Keep h h18 [] := K15.trans K18 all0
  show Go _ _ _ _ _ _ _ _ _ _ _ _ 36 #[.val (.ref t), .val (.ref b1), .val (.ref t), .val (.int (3 : Int32)), .val (.int (1 : Int32)), .val (.int q1)] [(.ref w_18), (.ref b1)]
  refine Go.callS (cells' := 6) (slots' := 12) (pc' := 39) [(.ref w_18)] [(.ref b1)] (ww hw 86 rfl) (ww hw 87 rfl) (ww hw 34 rfl) (ww hw 88 rfl) (by decide) (c_listOf1 l Z a0 hw h18 w_18 wE se xE) pd_16 rfl rfl rfl rfl rfl (nl rfl) (nl rfl) (nl rfl) (nl rfl) d1_36 rfl ?_
  rintro _ h20 ⟨r_20, rfl, K20, ge_r_20, sz_r_20, F20_0, F20_1, F20_2⟩
  have sz21 : h.size ≤ r_20 := Nat.le_trans K19.1 sz_r_20
  have K22 : Keep h h20 [] := K19.trans K20 all0
  show Go _ _ _ _ _ _ _ _ _ _ _ _ 39 #[.val (.ref t), .val (.ref b1), .val (.ref t), .val (.int (3 : Int32)), .val (.int (1 : Int32)), .val (.int q1)] [(.ref r_20), (.ref b1)]
  have f23 : Exa Z h20 b1 "java/util/ArrayList" := ((((((A1.keep K4).keep K8).keep K10).keep K14).keep K18).keep K20)
  have f24 : Exa Z h20 b_4 "[Ljava/lang/Object;" := (((((F4_4.keep K8).keep K10).keep K14).keep K18).keep K20)
  refine Go.callI (cells' := 6) (slots' := 12) (pc' := 44) [(.ref r_20)] [] f23 (ww hw 119 rfl) (ww hw 120 rfl) (ww hw 121 rfl) (ww hw 122 rfl) (ww hw 123 rfl) (ww hw 124 rfl) (ww hw 125 rfl) (ww hw 126 rfl) (ww hw 8 rfl) (ww hw 127 rfl) (by decide) (c_add3_1 l Z a0 hw h20 b1 r_20 b_4 kb_4 r_10 ge1 ge_b_4 ne13 f23 F20_0 (((F14_0.keep K18 nin0).keep K20 nin0)) (((F14_1.keep K18 nin0).keep K20 nin0)) (((F14_2.keep K18 nin0).keep K20 nin0)) (((F14_3.keep K18 nin0).keep K20 nin0)) f24 F4_5) pd_17 rfl rfl rfl rfl rfl (nl rfl) (nl rfl) (nl rfl) (nl rfl) d1_39 rfl ?_
  rintro _ h25 ⟨rfl, K25, F25_0, F25_1, F25_2, F25_3⟩
  have K26 : Keep h h25 [] := K22.trans K25 (allS (Or.inr sz2) (allS (Or.inr sz5) all0))
  show Go _ _ _ _ _ _ _ _ _ _ _ _ 44 #[.val (.ref t), .val (.ref b1), .val (.ref t), .val (.int (3 : Int32)), .val (.int (1 : Int32)), .val (.int q1)] [(.int (1 : Int32))]
  refine Go.pop (pc' := 45) d1_44 rfl rfl ?_
  refine Go.iinc (pc' := 48) (Ls' := #[.val (.ref t), .val (.ref b1), .val (.ref t), .val (.int (3 : Int32)), .val (.int ((1 : Int32) + (1 : Int32))), .val (.int q1)]) (w := (1 : Int32)) d1_45 rfl rfl rfl rfl ?_
  show Go _ _ _ _ _ _ _ _ _ _ _ _ 48 #[.val (.ref t), .val (.ref b1), .val (.ref t), .val (.int (3 : Int32)), .val (.int (2 : Int32)), .val (.int q1)] []
  refine Go.goto (pc' := 18) d1_48 (by decide) (by decide) ?_
  refine Go.iload (pc' := 20) d1_18 rfl rfl ?_
  refine Go.iloadN (pc' := 21) d1_20 rfl rfl ?_
  refine Go.icmpNo (pc' := 24) d1_21 (XT.ii_ge_f (by decide)) rfl ?_
  refine Go.aloadN (pc' := 25) d1_24 rfl rfl rfl ?_
  refine Go.iload (pc' := 27) d1_25 rfl rfl ?_
  have f27 : Arv Z h25 t kt .int (3 : Int32) [(.int q0), (.int q1), (.int q2)] (.int 0) := (((f17.keep K18 nin0).keep K20 nin0).keep K25 (ninS ne7 (ninS ne16 nin0)))
  refine Go.iaload (pc' := 28) (v := q2) f27 d1_27 (by decide) (by decide) rfl rfl ?_
  refine Go.istore (pc' := 30) (Ls' := #[.val (.ref t), .val (.ref b1), .val (.ref t), .val (.int (3 : Int32)), .val (.int (2 : Int32)), .val (.int q2)]) d1_28 rfl rfl ?_
  refine Go.aloadN (pc' := 31) d1_30 rfl rfl rfl ?_
  refine Go.iload (pc' := 33) d1_31 rfl rfl ?_
  refine Go.callS (cells' := 7) (slots' := 13) (pc' := 36) [(.int q2)] [(.ref b1)] (ww hw 79 rfl) (ww hw 80 rfl) (ww hw 81 rfl) (ww hw 82 rfl) (by decide) (c_valueOf l Z a0 hw h25 q2 wc kc vsc hcache sh sc vc) pd_15 rfl rfl rfl rfl rfl (nl rfl) (nl rfl) (nl rfl) (nl rfl) d1_33 rfl ?_
  rintro _ h28 ⟨w_28, rfl, K28, F28_0, F28_1⟩
  have K29 : Keep h h28 [] := K26.trans K28 all0
  show Go _ _ _ _ _ _ _ _ _ _ _ _ 36 #[.val (.ref t), .val (.ref b1), .val (.ref t), .val (.int (3 : Int32)), .val (.int (2 : Int32)), .val (.int q2)] [(.ref w_28), (.ref b1)]
  refine Go.callS (cells' := 8) (slots' := 15) (pc' := 39) [(.ref w_28)] [(.ref b1)] (ww hw 86 rfl) (ww hw 87 rfl) (ww hw 34 rfl) (ww hw 88 rfl) (by decide) (c_listOf1 l Z a0 hw h28 w_28 wE se xE) pd_16 rfl rfl rfl rfl rfl (nl rfl) (nl rfl) (nl rfl) (nl rfl) d1_36 rfl ?_
  rintro _ h30 ⟨r_30, rfl, K30, ge_r_30, sz_r_30, F30_0, F30_1, F30_2⟩
  have sz31 : h.size ≤ r_30 := Nat.le_trans K29.1 sz_r_30
  have K32 : Keep h h30 [] := K29.trans K30 all0
  show Go _ _ _ _ _ _ _ _ _ _ _ _ 39 #[.val (.ref t), .val (.ref b1), .val (.ref t), .val (.int (3 : Int32)), .val (.int (2 : Int32)), .val (.int q2)] [(.ref r_30), (.ref b1)]
  refine Go.callI (cells' := 8) (slots' := 15) (pc' := 44) [(.ref r_30)] [] (((f23.keep K25).keep K28).keep K30) (ww hw 119 rfl) (ww hw 120 rfl) (ww hw 121 rfl) (ww hw 122 rfl) (ww hw 123 rfl) (ww hw 124 rfl) (ww hw 125 rfl) (ww hw 126 rfl) (ww hw 8 rfl) (ww hw 127 rfl) (by decide) (c_add3_2 l Z a0 hw h30 b1 r_30 b_4 kb_4 r_10 r_20 ge1 ge_b_4 ne13 ((((f23.keep K25).keep K28).keep K30)) F30_0 (((F25_0.keep K28 nin0).keep K30 nin0)) (((F25_1.keep K28 nin0).keep K30 nin0)) (((F25_2.keep K28 nin0).keep K30 nin0)) (((F25_3.keep K28 nin0).keep K30 nin0)) ((((f24.keep K25).keep K28).keep K30)) F4_5) pd_17 rfl rfl rfl rfl rfl (nl rfl) (nl rfl) (nl rfl) (nl rfl) d1_39 rfl ?_
  rintro _ h33 ⟨rfl, K33, F33_0, F33_1, F33_2, F33_3⟩
  have K34 : Keep h h33 [] := K32.trans K33 (allS (Or.inr sz2) (allS (Or.inr sz5) all0))
  show Go _ _ _ _ _ _ _ _ _ _ _ _ 44 #[.val (.ref t), .val (.ref b1), .val (.ref t), .val (.int (3 : Int32)), .val (.int (2 : Int32)), .val (.int q2)] [(.int (1 : Int32))]
  refine Go.pop (pc' := 45) d1_44 rfl rfl ?_
  refine Go.iinc (pc' := 48) (Ls' := #[.val (.ref t), .val (.ref b1), .val (.ref t), .val (.int (3 : Int32)), .val (.int ((2 : Int32) + (1 : Int32))), .val (.int q2)]) (w := (1 : Int32)) d1_45 rfl rfl rfl rfl ?_
  show Go _ _ _ _ _ _ _ _ _ _ _ _ 48 #[.val (.ref t), .val (.ref b1), .val (.ref t), .val (.int (3 : Int32)), .val (.int (3 : Int32)), .val (.int q2)] []
  refine Go.goto (pc' := 18) d1_48 (by decide) (by decide) ?_
  refine Go.iload (pc' := 20) d1_18 rfl rfl ?_
  refine Go.iloadN (pc' := 21) d1_20 rfl rfl ?_
  refine Go.icmpYes (pc' := 51) d1_21 (XT.ii_ge_t (by decide)) (by decide) (by decide) ?_
  refine Go.aloadN (pc' := 52) d1_51 rfl rfl rfl ?_
  have f35 : Exa Z h33 b1 "java/util/ArrayList" := ((((f23.keep K25).keep K28).keep K30).keep K33)
  have f36 : Exa Z h33 b_4 "[Ljava/lang/Object;" := ((((f24.keep K25).keep K28).keep K30).keep K33)
  have f37 : Exa Z h33 r_10 "java/util/ImmutableCollections$List12" := (((((((F10_0.keep K14).keep K18).keep K20).keep K25).keep K28).keep K30).keep K33)
  have f38 : Exa Z h33 r_20 "java/util/ImmutableCollections$List12" := ((((F20_0.keep K25).keep K28).keep K30).keep K33)
  refine Go.callS (cells' := 11) (slots' := 23) (pc' := 55) [(.ref b1)] [] (ww hw 32 rfl) (ww hw 33 rfl) (ww hw 34 rfl) (ww hw 35 rfl) (by decide) (c_copy3 l Z a0 hw h33 b1 b_4 kb_4 r_10 r_20 r_30 mO mo f35 F33_0 F33_1 F33_3 f36 f37 f38 (F30_0.keep K33)) pd_6 rfl rfl rfl rfl rfl (nl rfl) (nl rfl) (nl rfl) (nl rfl) d1_52 rfl ?_
  rintro _ h39 ⟨r_39, c_39, kc2_39, rfl, K39, ge_r_39, sz_r_39, ge_c_39, sz_c_39, F39_0, F39_1, F39_2⟩
  have sz40 : h.size ≤ r_39 := Nat.le_trans K34.1 sz_r_39
  have sz41 : h.size ≤ c_39 := Nat.le_trans K34.1 sz_c_39
  have K42 : Keep h h39 [] := K34.trans K39 all0
  show Go _ _ _ _ _ _ _ _ _ _ _ _ 55 #[.val (.ref t), .val (.ref b1), .val (.ref t), .val (.int (3 : Int32)), .val (.int (3 : Int32)), .val (.int q2)] [(.ref r_39)]
  have ne43 : b_4 ≠ r_10 := (Nat.ne_of_lt (Nat.lt_of_lt_of_le (F4_4.keep K8).lt sz_r_10))
  have ne44 : b1 ≠ r_10 := (Nat.ne_of_lt (Nat.lt_of_lt_of_le (F4_2.keep K8 nin0).lt sz_r_10))
  have f45 : Fld Z h39 r_10 "java/util/ImmutableCollections$List12" "e0" "Ljava/lang/Object;" (.ref w_8) := ((((((((F10_1.keep K14 (ninS (Ne.symm ne44) (ninS (Ne.symm ne43) nin0))).keep K18 nin0).keep K20 nin0).keep K25 (ninS (Ne.symm ne44) (ninS (Ne.symm ne43) nin0))).keep K28 nin0).keep K30 nin0).keep K33 (ninS (Ne.symm ne44) (ninS (Ne.symm ne43) nin0))).keep K39 nin0)
  have f46 : Fld Z h39 r_10 "java/util/ImmutableCollections$List12" "e1" "Ljava/lang/Object;" (.ref wE) := ((((((((F10_2.keep K14 (ninS (Ne.symm ne44) (ninS (Ne.symm ne43) nin0))).keep K18 nin0).keep K20 nin0).keep K25 (ninS (Ne.symm ne44) (ninS (Ne.symm ne43) nin0))).keep K28 nin0).keep K30 nin0).keep K33 (ninS (Ne.symm ne44) (ninS (Ne.symm ne43) nin0))).keep K39 nin0)
  have f47 : Exa Z h39 w_8 "java/lang/Integer" := (((((((((F8_0.keep K10).keep K14).keep K18).keep K20).keep K25).keep K28).keep K30).keep K33).keep K39)
  have ne48 : w_8 ≠ b_4 := ne_exa f47 (f36.keep K39) (by decide)
  have ne49 : w_8 ≠ b1 := ne_exa f47 (f35.keep K39) (by decide)
  have f50 : Fld Z h39 w_8 "java/lang/Integer" "value" "I" (.int q0) := (((((((((F8_1.keep K10 nin0).keep K14 (ninS ne49 (ninS ne48 nin0))).keep K18 nin0).keep K20 nin0).keep K25 (ninS ne49 (ninS ne48 nin0))).keep K28 nin0).keep K30 nin0).keep K33 (ninS ne49 (ninS ne48 nin0))).keep K39 nin0)
  have ne51 : b_4 ≠ r_20 := (Nat.ne_of_lt (Nat.lt_of_lt_of_le ((((F4_4.keep K8).keep K10).keep K14).keep K18).lt sz_r_20))
  have ne52 : b1 ≠ r_20 := (Nat.ne_of_lt (Nat.lt_of_lt_of_le (F14_2.keep K18 nin0).lt sz_r_20))
  have f53 : Fld Z h39 r_20 "java/util/ImmutableCollections$List12" "e0" "Ljava/lang/Object;" (.ref w_18) := (((((F20_1.keep K25 (ninS (Ne.symm ne52) (ninS (Ne.symm ne51) nin0))).keep K28 nin0).keep K30 nin0).keep K33 (ninS (Ne.symm ne52) (ninS (Ne.symm ne51) nin0))).keep K39 nin0)
  have f54 : Fld Z h39 r_20 "java/util/ImmutableCollections$List12" "e1" "Ljava/lang/Object;" (.ref wE) := (((((F20_2.keep K25 (ninS (Ne.symm ne52) (ninS (Ne.symm ne51) nin0))).keep K28 nin0).keep K30 nin0).keep K33 (ninS (Ne.symm ne52) (ninS (Ne.symm ne51) nin0))).keep K39 nin0)
  have f55 : Exa Z h39 w_18 "java/lang/Integer" := ((((((F18_0.keep K20).keep K25).keep K28).keep K30).keep K33).keep K39)
  have ne56 : w_18 ≠ b_4 := ne_exa f55 (f36.keep K39) (by decide)
  have ne57 : w_18 ≠ b1 := ne_exa f55 (f35.keep K39) (by decide)
  have f58 : Fld Z h39 w_18 "java/lang/Integer" "value" "I" (.int q1) := ((((((F18_1.keep K20 nin0).keep K25 (ninS ne57 (ninS ne56 nin0))).keep K28 nin0).keep K30 nin0).keep K33 (ninS ne57 (ninS ne56 nin0))).keep K39 nin0)
  have ne59 : b_4 ≠ r_30 := (Nat.ne_of_lt (Nat.lt_of_lt_of_le ((f24.keep K25).keep K28).lt sz_r_30))
  have ne60 : b1 ≠ r_30 := (Nat.ne_of_lt (Nat.lt_of_lt_of_le (F25_2.keep K28 nin0).lt sz_r_30))
  have f61 : Fld Z h39 r_30 "java/util/ImmutableCollections$List12" "e0" "Ljava/lang/Object;" (.ref w_28) := ((F30_1.keep K33 (ninS (Ne.symm ne60) (ninS (Ne.symm ne59) nin0))).keep K39 nin0)
  have f62 : Fld Z h39 r_30 "java/util/ImmutableCollections$List12" "e1" "Ljava/lang/Object;" (.ref wE) := ((F30_2.keep K33 (ninS (Ne.symm ne60) (ninS (Ne.symm ne59) nin0))).keep K39 nin0)
  have ne63 : w_28 ≠ b_4 := ne_exa (((F28_0.keep K30).keep K33).keep K39) (f36.keep K39) (by decide)
  have ne64 : w_28 ≠ b1 := ne_exa (((F28_0.keep K30).keep K33).keep K39) (f35.keep K39) (by decide)
  have f65 : Fld Z h39 w_28 "java/lang/Integer" "value" "I" (.int q2) := (((F28_1.keep K30 nin0).keep K33 (ninS ne64 (ninS ne63 nin0))).keep K39 nin0)
  exact Go.retR rfl rfl rfl rfl d1_55 ⟨r_39, c_39, kc2_39, r_10, w_8, r_20, w_18, r_30, w_28, rfl, K42, F39_0, F39_1, F39_2, (f37.keep K39), f45, f46, f47, f50, (f38.keep K39), f53, f54, f55, f58, ((F30_0.keep K33).keep K39), f61, f62, (((F28_0.keep K30).keep K33).keep K39), f65⟩ (by decide) (by decide)
set_option maxRecDepth 65536 in
set_option maxHeartbeats 4000000 in
theorem c_wit4 (l : Launch) (Z : State) (a0 : Array Value) (hw : ∀ d ∈ tables_1, d.before a0 Z = true) {n0 : Nat} (h : Heap) (t : Addr) (kt : ClassId) (q0 : Int32) (q1 : Int32) (q2 : Int32) (q3 : Int32) (wd0 : Addr) (wE : Addr) (wL : Addr) (wLe : Addr) (kLe : ClassId) (vsL : List Value) (mO : Addr) (wc : Addr) (kc : ClassId) (vsc : List Value) (hcache : ∀ ii : Int32, ¬ ii < -128 → ¬ 127 < ii → ∃ w, vsc.getD (ii + 128).toNatClampNeg .null = .ref w ∧ Exa Z Z.heap w "java/lang/Integer" ∧ Fld Z Z.heap w "java/lang/Integer" "value" "I" (.int ii)) (sd0 : Sta Z Z.heap "java/util/ArrayList" "EMPTY_ELEMENTDATA" "[Ljava/lang/Object;" (.ref wd0)) (se : Sta Z Z.heap "java/util/ImmutableCollections" "EMPTY" "Ljava/lang/Object;" (.ref wE)) (xE : Exa Z Z.heap wE "java/lang/Object") (sl : Sta Z Z.heap "java/util/ImmutableCollections" "EMPTY_LIST" "Ljava/util/ImmutableCollections$ListN;" (.ref wL)) (xL : Exa Z Z.heap wL "java/util/ImmutableCollections$ListN") (fL : Fld Z Z.heap wL "java/util/ImmutableCollections$ListN" "elements" "[Ljava/lang/Object;" (.ref wLe)) (vL : Arv Z Z.heap wLe kLe (.object "java/lang/Object") (0 : Int32) vsL .null) (mo : Mi Z "[Ljava/lang/Object;" mO) (sh : Sta Z Z.heap "java/lang/Integer$IntegerCache" "high" "I" (.int (127 : Int32))) (sc : Sta Z Z.heap "java/lang/Integer$IntegerCache" "cache" "[Ljava/lang/Integer;" (.ref wc)) (vc : Arv Z Z.heap wc kc (.object "java/lang/Integer") (256 : Int32) vsc .null) (v : Arv Z h t kt .int (4 : Int32) [(.int q0), (.int q1), (.int q2), (.int q3)] (.int 0)) :
    Con l (⟨"com/example/wildmotif/wildmotif/match/Outcome", "witnessOfSingleNodes", "([I)Ljava/util/List;"⟩ : MethodName) prog_11_method_3_code 6 (some (.object "java/util/List")) ({ frames := 9, cells := 13, slots := 29, locals := 115 } : Room) Z n0 #[(.ref t)] h (fun v h' => ∃ r : Addr, ∃ c : Addr, ∃ kc2 : ClassId, ∃ e0 : Addr, ∃ g0 : Addr, ∃ e1 : Addr, ∃ g1 : Addr, ∃ e2 : Addr, ∃ g2 : Addr, ∃ e3 : Addr, ∃ g3 : Addr, v = some (.ref r) ∧ Keep h h' [] ∧ Exa Z h' r "java/util/ImmutableCollections$ListN" ∧ Fld Z h' r "java/util/ImmutableCollections$ListN" "elements" "[Ljava/lang/Object;" (.ref c) ∧ Arv Z h' c kc2 (.object "java/lang/Object") (4 : Int32) [(.ref e0), (.ref e1), (.ref e2), (.ref e3)] .null ∧ Exa Z h' e0 "java/util/ImmutableCollections$List12" ∧ Fld Z h' e0 "java/util/ImmutableCollections$List12" "e0" "Ljava/lang/Object;" (.ref g0) ∧ Fld Z h' e0 "java/util/ImmutableCollections$List12" "e1" "Ljava/lang/Object;" (.ref wE) ∧ Exa Z h' g0 "java/lang/Integer" ∧ Fld Z h' g0 "java/lang/Integer" "value" "I" (.int q0) ∧ Exa Z h' e1 "java/util/ImmutableCollections$List12" ∧ Fld Z h' e1 "java/util/ImmutableCollections$List12" "e0" "Ljava/lang/Object;" (.ref g1) ∧ Fld Z h' e1 "java/util/ImmutableCollections$List12" "e1" "Ljava/lang/Object;" (.ref wE) ∧ Exa Z h' g1 "java/lang/Integer" ∧ Fld Z h' g1 "java/lang/Integer" "value" "I" (.int q1) ∧ Exa Z h' e2 "java/util/ImmutableCollections$List12" ∧ Fld Z h' e2 "java/util/ImmutableCollections$List12" "e0" "Ljava/lang/Object;" (.ref g2) ∧ Fld Z h' e2 "java/util/ImmutableCollections$List12" "e1" "Ljava/lang/Object;" (.ref wE) ∧ Exa Z h' g2 "java/lang/Integer" ∧ Fld Z h' g2 "java/lang/Integer" "value" "I" (.int q2) ∧ Exa Z h' e3 "java/util/ImmutableCollections$List12" ∧ Fld Z h' e3 "java/util/ImmutableCollections$List12" "e0" "Ljava/lang/Object;" (.ref g3) ∧ Fld Z h' e3 "java/util/ImmutableCollections$List12" "e1" "Ljava/lang/Object;" (.ref wE) ∧ Exa Z h' g3 "java/lang/Integer" ∧ Fld Z h' g3 "java/lang/Integer" "value" "I" (.int q3)) := by
  refine Con.of_go (plainFor_of_name pn_13) (Ls := #[.val (.ref t), .unset, .unset, .unset, .unset, .unset]) (fun m => by first | (simp [entryFrame, mkF, argsToLocals, Value.category]; done) | rfl) ?_
  refine Go.new (pc' := 3) (cells' := 1) (slots' := 3) (ww hw 6 rfl) (ww hw 7 rfl) (ww hw 8 rfl) d1_0 rfl rfl (by decide) (by decide) rfl ?_
  intro h1 b1 g1 E1 ge1 A1 D1
  have sz2 : h.size ≤ b1 := Nat.le_trans (Keep.refl h []).1 (Nat.le_of_eq g1.symm)
  have K3 : Keep h h1 [] := (Keep.refl h []).ext E1
  refine Go.dup (pc' := 4) d1_3 rfl rfl ?_
  refine Go.aloadN (pc' := 5) d1_4 rfl rfl rfl ?_
  refine Go.arraylength (pc' := 6) (v.ext E1) d1_5 rfl ?_
  refine Go.callC (cells' := 2) (slots' := 7) (pc' := 9) [(.int (4 : Int32))] [(.ref b1)] (a := b1) rfl rfl (ww hw 9 rfl) (ww hw 10 rfl) (ww hw 8 rfl) (ww hw 11 rfl) (by decide) (c_alInitI4 l Z a0 hw h1 b1 ge1 A1 ((D1 (Or.inl (ww hw 31 rfl)) (ty := (.array (.object "java/lang/Object"))) (by decide) : Fld Z h1 b1 "java/util/ArrayList" "elementData" "[Ljava/lang/Object;" .null)) ((D1 (Or.inl (ww hw 56 rfl)) (ty := .int) (by decide) : Fld Z h1 b1 "java/util/ArrayList" "size" "I" (.int (0 : Int32)))) ((D1 (Or.inl (ww hw 28 rfl)) (ty := .int) (by decide) : Fld Z h1 b1 "java/util/AbstractList" "modCount" "I" (.int (0 : Int32))))) pd_1 rfl rfl rfl rfl rfl (nl rfl) (nl rfl) (nl rfl) (nl rfl) d1_6 rfl ?_
  rintro _ h4 ⟨b_4, kb_4, rfl, K4, ge_b_4, sz_b_4, F4_0, F4_1, F4_2, F4_3, F4_4, F4_5⟩
  have sz5 : h.size ≤ b_4 := Nat.le_trans K3.1 sz_b_4
  have K6 : Keep h h4 [] := K3.trans K4 (allS (Or.inr sz2) all0)
  show Go _ _ _ _ _ _ _ _ _ _ _ _ 9 #[.val (.ref t), .unset, .unset, .unset, .unset, .unset] [(.ref b1)]
  refine Go.astoreN (pc' := 10) (Ls' := #[.val (.ref t), .val (.ref b1), .unset, .unset, .unset, .unset]) d1_9 rfl rfl rfl ?_
  refine Go.aloadN (pc' := 11) d1_10 rfl rfl rfl ?_
  refine Go.astoreN (pc' := 12) (Ls' := #[.val (.ref t), .val (.ref b1), .val (.ref t), .unset, .unset, .unset]) d1_11 rfl rfl rfl ?_
  refine Go.aloadN (pc' := 13) d1_12 rfl rfl rfl ?_
  have ne7 : t ≠ b1 := (Nat.ne_of_lt (Nat.lt_of_lt_of_le v.lt (Nat.le_of_eq g1.symm)))
  refine Go.arraylength (pc' := 14) ((v.ext E1).keep K4 (ninS ne7 nin0)) d1_13 rfl ?_
  refine Go.istoreN (pc' := 15) (Ls' := #[.val (.ref t), .val (.ref b1), .val (.ref t), .val (.int (4 : Int32)), .unset, .unset]) d1_14 rfl rfl ?_
  refine Go.iconst (pc' := 16) (v := (0 : Int32)) d1_15 rfl rfl ?_
  refine Go.istore (pc' := 18) (Ls' := #[.val (.ref t), .val (.ref b1), .val (.ref t), .val (.int (4 : Int32)), .val (.int (0 : Int32)), .unset]) d1_16 rfl rfl ?_
  refine Go.iload (pc' := 20) d1_18 rfl rfl ?_
  refine Go.iloadN (pc' := 21) d1_20 rfl rfl ?_
  refine Go.icmpNo (pc' := 24) d1_21 (XT.ii_ge_f (by decide)) rfl ?_
  refine Go.aloadN (pc' := 25) d1_24 rfl rfl rfl ?_
  refine Go.iload (pc' := 27) d1_25 rfl rfl ?_
  refine Go.iaload (pc' := 28) (v := q0) ((v.ext E1).keep K4 (ninS ne7 nin0)) d1_27 (by decide) (by decide) rfl rfl ?_
  refine Go.istore (pc' := 30) (Ls' := #[.val (.ref t), .val (.ref b1), .val (.ref t), .val (.int (4 : Int32)), .val (.int (0 : Int32)), .val (.int q0)]) d1_28 rfl rfl ?_
  refine Go.aloadN (pc' := 31) d1_30 rfl rfl rfl ?_
  refine Go.iload (pc' := 33) d1_31 rfl rfl ?_
  refine Go.callS (cells' := 3) (slots' := 8) (pc' := 36) [(.int q0)] [(.ref b1)] (ww hw 79 rfl) (ww hw 80 rfl) (ww hw 81 rfl) (ww hw 82 rfl) (by decide) (c_valueOf l Z a0 hw h4 q0 wc kc vsc hcache sh sc vc) pd_15 rfl rfl rfl rfl rfl (nl rfl) (nl rfl) (nl rfl) (nl rfl) d1_33 rfl ?_
  rintro _ h8 ⟨w_8, rfl, K8, F8_0, F8_1⟩
  have K9 : Keep h h8 [] := K6.trans K8 all0
  show Go _ _ _ _ _ _ _ _ _ _ _ _ 36 #[.val (.ref t), .val (.ref b1), .val (.ref t), .val (.int (4 : Int32)), .val (.int (0 : Int32)), .val (.int q0)] [(.ref w_8), (.ref b1)]
  refine Go.callS (cells' := 4) (slots' := 10) (pc' := 39) [(.ref w_8)] [(.ref b1)] (ww hw 86 rfl) (ww hw 87 rfl) (ww hw 34 rfl) (ww hw 88 rfl) (by decide) (c_listOf1 l Z a0 hw h8 w_8 wE se xE) pd_16 rfl rfl rfl rfl rfl (nl rfl) (nl rfl) (nl rfl) (nl rfl) d1_36 rfl ?_
  rintro _ h10 ⟨r_10, rfl, K10, ge_r_10, sz_r_10, F10_0, F10_1, F10_2⟩
  have sz11 : h.size ≤ r_10 := Nat.le_trans K9.1 sz_r_10
  have K12 : Keep h h10 [] := K9.trans K10 all0
  show Go _ _ _ _ _ _ _ _ _ _ _ _ 39 #[.val (.ref t), .val (.ref b1), .val (.ref t), .val (.int (4 : Int32)), .val (.int (0 : Int32)), .val (.int q0)] [(.ref r_10), (.ref b1)]
  have ne13 : b1 ≠ b_4 := (Nat.ne_of_lt (Nat.lt_of_lt_of_le A1.lt sz_b_4))
  refine Go.callI (cells' := 4) (slots' := 10) (pc' := 44) [(.ref r_10)] [] (((A1.keep K4).keep K8).keep K10) (ww hw 119 rfl) (ww hw 120 rfl) (ww hw 121 rfl) (ww hw 122 rfl) (ww hw 123 rfl) (ww hw 124 rfl) (ww hw 125 rfl) (ww hw 126 rfl) (ww hw 8 rfl) (ww hw 127 rfl) (by decide) (c_add4_0 l Z a0 hw h10 b1 r_10 b_4 kb_4 ge1 ge_b_4 ne13 ((((A1.keep K4).keep K8).keep K10)) F10_0 (((F4_0.keep K8 nin0).keep K10 nin0)) (((F4_1.keep K8 nin0).keep K10 nin0)) (((F4_2.keep K8 nin0).keep K10 nin0)) (((F4_3.keep K8 nin0).keep K10 nin0)) (((F4_4.keep K8).keep K10)) F4_5) pd_17 rfl rfl rfl rfl rfl (nl rfl) (nl rfl) (nl rfl) (nl rfl) d1_39 rfl ?_
  rintro _ h14 ⟨rfl, K14, F14_0, F14_1, F14_2, F14_3⟩
  have K15 : Keep h h14 [] := K12.trans K14 (allS (Or.inr sz2) (allS (Or.inr sz5) all0))
  show Go _ _ _ _ _ _ _ _ _ _ _ _ 44 #[.val (.ref t), .val (.ref b1), .val (.ref t), .val (.int (4 : Int32)), .val (.int (0 : Int32)), .val (.int q0)] [(.int (1 : Int32))]
  refine Go.pop (pc' := 45) d1_44 rfl rfl ?_
  refine Go.iinc (pc' := 48) (Ls' := #[.val (.ref t), .val (.ref b1), .val (.ref t), .val (.int (4 : Int32)), .val (.int ((0 : Int32) + (1 : Int32))), .val (.int q0)]) (w := (1 : Int32)) d1_45 rfl rfl rfl rfl ?_
  show Go _ _ _ _ _ _ _ _ _ _ _ _ 48 #[.val (.ref t), .val (.ref b1), .val (.ref t), .val (.int (4 : Int32)), .val (.int (1 : Int32)), .val (.int q0)] []
  refine Go.goto (pc' := 18) d1_48 (by decide) (by decide) ?_
  refine Go.iload (pc' := 20) d1_18 rfl rfl ?_
  refine Go.iloadN (pc' := 21) d1_20 rfl rfl ?_
  refine Go.icmpNo (pc' := 24) d1_21 (XT.ii_ge_f (by decide)) rfl ?_
  refine Go.aloadN (pc' := 25) d1_24 rfl rfl rfl ?_
  refine Go.iload (pc' := 27) d1_25 rfl rfl ?_
  have ne16 : t ≠ b_4 := (Nat.ne_of_lt (Nat.lt_of_lt_of_le (v.ext E1).lt sz_b_4))
  have f17 : Arv Z h14 t kt .int (4 : Int32) [(.int q0), (.int q1), (.int q2), (.int q3)] (.int 0) := (((((v.ext E1).keep K4 (ninS ne7 nin0)).keep K8 nin0).keep K10 nin0).keep K14 (ninS ne7 (ninS ne16 nin0)))
  refine Go.iaload (pc' := 28) (v := q1) f17 d1_27 (by decide) (by decide) rfl rfl ?_
  refine Go.istore (pc' := 30) (Ls' := #[.val (.ref t), .val (.ref b1), .val (.ref t), .val (.int (4 : Int32)), .val (.int (1 : Int32)), .val (.int q1)]) d1_28 rfl rfl ?_
  refine Go.aloadN (pc' := 31) d1_30 rfl rfl rfl ?_
  refine Go.iload (pc' := 33) d1_31 rfl rfl ?_
  refine Go.callS (cells' := 5) (slots' := 11) (pc' := 36) [(.int q1)] [(.ref b1)] (ww hw 79 rfl) (ww hw 80 rfl) (ww hw 81 rfl) (ww hw 82 rfl) (by decide) (c_valueOf l Z a0 hw h14 q1 wc kc vsc hcache sh sc vc) pd_15 rfl rfl rfl rfl rfl (nl rfl) (nl rfl) (nl rfl) (nl rfl) d1_33 rfl ?_
  rintro _ h18 ⟨w_18, rfl, K18, F18_0, F18_1⟩
  have K19 : Keep h h18 [] := K15.trans K18 all0
  show Go _ _ _ _ _ _ _ _ _ _ _ _ 36 #[.val (.ref t), .val (.ref b1), .val (.ref t), .val (.int (4 : Int32)), .val (.int (1 : Int32)), .val (.int q1)] [(.ref w_18), (.ref b1)]
  refine Go.callS (cells' := 6) (slots' := 13) (pc' := 39) [(.ref w_18)] [(.ref b1)] (ww hw 86 rfl) (ww hw 87 rfl) (ww hw 34 rfl) (ww hw 88 rfl) (by decide) (c_listOf1 l Z a0 hw h18 w_18 wE se xE) pd_16 rfl rfl rfl rfl rfl (nl rfl) (nl rfl) (nl rfl) (nl rfl) d1_36 rfl ?_
  rintro _ h20 ⟨r_20, rfl, K20, ge_r_20, sz_r_20, F20_0, F20_1, F20_2⟩
  have sz21 : h.size ≤ r_20 := Nat.le_trans K19.1 sz_r_20
  have K22 : Keep h h20 [] := K19.trans K20 all0
  show Go _ _ _ _ _ _ _ _ _ _ _ _ 39 #[.val (.ref t), .val (.ref b1), .val (.ref t), .val (.int (4 : Int32)), .val (.int (1 : Int32)), .val (.int q1)] [(.ref r_20), (.ref b1)]
  have f23 : Exa Z h20 b1 "java/util/ArrayList" := ((((((A1.keep K4).keep K8).keep K10).keep K14).keep K18).keep K20)
  have f24 : Exa Z h20 b_4 "[Ljava/lang/Object;" := (((((F4_4.keep K8).keep K10).keep K14).keep K18).keep K20)
  refine Go.callI (cells' := 6) (slots' := 13) (pc' := 44) [(.ref r_20)] [] f23 (ww hw 119 rfl) (ww hw 120 rfl) (ww hw 121 rfl) (ww hw 122 rfl) (ww hw 123 rfl) (ww hw 124 rfl) (ww hw 125 rfl) (ww hw 126 rfl) (ww hw 8 rfl) (ww hw 127 rfl) (by decide) (c_add4_1 l Z a0 hw h20 b1 r_20 b_4 kb_4 r_10 ge1 ge_b_4 ne13 f23 F20_0 (((F14_0.keep K18 nin0).keep K20 nin0)) (((F14_1.keep K18 nin0).keep K20 nin0)) (((F14_2.keep K18 nin0).keep K20 nin0)) (((F14_3.keep K18 nin0).keep K20 nin0)) f24 F4_5) pd_17 rfl rfl rfl rfl rfl (nl rfl) (nl rfl) (nl rfl) (nl rfl) d1_39 rfl ?_
  rintro _ h25 ⟨rfl, K25, F25_0, F25_1, F25_2, F25_3⟩
  have K26 : Keep h h25 [] := K22.trans K25 (allS (Or.inr sz2) (allS (Or.inr sz5) all0))
  show Go _ _ _ _ _ _ _ _ _ _ _ _ 44 #[.val (.ref t), .val (.ref b1), .val (.ref t), .val (.int (4 : Int32)), .val (.int (1 : Int32)), .val (.int q1)] [(.int (1 : Int32))]
  refine Go.pop (pc' := 45) d1_44 rfl rfl ?_
  refine Go.iinc (pc' := 48) (Ls' := #[.val (.ref t), .val (.ref b1), .val (.ref t), .val (.int (4 : Int32)), .val (.int ((1 : Int32) + (1 : Int32))), .val (.int q1)]) (w := (1 : Int32)) d1_45 rfl rfl rfl rfl ?_
  show Go _ _ _ _ _ _ _ _ _ _ _ _ 48 #[.val (.ref t), .val (.ref b1), .val (.ref t), .val (.int (4 : Int32)), .val (.int (2 : Int32)), .val (.int q1)] []
  refine Go.goto (pc' := 18) d1_48 (by decide) (by decide) ?_
  refine Go.iload (pc' := 20) d1_18 rfl rfl ?_
  refine Go.iloadN (pc' := 21) d1_20 rfl rfl ?_
  refine Go.icmpNo (pc' := 24) d1_21 (XT.ii_ge_f (by decide)) rfl ?_
  refine Go.aloadN (pc' := 25) d1_24 rfl rfl rfl ?_
  refine Go.iload (pc' := 27) d1_25 rfl rfl ?_
  have f27 : Arv Z h25 t kt .int (4 : Int32) [(.int q0), (.int q1), (.int q2), (.int q3)] (.int 0) := (((f17.keep K18 nin0).keep K20 nin0).keep K25 (ninS ne7 (ninS ne16 nin0)))
  refine Go.iaload (pc' := 28) (v := q2) f27 d1_27 (by decide) (by decide) rfl rfl ?_
  refine Go.istore (pc' := 30) (Ls' := #[.val (.ref t), .val (.ref b1), .val (.ref t), .val (.int (4 : Int32)), .val (.int (2 : Int32)), .val (.int q2)]) d1_28 rfl rfl ?_
  refine Go.aloadN (pc' := 31) d1_30 rfl rfl rfl ?_
  refine Go.iload (pc' := 33) d1_31 rfl rfl ?_
  refine Go.callS (cells' := 7) (slots' := 14) (pc' := 36) [(.int q2)] [(.ref b1)] (ww hw 79 rfl) (ww hw 80 rfl) (ww hw 81 rfl) (ww hw 82 rfl) (by decide) (c_valueOf l Z a0 hw h25 q2 wc kc vsc hcache sh sc vc) pd_15 rfl rfl rfl rfl rfl (nl rfl) (nl rfl) (nl rfl) (nl rfl) d1_33 rfl ?_
  rintro _ h28 ⟨w_28, rfl, K28, F28_0, F28_1⟩
  have K29 : Keep h h28 [] := K26.trans K28 all0
  show Go _ _ _ _ _ _ _ _ _ _ _ _ 36 #[.val (.ref t), .val (.ref b1), .val (.ref t), .val (.int (4 : Int32)), .val (.int (2 : Int32)), .val (.int q2)] [(.ref w_28), (.ref b1)]
  refine Go.callS (cells' := 8) (slots' := 16) (pc' := 39) [(.ref w_28)] [(.ref b1)] (ww hw 86 rfl) (ww hw 87 rfl) (ww hw 34 rfl) (ww hw 88 rfl) (by decide) (c_listOf1 l Z a0 hw h28 w_28 wE se xE) pd_16 rfl rfl rfl rfl rfl (nl rfl) (nl rfl) (nl rfl) (nl rfl) d1_36 rfl ?_
  rintro _ h30 ⟨r_30, rfl, K30, ge_r_30, sz_r_30, F30_0, F30_1, F30_2⟩
  have sz31 : h.size ≤ r_30 := Nat.le_trans K29.1 sz_r_30
  have K32 : Keep h h30 [] := K29.trans K30 all0
  show Go _ _ _ _ _ _ _ _ _ _ _ _ 39 #[.val (.ref t), .val (.ref b1), .val (.ref t), .val (.int (4 : Int32)), .val (.int (2 : Int32)), .val (.int q2)] [(.ref r_30), (.ref b1)]
  refine Go.callI (cells' := 8) (slots' := 16) (pc' := 44) [(.ref r_30)] [] (((f23.keep K25).keep K28).keep K30) (ww hw 119 rfl) (ww hw 120 rfl) (ww hw 121 rfl) (ww hw 122 rfl) (ww hw 123 rfl) (ww hw 124 rfl) (ww hw 125 rfl) (ww hw 126 rfl) (ww hw 8 rfl) (ww hw 127 rfl) (by decide) (c_add4_2 l Z a0 hw h30 b1 r_30 b_4 kb_4 r_10 r_20 ge1 ge_b_4 ne13 ((((f23.keep K25).keep K28).keep K30)) F30_0 (((F25_0.keep K28 nin0).keep K30 nin0)) (((F25_1.keep K28 nin0).keep K30 nin0)) (((F25_2.keep K28 nin0).keep K30 nin0)) (((F25_3.keep K28 nin0).keep K30 nin0)) ((((f24.keep K25).keep K28).keep K30)) F4_5) pd_17 rfl rfl rfl rfl rfl (nl rfl) (nl rfl) (nl rfl) (nl rfl) d1_39 rfl ?_
  rintro _ h33 ⟨rfl, K33, F33_0, F33_1, F33_2, F33_3⟩
  have K34 : Keep h h33 [] := K32.trans K33 (allS (Or.inr sz2) (allS (Or.inr sz5) all0))
  show Go _ _ _ _ _ _ _ _ _ _ _ _ 44 #[.val (.ref t), .val (.ref b1), .val (.ref t), .val (.int (4 : Int32)), .val (.int (2 : Int32)), .val (.int q2)] [(.int (1 : Int32))]
  refine Go.pop (pc' := 45) d1_44 rfl rfl ?_
  refine Go.iinc (pc' := 48) (Ls' := #[.val (.ref t), .val (.ref b1), .val (.ref t), .val (.int (4 : Int32)), .val (.int ((2 : Int32) + (1 : Int32))), .val (.int q2)]) (w := (1 : Int32)) d1_45 rfl rfl rfl rfl ?_
  show Go _ _ _ _ _ _ _ _ _ _ _ _ 48 #[.val (.ref t), .val (.ref b1), .val (.ref t), .val (.int (4 : Int32)), .val (.int (3 : Int32)), .val (.int q2)] []
  refine Go.goto (pc' := 18) d1_48 (by decide) (by decide) ?_
  refine Go.iload (pc' := 20) d1_18 rfl rfl ?_
  refine Go.iloadN (pc' := 21) d1_20 rfl rfl ?_
  refine Go.icmpNo (pc' := 24) d1_21 (XT.ii_ge_f (by decide)) rfl ?_
  refine Go.aloadN (pc' := 25) d1_24 rfl rfl rfl ?_
  refine Go.iload (pc' := 27) d1_25 rfl rfl ?_
  have f35 : Arv Z h33 t kt .int (4 : Int32) [(.int q0), (.int q1), (.int q2), (.int q3)] (.int 0) := (((f27.keep K28 nin0).keep K30 nin0).keep K33 (ninS ne7 (ninS ne16 nin0)))
  refine Go.iaload (pc' := 28) (v := q3) f35 d1_27 (by decide) (by decide) rfl rfl ?_
  refine Go.istore (pc' := 30) (Ls' := #[.val (.ref t), .val (.ref b1), .val (.ref t), .val (.int (4 : Int32)), .val (.int (3 : Int32)), .val (.int q3)]) d1_28 rfl rfl ?_
  refine Go.aloadN (pc' := 31) d1_30 rfl rfl rfl ?_
  refine Go.iload (pc' := 33) d1_31 rfl rfl ?_
  refine Go.callS (cells' := 9) (slots' := 17) (pc' := 36) [(.int q3)] [(.ref b1)] (ww hw 79 rfl) (ww hw 80 rfl) (ww hw 81 rfl) (ww hw 82 rfl) (by decide) (c_valueOf l Z a0 hw h33 q3 wc kc vsc hcache sh sc vc) pd_15 rfl rfl rfl rfl rfl (nl rfl) (nl rfl) (nl rfl) (nl rfl) d1_33 rfl ?_
  rintro _ h36 ⟨w_36, rfl, K36, F36_0, F36_1⟩
  have K37 : Keep h h36 [] := K34.trans K36 all0
  show Go _ _ _ _ _ _ _ _ _ _ _ _ 36 #[.val (.ref t), .val (.ref b1), .val (.ref t), .val (.int (4 : Int32)), .val (.int (3 : Int32)), .val (.int q3)] [(.ref w_36), (.ref b1)]
  refine Go.callS (cells' := 10) (slots' := 19) (pc' := 39) [(.ref w_36)] [(.ref b1)] (ww hw 86 rfl) (ww hw 87 rfl) (ww hw 34 rfl) (ww hw 88 rfl) (by decide) (c_listOf1 l Z a0 hw h36 w_36 wE se xE) pd_16 rfl rfl rfl rfl rfl (nl rfl) (nl rfl) (nl rfl) (nl rfl) d1_36 rfl ?_
  rintro _ h38 ⟨r_38, rfl, K38, ge_r_38, sz_r_38, F38_0, F38_1, F38_2⟩
  have sz39 : h.size ≤ r_38 := Nat.le_trans K37.1 sz_r_38
  have K40 : Keep h h38 [] := K37.trans K38 all0
  show Go _ _ _ _ _ _ _ _ _ _ _ _ 39 #[.val (.ref t), .val (.ref b1), .val (.ref t), .val (.int (4 : Int32)), .val (.int (3 : Int32)), .val (.int q3)] [(.ref r_38), (.ref b1)]
  have f41 : Exa Z h38 b1 "java/util/ArrayList" := ((((((f23.keep K25).keep K28).keep K30).keep K33).keep K36).keep K38)
  have f42 : Exa Z h38 b_4 "[Ljava/lang/Object;" := ((((((f24.keep K25).keep K28).keep K30).keep K33).keep K36).keep K38)
  refine Go.callI (cells' := 10) (slots' := 19) (pc' := 44) [(.ref r_38)] [] f41 (ww hw 119 rfl) (ww hw 120 rfl) (ww hw 121 rfl) (ww hw 122 rfl) (ww hw 123 rfl) (ww hw 124 rfl) (ww hw 125 rfl) (ww hw 126 rfl) (ww hw 8 rfl) (ww hw 127 rfl) (by decide) (c_add4_3 l Z a0 hw h38 b1 r_38 b_4 kb_4 r_10 r_20 r_30 ge1 ge_b_4 ne13 f41 F38_0 (((F33_0.keep K36 nin0).keep K38 nin0)) (((F33_1.keep K36 nin0).keep K38 nin0)) (((F33_2.keep K36 nin0).keep K38 nin0)) (((F33_3.keep K36 nin0).keep K38 nin0)) f42 F4_5) pd_17 rfl rfl rfl rfl rfl (nl rfl) (nl rfl) (nl rfl) (nl rfl) d1_39 rfl ?_
  rintro _ h43 ⟨rfl, K43, F43_0, F43_1, F43_2, F43_3⟩
  have K44 : Keep h h43 [] := K40.trans K43 (allS (Or.inr sz2) (allS (Or.inr sz5) all0))
  show Go _ _ _ _ _ _ _ _ _ _ _ _ 44 #[.val (.ref t), .val (.ref b1), .val (.ref t), .val (.int (4 : Int32)), .val (.int (3 : Int32)), .val (.int q3)] [(.int (1 : Int32))]
  refine Go.pop (pc' := 45) d1_44 rfl rfl ?_
  refine Go.iinc (pc' := 48) (Ls' := #[.val (.ref t), .val (.ref b1), .val (.ref t), .val (.int (4 : Int32)), .val (.int ((3 : Int32) + (1 : Int32))), .val (.int q3)]) (w := (1 : Int32)) d1_45 rfl rfl rfl rfl ?_
  show Go _ _ _ _ _ _ _ _ _ _ _ _ 48 #[.val (.ref t), .val (.ref b1), .val (.ref t), .val (.int (4 : Int32)), .val (.int (4 : Int32)), .val (.int q3)] []
  refine Go.goto (pc' := 18) d1_48 (by decide) (by decide) ?_
  refine Go.iload (pc' := 20) d1_18 rfl rfl ?_
  refine Go.iloadN (pc' := 21) d1_20 rfl rfl ?_
  refine Go.icmpYes (pc' := 51) d1_21 (XT.ii_ge_t (by decide)) (by decide) (by decide) ?_
  refine Go.aloadN (pc' := 52) d1_51 rfl rfl rfl ?_
  have f45 : Exa Z h43 r_10 "java/util/ImmutableCollections$List12" := ((((((((((F10_0.keep K14).keep K18).keep K20).keep K25).keep K28).keep K30).keep K33).keep K36).keep K38).keep K43)
  have f46 : Exa Z h43 r_20 "java/util/ImmutableCollections$List12" := (((((((F20_0.keep K25).keep K28).keep K30).keep K33).keep K36).keep K38).keep K43)
  have f47 : Exa Z h43 r_30 "java/util/ImmutableCollections$List12" := ((((F30_0.keep K33).keep K36).keep K38).keep K43)
  refine Go.callS (cells' := 13) (slots' := 29) (pc' := 55) [(.ref b1)] [] (ww hw 32 rfl) (ww hw 33 rfl) (ww hw 34 rfl) (ww hw 35 rfl) (by decide) (c_copy4 l Z a0 hw h43 b1 b_4 kb_4 r_10 r_20 r_30 r_38 mO mo (f41.keep K43) F43_0 F43_1 F43_3 (f42.keep K43) f45 f46 f47 (F38_0.keep K43)) pd_6 rfl rfl rfl rfl rfl (nl rfl) (nl rfl) (nl rfl) (nl rfl) d1_52 rfl ?_
  rintro _ h48 ⟨r_48, c_48, kc2_48, rfl, K48, ge_r_48, sz_r_48, ge_c_48, sz_c_48, F48_0, F48_1, F48_2⟩
  have sz49 : h.size ≤ r_48 := Nat.le_trans K44.1 sz_r_48
  have sz50 : h.size ≤ c_48 := Nat.le_trans K44.1 sz_c_48
  have K51 : Keep h h48 [] := K44.trans K48 all0
  show Go _ _ _ _ _ _ _ _ _ _ _ _ 55 #[.val (.ref t), .val (.ref b1), .val (.ref t), .val (.int (4 : Int32)), .val (.int (4 : Int32)), .val (.int q3)] [(.ref r_48)]
  have ne52 : b_4 ≠ r_10 := (Nat.ne_of_lt (Nat.lt_of_lt_of_le (F4_4.keep K8).lt sz_r_10))
  have ne53 : b1 ≠ r_10 := (Nat.ne_of_lt (Nat.lt_of_lt_of_le (F4_2.keep K8 nin0).lt sz_r_10))
  have f54 : Fld Z h48 r_10 "java/util/ImmutableCollections$List12" "e0" "Ljava/lang/Object;" (.ref w_8) := (((((((((((F10_1.keep K14 (ninS (Ne.symm ne53) (ninS (Ne.symm ne52) nin0))).keep K18 nin0).keep K20 nin0).keep K25 (ninS (Ne.symm ne53) (ninS (Ne.symm ne52) nin0))).keep K28 nin0).keep K30 nin0).keep K33 (ninS (Ne.symm ne53) (ninS (Ne.symm ne52) nin0))).keep K36 nin0).keep K38 nin0).keep K43 (ninS (Ne.symm ne53) (ninS (Ne.symm ne52) nin0))).keep K48 nin0)
  have f55 : Fld Z h48 r_10 "java/util/ImmutableCollections$List12" "e1" "Ljava/lang/Object;" (.ref wE) := (((((((((((F10_2.keep K14 (ninS (Ne.symm ne53) (ninS (Ne.symm ne52) nin0))).keep K18 nin0).keep K20 nin0).keep K25 (ninS (Ne.symm ne53) (ninS (Ne.symm ne52) nin0))).keep K28 nin0).keep K30 nin0).keep K33 (ninS (Ne.symm ne53) (ninS (Ne.symm ne52) nin0))).keep K36 nin0).keep K38 nin0).keep K43 (ninS (Ne.symm ne53) (ninS (Ne.symm ne52) nin0))).keep K48 nin0)
  have f56 : Exa Z h48 w_8 "java/lang/Integer" := ((((((((((((F8_0.keep K10).keep K14).keep K18).keep K20).keep K25).keep K28).keep K30).keep K33).keep K36).keep K38).keep K43).keep K48)
  have ne57 : w_8 ≠ b_4 := ne_exa f56 ((f42.keep K43).keep K48) (by decide)
  have ne58 : w_8 ≠ b1 := ne_exa f56 ((f41.keep K43).keep K48) (by decide)
  have f59 : Fld Z h48 w_8 "java/lang/Integer" "value" "I" (.int q0) := ((((((((((((F8_1.keep K10 nin0).keep K14 (ninS ne58 (ninS ne57 nin0))).keep K18 nin0).keep K20 nin0).keep K25 (ninS ne58 (ninS ne57 nin0))).keep K28 nin0).keep K30 nin0).keep K33 (ninS ne58 (ninS ne57 nin0))).keep K36 nin0).keep K38 nin0).keep K43 (ninS ne58 (ninS ne57 nin0))).keep K48 nin0)
  have ne60 : b_4 ≠ r_20 := (Nat.ne_of_lt (Nat.lt_of_lt_of_le ((((F4_4.keep K8).keep K10).keep K14).keep K18).lt sz_r_20))
  have ne61 : b1 ≠ r_20 := (Nat.ne_of_lt (Nat.lt_of_lt_of_le (F14_2.keep K18 nin0).lt sz_r_20))
  have f62 : Fld Z h48 r_20 "java/util/ImmutableCollections$List12" "e0" "Ljava/lang/Object;" (.ref w_18) := ((((((((F20_1.keep K25 (ninS (Ne.symm ne61) (ninS (Ne.symm ne60) nin0))).keep K28 nin0).keep K30 nin0).keep K33 (ninS (Ne.symm ne61) (ninS (Ne.symm ne60) nin0))).keep K36 nin0).keep K38 nin0).keep K43 (ninS (Ne.symm ne61) (ninS (Ne.symm ne60) nin0))).keep K48 nin0)
  have f63 : Fld Z h48 r_20 "java/util/ImmutableCollections$List12" "e1" "Ljava/lang/Object;" (.ref wE) := ((((((((F20_2.keep K25 (ninS (Ne.symm ne61) (ninS (Ne.symm ne60) nin0))).keep K28 nin0).keep K30 nin0).keep K33 (ninS (Ne.symm ne61) (ninS (Ne.symm ne60) nin0))).keep K36 nin0).keep K38 nin0).keep K43 (ninS (Ne.symm ne61) (ninS (Ne.symm ne60) nin0))).keep K48 nin0)
  have f64 : Exa Z h48 w_18 "java/lang/Integer" := (((((((((F18_0.keep K20).keep K25).keep K28).keep K30).keep K33).keep K36).keep K38).keep K43).keep K48)
  have ne65 : w_18 ≠ b_4 := ne_exa f64 ((f42.keep K43).keep K48) (by decide)
  have ne66 : w_18 ≠ b1 := ne_exa f64 ((f41.keep K43).keep K48) (by decide)
  have f67 : Fld Z h48 w_18 "java/lang/Integer" "value" "I" (.int q1) := (((((((((F18_1.keep K20 nin0).keep K25 (ninS ne66 (ninS ne65 nin0))).keep K28 nin0).keep K30 nin0).keep K33 (ninS ne66 (ninS ne65 nin0))).keep K36 nin0).keep K38 nin0).keep K43 (ninS ne66 (ninS ne65 nin0))).keep K48 nin0)
  have ne68 : b_4 ≠ r_30 := (Nat.ne_of_lt (Nat.lt_of_lt_of_le ((f24.keep K25).keep K28).lt sz_r_30))
  have ne69 : b1 ≠ r_30 := (Nat.ne_of_lt (Nat.lt_of_lt_of_le (F25_2.keep K28 nin0).lt sz_r_30))
  have f70 : Fld Z h48 r_30 "java/util/ImmutableCollections$List12" "e0" "Ljava/lang/Object;" (.ref w_28) := (((((F30_1.keep K33 (ninS (Ne.symm ne69) (ninS (Ne.symm ne68) nin0))).keep K36 nin0).keep K38 nin0).keep K43 (ninS (Ne.symm ne69) (ninS (Ne.symm ne68) nin0))).keep K48 nin0)
  have f71 : Fld Z h48 r_30 "java/util/ImmutableCollections$List12" "e1" "Ljava/lang/Object;" (.ref wE) := (((((F30_2.keep K33 (ninS (Ne.symm ne69) (ninS (Ne.symm ne68) nin0))).keep K36 nin0).keep K38 nin0).keep K43 (ninS (Ne.symm ne69) (ninS (Ne.symm ne68) nin0))).keep K48 nin0)
  have f72 : Exa Z h48 w_28 "java/lang/Integer" := ((((((F28_0.keep K30).keep K33).keep K36).keep K38).keep K43).keep K48)
  have ne73 : w_28 ≠ b_4 := ne_exa f72 ((f42.keep K43).keep K48) (by decide)
  have ne74 : w_28 ≠ b1 := ne_exa f72 ((f41.keep K43).keep K48) (by decide)
  have f75 : Fld Z h48 w_28 "java/lang/Integer" "value" "I" (.int q2) := ((((((F28_1.keep K30 nin0).keep K33 (ninS ne74 (ninS ne73 nin0))).keep K36 nin0).keep K38 nin0).keep K43 (ninS ne74 (ninS ne73 nin0))).keep K48 nin0)
  have ne76 : b_4 ≠ r_38 := (Nat.ne_of_lt (Nat.lt_of_lt_of_le (((((f24.keep K25).keep K28).keep K30).keep K33).keep K36).lt sz_r_38))
  have ne77 : b1 ≠ r_38 := (Nat.ne_of_lt (Nat.lt_of_lt_of_le (F33_2.keep K36 nin0).lt sz_r_38))
  have f78 : Fld Z h48 r_38 "java/util/ImmutableCollections$List12" "e0" "Ljava/lang/Object;" (.ref w_36) := ((F38_1.keep K43 (ninS (Ne.symm ne77) (ninS (Ne.symm ne76) nin0))).keep K48 nin0)
  have f79 : Fld Z h48 r_38 "java/util/ImmutableCollections$List12" "e1" "Ljava/lang/Object;" (.ref wE) := ((F38_2.keep K43 (ninS (Ne.symm ne77) (ninS (Ne.symm ne76) nin0))).keep K48 nin0)
  have ne80 : w_36 ≠ b_4 := ne_exa (((F36_0.keep K38).keep K43).keep K48) ((f42.keep K43).keep K48) (by decide)
  have ne81 : w_36 ≠ b1 := ne_exa (((F36_0.keep K38).keep K43).keep K48) ((f41.keep K43).keep K48) (by decide)
  have f82 : Fld Z h48 w_36 "java/lang/Integer" "value" "I" (.int q3) := (((F36_1.keep K38 nin0).keep K43 (ninS ne81 (ninS ne80 nin0))).keep K48 nin0)
  exact Go.retR rfl rfl rfl rfl d1_55 ⟨r_48, c_48, kc2_48, r_10, w_8, r_20, w_18, r_30, w_28, r_38, w_36, rfl, K51, F48_0, F48_1, F48_2, (f45.keep K48), f54, f55, f56, f59, (f46.keep K48), f62, f63, f64, f67, (f47.keep K48), f70, f71, f72, f75, ((F38_0.keep K43).keep K48), f78, f79, (((F36_0.keep K38).keep K43).keep K48), f82⟩ (by decide) (by decide)
theorem d10_0 : decode jdk_45_method_3_code 0 = .ok (.aload_n 0, 1) := by decide +kernel
theorem d10_1 : decode jdk_45_method_3_code 1 = .ok (.getfield 7, 3) := by decide +kernel
theorem d10_4 : decode jdk_45_method_3_code 4 = .ok (.arraylength, 1) := by decide +kernel
theorem d10_5 : decode jdk_45_method_3_code 5 = .ok (.ireturn, 1) := by decide +kernel
set_option maxRecDepth 65536 in
set_option maxHeartbeats 4000000 in
theorem c_lnSize (l : Launch) (Z : State) (a0 : Array Value) (hw : ∀ d ∈ tables_1, d.before a0 Z = true) {n0 : Nat} (h : Heap) (a : Addr) (c : Addr) (k : ClassId) (z : Int32) (vs : List Value) (f : Fld Z h a "java/util/ImmutableCollections$ListN" "elements" "[Ljava/lang/Object;" (.ref c)) (v : Arv Z h c k (.object "java/lang/Object") z vs .null) :
    Con l (⟨"java/util/ImmutableCollections$ListN", "size", "()I"⟩ : MethodName) jdk_45_method_3_code 1 (some .int) ({ frames := 0, cells := 0, slots := 0, locals := 0 } : Room) Z n0 #[(.ref a)] h (fun v h' => v = some (.int z) ∧ h = h') := by
  refine Con.of_go (plainFor_of_name pn_9) (Ls := #[.val (.ref a)]) (fun m => by first | (simp [entryFrame, mkF, argsToLocals, Value.category]; done) | rfl) ?_
  refine Go.aloadN (pc' := 1) d10_0 rfl rfl rfl ?_
  refine Go.getfield (pc' := 4) (host := "") (Or.inl (ww hw 71 rfl)) Via.refl f d10_1 rfl ?_
  refine Go.arraylength (pc' := 5) v d10_4 rfl ?_
  exact Go.retI rfl d10_5 ⟨rfl, rfl⟩ (by decide) (by decide)
set_option maxRecDepth 65536 in
set_option maxHeartbeats 4000000 in
theorem c_lnSize0 (l : Launch) (Z : State) (a0 : Array Value) (hw : ∀ d ∈ tables_1, d.before a0 Z = true) {n0 : Nat} (h : Heap) (wL : Addr) (wLe : Addr) (kLe : ClassId) (vsL : List Value) (sl : Sta Z Z.heap "java/util/ImmutableCollections" "EMPTY_LIST" "Ljava/util/ImmutableCollections$ListN;" (.ref wL)) (xL : Exa Z Z.heap wL "java/util/ImmutableCollections$ListN") (fL : Fld Z Z.heap wL "java/util/ImmutableCollections$ListN" "elements" "[Ljava/lang/Object;" (.ref wLe)) (vL : Arv Z Z.heap wLe kLe (.object "java/lang/Object") (0 : Int32) vsL .null) :
    Con l (⟨"java/util/ImmutableCollections$ListN", "size", "()I"⟩ : MethodName) jdk_45_method_3_code 1 (some .int) ({ frames := 0, cells := 0, slots := 0, locals := 0 } : Room) Z n0 #[(.ref wL)] h (fun v h' => v = some (.int (0 : Int32)) ∧ h = h') := by
  refine Con.of_go (plainFor_of_name pn_9) (Ls := #[.val (.ref wL)]) (fun m => by first | (simp [entryFrame, mkF, argsToLocals, Value.category]; done) | rfl) ?_
  refine Go.aloadN (pc' := 1) d10_0 rfl rfl rfl ?_
  refine Go.old (fun old1 => ?_)
  refine Go.getfield (pc' := 4) (host := "") (Or.inl (ww hw 71 rfl)) Via.refl (fL.ext old1.2) d10_1 rfl ?_
  refine Go.arraylength (pc' := 5) (vL.ext old1.2) d10_4 rfl ?_
  exact Go.retI rfl d10_5 ⟨rfl, rfl⟩ (by decide) (by decide)
theorem d28_0 : decode jdk_44_method_3_code 0 = .ok (.aload_n 0, 1) := by decide +kernel
theorem d28_1 : decode jdk_44_method_3_code 1 = .ok (.getfield 24, 3) := by decide +kernel
theorem d28_4 : decode jdk_44_method_3_code 4 = .ok (.getstatic 19, 3) := by decide +kernel
theorem d28_7 : decode jdk_44_method_3_code 7 = .ok (.if_acmp .eq 7, 3) := by decide +kernel
theorem d28_14 : decode jdk_44_method_3_code 14 = .ok (.iconst 1, 1) := by decide +kernel
theorem d28_15 : decode jdk_44_method_3_code 15 = .ok (.ireturn, 1) := by decide +kernel
set_option maxRecDepth 65536 in
set_option maxHeartbeats 4000000 in
theorem c_l12Size1 (l : Launch) (Z : State) (a0 : Array Value) (hw : ∀ d ∈ tables_1, d.before a0 Z = true) {n0 : Nat} (h : Heap) (a : Addr) (wE : Addr) (se : Sta Z Z.heap "java/util/ImmutableCollections" "EMPTY" "Ljava/lang/Object;" (.ref wE)) (xE : Exa Z Z.heap wE "java/lang/Object") (f : Fld Z h a "java/util/ImmutableCollections$List12" "e1" "Ljava/lang/Object;" (.ref wE)) :
    Con l (⟨"java/util/ImmutableCollections$List12", "size", "()I"⟩ : MethodName) jdk_44_method_3_code 1 (some .int) ({ frames := 0, cells := 0, slots := 0, locals := 0 } : Room) Z n0 #[(.ref a)] h (fun v h' => v = some (.int (1 : Int32)) ∧ h = h') := by
  refine Con.of_go (plainFor_of_name pn_8) (Ls := #[.val (.ref a)]) (fun m => by first | (simp [entryFrame, mkF, argsToLocals, Value.category]; done) | rfl) ?_
  refine Go.aloadN (pc' := 1) d28_0 rfl rfl rfl ?_
  refine Go.getfield (pc' := 4) (host := "") (Or.inl (ww hw 117 rfl)) Via.refl f d28_1 rfl ?_
  refine Go.old (fun old1 => ?_)
  refine Go.getstatic (pc' := 7) (Or.inr (ww hw 116 rfl)) Via.refl (se.ext old1.2) d28_4 rfl ?_
  refine Go.acmpYes (pc' := 14) d28_7 rfl rfl (XT.aa_eq_t rfl) (by decide) (by decide) ?_
  refine Go.iconst (pc' := 15) (v := (1 : Int32)) d28_14 rfl rfl ?_
  exact Go.retI rfl d28_15 ⟨rfl, rfl⟩ (by decide) (by decide)
theorem d28_10 : decode jdk_44_method_3_code 10 = .ok (.iconst 2, 1) := by decide +kernel
theorem d28_11 : decode jdk_44_method_3_code 11 = .ok (.goto 4, 3) := by decide +kernel
set_option maxRecDepth 65536 in
set_option maxHeartbeats 4000000 in
theorem c_l12Size2 (l : Launch) (Z : State) (a0 : Array Value) (hw : ∀ d ∈ tables_1, d.before a0 Z = true) {n0 : Nat} (h : Heap) (a : Addr) (d : Addr) (wE : Addr) (se : Sta Z Z.heap "java/util/ImmutableCollections" "EMPTY" "Ljava/lang/Object;" (.ref wE)) (xE : Exa Z Z.heap wE "java/lang/Object") (ne_d_wE : d ≠ wE) (f : Fld Z h a "java/util/ImmutableCollections$List12" "e1" "Ljava/lang/Object;" (.ref d)) :
    Con l (⟨"java/util/ImmutableCollections$List12", "size", "()I"⟩ : MethodName) jdk_44_method_3_code 1 (some .int) ({ frames := 0, cells := 0, slots := 0, locals := 0 } : Room) Z n0 #[(.ref a)] h (fun v h' => v = some (.int (2 : Int32)) ∧ h = h') := by
  refine Con.of_go (plainFor_of_name pn_8) (Ls := #[.val (.ref a)]) (fun m => by first | (simp [entryFrame, mkF, argsToLocals, Value.category]; done) | rfl) ?_
  refine Go.aloadN (pc' := 1) d28_0 rfl rfl rfl ?_
  refine Go.getfield (pc' := 4) (host := "") (Or.inl (ww hw 117 rfl)) Via.refl f d28_1 rfl ?_
  refine Go.old (fun old1 => ?_)
  refine Go.getstatic (pc' := 7) (Or.inr (ww hw 116 rfl)) Via.refl (se.ext old1.2) d28_4 rfl ?_
  refine Go.acmpNo (pc' := 10) d28_7 rfl rfl (XT.aa_eq_f (fun q => ne_d_wE (Value.ref.inj q))) rfl ?_
  refine Go.iconst (pc' := 11) (v := (2 : Int32)) d28_10 rfl rfl ?_
  refine Go.goto (pc' := 15) d28_11 (by decide) (by decide) ?_
  exact Go.retI rfl d28_15 ⟨rfl, rfl⟩ (by decide) (by decide)
theorem d29_0 : decode jdk_44_method_5_code 0 = .ok (.iload_n 1, 1) := by decide +kernel
theorem d29_1 : decode jdk_44_method_5_code 1 = .ok (.ifCond .ne 8, 3) := by decide +kernel
theorem d29_4 : decode jdk_44_method_5_code 4 = .ok (.aload_n 0, 1) := by decide +kernel
theorem d29_5 : decode jdk_44_method_5_code 5 = .ok (.getfield 13, 3) := by decide +kernel
theorem d29_8 : decode jdk_44_method_5_code 8 = .ok (.areturn, 1) := by decide +kernel
set_option maxRecDepth 65536 in
set_option maxHeartbeats 4000000 in
theorem c_l12Get0 (l : Launch) (Z : State) (a0 : Array Value) (hw : ∀ d ∈ tables_1, d.before a0 Z = true) {n0 : Nat} (h : Heap) (a : Addr) (e : Addr) (f : Fld Z h a "java/util/ImmutableCollections$List12" "e0" "Ljava/lang/Object;" (.ref e)) :
    Con l (⟨"java/util/ImmutableCollections$List12", "get", "(I)Ljava/lang/Object;"⟩ : MethodName) jdk_44_method_5_code 2 (some (.object "java/lang/Object")) ({ frames := 0, cells := 0, slots := 0, locals := 0 } : Room) Z n0 #[(.ref a), (.int (0 : Int32))] h (fun v h' => v = some (.ref e) ∧ h = h') := by
  refine Con.of_go (plainFor_of_name pn_8) (Ls := #[.val (.ref a), .val (.int (0 : Int32))]) (fun m => by first | (simp [entryFrame, mkF, argsToLocals, Value.category]; done) | rfl) ?_
  refine Go.iloadN (pc' := 1) d29_0 rfl rfl ?_
  refine Go.ifNo (pc' := 4) d29_1 (XT.i0_ne_f (by decide)) rfl ?_
  refine Go.aloadN (pc' := 5) d29_4 rfl rfl rfl ?_
  refine Go.getfield (pc' := 8) (host := "") (Or.inl (ww hw 114 rfl)) Via.refl f d29_5 rfl ?_
  exact Go.retR rfl rfl rfl rfl d29_8 ⟨rfl, rfl⟩ (by decide) (by decide)
theorem d29_9 : decode jdk_44_method_5_code 9 = .ok (.iload_n 1, 1) := by decide +kernel
theorem d29_10 : decode jdk_44_method_5_code 10 = .ok (.iconst 1, 1) := by decide +kernel
theorem d29_11 : decode jdk_44_method_5_code 11 = .ok (.if_icmp .ne 18, 3) := by decide +kernel
theorem d29_14 : decode jdk_44_method_5_code 14 = .ok (.aload_n 0, 1) := by decide +kernel
theorem d29_15 : decode jdk_44_method_5_code 15 = .ok (.getfield 24, 3) := by decide +kernel
theorem d29_18 : decode jdk_44_method_5_code 18 = .ok (.getstatic 19, 3) := by decide +kernel
theorem d29_21 : decode jdk_44_method_5_code 21 = .ok (.if_acmp .eq 8, 3) := by decide +kernel
theorem d29_24 : decode jdk_44_method_5_code 24 = .ok (.aload_n 0, 1) := by decide +kernel
theorem d29_25 : decode jdk_44_method_5_code 25 = .ok (.getfield 24, 3) := by decide +kernel
theorem d29_28 : decode jdk_44_method_5_code 28 = .ok (.areturn, 1) := by decide +kernel
set_option maxRecDepth 65536 in
set_option maxHeartbeats 4000000 in
theorem c_l12Get1 (l : Launch) (Z : State) (a0 : Array Value) (hw : ∀ d ∈ tables_1, d.before a0 Z = true) {n0 : Nat} (h : Heap) (a : Addr) (d : Addr) (wE : Addr) (se : Sta Z Z.heap "java/util/ImmutableCollections" "EMPTY" "Ljava/lang/Object;" (.ref wE)) (xE : Exa Z Z.heap wE "java/lang/Object") (ne_d_wE : d ≠ wE) (f : Fld Z h a "java/util/ImmutableCollections$List12" "e1" "Ljava/lang/Object;" (.ref d)) :
    Con l (⟨"java/util/ImmutableCollections$List12", "get", "(I)Ljava/lang/Object;"⟩ : MethodName) jdk_44_method_5_code 2 (some (.object "java/lang/Object")) ({ frames := 0, cells := 0, slots := 0, locals := 0 } : Room) Z n0 #[(.ref a), (.int (1 : Int32))] h (fun v h' => v = some (.ref d) ∧ h = h') := by
  refine Con.of_go (plainFor_of_name pn_8) (Ls := #[.val (.ref a), .val (.int (1 : Int32))]) (fun m => by first | (simp [entryFrame, mkF, argsToLocals, Value.category]; done) | rfl) ?_
  refine Go.iloadN (pc' := 1) d29_0 rfl rfl ?_
  refine Go.ifYes (pc' := 9) d29_1 (XT.i0_ne_t (by decide)) (by decide) (by decide) ?_
  refine Go.iloadN (pc' := 10) d29_9 rfl rfl ?_
  refine Go.iconst (pc' := 11) (v := (1 : Int32)) d29_10 rfl rfl ?_
  refine Go.icmpNo (pc' := 14) d29_11 (XT.ii_ne_f (by decide)) rfl ?_
  refine Go.aloadN (pc' := 15) d29_14 rfl rfl rfl ?_
  refine Go.getfield (pc' := 18) (host := "") (Or.inl (ww hw 117 rfl)) Via.refl f d29_15 rfl ?_
  refine Go.old (fun old1 => ?_)
  refine Go.getstatic (pc' := 21) (Or.inr (ww hw 116 rfl)) Via.refl (se.ext old1.2) d29_18 rfl ?_
  refine Go.acmpNo (pc' := 24) d29_21 rfl rfl (XT.aa_eq_f (fun q => ne_d_wE (Value.ref.inj q))) rfl ?_
  refine Go.aloadN (pc' := 25) d29_24 rfl rfl rfl ?_
  refine Go.getfield (pc' := 28) (host := "") (Or.inl (ww hw 117 rfl)) Via.refl f d29_25 rfl ?_
  exact Go.retR rfl rfl rfl rfl d29_28 ⟨rfl, rfl⟩ (by decide) (by decide)
theorem d27_0 : decode jdk_45_method_4_code 0 = .ok (.aload_n 0, 1) := by decide +kernel
theorem d27_1 : decode jdk_45_method_4_code 1 = .ok (.getfield 7, 3) := by decide +kernel
theorem d27_4 : decode jdk_45_method_4_code 4 = .ok (.iload_n 1, 1) := by decide +kernel
theorem d27_5 : decode jdk_45_method_4_code 5 = .ok (.aaload, 1) := by decide +kernel
theorem d27_6 : decode jdk_45_method_4_code 6 = .ok (.areturn, 1) := by decide +kernel
set_option maxRecDepth 65536 in
set_option maxHeartbeats 4000000 in
theorem c_lnGet3_0 (l : Launch) (Z : State) (a0 : Array Value) (hw : ∀ d ∈ tables_1, d.before a0 Z = true) {n0 : Nat} (h : Heap) (a : Addr) (c : Addr) (kc2 : ClassId) (e0 : Addr) (e1 : Addr) (e2 : Addr) (f : Fld Z h a "java/util/ImmutableCollections$ListN" "elements" "[Ljava/lang/Object;" (.ref c)) (v : Arv Z h c kc2 (.object "java/lang/Object") (3 : Int32) [(.ref e0), (.ref e1), (.ref e2)] .null) :
    Con l (⟨"java/util/ImmutableCollections$ListN", "get", "(I)Ljava/lang/Object;"⟩ : MethodName) jdk_45_method_4_code 2 (some (.object "java/lang/Object")) ({ frames := 0, cells := 0, slots := 0, locals := 0 } : Room) Z n0 #[(.ref a), (.int (0 : Int32))] h (fun v h' => v = some (.ref e0) ∧ h = h') := by
  refine Con.of_go (plainFor_of_name pn_9) (Ls := #[.val (.ref a), .val (.int (0 : Int32))]) (fun m => by first | (simp [entryFrame, mkF, argsToLocals, Value.category]; done) | rfl) ?_
  refine Go.aloadN (pc' := 1) d27_0 rfl rfl rfl ?_
  refine Go.getfield (pc' := 4) (host := "") (Or.inl (ww hw 71 rfl)) Via.refl f d27_1 rfl ?_
  refine Go.iloadN (pc' := 5) d27_4 rfl rfl ?_
  refine Go.aaload (pc' := 6) (v := (.ref e0)) v rfl d27_5 (by decide) (by decide) rfl rfl ?_
  exact Go.retR rfl rfl rfl rfl d27_6 ⟨rfl, rfl⟩ (by decide) (by decide)
set_option maxRecDepth 65536 in
set_option maxHeartbeats 4000000 in
theorem c_lnGet3_1 (l : Launch) (Z : State) (a0 : Array Value) (hw : ∀ d ∈ tables_1, d.before a0 Z = true) {n0 : Nat} (h : Heap) (a : Addr) (c : Addr) (kc2 : ClassId) (e0 : Addr) (e1 : Addr) (e2 : Addr) (f : Fld Z h a "java/util/ImmutableCollections$ListN" "elements" "[Ljava/lang/Object;" (.ref c)) (v : Arv Z h c kc2 (.object "java/lang/Object") (3 : Int32) [(.ref e0), (.ref e1), (.ref e2)] .null) :
    Con l (⟨"java/util/ImmutableCollections$ListN", "get", "(I)Ljava/lang/Object;"⟩ : MethodName) jdk_45_method_4_code 2 (some (.object "java/lang/Object")) ({ frames := 0, cells := 0, slots := 0, locals := 0 } : Room) Z n0 #[(.ref a), (.int (1 : Int32))] h (fun v h' => v = some (.ref e1) ∧ h = h') := by
  refine Con.of_go (plainFor_of_name pn_9) (Ls := #[.val (.ref a), .val (.int (1 : Int32))]) (fun m => by first | (simp [entryFrame, mkF, argsToLocals, Value.category]; done) | rfl) ?_
  refine Go.aloadN (pc' := 1) d27_0 rfl rfl rfl ?_
  refine Go.getfield (pc' := 4) (host := "") (Or.inl (ww hw 71 rfl)) Via.refl f d27_1 rfl ?_
  refine Go.iloadN (pc' := 5) d27_4 rfl rfl ?_
  refine Go.aaload (pc' := 6) (v := (.ref e1)) v rfl d27_5 (by decide) (by decide) rfl rfl ?_
  exact Go.retR rfl rfl rfl rfl d27_6 ⟨rfl, rfl⟩ (by decide) (by decide)
set_option maxRecDepth 65536 in
set_option maxHeartbeats 4000000 in
theorem c_lnGet3_2 (l : Launch) (Z : State) (a0 : Array Value) (hw : ∀ d ∈ tables_1, d.before a0 Z = true) {n0 : Nat} (h : Heap) (a : Addr) (c : Addr) (kc2 : ClassId) (e0 : Addr) (e1 : Addr) (e2 : Addr) (f : Fld Z h a "java/util/ImmutableCollections$ListN" "elements" "[Ljava/lang/Object;" (.ref c)) (v : Arv Z h c kc2 (.object "java/lang/Object") (3 : Int32) [(.ref e0), (.ref e1), (.ref e2)] .null) :
    Con l (⟨"java/util/ImmutableCollections$ListN", "get", "(I)Ljava/lang/Object;"⟩ : MethodName) jdk_45_method_4_code 2 (some (.object "java/lang/Object")) ({ frames := 0, cells := 0, slots := 0, locals := 0 } : Room) Z n0 #[(.ref a), (.int (2 : Int32))] h (fun v h' => v = some (.ref e2) ∧ h = h') := by
  refine Con.of_go (plainFor_of_name pn_9) (Ls := #[.val (.ref a), .val (.int (2 : Int32))]) (fun m => by first | (simp [entryFrame, mkF, argsToLocals, Value.category]; done) | rfl) ?_
  refine Go.aloadN (pc' := 1) d27_0 rfl rfl rfl ?_
  refine Go.getfield (pc' := 4) (host := "") (Or.inl (ww hw 71 rfl)) Via.refl f d27_1 rfl ?_
  refine Go.iloadN (pc' := 5) d27_4 rfl rfl ?_
  refine Go.aaload (pc' := 6) (v := (.ref e2)) v rfl d27_5 (by decide) (by decide) rfl rfl ?_
  exact Go.retR rfl rfl rfl rfl d27_6 ⟨rfl, rfl⟩ (by decide) (by decide)
set_option maxRecDepth 65536 in
set_option maxHeartbeats 4000000 in
theorem c_lnGet4_0 (l : Launch) (Z : State) (a0 : Array Value) (hw : ∀ d ∈ tables_1, d.before a0 Z = true) {n0 : Nat} (h : Heap) (a : Addr) (c : Addr) (kc2 : ClassId) (e0 : Addr) (e1 : Addr) (e2 : Addr) (e3 : Addr) (f : Fld Z h a "java/util/ImmutableCollections$ListN" "elements" "[Ljava/lang/Object;" (.ref c)) (v : Arv Z h c kc2 (.object "java/lang/Object") (4 : Int32) [(.ref e0), (.ref e1), (.ref e2), (.ref e3)] .null) :
    Con l (⟨"java/util/ImmutableCollections$ListN", "get", "(I)Ljava/lang/Object;"⟩ : MethodName) jdk_45_method_4_code 2 (some (.object "java/lang/Object")) ({ frames := 0, cells := 0, slots := 0, locals := 0 } : Room) Z n0 #[(.ref a), (.int (0 : Int32))] h (fun v h' => v = some (.ref e0) ∧ h = h') := by
  refine Con.of_go (plainFor_of_name pn_9) (Ls := #[.val (.ref a), .val (.int (0 : Int32))]) (fun m => by first | (simp [entryFrame, mkF, argsToLocals, Value.category]; done) | rfl) ?_
  refine Go.aloadN (pc' := 1) d27_0 rfl rfl rfl ?_
  refine Go.getfield (pc' := 4) (host := "") (Or.inl (ww hw 71 rfl)) Via.refl f d27_1 rfl ?_
  refine Go.iloadN (pc' := 5) d27_4 rfl rfl ?_
  refine Go.aaload (pc' := 6) (v := (.ref e0)) v rfl d27_5 (by decide) (by decide) rfl rfl ?_
  exact Go.retR rfl rfl rfl rfl d27_6 ⟨rfl, rfl⟩ (by decide) (by decide)
set_option maxRecDepth 65536 in
set_option maxHeartbeats 4000000 in
theorem c_lnGet4_1 (l : Launch) (Z : State) (a0 : Array Value) (hw : ∀ d ∈ tables_1, d.before a0 Z = true) {n0 : Nat} (h : Heap) (a : Addr) (c : Addr) (kc2 : ClassId) (e0 : Addr) (e1 : Addr) (e2 : Addr) (e3 : Addr) (f : Fld Z h a "java/util/ImmutableCollections$ListN" "elements" "[Ljava/lang/Object;" (.ref c)) (v : Arv Z h c kc2 (.object "java/lang/Object") (4 : Int32) [(.ref e0), (.ref e1), (.ref e2), (.ref e3)] .null) :
    Con l (⟨"java/util/ImmutableCollections$ListN", "get", "(I)Ljava/lang/Object;"⟩ : MethodName) jdk_45_method_4_code 2 (some (.object "java/lang/Object")) ({ frames := 0, cells := 0, slots := 0, locals := 0 } : Room) Z n0 #[(.ref a), (.int (1 : Int32))] h (fun v h' => v = some (.ref e1) ∧ h = h') := by
  refine Con.of_go (plainFor_of_name pn_9) (Ls := #[.val (.ref a), .val (.int (1 : Int32))]) (fun m => by first | (simp [entryFrame, mkF, argsToLocals, Value.category]; done) | rfl) ?_
  refine Go.aloadN (pc' := 1) d27_0 rfl rfl rfl ?_
  refine Go.getfield (pc' := 4) (host := "") (Or.inl (ww hw 71 rfl)) Via.refl f d27_1 rfl ?_
  refine Go.iloadN (pc' := 5) d27_4 rfl rfl ?_
  refine Go.aaload (pc' := 6) (v := (.ref e1)) v rfl d27_5 (by decide) (by decide) rfl rfl ?_
  exact Go.retR rfl rfl rfl rfl d27_6 ⟨rfl, rfl⟩ (by decide) (by decide)
set_option maxRecDepth 65536 in
set_option maxHeartbeats 4000000 in
theorem c_lnGet4_2 (l : Launch) (Z : State) (a0 : Array Value) (hw : ∀ d ∈ tables_1, d.before a0 Z = true) {n0 : Nat} (h : Heap) (a : Addr) (c : Addr) (kc2 : ClassId) (e0 : Addr) (e1 : Addr) (e2 : Addr) (e3 : Addr) (f : Fld Z h a "java/util/ImmutableCollections$ListN" "elements" "[Ljava/lang/Object;" (.ref c)) (v : Arv Z h c kc2 (.object "java/lang/Object") (4 : Int32) [(.ref e0), (.ref e1), (.ref e2), (.ref e3)] .null) :
    Con l (⟨"java/util/ImmutableCollections$ListN", "get", "(I)Ljava/lang/Object;"⟩ : MethodName) jdk_45_method_4_code 2 (some (.object "java/lang/Object")) ({ frames := 0, cells := 0, slots := 0, locals := 0 } : Room) Z n0 #[(.ref a), (.int (2 : Int32))] h (fun v h' => v = some (.ref e2) ∧ h = h') := by
  refine Con.of_go (plainFor_of_name pn_9) (Ls := #[.val (.ref a), .val (.int (2 : Int32))]) (fun m => by first | (simp [entryFrame, mkF, argsToLocals, Value.category]; done) | rfl) ?_
  refine Go.aloadN (pc' := 1) d27_0 rfl rfl rfl ?_
  refine Go.getfield (pc' := 4) (host := "") (Or.inl (ww hw 71 rfl)) Via.refl f d27_1 rfl ?_
  refine Go.iloadN (pc' := 5) d27_4 rfl rfl ?_
  refine Go.aaload (pc' := 6) (v := (.ref e2)) v rfl d27_5 (by decide) (by decide) rfl rfl ?_
  exact Go.retR rfl rfl rfl rfl d27_6 ⟨rfl, rfl⟩ (by decide) (by decide)
set_option maxRecDepth 65536 in
set_option maxHeartbeats 4000000 in
theorem c_lnGet4_3 (l : Launch) (Z : State) (a0 : Array Value) (hw : ∀ d ∈ tables_1, d.before a0 Z = true) {n0 : Nat} (h : Heap) (a : Addr) (c : Addr) (kc2 : ClassId) (e0 : Addr) (e1 : Addr) (e2 : Addr) (e3 : Addr) (f : Fld Z h a "java/util/ImmutableCollections$ListN" "elements" "[Ljava/lang/Object;" (.ref c)) (v : Arv Z h c kc2 (.object "java/lang/Object") (4 : Int32) [(.ref e0), (.ref e1), (.ref e2), (.ref e3)] .null) :
    Con l (⟨"java/util/ImmutableCollections$ListN", "get", "(I)Ljava/lang/Object;"⟩ : MethodName) jdk_45_method_4_code 2 (some (.object "java/lang/Object")) ({ frames := 0, cells := 0, slots := 0, locals := 0 } : Room) Z n0 #[(.ref a), (.int (3 : Int32))] h (fun v h' => v = some (.ref e3) ∧ h = h') := by
  refine Con.of_go (plainFor_of_name pn_9) (Ls := #[.val (.ref a), .val (.int (3 : Int32))]) (fun m => by first | (simp [entryFrame, mkF, argsToLocals, Value.category]; done) | rfl) ?_
  refine Go.aloadN (pc' := 1) d27_0 rfl rfl rfl ?_
  refine Go.getfield (pc' := 4) (host := "") (Or.inl (ww hw 71 rfl)) Via.refl f d27_1 rfl ?_
  refine Go.iloadN (pc' := 5) d27_4 rfl rfl ?_
  refine Go.aaload (pc' := 6) (v := (.ref e3)) v rfl d27_5 (by decide) (by decide) rfl rfl ?_
  exact Go.retR rfl rfl rfl rfl d27_6 ⟨rfl, rfl⟩ (by decide) (by decide)
theorem d11_0 : decode method_2_code 0 = .ok (.iload_n 2, 1) := by decide +kernel
theorem d11_1 : decode method_2_code 1 = .ok (.iload_n 1, 1) := by decide +kernel
theorem d11_2 : decode method_2_code 2 = .ok (.if_icmp .lt 5, 3) := by decide +kernel
theorem d11_5 : decode method_2_code 5 = .ok (.iconst 1, 1) := by decide +kernel
theorem d11_6 : decode method_2_code 6 = .ok (.ireturn, 1) := by decide +kernel
theorem pn_14 : plainName "com/example/wildmotif/wildmotif/match/OutcomeWitnessOfSingleNodesPinLaw" = true := by first | (simp [plainName, overriddenIn]; done) | decide +kernel
set_option maxRecDepth 65536 in
set_option maxHeartbeats 4000000 in
theorem c_at0_0 (l : Launch) (Z : State) (a0 : Array Value) (hw : ∀ d ∈ tables_1, d.before a0 Z = true) {n0 : Nat} (h : Heap) (r : Addr) (q : Int32) :
    Con l (⟨"com/example/wildmotif/wildmotif/match/OutcomeWitnessOfSingleNodesPinLaw", "at", "(Ljava/util/List;III)Z"⟩ : MethodName) method_2_code 5 (some .boolean) ({ frames := 0, cells := 0, slots := 0, locals := 0 } : Room) Z n0 #[(.ref r), (.int (0 : Int32)), (.int (0 : Int32)), (.int q)] h (fun v h' => v = some (.int (1 : Int32)) ∧ h = h') := by
  refine Con.of_go (plainFor_of_name pn_14) (Ls := #[.val (.ref r), .val (.int (0 : Int32)), .val (.int (0 : Int32)), .val (.int q), .unset]) (fun m => by first | (simp [entryFrame, mkF, argsToLocals, Value.category]; done) | rfl) ?_
  refine Go.iloadN (pc' := 1) d11_0 rfl rfl ?_
  refine Go.iloadN (pc' := 2) d11_1 rfl rfl ?_
  refine Go.icmpNo (pc' := 5) d11_2 (XT.ii_lt_f (by decide)) rfl ?_
  refine Go.iconst (pc' := 6) (v := (1 : Int32)) d11_5 rfl rfl ?_
  exact Go.retN (t := .boolean) rfl (by simp) d11_6 ⟨rfl, rfl⟩ (by decide) (by decide)
set_option maxRecDepth 65536 in
set_option maxHeartbeats 4000000 in
theorem c_at0_1 (l : Launch) (Z : State) (a0 : Array Value) (hw : ∀ d ∈ tables_1, d.before a0 Z = true) {n0 : Nat} (h : Heap) (r : Addr) (q : Int32) :
    Con l (⟨"com/example/wildmotif/wildmotif/match/OutcomeWitnessOfSingleNodesPinLaw", "at", "(Ljava/util/List;III)Z"⟩ : MethodName) method_2_code 5 (some .boolean) ({ frames := 0, cells := 0, slots := 0, locals := 0 } : Room) Z n0 #[(.ref r), (.int (0 : Int32)), (.int (1 : Int32)), (.int q)] h (fun v h' => v = some (.int (1 : Int32)) ∧ h = h') := by
  refine Con.of_go (plainFor_of_name pn_14) (Ls := #[.val (.ref r), .val (.int (0 : Int32)), .val (.int (1 : Int32)), .val (.int q), .unset]) (fun m => by first | (simp [entryFrame, mkF, argsToLocals, Value.category]; done) | rfl) ?_
  refine Go.iloadN (pc' := 1) d11_0 rfl rfl ?_
  refine Go.iloadN (pc' := 2) d11_1 rfl rfl ?_
  refine Go.icmpNo (pc' := 5) d11_2 (XT.ii_lt_f (by decide)) rfl ?_
  refine Go.iconst (pc' := 6) (v := (1 : Int32)) d11_5 rfl rfl ?_
  exact Go.retN (t := .boolean) rfl (by simp) d11_6 ⟨rfl, rfl⟩ (by decide) (by decide)
set_option maxRecDepth 65536 in
set_option maxHeartbeats 4000000 in
theorem c_at0_2 (l : Launch) (Z : State) (a0 : Array Value) (hw : ∀ d ∈ tables_1, d.before a0 Z = true) {n0 : Nat} (h : Heap) (r : Addr) (q : Int32) :
    Con l (⟨"com/example/wildmotif/wildmotif/match/OutcomeWitnessOfSingleNodesPinLaw", "at", "(Ljava/util/List;III)Z"⟩ : MethodName) method_2_code 5 (some .boolean) ({ frames := 0, cells := 0, slots := 0, locals := 0 } : Room) Z n0 #[(.ref r), (.int (0 : Int32)), (.int (2 : Int32)), (.int q)] h (fun v h' => v = some (.int (1 : Int32)) ∧ h = h') := by
  refine Con.of_go (plainFor_of_name pn_14) (Ls := #[.val (.ref r), .val (.int (0 : Int32)), .val (.int (2 : Int32)), .val (.int q), .unset]) (fun m => by first | (simp [entryFrame, mkF, argsToLocals, Value.category]; done) | rfl) ?_
  refine Go.iloadN (pc' := 1) d11_0 rfl rfl ?_
  refine Go.iloadN (pc' := 2) d11_1 rfl rfl ?_
  refine Go.icmpNo (pc' := 5) d11_2 (XT.ii_lt_f (by decide)) rfl ?_
  refine Go.iconst (pc' := 6) (v := (1 : Int32)) d11_5 rfl rfl ?_
  exact Go.retN (t := .boolean) rfl (by simp) d11_6 ⟨rfl, rfl⟩ (by decide) (by decide)
set_option maxRecDepth 65536 in
set_option maxHeartbeats 4000000 in
theorem c_at0_3 (l : Launch) (Z : State) (a0 : Array Value) (hw : ∀ d ∈ tables_1, d.before a0 Z = true) {n0 : Nat} (h : Heap) (r : Addr) (q : Int32) :
    Con l (⟨"com/example/wildmotif/wildmotif/match/OutcomeWitnessOfSingleNodesPinLaw", "at", "(Ljava/util/List;III)Z"⟩ : MethodName) method_2_code 5 (some .boolean) ({ frames := 0, cells := 0, slots := 0, locals := 0 } : Room) Z n0 #[(.ref r), (.int (0 : Int32)), (.int (3 : Int32)), (.int q)] h (fun v h' => v = some (.int (1 : Int32)) ∧ h = h') := by
  refine Con.of_go (plainFor_of_name pn_14) (Ls := #[.val (.ref r), .val (.int (0 : Int32)), .val (.int (3 : Int32)), .val (.int q), .unset]) (fun m => by first | (simp [entryFrame, mkF, argsToLocals, Value.category]; done) | rfl) ?_
  refine Go.iloadN (pc' := 1) d11_0 rfl rfl ?_
  refine Go.iloadN (pc' := 2) d11_1 rfl rfl ?_
  refine Go.icmpNo (pc' := 5) d11_2 (XT.ii_lt_f (by decide)) rfl ?_
  refine Go.iconst (pc' := 6) (v := (1 : Int32)) d11_5 rfl rfl ?_
  exact Go.retN (t := .boolean) rfl (by simp) d11_6 ⟨rfl, rfl⟩ (by decide) (by decide)
theorem d11_7 : decode method_2_code 7 = .ok (.aload_n 0, 1) := by decide +kernel
theorem d11_8 : decode method_2_code 8 = .ok (.iload_n 2, 1) := by decide +kernel
theorem d11_9 : decode method_2_code 9 = .ok (.invokeinterface 7 2, 5) := by decide +kernel
theorem d11_14 : decode method_2_code 14 = .ok (.checkcast 8, 3) := by decide +kernel
theorem d11_17 : decode method_2_code 17 = .ok (.astore 4, 2) := by decide +kernel
theorem d11_19 : decode method_2_code 19 = .ok (.aload 4, 2) := by decide +kernel
theorem d11_21 : decode method_2_code 21 = .ok (.invokeinterface 13 1, 5) := by decide +kernel
theorem d11_26 : decode method_2_code 26 = .ok (.iconst 1, 1) := by decide +kernel
theorem d11_27 : decode method_2_code 27 = .ok (.if_icmp .ne 25, 3) := by decide +kernel
theorem d11_30 : decode method_2_code 30 = .ok (.aload 4, 2) := by decide +kernel
theorem d11_32 : decode method_2_code 32 = .ok (.iconst 0, 1) := by decide +kernel
theorem d11_33 : decode method_2_code 33 = .ok (.invokeinterface 7 2, 5) := by decide +kernel
theorem d11_38 : decode method_2_code 38 = .ok (.checkcast 17, 3) := by decide +kernel
theorem d11_41 : decode method_2_code 41 = .ok (.invokevirtual 19, 3) := by decide +kernel
theorem d11_44 : decode method_2_code 44 = .ok (.iload_n 3, 1) := by decide +kernel
theorem d11_45 : decode method_2_code 45 = .ok (.if_icmp .ne 7, 3) := by decide +kernel
theorem d11_48 : decode method_2_code 48 = .ok (.iconst 1, 1) := by decide +kernel
theorem d11_49 : decode method_2_code 49 = .ok (.goto 4, 3) := by decide +kernel
theorem d11_53 : decode method_2_code 53 = .ok (.ireturn, 1) := by decide +kernel
theorem pd_18 : parseMethodDescriptor "(I)Ljava/lang/Object;" = some ⟨[.int], some (.object "java/lang/Object")⟩ := by decide +kernel
theorem pd_19 : parseMethodDescriptor "()I" = some ⟨[], some .int⟩ := by decide +kernel
set_option maxRecDepth 65536 in
set_option maxHeartbeats 4000000 in
theorem c_at1_0 (l : Launch) (Z : State) (a0 : Array Value) (hw : ∀ d ∈ tables_1, d.before a0 Z = true) {n0 : Nat} (h : Heap) (r : Addr) (q : Int32) (e0 : Addr) (g0 : Addr) (wE : Addr) (se : Sta Z Z.heap "java/util/ImmutableCollections" "EMPTY" "Ljava/lang/Object;" (.ref wE)) (xE : Exa Z Z.heap wE "java/lang/Object") (o0 : Exa Z h r "java/util/ImmutableCollections$List12") (o1 : Fld Z h r "java/util/ImmutableCollections$List12" "e0" "Ljava/lang/Object;" (.ref e0)) (o2 : Fld Z h r "java/util/ImmutableCollections$List12" "e1" "Ljava/lang/Object;" (.ref wE)) (in0 : Exa Z h e0 "java/util/ImmutableCollections$List12") (in1 : Fld Z h e0 "java/util/ImmutableCollections$List12" "e0" "Ljava/lang/Object;" (.ref g0)) (in2 : Fld Z h e0 "java/util/ImmutableCollections$List12" "e1" "Ljava/lang/Object;" (.ref wE)) (in3 : Exa Z h g0 "java/lang/Integer") (in4 : Fld Z h g0 "java/lang/Integer" "value" "I" (.int q)) :
    Con l (⟨"com/example/wildmotif/wildmotif/match/OutcomeWitnessOfSingleNodesPinLaw", "at", "(Ljava/util/List;III)Z"⟩ : MethodName) method_2_code 5 (some .boolean) ({ frames := 1, cells := 0, slots := 0, locals := 13 } : Room) Z n0 #[(.ref r), (.int (1 : Int32)), (.int (0 : Int32)), (.int q)] h (fun v h' => v = some (.int (1 : Int32)) ∧ h = h') := by
  refine Con.of_go (plainFor_of_name pn_14) (Ls := #[.val (.ref r), .val (.int (1 : Int32)), .val (.int (0 : Int32)), .val (.int q), .unset]) (fun m => by first | (simp [entryFrame, mkF, argsToLocals, Value.category]; done) | rfl) ?_
  refine Go.iloadN (pc' := 1) d11_0 rfl rfl ?_
  refine Go.iloadN (pc' := 2) d11_1 rfl rfl ?_
  refine Go.icmpYes (pc' := 7) d11_2 (XT.ii_lt_t (by decide)) (by decide) (by decide) ?_
  refine Go.aloadN (pc' := 8) d11_7 rfl rfl rfl ?_
  refine Go.iloadN (pc' := 9) d11_8 rfl rfl ?_
  refine Go.callI (cells' := 0) (slots' := 0) (pc' := 14) [(.int (0 : Int32))] [] o0 (ww hw 186 rfl) (ww hw 187 rfl) (ww hw 188 rfl) (ww hw 201 rfl) (ww hw 202 rfl) (ww hw 203 rfl) (ww hw 204 rfl) (ww hw 195 rfl) (ww hw 91 rfl) (ww hw 205 rfl) (by decide) (c_l12Get0 l Z a0 hw h r e0 o1) pd_18 rfl rfl rfl rfl rfl (nl rfl) (nl rfl) (nl rfl) (nl rfl) d11_9 rfl ?_
  rintro _ _ ⟨rfl, rfl⟩
  show Go _ _ _ _ _ _ _ _ _ _ _ _ 14 #[.val (.ref r), .val (.int (1 : Int32)), .val (.int (0 : Int32)), .val (.int q), .unset] [(.ref e0)]
  refine Go.castY (pc' := 17) (ww hw 194 rfl) (Ins.of_exa in0 (ww hw 195 rfl)) d11_14 rfl ?_
  refine Go.astore (pc' := 19) (Ls' := #[.val (.ref r), .val (.int (1 : Int32)), .val (.int (0 : Int32)), .val (.int q), .val (.ref e0)]) d11_17 rfl rfl rfl ?_
  refine Go.aload (pc' := 21) d11_19 rfl rfl rfl ?_
  refine Go.callI (cells' := 0) (slots' := 0) (pc' := 26) [] [] in0 (ww hw 61 rfl) (ww hw 62 rfl) (ww hw 63 rfl) (ww hw 196 rfl) (ww hw 197 rfl) (ww hw 198 rfl) (ww hw 199 rfl) (ww hw 195 rfl) (ww hw 91 rfl) (ww hw 200 rfl) (by decide) (c_l12Size1 l Z a0 hw h e0 wE se xE in2) pd_19 rfl rfl rfl rfl rfl (nl rfl) (nl rfl) (nl rfl) (nl rfl) d11_21 rfl ?_
  rintro _ _ ⟨rfl, rfl⟩
  show Go _ _ _ _ _ _ _ _ _ _ _ _ 26 #[.val (.ref r), .val (.int (1 : Int32)), .val (.int (0 : Int32)), .val (.int q), .val (.ref e0)] [(.int (1 : Int32))]
  refine Go.iconst (pc' := 27) (v := (1 : Int32)) d11_26 rfl rfl ?_
  refine Go.icmpNo (pc' := 30) d11_27 (XT.ii_ne_f (by decide)) rfl ?_
  refine Go.aload (pc' := 32) d11_30 rfl rfl rfl ?_
  refine Go.iconst (pc' := 33) (v := (0 : Int32)) d11_32 rfl rfl ?_
  refine Go.callI (cells' := 0) (slots' := 0) (pc' := 38) [(.int (0 : Int32))] [] in0 (ww hw 186 rfl) (ww hw 187 rfl) (ww hw 188 rfl) (ww hw 201 rfl) (ww hw 202 rfl) (ww hw 203 rfl) (ww hw 204 rfl) (ww hw 195 rfl) (ww hw 91 rfl) (ww hw 205 rfl) (by decide) (c_l12Get0 l Z a0 hw h e0 g0 in1) pd_18 rfl rfl rfl rfl rfl (nl rfl) (nl rfl) (nl rfl) (nl rfl) d11_33 rfl ?_
  rintro _ _ ⟨rfl, rfl⟩
  show Go _ _ _ _ _ _ _ _ _ _ _ _ 38 #[.val (.ref r), .val (.int (1 : Int32)), .val (.int (0 : Int32)), .val (.int q), .val (.ref e0)] [(.ref g0)]
  refine Go.castY (pc' := 41) (ww hw 206 rfl) (Ins.self in3) d11_38 rfl ?_
  refine Go.callV (cells' := 0) (slots' := 0) (pc' := 44) [] [] in3 (ww hw 208 rfl) (ww hw 209 rfl) (fun s' hs' => notFace_of_selects (args := #[]) (mvT hs' (ww hw 211 rfl))) (ww hw 211 rfl) (ww hw 210 rfl) (ww hw 81 rfl) (ww hw 212 rfl) (by decide) (c_intValue l Z a0 hw h g0 q in4) pd_19 rfl rfl rfl rfl rfl (nl rfl) (nl rfl) (nl rfl) (nl rfl) d11_41 rfl ?_
  rintro _ _ ⟨rfl, rfl⟩
  show Go _ _ _ _ _ _ _ _ _ _ _ _ 44 #[.val (.ref r), .val (.int (1 : Int32)), .val (.int (0 : Int32)), .val (.int q), .val (.ref e0)] [(.int q)]
  refine Go.iloadN (pc' := 45) d11_44 rfl rfl ?_
  refine Go.icmpNo (pc' := 48) d11_45 (XT.ii_ne_f rfl) rfl ?_
  refine Go.iconst (pc' := 49) (v := (1 : Int32)) d11_48 rfl rfl ?_
  refine Go.goto (pc' := 53) d11_49 (by decide) (by decide) ?_
  exact Go.retN (t := .boolean) rfl (by simp) d11_53 ⟨rfl, rfl⟩ (by decide) (by decide)
set_option maxRecDepth 65536 in
set_option maxHeartbeats 4000000 in
theorem c_at1_1 (l : Launch) (Z : State) (a0 : Array Value) (hw : ∀ d ∈ tables_1, d.before a0 Z = true) {n0 : Nat} (h : Heap) (r : Addr) (q : Int32) :
    Con l (⟨"com/example/wildmotif/wildmotif/match/OutcomeWitnessOfSingleNodesPinLaw", "at", "(Ljava/util/List;III)Z"⟩ : MethodName) method_2_code 5 (some .boolean) ({ frames := 0, cells := 0, slots := 0, locals := 0 } : Room) Z n0 #[(.ref r), (.int (1 : Int32)), (.int (1 : Int32)), (.int q)] h (fun v h' => v = some (.int (1 : Int32)) ∧ h = h') := by
  refine Con.of_go (plainFor_of_name pn_14) (Ls := #[.val (.ref r), .val (.int (1 : Int32)), .val (.int (1 : Int32)), .val (.int q), .unset]) (fun m => by first | (simp [entryFrame, mkF, argsToLocals, Value.category]; done) | rfl) ?_
  refine Go.iloadN (pc' := 1) d11_0 rfl rfl ?_
  refine Go.iloadN (pc' := 2) d11_1 rfl rfl ?_
  refine Go.icmpNo (pc' := 5) d11_2 (XT.ii_lt_f (by decide)) rfl ?_
  refine Go.iconst (pc' := 6) (v := (1 : Int32)) d11_5 rfl rfl ?_
  exact Go.retN (t := .boolean) rfl (by simp) d11_6 ⟨rfl, rfl⟩ (by decide) (by decide)
set_option maxRecDepth 65536 in
set_option maxHeartbeats 4000000 in
theorem c_at1_2 (l : Launch) (Z : State) (a0 : Array Value) (hw : ∀ d ∈ tables_1, d.before a0 Z = true) {n0 : Nat} (h : Heap) (r : Addr) (q : Int32) :
    Con l (⟨"com/example/wildmotif/wildmotif/match/OutcomeWitnessOfSingleNodesPinLaw", "at", "(Ljava/util/List;III)Z"⟩ : MethodName) method_2_code 5 (some .boolean) ({ frames := 0, cells := 0, slots := 0, locals := 0 } : Room) Z n0 #[(.ref r), (.int (1 : Int32)), (.int (2 : Int32)), (.int q)] h (fun v h' => v = some (.int (1 : Int32)) ∧ h = h') := by
  refine Con.of_go (plainFor_of_name pn_14) (Ls := #[.val (.ref r), .val (.int (1 : Int32)), .val (.int (2 : Int32)), .val (.int q), .unset]) (fun m => by first | (simp [entryFrame, mkF, argsToLocals, Value.category]; done) | rfl) ?_
  refine Go.iloadN (pc' := 1) d11_0 rfl rfl ?_
  refine Go.iloadN (pc' := 2) d11_1 rfl rfl ?_
  refine Go.icmpNo (pc' := 5) d11_2 (XT.ii_lt_f (by decide)) rfl ?_
  refine Go.iconst (pc' := 6) (v := (1 : Int32)) d11_5 rfl rfl ?_
  exact Go.retN (t := .boolean) rfl (by simp) d11_6 ⟨rfl, rfl⟩ (by decide) (by decide)
set_option maxRecDepth 65536 in
set_option maxHeartbeats 4000000 in
theorem c_at1_3 (l : Launch) (Z : State) (a0 : Array Value) (hw : ∀ d ∈ tables_1, d.before a0 Z = true) {n0 : Nat} (h : Heap) (r : Addr) (q : Int32) :
    Con l (⟨"com/example/wildmotif/wildmotif/match/OutcomeWitnessOfSingleNodesPinLaw", "at", "(Ljava/util/List;III)Z"⟩ : MethodName) method_2_code 5 (some .boolean) ({ frames := 0, cells := 0, slots := 0, locals := 0 } : Room) Z n0 #[(.ref r), (.int (1 : Int32)), (.int (3 : Int32)), (.int q)] h (fun v h' => v = some (.int (1 : Int32)) ∧ h = h') := by
  refine Con.of_go (plainFor_of_name pn_14) (Ls := #[.val (.ref r), .val (.int (1 : Int32)), .val (.int (3 : Int32)), .val (.int q), .unset]) (fun m => by first | (simp [entryFrame, mkF, argsToLocals, Value.category]; done) | rfl) ?_
  refine Go.iloadN (pc' := 1) d11_0 rfl rfl ?_
  refine Go.iloadN (pc' := 2) d11_1 rfl rfl ?_
  refine Go.icmpNo (pc' := 5) d11_2 (XT.ii_lt_f (by decide)) rfl ?_
  refine Go.iconst (pc' := 6) (v := (1 : Int32)) d11_5 rfl rfl ?_
  exact Go.retN (t := .boolean) rfl (by simp) d11_6 ⟨rfl, rfl⟩ (by decide) (by decide)
set_option maxRecDepth 65536 in
set_option maxHeartbeats 4000000 in
theorem c_at2_0 (l : Launch) (Z : State) (a0 : Array Value) (hw : ∀ d ∈ tables_1, d.before a0 Z = true) {n0 : Nat} (h : Heap) (r : Addr) (q : Int32) (e0 : Addr) (e1 : Addr) (g0 : Addr) (wE : Addr) (se : Sta Z Z.heap "java/util/ImmutableCollections" "EMPTY" "Ljava/lang/Object;" (.ref wE)) (xE : Exa Z Z.heap wE "java/lang/Object") (o0 : Exa Z h r "java/util/ImmutableCollections$List12") (o1 : Fld Z h r "java/util/ImmutableCollections$List12" "e0" "Ljava/lang/Object;" (.ref e0)) (o2 : Fld Z h r "java/util/ImmutableCollections$List12" "e1" "Ljava/lang/Object;" (.ref e1)) (in0 : Exa Z h e0 "java/util/ImmutableCollections$List12") (in1 : Fld Z h e0 "java/util/ImmutableCollections$List12" "e0" "Ljava/lang/Object;" (.ref g0)) (in2 : Fld Z h e0 "java/util/ImmutableCollections$List12" "e1" "Ljava/lang/Object;" (.ref wE)) (in3 : Exa Z h g0 "java/lang/Integer") (in4 : Fld Z h g0 "java/lang/Integer" "value" "I" (.int q)) :
    Con l (⟨"com/example/wildmotif/wildmotif/match/OutcomeWitnessOfSingleNodesPinLaw", "at", "(Ljava/util/List;III)Z"⟩ : MethodName) method_2_code 5 (some .boolean) ({ frames := 1, cells := 0, slots := 0, locals := 13 } : Room) Z n0 #[(.ref r), (.int (2 : Int32)), (.int (0 : Int32)), (.int q)] h (fun v h' => v = some (.int (1 : Int32)) ∧ h = h') := by
  refine Con.of_go (plainFor_of_name pn_14) (Ls := #[.val (.ref r), .val (.int (2 : Int32)), .val (.int (0 : Int32)), .val (.int q), .unset]) (fun m => by first | (simp [entryFrame, mkF, argsToLocals, Value.category]; done) | rfl) ?_
  refine Go.iloadN (pc' := 1) d11_0 rfl rfl ?_
  refine Go.iloadN (pc' := 2) d11_1 rfl rfl ?_
  refine Go.icmpYes (pc' := 7) d11_2 (XT.ii_lt_t (by decide)) (by decide) (by decide) ?_
  refine Go.aloadN (pc' := 8) d11_7 rfl rfl rfl ?_
  refine Go.iloadN (pc' := 9) d11_8 rfl rfl ?_
  refine Go.callI (cells' := 0) (slots' := 0) (pc' := 14) [(.int (0 : Int32))] [] o0 (ww hw 186 rfl) (ww hw 187 rfl) (ww hw 188 rfl) (ww hw 201 rfl) (ww hw 202 rfl) (ww hw 203 rfl) (ww hw 204 rfl) (ww hw 195 rfl) (ww hw 91 rfl) (ww hw 205 rfl) (by decide) (c_l12Get0 l Z a0 hw h r e0 o1) pd_18 rfl rfl rfl rfl rfl (nl rfl) (nl rfl) (nl rfl) (nl rfl) d11_9 rfl ?_
  rintro _ _ ⟨rfl, rfl⟩
  show Go _ _ _ _ _ _ _ _ _ _ _ _ 14 #[.val (.ref r), .val (.int (2 : Int32)), .val (.int (0 : Int32)), .val (.int q), .unset] [(.ref e0)]
  refine Go.castY (pc' := 17) (ww hw 194 rfl) (Ins.of_exa in0 (ww hw 195 rfl)) d11_14 rfl ?_
  refine Go.astore (pc' := 19) (Ls' := #[.val (.ref r), .val (.int (2 : Int32)), .val (.int (0 : Int32)), .val (.int q), .val (.ref e0)]) d11_17 rfl rfl rfl ?_
  refine Go.aload (pc' := 21) d11_19 rfl rfl rfl ?_
  refine Go.callI (cells' := 0) (slots' := 0) (pc' := 26) [] [] in0 (ww hw 61 rfl) (ww hw 62 rfl) (ww hw 63 rfl) (ww hw 196 rfl) (ww hw 197 rfl) (ww hw 198 rfl) (ww hw 199 rfl) (ww hw 195 rfl) (ww hw 91 rfl) (ww hw 200 rfl) (by decide) (c_l12Size1 l Z a0 hw h e0 wE se xE in2) pd_19 rfl rfl rfl rfl rfl (nl rfl) (nl rfl) (nl rfl) (nl rfl) d11_21 rfl ?_
  rintro _ _ ⟨rfl, rfl⟩
  show Go _ _ _ _ _ _ _ _ _ _ _ _ 26 #[.val (.ref r), .val (.int (2 : Int32)), .val (.int (0 : Int32)), .val (.int q), .val (.ref e0)] [(.int (1 : Int32))]
  refine Go.iconst (pc' := 27) (v := (1 : Int32)) d11_26 rfl rfl ?_
  refine Go.icmpNo (pc' := 30) d11_27 (XT.ii_ne_f (by decide)) rfl ?_
  refine Go.aload (pc' := 32) d11_30 rfl rfl rfl ?_
  refine Go.iconst (pc' := 33) (v := (0 : Int32)) d11_32 rfl rfl ?_
  refine Go.callI (cells' := 0) (slots' := 0) (pc' := 38) [(.int (0 : Int32))] [] in0 (ww hw 186 rfl) (ww hw 187 rfl) (ww hw 188 rfl) (ww hw 201 rfl) (ww hw 202 rfl) (ww hw 203 rfl) (ww hw 204 rfl) (ww hw 195 rfl) (ww hw 91 rfl) (ww hw 205 rfl) (by decide) (c_l12Get0 l Z a0 hw h e0 g0 in1) pd_18 rfl rfl rfl rfl rfl (nl rfl) (nl rfl) (nl rfl) (nl rfl) d11_33 rfl ?_
  rintro _ _ ⟨rfl, rfl⟩
  show Go _ _ _ _ _ _ _ _ _ _ _ _ 38 #[.val (.ref r), .val (.int (2 : Int32)), .val (.int (0 : Int32)), .val (.int q), .val (.ref e0)] [(.ref g0)]
  refine Go.castY (pc' := 41) (ww hw 206 rfl) (Ins.self in3) d11_38 rfl ?_
  refine Go.callV (cells' := 0) (slots' := 0) (pc' := 44) [] [] in3 (ww hw 208 rfl) (ww hw 209 rfl) (fun s' hs' => notFace_of_selects (args := #[]) (mvT hs' (ww hw 211 rfl))) (ww hw 211 rfl) (ww hw 210 rfl) (ww hw 81 rfl) (ww hw 212 rfl) (by decide) (c_intValue l Z a0 hw h g0 q in4) pd_19 rfl rfl rfl rfl rfl (nl rfl) (nl rfl) (nl rfl) (nl rfl) d11_41 rfl ?_
  rintro _ _ ⟨rfl, rfl⟩
  show Go _ _ _ _ _ _ _ _ _ _ _ _ 44 #[.val (.ref r), .val (.int (2 : Int32)), .val (.int (0 : Int32)), .val (.int q), .val (.ref e0)] [(.int q)]
  refine Go.iloadN (pc' := 45) d11_44 rfl rfl ?_
  refine Go.icmpNo (pc' := 48) d11_45 (XT.ii_ne_f rfl) rfl ?_
  refine Go.iconst (pc' := 49) (v := (1 : Int32)) d11_48 rfl rfl ?_
  refine Go.goto (pc' := 53) d11_49 (by decide) (by decide) ?_
  exact Go.retN (t := .boolean) rfl (by simp) d11_53 ⟨rfl, rfl⟩ (by decide) (by decide)
set_option maxRecDepth 65536 in
set_option maxHeartbeats 4000000 in
theorem c_at2_1 (l : Launch) (Z : State) (a0 : Array Value) (hw : ∀ d ∈ tables_1, d.before a0 Z = true) {n0 : Nat} (h : Heap) (r : Addr) (q : Int32) (e0 : Addr) (e1 : Addr) (g1 : Addr) (wE : Addr) (se : Sta Z Z.heap "java/util/ImmutableCollections" "EMPTY" "Ljava/lang/Object;" (.ref wE)) (xE : Exa Z Z.heap wE "java/lang/Object") (o0 : Exa Z h r "java/util/ImmutableCollections$List12") (o1 : Fld Z h r "java/util/ImmutableCollections$List12" "e0" "Ljava/lang/Object;" (.ref e0)) (o2 : Fld Z h r "java/util/ImmutableCollections$List12" "e1" "Ljava/lang/Object;" (.ref e1)) (in0 : Exa Z h e1 "java/util/ImmutableCollections$List12") (in1 : Fld Z h e1 "java/util/ImmutableCollections$List12" "e0" "Ljava/lang/Object;" (.ref g1)) (in2 : Fld Z h e1 "java/util/ImmutableCollections$List12" "e1" "Ljava/lang/Object;" (.ref wE)) (in3 : Exa Z h g1 "java/lang/Integer") (in4 : Fld Z h g1 "java/lang/Integer" "value" "I" (.int q)) :
    Con l (⟨"com/example/wildmotif/wildmotif/match/OutcomeWitnessOfSingleNodesPinLaw", "at", "(Ljava/util/List;III)Z"⟩ : MethodName) method_2_code 5 (some .boolean) ({ frames := 1, cells := 0, slots := 0, locals := 13 } : Room) Z n0 #[(.ref r), (.int (2 : Int32)), (.int (1 : Int32)), (.int q)] h (fun v h' => v = some (.int (1 : Int32)) ∧ h = h') := by
  refine Con.of_go (plainFor_of_name pn_14) (Ls := #[.val (.ref r), .val (.int (2 : Int32)), .val (.int (1 : Int32)), .val (.int q), .unset]) (fun m => by first | (simp [entryFrame, mkF, argsToLocals, Value.category]; done) | rfl) ?_
  refine Go.iloadN (pc' := 1) d11_0 rfl rfl ?_
  refine Go.iloadN (pc' := 2) d11_1 rfl rfl ?_
  refine Go.icmpYes (pc' := 7) d11_2 (XT.ii_lt_t (by decide)) (by decide) (by decide) ?_
  refine Go.aloadN (pc' := 8) d11_7 rfl rfl rfl ?_
  refine Go.iloadN (pc' := 9) d11_8 rfl rfl ?_
  refine Go.old (fun old1 => ?_)
  have ne2 : e1 ≠ wE := ne_exa in0 (xE.ext old1.2) (by decide)
  refine Go.callI (cells' := 0) (slots' := 0) (pc' := 14) [(.int (1 : Int32))] [] o0 (ww hw 186 rfl) (ww hw 187 rfl) (ww hw 188 rfl) (ww hw 201 rfl) (ww hw 202 rfl) (ww hw 203 rfl) (ww hw 204 rfl) (ww hw 195 rfl) (ww hw 91 rfl) (ww hw 205 rfl) (by decide) (c_l12Get1 l Z a0 hw h r e1 wE se xE ne2 o2) pd_18 rfl rfl rfl rfl rfl (nl rfl) (nl rfl) (nl rfl) (nl rfl) d11_9 rfl ?_
  rintro _ _ ⟨rfl, rfl⟩
  show Go _ _ _ _ _ _ _ _ _ _ _ _ 14 #[.val (.ref r), .val (.int (2 : Int32)), .val (.int (1 : Int32)), .val (.int q), .unset] [(.ref e1)]
  refine Go.castY (pc' := 17) (ww hw 194 rfl) (Ins.of_exa in0 (ww hw 195 rfl)) d11_14 rfl ?_
  refine Go.astore (pc' := 19) (Ls' := #[.val (.ref r), .val (.int (2 : Int32)), .val (.int (1 : Int32)), .val (.int q), .val (.ref e1)]) d11_17 rfl rfl rfl ?_
  refine Go.aload (pc' := 21) d11_19 rfl rfl rfl ?_
  refine Go.callI (cells' := 0) (slots' := 0) (pc' := 26) [] [] in0 (ww hw 61 rfl) (ww hw 62 rfl) (ww hw 63 rfl) (ww hw 196 rfl) (ww hw 197 rfl) (ww hw 198 rfl) (ww hw 199 rfl) (ww hw 195 rfl) (ww hw 91 rfl) (ww hw 200 rfl) (by decide) (c_l12Size1 l Z a0 hw h e1 wE se xE in2) pd_19 rfl rfl rfl rfl rfl (nl rfl) (nl rfl) (nl rfl) (nl rfl) d11_21 rfl ?_
  rintro _ _ ⟨rfl, rfl⟩
  show Go _ _ _ _ _ _ _ _ _ _ _ _ 26 #[.val (.ref r), .val (.int (2 : Int32)), .val (.int (1 : Int32)), .val (.int q), .val (.ref e1)] [(.int (1 : Int32))]
  refine Go.iconst (pc' := 27) (v := (1 : Int32)) d11_26 rfl rfl ?_
  refine Go.icmpNo (pc' := 30) d11_27 (XT.ii_ne_f (by decide)) rfl ?_
  refine Go.aload (pc' := 32) d11_30 rfl rfl rfl ?_
  refine Go.iconst (pc' := 33) (v := (0 : Int32)) d11_32 rfl rfl ?_
  refine Go.callI (cells' := 0) (slots' := 0) (pc' := 38) [(.int (0 : Int32))] [] in0 (ww hw 186 rfl) (ww hw 187 rfl) (ww hw 188 rfl) (ww hw 201 rfl) (ww hw 202 rfl) (ww hw 203 rfl) (ww hw 204 rfl) (ww hw 195 rfl) (ww hw 91 rfl) (ww hw 205 rfl) (by decide) (c_l12Get0 l Z a0 hw h e1 g1 in1) pd_18 rfl rfl rfl rfl rfl (nl rfl) (nl rfl) (nl rfl) (nl rfl) d11_33 rfl ?_
  rintro _ _ ⟨rfl, rfl⟩
  show Go _ _ _ _ _ _ _ _ _ _ _ _ 38 #[.val (.ref r), .val (.int (2 : Int32)), .val (.int (1 : Int32)), .val (.int q), .val (.ref e1)] [(.ref g1)]
  refine Go.castY (pc' := 41) (ww hw 206 rfl) (Ins.self in3) d11_38 rfl ?_
  refine Go.callV (cells' := 0) (slots' := 0) (pc' := 44) [] [] in3 (ww hw 208 rfl) (ww hw 209 rfl) (fun s' hs' => notFace_of_selects (args := #[]) (mvT hs' (ww hw 211 rfl))) (ww hw 211 rfl) (ww hw 210 rfl) (ww hw 81 rfl) (ww hw 212 rfl) (by decide) (c_intValue l Z a0 hw h g1 q in4) pd_19 rfl rfl rfl rfl rfl (nl rfl) (nl rfl) (nl rfl) (nl rfl) d11_41 rfl ?_
  rintro _ _ ⟨rfl, rfl⟩
  show Go _ _ _ _ _ _ _ _ _ _ _ _ 44 #[.val (.ref r), .val (.int (2 : Int32)), .val (.int (1 : Int32)), .val (.int q), .val (.ref e1)] [(.int q)]
  refine Go.iloadN (pc' := 45) d11_44 rfl rfl ?_
  refine Go.icmpNo (pc' := 48) d11_45 (XT.ii_ne_f rfl) rfl ?_
  refine Go.iconst (pc' := 49) (v := (1 : Int32)) d11_48 rfl rfl ?_
  refine Go.goto (pc' := 53) d11_49 (by decide) (by decide) ?_
  exact Go.retN (t := .boolean) rfl (by simp) d11_53 ⟨rfl, rfl⟩ (by decide) (by decide)
set_option maxRecDepth 65536 in
set_option maxHeartbeats 4000000 in
theorem c_at2_2 (l : Launch) (Z : State) (a0 : Array Value) (hw : ∀ d ∈ tables_1, d.before a0 Z = true) {n0 : Nat} (h : Heap) (r : Addr) (q : Int32) :
    Con l (⟨"com/example/wildmotif/wildmotif/match/OutcomeWitnessOfSingleNodesPinLaw", "at", "(Ljava/util/List;III)Z"⟩ : MethodName) method_2_code 5 (some .boolean) ({ frames := 0, cells := 0, slots := 0, locals := 0 } : Room) Z n0 #[(.ref r), (.int (2 : Int32)), (.int (2 : Int32)), (.int q)] h (fun v h' => v = some (.int (1 : Int32)) ∧ h = h') := by
  refine Con.of_go (plainFor_of_name pn_14) (Ls := #[.val (.ref r), .val (.int (2 : Int32)), .val (.int (2 : Int32)), .val (.int q), .unset]) (fun m => by first | (simp [entryFrame, mkF, argsToLocals, Value.category]; done) | rfl) ?_
  refine Go.iloadN (pc' := 1) d11_0 rfl rfl ?_
  refine Go.iloadN (pc' := 2) d11_1 rfl rfl ?_
  refine Go.icmpNo (pc' := 5) d11_2 (XT.ii_lt_f (by decide)) rfl ?_
  refine Go.iconst (pc' := 6) (v := (1 : Int32)) d11_5 rfl rfl ?_
  exact Go.retN (t := .boolean) rfl (by simp) d11_6 ⟨rfl, rfl⟩ (by decide) (by decide)
set_option maxRecDepth 65536 in
set_option maxHeartbeats 4000000 in
theorem c_at2_3 (l : Launch) (Z : State) (a0 : Array Value) (hw : ∀ d ∈ tables_1, d.before a0 Z = true) {n0 : Nat} (h : Heap) (r : Addr) (q : Int32) :
    Con l (⟨"com/example/wildmotif/wildmotif/match/OutcomeWitnessOfSingleNodesPinLaw", "at", "(Ljava/util/List;III)Z"⟩ : MethodName) method_2_code 5 (some .boolean) ({ frames := 0, cells := 0, slots := 0, locals := 0 } : Room) Z n0 #[(.ref r), (.int (2 : Int32)), (.int (3 : Int32)), (.int q)] h (fun v h' => v = some (.int (1 : Int32)) ∧ h = h') := by
  refine Con.of_go (plainFor_of_name pn_14) (Ls := #[.val (.ref r), .val (.int (2 : Int32)), .val (.int (3 : Int32)), .val (.int q), .unset]) (fun m => by first | (simp [entryFrame, mkF, argsToLocals, Value.category]; done) | rfl) ?_
  refine Go.iloadN (pc' := 1) d11_0 rfl rfl ?_
  refine Go.iloadN (pc' := 2) d11_1 rfl rfl ?_
  refine Go.icmpNo (pc' := 5) d11_2 (XT.ii_lt_f (by decide)) rfl ?_
  refine Go.iconst (pc' := 6) (v := (1 : Int32)) d11_5 rfl rfl ?_
  exact Go.retN (t := .boolean) rfl (by simp) d11_6 ⟨rfl, rfl⟩ (by decide) (by decide)
set_option maxRecDepth 65536 in
set_option maxHeartbeats 4000000 in
theorem c_at3_0 (l : Launch) (Z : State) (a0 : Array Value) (hw : ∀ d ∈ tables_1, d.before a0 Z = true) {n0 : Nat} (h : Heap) (r : Addr) (q : Int32) (c : Addr) (kc2 : ClassId) (e0 : Addr) (e1 : Addr) (e2 : Addr) (g0 : Addr) (wE : Addr) (se : Sta Z Z.heap "java/util/ImmutableCollections" "EMPTY" "Ljava/lang/Object;" (.ref wE)) (xE : Exa Z Z.heap wE "java/lang/Object") (o0 : Exa Z h r "java/util/ImmutableCollections$ListN") (o1 : Fld Z h r "java/util/ImmutableCollections$ListN" "elements" "[Ljava/lang/Object;" (.ref c)) (o2 : Arv Z h c kc2 (.object "java/lang/Object") (3 : Int32) [(.ref e0), (.ref e1), (.ref e2)] .null) (in0 : Exa Z h e0 "java/util/ImmutableCollections$List12") (in1 : Fld Z h e0 "java/util/ImmutableCollections$List12" "e0" "Ljava/lang/Object;" (.ref g0)) (in2 : Fld Z h e0 "java/util/ImmutableCollections$List12" "e1" "Ljava/lang/Object;" (.ref wE)) (in3 : Exa Z h g0 "java/lang/Integer") (in4 : Fld Z h g0 "java/lang/Integer" "value" "I" (.int q)) :
    Con l (⟨"com/example/wildmotif/wildmotif/match/OutcomeWitnessOfSingleNodesPinLaw", "at", "(Ljava/util/List;III)Z"⟩ : MethodName) method_2_code 5 (some .boolean) ({ frames := 1, cells := 0, slots := 0, locals := 13 } : Room) Z n0 #[(.ref r), (.int (3 : Int32)), (.int (0 : Int32)), (.int q)] h (fun v h' => v = some (.int (1 : Int32)) ∧ h = h') := by
  refine Con.of_go (plainFor_of_name pn_14) (Ls := #[.val (.ref r), .val (.int (3 : Int32)), .val (.int (0 : Int32)), .val (.int q), .unset]) (fun m => by first | (simp [entryFrame, mkF, argsToLocals, Value.category]; done) | rfl) ?_
  refine Go.iloadN (pc' := 1) d11_0 rfl rfl ?_
  refine Go.iloadN (pc' := 2) d11_1 rfl rfl ?_
  refine Go.icmpYes (pc' := 7) d11_2 (XT.ii_lt_t (by decide)) (by decide) (by decide) ?_
  refine Go.aloadN (pc' := 8) d11_7 rfl rfl rfl ?_
  refine Go.iloadN (pc' := 9) d11_8 rfl rfl ?_
  refine Go.callI (cells' := 0) (slots' := 0) (pc' := 14) [(.int (0 : Int32))] [] o0 (ww hw 186 rfl) (ww hw 187 rfl) (ww hw 188 rfl) (ww hw 189 rfl) (ww hw 190 rfl) (ww hw 191 rfl) (ww hw 192 rfl) (ww hw 68 rfl) (ww hw 69 rfl) (ww hw 193 rfl) (by decide) (c_lnGet3_0 l Z a0 hw h r c kc2 e0 e1 e2 o1 o2) pd_18 rfl rfl rfl rfl rfl (nl rfl) (nl rfl) (nl rfl) (nl rfl) d11_9 rfl ?_
  rintro _ _ ⟨rfl, rfl⟩
  show Go _ _ _ _ _ _ _ _ _ _ _ _ 14 #[.val (.ref r), .val (.int (3 : Int32)), .val (.int (0 : Int32)), .val (.int q), .unset] [(.ref e0)]
  refine Go.castY (pc' := 17) (ww hw 194 rfl) (Ins.of_exa in0 (ww hw 195 rfl)) d11_14 rfl ?_
  refine Go.astore (pc' := 19) (Ls' := #[.val (.ref r), .val (.int (3 : Int32)), .val (.int (0 : Int32)), .val (.int q), .val (.ref e0)]) d11_17 rfl rfl rfl ?_
  refine Go.aload (pc' := 21) d11_19 rfl rfl rfl ?_
  refine Go.callI (cells' := 0) (slots' := 0) (pc' := 26) [] [] in0 (ww hw 61 rfl) (ww hw 62 rfl) (ww hw 63 rfl) (ww hw 196 rfl) (ww hw 197 rfl) (ww hw 198 rfl) (ww hw 199 rfl) (ww hw 195 rfl) (ww hw 91 rfl) (ww hw 200 rfl) (by decide) (c_l12Size1 l Z a0 hw h e0 wE se xE in2) pd_19 rfl rfl rfl rfl rfl (nl rfl) (nl rfl) (nl rfl) (nl rfl) d11_21 rfl ?_
  rintro _ _ ⟨rfl, rfl⟩
  show Go _ _ _ _ _ _ _ _ _ _ _ _ 26 #[.val (.ref r), .val (.int (3 : Int32)), .val (.int (0 : Int32)), .val (.int q), .val (.ref e0)] [(.int (1 : Int32))]
  refine Go.iconst (pc' := 27) (v := (1 : Int32)) d11_26 rfl rfl ?_
  refine Go.icmpNo (pc' := 30) d11_27 (XT.ii_ne_f (by decide)) rfl ?_
  refine Go.aload (pc' := 32) d11_30 rfl rfl rfl ?_
  refine Go.iconst (pc' := 33) (v := (0 : Int32)) d11_32 rfl rfl ?_
  refine Go.callI (cells' := 0) (slots' := 0) (pc' := 38) [(.int (0 : Int32))] [] in0 (ww hw 186 rfl) (ww hw 187 rfl) (ww hw 188 rfl) (ww hw 201 rfl) (ww hw 202 rfl) (ww hw 203 rfl) (ww hw 204 rfl) (ww hw 195 rfl) (ww hw 91 rfl) (ww hw 205 rfl) (by decide) (c_l12Get0 l Z a0 hw h e0 g0 in1) pd_18 rfl rfl rfl rfl rfl (nl rfl) (nl rfl) (nl rfl) (nl rfl) d11_33 rfl ?_
  rintro _ _ ⟨rfl, rfl⟩
  show Go _ _ _ _ _ _ _ _ _ _ _ _ 38 #[.val (.ref r), .val (.int (3 : Int32)), .val (.int (0 : Int32)), .val (.int q), .val (.ref e0)] [(.ref g0)]
  refine Go.castY (pc' := 41) (ww hw 206 rfl) (Ins.self in3) d11_38 rfl ?_
  refine Go.callV (cells' := 0) (slots' := 0) (pc' := 44) [] [] in3 (ww hw 208 rfl) (ww hw 209 rfl) (fun s' hs' => notFace_of_selects (args := #[]) (mvT hs' (ww hw 211 rfl))) (ww hw 211 rfl) (ww hw 210 rfl) (ww hw 81 rfl) (ww hw 212 rfl) (by decide) (c_intValue l Z a0 hw h g0 q in4) pd_19 rfl rfl rfl rfl rfl (nl rfl) (nl rfl) (nl rfl) (nl rfl) d11_41 rfl ?_
  rintro _ _ ⟨rfl, rfl⟩
  show Go _ _ _ _ _ _ _ _ _ _ _ _ 44 #[.val (.ref r), .val (.int (3 : Int32)), .val (.int (0 : Int32)), .val (.int q), .val (.ref e0)] [(.int q)]
  refine Go.iloadN (pc' := 45) d11_44 rfl rfl ?_
  refine Go.icmpNo (pc' := 48) d11_45 (XT.ii_ne_f rfl) rfl ?_
  refine Go.iconst (pc' := 49) (v := (1 : Int32)) d11_48 rfl rfl ?_
  refine Go.goto (pc' := 53) d11_49 (by decide) (by decide) ?_
  exact Go.retN (t := .boolean) rfl (by simp) d11_53 ⟨rfl, rfl⟩ (by decide) (by decide)
set_option maxRecDepth 65536 in
set_option maxHeartbeats 4000000 in
theorem c_at3_1 (l : Launch) (Z : State) (a0 : Array Value) (hw : ∀ d ∈ tables_1, d.before a0 Z = true) {n0 : Nat} (h : Heap) (r : Addr) (q : Int32) (c : Addr) (kc2 : ClassId) (e0 : Addr) (e1 : Addr) (e2 : Addr) (g1 : Addr) (wE : Addr) (se : Sta Z Z.heap "java/util/ImmutableCollections" "EMPTY" "Ljava/lang/Object;" (.ref wE)) (xE : Exa Z Z.heap wE "java/lang/Object") (o0 : Exa Z h r "java/util/ImmutableCollections$ListN") (o1 : Fld Z h r "java/util/ImmutableCollections$ListN" "elements" "[Ljava/lang/Object;" (.ref c)) (o2 : Arv Z h c kc2 (.object "java/lang/Object") (3 : Int32) [(.ref e0), (.ref e1), (.ref e2)] .null) (in0 : Exa Z h e1 "java/util/ImmutableCollections$List12") (in1 : Fld Z h e1 "java/util/ImmutableCollections$List12" "e0" "Ljava/lang/Object;" (.ref g1)) (in2 : Fld Z h e1 "java/util/ImmutableCollections$List12" "e1" "Ljava/lang/Object;" (.ref wE)) (in3 : Exa Z h g1 "java/lang/Integer") (in4 : Fld Z h g1 "java/lang/Integer" "value" "I" (.int q)) :
    Con l (⟨"com/example/wildmotif/wildmotif/match/OutcomeWitnessOfSingleNodesPinLaw", "at", "(Ljava/util/List;III)Z"⟩ : MethodName) method_2_code 5 (some .boolean) ({ frames := 1, cells := 0, slots := 0, locals := 13 } : Room) Z n0 #[(.ref r), (.int (3 : Int32)), (.int (1 : Int32)), (.int q)] h (fun v h' => v = some (.int (1 : Int32)) ∧ h = h') := by
  refine Con.of_go (plainFor_of_name pn_14) (Ls := #[.val (.ref r), .val (.int (3 : Int32)), .val (.int (1 : Int32)), .val (.int q), .unset]) (fun m => by first | (simp [entryFrame, mkF, argsToLocals, Value.category]; done) | rfl) ?_
  refine Go.iloadN (pc' := 1) d11_0 rfl rfl ?_
  refine Go.iloadN (pc' := 2) d11_1 rfl rfl ?_
  refine Go.icmpYes (pc' := 7) d11_2 (XT.ii_lt_t (by decide)) (by decide) (by decide) ?_
  refine Go.aloadN (pc' := 8) d11_7 rfl rfl rfl ?_
  refine Go.iloadN (pc' := 9) d11_8 rfl rfl ?_
  refine Go.callI (cells' := 0) (slots' := 0) (pc' := 14) [(.int (1 : Int32))] [] o0 (ww hw 186 rfl) (ww hw 187 rfl) (ww hw 188 rfl) (ww hw 189 rfl) (ww hw 190 rfl) (ww hw 191 rfl) (ww hw 192 rfl) (ww hw 68 rfl) (ww hw 69 rfl) (ww hw 193 rfl) (by decide) (c_lnGet3_1 l Z a0 hw h r c kc2 e0 e1 e2 o1 o2) pd_18 rfl rfl rfl rfl rfl (nl rfl) (nl rfl) (nl rfl) (nl rfl) d11_9 rfl ?_
  rintro _ _ ⟨rfl, rfl⟩
  show Go _ _ _ _ _ _ _ _ _ _ _ _ 14 #[.val (.ref r), .val (.int (3 : Int32)), .val (.int (1 : Int32)), .val (.int q), .unset] [(.ref e1)]
  refine Go.castY (pc' := 17) (ww hw 194 rfl) (Ins.of_exa in0 (ww hw 195 rfl)) d11_14 rfl ?_
  refine Go.astore (pc' := 19) (Ls' := #[.val (.ref r), .val (.int (3 : Int32)), .val (.int (1 : Int32)), .val (.int q), .val (.ref e1)]) d11_17 rfl rfl rfl ?_
  refine Go.aload (pc' := 21) d11_19 rfl rfl rfl ?_
  refine Go.callI (cells' := 0) (slots' := 0) (pc' := 26) [] [] in0 (ww hw 61 rfl) (ww hw 62 rfl) (ww hw 63 rfl) (ww hw 196 rfl) (ww hw 197 rfl) (ww hw 198 rfl) (ww hw 199 rfl) (ww hw 195 rfl) (ww hw 91 rfl) (ww hw 200 rfl) (by decide) (c_l12Size1 l Z a0 hw h e1 wE se xE in2) pd_19 rfl rfl rfl rfl rfl (nl rfl) (nl rfl) (nl rfl) (nl rfl) d11_21 rfl ?_
  rintro _ _ ⟨rfl, rfl⟩
  show Go _ _ _ _ _ _ _ _ _ _ _ _ 26 #[.val (.ref r), .val (.int (3 : Int32)), .val (.int (1 : Int32)), .val (.int q), .val (.ref e1)] [(.int (1 : Int32))]
  refine Go.iconst (pc' := 27) (v := (1 : Int32)) d11_26 rfl rfl ?_
  refine Go.icmpNo (pc' := 30) d11_27 (XT.ii_ne_f (by decide)) rfl ?_
  refine Go.aload (pc' := 32) d11_30 rfl rfl rfl ?_
  refine Go.iconst (pc' := 33) (v := (0 : Int32)) d11_32 rfl rfl ?_
  refine Go.callI (cells' := 0) (slots' := 0) (pc' := 38) [(.int (0 : Int32))] [] in0 (ww hw 186 rfl) (ww hw 187 rfl) (ww hw 188 rfl) (ww hw 201 rfl) (ww hw 202 rfl) (ww hw 203 rfl) (ww hw 204 rfl) (ww hw 195 rfl) (ww hw 91 rfl) (ww hw 205 rfl) (by decide) (c_l12Get0 l Z a0 hw h e1 g1 in1) pd_18 rfl rfl rfl rfl rfl (nl rfl) (nl rfl) (nl rfl) (nl rfl) d11_33 rfl ?_
  rintro _ _ ⟨rfl, rfl⟩
  show Go _ _ _ _ _ _ _ _ _ _ _ _ 38 #[.val (.ref r), .val (.int (3 : Int32)), .val (.int (1 : Int32)), .val (.int q), .val (.ref e1)] [(.ref g1)]
  refine Go.castY (pc' := 41) (ww hw 206 rfl) (Ins.self in3) d11_38 rfl ?_
  refine Go.callV (cells' := 0) (slots' := 0) (pc' := 44) [] [] in3 (ww hw 208 rfl) (ww hw 209 rfl) (fun s' hs' => notFace_of_selects (args := #[]) (mvT hs' (ww hw 211 rfl))) (ww hw 211 rfl) (ww hw 210 rfl) (ww hw 81 rfl) (ww hw 212 rfl) (by decide) (c_intValue l Z a0 hw h g1 q in4) pd_19 rfl rfl rfl rfl rfl (nl rfl) (nl rfl) (nl rfl) (nl rfl) d11_41 rfl ?_
  rintro _ _ ⟨rfl, rfl⟩
  show Go _ _ _ _ _ _ _ _ _ _ _ _ 44 #[.val (.ref r), .val (.int (3 : Int32)), .val (.int (1 : Int32)), .val (.int q), .val (.ref e1)] [(.int q)]
  refine Go.iloadN (pc' := 45) d11_44 rfl rfl ?_
  refine Go.icmpNo (pc' := 48) d11_45 (XT.ii_ne_f rfl) rfl ?_
  refine Go.iconst (pc' := 49) (v := (1 : Int32)) d11_48 rfl rfl ?_
  refine Go.goto (pc' := 53) d11_49 (by decide) (by decide) ?_
  exact Go.retN (t := .boolean) rfl (by simp) d11_53 ⟨rfl, rfl⟩ (by decide) (by decide)
set_option maxRecDepth 65536 in
set_option maxHeartbeats 4000000 in
theorem c_at3_2 (l : Launch) (Z : State) (a0 : Array Value) (hw : ∀ d ∈ tables_1, d.before a0 Z = true) {n0 : Nat} (h : Heap) (r : Addr) (q : Int32) (c : Addr) (kc2 : ClassId) (e0 : Addr) (e1 : Addr) (e2 : Addr) (g2 : Addr) (wE : Addr) (se : Sta Z Z.heap "java/util/ImmutableCollections" "EMPTY" "Ljava/lang/Object;" (.ref wE)) (xE : Exa Z Z.heap wE "java/lang/Object") (o0 : Exa Z h r "java/util/ImmutableCollections$ListN") (o1 : Fld Z h r "java/util/ImmutableCollections$ListN" "elements" "[Ljava/lang/Object;" (.ref c)) (o2 : Arv Z h c kc2 (.object "java/lang/Object") (3 : Int32) [(.ref e0), (.ref e1), (.ref e2)] .null) (in0 : Exa Z h e2 "java/util/ImmutableCollections$List12") (in1 : Fld Z h e2 "java/util/ImmutableCollections$List12" "e0" "Ljava/lang/Object;" (.ref g2)) (in2 : Fld Z h e2 "java/util/ImmutableCollections$List12" "e1" "Ljava/lang/Object;" (.ref wE)) (in3 : Exa Z h g2 "java/lang/Integer") (in4 : Fld Z h g2 "java/lang/Integer" "value" "I" (.int q)) :
    Con l (⟨"com/example/wildmotif/wildmotif/match/OutcomeWitnessOfSingleNodesPinLaw", "at", "(Ljava/util/List;III)Z"⟩ : MethodName) method_2_code 5 (some .boolean) ({ frames := 1, cells := 0, slots := 0, locals := 13 } : Room) Z n0 #[(.ref r), (.int (3 : Int32)), (.int (2 : Int32)), (.int q)] h (fun v h' => v = some (.int (1 : Int32)) ∧ h = h') := by
  refine Con.of_go (plainFor_of_name pn_14) (Ls := #[.val (.ref r), .val (.int (3 : Int32)), .val (.int (2 : Int32)), .val (.int q), .unset]) (fun m => by first | (simp [entryFrame, mkF, argsToLocals, Value.category]; done) | rfl) ?_
  refine Go.iloadN (pc' := 1) d11_0 rfl rfl ?_
  refine Go.iloadN (pc' := 2) d11_1 rfl rfl ?_
  refine Go.icmpYes (pc' := 7) d11_2 (XT.ii_lt_t (by decide)) (by decide) (by decide) ?_
  refine Go.aloadN (pc' := 8) d11_7 rfl rfl rfl ?_
  refine Go.iloadN (pc' := 9) d11_8 rfl rfl ?_
  refine Go.callI (cells' := 0) (slots' := 0) (pc' := 14) [(.int (2 : Int32))] [] o0 (ww hw 186 rfl) (ww hw 187 rfl) (ww hw 188 rfl) (ww hw 189 rfl) (ww hw 190 rfl) (ww hw 191 rfl) (ww hw 192 rfl) (ww hw 68 rfl) (ww hw 69 rfl) (ww hw 193 rfl) (by decide) (c_lnGet3_2 l Z a0 hw h r c kc2 e0 e1 e2 o1 o2) pd_18 rfl rfl rfl rfl rfl (nl rfl) (nl rfl) (nl rfl) (nl rfl) d11_9 rfl ?_
  rintro _ _ ⟨rfl, rfl⟩
  show Go _ _ _ _ _ _ _ _ _ _ _ _ 14 #[.val (.ref r), .val (.int (3 : Int32)), .val (.int (2 : Int32)), .val (.int q), .unset] [(.ref e2)]
  refine Go.castY (pc' := 17) (ww hw 194 rfl) (Ins.of_exa in0 (ww hw 195 rfl)) d11_14 rfl ?_
  refine Go.astore (pc' := 19) (Ls' := #[.val (.ref r), .val (.int (3 : Int32)), .val (.int (2 : Int32)), .val (.int q), .val (.ref e2)]) d11_17 rfl rfl rfl ?_
  refine Go.aload (pc' := 21) d11_19 rfl rfl rfl ?_
  refine Go.callI (cells' := 0) (slots' := 0) (pc' := 26) [] [] in0 (ww hw 61 rfl) (ww hw 62 rfl) (ww hw 63 rfl) (ww hw 196 rfl) (ww hw 197 rfl) (ww hw 198 rfl) (ww hw 199 rfl) (ww hw 195 rfl) (ww hw 91 rfl) (ww hw 200 rfl) (by decide) (c_l12Size1 l Z a0 hw h e2 wE se xE in2) pd_19 rfl rfl rfl rfl rfl (nl rfl) (nl rfl) (nl rfl) (nl rfl) d11_21 rfl ?_
  rintro _ _ ⟨rfl, rfl⟩
  show Go _ _ _ _ _ _ _ _ _ _ _ _ 26 #[.val (.ref r), .val (.int (3 : Int32)), .val (.int (2 : Int32)), .val (.int q), .val (.ref e2)] [(.int (1 : Int32))]
  refine Go.iconst (pc' := 27) (v := (1 : Int32)) d11_26 rfl rfl ?_
  refine Go.icmpNo (pc' := 30) d11_27 (XT.ii_ne_f (by decide)) rfl ?_
  refine Go.aload (pc' := 32) d11_30 rfl rfl rfl ?_
  refine Go.iconst (pc' := 33) (v := (0 : Int32)) d11_32 rfl rfl ?_
  refine Go.callI (cells' := 0) (slots' := 0) (pc' := 38) [(.int (0 : Int32))] [] in0 (ww hw 186 rfl) (ww hw 187 rfl) (ww hw 188 rfl) (ww hw 201 rfl) (ww hw 202 rfl) (ww hw 203 rfl) (ww hw 204 rfl) (ww hw 195 rfl) (ww hw 91 rfl) (ww hw 205 rfl) (by decide) (c_l12Get0 l Z a0 hw h e2 g2 in1) pd_18 rfl rfl rfl rfl rfl (nl rfl) (nl rfl) (nl rfl) (nl rfl) d11_33 rfl ?_
  rintro _ _ ⟨rfl, rfl⟩
  show Go _ _ _ _ _ _ _ _ _ _ _ _ 38 #[.val (.ref r), .val (.int (3 : Int32)), .val (.int (2 : Int32)), .val (.int q), .val (.ref e2)] [(.ref g2)]
  refine Go.castY (pc' := 41) (ww hw 206 rfl) (Ins.self in3) d11_38 rfl ?_
  refine Go.callV (cells' := 0) (slots' := 0) (pc' := 44) [] [] in3 (ww hw 208 rfl) (ww hw 209 rfl) (fun s' hs' => notFace_of_selects (args := #[]) (mvT hs' (ww hw 211 rfl))) (ww hw 211 rfl) (ww hw 210 rfl) (ww hw 81 rfl) (ww hw 212 rfl) (by decide) (c_intValue l Z a0 hw h g2 q in4) pd_19 rfl rfl rfl rfl rfl (nl rfl) (nl rfl) (nl rfl) (nl rfl) d11_41 rfl ?_
  rintro _ _ ⟨rfl, rfl⟩
  show Go _ _ _ _ _ _ _ _ _ _ _ _ 44 #[.val (.ref r), .val (.int (3 : Int32)), .val (.int (2 : Int32)), .val (.int q), .val (.ref e2)] [(.int q)]
  refine Go.iloadN (pc' := 45) d11_44 rfl rfl ?_
  refine Go.icmpNo (pc' := 48) d11_45 (XT.ii_ne_f rfl) rfl ?_
  refine Go.iconst (pc' := 49) (v := (1 : Int32)) d11_48 rfl rfl ?_
  refine Go.goto (pc' := 53) d11_49 (by decide) (by decide) ?_
  exact Go.retN (t := .boolean) rfl (by simp) d11_53 ⟨rfl, rfl⟩ (by decide) (by decide)
set_option maxRecDepth 65536 in
set_option maxHeartbeats 4000000 in
theorem c_at3_3 (l : Launch) (Z : State) (a0 : Array Value) (hw : ∀ d ∈ tables_1, d.before a0 Z = true) {n0 : Nat} (h : Heap) (r : Addr) (q : Int32) :
    Con l (⟨"com/example/wildmotif/wildmotif/match/OutcomeWitnessOfSingleNodesPinLaw", "at", "(Ljava/util/List;III)Z"⟩ : MethodName) method_2_code 5 (some .boolean) ({ frames := 0, cells := 0, slots := 0, locals := 0 } : Room) Z n0 #[(.ref r), (.int (3 : Int32)), (.int (3 : Int32)), (.int q)] h (fun v h' => v = some (.int (1 : Int32)) ∧ h = h') := by
  refine Con.of_go (plainFor_of_name pn_14) (Ls := #[.val (.ref r), .val (.int (3 : Int32)), .val (.int (3 : Int32)), .val (.int q), .unset]) (fun m => by first | (simp [entryFrame, mkF, argsToLocals, Value.category]; done) | rfl) ?_
  refine Go.iloadN (pc' := 1) d11_0 rfl rfl ?_
  refine Go.iloadN (pc' := 2) d11_1 rfl rfl ?_
  refine Go.icmpNo (pc' := 5) d11_2 (XT.ii_lt_f (by decide)) rfl ?_
  refine Go.iconst (pc' := 6) (v := (1 : Int32)) d11_5 rfl rfl ?_
  exact Go.retN (t := .boolean) rfl (by simp) d11_6 ⟨rfl, rfl⟩ (by decide) (by decide)
set_option maxRecDepth 65536 in
set_option maxHeartbeats 4000000 in
theorem c_at4_0 (l : Launch) (Z : State) (a0 : Array Value) (hw : ∀ d ∈ tables_1, d.before a0 Z = true) {n0 : Nat} (h : Heap) (r : Addr) (q : Int32) (c : Addr) (kc2 : ClassId) (e0 : Addr) (e1 : Addr) (e2 : Addr) (e3 : Addr) (g0 : Addr) (wE : Addr) (se : Sta Z Z.heap "java/util/ImmutableCollections" "EMPTY" "Ljava/lang/Object;" (.ref wE)) (xE : Exa Z Z.heap wE "java/lang/Object") (o0 : Exa Z h r "java/util/ImmutableCollections$ListN") (o1 : Fld Z h r "java/util/ImmutableCollections$ListN" "elements" "[Ljava/lang/Object;" (.ref c)) (o2 : Arv Z h c kc2 (.object "java/lang/Object") (4 : Int32) [(.ref e0), (.ref e1), (.ref e2), (.ref e3)] .null) (in0 : Exa Z h e0 "java/util/ImmutableCollections$List12") (in1 : Fld Z h e0 "java/util/ImmutableCollections$List12" "e0" "Ljava/lang/Object;" (.ref g0)) (in2 : Fld Z h e0 "java/util/ImmutableCollections$List12" "e1" "Ljava/lang/Object;" (.ref wE)) (in3 : Exa Z h g0 "java/lang/Integer") (in4 : Fld Z h g0 "java/lang/Integer" "value" "I" (.int q)) :
    Con l (⟨"com/example/wildmotif/wildmotif/match/OutcomeWitnessOfSingleNodesPinLaw", "at", "(Ljava/util/List;III)Z"⟩ : MethodName) method_2_code 5 (some .boolean) ({ frames := 1, cells := 0, slots := 0, locals := 13 } : Room) Z n0 #[(.ref r), (.int (4 : Int32)), (.int (0 : Int32)), (.int q)] h (fun v h' => v = some (.int (1 : Int32)) ∧ h = h') := by
  refine Con.of_go (plainFor_of_name pn_14) (Ls := #[.val (.ref r), .val (.int (4 : Int32)), .val (.int (0 : Int32)), .val (.int q), .unset]) (fun m => by first | (simp [entryFrame, mkF, argsToLocals, Value.category]; done) | rfl) ?_
  refine Go.iloadN (pc' := 1) d11_0 rfl rfl ?_
  refine Go.iloadN (pc' := 2) d11_1 rfl rfl ?_
  refine Go.icmpYes (pc' := 7) d11_2 (XT.ii_lt_t (by decide)) (by decide) (by decide) ?_
  refine Go.aloadN (pc' := 8) d11_7 rfl rfl rfl ?_
  refine Go.iloadN (pc' := 9) d11_8 rfl rfl ?_
  refine Go.callI (cells' := 0) (slots' := 0) (pc' := 14) [(.int (0 : Int32))] [] o0 (ww hw 186 rfl) (ww hw 187 rfl) (ww hw 188 rfl) (ww hw 189 rfl) (ww hw 190 rfl) (ww hw 191 rfl) (ww hw 192 rfl) (ww hw 68 rfl) (ww hw 69 rfl) (ww hw 193 rfl) (by decide) (c_lnGet4_0 l Z a0 hw h r c kc2 e0 e1 e2 e3 o1 o2) pd_18 rfl rfl rfl rfl rfl (nl rfl) (nl rfl) (nl rfl) (nl rfl) d11_9 rfl ?_
  rintro _ _ ⟨rfl, rfl⟩
  show Go _ _ _ _ _ _ _ _ _ _ _ _ 14 #[.val (.ref r), .val (.int (4 : Int32)), .val (.int (0 : Int32)), .val (.int q), .unset] [(.ref e0)]
  refine Go.castY (pc' := 17) (ww hw 194 rfl) (Ins.of_exa in0 (ww hw 195 rfl)) d11_14 rfl ?_
  refine Go.astore (pc' := 19) (Ls' := #[.val (.ref r), .val (.int (4 : Int32)), .val (.int (0 : Int32)), .val (.int q), .val (.ref e0)]) d11_17 rfl rfl rfl ?_
  refine Go.aload (pc' := 21) d11_19 rfl rfl rfl ?_
  refine Go.callI (cells' := 0) (slots' := 0) (pc' := 26) [] [] in0 (ww hw 61 rfl) (ww hw 62 rfl) (ww hw 63 rfl) (ww hw 196 rfl) (ww hw 197 rfl) (ww hw 198 rfl) (ww hw 199 rfl) (ww hw 195 rfl) (ww hw 91 rfl) (ww hw 200 rfl) (by decide) (c_l12Size1 l Z a0 hw h e0 wE se xE in2) pd_19 rfl rfl rfl rfl rfl (nl rfl) (nl rfl) (nl rfl) (nl rfl) d11_21 rfl ?_
  rintro _ _ ⟨rfl, rfl⟩
  show Go _ _ _ _ _ _ _ _ _ _ _ _ 26 #[.val (.ref r), .val (.int (4 : Int32)), .val (.int (0 : Int32)), .val (.int q), .val (.ref e0)] [(.int (1 : Int32))]
  refine Go.iconst (pc' := 27) (v := (1 : Int32)) d11_26 rfl rfl ?_
  refine Go.icmpNo (pc' := 30) d11_27 (XT.ii_ne_f (by decide)) rfl ?_
  refine Go.aload (pc' := 32) d11_30 rfl rfl rfl ?_
  refine Go.iconst (pc' := 33) (v := (0 : Int32)) d11_32 rfl rfl ?_
  refine Go.callI (cells' := 0) (slots' := 0) (pc' := 38) [(.int (0 : Int32))] [] in0 (ww hw 186 rfl) (ww hw 187 rfl) (ww hw 188 rfl) (ww hw 201 rfl) (ww hw 202 rfl) (ww hw 203 rfl) (ww hw 204 rfl) (ww hw 195 rfl) (ww hw 91 rfl) (ww hw 205 rfl) (by decide) (c_l12Get0 l Z a0 hw h e0 g0 in1) pd_18 rfl rfl rfl rfl rfl (nl rfl) (nl rfl) (nl rfl) (nl rfl) d11_33 rfl ?_
  rintro _ _ ⟨rfl, rfl⟩
  show Go _ _ _ _ _ _ _ _ _ _ _ _ 38 #[.val (.ref r), .val (.int (4 : Int32)), .val (.int (0 : Int32)), .val (.int q), .val (.ref e0)] [(.ref g0)]
  refine Go.castY (pc' := 41) (ww hw 206 rfl) (Ins.self in3) d11_38 rfl ?_
  refine Go.callV (cells' := 0) (slots' := 0) (pc' := 44) [] [] in3 (ww hw 208 rfl) (ww hw 209 rfl) (fun s' hs' => notFace_of_selects (args := #[]) (mvT hs' (ww hw 211 rfl))) (ww hw 211 rfl) (ww hw 210 rfl) (ww hw 81 rfl) (ww hw 212 rfl) (by decide) (c_intValue l Z a0 hw h g0 q in4) pd_19 rfl rfl rfl rfl rfl (nl rfl) (nl rfl) (nl rfl) (nl rfl) d11_41 rfl ?_
  rintro _ _ ⟨rfl, rfl⟩
  show Go _ _ _ _ _ _ _ _ _ _ _ _ 44 #[.val (.ref r), .val (.int (4 : Int32)), .val (.int (0 : Int32)), .val (.int q), .val (.ref e0)] [(.int q)]
  refine Go.iloadN (pc' := 45) d11_44 rfl rfl ?_
  refine Go.icmpNo (pc' := 48) d11_45 (XT.ii_ne_f rfl) rfl ?_
  refine Go.iconst (pc' := 49) (v := (1 : Int32)) d11_48 rfl rfl ?_
  refine Go.goto (pc' := 53) d11_49 (by decide) (by decide) ?_
  exact Go.retN (t := .boolean) rfl (by simp) d11_53 ⟨rfl, rfl⟩ (by decide) (by decide)
set_option maxRecDepth 65536 in
set_option maxHeartbeats 4000000 in
theorem c_at4_1 (l : Launch) (Z : State) (a0 : Array Value) (hw : ∀ d ∈ tables_1, d.before a0 Z = true) {n0 : Nat} (h : Heap) (r : Addr) (q : Int32) (c : Addr) (kc2 : ClassId) (e0 : Addr) (e1 : Addr) (e2 : Addr) (e3 : Addr) (g1 : Addr) (wE : Addr) (se : Sta Z Z.heap "java/util/ImmutableCollections" "EMPTY" "Ljava/lang/Object;" (.ref wE)) (xE : Exa Z Z.heap wE "java/lang/Object") (o0 : Exa Z h r "java/util/ImmutableCollections$ListN") (o1 : Fld Z h r "java/util/ImmutableCollections$ListN" "elements" "[Ljava/lang/Object;" (.ref c)) (o2 : Arv Z h c kc2 (.object "java/lang/Object") (4 : Int32) [(.ref e0), (.ref e1), (.ref e2), (.ref e3)] .null) (in0 : Exa Z h e1 "java/util/ImmutableCollections$List12") (in1 : Fld Z h e1 "java/util/ImmutableCollections$List12" "e0" "Ljava/lang/Object;" (.ref g1)) (in2 : Fld Z h e1 "java/util/ImmutableCollections$List12" "e1" "Ljava/lang/Object;" (.ref wE)) (in3 : Exa Z h g1 "java/lang/Integer") (in4 : Fld Z h g1 "java/lang/Integer" "value" "I" (.int q)) :
    Con l (⟨"com/example/wildmotif/wildmotif/match/OutcomeWitnessOfSingleNodesPinLaw", "at", "(Ljava/util/List;III)Z"⟩ : MethodName) method_2_code 5 (some .boolean) ({ frames := 1, cells := 0, slots := 0, locals := 13 } : Room) Z n0 #[(.ref r), (.int (4 : Int32)), (.int (1 : Int32)), (.int q)] h (fun v h' => v = some (.int (1 : Int32)) ∧ h = h') := by
  refine Con.of_go (plainFor_of_name pn_14) (Ls := #[.val (.ref r), .val (.int (4 : Int32)), .val (.int (1 : Int32)), .val (.int q), .unset]) (fun m => by first | (simp [entryFrame, mkF, argsToLocals, Value.category]; done) | rfl) ?_
  refine Go.iloadN (pc' := 1) d11_0 rfl rfl ?_
  refine Go.iloadN (pc' := 2) d11_1 rfl rfl ?_
  refine Go.icmpYes (pc' := 7) d11_2 (XT.ii_lt_t (by decide)) (by decide) (by decide) ?_
  refine Go.aloadN (pc' := 8) d11_7 rfl rfl rfl ?_
  refine Go.iloadN (pc' := 9) d11_8 rfl rfl ?_
  refine Go.callI (cells' := 0) (slots' := 0) (pc' := 14) [(.int (1 : Int32))] [] o0 (ww hw 186 rfl) (ww hw 187 rfl) (ww hw 188 rfl) (ww hw 189 rfl) (ww hw 190 rfl) (ww hw 191 rfl) (ww hw 192 rfl) (ww hw 68 rfl) (ww hw 69 rfl) (ww hw 193 rfl) (by decide) (c_lnGet4_1 l Z a0 hw h r c kc2 e0 e1 e2 e3 o1 o2) pd_18 rfl rfl rfl rfl rfl (nl rfl) (nl rfl) (nl rfl) (nl rfl) d11_9 rfl ?_
  rintro _ _ ⟨rfl, rfl⟩
  show Go _ _ _ _ _ _ _ _ _ _ _ _ 14 #[.val (.ref r), .val (.int (4 : Int32)), .val (.int (1 : Int32)), .val (.int q), .unset] [(.ref e1)]
  refine Go.castY (pc' := 17) (ww hw 194 rfl) (Ins.of_exa in0 (ww hw 195 rfl)) d11_14 rfl ?_
  refine Go.astore (pc' := 19) (Ls' := #[.val (.ref r), .val (.int (4 : Int32)), .val (.int (1 : Int32)), .val (.int q), .val (.ref e1)]) d11_17 rfl rfl rfl ?_
  refine Go.aload (pc' := 21) d11_19 rfl rfl rfl ?_
  refine Go.callI (cells' := 0) (slots' := 0) (pc' := 26) [] [] in0 (ww hw 61 rfl) (ww hw 62 rfl) (ww hw 63 rfl) (ww hw 196 rfl) (ww hw 197 rfl) (ww hw 198 rfl) (ww hw 199 rfl) (ww hw 195 rfl) (ww hw 91 rfl) (ww hw 200 rfl) (by decide) (c_l12Size1 l Z a0 hw h e1 wE se xE in2) pd_19 rfl rfl rfl rfl rfl (nl rfl) (nl rfl) (nl rfl) (nl rfl) d11_21 rfl ?_
  rintro _ _ ⟨rfl, rfl⟩
  show Go _ _ _ _ _ _ _ _ _ _ _ _ 26 #[.val (.ref r), .val (.int (4 : Int32)), .val (.int (1 : Int32)), .val (.int q), .val (.ref e1)] [(.int (1 : Int32))]
  refine Go.iconst (pc' := 27) (v := (1 : Int32)) d11_26 rfl rfl ?_
  refine Go.icmpNo (pc' := 30) d11_27 (XT.ii_ne_f (by decide)) rfl ?_
  refine Go.aload (pc' := 32) d11_30 rfl rfl rfl ?_
  refine Go.iconst (pc' := 33) (v := (0 : Int32)) d11_32 rfl rfl ?_
  refine Go.callI (cells' := 0) (slots' := 0) (pc' := 38) [(.int (0 : Int32))] [] in0 (ww hw 186 rfl) (ww hw 187 rfl) (ww hw 188 rfl) (ww hw 201 rfl) (ww hw 202 rfl) (ww hw 203 rfl) (ww hw 204 rfl) (ww hw 195 rfl) (ww hw 91 rfl) (ww hw 205 rfl) (by decide) (c_l12Get0 l Z a0 hw h e1 g1 in1) pd_18 rfl rfl rfl rfl rfl (nl rfl) (nl rfl) (nl rfl) (nl rfl) d11_33 rfl ?_
  rintro _ _ ⟨rfl, rfl⟩
  show Go _ _ _ _ _ _ _ _ _ _ _ _ 38 #[.val (.ref r), .val (.int (4 : Int32)), .val (.int (1 : Int32)), .val (.int q), .val (.ref e1)] [(.ref g1)]
  refine Go.castY (pc' := 41) (ww hw 206 rfl) (Ins.self in3) d11_38 rfl ?_
  refine Go.callV (cells' := 0) (slots' := 0) (pc' := 44) [] [] in3 (ww hw 208 rfl) (ww hw 209 rfl) (fun s' hs' => notFace_of_selects (args := #[]) (mvT hs' (ww hw 211 rfl))) (ww hw 211 rfl) (ww hw 210 rfl) (ww hw 81 rfl) (ww hw 212 rfl) (by decide) (c_intValue l Z a0 hw h g1 q in4) pd_19 rfl rfl rfl rfl rfl (nl rfl) (nl rfl) (nl rfl) (nl rfl) d11_41 rfl ?_
  rintro _ _ ⟨rfl, rfl⟩
  show Go _ _ _ _ _ _ _ _ _ _ _ _ 44 #[.val (.ref r), .val (.int (4 : Int32)), .val (.int (1 : Int32)), .val (.int q), .val (.ref e1)] [(.int q)]
  refine Go.iloadN (pc' := 45) d11_44 rfl rfl ?_
  refine Go.icmpNo (pc' := 48) d11_45 (XT.ii_ne_f rfl) rfl ?_
  refine Go.iconst (pc' := 49) (v := (1 : Int32)) d11_48 rfl rfl ?_
  refine Go.goto (pc' := 53) d11_49 (by decide) (by decide) ?_
  exact Go.retN (t := .boolean) rfl (by simp) d11_53 ⟨rfl, rfl⟩ (by decide) (by decide)
set_option maxRecDepth 65536 in
set_option maxHeartbeats 4000000 in
theorem c_at4_2 (l : Launch) (Z : State) (a0 : Array Value) (hw : ∀ d ∈ tables_1, d.before a0 Z = true) {n0 : Nat} (h : Heap) (r : Addr) (q : Int32) (c : Addr) (kc2 : ClassId) (e0 : Addr) (e1 : Addr) (e2 : Addr) (e3 : Addr) (g2 : Addr) (wE : Addr) (se : Sta Z Z.heap "java/util/ImmutableCollections" "EMPTY" "Ljava/lang/Object;" (.ref wE)) (xE : Exa Z Z.heap wE "java/lang/Object") (o0 : Exa Z h r "java/util/ImmutableCollections$ListN") (o1 : Fld Z h r "java/util/ImmutableCollections$ListN" "elements" "[Ljava/lang/Object;" (.ref c)) (o2 : Arv Z h c kc2 (.object "java/lang/Object") (4 : Int32) [(.ref e0), (.ref e1), (.ref e2), (.ref e3)] .null) (in0 : Exa Z h e2 "java/util/ImmutableCollections$List12") (in1 : Fld Z h e2 "java/util/ImmutableCollections$List12" "e0" "Ljava/lang/Object;" (.ref g2)) (in2 : Fld Z h e2 "java/util/ImmutableCollections$List12" "e1" "Ljava/lang/Object;" (.ref wE)) (in3 : Exa Z h g2 "java/lang/Integer") (in4 : Fld Z h g2 "java/lang/Integer" "value" "I" (.int q)) :
    Con l (⟨"com/example/wildmotif/wildmotif/match/OutcomeWitnessOfSingleNodesPinLaw", "at", "(Ljava/util/List;III)Z"⟩ : MethodName) method_2_code 5 (some .boolean) ({ frames := 1, cells := 0, slots := 0, locals := 13 } : Room) Z n0 #[(.ref r), (.int (4 : Int32)), (.int (2 : Int32)), (.int q)] h (fun v h' => v = some (.int (1 : Int32)) ∧ h = h') := by
  refine Con.of_go (plainFor_of_name pn_14) (Ls := #[.val (.ref r), .val (.int (4 : Int32)), .val (.int (2 : Int32)), .val (.int q), .unset]) (fun m => by first | (simp [entryFrame, mkF, argsToLocals, Value.category]; done) | rfl) ?_
  refine Go.iloadN (pc' := 1) d11_0 rfl rfl ?_
  refine Go.iloadN (pc' := 2) d11_1 rfl rfl ?_
  refine Go.icmpYes (pc' := 7) d11_2 (XT.ii_lt_t (by decide)) (by decide) (by decide) ?_
  refine Go.aloadN (pc' := 8) d11_7 rfl rfl rfl ?_
  refine Go.iloadN (pc' := 9) d11_8 rfl rfl ?_
  refine Go.callI (cells' := 0) (slots' := 0) (pc' := 14) [(.int (2 : Int32))] [] o0 (ww hw 186 rfl) (ww hw 187 rfl) (ww hw 188 rfl) (ww hw 189 rfl) (ww hw 190 rfl) (ww hw 191 rfl) (ww hw 192 rfl) (ww hw 68 rfl) (ww hw 69 rfl) (ww hw 193 rfl) (by decide) (c_lnGet4_2 l Z a0 hw h r c kc2 e0 e1 e2 e3 o1 o2) pd_18 rfl rfl rfl rfl rfl (nl rfl) (nl rfl) (nl rfl) (nl rfl) d11_9 rfl ?_
  rintro _ _ ⟨rfl, rfl⟩
  show Go _ _ _ _ _ _ _ _ _ _ _ _ 14 #[.val (.ref r), .val (.int (4 : Int32)), .val (.int (2 : Int32)), .val (.int q), .unset] [(.ref e2)]
  refine Go.castY (pc' := 17) (ww hw 194 rfl) (Ins.of_exa in0 (ww hw 195 rfl)) d11_14 rfl ?_
  refine Go.astore (pc' := 19) (Ls' := #[.val (.ref r), .val (.int (4 : Int32)), .val (.int (2 : Int32)), .val (.int q), .val (.ref e2)]) d11_17 rfl rfl rfl ?_
  refine Go.aload (pc' := 21) d11_19 rfl rfl rfl ?_
  refine Go.callI (cells' := 0) (slots' := 0) (pc' := 26) [] [] in0 (ww hw 61 rfl) (ww hw 62 rfl) (ww hw 63 rfl) (ww hw 196 rfl) (ww hw 197 rfl) (ww hw 198 rfl) (ww hw 199 rfl) (ww hw 195 rfl) (ww hw 91 rfl) (ww hw 200 rfl) (by decide) (c_l12Size1 l Z a0 hw h e2 wE se xE in2) pd_19 rfl rfl rfl rfl rfl (nl rfl) (nl rfl) (nl rfl) (nl rfl) d11_21 rfl ?_
  rintro _ _ ⟨rfl, rfl⟩
  show Go _ _ _ _ _ _ _ _ _ _ _ _ 26 #[.val (.ref r), .val (.int (4 : Int32)), .val (.int (2 : Int32)), .val (.int q), .val (.ref e2)] [(.int (1 : Int32))]
  refine Go.iconst (pc' := 27) (v := (1 : Int32)) d11_26 rfl rfl ?_
  refine Go.icmpNo (pc' := 30) d11_27 (XT.ii_ne_f (by decide)) rfl ?_
  refine Go.aload (pc' := 32) d11_30 rfl rfl rfl ?_
  refine Go.iconst (pc' := 33) (v := (0 : Int32)) d11_32 rfl rfl ?_
  refine Go.callI (cells' := 0) (slots' := 0) (pc' := 38) [(.int (0 : Int32))] [] in0 (ww hw 186 rfl) (ww hw 187 rfl) (ww hw 188 rfl) (ww hw 201 rfl) (ww hw 202 rfl) (ww hw 203 rfl) (ww hw 204 rfl) (ww hw 195 rfl) (ww hw 91 rfl) (ww hw 205 rfl) (by decide) (c_l12Get0 l Z a0 hw h e2 g2 in1) pd_18 rfl rfl rfl rfl rfl (nl rfl) (nl rfl) (nl rfl) (nl rfl) d11_33 rfl ?_
  rintro _ _ ⟨rfl, rfl⟩
  show Go _ _ _ _ _ _ _ _ _ _ _ _ 38 #[.val (.ref r), .val (.int (4 : Int32)), .val (.int (2 : Int32)), .val (.int q), .val (.ref e2)] [(.ref g2)]
  refine Go.castY (pc' := 41) (ww hw 206 rfl) (Ins.self in3) d11_38 rfl ?_
  refine Go.callV (cells' := 0) (slots' := 0) (pc' := 44) [] [] in3 (ww hw 208 rfl) (ww hw 209 rfl) (fun s' hs' => notFace_of_selects (args := #[]) (mvT hs' (ww hw 211 rfl))) (ww hw 211 rfl) (ww hw 210 rfl) (ww hw 81 rfl) (ww hw 212 rfl) (by decide) (c_intValue l Z a0 hw h g2 q in4) pd_19 rfl rfl rfl rfl rfl (nl rfl) (nl rfl) (nl rfl) (nl rfl) d11_41 rfl ?_
  rintro _ _ ⟨rfl, rfl⟩
  show Go _ _ _ _ _ _ _ _ _ _ _ _ 44 #[.val (.ref r), .val (.int (4 : Int32)), .val (.int (2 : Int32)), .val (.int q), .val (.ref e2)] [(.int q)]
  refine Go.iloadN (pc' := 45) d11_44 rfl rfl ?_
  refine Go.icmpNo (pc' := 48) d11_45 (XT.ii_ne_f rfl) rfl ?_
  refine Go.iconst (pc' := 49) (v := (1 : Int32)) d11_48 rfl rfl ?_
  refine Go.goto (pc' := 53) d11_49 (by decide) (by decide) ?_
  exact Go.retN (t := .boolean) rfl (by simp) d11_53 ⟨rfl, rfl⟩ (by decide) (by decide)
set_option maxRecDepth 65536 in
set_option maxHeartbeats 4000000 in
theorem c_at4_3 (l : Launch) (Z : State) (a0 : Array Value) (hw : ∀ d ∈ tables_1, d.before a0 Z = true) {n0 : Nat} (h : Heap) (r : Addr) (q : Int32) (c : Addr) (kc2 : ClassId) (e0 : Addr) (e1 : Addr) (e2 : Addr) (e3 : Addr) (g3 : Addr) (wE : Addr) (se : Sta Z Z.heap "java/util/ImmutableCollections" "EMPTY" "Ljava/lang/Object;" (.ref wE)) (xE : Exa Z Z.heap wE "java/lang/Object") (o0 : Exa Z h r "java/util/ImmutableCollections$ListN") (o1 : Fld Z h r "java/util/ImmutableCollections$ListN" "elements" "[Ljava/lang/Object;" (.ref c)) (o2 : Arv Z h c kc2 (.object "java/lang/Object") (4 : Int32) [(.ref e0), (.ref e1), (.ref e2), (.ref e3)] .null) (in0 : Exa Z h e3 "java/util/ImmutableCollections$List12") (in1 : Fld Z h e3 "java/util/ImmutableCollections$List12" "e0" "Ljava/lang/Object;" (.ref g3)) (in2 : Fld Z h e3 "java/util/ImmutableCollections$List12" "e1" "Ljava/lang/Object;" (.ref wE)) (in3 : Exa Z h g3 "java/lang/Integer") (in4 : Fld Z h g3 "java/lang/Integer" "value" "I" (.int q)) :
    Con l (⟨"com/example/wildmotif/wildmotif/match/OutcomeWitnessOfSingleNodesPinLaw", "at", "(Ljava/util/List;III)Z"⟩ : MethodName) method_2_code 5 (some .boolean) ({ frames := 1, cells := 0, slots := 0, locals := 13 } : Room) Z n0 #[(.ref r), (.int (4 : Int32)), (.int (3 : Int32)), (.int q)] h (fun v h' => v = some (.int (1 : Int32)) ∧ h = h') := by
  refine Con.of_go (plainFor_of_name pn_14) (Ls := #[.val (.ref r), .val (.int (4 : Int32)), .val (.int (3 : Int32)), .val (.int q), .unset]) (fun m => by first | (simp [entryFrame, mkF, argsToLocals, Value.category]; done) | rfl) ?_
  refine Go.iloadN (pc' := 1) d11_0 rfl rfl ?_
  refine Go.iloadN (pc' := 2) d11_1 rfl rfl ?_
  refine Go.icmpYes (pc' := 7) d11_2 (XT.ii_lt_t (by decide)) (by decide) (by decide) ?_
  refine Go.aloadN (pc' := 8) d11_7 rfl rfl rfl ?_
  refine Go.iloadN (pc' := 9) d11_8 rfl rfl ?_
  refine Go.callI (cells' := 0) (slots' := 0) (pc' := 14) [(.int (3 : Int32))] [] o0 (ww hw 186 rfl) (ww hw 187 rfl) (ww hw 188 rfl) (ww hw 189 rfl) (ww hw 190 rfl) (ww hw 191 rfl) (ww hw 192 rfl) (ww hw 68 rfl) (ww hw 69 rfl) (ww hw 193 rfl) (by decide) (c_lnGet4_3 l Z a0 hw h r c kc2 e0 e1 e2 e3 o1 o2) pd_18 rfl rfl rfl rfl rfl (nl rfl) (nl rfl) (nl rfl) (nl rfl) d11_9 rfl ?_
  rintro _ _ ⟨rfl, rfl⟩
  show Go _ _ _ _ _ _ _ _ _ _ _ _ 14 #[.val (.ref r), .val (.int (4 : Int32)), .val (.int (3 : Int32)), .val (.int q), .unset] [(.ref e3)]
  refine Go.castY (pc' := 17) (ww hw 194 rfl) (Ins.of_exa in0 (ww hw 195 rfl)) d11_14 rfl ?_
  refine Go.astore (pc' := 19) (Ls' := #[.val (.ref r), .val (.int (4 : Int32)), .val (.int (3 : Int32)), .val (.int q), .val (.ref e3)]) d11_17 rfl rfl rfl ?_
  refine Go.aload (pc' := 21) d11_19 rfl rfl rfl ?_
  refine Go.callI (cells' := 0) (slots' := 0) (pc' := 26) [] [] in0 (ww hw 61 rfl) (ww hw 62 rfl) (ww hw 63 rfl) (ww hw 196 rfl) (ww hw 197 rfl) (ww hw 198 rfl) (ww hw 199 rfl) (ww hw 195 rfl) (ww hw 91 rfl) (ww hw 200 rfl) (by decide) (c_l12Size1 l Z a0 hw h e3 wE se xE in2) pd_19 rfl rfl rfl rfl rfl (nl rfl) (nl rfl) (nl rfl) (nl rfl) d11_21 rfl ?_
  rintro _ _ ⟨rfl, rfl⟩
  show Go _ _ _ _ _ _ _ _ _ _ _ _ 26 #[.val (.ref r), .val (.int (4 : Int32)), .val (.int (3 : Int32)), .val (.int q), .val (.ref e3)] [(.int (1 : Int32))]
  refine Go.iconst (pc' := 27) (v := (1 : Int32)) d11_26 rfl rfl ?_
  refine Go.icmpNo (pc' := 30) d11_27 (XT.ii_ne_f (by decide)) rfl ?_
  refine Go.aload (pc' := 32) d11_30 rfl rfl rfl ?_
  refine Go.iconst (pc' := 33) (v := (0 : Int32)) d11_32 rfl rfl ?_
  refine Go.callI (cells' := 0) (slots' := 0) (pc' := 38) [(.int (0 : Int32))] [] in0 (ww hw 186 rfl) (ww hw 187 rfl) (ww hw 188 rfl) (ww hw 201 rfl) (ww hw 202 rfl) (ww hw 203 rfl) (ww hw 204 rfl) (ww hw 195 rfl) (ww hw 91 rfl) (ww hw 205 rfl) (by decide) (c_l12Get0 l Z a0 hw h e3 g3 in1) pd_18 rfl rfl rfl rfl rfl (nl rfl) (nl rfl) (nl rfl) (nl rfl) d11_33 rfl ?_
  rintro _ _ ⟨rfl, rfl⟩
  show Go _ _ _ _ _ _ _ _ _ _ _ _ 38 #[.val (.ref r), .val (.int (4 : Int32)), .val (.int (3 : Int32)), .val (.int q), .val (.ref e3)] [(.ref g3)]
  refine Go.castY (pc' := 41) (ww hw 206 rfl) (Ins.self in3) d11_38 rfl ?_
  refine Go.callV (cells' := 0) (slots' := 0) (pc' := 44) [] [] in3 (ww hw 208 rfl) (ww hw 209 rfl) (fun s' hs' => notFace_of_selects (args := #[]) (mvT hs' (ww hw 211 rfl))) (ww hw 211 rfl) (ww hw 210 rfl) (ww hw 81 rfl) (ww hw 212 rfl) (by decide) (c_intValue l Z a0 hw h g3 q in4) pd_19 rfl rfl rfl rfl rfl (nl rfl) (nl rfl) (nl rfl) (nl rfl) d11_41 rfl ?_
  rintro _ _ ⟨rfl, rfl⟩
  show Go _ _ _ _ _ _ _ _ _ _ _ _ 44 #[.val (.ref r), .val (.int (4 : Int32)), .val (.int (3 : Int32)), .val (.int q), .val (.ref e3)] [(.int q)]
  refine Go.iloadN (pc' := 45) d11_44 rfl rfl ?_
  refine Go.icmpNo (pc' := 48) d11_45 (XT.ii_ne_f rfl) rfl ?_
  refine Go.iconst (pc' := 49) (v := (1 : Int32)) d11_48 rfl rfl ?_
  refine Go.goto (pc' := 53) d11_49 (by decide) (by decide) ?_
  exact Go.retN (t := .boolean) rfl (by simp) d11_53 ⟨rfl, rfl⟩ (by decide) (by decide)
theorem pd_20 : parseMethodDescriptor "([I)Ljava/util/List;" = some ⟨[(.array .int)], some (.object "java/util/List")⟩ := by decide +kernel
theorem pd_21 : parseMethodDescriptor "(Ljava/util/List;III)Z" = some ⟨[(.object "java/util/List"), .int, .int, .int], some .boolean⟩ := by decide +kernel
set_option maxRecDepth 65536 in
set_option maxHeartbeats 4000000 in
theorem c_law (l : Launch) (Z : State) (a0 : Array Value) (hw : ∀ d ∈ tables_1, d.before a0 Z = true) {n0 : Nat} (h : Heap) (p0 : Int32) (p1 : Int32) (p2 : Int32) (p3 : Int32) (p4 : Int32) (wd0 : Addr) (wE : Addr) (wL : Addr) (wLe : Addr) (kLe : ClassId) (vsL : List Value) (mO : Addr) (wc : Addr) (kc : ClassId) (vsc : List Value) (hcache : ∀ ii : Int32, ¬ ii < -128 → ¬ 127 < ii → ∃ w, vsc.getD (ii + 128).toNatClampNeg .null = .ref w ∧ Exa Z Z.heap w "java/lang/Integer" ∧ Fld Z Z.heap w "java/lang/Integer" "value" "I" (.int ii)) (sd0 : Sta Z Z.heap "java/util/ArrayList" "EMPTY_ELEMENTDATA" "[Ljava/lang/Object;" (.ref wd0)) (se : Sta Z Z.heap "java/util/ImmutableCollections" "EMPTY" "Ljava/lang/Object;" (.ref wE)) (xE : Exa Z Z.heap wE "java/lang/Object") (sl : Sta Z Z.heap "java/util/ImmutableCollections" "EMPTY_LIST" "Ljava/util/ImmutableCollections$ListN;" (.ref wL)) (xL : Exa Z Z.heap wL "java/util/ImmutableCollections$ListN") (fL : Fld Z Z.heap wL "java/util/ImmutableCollections$ListN" "elements" "[Ljava/lang/Object;" (.ref wLe)) (vL : Arv Z Z.heap wLe kLe (.object "java/lang/Object") (0 : Int32) vsL .null) (mo : Mi Z "[Ljava/lang/Object;" mO) (sh : Sta Z Z.heap "java/lang/Integer$IntegerCache" "high" "I" (.int (127 : Int32))) (sc : Sta Z Z.heap "java/lang/Integer$IntegerCache" "cache" "[Ljava/lang/Integer;" (.ref wc)) (vc : Arv Z Z.heap wc kc (.object "java/lang/Integer") (256 : Int32) vsc .null) :
    Con l x code maxLocals ret room_1 Z n0 #[(.int p0), (.int p1), (.int p2), (.int p3), (.int p4)] h (fun v h' => v = some (.int (1 : Int32)) ∧ Keep h h' []) := by
  refine Con.of_go (plainFor_of_name pn_14) (Ls := #[.val (.int p0), .val (.int p1), .val (.int p2), .val (.int p3), .val (.int p4), .unset, .unset, .unset]) (fun m => by first | (simp [entryFrame, mkF, argsToLocals, Value.category, maxLocals]; done) | rfl) ?_
  refine Go.iloadN (pc' := 1) at_0 rfl rfl ?_
  refine Go.ldcI (pc' := 3) (ww hw 0 rfl) at_1 rfl ?_
  refine Go.iand (pc' := 4) at_3 rfl ?_
  refine Go.iconst (pc' := 5) (v := (5 : Int32)) at_4 rfl rfl ?_
  refine Go.irem (pc' := 6) at_5 (by decide) rfl ?_
  refine Go.istore (pc' := 8) (Ls' := #[.val (.int p0), .val (.int p1), .val (.int p2), .val (.int p3), .val (.int p4), .val (.int ((p0 &&& (2147483647 : Int32)) % (5 : Int32))), .unset, .unset]) at_6 rfl rfl ?_
  obtain hk1 | hk1 | hk1 | hk1 | hk1 := own_mod5 p0
  ·
    rw [hk1]
    refine Go.iload (pc' := 10) at_8 rfl rfl ?_
    refine Go.ifNo (pc' := 13) at_10 (XT.i0_ne_f (by decide)) rfl ?_
    refine Go.iconst (pc' := 14) (v := (0 : Int32)) at_13 rfl rfl ?_
    refine Go.newarray (pc' := 16) (cells' := 1) (slots' := 0) (cap := 0) (ww hw 1 rfl) at_14 (ad := "[I") (by decide) (by decide) (by decide) rfl rfl (by decide) (by decide) (by decide) rfl ?_
    intro h2 b2 g2 E2 ge2 kA2 A2 X2
    have sz3 : h.size ≤ b2 := Nat.le_trans (Keep.refl h []).1 (Nat.le_of_eq g2.symm)
    have K4 : Keep h h2 [] := (Keep.refl h []).ext E2
    have V2 : Arv Z h2 b2 kA2 .int (0 : Int32) [] (.int 0) := Arv.pad A2 (pad_rep [] (.int 0) 0)
    refine Go.astore (pc' := 18) (Ls' := #[.val (.int p0), .val (.int p1), .val (.int p2), .val (.int p3), .val (.int p4), .val (.int (0 : Int32)), .val (.ref b2), .unset]) at_16 rfl rfl rfl ?_
    refine Go.goto (pc' := 109) at_18 (by decide) (by decide) ?_
    refine Go.aload (pc' := 111) at_109 rfl rfl rfl ?_
    refine Go.callS (cells' := 2) (slots' := 3) (pc' := 114) [(.ref b2)] [] (ww hw 2 rfl) (ww hw 3 rfl) (ww hw 4 rfl) (ww hw 5 rfl) (by decide) (c_wit0 l Z a0 hw h2 b2 kA2 wd0 wE wL wLe kLe vsL mO wc kc vsc hcache sd0 se xE sl xL fL vL mo sh sc vc V2) pd_20 rfl rfl rfl rfl rfl (nl rfl) (nl rfl) (nl rfl) (nl rfl) at_111 rfl ?_
    rintro _ h5 ⟨rfl, K5⟩
    have K6 : Keep h h5 [] := K4.trans K5 all0
    show Go _ _ _ _ _ _ _ _ _ _ _ _ 114 #[.val (.int p0), .val (.int p1), .val (.int p2), .val (.int p3), .val (.int p4), .val (.int (0 : Int32)), .val (.ref b2), .unset] [(.ref wL)]
    refine Go.astore (pc' := 116) (Ls' := #[.val (.int p0), .val (.int p1), .val (.int p2), .val (.int p3), .val (.int p4), .val (.int (0 : Int32)), .val (.ref b2), .val (.ref wL)]) at_114 rfl rfl rfl ?_
    refine Go.aload (pc' := 118) at_116 rfl rfl rfl ?_
    refine Go.old (fun old7 => ?_)
    refine Go.callI (cells' := 2) (slots' := 3) (pc' := 123) [] [] (xL.ext old7.2) (ww hw 61 rfl) (ww hw 62 rfl) (ww hw 63 rfl) (ww hw 64 rfl) (ww hw 65 rfl) (ww hw 66 rfl) (ww hw 67 rfl) (ww hw 68 rfl) (ww hw 69 rfl) (ww hw 70 rfl) (by decide) (c_lnSize0 l Z a0 hw h5 wL wLe kLe vsL sl xL fL vL) pd_19 rfl rfl rfl rfl rfl (nl rfl) (nl rfl) (nl rfl) (nl rfl) at_118 rfl ?_
    rintro _ _ ⟨rfl, rfl⟩
    show Go _ _ _ _ _ _ _ _ _ _ _ _ 123 #[.val (.int p0), .val (.int p1), .val (.int p2), .val (.int p3), .val (.int p4), .val (.int (0 : Int32)), .val (.ref b2), .val (.ref wL)] [(.int (0 : Int32))]
    refine Go.iload (pc' := 125) at_123 rfl rfl ?_
    refine Go.icmpNo (pc' := 128) at_125 (XT.ii_ne_f (by decide)) rfl ?_
    refine Go.aload (pc' := 130) at_128 rfl rfl rfl ?_
    refine Go.iload (pc' := 132) at_130 rfl rfl ?_
    refine Go.iconst (pc' := 133) (v := (0 : Int32)) at_132 rfl rfl ?_
    refine Go.iloadN (pc' := 134) at_133 rfl rfl ?_
    refine Go.callS (cells' := 2) (slots' := 3) (pc' := 137) [(.ref wL), (.int (0 : Int32)), (.int (0 : Int32)), (.int p1)] [] (ww hw 73 rfl) (ww hw 74 rfl) (ww hw 75 rfl) (ww hw 76 rfl) (by decide) (c_at0_0 l Z a0 hw h5 wL p1) pd_21 rfl rfl rfl rfl rfl (nl rfl) (nl rfl) (nl rfl) (nl rfl) at_134 rfl ?_
    rintro _ _ ⟨rfl, rfl⟩
    show Go _ _ _ _ _ _ _ _ _ _ _ _ 137 #[.val (.int p0), .val (.int p1), .val (.int p2), .val (.int p3), .val (.int p4), .val (.int (0 : Int32)), .val (.ref b2), .val (.ref wL)] [(.int (1 : Int32))]
    refine Go.ifNo (pc' := 140) at_137 (XT.i0_eq_f (by decide)) rfl ?_
    refine Go.aload (pc' := 142) at_140 rfl rfl rfl ?_
    refine Go.iload (pc' := 144) at_142 rfl rfl ?_
    refine Go.iconst (pc' := 145) (v := (1 : Int32)) at_144 rfl rfl ?_
    refine Go.iloadN (pc' := 146) at_145 rfl rfl ?_
    refine Go.callS (cells' := 2) (slots' := 3) (pc' := 149) [(.ref wL), (.int (0 : Int32)), (.int (1 : Int32)), (.int p2)] [] (ww hw 73 rfl) (ww hw 74 rfl) (ww hw 75 rfl) (ww hw 76 rfl) (by decide) (c_at0_1 l Z a0 hw h5 wL p2) pd_21 rfl rfl rfl rfl rfl (nl rfl) (nl rfl) (nl rfl) (nl rfl) at_146 rfl ?_
    rintro _ _ ⟨rfl, rfl⟩
    show Go _ _ _ _ _ _ _ _ _ _ _ _ 149 #[.val (.int p0), .val (.int p1), .val (.int p2), .val (.int p3), .val (.int p4), .val (.int (0 : Int32)), .val (.ref b2), .val (.ref wL)] [(.int (1 : Int32))]
    refine Go.ifNo (pc' := 152) at_149 (XT.i0_eq_f (by decide)) rfl ?_
    refine Go.aload (pc' := 154) at_152 rfl rfl rfl ?_
    refine Go.iload (pc' := 156) at_154 rfl rfl ?_
    refine Go.iconst (pc' := 157) (v := (2 : Int32)) at_156 rfl rfl ?_
    refine Go.iloadN (pc' := 158) at_157 rfl rfl ?_
    refine Go.callS (cells' := 2) (slots' := 3) (pc' := 161) [(.ref wL), (.int (0 : Int32)), (.int (2 : Int32)), (.int p3)] [] (ww hw 73 rfl) (ww hw 74 rfl) (ww hw 75 rfl) (ww hw 76 rfl) (by decide) (c_at0_2 l Z a0 hw h5 wL p3) pd_21 rfl rfl rfl rfl rfl (nl rfl) (nl rfl) (nl rfl) (nl rfl) at_158 rfl ?_
    rintro _ _ ⟨rfl, rfl⟩
    show Go _ _ _ _ _ _ _ _ _ _ _ _ 161 #[.val (.int p0), .val (.int p1), .val (.int p2), .val (.int p3), .val (.int p4), .val (.int (0 : Int32)), .val (.ref b2), .val (.ref wL)] [(.int (1 : Int32))]
    refine Go.ifNo (pc' := 164) at_161 (XT.i0_eq_f (by decide)) rfl ?_
    refine Go.aload (pc' := 166) at_164 rfl rfl rfl ?_
    refine Go.iload (pc' := 168) at_166 rfl rfl ?_
    refine Go.iconst (pc' := 169) (v := (3 : Int32)) at_168 rfl rfl ?_
    refine Go.iload (pc' := 171) at_169 rfl rfl ?_
    refine Go.callS (cells' := 2) (slots' := 3) (pc' := 174) [(.ref wL), (.int (0 : Int32)), (.int (3 : Int32)), (.int p4)] [] (ww hw 73 rfl) (ww hw 74 rfl) (ww hw 75 rfl) (ww hw 76 rfl) (by decide) (c_at0_3 l Z a0 hw h5 wL p4) pd_21 rfl rfl rfl rfl rfl (nl rfl) (nl rfl) (nl rfl) (nl rfl) at_171 rfl ?_
    rintro _ _ ⟨rfl, rfl⟩
    show Go _ _ _ _ _ _ _ _ _ _ _ _ 174 #[.val (.int p0), .val (.int p1), .val (.int p2), .val (.int p3), .val (.int p4), .val (.int (0 : Int32)), .val (.ref b2), .val (.ref wL)] [(.int (1 : Int32))]
    refine Go.ifNo (pc' := 177) at_174 (XT.i0_eq_f (by decide)) rfl ?_
    refine Go.iconst (pc' := 178) (v := (1 : Int32)) at_177 rfl rfl ?_
    refine Go.goto (pc' := 182) at_178 (by decide) (by decide) ?_
    exact Go.retN (t := .boolean) rfl (by simp) at_182 ⟨rfl, K6⟩ (by decide) (by decide)
  ·
    rw [hk1]
    refine Go.iload (pc' := 10) at_8 rfl rfl ?_
    refine Go.ifYes (pc' := 21) at_10 (XT.i0_ne_t (by decide)) (by decide) (by decide) ?_
    refine Go.iload (pc' := 23) at_21 rfl rfl ?_
    refine Go.iconst (pc' := 24) (v := (1 : Int32)) at_23 rfl rfl ?_
    refine Go.icmpNo (pc' := 27) at_24 (XT.ii_ne_f (by decide)) rfl ?_
    refine Go.iconst (pc' := 28) (v := (1 : Int32)) at_27 rfl rfl ?_
    refine Go.newarray (pc' := 30) (cells' := 1) (slots' := 1) (cap := 1) (ww hw 1 rfl) at_28 (ad := "[I") (by decide) (by decide) (by decide) rfl rfl (by decide) (by decide) (by decide) rfl ?_
    intro h13 b13 g13 E13 ge13 kA13 A13 X13
    have sz14 : h.size ≤ b13 := Nat.le_trans (Keep.refl h []).1 (Nat.le_of_eq g13.symm)
    have K15 : Keep h h13 [] := (Keep.refl h []).ext E13
    have V13 : Arv Z h13 b13 kA13 .int (1 : Int32) [(.int 0)] (.int 0) := Arv.pad A13 (pad_rep [] (.int 0) 1)
    refine Go.dup (pc' := 31) at_30 rfl rfl ?_
    refine Go.iconst (pc' := 32) (v := (0 : Int32)) at_31 rfl rfl ?_
    refine Go.iloadN (pc' := 33) at_32 rfl rfl ?_
    refine Go.iastore (pc' := 34) V13 ge13 at_33 (by decide) (by decide) (i := 0) rfl (nl rfl) rfl ?_
    intro h16 W17 V18
    have K19 : Keep h h16 [] := K15.wr W17 (Or.inr sz14)
    replace V18 : Arv Z h16 b13 kA13 .int (1 : Int32) [(.int p1)] (.int 0) := V18
    refine Go.astore (pc' := 36) (Ls' := #[.val (.int p0), .val (.int p1), .val (.int p2), .val (.int p3), .val (.int p4), .val (.int (1 : Int32)), .val (.ref b13), .unset]) at_34 rfl rfl rfl ?_
    refine Go.goto (pc' := 109) at_36 (by decide) (by decide) ?_
    refine Go.aload (pc' := 111) at_109 rfl rfl rfl ?_
    refine Go.callS (cells' := 7) (slots' := 11) (pc' := 114) [(.ref b13)] [] (ww hw 2 rfl) (ww hw 3 rfl) (ww hw 4 rfl) (ww hw 5 rfl) (by decide) (c_wit1 l Z a0 hw h16 b13 kA13 p1 wd0 wE wL wLe kLe vsL mO wc kc vsc hcache sd0 se xE sl xL fL vL mo sh sc vc V18) pd_20 rfl rfl rfl rfl rfl (nl rfl) (nl rfl) (nl rfl) (nl rfl) at_111 rfl ?_
    rintro _ h20 ⟨r_20, e0_20, g0_20, rfl, K20, F20_0, F20_1, F20_2, F20_3, F20_4, F20_5, F20_6, F20_7⟩
    have K21 : Keep h h20 [] := K19.trans K20 all0
    show Go _ _ _ _ _ _ _ _ _ _ _ _ 114 #[.val (.int p0), .val (.int p1), .val (.int p2), .val (.int p3), .val (.int p4), .val (.int (1 : Int32)), .val (.ref b13), .unset] [(.ref r_20)]
    refine Go.astore (pc' := 116) (Ls' := #[.val (.int p0), .val (.int p1), .val (.int p2), .val (.int p3), .val (.int p4), .val (.int (1 : Int32)), .val (.ref b13), .val (.ref r_20)]) at_114 rfl rfl rfl ?_
    refine Go.aload (pc' := 118) at_116 rfl rfl rfl ?_
    refine Go.callI (cells' := 7) (slots' := 11) (pc' := 123) [] [] F20_0 (ww hw 61 rfl) (ww hw 62 rfl) (ww hw 63 rfl) (ww hw 196 rfl) (ww hw 197 rfl) (ww hw 198 rfl) (ww hw 199 rfl) (ww hw 195 rfl) (ww hw 91 rfl) (ww hw 200 rfl) (by decide) (c_l12Size1 l Z a0 hw h20 r_20 wE se xE F20_2) pd_19 rfl rfl rfl rfl rfl (nl rfl) (nl rfl) (nl rfl) (nl rfl) at_118 rfl ?_
    rintro _ _ ⟨rfl, rfl⟩
    show Go _ _ _ _ _ _ _ _ _ _ _ _ 123 #[.val (.int p0), .val (.int p1), .val (.int p2), .val (.int p3), .val (.int p4), .val (.int (1 : Int32)), .val (.ref b13), .val (.ref r_20)] [(.int (1 : Int32))]
    refine Go.iload (pc' := 125) at_123 rfl rfl ?_
    refine Go.icmpNo (pc' := 128) at_125 (XT.ii_ne_f (by decide)) rfl ?_
    refine Go.aload (pc' := 130) at_128 rfl rfl rfl ?_
    refine Go.iload (pc' := 132) at_130 rfl rfl ?_
    refine Go.iconst (pc' := 133) (v := (0 : Int32)) at_132 rfl rfl ?_
    refine Go.iloadN (pc' := 134) at_133 rfl rfl ?_
    refine Go.callS (cells' := 7) (slots' := 11) (pc' := 137) [(.ref r_20), (.int (1 : Int32)), (.int (0 : Int32)), (.int p1)] [] (ww hw 73 rfl) (ww hw 74 rfl) (ww hw 75 rfl) (ww hw 76 rfl) (by decide) (c_at1_0 l Z a0 hw h20 r_20 p1 e0_20 g0_20 wE se xE F20_0 F20_1 F20_2 F20_3 F20_4 F20_5 F20_6 F20_7) pd_21 rfl rfl rfl rfl rfl (nl rfl) (nl rfl) (nl rfl) (nl rfl) at_134 rfl ?_
    rintro _ _ ⟨rfl, rfl⟩
    show Go _ _ _ _ _ _ _ _ _ _ _ _ 137 #[.val (.int p0), .val (.int p1), .val (.int p2), .val (.int p3), .val (.int p4), .val (.int (1 : Int32)), .val (.ref b13), .val (.ref r_20)] [(.int (1 : Int32))]
    refine Go.ifNo (pc' := 140) at_137 (XT.i0_eq_f (by decide)) rfl ?_
    refine Go.aload (pc' := 142) at_140 rfl rfl rfl ?_
    refine Go.iload (pc' := 144) at_142 rfl rfl ?_
    refine Go.iconst (pc' := 145) (v := (1 : Int32)) at_144 rfl rfl ?_
    refine Go.iloadN (pc' := 146) at_145 rfl rfl ?_
    refine Go.callS (cells' := 7) (slots' := 11) (pc' := 149) [(.ref r_20), (.int (1 : Int32)), (.int (1 : Int32)), (.int p2)] [] (ww hw 73 rfl) (ww hw 74 rfl) (ww hw 75 rfl) (ww hw 76 rfl) (by decide) (c_at1_1 l Z a0 hw h20 r_20 p2) pd_21 rfl rfl rfl rfl rfl (nl rfl) (nl rfl) (nl rfl) (nl rfl) at_146 rfl ?_
    rintro _ _ ⟨rfl, rfl⟩
    show Go _ _ _ _ _ _ _ _ _ _ _ _ 149 #[.val (.int p0), .val (.int p1), .val (.int p2), .val (.int p3), .val (.int p4), .val (.int (1 : Int32)), .val (.ref b13), .val (.ref r_20)] [(.int (1 : Int32))]
    refine Go.ifNo (pc' := 152) at_149 (XT.i0_eq_f (by decide)) rfl ?_
    refine Go.aload (pc' := 154) at_152 rfl rfl rfl ?_
    refine Go.iload (pc' := 156) at_154 rfl rfl ?_
    refine Go.iconst (pc' := 157) (v := (2 : Int32)) at_156 rfl rfl ?_
    refine Go.iloadN (pc' := 158) at_157 rfl rfl ?_
    refine Go.callS (cells' := 7) (slots' := 11) (pc' := 161) [(.ref r_20), (.int (1 : Int32)), (.int (2 : Int32)), (.int p3)] [] (ww hw 73 rfl) (ww hw 74 rfl) (ww hw 75 rfl) (ww hw 76 rfl) (by decide) (c_at1_2 l Z a0 hw h20 r_20 p3) pd_21 rfl rfl rfl rfl rfl (nl rfl) (nl rfl) (nl rfl) (nl rfl) at_158 rfl ?_
    rintro _ _ ⟨rfl, rfl⟩
    show Go _ _ _ _ _ _ _ _ _ _ _ _ 161 #[.val (.int p0), .val (.int p1), .val (.int p2), .val (.int p3), .val (.int p4), .val (.int (1 : Int32)), .val (.ref b13), .val (.ref r_20)] [(.int (1 : Int32))]
    refine Go.ifNo (pc' := 164) at_161 (XT.i0_eq_f (by decide)) rfl ?_
    refine Go.aload (pc' := 166) at_164 rfl rfl rfl ?_
    refine Go.iload (pc' := 168) at_166 rfl rfl ?_
    refine Go.iconst (pc' := 169) (v := (3 : Int32)) at_168 rfl rfl ?_
    refine Go.iload (pc' := 171) at_169 rfl rfl ?_
    refine Go.callS (cells' := 7) (slots' := 11) (pc' := 174) [(.ref r_20), (.int (1 : Int32)), (.int (3 : Int32)), (.int p4)] [] (ww hw 73 rfl) (ww hw 74 rfl) (ww hw 75 rfl) (ww hw 76 rfl) (by decide) (c_at1_3 l Z a0 hw h20 r_20 p4) pd_21 rfl rfl rfl rfl rfl (nl rfl) (nl rfl) (nl rfl) (nl rfl) at_171 rfl ?_
    rintro _ _ ⟨rfl, rfl⟩
    show Go _ _ _ _ _ _ _ _ _ _ _ _ 174 #[.val (.int p0), .val (.int p1), .val (.int p2), .val (.int p3), .val (.int p4), .val (.int (1 : Int32)), .val (.ref b13), .val (.ref r_20)] [(.int (1 : Int32))]
    refine Go.ifNo (pc' := 177) at_174 (XT.i0_eq_f (by decide)) rfl ?_
    refine Go.iconst (pc' := 178) (v := (1 : Int32)) at_177 rfl rfl ?_
    refine Go.goto (pc' := 182) at_178 (by decide) (by decide) ?_
    exact Go.retN (t := .boolean) rfl (by simp) at_182 ⟨rfl, K21⟩ (by decide) (by decide)
  ·
    rw [hk1]
    refine Go.iload (pc' := 10) at_8 rfl rfl ?_
    refine Go.ifYes (pc' := 21) at_10 (XT.i0_ne_t (by decide)) (by decide) (by decide) ?_
    refine Go.iload (pc' := 23) at_21 rfl rfl ?_
    refine Go.iconst (pc' := 24) (v := (1 : Int32)) at_23 rfl rfl ?_
    refine Go.icmpYes (pc' := 39) at_24 (XT.ii_ne_t (by decide)) (by decide) (by decide) ?_
    refine Go.iload (pc' := 41) at_39 rfl rfl ?_
    refine Go.iconst (pc' := 42) (v := (2 : Int32)) at_41 rfl rfl ?_
    refine Go.icmpNo (pc' := 45) at_42 (XT.ii_ne_f (by decide)) rfl ?_
    refine Go.iconst (pc' := 46) (v := (2 : Int32)) at_45 rfl rfl ?_
    refine Go.newarray (pc' := 48) (cells' := 1) (slots' := 2) (cap := 2) (ww hw 1 rfl) at_46 (ad := "[I") (by decide) (by decide) (by decide) rfl rfl (by decide) (by decide) (by decide) rfl ?_
    intro h27 b27 g27 E27 ge27 kA27 A27 X27
    have sz28 : h.size ≤ b27 := Nat.le_trans (Keep.refl h []).1 (Nat.le_of_eq g27.symm)
    have K29 : Keep h h27 [] := (Keep.refl h []).ext E27
    have V27 : Arv Z h27 b27 kA27 .int (2 : Int32) [(.int 0), (.int 0)] (.int 0) := Arv.pad A27 (pad_rep [] (.int 0) 2)
    refine Go.dup (pc' := 49) at_48 rfl rfl ?_
    refine Go.iconst (pc' := 50) (v := (0 : Int32)) at_49 rfl rfl ?_
    refine Go.iloadN (pc' := 51) at_50 rfl rfl ?_
    refine Go.iastore (pc' := 52) V27 ge27 at_51 (by decide) (by decide) (i := 0) rfl (nl rfl) rfl ?_
    intro h30 W31 V32
    have K33 : Keep h h30 [] := K29.wr W31 (Or.inr sz28)
    replace V32 : Arv Z h30 b27 kA27 .int (2 : Int32) [(.int p1), (.int 0)] (.int 0) := V32
    refine Go.dup (pc' := 53) at_52 rfl rfl ?_
    refine Go.iconst (pc' := 54) (v := (1 : Int32)) at_53 rfl rfl ?_
    refine Go.iloadN (pc' := 55) at_54 rfl rfl ?_
    refine Go.iastore (pc' := 56) V32 ge27 at_55 (by decide) (by decide) (i := 1) rfl (nl rfl) rfl ?_
    intro h34 W35 V36
    have K37 : Keep h h34 [] := K33.wr W35 (Or.inr sz28)
    replace V36 : Arv Z h34 b27 kA27 .int (2 : Int32) [(.int p1), (.int p2)] (.int 0) := V36
    refine Go.astore (pc' := 58) (Ls' := #[.val (.int p0), .val (.int p1), .val (.int p2), .val (.int p3), .val (.int p4), .val (.int (2 : Int32)), .val (.ref b27), .unset]) at_56 rfl rfl rfl ?_
    refine Go.goto (pc' := 109) at_58 (by decide) (by decide) ?_
    refine Go.aload (pc' := 111) at_109 rfl rfl rfl ?_
    refine Go.callS (cells' := 9) (slots' := 17) (pc' := 114) [(.ref b27)] [] (ww hw 2 rfl) (ww hw 3 rfl) (ww hw 4 rfl) (ww hw 5 rfl) (by decide) (c_wit2 l Z a0 hw h34 b27 kA27 p1 p2 wd0 wE wL wLe kLe vsL mO wc kc vsc hcache sd0 se xE sl xL fL vL mo sh sc vc V36) pd_20 rfl rfl rfl rfl rfl (nl rfl) (nl rfl) (nl rfl) (nl rfl) at_111 rfl ?_
    rintro _ h38 ⟨r_38, e0_38, g0_38, e1_38, g1_38, rfl, K38, F38_0, F38_1, F38_2, F38_3, F38_4, F38_5, F38_6, F38_7, F38_8, F38_9, F38_10, F38_11, F38_12⟩
    have K39 : Keep h h38 [] := K37.trans K38 all0
    show Go _ _ _ _ _ _ _ _ _ _ _ _ 114 #[.val (.int p0), .val (.int p1), .val (.int p2), .val (.int p3), .val (.int p4), .val (.int (2 : Int32)), .val (.ref b27), .unset] [(.ref r_38)]
    refine Go.astore (pc' := 116) (Ls' := #[.val (.int p0), .val (.int p1), .val (.int p2), .val (.int p3), .val (.int p4), .val (.int (2 : Int32)), .val (.ref b27), .val (.ref r_38)]) at_114 rfl rfl rfl ?_
    refine Go.aload (pc' := 118) at_116 rfl rfl rfl ?_
    refine Go.old (fun old40 => ?_)
    have ne41 : e1_38 ≠ wE := ne_exa F38_8 (xE.ext old40.2) (by decide)
    refine Go.callI (cells' := 9) (slots' := 17) (pc' := 123) [] [] F38_0 (ww hw 61 rfl) (ww hw 62 rfl) (ww hw 63 rfl) (ww hw 196 rfl) (ww hw 197 rfl) (ww hw 198 rfl) (ww hw 199 rfl) (ww hw 195 rfl) (ww hw 91 rfl) (ww hw 200 rfl) (by decide) (c_l12Size2 l Z a0 hw h38 r_38 e1_38 wE se xE ne41 F38_2) pd_19 rfl rfl rfl rfl rfl (nl rfl) (nl rfl) (nl rfl) (nl rfl) at_118 rfl ?_
    rintro _ _ ⟨rfl, rfl⟩
    show Go _ _ _ _ _ _ _ _ _ _ _ _ 123 #[.val (.int p0), .val (.int p1), .val (.int p2), .val (.int p3), .val (.int p4), .val (.int (2 : Int32)), .val (.ref b27), .val (.ref r_38)] [(.int (2 : Int32))]
    refine Go.iload (pc' := 125) at_123 rfl rfl ?_
    refine Go.icmpNo (pc' := 128) at_125 (XT.ii_ne_f (by decide)) rfl ?_
    refine Go.aload (pc' := 130) at_128 rfl rfl rfl ?_
    refine Go.iload (pc' := 132) at_130 rfl rfl ?_
    refine Go.iconst (pc' := 133) (v := (0 : Int32)) at_132 rfl rfl ?_
    refine Go.iloadN (pc' := 134) at_133 rfl rfl ?_
    refine Go.callS (cells' := 9) (slots' := 17) (pc' := 137) [(.ref r_38), (.int (2 : Int32)), (.int (0 : Int32)), (.int p1)] [] (ww hw 73 rfl) (ww hw 74 rfl) (ww hw 75 rfl) (ww hw 76 rfl) (by decide) (c_at2_0 l Z a0 hw h38 r_38 p1 e0_38 e1_38 g0_38 wE se xE F38_0 F38_1 F38_2 F38_3 F38_4 F38_5 F38_6 F38_7) pd_21 rfl rfl rfl rfl rfl (nl rfl) (nl rfl) (nl rfl) (nl rfl) at_134 rfl ?_
    rintro _ _ ⟨rfl, rfl⟩
    show Go _ _ _ _ _ _ _ _ _ _ _ _ 137 #[.val (.int p0), .val (.int p1), .val (.int p2), .val (.int p3), .val (.int p4), .val (.int (2 : Int32)), .val (.ref b27), .val (.ref r_38)] [(.int (1 : Int32))]
    refine Go.ifNo (pc' := 140) at_137 (XT.i0_eq_f (by decide)) rfl ?_
    refine Go.aload (pc' := 142) at_140 rfl rfl rfl ?_
    refine Go.iload (pc' := 144) at_142 rfl rfl ?_
    refine Go.iconst (pc' := 145) (v := (1 : Int32)) at_144 rfl rfl ?_
    refine Go.iloadN (pc' := 146) at_145 rfl rfl ?_
    refine Go.callS (cells' := 9) (slots' := 17) (pc' := 149) [(.ref r_38), (.int (2 : Int32)), (.int (1 : Int32)), (.int p2)] [] (ww hw 73 rfl) (ww hw 74 rfl) (ww hw 75 rfl) (ww hw 76 rfl) (by decide) (c_at2_1 l Z a0 hw h38 r_38 p2 e0_38 e1_38 g1_38 wE se xE F38_0 F38_1 F38_2 F38_8 F38_9 F38_10 F38_11 F38_12) pd_21 rfl rfl rfl rfl rfl (nl rfl) (nl rfl) (nl rfl) (nl rfl) at_146 rfl ?_
    rintro _ _ ⟨rfl, rfl⟩
    show Go _ _ _ _ _ _ _ _ _ _ _ _ 149 #[.val (.int p0), .val (.int p1), .val (.int p2), .val (.int p3), .val (.int p4), .val (.int (2 : Int32)), .val (.ref b27), .val (.ref r_38)] [(.int (1 : Int32))]
    refine Go.ifNo (pc' := 152) at_149 (XT.i0_eq_f (by decide)) rfl ?_
    refine Go.aload (pc' := 154) at_152 rfl rfl rfl ?_
    refine Go.iload (pc' := 156) at_154 rfl rfl ?_
    refine Go.iconst (pc' := 157) (v := (2 : Int32)) at_156 rfl rfl ?_
    refine Go.iloadN (pc' := 158) at_157 rfl rfl ?_
    refine Go.callS (cells' := 9) (slots' := 17) (pc' := 161) [(.ref r_38), (.int (2 : Int32)), (.int (2 : Int32)), (.int p3)] [] (ww hw 73 rfl) (ww hw 74 rfl) (ww hw 75 rfl) (ww hw 76 rfl) (by decide) (c_at2_2 l Z a0 hw h38 r_38 p3) pd_21 rfl rfl rfl rfl rfl (nl rfl) (nl rfl) (nl rfl) (nl rfl) at_158 rfl ?_
    rintro _ _ ⟨rfl, rfl⟩
    show Go _ _ _ _ _ _ _ _ _ _ _ _ 161 #[.val (.int p0), .val (.int p1), .val (.int p2), .val (.int p3), .val (.int p4), .val (.int (2 : Int32)), .val (.ref b27), .val (.ref r_38)] [(.int (1 : Int32))]
    refine Go.ifNo (pc' := 164) at_161 (XT.i0_eq_f (by decide)) rfl ?_
    refine Go.aload (pc' := 166) at_164 rfl rfl rfl ?_
    refine Go.iload (pc' := 168) at_166 rfl rfl ?_
    refine Go.iconst (pc' := 169) (v := (3 : Int32)) at_168 rfl rfl ?_
    refine Go.iload (pc' := 171) at_169 rfl rfl ?_
    refine Go.callS (cells' := 9) (slots' := 17) (pc' := 174) [(.ref r_38), (.int (2 : Int32)), (.int (3 : Int32)), (.int p4)] [] (ww hw 73 rfl) (ww hw 74 rfl) (ww hw 75 rfl) (ww hw 76 rfl) (by decide) (c_at2_3 l Z a0 hw h38 r_38 p4) pd_21 rfl rfl rfl rfl rfl (nl rfl) (nl rfl) (nl rfl) (nl rfl) at_171 rfl ?_
    rintro _ _ ⟨rfl, rfl⟩
    show Go _ _ _ _ _ _ _ _ _ _ _ _ 174 #[.val (.int p0), .val (.int p1), .val (.int p2), .val (.int p3), .val (.int p4), .val (.int (2 : Int32)), .val (.ref b27), .val (.ref r_38)] [(.int (1 : Int32))]
    refine Go.ifNo (pc' := 177) at_174 (XT.i0_eq_f (by decide)) rfl ?_
    refine Go.iconst (pc' := 178) (v := (1 : Int32)) at_177 rfl rfl ?_
    refine Go.goto (pc' := 182) at_178 (by decide) (by decide) ?_
    exact Go.retN (t := .boolean) rfl (by simp) at_182 ⟨rfl, K39⟩ (by decide) (by decide)
  ·
    rw [hk1]
    refine Go.iload (pc' := 10) at_8 rfl rfl ?_
    refine Go.ifYes (pc' := 21) at_10 (XT.i0_ne_t (by decide)) (by decide) (by decide) ?_
    refine Go.iload (pc' := 23) at_21 rfl rfl ?_
    refine Go.iconst (pc' := 24) (v := (1 : Int32)) at_23 rfl rfl ?_
    refine Go.icmpYes (pc' := 39) at_24 (XT.ii_ne_t (by decide)) (by decide) (by decide) ?_
    refine Go.iload (pc' := 41) at_39 rfl rfl ?_
    refine Go.iconst (pc' := 42) (v := (2 : Int32)) at_41 rfl rfl ?_
    refine Go.icmpYes (pc' := 61) at_42 (XT.ii_ne_t (by decide)) (by decide) (by decide) ?_
    refine Go.iload (pc' := 63) at_61 rfl rfl ?_
    refine Go.iconst (pc' := 64) (v := (3 : Int32)) at_63 rfl rfl ?_
    refine Go.icmpNo (pc' := 67) at_64 (XT.ii_ne_f (by decide)) rfl ?_
    refine Go.iconst (pc' := 68) (v := (3 : Int32)) at_67 rfl rfl ?_
    refine Go.newarray (pc' := 70) (cells' := 1) (slots' := 3) (cap := 3) (ww hw 1 rfl) at_68 (ad := "[I") (by decide) (by decide) (by decide) rfl rfl (by decide) (by decide) (by decide) rfl ?_
    intro h47 b47 g47 E47 ge47 kA47 A47 X47
    have sz48 : h.size ≤ b47 := Nat.le_trans (Keep.refl h []).1 (Nat.le_of_eq g47.symm)
    have K49 : Keep h h47 [] := (Keep.refl h []).ext E47
    have V47 : Arv Z h47 b47 kA47 .int (3 : Int32) [(.int 0), (.int 0), (.int 0)] (.int 0) := Arv.pad A47 (pad_rep [] (.int 0) 3)
    refine Go.dup (pc' := 71) at_70 rfl rfl ?_
    refine Go.iconst (pc' := 72) (v := (0 : Int32)) at_71 rfl rfl ?_
    refine Go.iloadN (pc' := 73) at_72 rfl rfl ?_
    refine Go.iastore (pc' := 74) V47 ge47 at_73 (by decide) (by decide) (i := 0) rfl (nl rfl) rfl ?_
    intro h50 W51 V52
    have K53 : Keep h h50 [] := K49.wr W51 (Or.inr sz48)
    replace V52 : Arv Z h50 b47 kA47 .int (3 : Int32) [(.int p1), (.int 0), (.int 0)] (.int 0) := V52
    refine Go.dup (pc' := 75) at_74 rfl rfl ?_
    refine Go.iconst (pc' := 76) (v := (1 : Int32)) at_75 rfl rfl ?_
    refine Go.iloadN (pc' := 77) at_76 rfl rfl ?_
    refine Go.iastore (pc' := 78) V52 ge47 at_77 (by decide) (by decide) (i := 1) rfl (nl rfl) rfl ?_
    intro h54 W55 V56
    have K57 : Keep h h54 [] := K53.wr W55 (Or.inr sz48)
    replace V56 : Arv Z h54 b47 kA47 .int (3 : Int32) [(.int p1), (.int p2), (.int 0)] (.int 0) := V56
    refine Go.dup (pc' := 79) at_78 rfl rfl ?_
    refine Go.iconst (pc' := 80) (v := (2 : Int32)) at_79 rfl rfl ?_
    refine Go.iloadN (pc' := 81) at_80 rfl rfl ?_
    refine Go.iastore (pc' := 82) V56 ge47 at_81 (by decide) (by decide) (i := 2) rfl (nl rfl) rfl ?_
    intro h58 W59 V60
    have K61 : Keep h h58 [] := K57.wr W59 (Or.inr sz48)
    replace V60 : Arv Z h58 b47 kA47 .int (3 : Int32) [(.int p1), (.int p2), (.int p3)] (.int 0) := V60
    refine Go.astore (pc' := 84) (Ls' := #[.val (.int p0), .val (.int p1), .val (.int p2), .val (.int p3), .val (.int p4), .val (.int (3 : Int32)), .val (.ref b47), .unset]) at_82 rfl rfl rfl ?_
    refine Go.goto (pc' := 109) at_84 (by decide) (by decide) ?_
    refine Go.aload (pc' := 111) at_109 rfl rfl rfl ?_
    refine Go.callS (cells' := 12) (slots' := 26) (pc' := 114) [(.ref b47)] [] (ww hw 2 rfl) (ww hw 3 rfl) (ww hw 4 rfl) (ww hw 5 rfl) (by decide) (c_wit3 l Z a0 hw h58 b47 kA47 p1 p2 p3 wd0 wE wL wLe kLe vsL mO wc kc vsc hcache sd0 se xE sl xL fL vL mo sh sc vc V60) pd_20 rfl rfl rfl rfl rfl (nl rfl) (nl rfl) (nl rfl) (nl rfl) at_111 rfl ?_
    rintro _ h62 ⟨r_62, c_62, kc2_62, e0_62, g0_62, e1_62, g1_62, e2_62, g2_62, rfl, K62, F62_0, F62_1, F62_2, F62_3, F62_4, F62_5, F62_6, F62_7, F62_8, F62_9, F62_10, F62_11, F62_12, F62_13, F62_14, F62_15, F62_16, F62_17⟩
    have K63 : Keep h h62 [] := K61.trans K62 all0
    show Go _ _ _ _ _ _ _ _ _ _ _ _ 114 #[.val (.int p0), .val (.int p1), .val (.int p2), .val (.int p3), .val (.int p4), .val (.int (3 : Int32)), .val (.ref b47), .unset] [(.ref r_62)]
    refine Go.astore (pc' := 116) (Ls' := #[.val (.int p0), .val (.int p1), .val (.int p2), .val (.int p3), .val (.int p4), .val (.int (3 : Int32)), .val (.ref b47), .val (.ref r_62)]) at_114 rfl rfl rfl ?_
    refine Go.aload (pc' := 118) at_116 rfl rfl rfl ?_
    refine Go.callI (cells' := 12) (slots' := 26) (pc' := 123) [] [] F62_0 (ww hw 61 rfl) (ww hw 62 rfl) (ww hw 63 rfl) (ww hw 64 rfl) (ww hw 65 rfl) (ww hw 66 rfl) (ww hw 67 rfl) (ww hw 68 rfl) (ww hw 69 rfl) (ww hw 70 rfl) (by decide) (c_lnSize l Z a0 hw h62 r_62 c_62 kc2_62 (3 : Int32) ([(.ref e0_62), (.ref e1_62), (.ref e2_62)]) F62_1 F62_2) pd_19 rfl rfl rfl rfl rfl (nl rfl) (nl rfl) (nl rfl) (nl rfl) at_118 rfl ?_
    rintro _ _ ⟨rfl, rfl⟩
    show Go _ _ _ _ _ _ _ _ _ _ _ _ 123 #[.val (.int p0), .val (.int p1), .val (.int p2), .val (.int p3), .val (.int p4), .val (.int (3 : Int32)), .val (.ref b47), .val (.ref r_62)] [(.int (3 : Int32))]
    refine Go.iload (pc' := 125) at_123 rfl rfl ?_
    refine Go.icmpNo (pc' := 128) at_125 (XT.ii_ne_f (by decide)) rfl ?_
    refine Go.aload (pc' := 130) at_128 rfl rfl rfl ?_
    refine Go.iload (pc' := 132) at_130 rfl rfl ?_
    refine Go.iconst (pc' := 133) (v := (0 : Int32)) at_132 rfl rfl ?_
    refine Go.iloadN (pc' := 134) at_133 rfl rfl ?_
    refine Go.callS (cells' := 12) (slots' := 26) (pc' := 137) [(.ref r_62), (.int (3 : Int32)), (.int (0 : Int32)), (.int p1)] [] (ww hw 73 rfl) (ww hw 74 rfl) (ww hw 75 rfl) (ww hw 76 rfl) (by decide) (c_at3_0 l Z a0 hw h62 r_62 p1 c_62 kc2_62 e0_62 e1_62 e2_62 g0_62 wE se xE F62_0 F62_1 F62_2 F62_3 F62_4 F62_5 F62_6 F62_7) pd_21 rfl rfl rfl rfl rfl (nl rfl) (nl rfl) (nl rfl) (nl rfl) at_134 rfl ?_
    rintro _ _ ⟨rfl, rfl⟩
    show Go _ _ _ _ _ _ _ _ _ _ _ _ 137 #[.val (.int p0), .val (.int p1), .val (.int p2), .val (.int p3), .val (.int p4), .val (.int (3 : Int32)), .val (.ref b47), .val (.ref r_62)] [(.int (1 : Int32))]
    refine Go.ifNo (pc' := 140) at_137 (XT.i0_eq_f (by decide)) rfl ?_
    refine Go.aload (pc' := 142) at_140 rfl rfl rfl ?_
    refine Go.iload (pc' := 144) at_142 rfl rfl ?_
    refine Go.iconst (pc' := 145) (v := (1 : Int32)) at_144 rfl rfl ?_
    refine Go.iloadN (pc' := 146) at_145 rfl rfl ?_
    refine Go.callS (cells' := 12) (slots' := 26) (pc' := 149) [(.ref r_62), (.int (3 : Int32)), (.int (1 : Int32)), (.int p2)] [] (ww hw 73 rfl) (ww hw 74 rfl) (ww hw 75 rfl) (ww hw 76 rfl) (by decide) (c_at3_1 l Z a0 hw h62 r_62 p2 c_62 kc2_62 e0_62 e1_62 e2_62 g1_62 wE se xE F62_0 F62_1 F62_2 F62_8 F62_9 F62_10 F62_11 F62_12) pd_21 rfl rfl rfl rfl rfl (nl rfl) (nl rfl) (nl rfl) (nl rfl) at_146 rfl ?_
    rintro _ _ ⟨rfl, rfl⟩
    show Go _ _ _ _ _ _ _ _ _ _ _ _ 149 #[.val (.int p0), .val (.int p1), .val (.int p2), .val (.int p3), .val (.int p4), .val (.int (3 : Int32)), .val (.ref b47), .val (.ref r_62)] [(.int (1 : Int32))]
    refine Go.ifNo (pc' := 152) at_149 (XT.i0_eq_f (by decide)) rfl ?_
    refine Go.aload (pc' := 154) at_152 rfl rfl rfl ?_
    refine Go.iload (pc' := 156) at_154 rfl rfl ?_
    refine Go.iconst (pc' := 157) (v := (2 : Int32)) at_156 rfl rfl ?_
    refine Go.iloadN (pc' := 158) at_157 rfl rfl ?_
    refine Go.callS (cells' := 12) (slots' := 26) (pc' := 161) [(.ref r_62), (.int (3 : Int32)), (.int (2 : Int32)), (.int p3)] [] (ww hw 73 rfl) (ww hw 74 rfl) (ww hw 75 rfl) (ww hw 76 rfl) (by decide) (c_at3_2 l Z a0 hw h62 r_62 p3 c_62 kc2_62 e0_62 e1_62 e2_62 g2_62 wE se xE F62_0 F62_1 F62_2 F62_13 F62_14 F62_15 F62_16 F62_17) pd_21 rfl rfl rfl rfl rfl (nl rfl) (nl rfl) (nl rfl) (nl rfl) at_158 rfl ?_
    rintro _ _ ⟨rfl, rfl⟩
    show Go _ _ _ _ _ _ _ _ _ _ _ _ 161 #[.val (.int p0), .val (.int p1), .val (.int p2), .val (.int p3), .val (.int p4), .val (.int (3 : Int32)), .val (.ref b47), .val (.ref r_62)] [(.int (1 : Int32))]
    refine Go.ifNo (pc' := 164) at_161 (XT.i0_eq_f (by decide)) rfl ?_
    refine Go.aload (pc' := 166) at_164 rfl rfl rfl ?_
    refine Go.iload (pc' := 168) at_166 rfl rfl ?_
    refine Go.iconst (pc' := 169) (v := (3 : Int32)) at_168 rfl rfl ?_
    refine Go.iload (pc' := 171) at_169 rfl rfl ?_
    refine Go.callS (cells' := 12) (slots' := 26) (pc' := 174) [(.ref r_62), (.int (3 : Int32)), (.int (3 : Int32)), (.int p4)] [] (ww hw 73 rfl) (ww hw 74 rfl) (ww hw 75 rfl) (ww hw 76 rfl) (by decide) (c_at3_3 l Z a0 hw h62 r_62 p4) pd_21 rfl rfl rfl rfl rfl (nl rfl) (nl rfl) (nl rfl) (nl rfl) at_171 rfl ?_
    rintro _ _ ⟨rfl, rfl⟩
    show Go _ _ _ _ _ _ _ _ _ _ _ _ 174 #[.val (.int p0), .val (.int p1), .val (.int p2), .val (.int p3), .val (.int p4), .val (.int (3 : Int32)), .val (.ref b47), .val (.ref r_62)] [(.int (1 : Int32))]
    refine Go.ifNo (pc' := 177) at_174 (XT.i0_eq_f (by decide)) rfl ?_
    refine Go.iconst (pc' := 178) (v := (1 : Int32)) at_177 rfl rfl ?_
    refine Go.goto (pc' := 182) at_178 (by decide) (by decide) ?_
    exact Go.retN (t := .boolean) rfl (by simp) at_182 ⟨rfl, K63⟩ (by decide) (by decide)
  ·
    rw [hk1]
    refine Go.iload (pc' := 10) at_8 rfl rfl ?_
    refine Go.ifYes (pc' := 21) at_10 (XT.i0_ne_t (by decide)) (by decide) (by decide) ?_
    refine Go.iload (pc' := 23) at_21 rfl rfl ?_
    refine Go.iconst (pc' := 24) (v := (1 : Int32)) at_23 rfl rfl ?_
    refine Go.icmpYes (pc' := 39) at_24 (XT.ii_ne_t (by decide)) (by decide) (by decide) ?_
    refine Go.iload (pc' := 41) at_39 rfl rfl ?_
    refine Go.iconst (pc' := 42) (v := (2 : Int32)) at_41 rfl rfl ?_
    refine Go.icmpYes (pc' := 61) at_42 (XT.ii_ne_t (by decide)) (by decide) (by decide) ?_
    refine Go.iload (pc' := 63) at_61 rfl rfl ?_
    refine Go.iconst (pc' := 64) (v := (3 : Int32)) at_63 rfl rfl ?_
    refine Go.icmpYes (pc' := 87) at_64 (XT.ii_ne_t (by decide)) (by decide) (by decide) ?_
    refine Go.iconst (pc' := 88) (v := (4 : Int32)) at_87 rfl rfl ?_
    refine Go.newarray (pc' := 90) (cells' := 1) (slots' := 4) (cap := 4) (ww hw 1 rfl) at_88 (ad := "[I") (by decide) (by decide) (by decide) rfl rfl (by decide) (by decide) (by decide) rfl ?_
    intro h69 b69 g69 E69 ge69 kA69 A69 X69
    have sz70 : h.size ≤ b69 := Nat.le_trans (Keep.refl h []).1 (Nat.le_of_eq g69.symm)
    have K71 : Keep h h69 [] := (Keep.refl h []).ext E69
    have V69 : Arv Z h69 b69 kA69 .int (4 : Int32) [(.int 0), (.int 0), (.int 0), (.int 0)] (.int 0) := Arv.pad A69 (pad_rep [] (.int 0) 4)
    refine Go.dup (pc' := 91) at_90 rfl rfl ?_
    refine Go.iconst (pc' := 92) (v := (0 : Int32)) at_91 rfl rfl ?_
    refine Go.iloadN (pc' := 93) at_92 rfl rfl ?_
    refine Go.iastore (pc' := 94) V69 ge69 at_93 (by decide) (by decide) (i := 0) rfl (nl rfl) rfl ?_
    intro h72 W73 V74
    have K75 : Keep h h72 [] := K71.wr W73 (Or.inr sz70)
    replace V74 : Arv Z h72 b69 kA69 .int (4 : Int32) [(.int p1), (.int 0), (.int 0), (.int 0)] (.int 0) := V74
    refine Go.dup (pc' := 95) at_94 rfl rfl ?_
    refine Go.iconst (pc' := 96) (v := (1 : Int32)) at_95 rfl rfl ?_
    refine Go.iloadN (pc' := 97) at_96 rfl rfl ?_
    refine Go.iastore (pc' := 98) V74 ge69 at_97 (by decide) (by decide) (i := 1) rfl (nl rfl) rfl ?_
    intro h76 W77 V78
    have K79 : Keep h h76 [] := K75.wr W77 (Or.inr sz70)
    replace V78 : Arv Z h76 b69 kA69 .int (4 : Int32) [(.int p1), (.int p2), (.int 0), (.int 0)] (.int 0) := V78
    refine Go.dup (pc' := 99) at_98 rfl rfl ?_
    refine Go.iconst (pc' := 100) (v := (2 : Int32)) at_99 rfl rfl ?_
    refine Go.iloadN (pc' := 101) at_100 rfl rfl ?_
    refine Go.iastore (pc' := 102) V78 ge69 at_101 (by decide) (by decide) (i := 2) rfl (nl rfl) rfl ?_
    intro h80 W81 V82
    have K83 : Keep h h80 [] := K79.wr W81 (Or.inr sz70)
    replace V82 : Arv Z h80 b69 kA69 .int (4 : Int32) [(.int p1), (.int p2), (.int p3), (.int 0)] (.int 0) := V82
    refine Go.dup (pc' := 103) at_102 rfl rfl ?_
    refine Go.iconst (pc' := 104) (v := (3 : Int32)) at_103 rfl rfl ?_
    refine Go.iload (pc' := 106) at_104 rfl rfl ?_
    refine Go.iastore (pc' := 107) V82 ge69 at_106 (by decide) (by decide) (i := 3) rfl (nl rfl) rfl ?_
    intro h84 W85 V86
    have K87 : Keep h h84 [] := K83.wr W85 (Or.inr sz70)
    replace V86 : Arv Z h84 b69 kA69 .int (4 : Int32) [(.int p1), (.int p2), (.int p3), (.int p4)] (.int 0) := V86
    refine Go.astore (pc' := 109) (Ls' := #[.val (.int p0), .val (.int p1), .val (.int p2), .val (.int p3), .val (.int p4), .val (.int (4 : Int32)), .val (.ref b69), .unset]) at_107 rfl rfl rfl ?_
    refine Go.aload (pc' := 111) at_109 rfl rfl rfl ?_
    refine Go.callS (cells' := 14) (slots' := 33) (pc' := 114) [(.ref b69)] [] (ww hw 2 rfl) (ww hw 3 rfl) (ww hw 4 rfl) (ww hw 5 rfl) (by decide) (c_wit4 l Z a0 hw h84 b69 kA69 p1 p2 p3 p4 wd0 wE wL wLe kLe vsL mO wc kc vsc hcache sd0 se xE sl xL fL vL mo sh sc vc V86) pd_20 rfl rfl rfl rfl rfl (nl rfl) (nl rfl) (nl rfl) (nl rfl) at_111 rfl ?_
    rintro _ h88 ⟨r_88, c_88, kc2_88, e0_88, g0_88, e1_88, g1_88, e2_88, g2_88, e3_88, g3_88, rfl, K88, F88_0, F88_1, F88_2, F88_3, F88_4, F88_5, F88_6, F88_7, F88_8, F88_9, F88_10, F88_11, F88_12, F88_13, F88_14, F88_15, F88_16, F88_17, F88_18, F88_19, F88_20, F88_21, F88_22⟩
    have K89 : Keep h h88 [] := K87.trans K88 all0
    show Go _ _ _ _ _ _ _ _ _ _ _ _ 114 #[.val (.int p0), .val (.int p1), .val (.int p2), .val (.int p3), .val (.int p4), .val (.int (4 : Int32)), .val (.ref b69), .unset] [(.ref r_88)]
    refine Go.astore (pc' := 116) (Ls' := #[.val (.int p0), .val (.int p1), .val (.int p2), .val (.int p3), .val (.int p4), .val (.int (4 : Int32)), .val (.ref b69), .val (.ref r_88)]) at_114 rfl rfl rfl ?_
    refine Go.aload (pc' := 118) at_116 rfl rfl rfl ?_
    refine Go.callI (cells' := 14) (slots' := 33) (pc' := 123) [] [] F88_0 (ww hw 61 rfl) (ww hw 62 rfl) (ww hw 63 rfl) (ww hw 64 rfl) (ww hw 65 rfl) (ww hw 66 rfl) (ww hw 67 rfl) (ww hw 68 rfl) (ww hw 69 rfl) (ww hw 70 rfl) (by decide) (c_lnSize l Z a0 hw h88 r_88 c_88 kc2_88 (4 : Int32) ([(.ref e0_88), (.ref e1_88), (.ref e2_88), (.ref e3_88)]) F88_1 F88_2) pd_19 rfl rfl rfl rfl rfl (nl rfl) (nl rfl) (nl rfl) (nl rfl) at_118 rfl ?_
    rintro _ _ ⟨rfl, rfl⟩
    show Go _ _ _ _ _ _ _ _ _ _ _ _ 123 #[.val (.int p0), .val (.int p1), .val (.int p2), .val (.int p3), .val (.int p4), .val (.int (4 : Int32)), .val (.ref b69), .val (.ref r_88)] [(.int (4 : Int32))]
    refine Go.iload (pc' := 125) at_123 rfl rfl ?_
    refine Go.icmpNo (pc' := 128) at_125 (XT.ii_ne_f (by decide)) rfl ?_
    refine Go.aload (pc' := 130) at_128 rfl rfl rfl ?_
    refine Go.iload (pc' := 132) at_130 rfl rfl ?_
    refine Go.iconst (pc' := 133) (v := (0 : Int32)) at_132 rfl rfl ?_
    refine Go.iloadN (pc' := 134) at_133 rfl rfl ?_
    refine Go.callS (cells' := 14) (slots' := 33) (pc' := 137) [(.ref r_88), (.int (4 : Int32)), (.int (0 : Int32)), (.int p1)] [] (ww hw 73 rfl) (ww hw 74 rfl) (ww hw 75 rfl) (ww hw 76 rfl) (by decide) (c_at4_0 l Z a0 hw h88 r_88 p1 c_88 kc2_88 e0_88 e1_88 e2_88 e3_88 g0_88 wE se xE F88_0 F88_1 F88_2 F88_3 F88_4 F88_5 F88_6 F88_7) pd_21 rfl rfl rfl rfl rfl (nl rfl) (nl rfl) (nl rfl) (nl rfl) at_134 rfl ?_
    rintro _ _ ⟨rfl, rfl⟩
    show Go _ _ _ _ _ _ _ _ _ _ _ _ 137 #[.val (.int p0), .val (.int p1), .val (.int p2), .val (.int p3), .val (.int p4), .val (.int (4 : Int32)), .val (.ref b69), .val (.ref r_88)] [(.int (1 : Int32))]
    refine Go.ifNo (pc' := 140) at_137 (XT.i0_eq_f (by decide)) rfl ?_
    refine Go.aload (pc' := 142) at_140 rfl rfl rfl ?_
    refine Go.iload (pc' := 144) at_142 rfl rfl ?_
    refine Go.iconst (pc' := 145) (v := (1 : Int32)) at_144 rfl rfl ?_
    refine Go.iloadN (pc' := 146) at_145 rfl rfl ?_
    refine Go.callS (cells' := 14) (slots' := 33) (pc' := 149) [(.ref r_88), (.int (4 : Int32)), (.int (1 : Int32)), (.int p2)] [] (ww hw 73 rfl) (ww hw 74 rfl) (ww hw 75 rfl) (ww hw 76 rfl) (by decide) (c_at4_1 l Z a0 hw h88 r_88 p2 c_88 kc2_88 e0_88 e1_88 e2_88 e3_88 g1_88 wE se xE F88_0 F88_1 F88_2 F88_8 F88_9 F88_10 F88_11 F88_12) pd_21 rfl rfl rfl rfl rfl (nl rfl) (nl rfl) (nl rfl) (nl rfl) at_146 rfl ?_
    rintro _ _ ⟨rfl, rfl⟩
    show Go _ _ _ _ _ _ _ _ _ _ _ _ 149 #[.val (.int p0), .val (.int p1), .val (.int p2), .val (.int p3), .val (.int p4), .val (.int (4 : Int32)), .val (.ref b69), .val (.ref r_88)] [(.int (1 : Int32))]
    refine Go.ifNo (pc' := 152) at_149 (XT.i0_eq_f (by decide)) rfl ?_
    refine Go.aload (pc' := 154) at_152 rfl rfl rfl ?_
    refine Go.iload (pc' := 156) at_154 rfl rfl ?_
    refine Go.iconst (pc' := 157) (v := (2 : Int32)) at_156 rfl rfl ?_
    refine Go.iloadN (pc' := 158) at_157 rfl rfl ?_
    refine Go.callS (cells' := 14) (slots' := 33) (pc' := 161) [(.ref r_88), (.int (4 : Int32)), (.int (2 : Int32)), (.int p3)] [] (ww hw 73 rfl) (ww hw 74 rfl) (ww hw 75 rfl) (ww hw 76 rfl) (by decide) (c_at4_2 l Z a0 hw h88 r_88 p3 c_88 kc2_88 e0_88 e1_88 e2_88 e3_88 g2_88 wE se xE F88_0 F88_1 F88_2 F88_13 F88_14 F88_15 F88_16 F88_17) pd_21 rfl rfl rfl rfl rfl (nl rfl) (nl rfl) (nl rfl) (nl rfl) at_158 rfl ?_
    rintro _ _ ⟨rfl, rfl⟩
    show Go _ _ _ _ _ _ _ _ _ _ _ _ 161 #[.val (.int p0), .val (.int p1), .val (.int p2), .val (.int p3), .val (.int p4), .val (.int (4 : Int32)), .val (.ref b69), .val (.ref r_88)] [(.int (1 : Int32))]
    refine Go.ifNo (pc' := 164) at_161 (XT.i0_eq_f (by decide)) rfl ?_
    refine Go.aload (pc' := 166) at_164 rfl rfl rfl ?_
    refine Go.iload (pc' := 168) at_166 rfl rfl ?_
    refine Go.iconst (pc' := 169) (v := (3 : Int32)) at_168 rfl rfl ?_
    refine Go.iload (pc' := 171) at_169 rfl rfl ?_
    refine Go.callS (cells' := 14) (slots' := 33) (pc' := 174) [(.ref r_88), (.int (4 : Int32)), (.int (3 : Int32)), (.int p4)] [] (ww hw 73 rfl) (ww hw 74 rfl) (ww hw 75 rfl) (ww hw 76 rfl) (by decide) (c_at4_3 l Z a0 hw h88 r_88 p4 c_88 kc2_88 e0_88 e1_88 e2_88 e3_88 g3_88 wE se xE F88_0 F88_1 F88_2 F88_18 F88_19 F88_20 F88_21 F88_22) pd_21 rfl rfl rfl rfl rfl (nl rfl) (nl rfl) (nl rfl) (nl rfl) at_171 rfl ?_
    rintro _ _ ⟨rfl, rfl⟩
    show Go _ _ _ _ _ _ _ _ _ _ _ _ 174 #[.val (.int p0), .val (.int p1), .val (.int p2), .val (.int p3), .val (.int p4), .val (.int (4 : Int32)), .val (.ref b69), .val (.ref r_88)] [(.int (1 : Int32))]
    refine Go.ifNo (pc' := 177) at_174 (XT.i0_eq_f (by decide)) rfl ?_
    refine Go.iconst (pc' := 178) (v := (1 : Int32)) at_177 rfl rfl ?_
    refine Go.goto (pc' := 182) at_178 (by decide) (by decide) ?_
    exact Go.retN (t := .boolean) rfl (by simp) at_182 ⟨rfl, K89⟩ (by decide) (by decide)
set_option maxRecDepth 65536 in
set_option maxHeartbeats 4000000 in
theorem comes_1 {Post : Tables → Env → Array Value → State → Outcome → State → Prop} (hpost : ∀ tb e args s v u, (limb_1_1.after args s (.returned v) u = true ∧ limb_1_2.after args s (.returned v) u = true ∧ True) → FrameEnd s (.returned v) u (Jvm.fieldLocs frame_1_writes args s ++ Jvm.arrayLocs frame_1_arrays args s ++ Jvm.staticLocs frame_1_statics s) 40 192 → Post tb e args s (.returned v) u) :
    ArmFor flags0 classFile x code maxLocals ret World_1 tables_1 room_1 Calls_1 rest_1 Pre_1 Post := by
  intro l hfl _ _ p e ha hc hk s m args below hf hA hF happ hP
  obtain ⟨hcalls, hrest, hpre⟩ := hP
  obtain ⟨-, -, -, hnamed, -, -, -, hat⟩ := (Spec.applies_iff hf).mp happ
  obtain ⟨hg, hn⟩ := and_e (Cond.before_iff.mp (show (Jvm.Cond.and given_1 narrow_1).before args s = true from hpre))
  obtain ⟨g1, g2⟩ := and_e hg
  obtain ⟨g3, g4⟩ := and_e g2
  obtain ⟨g5, g6⟩ := and_e g4
  obtain ⟨g7, g8⟩ := and_e g6
  obtain ⟨g9, g10⟩ := and_e g8
  obtain ⟨w0, w1, w2, w3, w4, rfl⟩ : ∃ w0 w1 w2 w3 w4 : Value, args = #[w0, w1, w2, w3, w4] := by
    have hs : args.size = 5 := by simpa [Cond.value, given_1] using g1
    obtain ⟨L⟩ := args
    match L, hs with
    | [w0, w1, w2, w3, w4], _ => exact ⟨w0, w1, w2, w3, w4, rfl⟩
  have hw := fun d (hd : d ∈ tables_1) => atoms_spec (ws := Jvm.Cond.code x code maxLocals ret :: tables_1) hat d (List.mem_cons_of_mem _ hd)
  have hfit : Fit s := fun {y c} hc i hi => by
    obtain ⟨ha, rfl⟩ := Array.getElem?_eq_some_iff.mp hc
    have q := List.all_eq_true.mp ((Array.all_eq_true_iff_forall_mem.mp hF) _ (Array.getElem_mem ha)) i (List.mem_range.mpr hi)
    simpa [Array.getElem?_eq_getElem hi] using q
  obtain ⟨hsets, hown0⟩ := atoms_of _ (rest_1_c_eq ▸ (show rest_1_c.before _ s = true from hrest))
  have hr0 := Cond.before_iff.mp hown0
  obtain ⟨i0, ei0⟩ := is_v g3
  obtain rfl : w0 = (.int i0) := Option.some.inj ei0
  obtain ⟨i1, ei1⟩ := is_v g5
  obtain rfl : w1 = (.int i1) := Option.some.inj ei1
  obtain ⟨i2, ei2⟩ := is_v g7
  obtain rfl : w2 = (.int i2) := Option.some.inj ei2
  obtain ⟨i3, ei3⟩ := is_v g9
  obtain rfl : w3 = (.int i3) := Option.some.inj ei3
  obtain ⟨i4, ei4⟩ := is_v g10
  obtain rfl : w4 = (.int i4) := Option.some.inj ei4
  obtain ⟨wd0, ev_wd0⟩ := arr_v (Cond.before_iff.mp (hsets _ (List.mem_of_getElem? (i := 3) rfl)))
  obtain ⟨cd0, A_wd0, hs1_wd0, hs2_wd0⟩ := own_arr ev_wd0 (Cond.before_iff.mp (hsets _ (List.mem_of_getElem? (i := 3) rfl))) (own_eqI (Cond.before_iff.mp (hsets _ (List.mem_of_getElem? (i := 5) rfl))))
  have sta_wd0 := Sta.start ev_wd0 (Or.inl (hsets _ (List.mem_of_getElem? (i := 1) rfl)))
  have arv_wd0 := own_arvAny (dv := .null) hfit A_wd0 hs1_wd0 hs2_wd0 (by decide)
  have exa_wd0 := Exa.start ev_wd0 (Cond.before_iff.mp (hsets _ (List.mem_of_getElem? (i := 4) rfl)))
  obtain ⟨wE, ev_wE⟩ := exa_v (Cond.before_iff.mp (hsets _ (List.mem_of_getElem? (i := 26) rfl)))
  have exa_wE := Exa.start ev_wE (Cond.before_iff.mp (hsets _ (List.mem_of_getElem? (i := 26) rfl)))
  have sta_wE := Sta.start ev_wE (Or.inl (hsets _ (List.mem_of_getElem? (i := 25) rfl)))
  obtain ⟨wL, ev_wL⟩ := exa_v (Cond.before_iff.mp (hsets _ (List.mem_of_getElem? (i := 11) rfl)))
  have exa_wL := Exa.start ev_wL (Cond.before_iff.mp (hsets _ (List.mem_of_getElem? (i := 11) rfl)))
  have sta_wL := Sta.start ev_wL (Or.inl (hsets _ (List.mem_of_getElem? (i := 10) rfl)))
  obtain ⟨wLe, ev_wLe⟩ := arr_v (Cond.before_iff.mp (hsets _ (List.mem_of_getElem? (i := 12) rfl)))
  have fld_wL := own_fld ev_wL ev_wLe
  obtain ⟨cLe, A_wLe, hs1_wLe, hs2_wLe⟩ := own_arr ev_wLe (Cond.before_iff.mp (hsets _ (List.mem_of_getElem? (i := 12) rfl))) (own_eqI (Cond.before_iff.mp (hsets _ (List.mem_of_getElem? (i := 14) rfl))))
  have arv_wLe := own_arvAny (dv := .null) hfit A_wLe hs1_wLe hs2_wLe (by decide)
  have ev_high := own_eqI (Cond.before_iff.mp (hsets _ (List.mem_of_getElem? (i := 19) rfl)))
  have sta_high := Sta.start ev_high (Or.inl (hsets _ (List.mem_of_getElem? (i := 17) rfl)))
  obtain ⟨wc, ev_wc⟩ := arr_v (Cond.before_iff.mp (hsets _ (List.mem_of_getElem? (i := 20) rfl)))
  obtain ⟨cc, A_wc, hs1_wc, hs2_wc⟩ := own_arr ev_wc (Cond.before_iff.mp (hsets _ (List.mem_of_getElem? (i := 20) rfl))) (own_eqI (Cond.before_iff.mp (hsets _ (List.mem_of_getElem? (i := 22) rfl))))
  have sta_wc := Sta.start ev_wc (Or.inr ⟨(ww hw 84 rfl), (hsets _ (List.mem_of_getElem? (i := 18) rfl))⟩)
  have arv_wc := own_arvAny (dv := .null) hfit A_wc hs1_wc hs2_wc (by decide)
  have exa_wc := Exa.start ev_wc (Cond.before_iff.mp (hsets _ (List.mem_of_getElem? (i := 21) rfl)))
  have hcache := own_cache (own_static_idx ev_wc) A_wc hs1_wc hs2_wc (Cond.before_iff.mp (hsets _ (List.mem_of_getElem? (i := 23) rfl)))
  obtain ⟨cO, kO, mO, mo1, mo2, mo3, -⟩ := hcalls.1
  have mirO : Mi s "[Ljava/lang/Object;" mO := ⟨cO, kO, mo1, mo2, mo3⟩
  obtain ⟨n, o, h1, h2, h3, _, L, rfl, ⟨hQ, N⟩, hq⟩ := c_law l s _ hw s.heap i0 i1 i2 i3 i4 wd0 wE wL wLe cLe.cls cLe.slots.toList mO wc cc.cls cc.slots.toList hcache sta_wd0 sta_wE exa_wE sta_wL exa_wL fld_wL arv_wLe mirO sta_high sta_wc arv_wc (Old.start s) tables_1 p e ha hc hk s m _ below hf ((Spec.applies_iff_loose hf).mp happ).1 ⟨rfl, State.Warmed39.refl s, rfl⟩ trivial
  obtain rfl := hQ.1
  refine ⟨n, _, h1, h2, h3, hpost _ _ _ _ _ _ ⟨Cond.after_iff.mpr rfl, Cond.after_iff.mpr (eq_i res_at (Term.int_eval (1)) rfl), trivial⟩ ⟨hq.1, hq.2.1, (hq.2.2.sift fun y hy => Or.inr (N y hy)).mono (by decide) (by decide)⟩⟩
theorem main_1_1 : Claimed_1_1 := comes_1 fun _ _ _ _ _ _ h hF => ⟨h.1, hF⟩
theorem main_1_2 : Claimed_1_2 := comes_1 fun _ _ _ _ _ _ h hF => ⟨h.2.1, hF⟩

end Jvm.Pilot.@@N@@
namespace Jvm.Pilot.@@N@@
open Jvm Jvm.ClassFile Sem Op Lib Jvm.Free Jvm.Stand Jvm.Pilot.@@N@@.Jvm.D
/-! MADE BY PROGRAM (witnessworld.py) out of the Statement's table words and the real class files: 36 classes; the members and pool entries that the words name. The judged class is class 1, her method 2. -/
namespace start1
open Jvm.ClassFile
def u (s : String) : CpInfo := .utf8 (stringToUtf16 s)
/-- a pool by its gaps: so many unusable entries, then the entry; so many at the end -/
def gap : Nat → List CpInfo → List CpInfo
  | 0, r => r
  | n + 1, r => .unusable :: gap n r
def poolList (es : List (Nat × CpInfo)) (last : Nat) : List CpInfo := es.foldr (fun e r => gap e.1 (e.2 :: r)) (gap last [])
def pool (es : List (Nat × CpInfo)) (last : Nat) : Array CpInfo := ⟨poolList es last⟩
def fileOf (pool : Array CpInfo) (this : Nat) (attrs : Array Attribute := #[]) (ms : Array MethodInfo := #[]) (fl : Nat := 33) (sup : Nat := 0) (ifs : Array Nat := #[]) (fds : Array FieldInfo := #[]) : ClassFile where
  minorVersion := 0
  majorVersion := 65
  constantPool := pool
  accessFlags := fl
  thisClass := this
  superClass := sup
  interfaces := ifs
  fields := fds
  methods := ms
  attributes := attrs
def plain (name : String) (sup : Option ClassId) : Class where
  name := name
  kind := .ordinary
  loader := none
  accessFlags := 33
  super := sup
  interfaces := #[]
  cf := none
  fields := #[]
  methods := #[]
  instanceTypes := #[]
  staticTypes := #[]
  resolved := #[]
  callSites := []
  init := .initialized
  statics := none
  mirror := none

def pool0 : Array CpInfo := pool [(5, u "<init>"), (0, u "()V"), (1, .class_ 10), (1, u "java/lang/Object"), (0, u "getClass"), (0, u "()Ljava/lang/Class;")] 111

def k0c0 : Code := { maxStack := 0, maxLocals := 1, code := object_method_1_code, exceptionTable := #[], attributes := #[] }
def k0m0 : Method := { name := "<init>", desc := "()V", sig := { parameters := [], returnType := none }, accessFlags := 1, code := some k0c0 }
def k0m1 : Method := { name := "getClass", desc := "()Ljava/lang/Class;", sig := { parameters := [], returnType := some (.object "java/lang/Class") }, accessFlags := 273, code := none }
/-- java/lang/Object -/
def k0 : Class := { plain "java/lang/Object" none with
  accessFlags := 33
  interfaces := #[]
  cf := some (fileOf pool0 8 #[] #[{ accessFlags := 1, nameIndex := 5, descriptorIndex := 6, attributes := #[] }, { accessFlags := 273, nameIndex := 11, descriptorIndex := 12, attributes := #[] }] 33 0 #[] #[])
  fields := #[]
  methods := #[k0m0, k0m1]
  instanceTypes := #[]
  staticTypes := #[]
  resolved := Array.replicate 124 none
  statics := none }

def pool1 : Array CpInfo := pool [(2, .class_ 4), (1, u "java/lang/Object"), (0, u "<init>"), (0, u "()V"), (0, .interfaceMethodref 8 9), (0, .class_ 10), (0, .nameAndType 11 12), (0, u "java/util/List"), (0, u "get"), (0, u "(I)Ljava/lang/Object;"), (0, .interfaceMethodref 8 14), (0, .nameAndType 15 16), (0, u "size"), (0, u "()I"), (0, .class_ 18), (0, u "java/lang/Integer"), (0, .methodref 17 20), (0, .nameAndType 21 16), (0, u "intValue"), (0, .integer 2147483647), (0, .methodref 24 25), (0, .class_ 26), (0, .nameAndType 27 28), (0, u "com/example/wildmotif/wildmotif/match/Outcome"), (0, u "witnessOfSingleNodes"), (0, u "([I)Ljava/util/List;"), (0, .methodref 30 31), (0, .class_ 32), (0, .nameAndType 33 34), (0, u "com/example/wildmotif/wildmotif/match/OutcomeWitnessOfSingleNodesPinLaw"), (0, u "at"), (0, u "(Ljava/util/List;III)Z"), (5, u "law"), (0, u "(IIIII)Z")] 4

def k1m0 : Method := { name := "<init>", desc := "()V", sig := { parameters := [], returnType := none }, accessFlags := 2, code := none }
def k1c1 : Code := { maxStack := 2, maxLocals := 5, code := method_2_code, exceptionTable := #[], attributes := #[] }
def k1m1 : Method := { name := "at", desc := "(Ljava/util/List;III)Z", sig := { parameters := [(.object "java/util/List"), .int, .int, .int], returnType := some .boolean }, accessFlags := 10, code := some k1c1 }
def k1c2 : Code := { maxStack := 4, maxLocals := 8, code := code, exceptionTable := #[], attributes := #[] }
def k1m2 : Method := { name := "law", desc := "(IIIII)Z", sig := { parameters := [.int, .int, .int, .int, .int], returnType := some .boolean }, accessFlags := 9, code := some k1c2 }
/-- com/example/wildmotif/wildmotif/match/OutcomeWitnessOfSingleNodesPinLaw -/
def k1 : Class := { plain "com/example/wildmotif/wildmotif/match/OutcomeWitnessOfSingleNodesPinLaw" (some 0) with
  accessFlags := 49
  interfaces := #[]
  cf := some (fileOf pool1 30 #[] #[{ accessFlags := 2, nameIndex := 5, descriptorIndex := 6, attributes := #[] }, { accessFlags := 10, nameIndex := 33, descriptorIndex := 34, attributes := #[] }, { accessFlags := 9, nameIndex := 40, descriptorIndex := 41, attributes := #[] }] 49 2 #[] #[])
  fields := #[]
  methods := #[k1m0, k1m1, k1m2]
  instanceTypes := #[]
  staticTypes := #[]
  resolved := Array.replicate 46 none
  statics := none }

def pool2 : Array CpInfo := pool [(2, .class_ 4), (1, u "java/lang/Object"), (0, u "<init>"), (0, u "()V"), (0, .class_ 8), (0, u "java/lang/Record")] 13

def k2m0 : Method := { name := "<init>", desc := "()V", sig := { parameters := [], returnType := none }, accessFlags := 4, code := none }
/-- java/lang/Record -/
def k2 : Class := { plain "java/lang/Record" (some 0) with
  accessFlags := 1057
  interfaces := #[]
  cf := some (fileOf pool2 7 #[] #[{ accessFlags := 4, nameIndex := 5, descriptorIndex := 6, attributes := #[] }] 1057 2 #[] #[])
  fields := #[]
  methods := #[k2m0]
  instanceTypes := #[]
  staticTypes := #[]
  resolved := Array.replicate 22 none
  statics := none }

def pool3 : Array CpInfo := pool [(2, .class_ 4), (1, u "java/lang/Record"), (0, u "<init>"), (1, .class_ 8), (0, u "java/util/ArrayList"), (1, .class_ 12), (1, u "java/util/List"), (2, .methodref 7 16), (0, .nameAndType 5 17), (0, u "(I)V"), (14, .interfaceMethodref 10 33), (0, .nameAndType 34 35), (0, u "copyOf"), (0, u "(Ljava/util/Collection;)Ljava/util/List;"), (0, .interfaceMethodref 10 37), (0, .nameAndType 38 39), (0, u "add"), (0, u "(Ljava/lang/Object;)Z"), (1, .class_ 43), (1, u "com/example/wildmotif/wildmotif/match/Outcome"), (0, u "verdict"), (0, u "Lcom/example/wildmotif/wildmotif/match/Verdict;"), (2, u "witness"), (0, u "Ljava/util/List;"), (7, u "witnessOfSingleNodes"), (0, u "([I)Ljava/util/List;"), (3, .methodref 63 64), (0, .class_ 65), (0, .nameAndType 66 67), (0, u "java/lang/Integer"), (0, u "valueOf"), (0, u "(I)Ljava/lang/Integer;"), (0, .interfaceMethodref 10 69), (0, .nameAndType 70 71), (0, u "of"), (0, u "(Ljava/lang/Object;)Ljava/util/List;"), (2, u "NO_MATCH"), (0, u "Lcom/example/wildmotif/wildmotif/match/Outcome;"), (2, u "UNKNOWN")] 59

def k3c0 : Code := { maxStack := 3, maxLocals := 6, code := prog_11_method_3_code, exceptionTable := #[], attributes := #[] }
def k3m0 : Method := { name := "witnessOfSingleNodes", desc := "([I)Ljava/util/List;", sig := { parameters := [(.array .int)], returnType := some (.object "java/util/List") }, accessFlags := 8, code := some k3c0 }
/-- com/example/wildmotif/wildmotif/match/Outcome -/
def k3 : Class := { plain "com/example/wildmotif/wildmotif/match/Outcome" (some 2) with
  accessFlags := 49
  interfaces := #[]
  cf := some (fileOf pool3 41 #[] #[{ accessFlags := 8, nameIndex := 57, descriptorIndex := 58, attributes := #[] }] 49 2 #[] #[{ accessFlags := 18, nameIndex := 44, descriptorIndex := 45, attributes := #[] }, { accessFlags := 18, nameIndex := 48, descriptorIndex := 49, attributes := #[] }, { accessFlags := 26, nameIndex := 74, descriptorIndex := 75, attributes := #[] }, { accessFlags := 26, nameIndex := 78, descriptorIndex := 75, attributes := #[] }])
  fields := #[{ name := "verdict", type := (.object "com/example/wildmotif/wildmotif/match/Verdict"), accessFlags := 18, slot := 0, constantValue := 0 }, { name := "witness", type := (.object "java/util/List"), accessFlags := 18, slot := 1, constantValue := 0 }, { name := "NO_MATCH", type := (.object "com/example/wildmotif/wildmotif/match/Outcome"), accessFlags := 26, slot := 0, constantValue := 0 }, { name := "UNKNOWN", type := (.object "com/example/wildmotif/wildmotif/match/Outcome"), accessFlags := 26, slot := 1, constantValue := 0 }]
  methods := #[k3m0]
  instanceTypes := #[(.object "com/example/wildmotif/wildmotif/match/Verdict"), (.object "java/util/List")]
  staticTypes := #[(.object "com/example/wildmotif/wildmotif/match/Outcome"), (.object "com/example/wildmotif/wildmotif/match/Outcome")]
  resolved := Array.replicate 138 none
  statics := none }

def pool4 : Array CpInfo := pool [(8, .class_ 10), (1, u "java/lang/Iterable"), (24, .class_ 36), (0, u "java/lang/Object")] 25

/-- java/lang/Iterable -/
def k4 : Class := { plain "java/lang/Iterable" (some 0) with
  accessFlags := 1537
  interfaces := #[]
  cf := some (fileOf pool4 8 #[] #[] 1537 35 #[] #[])
  fields := #[]
  methods := #[]
  instanceTypes := #[]
  staticTypes := #[]
  resolved := Array.replicate 62 none
  statics := none }

def pool5 : Array CpInfo := pool [(10, .class_ 12), (1, u "java/util/Collection"), (0, u "toArray"), (16, u "()Z"), (29, .class_ 61), (0, u "java/lang/Object"), (0, .class_ 63), (0, u "java/lang/Iterable"), (2, u "isEmpty"), (3, u "()[Ljava/lang/Object;")] 44

def k5m0 : Method := { name := "isEmpty", desc := "()Z", sig := { parameters := [], returnType := some .boolean }, accessFlags := 1025, code := none }
def k5m1 : Method := { name := "toArray", desc := "()[Ljava/lang/Object;", sig := { parameters := [], returnType := some (.array (.object "java/lang/Object")) }, accessFlags := 1025, code := none }
/-- java/util/Collection -/
def k5 : Class := { plain "java/util/Collection" (some 0) with
  accessFlags := 1537
  interfaces := #[4]
  cf := some (fileOf pool5 10 #[] #[{ accessFlags := 1025, nameIndex := 66, descriptorIndex := 30, attributes := #[] }, { accessFlags := 1025, nameIndex := 13, descriptorIndex := 70, attributes := #[] }] 1537 60 #[62] #[])
  fields := #[]
  methods := #[k5m0, k5m1]
  instanceTypes := #[]
  staticTypes := #[]
  resolved := Array.replicate 115 none
  statics := none }

def pool6 : Array CpInfo := pool [(1, .methodref 2 3), (0, .class_ 4), (0, .nameAndType 5 6), (0, u "java/lang/Object"), (0, u "<init>"), (0, u "()V"), (1, .class_ 10), (1, u "java/util/AbstractCollection"), (66, .class_ 78), (0, u "java/util/Collection")] 81

def k6c0 : Code := { maxStack := 1, maxLocals := 1, code := jdk_22_method_1_code, exceptionTable := #[], attributes := #[] }
def k6m0 : Method := { name := "<init>", desc := "()V", sig := { parameters := [], returnType := none }, accessFlags := 4, code := some k6c0 }
/-- java/util/AbstractCollection -/
def k6 : Class := { plain "java/util/AbstractCollection" (some 0) with
  accessFlags := 1057
  interfaces := #[5]
  cf := some (fileOf pool6 8 #[] #[{ accessFlags := 4, nameIndex := 5, descriptorIndex := 6, attributes := #[] }] 1057 2 #[77] #[])
  fields := #[]
  methods := #[k6m0]
  instanceTypes := #[]
  staticTypes := #[]
  resolved := Array.replicate 160 none
  statics := none }

def pool7 : Array CpInfo := pool [(8, .class_ 10), (1, u "java/util/SequencedCollection"), (15, .class_ 27), (0, u "java/lang/Object"), (0, .class_ 29), (0, u "java/util/Collection")] 27

/-- java/util/SequencedCollection -/
def k7 : Class := { plain "java/util/SequencedCollection" (some 0) with
  accessFlags := 1537
  interfaces := #[5]
  cf := some (fileOf pool7 8 #[] #[] 1537 26 #[28] #[])
  fields := #[]
  methods := #[]
  instanceTypes := #[]
  staticTypes := #[]
  resolved := Array.replicate 57 none
  statics := none }

def pool8 : Array CpInfo := pool [(8, .class_ 10), (1, u "java/util/List"), (20, u "(Ljava/lang/Object;)V"), (16, u "<init>"), (11, u "add"), (3, u "(Ljava/lang/Object;)Z"), (10, u "get"), (0, u "(I)Ljava/lang/Object;"), (2, u "size"), (0, u "()I"), (7, u "of"), (1, .fieldref 91 92), (0, .class_ 93), (0, .nameAndType 94 95), (0, u "java/util/ImmutableCollections"), (0, u "EMPTY_LIST"), (0, u "Ljava/util/ImmutableCollections$ListN;"), (0, .class_ 97), (0, u "java/util/ImmutableCollections$List12"), (0, .methodref 96 99), (0, .nameAndType 48 31), (0, .methodref 96 101), (0, .nameAndType 48 102), (0, u "(Ljava/lang/Object;Ljava/lang/Object;)V"), (0, .class_ 104), (0, u "java/lang/Object"), (3, u "([Ljava/lang/Object;)Ljava/util/List;"), (0, .methodref 91 110), (0, .nameAndType 111 108), (0, u "listFromArray"), (0, .methodref 91 113), (0, .nameAndType 114 115), (0, u "listCopy"), (0, u "(Ljava/util/Collection;)Ljava/util/List;"), (3, u "()Ljava/util/List;"), (0, .class_ 121), (0, u "java/util/SequencedCollection"), (76, u "(Ljava/lang/Object;)Ljava/util/List;"), (35, u "copyOf")] 16

def k8m0 : Method := { name := "size", desc := "()I", sig := { parameters := [], returnType := some .int }, accessFlags := 1025, code := none }
def k8m1 : Method := { name := "add", desc := "(Ljava/lang/Object;)Z", sig := { parameters := [(.object "java/lang/Object")], returnType := some .boolean }, accessFlags := 1025, code := none }
def k8m2 : Method := { name := "get", desc := "(I)Ljava/lang/Object;", sig := { parameters := [.int], returnType := some (.object "java/lang/Object") }, accessFlags := 1025, code := none }
def k8c3 : Code := { maxStack := 1, maxLocals := 0, code := jdk_40_method_36_code, exceptionTable := #[], attributes := #[] }
def k8m3 : Method := { name := "of", desc := "()Ljava/util/List;", sig := { parameters := [], returnType := some (.object "java/util/List") }, accessFlags := 9, code := some k8c3 }
def k8c4 : Code := { maxStack := 3, maxLocals := 1, code := jdk_40_method_37_code, exceptionTable := #[], attributes := #[] }
def k8m4 : Method := { name := "of", desc := "(Ljava/lang/Object;)Ljava/util/List;", sig := { parameters := [(.object "java/lang/Object")], returnType := some (.object "java/util/List") }, accessFlags := 9, code := some k8c4 }
def k8c5 : Code := { maxStack := 5, maxLocals := 2, code := jdk_40_method_47_code, exceptionTable := #[], attributes := #[] }
def k8m5 : Method := { name := "of", desc := "([Ljava/lang/Object;)Ljava/util/List;", sig := { parameters := [(.array (.object "java/lang/Object"))], returnType := some (.object "java/util/List") }, accessFlags := 137, code := some k8c5 }
def k8c6 : Code := { maxStack := 1, maxLocals := 1, code := jdk_40_method_48_code, exceptionTable := #[], attributes := #[] }
def k8m6 : Method := { name := "copyOf", desc := "(Ljava/util/Collection;)Ljava/util/List;", sig := { parameters := [(.object "java/util/Collection")], returnType := some (.object "java/util/List") }, accessFlags := 9, code := some k8c6 }
/-- java/util/List -/
def k8 : Class := { plain "java/util/List" (some 0) with
  accessFlags := 1537
  interfaces := #[7]
  cf := some (fileOf pool8 8 #[] #[{ accessFlags := 1025, nameIndex := 79, descriptorIndex := 80, attributes := #[] }, { accessFlags := 1025, nameIndex := 60, descriptorIndex := 64, attributes := #[] }, { accessFlags := 1025, nameIndex := 75, descriptorIndex := 76, attributes := #[] }, { accessFlags := 9, nameIndex := 88, descriptorIndex := 119, attributes := #[] }, { accessFlags := 9, nameIndex := 88, descriptorIndex := 198, attributes := #[] }, { accessFlags := 137, nameIndex := 88, descriptorIndex := 108, attributes := #[] }, { accessFlags := 9, nameIndex := 234, descriptorIndex := 115, attributes := #[] }] 1537 103 #[120] #[])
  fields := #[]
  methods := #[k8m0, k8m1, k8m2, k8m3, k8m4, k8m5, k8m6]
  instanceTypes := #[]
  staticTypes := #[]
  resolved := Array.replicate 251 none
  statics := none }

def pool9 : Array CpInfo := pool [(1, .methodref 2 3), (0, .class_ 4), (0, .nameAndType 5 6), (0, u "java/util/AbstractCollection"), (0, u "<init>"), (0, u "()V"), (0, .fieldref 8 9), (0, .class_ 10), (0, .nameAndType 11 12), (0, u "java/util/AbstractList"), (0, u "modCount"), (0, u "I"), (64, .class_ 78), (0, u "java/util/AbstractList$Itr"), (3, .class_ 83), (0, u "java/util/AbstractList$ListItr"), (9, .class_ 94), (0, u "java/util/AbstractList$RandomAccessSubList"), (3, .class_ 99), (0, u "java/util/AbstractList$SubList"), (33, .class_ 134), (0, u "java/util/List"), (73, .class_ 209), (0, u "java/util/AbstractList$SubList$1"), (0, .class_ 211), (0, u "java/util/AbstractList$RandomAccessSpliterator")] 6

def k9c0 : Code := { maxStack := 2, maxLocals := 1, code := jdk_39_method_1_code, exceptionTable := #[], attributes := #[] }
def k9m0 : Method := { name := "<init>", desc := "()V", sig := { parameters := [], returnType := none }, accessFlags := 4, code := some k9c0 }
/-- java/util/AbstractList -/
def k9 : Class := { plain "java/util/AbstractList" (some 6) with
  accessFlags := 1057
  interfaces := #[8]
  cf := some (fileOf pool9 8 #[.nestMembers #[93, 98, 208, 210, 82, 77]] #[{ accessFlags := 4, nameIndex := 5, descriptorIndex := 6, attributes := #[] }] 1057 2 #[133] #[{ accessFlags := 132, nameIndex := 11, descriptorIndex := 12, attributes := #[] }])
  fields := #[{ name := "modCount", type := .int, accessFlags := 132, slot := 0, constantValue := 0 }]
  methods := #[k9m0]
  instanceTypes := #[.int]
  staticTypes := #[]
  resolved := Array.replicate 218 none
  statics := none }

def pool10 : Array CpInfo := pool [(1, .class_ 2), (0, u "java/util/RandomAccess"), (0, .class_ 4), (0, u "java/lang/Object")] 2

/-- java/util/RandomAccess -/
def k10 : Class := { plain "java/util/RandomAccess" (some 0) with
  accessFlags := 1537
  interfaces := #[]
  cf := some (fileOf pool10 1 #[] #[] 1537 3 #[] #[])
  fields := #[]
  methods := #[]
  instanceTypes := #[]
  staticTypes := #[]
  resolved := Array.replicate 7 none
  statics := none }

def pool11 : Array CpInfo := pool [(1, .class_ 2), (0, u "java/lang/Cloneable"), (0, .class_ 4), (0, u "java/lang/Object")] 2

/-- java/lang/Cloneable -/
def k11 : Class := { plain "java/lang/Cloneable" (some 0) with
  accessFlags := 1537
  interfaces := #[]
  cf := some (fileOf pool11 1 #[] #[] 1537 3 #[] #[])
  fields := #[]
  methods := #[]
  instanceTypes := #[]
  staticTypes := #[]
  resolved := Array.replicate 7 none
  statics := none }

def pool12 : Array CpInfo := pool [(1, .class_ 2), (0, u "java/io/Serializable"), (0, .class_ 4), (0, u "java/lang/Object")] 2

/-- java/io/Serializable -/
def k12 : Class := { plain "java/io/Serializable" (some 0) with
  accessFlags := 1537
  interfaces := #[]
  cf := some (fileOf pool12 1 #[] #[] 1537 3 #[] #[])
  fields := #[]
  methods := #[]
  instanceTypes := #[]
  staticTypes := #[]
  resolved := Array.replicate 7 none
  statics := none }

def pool13 : Array CpInfo := pool [(1, .methodref 2 3), (0, .class_ 4), (0, .nameAndType 5 6), (0, u "java/util/AbstractList"), (0, u "<init>"), (0, u "()V"), (0, .class_ 8), (0, u "java/lang/Object"), (0, .fieldref 10 11), (0, .class_ 12), (0, .nameAndType 13 14), (0, u "java/util/ArrayList"), (0, u "elementData"), (0, u "[Ljava/lang/Object;"), (0, .fieldref 10 16), (0, .nameAndType 17 14), (0, u "EMPTY_ELEMENTDATA"), (23, u "DEFAULTCAPACITY_EMPTY_ELEMENTDATA"), (4, u "toArray"), (0, u "()[Ljava/lang/Object;"), (0, .fieldref 10 49), (0, .nameAndType 50 51), (0, u "size"), (0, u "I"), (6, .class_ 60), (1, u "java/util/Arrays"), (0, u "copyOf"), (1, .fieldref 10 64), (0, .nameAndType 65 51), (0, u "modCount"), (0, .methodref 58 67), (0, .nameAndType 61 68), (0, u "([Ljava/lang/Object;I)[Ljava/lang/Object;"), (27, u "(Ljava/lang/Object;)Z"), (34, .methodref 10 132), (0, .nameAndType 133 134), (0, u "add"), (0, u "(Ljava/lang/Object;[Ljava/lang/Object;I)V"), (3, u "(I)V"), (9, .class_ 149), (0, u "java/util/List"), (23, u "()Z"), (88, .class_ 263), (0, u "java/util/ArrayList$ListItr"), (3, .class_ 268), (0, u "java/util/ArrayList$Itr"), (7, .class_ 277), (0, u "java/util/ArrayList$SubList"), (12, .class_ 291), (0, u "java/util/ArrayList$ArrayListSpliterator"), (37, .class_ 330), (0, u "java/util/RandomAccess"), (0, .class_ 332), (0, u "java/lang/Cloneable"), (0, .class_ 334), (0, u "java/io/Serializable"), (0, u "serialVersionUID"), (0, u "J"), (3, u "DEFAULT_CAPACITY"), (22, u "isEmpty"), (136, .class_ 501), (0, u "java/util/ArrayList$SubList$2"), (0, .class_ 503), (0, u "java/util/ArrayList$SubList$1")] 5

def k13c0 : Code := { maxStack := 4, maxLocals := 2, code := jdk_38_method_1_code, exceptionTable := #[], attributes := #[] }
def k13m0 : Method := { name := "<init>", desc := "(I)V", sig := { parameters := [.int], returnType := none }, accessFlags := 1, code := some k13c0 }
def k13m1 : Method := { name := "<init>", desc := "()V", sig := { parameters := [], returnType := none }, accessFlags := 1, code := none }
def k13c2 : Code := { maxStack := 1, maxLocals := 1, code := jdk_38_method_9_code, exceptionTable := #[], attributes := #[] }
def k13m2 : Method := { name := "isEmpty", desc := "()Z", sig := { parameters := [], returnType := some .boolean }, accessFlags := 1, code := some k13c2 }
def k13c3 : Code := { maxStack := 2, maxLocals := 1, code := jdk_38_method_16_code, exceptionTable := #[], attributes := #[] }
def k13m3 : Method := { name := "toArray", desc := "()[Ljava/lang/Object;", sig := { parameters := [], returnType := some (.array (.object "java/lang/Object")) }, accessFlags := 1, code := some k13c3 }
def k13c4 : Code := { maxStack := 3, maxLocals := 4, code := jdk_38_method_24_code, exceptionTable := #[], attributes := #[] }
def k13m4 : Method := { name := "add", desc := "(Ljava/lang/Object;[Ljava/lang/Object;I)V", sig := { parameters := [(.object "java/lang/Object"), (.array (.object "java/lang/Object")), .int], returnType := none }, accessFlags := 2, code := some k13c4 }
def k13c5 : Code := { maxStack := 4, maxLocals := 2, code := jdk_38_method_25_code, exceptionTable := #[], attributes := #[] }
def k13m5 : Method := { name := "add", desc := "(Ljava/lang/Object;)Z", sig := { parameters := [(.object "java/lang/Object")], returnType := some .boolean }, accessFlags := 1, code := some k13c5 }
/-- java/util/ArrayList -/
def k13 : Class := { plain "java/util/ArrayList" (some 9) with
  accessFlags := 33
  interfaces := #[8, 10, 11, 12]
  cf := some (fileOf pool13 10 #[.nestMembers #[290, 276, 500, 502, 262, 267]] #[{ accessFlags := 1, nameIndex := 5, descriptorIndex := 138, attributes := #[] }, { accessFlags := 1, nameIndex := 5, descriptorIndex := 6, attributes := #[] }, { accessFlags := 1, nameIndex := 363, descriptorIndex := 173, attributes := #[] }, { accessFlags := 1, nameIndex := 46, descriptorIndex := 47, attributes := #[] }, { accessFlags := 2, nameIndex := 133, descriptorIndex := 134, attributes := #[] }, { accessFlags := 1, nameIndex := 133, descriptorIndex := 96, attributes := #[] }] 33 2 #[148, 329, 331, 333] #[{ accessFlags := 26, nameIndex := 335, descriptorIndex := 336, attributes := #[] }, { accessFlags := 26, nameIndex := 340, descriptorIndex := 51, attributes := #[] }, { accessFlags := 26, nameIndex := 17, descriptorIndex := 14, attributes := #[] }, { accessFlags := 26, nameIndex := 41, descriptorIndex := 14, attributes := #[] }, { accessFlags := 128, nameIndex := 13, descriptorIndex := 14, attributes := #[] }, { accessFlags := 2, nameIndex := 50, descriptorIndex := 51, attributes := #[] }])
  fields := #[{ name := "serialVersionUID", type := .long, accessFlags := 26, slot := 0, constantValue := 0 }, { name := "DEFAULT_CAPACITY", type := .int, accessFlags := 26, slot := 1, constantValue := 0 }, { name := "EMPTY_ELEMENTDATA", type := (.array (.object "java/lang/Object")), accessFlags := 26, slot := 2, constantValue := 0 }, { name := "DEFAULTCAPACITY_EMPTY_ELEMENTDATA", type := (.array (.object "java/lang/Object")), accessFlags := 26, slot := 3, constantValue := 0 }, { name := "elementData", type := (.array (.object "java/lang/Object")), accessFlags := 128, slot := 1, constantValue := 0 }, { name := "size", type := .int, accessFlags := 2, slot := 2, constantValue := 0 }]
  methods := #[k13m0, k13m1, k13m2, k13m3, k13m4, k13m5]
  instanceTypes := #[.int, (.array (.object "java/lang/Object")), .int]
  staticTypes := #[.long, .int, (.array (.object "java/lang/Object")), (.array (.object "java/lang/Object"))]
  resolved := Array.replicate 509 none
  statics := some 0 }

def pool14 : Array CpInfo := pool [(2, .class_ 4), (1, u "java/lang/Object"), (0, u "<init>"), (0, u "()V"), (3, .class_ 11), (0, u "java/util/ImmutableCollections$List12"), (0, .class_ 13), (0, u "java/util/ImmutableCollections$ListN"), (3, u "Z"), (0, .class_ 19), (0, u "java/util/List"), (0, .interfaceMethodref 21 22), (0, .class_ 23), (0, .nameAndType 24 25), (0, u "java/util/Collection"), (0, u "isEmpty"), (0, u "()Z"), (0, .interfaceMethodref 18 27), (0, .nameAndType 28 29), (0, u "of"), (0, u "()Ljava/util/List;"), (0, .interfaceMethodref 21 31), (0, .nameAndType 32 33), (0, u "toArray"), (0, u "()[Ljava/lang/Object;"), (0, .interfaceMethodref 18 35), (0, .nameAndType 28 36), (0, u "([Ljava/lang/Object;)Ljava/util/List;"), (0, .methodref 38 39), (0, .class_ 40), (0, .nameAndType 41 42), (0, u "java/util/Objects"), (0, u "requireNonNull"), (0, u "(Ljava/lang/Object;)Ljava/lang/Object;"), (0, .methodref 12 44), (0, .nameAndType 5 45), (0, u "([Ljava/lang/Object;Z)V"), (1, .class_ 49), (1, u "java/util/ImmutableCollections"), (0, u "$assertionsDisabled"), (5, u "[Ljava/lang/Object;"), (5, u "EMPTY_LIST"), (0, u "Ljava/util/ImmutableCollections$ListN;"), (8, u "EMPTY_LIST_NULLS"), (22, u "SALT32L"), (0, u "J"), (2, u "REVERSE"), (6, u "archivedObjects"), (2, u "EMPTY"), (0, u "Ljava/lang/Object;"), (0, .class_ 112), (0, u "java/util/ImmutableCollections$SetN"), (5, u "EMPTY_SET"), (0, u "Ljava/util/ImmutableCollections$SetN;"), (0, .class_ 121), (0, u "java/util/ImmutableCollections$MapN"), (3, u "EMPTY_MAP"), (0, u "Ljava/util/ImmutableCollections$MapN;"), (4, u "EXPAND_FACTOR"), (0, u "I"), (9, u "listCopy"), (0, u "(Ljava/util/Collection;)Ljava/util/List;"), (7, u "listFromArray"), (17, .class_ 170), (0, u "java/util/ImmutableCollections$MapN$MapNIterator"), (0, .class_ 172), (0, u "java/util/ImmutableCollections$MapN$1"), (0, .class_ 174), (0, u "java/util/ImmutableCollections$Map1"), (0, .class_ 176), (0, u "java/util/ImmutableCollections$AbstractImmutableMap"), (0, .class_ 178), (0, u "java/util/ImmutableCollections$SetN$SetNIterator"), (0, .class_ 180), (0, u "java/util/ImmutableCollections$Set12"), (0, .class_ 182), (0, u "java/util/ImmutableCollections$Set12$1"), (0, .class_ 184), (0, u "java/util/ImmutableCollections$AbstractImmutableSet"), (0, .class_ 186), (0, u "java/util/ImmutableCollections$SubList"), (0, .class_ 188), (0, u "java/util/ImmutableCollections$ListItr"), (0, .class_ 190), (0, u "java/util/ImmutableCollections$AbstractImmutableList"), (0, .class_ 192), (0, u "java/util/ImmutableCollections$AbstractImmutableCollection"), (0, .class_ 194), (0, u "java/util/ImmutableCollections$Access"), (0, .class_ 196), (0, u "java/util/ImmutableCollections$Access$1")] 16

def k14m0 : Method := { name := "<init>", desc := "()V", sig := { parameters := [], returnType := none }, accessFlags := 2, code := none }
def k14c1 : Code := { maxStack := 1, maxLocals := 2, code := jdk_56_method_3_code, exceptionTable := #[], attributes := #[] }
def k14m1 : Method := { name := "listCopy", desc := "(Ljava/util/Collection;)Ljava/util/List;", sig := { parameters := [(.object "java/util/Collection")], returnType := some (.object "java/util/List") }, accessFlags := 8, code := some k14c1 }
def k14c2 : Code := { maxStack := 4, maxLocals := 3, code := jdk_56_method_4_code, exceptionTable := #[], attributes := #[] }
def k14m2 : Method := { name := "listFromArray", desc := "([Ljava/lang/Object;)Ljava/util/List;", sig := { parameters := [(.array (.object "java/lang/Object"))], returnType := some (.object "java/util/List") }, accessFlags := 136, code := some k14c2 }
/-- java/util/ImmutableCollections -/
def k14 : Class := { plain "java/util/ImmutableCollections" (some 0) with
  accessFlags := 32
  interfaces := #[]
  cf := some (fileOf pool14 47 #[.nestMembers #[120, 169, 171, 173, 175, 111, 177, 179, 181, 183, 12, 10, 185, 187, 189, 191, 193, 195]] #[{ accessFlags := 2, nameIndex := 5, descriptorIndex := 6, attributes := #[] }, { accessFlags := 8, nameIndex := 142, descriptorIndex := 143, attributes := #[] }, { accessFlags := 136, nameIndex := 151, descriptorIndex := 36, attributes := #[] }] 32 2 #[] #[{ accessFlags := 26, nameIndex := 95, descriptorIndex := 96, attributes := #[] }, { accessFlags := 26, nameIndex := 99, descriptorIndex := 17, attributes := #[] }, { accessFlags := 10, nameIndex := 106, descriptorIndex := 56, attributes := #[] }, { accessFlags := 26, nameIndex := 109, descriptorIndex := 110, attributes := #[] }, { accessFlags := 24, nameIndex := 62, descriptorIndex := 63, attributes := #[] }, { accessFlags := 24, nameIndex := 72, descriptorIndex := 63, attributes := #[] }, { accessFlags := 24, nameIndex := 118, descriptorIndex := 119, attributes := #[] }, { accessFlags := 24, nameIndex := 125, descriptorIndex := 126, attributes := #[] }, { accessFlags := 24, nameIndex := 131, descriptorIndex := 132, attributes := #[] }, { accessFlags := 4120, nameIndex := 50, descriptorIndex := 17, attributes := #[] }])
  fields := #[{ name := "SALT32L", type := .long, accessFlags := 26, slot := 0, constantValue := 0 }, { name := "REVERSE", type := .boolean, accessFlags := 26, slot := 1, constantValue := 0 }, { name := "archivedObjects", type := (.array (.object "java/lang/Object")), accessFlags := 10, slot := 2, constantValue := 0 }, { name := "EMPTY", type := (.object "java/lang/Object"), accessFlags := 26, slot := 3, constantValue := 0 }, { name := "EMPTY_LIST", type := (.object "java/util/ImmutableCollections$ListN"), accessFlags := 24, slot := 4, constantValue := 0 }, { name := "EMPTY_LIST_NULLS", type := (.object "java/util/ImmutableCollections$ListN"), accessFlags := 24, slot := 5, constantValue := 0 }, { name := "EMPTY_SET", type := (.object "java/util/ImmutableCollections$SetN"), accessFlags := 24, slot := 6, constantValue := 0 }, { name := "EMPTY_MAP", type := (.object "java/util/ImmutableCollections$MapN"), accessFlags := 24, slot := 7, constantValue := 0 }, { name := "EXPAND_FACTOR", type := .int, accessFlags := 24, slot := 8, constantValue := 0 }, { name := "$assertionsDisabled", type := .boolean, accessFlags := 4120, slot := 9, constantValue := 0 }]
  methods := #[k14m0, k14m1, k14m2]
  instanceTypes := #[]
  staticTypes := #[.long, .boolean, (.array (.object "java/lang/Object")), (.object "java/lang/Object"), (.object "java/util/ImmutableCollections$ListN"), (.object "java/util/ImmutableCollections$ListN"), (.object "java/util/ImmutableCollections$SetN"), (.object "java/util/ImmutableCollections$MapN"), .int, .boolean]
  resolved := Array.replicate 213 none
  statics := some 1 }

def pool15 : Array CpInfo := pool [(1, .methodref 2 3), (0, .class_ 4), (0, .nameAndType 5 6), (0, u "java/util/AbstractCollection"), (0, u "<init>"), (0, u "()V"), (1, .class_ 10), (1, u "java/util/ImmutableCollections"), (2, .class_ 14), (0, u "java/util/ImmutableCollections$AbstractImmutableCollection")] 41

def k15c0 : Code := { maxStack := 1, maxLocals := 1, code := jdk_47_method_1_code, exceptionTable := #[], attributes := #[] }
def k15m0 : Method := { name := "<init>", desc := "()V", sig := { parameters := [], returnType := none }, accessFlags := 0, code := some k15c0 }
/-- java/util/ImmutableCollections$AbstractImmutableCollection -/
def k15 : Class := { plain "java/util/ImmutableCollections$AbstractImmutableCollection" (some 6) with
  accessFlags := 1056
  interfaces := #[]
  cf := some (fileOf pool15 13 #[.nestHost 8] #[{ accessFlags := 0, nameIndex := 5, descriptorIndex := 6, attributes := #[] }] 1056 2 #[] #[])
  fields := #[]
  methods := #[k15m0]
  instanceTypes := #[]
  staticTypes := #[]
  resolved := Array.replicate 56 none
  statics := none }

def pool16 : Array CpInfo := pool [(1, .methodref 2 3), (0, .class_ 4), (0, .nameAndType 5 6), (0, u "java/util/ImmutableCollections$AbstractImmutableCollection"), (0, u "<init>"), (0, u "()V"), (1, .class_ 10), (1, u "java/util/ImmutableCollections"), (3, .class_ 16), (1, u "java/util/ImmutableCollections$AbstractImmutableList"), (60, .class_ 78), (0, u "java/util/List"), (45, .class_ 125), (0, u "java/util/RandomAccess")] 70

def k16c0 : Code := { maxStack := 1, maxLocals := 1, code := jdk_46_method_1_code, exceptionTable := #[], attributes := #[] }
def k16m0 : Method := { name := "<init>", desc := "()V", sig := { parameters := [], returnType := none }, accessFlags := 0, code := some k16c0 }
/-- java/util/ImmutableCollections$AbstractImmutableList -/
def k16 : Class := { plain "java/util/ImmutableCollections$AbstractImmutableList" (some 15) with
  accessFlags := 1056
  interfaces := #[8, 10]
  cf := some (fileOf pool16 14 #[.nestHost 8] #[{ accessFlags := 0, nameIndex := 5, descriptorIndex := 6, attributes := #[] }] 1056 2 #[77, 124] #[])
  fields := #[]
  methods := #[k16m0]
  instanceTypes := #[]
  staticTypes := #[]
  resolved := Array.replicate 196 none
  statics := none }

def pool17 : Array CpInfo := pool [(1, .methodref 2 3), (0, .class_ 4), (0, .nameAndType 5 6), (0, u "java/util/ImmutableCollections$AbstractImmutableList"), (0, u "<init>"), (0, u "()V"), (0, .methodref 8 9), (0, .class_ 10), (0, .nameAndType 11 12), (0, u "java/util/Objects"), (0, u "requireNonNull"), (0, u "(Ljava/lang/Object;)Ljava/lang/Object;"), (0, .fieldref 14 15), (0, .class_ 16), (0, .nameAndType 17 18), (0, u "java/util/ImmutableCollections$List12"), (0, u "e0"), (0, u "Ljava/lang/Object;"), (0, .fieldref 20 21), (0, .class_ 22), (0, .nameAndType 23 18), (0, u "java/util/ImmutableCollections"), (0, u "EMPTY"), (0, .fieldref 14 25), (0, .nameAndType 26 18), (0, u "e1"), (24, u "size"), (0, u "()I"), (17, .class_ 71), (0, u "java/io/Serializable"), (4, u "(Ljava/lang/Object;)V"), (8, u "(Ljava/lang/Object;Ljava/lang/Object;)V"), (4, u "get"), (0, u "(I)Ljava/lang/Object;")] 33

def k17c0 : Code := { maxStack := 2, maxLocals := 2, code := jdk_44_method_1_code, exceptionTable := #[], attributes := #[] }
def k17m0 : Method := { name := "<init>", desc := "(Ljava/lang/Object;)V", sig := { parameters := [(.object "java/lang/Object")], returnType := none }, accessFlags := 0, code := some k17c0 }
def k17c1 : Code := { maxStack := 2, maxLocals := 3, code := jdk_44_method_2_code, exceptionTable := #[], attributes := #[] }
def k17m1 : Method := { name := "<init>", desc := "(Ljava/lang/Object;Ljava/lang/Object;)V", sig := { parameters := [(.object "java/lang/Object"), (.object "java/lang/Object")], returnType := none }, accessFlags := 0, code := some k17c1 }
def k17c2 : Code := { maxStack := 2, maxLocals := 1, code := jdk_44_method_3_code, exceptionTable := #[], attributes := #[] }
def k17m2 : Method := { name := "size", desc := "()I", sig := { parameters := [], returnType := some .int }, accessFlags := 1, code := some k17c2 }
def k17c3 : Code := { maxStack := 2, maxLocals := 2, code := jdk_44_method_5_code, exceptionTable := #[], attributes := #[] }
def k17m3 : Method := { name := "get", desc := "(I)Ljava/lang/Object;", sig := { parameters := [.int], returnType := some (.object "java/lang/Object") }, accessFlags := 1, code := some k17c3 }
/-- java/util/ImmutableCollections$List12 -/
def k17 : Class := { plain "java/util/ImmutableCollections$List12" (some 16) with
  accessFlags := 48
  interfaces := #[12]
  cf := some (fileOf pool17 14 #[.nestHost 20] #[{ accessFlags := 0, nameIndex := 5, descriptorIndex := 76, attributes := #[] }, { accessFlags := 0, nameIndex := 5, descriptorIndex := 85, attributes := #[] }, { accessFlags := 1, nameIndex := 51, descriptorIndex := 52, attributes := #[] }, { accessFlags := 1, nameIndex := 90, descriptorIndex := 91, attributes := #[] }] 48 2 #[70] #[{ accessFlags := 18, nameIndex := 17, descriptorIndex := 18, attributes := #[] }, { accessFlags := 18, nameIndex := 26, descriptorIndex := 18, attributes := #[] }])
  fields := #[{ name := "e0", type := (.object "java/lang/Object"), accessFlags := 18, slot := 0, constantValue := 0 }, { name := "e1", type := (.object "java/lang/Object"), accessFlags := 18, slot := 1, constantValue := 0 }]
  methods := #[k17m0, k17m1, k17m2, k17m3]
  instanceTypes := #[(.object "java/lang/Object"), (.object "java/lang/Object")]
  staticTypes := #[]
  resolved := Array.replicate 125 none
  statics := none }

def pool18 : Array CpInfo := pool [(1, .methodref 2 3), (0, .class_ 4), (0, .nameAndType 5 6), (0, u "java/util/ImmutableCollections$AbstractImmutableList"), (0, u "<init>"), (0, u "()V"), (0, .fieldref 8 9), (0, .class_ 10), (0, .nameAndType 11 12), (0, u "java/util/ImmutableCollections$ListN"), (0, u "elements"), (0, u "[Ljava/lang/Object;"), (0, .fieldref 8 14), (0, .nameAndType 15 16), (0, u "allowNulls"), (0, u "Z"), (42, .class_ 60), (0, u "java/io/Serializable"), (4, u "([Ljava/lang/Object;Z)V"), (11, u "size"), (0, u "()I"), (0, u "get"), (0, u "(I)Ljava/lang/Object;"), (33, .class_ 115), (0, u "java/util/ImmutableCollections")] 3

def k18c0 : Code := { maxStack := 2, maxLocals := 3, code := jdk_45_method_1_code, exceptionTable := #[], attributes := #[] }
def k18m0 : Method := { name := "<init>", desc := "([Ljava/lang/Object;Z)V", sig := { parameters := [(.array (.object "java/lang/Object")), .boolean], returnType := none }, accessFlags := 2, code := some k18c0 }
def k18c1 : Code := { maxStack := 1, maxLocals := 1, code := jdk_45_method_3_code, exceptionTable := #[], attributes := #[] }
def k18m1 : Method := { name := "size", desc := "()I", sig := { parameters := [], returnType := some .int }, accessFlags := 1, code := some k18c1 }
def k18c2 : Code := { maxStack := 2, maxLocals := 2, code := jdk_45_method_4_code, exceptionTable := #[], attributes := #[] }
def k18m2 : Method := { name := "get", desc := "(I)Ljava/lang/Object;", sig := { parameters := [.int], returnType := some (.object "java/lang/Object") }, accessFlags := 1, code := some k18c2 }
/-- java/util/ImmutableCollections$ListN -/
def k18 : Class := { plain "java/util/ImmutableCollections$ListN" (some 16) with
  accessFlags := 48
  interfaces := #[12]
  cf := some (fileOf pool18 8 #[.nestHost 114] #[{ accessFlags := 2, nameIndex := 5, descriptorIndex := 65, attributes := #[] }, { accessFlags := 1, nameIndex := 77, descriptorIndex := 78, attributes := #[] }, { accessFlags := 1, nameIndex := 79, descriptorIndex := 80, attributes := #[] }] 48 2 #[59] #[{ accessFlags := 18, nameIndex := 11, descriptorIndex := 12, attributes := #[] }, { accessFlags := 18, nameIndex := 15, descriptorIndex := 16, attributes := #[] }])
  fields := #[{ name := "elements", type := (.array (.object "java/lang/Object")), accessFlags := 18, slot := 0, constantValue := 0 }, { name := "allowNulls", type := .boolean, accessFlags := 18, slot := 1, constantValue := 0 }]
  methods := #[k18m0, k18m1, k18m2]
  instanceTypes := #[(.array (.object "java/lang/Object")), .boolean]
  staticTypes := #[]
  resolved := Array.replicate 119 none
  statics := none }

def pool19 : Array CpInfo := pool [(1, .methodref 2 3), (0, .class_ 4), (0, .nameAndType 5 6), (0, u "java/lang/Object"), (0, u "<init>"), (0, u "()V"), (1, .class_ 10), (1, u "java/lang/Number"), (2, .class_ 14), (0, u "java/io/Serializable"), (0, u "serialVersionUID"), (0, u "J")] 20

def k19c0 : Code := { maxStack := 1, maxLocals := 1, code := jdk_18_method_1_code, exceptionTable := #[], attributes := #[] }
def k19m0 : Method := { name := "<init>", desc := "()V", sig := { parameters := [], returnType := none }, accessFlags := 1, code := some k19c0 }
/-- java/lang/Number -/
def k19 : Class := { plain "java/lang/Number" (some 0) with
  accessFlags := 1057
  interfaces := #[12]
  cf := some (fileOf pool19 8 #[] #[{ accessFlags := 1, nameIndex := 5, descriptorIndex := 6, attributes := #[] }] 1057 2 #[13] #[{ accessFlags := 26, nameIndex := 15, descriptorIndex := 16, attributes := #[] }])
  fields := #[{ name := "serialVersionUID", type := .long, accessFlags := 26, slot := 0, constantValue := 0 }]
  methods := #[k19m0]
  instanceTypes := #[]
  staticTypes := #[.long]
  resolved := Array.replicate 37 none
  statics := none }

def pool20 : Array CpInfo := pool [(1, .class_ 2), (0, u "java/lang/Comparable"), (0, .class_ 4), (0, u "java/lang/Object")] 7

/-- java/lang/Comparable -/
def k20 : Class := { plain "java/lang/Comparable" (some 0) with
  accessFlags := 1537
  interfaces := #[]
  cf := some (fileOf pool20 1 #[] #[] 1537 3 #[] #[])
  fields := #[]
  methods := #[]
  instanceTypes := #[]
  staticTypes := #[]
  resolved := Array.replicate 12 none
  statics := none }

def pool21 : Array CpInfo := pool [(1, .class_ 2), (0, u "java/lang/constant/Constable"), (0, .class_ 4), (0, u "java/lang/Object")] 6

/-- java/lang/constant/Constable -/
def k21 : Class := { plain "java/lang/constant/Constable" (some 0) with
  accessFlags := 1537
  interfaces := #[]
  cf := some (fileOf pool21 1 #[] #[] 1537 3 #[] #[])
  fields := #[]
  methods := #[]
  instanceTypes := #[]
  staticTypes := #[]
  resolved := Array.replicate 11 none
  statics := none }

def pool22 : Array CpInfo := pool [(1, .class_ 2), (0, u "java/lang/constant/ConstantDesc"), (0, .class_ 4), (0, u "java/lang/Object")] 32

/-- java/lang/constant/ConstantDesc -/
def k22 : Class := { plain "java/lang/constant/ConstantDesc" (some 0) with
  accessFlags := 1537
  interfaces := #[]
  cf := some (fileOf pool22 1 #[] #[] 1537 3 #[] #[])
  fields := #[]
  methods := #[]
  instanceTypes := #[]
  staticTypes := #[]
  resolved := Array.replicate 37 none
  statics := none }

def pool23 : Array CpInfo := pool [(1, .class_ 2), (0, u "java/lang/Integer"), (16, u "digits"), (0, u "[C"), (46, u "<init>"), (17, u "DigitOnes"), (0, u "[B"), (2, u "DigitTens"), (10, .nameAndType 67 101), (0, u "()V"), (19, u "()I"), (65, u "valueOf"), (0, u "(I)Ljava/lang/Integer;"), (0, .class_ 190), (0, u "java/lang/Integer$IntegerCache"), (0, .fieldref 189 192), (0, .nameAndType 193 194), (0, u "high"), (0, u "I"), (0, .fieldref 189 196), (0, .nameAndType 197 198), (0, u "cache"), (0, u "[Ljava/lang/Integer;"), (0, .methodref 1 200), (0, .nameAndType 67 201), (0, u "(I)V"), (0, .methodref 203 100), (0, .class_ 204), (0, u "java/lang/Number"), (0, .fieldref 1 206), (0, .nameAndType 207 194), (0, u "value"), (5, u "intValue"), (88, u "TYPE"), (0, u "Ljava/lang/Class;"), (0, .class_ 305), (0, u "java/lang/Comparable"), (0, .class_ 307), (0, u "java/lang/constant/Constable"), (0, .class_ 309), (0, u "java/lang/constant/ConstantDesc"), (0, u "MIN_VALUE"), (1, u "MAX_VALUE"), (3, u "SIZE"), (1, u "BYTES"), (1, u "serialVersionUID"), (0, u "J")] 131

def k23c0 : Code := { maxStack := 3, maxLocals := 1, code := jdk_33_method_22_code, exceptionTable := #[], attributes := #[] }
def k23m0 : Method := { name := "valueOf", desc := "(I)Ljava/lang/Integer;", sig := { parameters := [.int], returnType := some (.object "java/lang/Integer") }, accessFlags := 9, code := some k23c0 }
def k23c1 : Code := { maxStack := 2, maxLocals := 2, code := jdk_33_method_23_code, exceptionTable := #[], attributes := #[] }
def k23m1 : Method := { name := "<init>", desc := "(I)V", sig := { parameters := [.int], returnType := none }, accessFlags := 1, code := some k23c1 }
def k23c2 : Code := { maxStack := 1, maxLocals := 1, code := jdk_33_method_27_code, exceptionTable := #[], attributes := #[] }
def k23m2 : Method := { name := "intValue", desc := "()I", sig := { parameters := [], returnType := some .int }, accessFlags := 1, code := some k23c2 }
/-- java/lang/Integer -/
def k23 : Class := { plain "java/lang/Integer" (some 19) with
  accessFlags := 49
  interfaces := #[20, 21, 22]
  cf := some (fileOf pool23 1 #[.nestMembers #[189]] #[{ accessFlags := 9, nameIndex := 187, descriptorIndex := 188, attributes := #[] }, { accessFlags := 1, nameIndex := 67, descriptorIndex := 201, attributes := #[] }, { accessFlags := 1, nameIndex := 213, descriptorIndex := 121, attributes := #[] }] 49 203 #[304, 306, 308] #[{ accessFlags := 25, nameIndex := 310, descriptorIndex := 194, attributes := #[] }, { accessFlags := 25, nameIndex := 312, descriptorIndex := 194, attributes := #[] }, { accessFlags := 25, nameIndex := 302, descriptorIndex := 303, attributes := #[] }, { accessFlags := 24, nameIndex := 19, descriptorIndex := 20, attributes := #[] }, { accessFlags := 24, nameIndex := 89, descriptorIndex := 86, attributes := #[] }, { accessFlags := 24, nameIndex := 85, descriptorIndex := 86, attributes := #[] }, { accessFlags := 18, nameIndex := 207, descriptorIndex := 194, attributes := #[] }, { accessFlags := 25, nameIndex := 316, descriptorIndex := 194, attributes := #[] }, { accessFlags := 25, nameIndex := 318, descriptorIndex := 194, attributes := #[] }, { accessFlags := 26, nameIndex := 320, descriptorIndex := 321, attributes := #[] }])
  fields := #[{ name := "MIN_VALUE", type := .int, accessFlags := 25, slot := 0, constantValue := 0 }, { name := "MAX_VALUE", type := .int, accessFlags := 25, slot := 1, constantValue := 0 }, { name := "TYPE", type := (.object "java/lang/Class"), accessFlags := 25, slot := 2, constantValue := 0 }, { name := "digits", type := (.array .char), accessFlags := 24, slot := 3, constantValue := 0 }, { name := "DigitTens", type := (.array .byte), accessFlags := 24, slot := 4, constantValue := 0 }, { name := "DigitOnes", type := (.array .byte), accessFlags := 24, slot := 5, constantValue := 0 }, { name := "value", type := .int, accessFlags := 18, slot := 0, constantValue := 0 }, { name := "SIZE", type := .int, accessFlags := 25, slot := 6, constantValue := 0 }, { name := "BYTES", type := .int, accessFlags := 25, slot := 7, constantValue := 0 }, { name := "serialVersionUID", type := .long, accessFlags := 26, slot := 8, constantValue := 0 }]
  methods := #[k23m0, k23m1, k23m2]
  instanceTypes := #[.int]
  staticTypes := #[.int, .int, (.object "java/lang/Class"), (.array .char), (.array .byte), (.array .byte), .int, .int, .long]
  resolved := Array.replicate 453 none
  statics := none }

def pool24 : Array CpInfo := pool [(2, .class_ 4), (1, u "java/lang/Object"), (0, u "<init>"), (0, u "()V"), (0, .class_ 8), (0, u "java/lang/Integer"), (7, .class_ 18), (1, u "java/lang/Integer$IntegerCache"), (0, u "$assertionsDisabled"), (0, u "Z"), (26, u "high"), (0, u "I"), (8, u "archivedCache"), (0, u "[Ljava/lang/Integer;"), (12, u "cache"), (0, u "low")] 27

def k24m0 : Method := { name := "<init>", desc := "()V", sig := { parameters := [], returnType := none }, accessFlags := 2, code := none }
/-- java/lang/Integer$IntegerCache -/
def k24 : Class := { plain "java/lang/Integer$IntegerCache" (some 0) with
  accessFlags := 48
  interfaces := #[]
  cf := some (fileOf pool24 16 #[.nestHost 7] #[{ accessFlags := 2, nameIndex := 5, descriptorIndex := 6, attributes := #[] }] 48 2 #[] #[{ accessFlags := 24, nameIndex := 72, descriptorIndex := 48, attributes := #[] }, { accessFlags := 24, nameIndex := 47, descriptorIndex := 48, attributes := #[] }, { accessFlags := 24, nameIndex := 71, descriptorIndex := 58, attributes := #[] }, { accessFlags := 8, nameIndex := 57, descriptorIndex := 58, attributes := #[] }, { accessFlags := 4120, nameIndex := 19, descriptorIndex := 20, attributes := #[] }])
  fields := #[{ name := "low", type := .int, accessFlags := 24, slot := 0, constantValue := 0 }, { name := "high", type := .int, accessFlags := 24, slot := 1, constantValue := 0 }, { name := "cache", type := (.array (.object "java/lang/Integer")), accessFlags := 24, slot := 2, constantValue := 0 }, { name := "archivedCache", type := (.array (.object "java/lang/Integer")), accessFlags := 8, slot := 3, constantValue := 0 }, { name := "$assertionsDisabled", type := .boolean, accessFlags := 4120, slot := 4, constantValue := 0 }]
  methods := #[k24m0]
  instanceTypes := #[]
  staticTypes := #[.int, .int, (.array (.object "java/lang/Integer")), (.array (.object "java/lang/Integer")), .boolean]
  resolved := Array.replicate 100 none
  statics := some 2 }

def pool25 : Array CpInfo := pool [(2, .class_ 4), (1, u "java/lang/Object"), (0, u "<init>"), (0, u "()V"), (35, .class_ 44), (1, u "java/util/Objects"), (0, u "requireNonNull"), (0, u "(Ljava/lang/Object;)Ljava/lang/Object;")] 137

def k25m0 : Method := { name := "<init>", desc := "()V", sig := { parameters := [], returnType := none }, accessFlags := 2, code := none }
def k25c1 : Code := { maxStack := 2, maxLocals := 1, code := jdk_31_method_10_code, exceptionTable := #[], attributes := #[] }
def k25m1 : Method := { name := "requireNonNull", desc := "(Ljava/lang/Object;)Ljava/lang/Object;", sig := { parameters := [(.object "java/lang/Object")], returnType := some (.object "java/lang/Object") }, accessFlags := 9, code := some k25c1 }
/-- java/util/Objects -/
def k25 : Class := { plain "java/util/Objects" (some 0) with
  accessFlags := 49
  interfaces := #[]
  cf := some (fileOf pool25 42 #[] #[{ accessFlags := 2, nameIndex := 5, descriptorIndex := 6, attributes := #[] }, { accessFlags := 9, nameIndex := 45, descriptorIndex := 46, attributes := #[] }] 49 2 #[] #[])
  fields := #[]
  methods := #[k25m0, k25m1]
  instanceTypes := #[]
  staticTypes := #[]
  resolved := Array.replicate 184 none
  statics := none }

def pool26 : Array CpInfo := pool [(2, .class_ 4), (1, u "java/lang/Object"), (0, u "<init>"), (0, u "()V"), (7, .class_ 16), (1, u "java/util/Arrays"), (57, .class_ 76), (1, u "java/util/Arrays$NaturalOrder"), (9, .methodref 2 87), (0, .nameAndType 88 89), (0, u "getClass"), (0, u "()Ljava/lang/Class;"), (20, .class_ 111), (0, u "[Ljava/lang/Object;"), (1, .class_ 115), (1, u "java/util/Arrays$LegacyMergeSort"), (1, u "Z"), (32, .methodref 151 152), (0, .class_ 153), (0, .nameAndType 154 155), (0, u "java/lang/System"), (0, u "arraycopy"), (0, u "(Ljava/lang/Object;ILjava/lang/Object;II)V"), (144, .methodref 14 301), (0, .nameAndType 302 303), (0, u "copyOf"), (0, u "([Ljava/lang/Object;ILjava/lang/Class;)[Ljava/lang/Object;"), (0, .methodref 305 306), (0, .class_ 307), (0, .nameAndType 308 309), (0, u "java/lang/Math"), (0, u "min"), (0, u "(II)I"), (65, .class_ 376), (0, u "java/util/Arrays$ArrayList"), (68, u "$assertionsDisabled"), (269, u "MIN_ARRAY_SORT_GRAN"), (0, u "I"), (2, u "INSERTIONSORT_THRESHOLD"), (140, u "([Ljava/lang/Object;I)[Ljava/lang/Object;"), (114, .class_ 976), (0, u "java/util/Arrays$ArrayItr")] 52

def k26m0 : Method := { name := "<init>", desc := "()V", sig := { parameters := [], returnType := none }, accessFlags := 2, code := none }
def k26c1 : Code := { maxStack := 3, maxLocals := 2, code := jdk_65_method_119_code, exceptionTable := #[], attributes := #[] }
def k26m1 : Method := { name := "copyOf", desc := "([Ljava/lang/Object;I)[Ljava/lang/Object;", sig := { parameters := [(.array (.object "java/lang/Object")), .int], returnType := some (.array (.object "java/lang/Object")) }, accessFlags := 9, code := some k26c1 }
def k26c2 : Code := { maxStack := 6, maxLocals := 4, code := jdk_65_method_120_code, exceptionTable := #[], attributes := #[] }
def k26m2 : Method := { name := "copyOf", desc := "([Ljava/lang/Object;ILjava/lang/Class;)[Ljava/lang/Object;", sig := { parameters := [(.array (.object "java/lang/Object")), .int, (.object "java/lang/Class")], returnType := some (.array (.object "java/lang/Object")) }, accessFlags := 9, code := some k26c2 }
/-- java/util/Arrays -/
def k26 : Class := { plain "java/util/Arrays" (some 0) with
  accessFlags := 49
  interfaces := #[]
  cf := some (fileOf pool26 14 #[.nestMembers #[975, 375, 113, 74]] #[{ accessFlags := 2, nameIndex := 5, descriptorIndex := 6, attributes := #[] }, { accessFlags := 9, nameIndex := 302, descriptorIndex := 860, attributes := #[] }, { accessFlags := 9, nameIndex := 302, descriptorIndex := 303, attributes := #[] }] 49 2 #[] #[{ accessFlags := 26, nameIndex := 715, descriptorIndex := 716, attributes := #[] }, { accessFlags := 26, nameIndex := 719, descriptorIndex := 716, attributes := #[] }, { accessFlags := 4120, nameIndex := 445, descriptorIndex := 117, attributes := #[] }])
  fields := #[{ name := "MIN_ARRAY_SORT_GRAN", type := .int, accessFlags := 26, slot := 0, constantValue := 0 }, { name := "INSERTIONSORT_THRESHOLD", type := .int, accessFlags := 26, slot := 1, constantValue := 0 }, { name := "$assertionsDisabled", type := .boolean, accessFlags := 4120, slot := 2, constantValue := 0 }]
  methods := #[k26m0, k26m1, k26m2]
  instanceTypes := #[]
  staticTypes := #[.int, .int, .boolean]
  resolved := Array.replicate 1029 none
  statics := none }

def pool27 : Array CpInfo := pool [(1, .class_ 2), (0, u "java/lang/Math"), (1, .class_ 6), (1, u "java/lang/Object"), (0, u "<init>"), (0, u "()V"), (89, .class_ 100), (1, u "java/lang/Math$RandomNumberGeneratorHolder"), (71, u "negativeZeroFloatBits"), (0, u "J"), (2, u "negativeZeroDoubleBits"), (24, u "min"), (43, u "$assertionsDisabled"), (0, u "Z"), (88, u "(II)I"), (2, u "twoToTheDoubleScaleDown"), (0, u "D"), (4, u "twoToTheDoubleScaleUp"), (9, u "E"), (3, u "PI"), (2, u "TAU"), (2, u "DEGREES_TO_RADIANS"), (0, u "RADIANS_TO_DEGREES")] 94

def k27m0 : Method := { name := "<init>", desc := "()V", sig := { parameters := [], returnType := none }, accessFlags := 2, code := none }
def k27c1 : Code := { maxStack := 2, maxLocals := 2, code := jdk_29_method_69_code, exceptionTable := #[], attributes := #[] }
def k27m1 : Method := { name := "min", desc := "(II)I", sig := { parameters := [.int, .int], returnType := some .int }, accessFlags := 9, code := some k27c1 }
/-- java/lang/Math -/
def k27 : Class := { plain "java/lang/Math" (some 0) with
  accessFlags := 49
  interfaces := #[]
  cf := some (fileOf pool27 1 #[.nestMembers #[98]] #[{ accessFlags := 2, nameIndex := 7, descriptorIndex := 8, attributes := #[] }, { accessFlags := 9, nameIndex := 201, descriptorIndex := 335, attributes := #[] }] 49 4 #[] #[{ accessFlags := 25, nameIndex := 354, descriptorIndex := 339, attributes := #[] }, { accessFlags := 25, nameIndex := 358, descriptorIndex := 339, attributes := #[] }, { accessFlags := 25, nameIndex := 361, descriptorIndex := 339, attributes := #[] }, { accessFlags := 26, nameIndex := 364, descriptorIndex := 339, attributes := #[] }, { accessFlags := 26, nameIndex := 365, descriptorIndex := 339, attributes := #[] }, { accessFlags := 26, nameIndex := 172, descriptorIndex := 173, attributes := #[] }, { accessFlags := 26, nameIndex := 176, descriptorIndex := 173, attributes := #[] }, { accessFlags := 8, nameIndex := 344, descriptorIndex := 339, attributes := #[] }, { accessFlags := 8, nameIndex := 338, descriptorIndex := 339, attributes := #[] }, { accessFlags := 4120, nameIndex := 245, descriptorIndex := 246, attributes := #[] }])
  fields := #[{ name := "E", type := .double, accessFlags := 25, slot := 0, constantValue := 0 }, { name := "PI", type := .double, accessFlags := 25, slot := 1, constantValue := 0 }, { name := "TAU", type := .double, accessFlags := 25, slot := 2, constantValue := 0 }, { name := "DEGREES_TO_RADIANS", type := .double, accessFlags := 26, slot := 3, constantValue := 0 }, { name := "RADIANS_TO_DEGREES", type := .double, accessFlags := 26, slot := 4, constantValue := 0 }, { name := "negativeZeroFloatBits", type := .long, accessFlags := 26, slot := 5, constantValue := 0 }, { name := "negativeZeroDoubleBits", type := .long, accessFlags := 26, slot := 6, constantValue := 0 }, { name := "twoToTheDoubleScaleUp", type := .double, accessFlags := 8, slot := 7, constantValue := 0 }, { name := "twoToTheDoubleScaleDown", type := .double, accessFlags := 8, slot := 8, constantValue := 0 }, { name := "$assertionsDisabled", type := .boolean, accessFlags := 4120, slot := 9, constantValue := 0 }]
  methods := #[k27m0, k27m1]
  instanceTypes := #[]
  staticTypes := #[.double, .double, .double, .double, .double, .long, .long, .double, .double, .boolean]
  resolved := Array.replicate 460 none
  statics := none }

def pool28 : Array CpInfo := pool [(2, .class_ 4), (1, u "java/lang/Object"), (0, u "<init>"), (0, u "()V"), (1, .class_ 10), (1, u "java/lang/System"), (0, u "allowSecurityManager"), (0, u "I"), (16, u "cons"), (0, u "Ljava/io/Console;"), (77, .class_ 110), (1, u "java/lang/System$CallersHolder"), (43, u "initialErrStream"), (0, u "Ljava/io/PrintStream;"), (19, u "security"), (0, u "Ljava/lang/SecurityManager;"), (31, .class_ 209), (0, u "java/lang/System$1"), (7, u "props"), (0, u "Ljava/util/Properties;"), (2, u "lineSeparator"), (0, u "Ljava/lang/String;"), (96, .class_ 321), (1, u "java/lang/System$LoggerFinder"), (5, .class_ 328), (0, u "java/lang/System$Logger"), (67, u "err"), (2, u "out"), (91, u "notSupportedJnuEncoding"), (15, u "in"), (17, u "initialIn"), (0, u "Ljava/io/InputStream;"), (35, u "bootLayer"), (0, u "Ljava/lang/ModuleLayer;"), (99, .class_ 664), (0, u "java/lang/System$2"), (9, u "NEVER"), (2, u "MAYBE"), (49, u "arraycopy"), (0, u "(Ljava/lang/Object;ILjava/lang/Object;II)V"), (72, .class_ 802), (0, u "java/lang/System$Logger$Level")] 31

def k28m0 : Method := { name := "<init>", desc := "()V", sig := { parameters := [], returnType := none }, accessFlags := 2, code := none }
def k28m1 : Method := { name := "arraycopy", desc := "(Ljava/lang/Object;ILjava/lang/Object;II)V", sig := { parameters := [(.object "java/lang/Object"), .int, (.object "java/lang/Object"), .int, .int], returnType := none }, accessFlags := 265, code := none }
/-- java/lang/System -/
def k28 : Class := { plain "java/lang/System" (some 0) with
  accessFlags := 49
  interfaces := #[]
  cf := some (fileOf pool28 8 #[.nestMembers #[319, 327, 801, 108, 663, 208]] #[{ accessFlags := 2, nameIndex := 5, descriptorIndex := 6, attributes := #[] }, { accessFlags := 265, nameIndex := 727, descriptorIndex := 728, attributes := #[] }] 49 2 #[] #[{ accessFlags := 25, nameIndex := 507, descriptorIndex := 526, attributes := #[] }, { accessFlags := 25, nameIndex := 399, descriptorIndex := 155, attributes := #[] }, { accessFlags := 25, nameIndex := 396, descriptorIndex := 155, attributes := #[] }, { accessFlags := 10, nameIndex := 525, descriptorIndex := 526, attributes := #[] }, { accessFlags := 26, nameIndex := 674, descriptorIndex := 12, attributes := #[] }, { accessFlags := 26, nameIndex := 677, descriptorIndex := 12, attributes := #[] }, { accessFlags := 10, nameIndex := 11, descriptorIndex := 12, attributes := #[] }, { accessFlags := 74, nameIndex := 175, descriptorIndex := 176, attributes := #[] }, { accessFlags := 10, nameIndex := 491, descriptorIndex := 222, attributes := #[] }, { accessFlags := 74, nameIndex := 29, descriptorIndex := 30, attributes := #[] }, { accessFlags := 74, nameIndex := 154, descriptorIndex := 155, attributes := #[] }, { accessFlags := 10, nameIndex := 217, descriptorIndex := 218, attributes := #[] }, { accessFlags := 10, nameIndex := 221, descriptorIndex := 222, attributes := #[] }, { accessFlags := 8, nameIndex := 562, descriptorIndex := 563, attributes := #[] }])
  fields := #[{ name := "in", type := (.object "java/io/InputStream"), accessFlags := 25, slot := 0, constantValue := 0 }, { name := "out", type := (.object "java/io/PrintStream"), accessFlags := 25, slot := 1, constantValue := 0 }, { name := "err", type := (.object "java/io/PrintStream"), accessFlags := 25, slot := 2, constantValue := 0 }, { name := "initialIn", type := (.object "java/io/InputStream"), accessFlags := 10, slot := 3, constantValue := 0 }, { name := "NEVER", type := .int, accessFlags := 26, slot := 4, constantValue := 0 }, { name := "MAYBE", type := .int, accessFlags := 26, slot := 5, constantValue := 0 }, { name := "allowSecurityManager", type := .int, accessFlags := 10, slot := 6, constantValue := 0 }, { name := "security", type := (.object "java/lang/SecurityManager"), accessFlags := 74, slot := 7, constantValue := 0 }, { name := "notSupportedJnuEncoding", type := (.object "java/lang/String"), accessFlags := 10, slot := 8, constantValue := 0 }, { name := "cons", type := (.object "java/io/Console"), accessFlags := 74, slot := 9, constantValue := 0 }, { name := "initialErrStream", type := (.object "java/io/PrintStream"), accessFlags := 74, slot := 10, constantValue := 0 }, { name := "props", type := (.object "java/util/Properties"), accessFlags := 10, slot := 11, constantValue := 0 }, { name := "lineSeparator", type := (.object "java/lang/String"), accessFlags := 10, slot := 12, constantValue := 0 }, { name := "bootLayer", type := (.object "java/lang/ModuleLayer"), accessFlags := 8, slot := 13, constantValue := 0 }]
  methods := #[k28m0, k28m1]
  instanceTypes := #[]
  staticTypes := #[(.object "java/io/InputStream"), (.object "java/io/PrintStream"), (.object "java/io/PrintStream"), (.object "java/io/InputStream"), .int, .int, .int, (.object "java/lang/SecurityManager"), (.object "java/lang/String"), (.object "java/io/Console"), (.object "java/io/PrintStream"), (.object "java/util/Properties"), (.object "java/lang/String"), (.object "java/lang/ModuleLayer")]
  resolved := Array.replicate 834 none
  statics := none }

def pool29 : Array CpInfo := pool [(1, u "java/lang/Class"), (0, .class_ 1), (0, u "java/lang/Object"), (0, .class_ 3)] 0

/-- java/lang/Class -/
def k29 : Class := { plain "java/lang/Class" (some 0) with
  accessFlags := 49
  interfaces := #[]
  cf := some (fileOf pool29 2 #[] #[] 49 4 #[] #[])
  fields := #[]
  methods := #[]
  instanceTypes := #[]
  staticTypes := #[]
  resolved := Array.replicate 5 none
  statics := none }

/-- the primitive byte -/
def k30 : Class := { plain "byte" none with kind := .primitive 'B', accessFlags := 0x411 }
/-- [B -/
def k31 : Class := { plain "[B" (some 0) with kind := .array 30 .byte, interfaces := #[11, 12], accessFlags := 1041 }

/-- the primitive int -/
def k32 : Class := { plain "int" none with kind := .primitive 'I', accessFlags := 0x411 }
/-- [I -/
def k33 : Class := { plain "[I" (some 0) with kind := .array 32 .int, interfaces := #[11, 12], accessFlags := 1041 }

/-- [Ljava/lang/Integer; -/
def k34 : Class := { plain "[Ljava/lang/Integer;" (some 0) with kind := .array 23 (.object "java/lang/Integer"), interfaces := #[11, 12], accessFlags := 1041 }

/-- [Ljava/lang/Object; -/
def k35 : Class := { plain "[Ljava/lang/Object;" (some 0) with kind := .array 0 (.object "java/lang/Object"), interfaces := #[11, 12], accessFlags := 1041, mirror := some 3 }

def heap : Heap := #[{ cls := 13, slots := #[.long 0, .int 0, .ref 263, .ref 264], vm := .statics 13 },
  { cls := 14, slots := #[.long 0, .int 0, .null, .ref 265, .ref 6, .null, .null, .null, .int 0, .int 1], vm := .statics 14 },
  { cls := 24, slots := #[.int 0, .int 127, .ref 4, .null, .int 0], vm := .statics 24 },
  { cls := 29, slots := #[], vm := .mirror 35 },
  { cls := 34, slots := #[.ref 7, .ref 8, .ref 9, .ref 10, .ref 11, .ref 12, .ref 13, .ref 14, .ref 15, .ref 16, .ref 17, .ref 18, .ref 19, .ref 20, .ref 21, .ref 22, .ref 23, .ref 24, .ref 25, .ref 26, .ref 27, .ref 28, .ref 29, .ref 30, .ref 31, .ref 32, .ref 33, .ref 34, .ref 35, .ref 36, .ref 37, .ref 38, .ref 39, .ref 40, .ref 41, .ref 42, .ref 43, .ref 44, .ref 45, .ref 46, .ref 47, .ref 48, .ref 49, .ref 50, .ref 51, .ref 52, .ref 53, .ref 54, .ref 55, .ref 56, .ref 57, .ref 58, .ref 59, .ref 60, .ref 61, .ref 62, .ref 63, .ref 64, .ref 65, .ref 66, .ref 67, .ref 68, .ref 69, .ref 70, .ref 71, .ref 72, .ref 73, .ref 74, .ref 75, .ref 76, .ref 77, .ref 78, .ref 79, .ref 80, .ref 81, .ref 82, .ref 83, .ref 84, .ref 85, .ref 86, .ref 87, .ref 88, .ref 89, .ref 90, .ref 91, .ref 92, .ref 93, .ref 94, .ref 95, .ref 96, .ref 97, .ref 98, .ref 99, .ref 100, .ref 101, .ref 102, .ref 103, .ref 104, .ref 105, .ref 106, .ref 107, .ref 108, .ref 109, .ref 110, .ref 111, .ref 112, .ref 113, .ref 114, .ref 115, .ref 116, .ref 117, .ref 118, .ref 119, .ref 120, .ref 121, .ref 122, .ref 123, .ref 124, .ref 125, .ref 126, .ref 127, .ref 128, .ref 129, .ref 130, .ref 131, .ref 132, .ref 133, .ref 134, .ref 135, .ref 136, .ref 137, .ref 138, .ref 139, .ref 140, .ref 141, .ref 142, .ref 143, .ref 144, .ref 145, .ref 146, .ref 147, .ref 148, .ref 149, .ref 150, .ref 151, .ref 152, .ref 153, .ref 154, .ref 155, .ref 156, .ref 157, .ref 158, .ref 159, .ref 160, .ref 161, .ref 162, .ref 163, .ref 164, .ref 165, .ref 166, .ref 167, .ref 168, .ref 169, .ref 170, .ref 171, .ref 172, .ref 173, .ref 174, .ref 175, .ref 176, .ref 177, .ref 178, .ref 179, .ref 180, .ref 181, .ref 182, .ref 183, .ref 184, .ref 185, .ref 186, .ref 187, .ref 188, .ref 189, .ref 190, .ref 191, .ref 192, .ref 193, .ref 194, .ref 195, .ref 196, .ref 197, .ref 198, .ref 199, .ref 200, .ref 201, .ref 202, .ref 203, .ref 204, .ref 205, .ref 206, .ref 207, .ref 208, .ref 209, .ref 210, .ref 211, .ref 212, .ref 213, .ref 214, .ref 215, .ref 216, .ref 217, .ref 218, .ref 219, .ref 220, .ref 221, .ref 222, .ref 223, .ref 224, .ref 225, .ref 226, .ref 227, .ref 228, .ref 229, .ref 230, .ref 231, .ref 232, .ref 233, .ref 234, .ref 235, .ref 236, .ref 237, .ref 238, .ref 239, .ref 240, .ref 241, .ref 242, .ref 243, .ref 244, .ref 245, .ref 246, .ref 247, .ref 248, .ref 249, .ref 250, .ref 251, .ref 252, .ref 253, .ref 254, .ref 255, .ref 256, .ref 257, .ref 258, .ref 259, .ref 260, .ref 261, .ref 262], vm := .none },
  { cls := 35, slots := #[], vm := .none },
  { cls := 18, slots := #[.ref 5, .int 0], vm := .none },
  { cls := 23, slots := #[.int (-128)], vm := .none },
  { cls := 23, slots := #[.int (-127)], vm := .none },
  { cls := 23, slots := #[.int (-126)], vm := .none },
  { cls := 23, slots := #[.int (-125)], vm := .none },
  { cls := 23, slots := #[.int (-124)], vm := .none },
  { cls := 23, slots := #[.int (-123)], vm := .none },
  { cls := 23, slots := #[.int (-122)], vm := .none },
  { cls := 23, slots := #[.int (-121)], vm := .none },
  { cls := 23, slots := #[.int (-120)], vm := .none },
  { cls := 23, slots := #[.int (-119)], vm := .none },
  { cls := 23, slots := #[.int (-118)], vm := .none },
  { cls := 23, slots := #[.int (-117)], vm := .none },
  { cls := 23, slots := #[.int (-116)], vm := .none },
  { cls := 23, slots := #[.int (-115)], vm := .none },
  { cls := 23, slots := #[.int (-114)], vm := .none },
  { cls := 23, slots := #[.int (-113)], vm := .none },
  { cls := 23, slots := #[.int (-112)], vm := .none },
  { cls := 23, slots := #[.int (-111)], vm := .none },
  { cls := 23, slots := #[.int (-110)], vm := .none },
  { cls := 23, slots := #[.int (-109)], vm := .none },
  { cls := 23, slots := #[.int (-108)], vm := .none },
  { cls := 23, slots := #[.int (-107)], vm := .none },
  { cls := 23, slots := #[.int (-106)], vm := .none },
  { cls := 23, slots := #[.int (-105)], vm := .none },
  { cls := 23, slots := #[.int (-104)], vm := .none },
  { cls := 23, slots := #[.int (-103)], vm := .none },
  { cls := 23, slots := #[.int (-102)], vm := .none },
  { cls := 23, slots := #[.int (-101)], vm := .none },
  { cls := 23, slots := #[.int (-100)], vm := .none },
  { cls := 23, slots := #[.int (-99)], vm := .none },
  { cls := 23, slots := #[.int (-98)], vm := .none },
  { cls := 23, slots := #[.int (-97)], vm := .none },
  { cls := 23, slots := #[.int (-96)], vm := .none },
  { cls := 23, slots := #[.int (-95)], vm := .none },
  { cls := 23, slots := #[.int (-94)], vm := .none },
  { cls := 23, slots := #[.int (-93)], vm := .none },
  { cls := 23, slots := #[.int (-92)], vm := .none },
  { cls := 23, slots := #[.int (-91)], vm := .none },
  { cls := 23, slots := #[.int (-90)], vm := .none },
  { cls := 23, slots := #[.int (-89)], vm := .none },
  { cls := 23, slots := #[.int (-88)], vm := .none },
  { cls := 23, slots := #[.int (-87)], vm := .none },
  { cls := 23, slots := #[.int (-86)], vm := .none },
  { cls := 23, slots := #[.int (-85)], vm := .none },
  { cls := 23, slots := #[.int (-84)], vm := .none },
  { cls := 23, slots := #[.int (-83)], vm := .none },
  { cls := 23, slots := #[.int (-82)], vm := .none },
  { cls := 23, slots := #[.int (-81)], vm := .none },
  { cls := 23, slots := #[.int (-80)], vm := .none },
  { cls := 23, slots := #[.int (-79)], vm := .none },
  { cls := 23, slots := #[.int (-78)], vm := .none },
  { cls := 23, slots := #[.int (-77)], vm := .none },
  { cls := 23, slots := #[.int (-76)], vm := .none },
  { cls := 23, slots := #[.int (-75)], vm := .none },
  { cls := 23, slots := #[.int (-74)], vm := .none },
  { cls := 23, slots := #[.int (-73)], vm := .none },
  { cls := 23, slots := #[.int (-72)], vm := .none },
  { cls := 23, slots := #[.int (-71)], vm := .none },
  { cls := 23, slots := #[.int (-70)], vm := .none },
  { cls := 23, slots := #[.int (-69)], vm := .none },
  { cls := 23, slots := #[.int (-68)], vm := .none },
  { cls := 23, slots := #[.int (-67)], vm := .none },
  { cls := 23, slots := #[.int (-66)], vm := .none },
  { cls := 23, slots := #[.int (-65)], vm := .none },
  { cls := 23, slots := #[.int (-64)], vm := .none },
  { cls := 23, slots := #[.int (-63)], vm := .none },
  { cls := 23, slots := #[.int (-62)], vm := .none },
  { cls := 23, slots := #[.int (-61)], vm := .none },
  { cls := 23, slots := #[.int (-60)], vm := .none },
  { cls := 23, slots := #[.int (-59)], vm := .none },
  { cls := 23, slots := #[.int (-58)], vm := .none },
  { cls := 23, slots := #[.int (-57)], vm := .none },
  { cls := 23, slots := #[.int (-56)], vm := .none },
  { cls := 23, slots := #[.int (-55)], vm := .none },
  { cls := 23, slots := #[.int (-54)], vm := .none },
  { cls := 23, slots := #[.int (-53)], vm := .none },
  { cls := 23, slots := #[.int (-52)], vm := .none },
  { cls := 23, slots := #[.int (-51)], vm := .none },
  { cls := 23, slots := #[.int (-50)], vm := .none },
  { cls := 23, slots := #[.int (-49)], vm := .none },
  { cls := 23, slots := #[.int (-48)], vm := .none },
  { cls := 23, slots := #[.int (-47)], vm := .none },
  { cls := 23, slots := #[.int (-46)], vm := .none },
  { cls := 23, slots := #[.int (-45)], vm := .none },
  { cls := 23, slots := #[.int (-44)], vm := .none },
  { cls := 23, slots := #[.int (-43)], vm := .none },
  { cls := 23, slots := #[.int (-42)], vm := .none },
  { cls := 23, slots := #[.int (-41)], vm := .none },
  { cls := 23, slots := #[.int (-40)], vm := .none },
  { cls := 23, slots := #[.int (-39)], vm := .none },
  { cls := 23, slots := #[.int (-38)], vm := .none },
  { cls := 23, slots := #[.int (-37)], vm := .none },
  { cls := 23, slots := #[.int (-36)], vm := .none },
  { cls := 23, slots := #[.int (-35)], vm := .none },
  { cls := 23, slots := #[.int (-34)], vm := .none },
  { cls := 23, slots := #[.int (-33)], vm := .none },
  { cls := 23, slots := #[.int (-32)], vm := .none },
  { cls := 23, slots := #[.int (-31)], vm := .none },
  { cls := 23, slots := #[.int (-30)], vm := .none },
  { cls := 23, slots := #[.int (-29)], vm := .none },
  { cls := 23, slots := #[.int (-28)], vm := .none },
  { cls := 23, slots := #[.int (-27)], vm := .none },
  { cls := 23, slots := #[.int (-26)], vm := .none },
  { cls := 23, slots := #[.int (-25)], vm := .none },
  { cls := 23, slots := #[.int (-24)], vm := .none },
  { cls := 23, slots := #[.int (-23)], vm := .none },
  { cls := 23, slots := #[.int (-22)], vm := .none },
  { cls := 23, slots := #[.int (-21)], vm := .none },
  { cls := 23, slots := #[.int (-20)], vm := .none },
  { cls := 23, slots := #[.int (-19)], vm := .none },
  { cls := 23, slots := #[.int (-18)], vm := .none },
  { cls := 23, slots := #[.int (-17)], vm := .none },
  { cls := 23, slots := #[.int (-16)], vm := .none },
  { cls := 23, slots := #[.int (-15)], vm := .none },
  { cls := 23, slots := #[.int (-14)], vm := .none },
  { cls := 23, slots := #[.int (-13)], vm := .none },
  { cls := 23, slots := #[.int (-12)], vm := .none },
  { cls := 23, slots := #[.int (-11)], vm := .none },
  { cls := 23, slots := #[.int (-10)], vm := .none },
  { cls := 23, slots := #[.int (-9)], vm := .none },
  { cls := 23, slots := #[.int (-8)], vm := .none },
  { cls := 23, slots := #[.int (-7)], vm := .none },
  { cls := 23, slots := #[.int (-6)], vm := .none },
  { cls := 23, slots := #[.int (-5)], vm := .none },
  { cls := 23, slots := #[.int (-4)], vm := .none },
  { cls := 23, slots := #[.int (-3)], vm := .none },
  { cls := 23, slots := #[.int (-2)], vm := .none },
  { cls := 23, slots := #[.int (-1)], vm := .none },
  { cls := 23, slots := #[.int 0], vm := .none },
  { cls := 23, slots := #[.int 1], vm := .none },
  { cls := 23, slots := #[.int 2], vm := .none },
  { cls := 23, slots := #[.int 3], vm := .none },
  { cls := 23, slots := #[.int 4], vm := .none },
  { cls := 23, slots := #[.int 5], vm := .none },
  { cls := 23, slots := #[.int 6], vm := .none },
  { cls := 23, slots := #[.int 7], vm := .none },
  { cls := 23, slots := #[.int 8], vm := .none },
  { cls := 23, slots := #[.int 9], vm := .none },
  { cls := 23, slots := #[.int 10], vm := .none },
  { cls := 23, slots := #[.int 11], vm := .none },
  { cls := 23, slots := #[.int 12], vm := .none },
  { cls := 23, slots := #[.int 13], vm := .none },
  { cls := 23, slots := #[.int 14], vm := .none },
  { cls := 23, slots := #[.int 15], vm := .none },
  { cls := 23, slots := #[.int 16], vm := .none },
  { cls := 23, slots := #[.int 17], vm := .none },
  { cls := 23, slots := #[.int 18], vm := .none },
  { cls := 23, slots := #[.int 19], vm := .none },
  { cls := 23, slots := #[.int 20], vm := .none },
  { cls := 23, slots := #[.int 21], vm := .none },
  { cls := 23, slots := #[.int 22], vm := .none },
  { cls := 23, slots := #[.int 23], vm := .none },
  { cls := 23, slots := #[.int 24], vm := .none },
  { cls := 23, slots := #[.int 25], vm := .none },
  { cls := 23, slots := #[.int 26], vm := .none },
  { cls := 23, slots := #[.int 27], vm := .none },
  { cls := 23, slots := #[.int 28], vm := .none },
  { cls := 23, slots := #[.int 29], vm := .none },
  { cls := 23, slots := #[.int 30], vm := .none },
  { cls := 23, slots := #[.int 31], vm := .none },
  { cls := 23, slots := #[.int 32], vm := .none },
  { cls := 23, slots := #[.int 33], vm := .none },
  { cls := 23, slots := #[.int 34], vm := .none },
  { cls := 23, slots := #[.int 35], vm := .none },
  { cls := 23, slots := #[.int 36], vm := .none },
  { cls := 23, slots := #[.int 37], vm := .none },
  { cls := 23, slots := #[.int 38], vm := .none },
  { cls := 23, slots := #[.int 39], vm := .none },
  { cls := 23, slots := #[.int 40], vm := .none },
  { cls := 23, slots := #[.int 41], vm := .none },
  { cls := 23, slots := #[.int 42], vm := .none },
  { cls := 23, slots := #[.int 43], vm := .none },
  { cls := 23, slots := #[.int 44], vm := .none },
  { cls := 23, slots := #[.int 45], vm := .none },
  { cls := 23, slots := #[.int 46], vm := .none },
  { cls := 23, slots := #[.int 47], vm := .none },
  { cls := 23, slots := #[.int 48], vm := .none },
  { cls := 23, slots := #[.int 49], vm := .none },
  { cls := 23, slots := #[.int 50], vm := .none },
  { cls := 23, slots := #[.int 51], vm := .none },
  { cls := 23, slots := #[.int 52], vm := .none },
  { cls := 23, slots := #[.int 53], vm := .none },
  { cls := 23, slots := #[.int 54], vm := .none },
  { cls := 23, slots := #[.int 55], vm := .none },
  { cls := 23, slots := #[.int 56], vm := .none },
  { cls := 23, slots := #[.int 57], vm := .none },
  { cls := 23, slots := #[.int 58], vm := .none },
  { cls := 23, slots := #[.int 59], vm := .none },
  { cls := 23, slots := #[.int 60], vm := .none },
  { cls := 23, slots := #[.int 61], vm := .none },
  { cls := 23, slots := #[.int 62], vm := .none },
  { cls := 23, slots := #[.int 63], vm := .none },
  { cls := 23, slots := #[.int 64], vm := .none },
  { cls := 23, slots := #[.int 65], vm := .none },
  { cls := 23, slots := #[.int 66], vm := .none },
  { cls := 23, slots := #[.int 67], vm := .none },
  { cls := 23, slots := #[.int 68], vm := .none },
  { cls := 23, slots := #[.int 69], vm := .none },
  { cls := 23, slots := #[.int 70], vm := .none },
  { cls := 23, slots := #[.int 71], vm := .none },
  { cls := 23, slots := #[.int 72], vm := .none },
  { cls := 23, slots := #[.int 73], vm := .none },
  { cls := 23, slots := #[.int 74], vm := .none },
  { cls := 23, slots := #[.int 75], vm := .none },
  { cls := 23, slots := #[.int 76], vm := .none },
  { cls := 23, slots := #[.int 77], vm := .none },
  { cls := 23, slots := #[.int 78], vm := .none },
  { cls := 23, slots := #[.int 79], vm := .none },
  { cls := 23, slots := #[.int 80], vm := .none },
  { cls := 23, slots := #[.int 81], vm := .none },
  { cls := 23, slots := #[.int 82], vm := .none },
  { cls := 23, slots := #[.int 83], vm := .none },
  { cls := 23, slots := #[.int 84], vm := .none },
  { cls := 23, slots := #[.int 85], vm := .none },
  { cls := 23, slots := #[.int 86], vm := .none },
  { cls := 23, slots := #[.int 87], vm := .none },
  { cls := 23, slots := #[.int 88], vm := .none },
  { cls := 23, slots := #[.int 89], vm := .none },
  { cls := 23, slots := #[.int 90], vm := .none },
  { cls := 23, slots := #[.int 91], vm := .none },
  { cls := 23, slots := #[.int 92], vm := .none },
  { cls := 23, slots := #[.int 93], vm := .none },
  { cls := 23, slots := #[.int 94], vm := .none },
  { cls := 23, slots := #[.int 95], vm := .none },
  { cls := 23, slots := #[.int 96], vm := .none },
  { cls := 23, slots := #[.int 97], vm := .none },
  { cls := 23, slots := #[.int 98], vm := .none },
  { cls := 23, slots := #[.int 99], vm := .none },
  { cls := 23, slots := #[.int 100], vm := .none },
  { cls := 23, slots := #[.int 101], vm := .none },
  { cls := 23, slots := #[.int 102], vm := .none },
  { cls := 23, slots := #[.int 103], vm := .none },
  { cls := 23, slots := #[.int 104], vm := .none },
  { cls := 23, slots := #[.int 105], vm := .none },
  { cls := 23, slots := #[.int 106], vm := .none },
  { cls := 23, slots := #[.int 107], vm := .none },
  { cls := 23, slots := #[.int 108], vm := .none },
  { cls := 23, slots := #[.int 109], vm := .none },
  { cls := 23, slots := #[.int 110], vm := .none },
  { cls := 23, slots := #[.int 111], vm := .none },
  { cls := 23, slots := #[.int 112], vm := .none },
  { cls := 23, slots := #[.int 113], vm := .none },
  { cls := 23, slots := #[.int 114], vm := .none },
  { cls := 23, slots := #[.int 115], vm := .none },
  { cls := 23, slots := #[.int 116], vm := .none },
  { cls := 23, slots := #[.int 117], vm := .none },
  { cls := 23, slots := #[.int 118], vm := .none },
  { cls := 23, slots := #[.int 119], vm := .none },
  { cls := 23, slots := #[.int 120], vm := .none },
  { cls := 23, slots := #[.int 121], vm := .none },
  { cls := 23, slots := #[.int 122], vm := .none },
  { cls := 23, slots := #[.int 123], vm := .none },
  { cls := 23, slots := #[.int 124], vm := .none },
  { cls := 23, slots := #[.int 125], vm := .none },
  { cls := 23, slots := #[.int 126], vm := .none },
  { cls := 23, slots := #[.int 127], vm := .none },
  { cls := 35, slots := #[], vm := .none },
  { cls := 35, slots := #[], vm := .none },
  { cls := 0, slots := #[], vm := .none }]
def classes : Array Class := #[k0, k1, k2, k3, k4, k5, k6, k7, k8, k9, k10, k11, k12, k13, k14, k15, k16, k17, k18, k19, k20, k21, k22, k23, k24, k25, k26, k27, k28, k29, k30, k31, k32, k33, k34, k35]
def interned : List (Array UInt16 × Addr) := []
def slotsUsed : Nat := 533
def theMethod : MethodId := ⟨1, 2⟩
def args0 : Array Value := #[.int 3, .int 7, .int 300, .int 9, .int 4]
def aboutOver (below : List Frame) : State where
  vm := { classes := classes, interned := interned.toArray }
  heap := heap
  slotsUsed := slotsUsed
  threads := #[{ frames := .invoking theMethod args0 :: below }]
def below0 : List Frame := [.native { method := ⟨0, 0⟩, args := #[] }]
def about1 : State := aboutOver below0
def p0 : Program := .bare "" "" ""
def e0 : Env := launch0.env 0 0 0
theorem w_frames : about1.frames = Frame.invoking theMethod args0 :: below0 := rfl
set_option maxRecDepth 65536 in
theorem w_args : argsFit about1.vm theMethod args0 = true := by decide +kernel
set_option maxRecDepth 65536 in
theorem w_heap : heapFits about1 = true := by decide +kernel
set_option maxRecDepth 65536 in
theorem w_runnable : about1.curStatus? = some .runnable := by decide +kernel
set_option maxRecDepth 65536 in
theorem w_alone : about1.alone = true := by decide +kernel
set_option maxRecDepth 65536 in
theorem w_named : about1.methodNamed? x = some theMethod := by decide +kernel
set_option maxRecDepth 65536 in
theorem w_hears : about1.hears theMethod below0 = true := by decide +kernel
set_option maxRecDepth 65536 in
theorem w_ripe : about1.ripe theMethod args0 below0 = true := by decide +kernel
theorem w_running : about1.status = .running := rfl
set_option maxRecDepth 65536 in
theorem w_room : about1.hasRoom e0.platform room_1 = true :=
  launch0.hasRoom_least _ room_1 (by decide +kernel) (by decide +kernel) (by decide +kernel) (by decide +kernel) (by decide +kernel) (by decide +kernel)
theorem allAtoms_all (ts : List Jvm.Cond) (a : Array Jvm.Value) (st : Jvm.State) : (allAtoms ts).before a st = ts.all (fun c => c.before a st) := by
  induction ts with
  | nil => rfl
  | cons c t ih =>
    show (Jvm.Cond.and c (allAtoms t)).before a st = _
    rw [Jvm.Cond.before_and, ih, List.all_cons]
def words1 : List Jvm.Cond := Jvm.Cond.code x code maxLocals ret :: tables_1
/-- a 'code' word, met by the world's own term for the bytes: nothing is compared byte by byte -/
theorem code_word {y : MethodName} {bytes : ByteArray} {mx : Nat} {rt : Option FieldType} {a : Array Value} {s : State} {m : MethodId} {meth : Method} {c : Code} (h1 : s.methodNamed? y = some m) (h2 : s.vm.method? m = some meth) (h3 : meth.code = some c) (h4 : c.code = bytes)
    (h5 : (c.maxLocals == mx && c.exceptionTable.isEmpty && decide (c.maxStack ≤ mostOperands) && decide (meth.sig.returnType = rt) && !meth.locks && decide (parseMethodDescriptor y.desc = some meth.sig)) = true) : (Jvm.Cond.code y bytes mx rt).before a s = true := by
  simp only [Bool.and_eq_true, beq_iff_eq, Bool.not_eq_true', decide_eq_true_eq] at h5
  obtain ⟨⟨⟨⟨⟨g1, g2⟩, g3⟩, g4⟩, g5⟩, g6⟩ := h5
  simp [Cond.before, Cond.holds, Cond.value, h1, h2, h3, h4, g1, g2, g3, g4, g5, g6]
def isCode : Jvm.Cond → Bool
  | .code _ _ _ _ => true
  | _ => false
theorem all_split {L : List Jvm.Cond} {P : Jvm.Cond → Bool} (h1 : L.all (fun c => isCode c || P c) = true) (h2 : ∀ c ∈ L.filter isCode, P c = true) : L.all P = true := by
  refine List.all_eq_true.mpr fun c hc => ?_
  have h := List.all_eq_true.mp h1 c hc
  rcases Bool.eq_false_or_eq_true (isCode c) with hi | hi
  · exact h2 c (List.mem_filter.mpr ⟨hc, hi⟩)
  · simpa [hi] using h
set_option maxRecDepth 65536 in
theorem w_c0 : (Jvm.Cond.code x code maxLocals ret).before args0 about1 = true := code_word (m := ⟨1, 2⟩) (meth := k1m2) (c := k1c2) (by decide +kernel) rfl rfl rfl (by decide +kernel)
set_option maxRecDepth 65536 in
theorem w_c1 : (Jvm.Cond.code ({ cls := "com/example/wildmotif/wildmotif/match/Outcome", name := "witnessOfSingleNodes", desc := "([I)Ljava/util/List;" } : Jvm.MethodName) prog_11_method_3_code (6 : Nat) (Option.some (Jvm.ClassFile.FieldType.object "java/util/List"))).before args0 about1 = true := code_word (m := ⟨3, 0⟩) (meth := k3m0) (c := k3c0) (by decide +kernel) rfl rfl rfl (by decide +kernel)
set_option maxRecDepth 65536 in
theorem w_c2 : (Jvm.Cond.code ({ cls := "java/util/ArrayList", name := "<init>", desc := "(I)V" } : Jvm.MethodName) jdk_38_method_1_code (2 : Nat) (Option.none : Option Jvm.ClassFile.FieldType)).before args0 about1 = true := code_word (m := ⟨13, 0⟩) (meth := k13m0) (c := k13c0) (by decide +kernel) rfl rfl rfl (by decide +kernel)
set_option maxRecDepth 65536 in
theorem w_c3 : (Jvm.Cond.code ({ cls := "java/util/AbstractList", name := "<init>", desc := "()V" } : Jvm.MethodName) jdk_39_method_1_code (1 : Nat) (Option.none : Option Jvm.ClassFile.FieldType)).before args0 about1 = true := code_word (m := ⟨9, 0⟩) (meth := k9m0) (c := k9c0) (by decide +kernel) rfl rfl rfl (by decide +kernel)
set_option maxRecDepth 65536 in
theorem w_c4 : (Jvm.Cond.code ({ cls := "java/util/AbstractCollection", name := "<init>", desc := "()V" } : Jvm.MethodName) jdk_22_method_1_code (1 : Nat) (Option.none : Option Jvm.ClassFile.FieldType)).before args0 about1 = true := code_word (m := ⟨6, 0⟩) (meth := k6m0) (c := k6c0) (by decide +kernel) rfl rfl rfl (by decide +kernel)
set_option maxRecDepth 65536 in
theorem w_c5 : (Jvm.Cond.code ({ cls := "java/lang/Object", name := "<init>", desc := "()V" } : Jvm.MethodName) object_method_1_code (1 : Nat) (Option.none : Option Jvm.ClassFile.FieldType)).before args0 about1 = true := code_word (m := ⟨0, 0⟩) (meth := k0m0) (c := k0c0) (by decide +kernel) rfl rfl rfl (by decide +kernel)
set_option maxRecDepth 65536 in
theorem w_c6 : (Jvm.Cond.code ({ cls := "java/util/List", name := "copyOf", desc := "(Ljava/util/Collection;)Ljava/util/List;" } : Jvm.MethodName) jdk_40_method_48_code (1 : Nat) (Option.some (Jvm.ClassFile.FieldType.object "java/util/List"))).before args0 about1 = true := code_word (m := ⟨8, 6⟩) (meth := k8m6) (c := k8c6) (by decide +kernel) rfl rfl rfl (by decide +kernel)
set_option maxRecDepth 65536 in
theorem w_c7 : (Jvm.Cond.code ({ cls := "java/util/ImmutableCollections", name := "listCopy", desc := "(Ljava/util/Collection;)Ljava/util/List;" } : Jvm.MethodName) jdk_56_method_3_code (2 : Nat) (Option.some (Jvm.ClassFile.FieldType.object "java/util/List"))).before args0 about1 = true := code_word (m := ⟨14, 1⟩) (meth := k14m1) (c := k14c1) (by decide +kernel) rfl rfl rfl (by decide +kernel)
set_option maxRecDepth 65536 in
theorem w_c8 : (Jvm.Cond.code ({ cls := "java/util/ArrayList", name := "isEmpty", desc := "()Z" } : Jvm.MethodName) jdk_38_method_9_code (1 : Nat) (Option.some Jvm.ClassFile.FieldType.boolean)).before args0 about1 = true := code_word (m := ⟨13, 2⟩) (meth := k13m2) (c := k13c2) (by decide +kernel) rfl rfl rfl (by decide +kernel)
set_option maxRecDepth 65536 in
theorem w_c9 : (Jvm.Cond.code ({ cls := "java/util/List", name := "of", desc := "()Ljava/util/List;" } : Jvm.MethodName) jdk_40_method_36_code (0 : Nat) (Option.some (Jvm.ClassFile.FieldType.object "java/util/List"))).before args0 about1 = true := code_word (m := ⟨8, 3⟩) (meth := k8m3) (c := k8c3) (by decide +kernel) rfl rfl rfl (by decide +kernel)
set_option maxRecDepth 65536 in
theorem w_c10 : (Jvm.Cond.code ({ cls := "java/util/ImmutableCollections$ListN", name := "size", desc := "()I" } : Jvm.MethodName) jdk_45_method_3_code (1 : Nat) (Option.some Jvm.ClassFile.FieldType.int)).before args0 about1 = true := code_word (m := ⟨18, 1⟩) (meth := k18m1) (c := k18c1) (by decide +kernel) rfl rfl rfl (by decide +kernel)
set_option maxRecDepth 65536 in
theorem w_c11 : (Jvm.Cond.code ({ cls := "com/example/wildmotif/wildmotif/match/OutcomeWitnessOfSingleNodesPinLaw", name := "at", desc := "(Ljava/util/List;III)Z" } : Jvm.MethodName) method_2_code (5 : Nat) (Option.some Jvm.ClassFile.FieldType.boolean)).before args0 about1 = true := code_word (m := ⟨1, 1⟩) (meth := k1m1) (c := k1c1) (by decide +kernel) rfl rfl rfl (by decide +kernel)
set_option maxRecDepth 65536 in
theorem w_c12 : (Jvm.Cond.code ({ cls := "java/lang/Integer", name := "valueOf", desc := "(I)Ljava/lang/Integer;" } : Jvm.MethodName) jdk_33_method_22_code (1 : Nat) (Option.some (Jvm.ClassFile.FieldType.object "java/lang/Integer"))).before args0 about1 = true := code_word (m := ⟨23, 0⟩) (meth := k23m0) (c := k23c0) (by decide +kernel) rfl rfl rfl (by decide +kernel)
set_option maxRecDepth 65536 in
theorem w_c13 : (Jvm.Cond.code ({ cls := "java/util/List", name := "of", desc := "(Ljava/lang/Object;)Ljava/util/List;" } : Jvm.MethodName) jdk_40_method_37_code (1 : Nat) (Option.some (Jvm.ClassFile.FieldType.object "java/util/List"))).before args0 about1 = true := code_word (m := ⟨8, 4⟩) (meth := k8m4) (c := k8c4) (by decide +kernel) rfl rfl rfl (by decide +kernel)
set_option maxRecDepth 65536 in
theorem w_c14 : (Jvm.Cond.code ({ cls := "java/util/ImmutableCollections$List12", name := "<init>", desc := "(Ljava/lang/Object;)V" } : Jvm.MethodName) jdk_44_method_1_code (2 : Nat) (Option.none : Option Jvm.ClassFile.FieldType)).before args0 about1 = true := code_word (m := ⟨17, 0⟩) (meth := k17m0) (c := k17c0) (by decide +kernel) rfl rfl rfl (by decide +kernel)
set_option maxRecDepth 65536 in
theorem w_c15 : (Jvm.Cond.code ({ cls := "java/util/ImmutableCollections$AbstractImmutableList", name := "<init>", desc := "()V" } : Jvm.MethodName) jdk_46_method_1_code (1 : Nat) (Option.none : Option Jvm.ClassFile.FieldType)).before args0 about1 = true := code_word (m := ⟨16, 0⟩) (meth := k16m0) (c := k16c0) (by decide +kernel) rfl rfl rfl (by decide +kernel)
set_option maxRecDepth 65536 in
theorem w_c16 : (Jvm.Cond.code ({ cls := "java/util/ImmutableCollections$AbstractImmutableCollection", name := "<init>", desc := "()V" } : Jvm.MethodName) jdk_47_method_1_code (1 : Nat) (Option.none : Option Jvm.ClassFile.FieldType)).before args0 about1 = true := code_word (m := ⟨15, 0⟩) (meth := k15m0) (c := k15c0) (by decide +kernel) rfl rfl rfl (by decide +kernel)
set_option maxRecDepth 65536 in
theorem w_c17 : (Jvm.Cond.code ({ cls := "java/util/Objects", name := "requireNonNull", desc := "(Ljava/lang/Object;)Ljava/lang/Object;" } : Jvm.MethodName) jdk_31_method_10_code (1 : Nat) (Option.some (Jvm.ClassFile.FieldType.object "java/lang/Object"))).before args0 about1 = true := code_word (m := ⟨25, 1⟩) (meth := k25m1) (c := k25c1) (by decide +kernel) rfl rfl rfl (by decide +kernel)
set_option maxRecDepth 65536 in
theorem w_c18 : (Jvm.Cond.code ({ cls := "java/util/ArrayList", name := "add", desc := "(Ljava/lang/Object;)Z" } : Jvm.MethodName) jdk_38_method_25_code (2 : Nat) (Option.some Jvm.ClassFile.FieldType.boolean)).before args0 about1 = true := code_word (m := ⟨13, 5⟩) (meth := k13m5) (c := k13c5) (by decide +kernel) rfl rfl rfl (by decide +kernel)
set_option maxRecDepth 65536 in
theorem w_c19 : (Jvm.Cond.code ({ cls := "java/util/ArrayList", name := "add", desc := "(Ljava/lang/Object;[Ljava/lang/Object;I)V" } : Jvm.MethodName) jdk_38_method_24_code (4 : Nat) (Option.none : Option Jvm.ClassFile.FieldType)).before args0 about1 = true := code_word (m := ⟨13, 4⟩) (meth := k13m4) (c := k13c4) (by decide +kernel) rfl rfl rfl (by decide +kernel)
set_option maxRecDepth 65536 in
theorem w_c20 : (Jvm.Cond.code ({ cls := "java/util/ArrayList", name := "toArray", desc := "()[Ljava/lang/Object;" } : Jvm.MethodName) jdk_38_method_16_code (1 : Nat) (Option.some (Jvm.ClassFile.FieldType.array (Jvm.ClassFile.FieldType.object "java/lang/Object")))).before args0 about1 = true := code_word (m := ⟨13, 3⟩) (meth := k13m3) (c := k13c3) (by decide +kernel) rfl rfl rfl (by decide +kernel)
set_option maxRecDepth 65536 in
theorem w_c21 : (Jvm.Cond.code ({ cls := "java/util/Arrays", name := "copyOf", desc := "([Ljava/lang/Object;I)[Ljava/lang/Object;" } : Jvm.MethodName) jdk_65_method_119_code (2 : Nat) (Option.some (Jvm.ClassFile.FieldType.array (Jvm.ClassFile.FieldType.object "java/lang/Object")))).before args0 about1 = true := code_word (m := ⟨26, 1⟩) (meth := k26m1) (c := k26c1) (by decide +kernel) rfl rfl rfl (by decide +kernel)
set_option maxRecDepth 65536 in
theorem w_c22 : (Jvm.Cond.code ({ cls := "java/util/Arrays", name := "copyOf", desc := "([Ljava/lang/Object;ILjava/lang/Class;)[Ljava/lang/Object;" } : Jvm.MethodName) jdk_65_method_120_code (4 : Nat) (Option.some (Jvm.ClassFile.FieldType.array (Jvm.ClassFile.FieldType.object "java/lang/Object")))).before args0 about1 = true := code_word (m := ⟨26, 2⟩) (meth := k26m2) (c := k26c2) (by decide +kernel) rfl rfl rfl (by decide +kernel)
set_option maxRecDepth 65536 in
theorem w_c23 : (Jvm.Cond.code ({ cls := "java/lang/Math", name := "min", desc := "(II)I" } : Jvm.MethodName) jdk_29_method_69_code (2 : Nat) (Option.some Jvm.ClassFile.FieldType.int)).before args0 about1 = true := code_word (m := ⟨27, 1⟩) (meth := k27m1) (c := k27c1) (by decide +kernel) rfl rfl rfl (by decide +kernel)
set_option maxRecDepth 65536 in
theorem w_c24 : (Jvm.Cond.code ({ cls := "java/util/List", name := "of", desc := "([Ljava/lang/Object;)Ljava/util/List;" } : Jvm.MethodName) jdk_40_method_47_code (2 : Nat) (Option.some (Jvm.ClassFile.FieldType.object "java/util/List"))).before args0 about1 = true := code_word (m := ⟨8, 5⟩) (meth := k8m5) (c := k8c5) (by decide +kernel) rfl rfl rfl (by decide +kernel)
set_option maxRecDepth 65536 in
theorem w_c25 : (Jvm.Cond.code ({ cls := "java/util/ImmutableCollections", name := "listFromArray", desc := "([Ljava/lang/Object;)Ljava/util/List;" } : Jvm.MethodName) jdk_56_method_4_code (3 : Nat) (Option.some (Jvm.ClassFile.FieldType.object "java/util/List"))).before args0 about1 = true := code_word (m := ⟨14, 2⟩) (meth := k14m2) (c := k14c2) (by decide +kernel) rfl rfl rfl (by decide +kernel)
set_option maxRecDepth 65536 in
theorem w_c26 : (Jvm.Cond.code ({ cls := "java/util/ImmutableCollections$ListN", name := "<init>", desc := "([Ljava/lang/Object;Z)V" } : Jvm.MethodName) jdk_45_method_1_code (3 : Nat) (Option.none : Option Jvm.ClassFile.FieldType)).before args0 about1 = true := code_word (m := ⟨18, 0⟩) (meth := k18m0) (c := k18c0) (by decide +kernel) rfl rfl rfl (by decide +kernel)
set_option maxRecDepth 65536 in
theorem w_c27 : (Jvm.Cond.code ({ cls := "java/util/ImmutableCollections$ListN", name := "get", desc := "(I)Ljava/lang/Object;" } : Jvm.MethodName) jdk_45_method_4_code (2 : Nat) (Option.some (Jvm.ClassFile.FieldType.object "java/lang/Object"))).before args0 about1 = true := code_word (m := ⟨18, 2⟩) (meth := k18m2) (c := k18c2) (by decide +kernel) rfl rfl rfl (by decide +kernel)
set_option maxRecDepth 65536 in
theorem w_c28 : (Jvm.Cond.code ({ cls := "java/util/ImmutableCollections$List12", name := "size", desc := "()I" } : Jvm.MethodName) jdk_44_method_3_code (1 : Nat) (Option.some Jvm.ClassFile.FieldType.int)).before args0 about1 = true := code_word (m := ⟨17, 2⟩) (meth := k17m2) (c := k17c2) (by decide +kernel) rfl rfl rfl (by decide +kernel)
set_option maxRecDepth 65536 in
theorem w_c29 : (Jvm.Cond.code ({ cls := "java/util/ImmutableCollections$List12", name := "get", desc := "(I)Ljava/lang/Object;" } : Jvm.MethodName) jdk_44_method_5_code (2 : Nat) (Option.some (Jvm.ClassFile.FieldType.object "java/lang/Object"))).before args0 about1 = true := code_word (m := ⟨17, 3⟩) (meth := k17m3) (c := k17c3) (by decide +kernel) rfl rfl rfl (by decide +kernel)
set_option maxRecDepth 65536 in
theorem w_c30 : (Jvm.Cond.code ({ cls := "java/lang/Integer", name := "intValue", desc := "()I" } : Jvm.MethodName) jdk_33_method_27_code (1 : Nat) (Option.some Jvm.ClassFile.FieldType.int)).before args0 about1 = true := code_word (m := ⟨23, 2⟩) (meth := k23m2) (c := k23c2) (by decide +kernel) rfl rfl rfl (by decide +kernel)
set_option maxRecDepth 65536 in
theorem w_c31 : (Jvm.Cond.code ({ cls := "java/lang/Integer", name := "<init>", desc := "(I)V" } : Jvm.MethodName) jdk_33_method_23_code (2 : Nat) (Option.none : Option Jvm.ClassFile.FieldType)).before args0 about1 = true := code_word (m := ⟨23, 1⟩) (meth := k23m1) (c := k23c1) (by decide +kernel) rfl rfl rfl (by decide +kernel)
set_option maxRecDepth 65536 in
theorem w_c32 : (Jvm.Cond.code ({ cls := "java/lang/Number", name := "<init>", desc := "()V" } : Jvm.MethodName) jdk_18_method_1_code (1 : Nat) (Option.none : Option Jvm.ClassFile.FieldType)).before args0 about1 = true := code_word (m := ⟨19, 0⟩) (meth := k19m0) (c := k19c0) (by decide +kernel) rfl rfl rfl (by decide +kernel)
set_option maxRecDepth 65536 in
theorem w_c33 : (Jvm.Cond.code ({ cls := "java/util/ImmutableCollections$List12", name := "<init>", desc := "(Ljava/lang/Object;Ljava/lang/Object;)V" } : Jvm.MethodName) jdk_44_method_2_code (3 : Nat) (Option.none : Option Jvm.ClassFile.FieldType)).before args0 about1 = true := code_word (m := ⟨17, 1⟩) (meth := k17m1) (c := k17c1) (by decide +kernel) rfl rfl rfl (by decide +kernel)
def codes1 : List Jvm.Cond := [Jvm.Cond.code x code maxLocals ret, Jvm.Cond.code ({ cls := "com/example/wildmotif/wildmotif/match/Outcome", name := "witnessOfSingleNodes", desc := "([I)Ljava/util/List;" } : Jvm.MethodName) prog_11_method_3_code (6 : Nat) (Option.some (Jvm.ClassFile.FieldType.object "java/util/List")), Jvm.Cond.code ({ cls := "java/util/ArrayList", name := "<init>", desc := "(I)V" } : Jvm.MethodName) jdk_38_method_1_code (2 : Nat) (Option.none : Option Jvm.ClassFile.FieldType), Jvm.Cond.code ({ cls := "java/util/AbstractList", name := "<init>", desc := "()V" } : Jvm.MethodName) jdk_39_method_1_code (1 : Nat) (Option.none : Option Jvm.ClassFile.FieldType), Jvm.Cond.code ({ cls := "java/util/AbstractCollection", name := "<init>", desc := "()V" } : Jvm.MethodName) jdk_22_method_1_code (1 : Nat) (Option.none : Option Jvm.ClassFile.FieldType), Jvm.Cond.code ({ cls := "java/lang/Object", name := "<init>", desc := "()V" } : Jvm.MethodName) object_method_1_code (1 : Nat) (Option.none : Option Jvm.ClassFile.FieldType), Jvm.Cond.code ({ cls := "java/util/List", name := "copyOf", desc := "(Ljava/util/Collection;)Ljava/util/List;" } : Jvm.MethodName) jdk_40_method_48_code (1 : Nat) (Option.some (Jvm.ClassFile.FieldType.object "java/util/List")), Jvm.Cond.code ({ cls := "java/util/ImmutableCollections", name := "listCopy", desc := "(Ljava/util/Collection;)Ljava/util/List;" } : Jvm.MethodName) jdk_56_method_3_code (2 : Nat) (Option.some (Jvm.ClassFile.FieldType.object "java/util/List")), Jvm.Cond.code ({ cls := "java/util/ArrayList", name := "isEmpty", desc := "()Z" } : Jvm.MethodName) jdk_38_method_9_code (1 : Nat) (Option.some Jvm.ClassFile.FieldType.boolean), Jvm.Cond.code ({ cls := "java/util/List", name := "of", desc := "()Ljava/util/List;" } : Jvm.MethodName) jdk_40_method_36_code (0 : Nat) (Option.some (Jvm.ClassFile.FieldType.object "java/util/List")), Jvm.Cond.code ({ cls := "java/util/ImmutableCollections$ListN", name := "size", desc := "()I" } : Jvm.MethodName) jdk_45_method_3_code (1 : Nat) (Option.some Jvm.ClassFile.FieldType.int), Jvm.Cond.code ({ cls := "com/example/wildmotif/wildmotif/match/OutcomeWitnessOfSingleNodesPinLaw", name := "at", desc := "(Ljava/util/List;III)Z" } : Jvm.MethodName) method_2_code (5 : Nat) (Option.some Jvm.ClassFile.FieldType.boolean), Jvm.Cond.code ({ cls := "java/lang/Integer", name := "valueOf", desc := "(I)Ljava/lang/Integer;" } : Jvm.MethodName) jdk_33_method_22_code (1 : Nat) (Option.some (Jvm.ClassFile.FieldType.object "java/lang/Integer")), Jvm.Cond.code ({ cls := "java/util/List", name := "of", desc := "(Ljava/lang/Object;)Ljava/util/List;" } : Jvm.MethodName) jdk_40_method_37_code (1 : Nat) (Option.some (Jvm.ClassFile.FieldType.object "java/util/List")), Jvm.Cond.code ({ cls := "java/util/ImmutableCollections$List12", name := "<init>", desc := "(Ljava/lang/Object;)V" } : Jvm.MethodName) jdk_44_method_1_code (2 : Nat) (Option.none : Option Jvm.ClassFile.FieldType), Jvm.Cond.code ({ cls := "java/util/ImmutableCollections$AbstractImmutableList", name := "<init>", desc := "()V" } : Jvm.MethodName) jdk_46_method_1_code (1 : Nat) (Option.none : Option Jvm.ClassFile.FieldType), Jvm.Cond.code ({ cls := "java/util/ImmutableCollections$AbstractImmutableCollection", name := "<init>", desc := "()V" } : Jvm.MethodName) jdk_47_method_1_code (1 : Nat) (Option.none : Option Jvm.ClassFile.FieldType), Jvm.Cond.code ({ cls := "java/util/Objects", name := "requireNonNull", desc := "(Ljava/lang/Object;)Ljava/lang/Object;" } : Jvm.MethodName) jdk_31_method_10_code (1 : Nat) (Option.some (Jvm.ClassFile.FieldType.object "java/lang/Object")), Jvm.Cond.code ({ cls := "java/util/ArrayList", name := "add", desc := "(Ljava/lang/Object;)Z" } : Jvm.MethodName) jdk_38_method_25_code (2 : Nat) (Option.some Jvm.ClassFile.FieldType.boolean), Jvm.Cond.code ({ cls := "java/util/ArrayList", name := "add", desc := "(Ljava/lang/Object;[Ljava/lang/Object;I)V" } : Jvm.MethodName) jdk_38_method_24_code (4 : Nat) (Option.none : Option Jvm.ClassFile.FieldType), Jvm.Cond.code ({ cls := "java/util/ArrayList", name := "toArray", desc := "()[Ljava/lang/Object;" } : Jvm.MethodName) jdk_38_method_16_code (1 : Nat) (Option.some (Jvm.ClassFile.FieldType.array (Jvm.ClassFile.FieldType.object "java/lang/Object"))), Jvm.Cond.code ({ cls := "java/util/Arrays", name := "copyOf", desc := "([Ljava/lang/Object;I)[Ljava/lang/Object;" } : Jvm.MethodName) jdk_65_method_119_code (2 : Nat) (Option.some (Jvm.ClassFile.FieldType.array (Jvm.ClassFile.FieldType.object "java/lang/Object"))), Jvm.Cond.code ({ cls := "java/util/Arrays", name := "copyOf", desc := "([Ljava/lang/Object;ILjava/lang/Class;)[Ljava/lang/Object;" } : Jvm.MethodName) jdk_65_method_120_code (4 : Nat) (Option.some (Jvm.ClassFile.FieldType.array (Jvm.ClassFile.FieldType.object "java/lang/Object"))), Jvm.Cond.code ({ cls := "java/lang/Math", name := "min", desc := "(II)I" } : Jvm.MethodName) jdk_29_method_69_code (2 : Nat) (Option.some Jvm.ClassFile.FieldType.int), Jvm.Cond.code ({ cls := "java/util/List", name := "of", desc := "([Ljava/lang/Object;)Ljava/util/List;" } : Jvm.MethodName) jdk_40_method_47_code (2 : Nat) (Option.some (Jvm.ClassFile.FieldType.object "java/util/List")), Jvm.Cond.code ({ cls := "java/util/ImmutableCollections", name := "listFromArray", desc := "([Ljava/lang/Object;)Ljava/util/List;" } : Jvm.MethodName) jdk_56_method_4_code (3 : Nat) (Option.some (Jvm.ClassFile.FieldType.object "java/util/List")), Jvm.Cond.code ({ cls := "java/util/ImmutableCollections$ListN", name := "<init>", desc := "([Ljava/lang/Object;Z)V" } : Jvm.MethodName) jdk_45_method_1_code (3 : Nat) (Option.none : Option Jvm.ClassFile.FieldType), Jvm.Cond.code ({ cls := "java/util/ImmutableCollections$ListN", name := "get", desc := "(I)Ljava/lang/Object;" } : Jvm.MethodName) jdk_45_method_4_code (2 : Nat) (Option.some (Jvm.ClassFile.FieldType.object "java/lang/Object")), Jvm.Cond.code ({ cls := "java/util/ImmutableCollections$List12", name := "size", desc := "()I" } : Jvm.MethodName) jdk_44_method_3_code (1 : Nat) (Option.some Jvm.ClassFile.FieldType.int), Jvm.Cond.code ({ cls := "java/util/ImmutableCollections$List12", name := "get", desc := "(I)Ljava/lang/Object;" } : Jvm.MethodName) jdk_44_method_5_code (2 : Nat) (Option.some (Jvm.ClassFile.FieldType.object "java/lang/Object")), Jvm.Cond.code ({ cls := "java/lang/Integer", name := "intValue", desc := "()I" } : Jvm.MethodName) jdk_33_method_27_code (1 : Nat) (Option.some Jvm.ClassFile.FieldType.int), Jvm.Cond.code ({ cls := "java/lang/Integer", name := "<init>", desc := "(I)V" } : Jvm.MethodName) jdk_33_method_23_code (2 : Nat) (Option.none : Option Jvm.ClassFile.FieldType), Jvm.Cond.code ({ cls := "java/lang/Number", name := "<init>", desc := "()V" } : Jvm.MethodName) jdk_18_method_1_code (1 : Nat) (Option.none : Option Jvm.ClassFile.FieldType), Jvm.Cond.code ({ cls := "java/util/ImmutableCollections$List12", name := "<init>", desc := "(Ljava/lang/Object;Ljava/lang/Object;)V" } : Jvm.MethodName) jdk_44_method_2_code (3 : Nat) (Option.none : Option Jvm.ClassFile.FieldType)]
set_option maxRecDepth 65536 in
theorem codes_eq : words1.filter isCode = codes1 := rfl
theorem w_codes : ∀ c ∈ words1.filter isCode, c.before args0 about1 = true := by
  rw [codes_eq]
  intro c hc
  simp only [codes1, List.mem_cons, List.not_mem_nil, or_false] at hc
  rcases hc with rfl | rfl | rfl | rfl | rfl | rfl | rfl | rfl | rfl | rfl | rfl | rfl | rfl | rfl | rfl | rfl | rfl | rfl | rfl | rfl | rfl | rfl | rfl | rfl | rfl | rfl | rfl | rfl | rfl | rfl | rfl | rfl | rfl | rfl
  · exact w_c0
  · exact w_c1
  · exact w_c2
  · exact w_c3
  · exact w_c4
  · exact w_c5
  · exact w_c6
  · exact w_c7
  · exact w_c8
  · exact w_c9
  · exact w_c10
  · exact w_c11
  · exact w_c12
  · exact w_c13
  · exact w_c14
  · exact w_c15
  · exact w_c16
  · exact w_c17
  · exact w_c18
  · exact w_c19
  · exact w_c20
  · exact w_c21
  · exact w_c22
  · exact w_c23
  · exact w_c24
  · exact w_c25
  · exact w_c26
  · exact w_c27
  · exact w_c28
  · exact w_c29
  · exact w_c30
  · exact w_c31
  · exact w_c32
  · exact w_c33
set_option maxRecDepth 65536 in
theorem w_t1 : (words1.take 24).all (fun c => isCode c || c.before args0 about1) = true := by decide +kernel
set_option maxRecDepth 65536 in
theorem w_t2 : ((words1.drop 24).take 24).all (fun c => isCode c || c.before args0 about1) = true := by decide +kernel
set_option maxRecDepth 65536 in
theorem w_t3 : (((words1.drop 24).drop 24).take 24).all (fun c => isCode c || c.before args0 about1) = true := by decide +kernel
set_option maxRecDepth 65536 in
theorem w_t4 : ((((words1.drop 24).drop 24).drop 24).take 24).all (fun c => isCode c || c.before args0 about1) = true := by decide +kernel
set_option maxRecDepth 65536 in
theorem w_t5 : (((((words1.drop 24).drop 24).drop 24).drop 24).take 24).all (fun c => isCode c || c.before args0 about1) = true := by decide +kernel
set_option maxRecDepth 65536 in
theorem w_t6 : ((((((words1.drop 24).drop 24).drop 24).drop 24).drop 24).take 24).all (fun c => isCode c || c.before args0 about1) = true := by decide +kernel
set_option maxRecDepth 65536 in
theorem w_t7 : (((((((words1.drop 24).drop 24).drop 24).drop 24).drop 24).drop 24).take 24).all (fun c => isCode c || c.before args0 about1) = true := by decide +kernel
set_option maxRecDepth 65536 in
theorem w_t8 : ((((((((words1.drop 24).drop 24).drop 24).drop 24).drop 24).drop 24).drop 24).take 24).all (fun c => isCode c || c.before args0 about1) = true := by decide +kernel
set_option maxRecDepth 65536 in
theorem w_t9 : (((((((((words1.drop 24).drop 24).drop 24).drop 24).drop 24).drop 24).drop 24).drop 24).take 24).all (fun c => isCode c || c.before args0 about1) = true := by decide +kernel
set_option maxRecDepth 65536 in
theorem w_t10 : (((((((((words1.drop 24).drop 24).drop 24).drop 24).drop 24).drop 24).drop 24).drop 24).drop 24).all (fun c => isCode c || c.before args0 about1) = true := by decide +kernel
theorem w_tables : (allAtoms (Jvm.Cond.code x code maxLocals ret :: tables_1)).before args0 about1 = true := by
  rw [allAtoms_all]
  show words1.all (fun c => c.before args0 about1) = true
  refine all_split ?_ w_codes
  rw [← List.take_append_drop 24 words1, List.all_append, w_t1, ← List.take_append_drop 24 (words1.drop 24), List.all_append, w_t2, ← List.take_append_drop 24 ((words1.drop 24).drop 24), List.all_append, w_t3, ← List.take_append_drop 24 (((words1.drop 24).drop 24).drop 24), List.all_append, w_t4, ← List.take_append_drop 24 ((((words1.drop 24).drop 24).drop 24).drop 24), List.all_append, w_t5, ← List.take_append_drop 24 (((((words1.drop 24).drop 24).drop 24).drop 24).drop 24), List.all_append, w_t6, ← List.take_append_drop 24 ((((((words1.drop 24).drop 24).drop 24).drop 24).drop 24).drop 24), List.all_append, w_t7, ← List.take_append_drop 24 (((((((words1.drop 24).drop 24).drop 24).drop 24).drop 24).drop 24).drop 24), List.all_append, w_t8, ← List.take_append_drop 24 ((((((((words1.drop 24).drop 24).drop 24).drop 24).drop 24).drop 24).drop 24).drop 24), List.all_append, w_t9, w_t10]
  rfl
set_option maxRecDepth 65536 in
theorem w_rest : rest_1_c.before args0 about1 = true := by decide +kernel
set_option maxRecDepth 65536 in
theorem w_case : (Jvm.Cond.and given_1 narrow_1).before args0 about1 = true := by decide +kernel
theorem w_applies : (headSpec (Jvm.Cond.code x code maxLocals ret :: tables_1) room_1).applies x e0.platform about1 = true :=
  (Spec.applies_iff w_frames).mpr ⟨w_running, w_runnable, w_alone, w_named, w_hears, w_ripe, w_room, w_tables⟩
set_option maxRecDepth 65536 in
theorem atStart : AtStart classFile x code maxLocals ret World_1 tables_1 room_1 Calls_1 rest_1 Pre_1 launch0 p0 e0 about1 theMethod args0 below0 :=
  ⟨lists_1, trivial, launch0.admits_env _ _ _, launch0.least_env, fairChoices_fair.cas, fairChoices_fair.clock, w_frames, w_args, w_heap, w_applies, ⟨⟨35, k35, 3, by decide +kernel, rfl, rfl, _, rfl, rfl⟩, trivial⟩, w_rest, w_case⟩
end start1
theorem witness_1 : WitnessClaimed_1 := ⟨start1.p0, start1.e0, start1.about1, start1.theMethod, start1.args0, start1.below0, start1.atStart⟩
end Jvm.Pilot.@@N@@
