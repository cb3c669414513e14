import JvmDerived
import JvmDerived.Pilot.@@N@@Statement
import JvmDerived.Pilot.@@N@@Code
set_option linter.unusedVariables false
set_option linter.unusedSimpArgs false
namespace Jvm.OwnGo
open Jvm Jvm.ClassFile Sem Op Lib Jvm.Free Jvm.Stand Jvm.LawKit Jvm.RoadKit
/-- the setting of one body's run -/
def Cx (p : Program) (l : Launch) (e : Env) (R : Room) (s : State) (m : MethodId) (meth : Method) (c : Code) (Z : State) (n0 : Nat) (y : MethodName) (code : ByteArray) (ml : Nat) (ret : Option FieldType) : Prop :=
  p.tables.exec = Jvm.exec ∧ Z.Warmed39 s.vm ∧ s.vm.findClass y.cls = some m.cls ∧ c.code = code ∧ c.maxLocals = ml ∧ meth.sig.returnType = ret ∧ meth.locks = false ∧ meth.name = y.name ∧ Old Z n0 s.heap
/-- from pc, with these locals, this stack and this heap, the body of y returns, Q holds of what it returns and leaves, and it has written in cells at or above n0 alone -/
def Go (l : Launch) (R : Room) (Z : State) (n0 : Nat) (y : MethodName) (code : ByteArray) (ml : Nat) (ret : Option FieldType) (Q : Option Value → Heap → Prop) (cells slots : Nat) (h : Heap) (pc : Nat) (Ls : Array Slot) (st : List Value) : Prop :=
  ∀ (p : Program) (e : Env) (s : State) (m : MethodId) (args : Array Value) (below : List Frame) (meth : Method) (c : Code) (T : State) (locs : List Loc),
    Cx p l e R s m meth c Z n0 y code ml ret → Stand p l e R s m args below meth c T locs cells slots → Fr n0 locs → T.heap = h →
    ∃ s₂ o, Steps p.tables e below (T.setTop (mkF m pc Ls st)) s₂ ∧ s₂.status = .running ∧ Ended s₂ below o ∧ ∃ v L, o = .returned v ∧ (Q v s₂.heap ∧ Fr n0 L) ∧ FrameEnd s o s₂ L R.cells R.slots
/-- what a body called with these arguments at the heap h does -/
def Con (l : Launch) (y : MethodName) (code : ByteArray) (ml : Nat) (ret : Option FieldType) (R : Room) (Z : State) (n0 : Nat) (as : Array Value) (h : Heap) (Q : Option Value → Heap → Prop) : Prop :=
  Old Z n0 h → ∀ ws, MetFree l y (head1 (Jvm.Cond.code y code ml ret :: ws) R) (fun a U => a = as ∧ Z.Warmed39 U.vm ∧ U.heap = h) (fun _ _ _ _ _ => True)
    (fun _ U o U' => ∃ v L, o = .returned v ∧ (Q v U'.heap ∧ Fr n0 L) ∧ FrameEnd U o U' L R.cells R.slots)
def Mi (Z : State) (C : String) (mr : Addr) : Prop := ∃ (c : ClassId) (k : Class), Z.vm.findClass C = some c ∧ Z.vm.classes[c]? = some k ∧ k.mirror = some mr
theorem Mi.at {Z s : State} {C : String} {mr : Addr} (M : Mi Z C mr) (hZ : Z.Warmed39 s.vm) : ∃ (c : ClassId) (k : Class), s.vm.findClass C = some c ∧ s.vm.classes[c]? = some k ∧ k.mirror = some mr := by
  obtain ⟨c, k, m1, m2, m3⟩ := M
  obtain ⟨k', q, ek⟩ := hZ.alike.2.2 _ _ m2
  exact ⟨c, k', by rw [hZ.alike.findClass]; exact m1, q, by rw [ek]; exact m3⟩
theorem own_sto {Z : State} {h : Heap} {a b : Addr} {kA : ClassId} {ty : FieldType} {z : Int32} {vs : List Value} {dv : Value} {C : String} (F : Arv Z h a kA ty z vs dv) (O : Ovr Z kA C) (I : Ins Z h b C true) : Sto Z h a (.ref b) := by
  obtain ⟨c, A, q, -⟩ := F; exact Sto.ofV A q O I
theorem own_nar (t : FieldType) {v : Value} (h : v.isRef = true) : narrow t v = v := by cases v <;> first | rfl | (cases t <;> rfl) | (simp [Value.isRef] at h)
theorem own_fits {t : FieldType} {v : Value} (ht : t.isReference = true) (h : v.isRef = true) : fits t v = true := by cases t <;> first | (cases ht; done) | (cases v <;> first | rfl | (simp [Value.isRef] at h))
theorem own_old {p : Program} {l : Launch} {e : Env} {R : Room} {s : State} {m : MethodId} {args : Array Value} {below : List Frame} {meth : Method} {c : Code} {T : State} {locs : List Loc} {cells slots n0 : Nat} {Z : State} {h : Heap} (O : Old Z n0 s.heap) (X : Stand p l e R s m args below meth c T locs cells slots) (N : Fr n0 locs) (eT : T.heap = h) : Old Z n0 h := by
  subst eT
  obtain ⟨-, g1, -, -, -, g2⟩ := X.same
  refine ⟨O.1, Nat.le_trans O.2.1 g1, fun a c ha => ?_⟩
  obtain ⟨c', q1, q2, q3, q4⟩ := g2 a c (O.2.2 a c ha)
  have hlt : a < n0 := O.1 ▸ (Array.getElem?_eq_some_iff.mp ha).1
  have e1 : c'.slots = c.slots := Array.ext_getElem? fun i => q4 i fun hm => absurd (N _ hm) (Nat.not_le.mpr hlt)
  have e2 : c' = c := by rw [q2, e1]
  rw [← e2]; exact q1
section Rules
variable {l : Launch} {R : Room} {Z : State} {n0 : Nat} {y : MethodName} {code : ByteArray} {ml : Nat} {ret : Option FieldType} {Q : Option Value → Heap → Prop} {cells slots : Nat} {h : Heap} {pc pc' : Nat} {Ls Ls' : Array Slot} {st st' rest : List Value} {a0 : Array Value}
theorem Con.of_go {as : Array Value} (hp : plainFor y = true) (he : ∀ m, entryFrame m as ml = mkF m 0 Ls []) (k : Go l R Z n0 y code ml ret Q 0 0 h 0 Ls []) : Con l y code ml ret R Z n0 as h Q := by
  intro hn ws
  refine MetFree.of_bodySF hp hisR ?_
  intro p e s m args below meth c s₁ Bd hml0 hP hK
  obtain ⟨rfl, hZ, hh⟩ := hP
  have e0 : s₁.heap = h := by rw [← hh, Bd.state]; rfl
  have X0 : Stand p l e R s m args below meth c s₁ [] 0 0 := Stand.of_body Bd
  obtain ⟨s₂, o, h1, h2, h3, h4⟩ := k p e s m args below meth c s₁ [] ⟨Bd.exec, hZ, findClass_of_methodNamed Bd.named, Bd.bytes, hml0, Bd.returns, Bd.notSynchronized, (name_of_methodNamed Bd.named Bd.method).1, by rw [hh]; exact hn⟩ X0 (Fr.nil n0) e0
  exact ⟨s₂, o, castTop (he m) h1, h2, h3, h4⟩
theorem Con.mono {as : Array Value} {Q' : Option Value → Heap → Prop} (k : Con l y code ml ret R Z n0 as h Q) (hq : ∀ v h', Q v h' → Q' v h') : Con l y code ml ret R Z n0 as h Q' := by
  intro hn ws
  refine (k hn ws).mono (fun _ _ q => q) (fun _ _ _ _ _ q => q) ?_
  rintro a U o U' hP ⟨v, L, e, ⟨q, N⟩, r⟩
  exact ⟨v, L, e, ⟨hq _ _ q, N⟩, r⟩
theorem Go.mono {Q' : Option Value → Heap → Prop} (k : Go l R Z n0 y code ml ret Q' cells slots h pc Ls st) (hq : ∀ v h', Q' v h' → Q v h') : Go l R Z n0 y code ml ret Q cells slots h pc Ls st := by
  intro p e s m args below meth c T locs C X N eT
  obtain ⟨s₂, o, h1, h2, h3, v, L, h4, ⟨h5, h6⟩, h7⟩ := k p e s m args below meth c T locs C X N eT
  exact ⟨s₂, o, h1, h2, h3, v, L, h4, ⟨hq _ _ h5, h6⟩, h7⟩
theorem Go.more {cells' slots' : Nat} (k : Go l R Z n0 y code ml ret Q cells' slots' h pc Ls st) (hc : cells ≤ cells') (hs : slots ≤ slots') : Go l R Z n0 y code ml ret Q cells slots h pc Ls st := by
  intro p e s m args below meth c T locs C X N eT
  exact k p e s m args below meth c T locs C (X.more hc hs) N eT
theorem Go.old (k : Old Z n0 h → Go l R Z n0 y code ml ret Q cells slots h pc Ls st) : Go l R Z n0 y code ml ret Q cells slots h pc Ls st := by
  intro p e s m args below meth c T locs C X N eT
  exact k (own_old C.2.2.2.2.2.2.2.2 X N eT) p e s m args below meth c T locs C X N eT
theorem Go.step (hst : ∀ {p : Program} {e : Env} {s : State} {m : MethodId} {args : Array Value} {below : List Frame} {meth : Method} {c : Code} {T : State} {locs : List Loc} {target : State},
      Cx p l e R s m meth c Z n0 y code ml ret → Stand p l e R s m args below meth c T locs cells slots → T.heap = h → Steps p.tables e below (T.setTop (mkF m pc' Ls' st')) target → Steps p.tables e below (T.setTop (mkF m pc Ls st)) target)
    (k : Go l R Z n0 y code ml ret Q cells slots h pc' Ls' st') : Go l R Z n0 y code ml ret Q cells slots h pc Ls st := by
  intro p e s m args below meth c T locs C X N eT
  obtain ⟨s₂, o, h1, h2⟩ := k p e s m args below meth c T locs C X N eT
  exact ⟨s₂, o, hst C X eT h1, h2⟩
theorem Go.law {cells' slots' : Nat} {P : Heap → Prop} (hst : ∀ {p : Program} {e : Env} {s : State} {m : MethodId} {args : Array Value} {below : List Frame} {meth : Method} {c : Code} {T : State} {locs : List Loc},
      Cx p l e R s m meth c Z n0 y code ml ret → Stand p l e R s m args below meth c T locs cells slots → Fr n0 locs → T.heap = h → n0 ≤ h.size →
      ∃ T' locs' h', Stand p l e R s m args below meth c T' locs' cells' slots' ∧ Fr n0 locs' ∧ T'.heap = h' ∧ P h' ∧ ∀ target, Steps p.tables e below (T'.setTop (mkF m pc' Ls' st')) target → Steps p.tables e below (T.setTop (mkF m pc Ls st)) target)
    (k : ∀ h', P h' → Go l R Z n0 y code ml ret Q cells' slots' h' pc' Ls' st') : Go l R Z n0 y code ml ret Q cells slots h pc Ls st := by
  intro p e s m args below meth c T locs C X N eT
  have hold : Old Z n0 h := own_old C.2.2.2.2.2.2.2.2 X N eT
  obtain ⟨T', locs', h', X', N', e', hP, st⟩ := hst C X N eT (hold.1 ▸ hold.2.1)
  obtain ⟨s₂, o, h1, h2⟩ := k h' hP p e s m args below meth c T' locs' C X' N' e'
  exact ⟨s₂, o, st _ h1, h2⟩
theorem Go.iloadN {k : Fin 4} {v : Int32} (hd : decode code pc = .ok (.iload_n k, 1)) (hl : Ls[k.val]? = some (.val (.int v))) (hp : pc + 1 = pc') (k : Go l R Z n0 y code ml ret Q cells slots h pc' Ls (.int v :: st)) : Go l R Z n0 y code ml ret Q cells slots h pc Ls st := Go.step (fun C X _ q => by subst hp; exact XS.iloadN X.here C.1 rfl (hb C.2.2.2.1 hd) hl q) k
theorem Go.iload {k : Nat} {v : Int32} (hd : decode code pc = .ok (.iload k, 2)) (hl : Ls[k]? = some (.val (.int v))) (hp : pc + 2 = pc') (k : Go l R Z n0 y code ml ret Q cells slots h pc' Ls (.int v :: st)) : Go l R Z n0 y code ml ret Q cells slots h pc Ls st := Go.step (fun C X _ q => by subst hp; exact XS.iload X.here C.1 rfl (hb C.2.2.2.1 hd) hl q) k
theorem Go.lloadN {k : Fin 4} {v : Int64} (hd : decode code pc = .ok (.lload_n k, 1)) (hl : Ls[k.val]? = some (.val (.long v))) (hp : pc + 1 = pc') (k : Go l R Z n0 y code ml ret Q cells slots h pc' Ls (.long v :: st)) : Go l R Z n0 y code ml ret Q cells slots h pc Ls st := Go.step (fun C X _ q => by subst hp; exact XT.lloadN X.here C.1 rfl (hb C.2.2.2.1 hd) hl q) k
theorem Go.lload {k : Nat} {v : Int64} (hd : decode code pc = .ok (.lload k, 2)) (hl : Ls[k]? = some (.val (.long v))) (hp : pc + 2 = pc') (k : Go l R Z n0 y code ml ret Q cells slots h pc' Ls (.long v :: st)) : Go l R Z n0 y code ml ret Q cells slots h pc Ls st := Go.step (fun C X _ q => by subst hp; exact XT.lload X.here C.1 rfl (hb C.2.2.2.1 hd) hl q) k
theorem Go.aloadN {k : Fin 4} {v : Value} (hd : decode code pc = .ok (.aload_n k, 1)) (hl : Ls[k.val]? = some (.val v)) (hv : v.isRef = true) (hp : pc + 1 = pc') (k : Go l R Z n0 y code ml ret Q cells slots h pc' Ls (v :: st)) : Go l R Z n0 y code ml ret Q cells slots h pc Ls st := Go.step (fun C X _ q => by subst hp; exact XS.aloadN X.here C.1 rfl (hb C.2.2.2.1 hd) hl hv q) k
theorem Go.aload {k : Nat} {v : Value} (hd : decode code pc = .ok (.aload k, 2)) (hl : Ls[k]? = some (.val v)) (hv : v.isRef = true) (hp : pc + 2 = pc') (k : Go l R Z n0 y code ml ret Q cells slots h pc' Ls (v :: st)) : Go l R Z n0 y code ml ret Q cells slots h pc Ls st := Go.step (fun C X _ q => by subst hp; exact XS.aload X.here C.1 rfl (hb C.2.2.2.1 hd) hl hv q) k
theorem Go.istoreN {k : Fin 4} {v : Int32} (hd : decode code pc = .ok (.istore_n k, 1)) (hl : storeLocals Ls k.val (.int v) = some Ls') (hp : pc + 1 = pc') (k : Go l R Z n0 y code ml ret Q cells slots h pc' Ls' st) : Go l R Z n0 y code ml ret Q cells slots h pc Ls (.int v :: st) := Go.step (fun C X _ q => by subst hp; exact XS.istoreN X.here C.1 rfl (hb C.2.2.2.1 hd) rfl hl q) k
theorem Go.istore {k : Nat} {v : Int32} (hd : decode code pc = .ok (.istore k, 2)) (hl : storeLocals Ls k (.int v) = some Ls') (hp : pc + 2 = pc') (k : Go l R Z n0 y code ml ret Q cells slots h pc' Ls' st) : Go l R Z n0 y code ml ret Q cells slots h pc Ls (.int v :: st) := Go.step (fun C X _ q => by subst hp; exact XS.istore X.here C.1 rfl (hb C.2.2.2.1 hd) rfl hl q) k
theorem Go.lstoreN {k : Fin 4} {v : Int64} (hd : decode code pc = .ok (.lstore_n k, 1)) (hl : storeLocals Ls k.val (.long v) = some Ls') (hp : pc + 1 = pc') (k : Go l R Z n0 y code ml ret Q cells slots h pc' Ls' st) : Go l R Z n0 y code ml ret Q cells slots h pc Ls (.long v :: st) := Go.step (fun C X _ q => by subst hp; exact XT.lstoreN X.here C.1 rfl (hb C.2.2.2.1 hd) rfl hl q) k
theorem Go.lstore {k : Nat} {v : Int64} (hd : decode code pc = .ok (.lstore k, 2)) (hl : storeLocals Ls k (.long v) = some Ls') (hp : pc + 2 = pc') (k : Go l R Z n0 y code ml ret Q cells slots h pc' Ls' st) : Go l R Z n0 y code ml ret Q cells slots h pc Ls (.long v :: st) := Go.step (fun C X _ q => by subst hp; exact XT.lstore X.here C.1 rfl (hb C.2.2.2.1 hd) rfl hl q) k
theorem Go.astoreN {k : Fin 4} {v : Value} (hd : decode code pc = .ok (.astore_n k, 1)) (hv : v.isRef = true) (hl : storeLocals Ls k.val v = some Ls') (hp : pc + 1 = pc') (k : Go l R Z n0 y code ml ret Q cells slots h pc' Ls' st) : Go l R Z n0 y code ml ret Q cells slots h pc Ls (v :: st) := Go.step (fun C X _ q => by subst hp; exact XS.astoreN X.here C.1 rfl (hb C.2.2.2.1 hd) rfl hv hl q) k
theorem Go.astore {k : Nat} {v : Value} (hd : decode code pc = .ok (.astore k, 2)) (hv : v.isRef = true) (hl : storeLocals Ls k v = some Ls') (hp : pc + 2 = pc') (k : Go l R Z n0 y code ml ret Q cells slots h pc' Ls' st) : Go l R Z n0 y code ml ret Q cells slots h pc Ls (v :: st) := Go.step (fun C X _ q => by subst hp; exact XS.astore X.here C.1 rfl (hb C.2.2.2.1 hd) rfl hv hl q) k
theorem Go.iconst {i : Int} {v : Int32} (hd : decode code pc = .ok (.iconst i, 1)) (hv : Int32.ofInt i = v) (hp : pc + 1 = pc') (k : Go l R Z n0 y code ml ret Q cells slots h pc' Ls (.int v :: st)) : Go l R Z n0 y code ml ret Q cells slots h pc Ls st := Go.step (fun C X _ q => by subst hp; exact (by subst hv; exact XS.iconst X.here C.1 rfl (hb C.2.2.2.1 hd) q)) k
theorem Go.bipush {i : Int} {v : Int32} (hd : decode code pc = .ok (.bipush i, 2)) (hv : (Int8.ofInt i).toInt32 = v) (hp : pc + 2 = pc') (k : Go l R Z n0 y code ml ret Q cells slots h pc' Ls (.int v :: st)) : Go l R Z n0 y code ml ret Q cells slots h pc Ls st := Go.step (fun C X _ q => by subst hp; exact (by subst hv; exact XS.bipush X.here C.1 rfl (hb C.2.2.2.1 hd) q)) k
theorem Go.sipush {i : Int} {v : Int32} (hd : decode code pc = .ok (.sipush i, 3)) (hv : (Int16.ofInt i).toInt32 = v) (hp : pc + 3 = pc') (k : Go l R Z n0 y code ml ret Q cells slots h pc' Ls (.int v :: st)) : Go l R Z n0 y code ml ret Q cells slots h pc Ls st := Go.step (fun C X _ q => by subst hp; exact (by subst hv; exact XS.sipush X.here C.1 rfl (hb C.2.2.2.1 hd) q)) k
theorem Go.lconst {i : Fin 2} {v : Int64} (hd : decode code pc = .ok (.lconst i, 1)) (hv : Int64.ofNat i = v) (hp : pc + 1 = pc') (k : Go l R Z n0 y code ml ret Q cells slots h pc' Ls (.long v :: st)) : Go l R Z n0 y code ml ret Q cells slots h pc Ls st := Go.step (fun C X _ q => by subst hp; exact XT.lconstV X.here C.1 rfl v (hb C.2.2.2.1 hd) hv q) k
theorem Go.aconstNull (hd : decode code pc = .ok (.aconst_null, 1)) (hp : pc + 1 = pc') (k : Go l R Z n0 y code ml ret Q cells slots h pc' Ls (.null :: st)) : Go l R Z n0 y code ml ret Q cells slots h pc Ls st := Go.step (fun C X _ q => by subst hp; exact XS.aconstNull X.here C.1 rfl (hb C.2.2.2.1 hd) q) k
theorem Go.ldcI {i : Nat} {v : Int32} (w : (Jvm.Cond.constant y.cls i v).before a0 Z = true) (hd : decode code pc = .ok (.ldc i, 2)) (hp : pc + 2 = pc') (k : Go l R Z n0 y code ml ret Q cells slots h pc' Ls (.int v :: st)) : Go l R Z n0 y code ml ret Q cells slots h pc Ls st := Go.step (fun C X _ q => by subst hp; exact Jvm.Stand.ldcI X C.1 C.2.2.1 (mvT C.2.1 w) rfl (hb C.2.2.2.1 hd) q) k
theorem Go.ldcWI {i : Nat} {v : Int32} (w : (Jvm.Cond.constant y.cls i v).before a0 Z = true) (hd : decode code pc = .ok (.ldc_w i, 3)) (hp : pc + 3 = pc') (k : Go l R Z n0 y code ml ret Q cells slots h pc' Ls (.int v :: st)) : Go l R Z n0 y code ml ret Q cells slots h pc Ls st := Go.step (fun C X _ q => by subst hp; exact Jvm.Stand.ldcWI X C.1 C.2.2.1 (mvT C.2.1 w) rfl (hb C.2.2.2.1 hd) q) k
theorem Go.ldc2J {i : Nat} {v : Int64} (w : (Jvm.Cond.constantLong y.cls i v).before a0 Z = true) (hd : decode code pc = .ok (.ldc2_w i, 3)) (hp : pc + 3 = pc') (k : Go l R Z n0 y code ml ret Q cells slots h pc' Ls (.long v :: st)) : Go l R Z n0 y code ml ret Q cells slots h pc Ls st := Go.step (fun C X _ q => by subst hp; exact Jvm.Stand.ldc2J X C.1 C.2.2.1 (mvT C.2.1 w) rfl (hb C.2.2.2.1 hd) q) k
theorem Go.iadd {a b : Int32} (hd : decode code pc = .ok (.iadd, 1)) (hp : pc + 1 = pc') (k : Go l R Z n0 y code ml ret Q cells slots h pc' Ls (.int (a + b) :: st)) : Go l R Z n0 y code ml ret Q cells slots h pc Ls (.int b :: .int a :: st) := Go.step (fun C X _ q => by subst hp; exact XS.iadd X.here C.1 rfl (hb C.2.2.2.1 hd) rfl q) k
theorem Go.isub {a b : Int32} (hd : decode code pc = .ok (.isub, 1)) (hp : pc + 1 = pc') (k : Go l R Z n0 y code ml ret Q cells slots h pc' Ls (.int (a - b) :: st)) : Go l R Z n0 y code ml ret Q cells slots h pc Ls (.int b :: .int a :: st) := Go.step (fun C X _ q => by subst hp; exact XS.isub X.here C.1 rfl (hb C.2.2.2.1 hd) rfl q) k
theorem Go.imul {a b : Int32} (hd : decode code pc = .ok (.imul, 1)) (hp : pc + 1 = pc') (k : Go l R Z n0 y code ml ret Q cells slots h pc' Ls (.int (a * b) :: st)) : Go l R Z n0 y code ml ret Q cells slots h pc Ls (.int b :: .int a :: st) := Go.step (fun C X _ q => by subst hp; exact XS.imul X.here C.1 rfl (hb C.2.2.2.1 hd) rfl q) k
theorem Go.iand {a b : Int32} (hd : decode code pc = .ok (.iand, 1)) (hp : pc + 1 = pc') (k : Go l R Z n0 y code ml ret Q cells slots h pc' Ls (.int (a &&& b) :: st)) : Go l R Z n0 y code ml ret Q cells slots h pc Ls (.int b :: .int a :: st) := Go.step (fun C X _ q => by subst hp; exact XS.iand X.here C.1 rfl (hb C.2.2.2.1 hd) rfl q) k
theorem Go.ior {a b : Int32} (hd : decode code pc = .ok (.ior, 1)) (hp : pc + 1 = pc') (k : Go l R Z n0 y code ml ret Q cells slots h pc' Ls (.int (a ||| b) :: st)) : Go l R Z n0 y code ml ret Q cells slots h pc Ls (.int b :: .int a :: st) := Go.step (fun C X _ q => by subst hp; exact XT.ior X.here C.1 rfl (hb C.2.2.2.1 hd) rfl q) k
theorem Go.ixor {a b : Int32} (hd : decode code pc = .ok (.ixor, 1)) (hp : pc + 1 = pc') (k : Go l R Z n0 y code ml ret Q cells slots h pc' Ls (.int (a ^^^ b) :: st)) : Go l R Z n0 y code ml ret Q cells slots h pc Ls (.int b :: .int a :: st) := Go.step (fun C X _ q => by subst hp; exact XT.ixor X.here C.1 rfl (hb C.2.2.2.1 hd) rfl q) k
theorem Go.ladd {a b : Int64} (hd : decode code pc = .ok (.ladd, 1)) (hp : pc + 1 = pc') (k : Go l R Z n0 y code ml ret Q cells slots h pc' Ls (.long (a + b) :: st)) : Go l R Z n0 y code ml ret Q cells slots h pc Ls (.long b :: .long a :: st) := Go.step (fun C X _ q => by subst hp; exact XT.ladd X.here C.1 rfl (hb C.2.2.2.1 hd) rfl q) k
theorem Go.lsub {a b : Int64} (hd : decode code pc = .ok (.lsub, 1)) (hp : pc + 1 = pc') (k : Go l R Z n0 y code ml ret Q cells slots h pc' Ls (.long (a - b) :: st)) : Go l R Z n0 y code ml ret Q cells slots h pc Ls (.long b :: .long a :: st) := Go.step (fun C X _ q => by subst hp; exact XT.lsub X.here C.1 rfl (hb C.2.2.2.1 hd) rfl q) k
theorem Go.lmul {a b : Int64} (hd : decode code pc = .ok (.lmul, 1)) (hp : pc + 1 = pc') (k : Go l R Z n0 y code ml ret Q cells slots h pc' Ls (.long (a * b) :: st)) : Go l R Z n0 y code ml ret Q cells slots h pc Ls (.long b :: .long a :: st) := Go.step (fun C X _ q => by subst hp; exact XT.lmul X.here C.1 rfl (hb C.2.2.2.1 hd) rfl q) k
theorem Go.land {a b : Int64} (hd : decode code pc = .ok (.land, 1)) (hp : pc + 1 = pc') (k : Go l R Z n0 y code ml ret Q cells slots h pc' Ls (.long (a &&& b) :: st)) : Go l R Z n0 y code ml ret Q cells slots h pc Ls (.long b :: .long a :: st) := Go.step (fun C X _ q => by subst hp; exact XT.land X.here C.1 rfl (hb C.2.2.2.1 hd) rfl q) k
theorem Go.lor {a b : Int64} (hd : decode code pc = .ok (.lor, 1)) (hp : pc + 1 = pc') (k : Go l R Z n0 y code ml ret Q cells slots h pc' Ls (.long (a ||| b) :: st)) : Go l R Z n0 y code ml ret Q cells slots h pc Ls (.long b :: .long a :: st) := Go.step (fun C X _ q => by subst hp; exact XT.lor X.here C.1 rfl (hb C.2.2.2.1 hd) rfl q) k
theorem Go.lxor {a b : Int64} (hd : decode code pc = .ok (.lxor, 1)) (hp : pc + 1 = pc') (k : Go l R Z n0 y code ml ret Q cells slots h pc' Ls (.long (a ^^^ b) :: st)) : Go l R Z n0 y code ml ret Q cells slots h pc Ls (.long b :: .long a :: st) := Go.step (fun C X _ q => by subst hp; exact XT.lxor X.here C.1 rfl (hb C.2.2.2.1 hd) rfl q) k
theorem Go.ishl {a b : Int32} (hd : decode code pc = .ok (.ishl, 1)) (hp : pc + 1 = pc') (k : Go l R Z n0 y code ml ret Q cells slots h pc' Ls (.int (a <<< (b &&& 31)) :: st)) : Go l R Z n0 y code ml ret Q cells slots h pc Ls (.int b :: .int a :: st) := Go.step (fun C X _ q => by subst hp; exact XT.ishl X.here C.1 rfl (hb C.2.2.2.1 hd) rfl q) k
theorem Go.ishr {a b : Int32} (hd : decode code pc = .ok (.ishr, 1)) (hp : pc + 1 = pc') (k : Go l R Z n0 y code ml ret Q cells slots h pc' Ls (.int (a >>> (b &&& 31)) :: st)) : Go l R Z n0 y code ml ret Q cells slots h pc Ls (.int b :: .int a :: st) := Go.step (fun C X _ q => by subst hp; exact XT.ishr X.here C.1 rfl (hb C.2.2.2.1 hd) rfl q) k
theorem Go.iushr {a b : Int32} (hd : decode code pc = .ok (.iushr, 1)) (hp : pc + 1 = pc') (k : Go l R Z n0 y code ml ret Q cells slots h pc' Ls (.int (XT.ushr a b) :: st)) : Go l R Z n0 y code ml ret Q cells slots h pc Ls (.int b :: .int a :: st) := Go.step (fun C X _ q => by subst hp; exact XT.iushr X.here C.1 rfl (hb C.2.2.2.1 hd) rfl q) k
theorem Go.lshr {a : Int64} {b : Int32} (hd : decode code pc = .ok (.lshr, 1)) (hp : pc + 1 = pc') (k : Go l R Z n0 y code ml ret Q cells slots h pc' Ls (.long (a >>> (b.toInt64 &&& 63)) :: st)) : Go l R Z n0 y code ml ret Q cells slots h pc Ls (.int b :: .long a :: st) := Go.step (fun C X _ q => by subst hp; exact XT.lshr X.here C.1 rfl (hb C.2.2.2.1 hd) rfl q) k
theorem Go.lshl {a : Int64} {b : Int32} (hd : decode code pc = .ok (.lshl, 1)) (hp : pc + 1 = pc') (k : Go l R Z n0 y code ml ret Q cells slots h pc' Ls (.long (a <<< (b.toInt64 &&& 63)) :: st)) : Go l R Z n0 y code ml ret Q cells slots h pc Ls (.int b :: .long a :: st) := Go.step (fun C X _ q => by subst hp; exact XT.lshl X.here C.1 rfl (hb C.2.2.2.1 hd) rfl q) k
theorem Go.lushr {a : Int64} {b : Int32} (hd : decode code pc = .ok (.lushr, 1)) (hp : pc + 1 = pc') (k : Go l R Z n0 y code ml ret Q cells slots h pc' Ls (.long (XT.ushrL a b) :: st)) : Go l R Z n0 y code ml ret Q cells slots h pc Ls (.int b :: .long a :: st) := Go.step (fun C X _ q => by subst hp; exact XT.lushr X.here C.1 rfl (hb C.2.2.2.1 hd) rfl q) k
theorem Go.irem {a b : Int32} (hd : decode code pc = .ok (.irem, 1)) (hz : b ≠ 0) (hp : pc + 1 = pc') (k : Go l R Z n0 y code ml ret Q cells slots h pc' Ls (.int (a % b) :: st)) : Go l R Z n0 y code ml ret Q cells slots h pc Ls (.int b :: .int a :: st) := Go.step (fun C X _ q => by subst hp; exact iremM X C.1 rfl (hb C.2.2.2.1 hd) rfl hz q) k
theorem Go.idiv {a b : Int32} (hd : decode code pc = .ok (.idiv, 1)) (hz : b ≠ 0) (hp : pc + 1 = pc') (k : Go l R Z n0 y code ml ret Q cells slots h pc' Ls (.int (a / b) :: st)) : Go l R Z n0 y code ml ret Q cells slots h pc Ls (.int b :: .int a :: st) := Go.step (fun C X _ q => by subst hp; exact XS.idiv X.here C.1 rfl (hb C.2.2.2.1 hd) rfl hz q) k
theorem Go.ldiv {a b : Int64} (hd : decode code pc = .ok (.ldiv, 1)) (hz : b ≠ 0) (hp : pc + 1 = pc') (k : Go l R Z n0 y code ml ret Q cells slots h pc' Ls (.long (a / b) :: st)) : Go l R Z n0 y code ml ret Q cells slots h pc Ls (.long b :: .long a :: st) := Go.step (fun C X _ q => by subst hp; exact XT.ldiv X.here C.1 rfl (hb C.2.2.2.1 hd) rfl hz q) k
theorem Go.lrem {a b : Int64} (hd : decode code pc = .ok (.lrem, 1)) (hz : b ≠ 0) (hp : pc + 1 = pc') (k : Go l R Z n0 y code ml ret Q cells slots h pc' Ls (.long (a - (a / b) * b) :: st)) : Go l R Z n0 y code ml ret Q cells slots h pc Ls (.long b :: .long a :: st) := Go.step (fun C X _ q => by subst hp; exact XT.lrem X.here C.1 rfl (hb C.2.2.2.1 hd) rfl hz q) k
theorem Go.ineg {a : Int32} (hd : decode code pc = .ok (.ineg, 1)) (hp : pc + 1 = pc') (k : Go l R Z n0 y code ml ret Q cells slots h pc' Ls (.int (-a) :: st)) : Go l R Z n0 y code ml ret Q cells slots h pc Ls (.int a :: st) := Go.step (fun C X _ q => by subst hp; exact XS.ineg X.here C.1 rfl (hb C.2.2.2.1 hd) rfl q) k
theorem Go.lneg {a : Int64} (hd : decode code pc = .ok (.lneg, 1)) (hp : pc + 1 = pc') (k : Go l R Z n0 y code ml ret Q cells slots h pc' Ls (.long (-a) :: st)) : Go l R Z n0 y code ml ret Q cells slots h pc Ls (.long a :: st) := Go.step (fun C X _ q => by subst hp; exact XT.lneg X.here C.1 rfl (hb C.2.2.2.1 hd) rfl q) k
theorem Go.i2l {a : Int32} (hd : decode code pc = .ok (.i2l, 1)) (hp : pc + 1 = pc') (k : Go l R Z n0 y code ml ret Q cells slots h pc' Ls (.long a.toInt64 :: st)) : Go l R Z n0 y code ml ret Q cells slots h pc Ls (.int a :: st) := Go.step (fun C X _ q => by subst hp; exact XT.i2l X.here C.1 rfl (hb C.2.2.2.1 hd) rfl q) k
theorem Go.l2i {a : Int64} (hd : decode code pc = .ok (.l2i, 1)) (hp : pc + 1 = pc') (k : Go l R Z n0 y code ml ret Q cells slots h pc' Ls (.int a.toInt32 :: st)) : Go l R Z n0 y code ml ret Q cells slots h pc Ls (.long a :: st) := Go.step (fun C X _ q => by subst hp; exact XT.l2i X.here C.1 rfl (hb C.2.2.2.1 hd) rfl q) k
theorem Go.i2b {a : Int32} (hd : decode code pc = .ok (.i2b, 1)) (hp : pc + 1 = pc') (k : Go l R Z n0 y code ml ret Q cells slots h pc' Ls (.int a.toInt8.toInt32 :: st)) : Go l R Z n0 y code ml ret Q cells slots h pc Ls (.int a :: st) := Go.step (fun C X _ q => by subst hp; exact XT.i2b X.here C.1 rfl (hb C.2.2.2.1 hd) rfl q) k
theorem Go.i2c {a : Int32} (hd : decode code pc = .ok (.i2c, 1)) (hp : pc + 1 = pc') (k : Go l R Z n0 y code ml ret Q cells slots h pc' Ls (.int a.toUInt32.toUInt16.toUInt32.toInt32 :: st)) : Go l R Z n0 y code ml ret Q cells slots h pc Ls (.int a :: st) := Go.step (fun C X _ q => by subst hp; exact XT.i2c X.here C.1 rfl (hb C.2.2.2.1 hd) rfl q) k
theorem Go.lcmp {a b : Int64} (hd : decode code pc = .ok (.lcmp, 1)) (hp : pc + 1 = pc') (k : Go l R Z n0 y code ml ret Q cells slots h pc' Ls (.int (XT.cmpL a b) :: st)) : Go l R Z n0 y code ml ret Q cells slots h pc Ls (.long b :: .long a :: st) := Go.step (fun C X _ q => by subst hp; exact XT.lcmp X.here C.1 rfl (hb C.2.2.2.1 hd) rfl q) k
theorem Go.iinc {k : Nat} {i : Int} {v w : Int32} (hd : decode code pc = .ok (.iinc k i, 3)) (hv : Int32.ofInt i = w) (hl : Ls[k]? = some (.val (.int v))) (hl' : storeLocals Ls k (.int (v + w)) = some Ls') (hp : pc + 3 = pc') (k : Go l R Z n0 y code ml ret Q cells slots h pc' Ls' st) : Go l R Z n0 y code ml ret Q cells slots h pc Ls st := Go.step (fun C X _ q => by subst hp; exact XT.iincV X.here C.1 rfl w (hb C.2.2.2.1 hd) hv hl hl' q) k
theorem Go.dup {v : Value} (hd : decode code pc = .ok (.dup, 1)) (hc : v.category = 1) (hp : pc + 1 = pc') (k : Go l R Z n0 y code ml ret Q cells slots h pc' Ls (v :: v :: st)) : Go l R Z n0 y code ml ret Q cells slots h pc Ls (v :: st) := Go.step (fun C X _ q => by subst hp; exact XS.dup X.here C.1 rfl (hb C.2.2.2.1 hd) rfl hc q) k
theorem Go.pop {v : Value} (hd : decode code pc = .ok (.pop, 1)) (hc : v.category = 1) (hp : pc + 1 = pc') (k : Go l R Z n0 y code ml ret Q cells slots h pc' Ls st) : Go l R Z n0 y code ml ret Q cells slots h pc Ls (v :: st) := Go.step (fun C X _ q => by subst hp; exact XT.pop X.here C.1 rfl (hb C.2.2.2.1 hd) rfl hc q) k
theorem Go.dupX1 {v w : Value} (hd : decode code pc = .ok (.dup_x1, 1)) (hc : v.category = 1) (hc' : w.category = 1) (hp : pc + 1 = pc') (k : Go l R Z n0 y code ml ret Q cells slots h pc' Ls (v :: w :: v :: st)) : Go l R Z n0 y code ml ret Q cells slots h pc Ls (v :: w :: st) := Go.step (fun C X _ q => by subst hp; exact XT.dupX1 X.here C.1 rfl (hb C.2.2.2.1 hd) rfl hc hc' q) k
theorem Go.dup2 {v w : Value} (hd : decode code pc = .ok (.dup2, 1)) (hc : v.category = 1) (hc' : w.category = 1) (hp : pc + 1 = pc') (k : Go l R Z n0 y code ml ret Q cells slots h pc' Ls (v :: w :: v :: w :: st)) : Go l R Z n0 y code ml ret Q cells slots h pc Ls (v :: w :: st) := Go.step (fun C X _ q => by subst hp; exact XT.dup2 X.here C.1 rfl (hb C.2.2.2.1 hd) rfl hc hc' q) k
theorem Go.dup2L {a : Int64} (hd : decode code pc = .ok (.dup2, 1)) (hp : pc + 1 = pc') (k : Go l R Z n0 y code ml ret Q cells slots h pc' Ls (.long a :: .long a :: st)) : Go l R Z n0 y code ml ret Q cells slots h pc Ls (.long a :: st) := Go.step (fun C X _ q => by subst hp; exact XT.dup2L X.here C.1 rfl (hb C.2.2.2.1 hd) rfl q) k
theorem Go.goto {o : Int} (hd : decode code pc = .ok (.goto o, 3)) (ho : 0 ≤ (pc : Int) + o := by decide) (hp : ((pc : Int) + o).toNat = pc' := by decide) (k : Go l R Z n0 y code ml ret Q cells slots h pc' Ls st) : Go l R Z n0 y code ml ret Q cells slots h pc Ls st := Go.step (fun C X _ q => XS.goto X.here C.1 rfl rfl (hb C.2.2.2.1 hd) ho hp q) k
theorem Go.ifYes {o : Int} {cd : ClassFile.Cond} {a : Int32} (hd : decode code pc = .ok (.ifCond cd o, 3)) (hc : ifCond.holds cd a = true) (ho : 0 ≤ (pc : Int) + o := by decide) (hp : ((pc : Int) + o).toNat = pc' := by decide) (k : Go l R Z n0 y code ml ret Q cells slots h pc' Ls st) : Go l R Z n0 y code ml ret Q cells slots h pc Ls (.int a :: st) := Go.step (fun C X _ q => XS.ifYes X.here C.1 rfl rfl (hb C.2.2.2.1 hd) rfl hc ho hp q) k
theorem Go.icmpYes {o : Int} {cd : ClassFile.Cond} {a b : Int32} (hd : decode code pc = .ok (.if_icmp cd o, 3)) (hc : if_icmp.holds cd a b = true) (ho : 0 ≤ (pc : Int) + o := by decide) (hp : ((pc : Int) + o).toNat = pc' := by decide) (k : Go l R Z n0 y code ml ret Q cells slots h pc' Ls st) : Go l R Z n0 y code ml ret Q cells slots h pc Ls (.int b :: .int a :: st) := Go.step (fun C X _ q => XS.icmpYes X.here C.1 rfl rfl (hb C.2.2.2.1 hd) rfl hc ho hp q) k
theorem Go.acmpYes {o : Int} {cd : ClassFile.ACond} {a b : Value} (hd : decode code pc = .ok (.if_acmp cd o, 3)) (ha : a.isRef = true) (hb' : b.isRef = true) (hc : XT.acmp cd a b = true) (ho : 0 ≤ (pc : Int) + o := by decide) (hp : ((pc : Int) + o).toNat = pc' := by decide) (k : Go l R Z n0 y code ml ret Q cells slots h pc' Ls st) : Go l R Z n0 y code ml ret Q cells slots h pc Ls (b :: a :: st) := Go.step (fun C X _ q => XT.acmpYes X.here C.1 rfl rfl (hb C.2.2.2.1 hd) rfl ha hb' hc ho hp q) k
theorem Go.nullYes {o : Int} {a : Value} (hd : decode code pc = .ok (.ifnull o, 3)) (hv : a = .null) (ho : 0 ≤ (pc : Int) + o := by decide) (hp : ((pc : Int) + o).toNat = pc' := by decide) (k : Go l R Z n0 y code ml ret Q cells slots h pc' Ls st) : Go l R Z n0 y code ml ret Q cells slots h pc Ls (a :: st) := Go.step (fun C X _ q => XT.nullYes X.here C.1 rfl rfl (hb C.2.2.2.1 hd) rfl hv ho hp q) k
theorem Go.nonnullYes {o : Int} {a : Value} (hd : decode code pc = .ok (.ifnonnull o, 3)) (ha : a.isRef = true) (hv : ¬ a = .null) (ho : 0 ≤ (pc : Int) + o := by decide) (hp : ((pc : Int) + o).toNat = pc' := by decide) (k : Go l R Z n0 y code ml ret Q cells slots h pc' Ls st) : Go l R Z n0 y code ml ret Q cells slots h pc Ls (a :: st) := Go.step (fun C X _ q => XT.nonnullYes X.here C.1 rfl rfl (hb C.2.2.2.1 hd) rfl ha hv ho hp q) k
theorem Go.ifNo {o : Int} {cd : ClassFile.Cond} {a : Int32} (hd : decode code pc = .ok (.ifCond cd o, 3)) (hc : ifCond.holds cd a = false) (hp : pc + 3 = pc') (k : Go l R Z n0 y code ml ret Q cells slots h pc' Ls st) : Go l R Z n0 y code ml ret Q cells slots h pc Ls (.int a :: st) := Go.step (fun C X _ q => by subst hp; exact XS.ifNo X.here C.1 rfl (hb C.2.2.2.1 hd) rfl hc q) k
theorem Go.icmpNo {o : Int} {cd : ClassFile.Cond} {a b : Int32} (hd : decode code pc = .ok (.if_icmp cd o, 3)) (hc : if_icmp.holds cd a b = false) (hp : pc + 3 = pc') (k : Go l R Z n0 y code ml ret Q cells slots h pc' Ls st) : Go l R Z n0 y code ml ret Q cells slots h pc Ls (.int b :: .int a :: st) := Go.step (fun C X _ q => by subst hp; exact XS.icmpNo X.here C.1 rfl (hb C.2.2.2.1 hd) rfl hc q) k
theorem Go.acmpNo {o : Int} {cd : ClassFile.ACond} {a b : Value} (hd : decode code pc = .ok (.if_acmp cd o, 3)) (ha : a.isRef = true) (hb' : b.isRef = true) (hc : XT.acmp cd a b = false) (hp : pc + 3 = pc') (k : Go l R Z n0 y code ml ret Q cells slots h pc' Ls st) : Go l R Z n0 y code ml ret Q cells slots h pc Ls (b :: a :: st) := Go.step (fun C X _ q => by subst hp; exact XT.acmpNo X.here C.1 rfl (hb C.2.2.2.1 hd) rfl ha hb' hc q) k
theorem Go.nullNo {o : Int} {a : Value} (hd : decode code pc = .ok (.ifnull o, 3)) (ha : a.isRef = true) (hv : ¬ a = .null) (hp : pc + 3 = pc') (k : Go l R Z n0 y code ml ret Q cells slots h pc' Ls st) : Go l R Z n0 y code ml ret Q cells slots h pc Ls (a :: st) := Go.step (fun C X _ q => by subst hp; exact XT.nullNo X.here C.1 rfl (hb C.2.2.2.1 hd) rfl ha hv q) k
theorem Go.nonnullNo {o : Int} {a : Value} (hd : decode code pc = .ok (.ifnonnull o, 3)) (hv : a = .null) (hp : pc + 3 = pc') (k : Go l R Z n0 y code ml ret Q cells slots h pc' Ls st) : Go l R Z n0 y code ml ret Q cells slots h pc Ls (a :: st) := Go.step (fun C X _ q => by subst hp; exact XT.nonnullNo X.here C.1 rfl (hb C.2.2.2.1 hd) rfl hv q) k
theorem Go.tsw {a : Int32} {dflt low high o : Int} {offs : Array Int} {len : Nat} (hd : decode code pc = .ok (.tableswitch dflt low high offs, len)) (hin : ¬ (a.toInt < low ∨ a.toInt > high)) (hoff : offs[(a.toInt - low).toNat]? = some o) (ho : 0 ≤ (pc : Int) + o) (hp : ((pc : Int) + o).toNat = pc') (k : Go l R Z n0 y code ml ret Q cells slots h pc' Ls st) : Go l R Z n0 y code ml ret Q cells slots h pc Ls (.int a :: st) := Go.step (fun C X _ q => XS.tswIn X.here C.1 rfl rfl (hb C.2.2.2.1 hd) rfl hin hoff ho hp q) k
theorem Go.tswOut {a : Int32} {dflt low high : Int} {offs : Array Int} {len : Nat} (hd : decode code pc = .ok (.tableswitch dflt low high offs, len)) (hout : a.toInt < low ∨ a.toInt > high) (ho : 0 ≤ (pc : Int) + dflt) (hp : ((pc : Int) + dflt).toNat = pc') (k : Go l R Z n0 y code ml ret Q cells slots h pc' Ls st) : Go l R Z n0 y code ml ret Q cells slots h pc Ls (.int a :: st) := Go.step (fun C X _ q => XS.tswOut X.here C.1 rfl rfl (hb C.2.2.2.1 hd) rfl hout ho hp q) k
theorem Go.getstatic {host : String} {R0 O n d : String} {i : Nat} (w : (Jvm.Cond.fieldLink y.cls i R0 n d).before a0 Z = true ∨ (Jvm.Cond.fieldLinkNest y.cls i R0 n d host).before a0 Z = true) (via : Via Z R0 O n d) {v : Value} (F : Sta Z h O n d v) (hd : decode code pc = .ok (.getstatic i, 3)) (hp : pc + 3 = pc') (k : Go l R Z n0 y code ml ret Q cells slots h pc' Ls (v :: st)) : Go l R Z n0 y code ml ret Q cells slots h pc Ls st := by
  refine Go.law (P := fun h' => h' = h) (fun C X N eT _ => ?_) (fun h' e => e ▸ k)
  subst hp
  obtain ⟨T', X', e', st⟩ := getS2 X C.1 C.2.1 C.2.2.1 w via eT F (g := mkF _ pc Ls st) rfl (hb C.2.2.2.1 hd)
  exact ⟨T', _, h, X', N, e', rfl, st⟩
theorem Go.getfield {host : String} {R0 O n d : String} {i : Nat} (w : (Jvm.Cond.fieldLink y.cls i R0 n d).before a0 Z = true ∨ (Jvm.Cond.fieldLinkNest y.cls i R0 n d host).before a0 Z = true) (via : Via Z R0 O n d) {v : Value} {a : Addr} (F : Fld Z h a O n d v) (hd : decode code pc = .ok (.getfield i, 3)) (hp : pc + 3 = pc') (k : Go l R Z n0 y code ml ret Q cells slots h pc' Ls (v :: st)) : Go l R Z n0 y code ml ret Q cells slots h pc Ls (.ref a :: st) := by
  refine Go.law (P := fun h' => h' = h) (fun C X N eT _ => ?_) (fun h' e => e ▸ k)
  subst hp
  obtain ⟨T', X', e', st⟩ := getF X C.1 C.2.1 C.2.2.1 w via eT F (g := mkF _ pc Ls (.ref a :: st)) rfl rfl (hb C.2.2.2.1 hd)
  exact ⟨T', _, h, X', N, e', rfl, st⟩
theorem Go.castY {K : String} {i : Nat} {a : Addr} (w : (Jvm.Cond.classLink y.cls i K).before a0 Z = true) (F : Ins Z h a K true) (hd : decode code pc = .ok (.checkcast i, 3)) (hp : pc + 3 = pc') (k : Go l R Z n0 y code ml ret Q cells slots h pc' Ls (.ref a :: st)) : Go l R Z n0 y code ml ret Q cells slots h pc Ls (.ref a :: st) := by
  refine Go.law (P := fun h' => h' = h) (fun C X N eT _ => ?_) (fun h' e => e ▸ k)
  subst hp
  obtain ⟨T', X', e', st⟩ := castY X C.1 C.2.1 C.2.2.1 w eT F (g := mkF _ pc Ls (.ref a :: st)) rfl rfl (hb C.2.2.2.1 hd)
  exact ⟨T', _, h, X', N, e', rfl, st⟩
theorem Go.instY {K : String} {i : Nat} {a : Addr} (w : (Jvm.Cond.classLink y.cls i K).before a0 Z = true) (F : Ins Z h a K true) (hd : decode code pc = .ok (.instanceof i, 3)) (hp : pc + 3 = pc') (k : Go l R Z n0 y code ml ret Q cells slots h pc' Ls (.int 1 :: st)) : Go l R Z n0 y code ml ret Q cells slots h pc Ls (.ref a :: st) := by
  refine Go.law (P := fun h' => h' = h) (fun C X N eT _ => ?_) (fun h' e => e ▸ k)
  subst hp
  obtain ⟨T', X', e', st⟩ := instY X C.1 C.2.1 C.2.2.1 w eT F (g := mkF _ pc Ls (.ref a :: st)) rfl rfl (hb C.2.2.2.1 hd)
  exact ⟨T', _, h, X', N, e', rfl, st⟩
theorem Go.instNo {K C' : String} {i : Nat} {a : Addr} (w : (Jvm.Cond.classLink y.cls i K).before a0 Z = true) (E : Exa Z h a C') (F : ∃ c t, Z.vm.findClass C' = some c ∧ Z.vm.findClass K = some t ∧ Z.vm.assignable c t = false) (hd : decode code pc = .ok (.instanceof i, 3)) (hp : pc + 3 = pc') (k : Go l R Z n0 y code ml ret Q cells slots h pc' Ls (.int 0 :: st)) : Go l R Z n0 y code ml ret Q cells slots h pc Ls (.ref a :: st) := by
  refine Go.law (P := fun h' => h' = h) (fun C X N eT _ => ?_) (fun h' e => e ▸ k)
  subst hp
  obtain ⟨T', X', e', st⟩ := instNo X C.1 C.2.1 C.2.2.1 w eT E F (g := mkF _ pc Ls (.ref a :: st)) rfl rfl (hb C.2.2.2.1 hd)
  exact ⟨T', _, h, X', N, e', rfl, st⟩
theorem Go.castNull {i : Nat} (hd : decode code pc = .ok (.checkcast i, 3)) (hp : pc + 3 = pc') (k : Go l R Z n0 y code ml ret Q cells slots h pc' Ls (.null :: st)) : Go l R Z n0 y code ml ret Q cells slots h pc Ls (.null :: st) := Go.step (fun C X _ q => by subst hp; exact (X.checkcastNull C.1 (g := mkF _ pc Ls (.null :: st)) rfl rfl (hb C.2.2.2.1 hd) _ q)) k
theorem Go.initO {i : Nat} {a : Addr} (w1 : (Jvm.Cond.methodLink y.cls i Lib.objectInit).before a0 Z = true) (w2 : (Jvm.Cond.instanceMethod Lib.objectInit).before a0 Z = true) (w3 : (Jvm.Cond.code Lib.objectInit ⟨#[0xb1]⟩ 1 none).before a0 Z = true) (hd : decode code pc = .ok (.invokespecial i, 3)) (hz : Ls.size = ml) (hf : 1 ≤ R.frames := by decide) (hl : (st.map fun v => v.category).sum + 12 ≤ R.locals := by decide) (hp : pc + 3 = pc') (k : Go l R Z n0 y code ml ret Q cells slots h pc' Ls st) : Go l R Z n0 y code ml ret Q cells slots h pc Ls (.ref a :: st) := by
  refine Go.law (P := fun h' => h' = h) (fun C X N eT _ => ?_) (fun h' e => e ▸ k)
  subst hp
  obtain ⟨T', X', e', st⟩ := initO X C.1 C.2.1 C.2.2.1 w1 w2 w3 eT (g := mkF _ pc Ls (.ref a :: st)) rfl (by rw [C.2.2.2.2.1]; exact hz) rfl (hb C.2.2.2.1 hd) hf (W := (st.map fun v => v.category).sum) (by simp) hl
  exact ⟨T', _, h, X', N, e', rfl, st⟩
theorem Go.getClass {i : Nat} {a mr : Addr} {C' : String} (w1 : (Jvm.Cond.methodLink y.cls i ⟨"java/lang/Object", "getClass", "()Ljava/lang/Class;"⟩).before a0 Z = true) (w2 : (Jvm.Cond.declares ⟨"java/lang/Object", "getClass", "()Ljava/lang/Class;"⟩).before a0 Z = true) (w3 : (Jvm.Cond.noSuperclass "java/lang/Object").before a0 Z = true) (w4 : (Jvm.Cond.selects C' ⟨"java/lang/Object", "getClass", "()Ljava/lang/Class;"⟩ ⟨"java/lang/Object", "getClass", "()Ljava/lang/Class;"⟩).before a0 Z = true) (w5 : (Jvm.Cond.instanceMethod ⟨"java/lang/Object", "getClass", "()Ljava/lang/Class;"⟩).before a0 Z = true) (w6 : (Jvm.Cond.native ⟨"java/lang/Object", "getClass", "()Ljava/lang/Class;"⟩).before a0 Z = true) (E : Exa Z h a C') (M : Mi Z C' mr) (hd : decode code pc = .ok (.invokevirtual i, 3)) (hz : Ls.size = ml) (hf : 1 ≤ R.frames := by decide) (hl : (st.map fun v => v.category).sum + (nativeFrameWords "java/lang/Object" "getClass" 1 + 11) ≤ R.locals := by decide) (hp : pc + 3 = pc') (k : Go l R Z n0 y code ml ret Q cells slots h pc' Ls (.ref mr :: st)) : Go l R Z n0 y code ml ret Q cells slots h pc Ls (.ref a :: st) := by
  refine Go.law (P := fun h' => h' = h) (fun C X N eT _ => ?_) (fun h' e => e ▸ k)
  subst hp
  obtain ⟨cB, kB, i1, i2, i3⟩ := isOf C.2.1 eT E
  obtain ⟨cc, kc, m1, m2, m3⟩ := M.at C.2.1
  cases i1.symm.trans m1
  obtain ⟨vm', X', st⟩ := X.getClassOf C.1 C.2.2.1 (mvT C.2.1 w1) (mvT C.2.1 w2) (nf_top (args := #[]) (mvT C.2.1 w3)) (mvT C.2.1 w4) (mvT C.2.1 w5) (mvT C.2.1 w6) m1 i3 m2 m3 (g := mkF _ pc Ls (.ref a :: st)) rfl (by rw [C.2.2.2.2.1]; exact hz) rfl (hb C.2.2.2.1 hd) hf (by simpa using hl)
  exact ⟨_, _, h, X', N, eT, rfl, st⟩
theorem Go.ldcMirror {i : Nat} {mr : Addr} {C' : String} (w : (Jvm.Cond.classLink y.cls i C').before a0 Z = true) (M : Mi Z C' mr) (hd : decode code pc = .ok (.ldc i, 2)) (hp : pc + 2 = pc') (k : Go l R Z n0 y code ml ret Q cells slots h pc' Ls (.ref mr :: st)) : Go l R Z n0 y code ml ret Q cells slots h pc Ls st := by
  refine Go.law (P := fun h' => h' = h) (fun C X N eT _ => ?_) (fun h' e => e ▸ k)
  subst hp
  obtain ⟨cc, kc, m1, m2, m3⟩ := M.at C.2.1
  obtain ⟨vm', X', st⟩ := X.ldcMirror C.1 C.2.2.1 (mvT C.2.1 w) (a := mr) (by simp [Term.eval, m1, m2, m3]) (g := mkF _ pc Ls st) rfl (hb C.2.2.2.1 hd)
  exact ⟨_, _, h, X', N, eT, rfl, st⟩
theorem Go.putfield {host : String} {R0 O n d : String} {i : Nat} (w : (Jvm.Cond.fieldLink y.cls i R0 n d).before a0 Z = true ∨ (Jvm.Cond.fieldLinkNest y.cls i R0 n d host).before a0 Z = true) {ty : FieldType} {C' : String} {kk : Nat} (via : Via Z R0 O n d) {v old : Value} {a : Addr} (F : Fld Z h a O n d old) (E : Exa Z h a C') (L : (Jvm.Cond.lays C' O n d).before a0 Z = true ∨ ((Jvm.Cond.laysFinal C' O n d).before a0 Z = true ∧ y.cls = O ∧ y.name = "<init>")) (wi : (Jvm.Cond.instantiable C' kk).before a0 Z = true) (hty : parseFieldDescriptor d = some ty) (hn : narrow ty v = v) (hf : fits ty v = true) (ha : n0 ≤ a) (hd : decode code pc = .ok (.putfield i, 3)) (hp : pc + 3 = pc') (k : ∀ h', Wr h h' a (Jvm.RoadKit.slotOf Z O n d) v → Go l R Z n0 y code ml ret Q cells slots h' pc' Ls st) : Go l R Z n0 y code ml ret Q cells slots h pc Ls (v :: .ref a :: st) := by
  refine Go.law (P := fun h' => Wr h h' a (Jvm.RoadKit.slotOf Z O n d) v) (fun C X N eT hn => ?_) (k)
  subst hp
  obtain ⟨T', h', X', e', W, st⟩ := putF X C.1 C.2.1 C.2.2.1 w via eT F E (L.imp id fun q => ⟨q.1, q.2.1, C.2.2.2.2.2.2.2.1.trans q.2.2⟩) wi hty ‹narrow ty v = v› hf (g := mkF _ pc Ls (v :: .ref a :: st)) rfl rfl (hb C.2.2.2.1 hd)
  exact ⟨T', _, h', X', Fr.snoc X' N ha, e', W, st⟩
theorem Go.putfieldN {R0 O n d : String} {i : Nat} (w : (Jvm.Cond.fieldLink y.cls i R0 n d).before a0 Z = true) {ty : FieldType} {C' : String} {kk : Nat} (via : Via Z R0 O n d) {v v' : Int32} {old : Value} {a : Addr} (F : Fld Z h a O n d old) (E : Exa Z h a C') (L : (Jvm.Cond.lays C' O n d).before a0 Z = true ∨ ((Jvm.Cond.laysFinal C' O n d).before a0 Z = true ∧ y.cls = O ∧ y.name = "<init>")) (wi : (Jvm.Cond.instantiable C' kk).before a0 Z = true) (hty : parseFieldDescriptor d = some ty) (hn : narrow ty (.int v) = .int v') (hf : fits ty (.int v') = true) (ha : n0 ≤ a) (hd : decode code pc = .ok (.putfield i, 3)) (hp : pc + 3 = pc') (k : ∀ h', Wr h h' a (Jvm.RoadKit.slotOf Z O n d) (.int v') → Go l R Z n0 y code ml ret Q cells slots h' pc' Ls st) : Go l R Z n0 y code ml ret Q cells slots h pc Ls (.int v :: .ref a :: st) := by
  refine Go.law (P := fun h' => Wr h h' a (Jvm.RoadKit.slotOf Z O n d) (.int v')) (fun C X N eT hn => ?_) (k)
  subst hp
  obtain ⟨T', h', X', e', W, st⟩ := putFN X C.1 C.2.1 C.2.2.1 w via eT F E (L.imp id fun q => ⟨q.1, q.2.1, C.2.2.2.2.2.2.2.1.trans q.2.2⟩) wi hty ‹narrow ty (.int v) = .int v'› hf (g := mkF _ pc Ls (.int v :: .ref a :: st)) rfl rfl (hb C.2.2.2.1 hd)
  exact ⟨T', _, h', X', Fr.snoc X' N ha, e', W, st⟩
theorem Go.new {C' : String} {i n cells' slots' : Nat} (w : (Jvm.Cond.classLink y.cls i C').before a0 Z = true) (wi : (Jvm.Cond.instantiable C' n).before a0 Z = true) (wz : (Jvm.Cond.initialized C').before a0 Z = true) (hd : decode code pc = .ok (.new i, 3)) (hc' : cells + 1 = cells') (hs' : slots + n = slots') (hc : cells' ≤ R.cells := by decide) (hl : slots' ≤ R.slots := by decide) (hp : pc + 3 = pc') (k : ∀ (h' : Heap) (b : Addr), b = h.size → Ext h h' → n0 ≤ b → Exa Z h' b C' → (∀ {O nm d : String} {ty : FieldType}, Laid Z a0 C' O nm d → parseFieldDescriptor d = some ty → Fld Z h' b O nm d (defaultValue ty)) → Go l R Z n0 y code ml ret Q cells' slots' h' pc' Ls (.ref b :: st)) : Go l R Z n0 y code ml ret Q cells slots h pc Ls st := by
  refine Go.law (P := fun h' => (Ext h h' ∧ n0 ≤ h.size ∧ Exa Z h' h.size C' ∧ ∀ {O nm d : String} {ty : FieldType}, Laid Z a0 C' O nm d → parseFieldDescriptor d = some ty → Fld Z h' h.size O nm d (defaultValue ty))) (fun C X N eT hn => ?_) (fun h' q => k h' h.size rfl q.1 q.2.1 q.2.2.1 q.2.2.2)
  subst hp
  subst hc' hs'
  obtain ⟨T', h', X', e', E, A, D, -, st⟩ := newO X C.1 C.2.1 C.2.2.1 w wi wz eT (g := mkF _ pc Ls st) rfl (hb C.2.2.2.1 hd) hc hl
  exact ⟨T', _, h', X', N, e', ⟨E, hn, A, D⟩, st⟩
theorem Go.newarray {aty : ArrayType} {ad : String} {n : Int32} {cap cells' slots' : Nat} (w : (Jvm.Cond.arrayClass (newarray.typeOf aty)).before a0 Z = true) (hd : decode code pc = .ok (.newarray aty, 2)) (had : "[" ++ (newarray.typeOf aty).toString = ad) (hn' : ¬ n < 0) (hcap : n.toNatClampNeg ≤ cap) (hc' : cells + 1 = cells') (hs' : slots + cap = slots') (hb8 : cap * 8 ≤ 536870912 := by decide) (hc : cells' ≤ R.cells := by decide) (hl : slots' ≤ R.slots := by decide) (hp : pc + 2 = pc') (k : ∀ (h' : Heap) (b : Addr), b = h.size → Ext h h' → n0 ≤ b → ∀ cA, Arv Z h' b cA (newarray.typeOf aty) n [] (defaultValue (newarray.typeOf aty)) → Exa Z h' b ad → Go l R Z n0 y code ml ret Q cells' slots' h' pc' Ls (.ref b :: st)) : Go l R Z n0 y code ml ret Q cells slots h pc Ls (.int n :: st) := by
  refine Go.law (P := fun h' => (Ext h h' ∧ n0 ≤ h.size ∧ ∃ cA, Arv Z h' h.size cA (newarray.typeOf aty) n [] (defaultValue (newarray.typeOf aty)) ∧ Exa Z h' h.size ad)) (fun C X N eT hn => ?_) (fun h' q => q.2.2.elim fun cA u => k h' h.size rfl q.1 q.2.1 cA u.1 u.2)
  subst hp
  subst hc' hs'
  obtain ⟨T', h', cA, X', e', E, A, A2, st⟩ := newPE X C.1 C.2.1 w eT (g := mkF _ pc Ls (.int n :: st)) rfl (hb C.2.2.2.1 hd) rfl hn' hcap hb8 hc hl had
  exact ⟨T', _, h', X', N, e', ⟨E, hn, cA, Arv.new A hn', A2⟩, st⟩
theorem Go.anewarray {C' ad : String} {i : Nat} {n : Int32} {cap cells' slots' : Nat} (w : (Jvm.Cond.classLink y.cls i C').before a0 Z = true) (w2 : (Jvm.Cond.arrayOver (.object C')).before a0 Z = true) (hd : decode code pc = .ok (.anewarray i, 3)) (had : "[" ++ (FieldType.object C').toString = ad) (hn' : ¬ n < 0) (hcap : n.toNatClampNeg ≤ cap) (hc' : cells + 1 = cells') (hs' : slots + cap = slots') (hb8 : cap * 8 ≤ 536870912 := by decide) (hc : cells' ≤ R.cells := by decide) (hl : slots' ≤ R.slots := by decide) (hp : pc + 3 = pc') (k : ∀ (h' : Heap) (b : Addr), b = h.size → Ext h h' → n0 ≤ b → ∀ cA, Arv Z h' b cA (.object C') n [] .null → Exa Z h' b ad → Ovr Z cA C' → Go l R Z n0 y code ml ret Q cells' slots' h' pc' Ls (.ref b :: st)) : Go l R Z n0 y code ml ret Q cells slots h pc Ls (.int n :: st) := by
  refine Go.law (P := fun h' => (Ext h h' ∧ n0 ≤ h.size ∧ ∃ cA, Arv Z h' h.size cA (.object C') n [] .null ∧ Exa Z h' h.size ad ∧ Ovr Z cA C')) (fun C X N eT hn => ?_) (fun h' q => q.2.2.elim fun cA u => k h' h.size rfl q.1 q.2.1 cA u.1 u.2.1 u.2.2)
  subst hp
  subst hc' hs'
  obtain ⟨T', h', cA, X', e', E, A, A2, O, st⟩ := newRE X C.1 C.2.1 C.2.2.1 w w2 eT (g := mkF _ pc Ls (.int n :: st)) rfl (hb C.2.2.2.1 hd) rfl hn' hcap hb8 hc hl had
  exact ⟨T', _, h', X', N, e', ⟨E, hn, cA, Arv.new A hn', A2, O⟩, st⟩
theorem Go.arraycopy {i : Nat} {a b : Addr} {kA kB : ClassId} {ty ty' : FieldType} {z z' sp dp nn : Int32} {vs vd us vd' : List Value} {dv dd : Value} (w1 : (Jvm.Cond.methodLink y.cls i Jvm.Stand.acN).before a0 Z = true) (w2 : (Jvm.Cond.native Jvm.Stand.acN).before a0 Z = true) (w3 : (Jvm.Cond.static Jvm.Stand.acN).before a0 Z = true) (w4 : (Jvm.Cond.initialized "java/lang/System").before a0 Z = true)
    (A : Arv Z h a kA ty z vs dv) (B : Arv Z h b kB ty' z' vd dd) (hty : (ty = ty' ∧ refKind ty = false) ∨ (refKind ty = true ∧ refKind ty' = true ∧ StoL Z h b us)) (h1 : ¬ sp < 0) (h2 : ¬ dp < 0) (h3 : ¬ nn < 0) (h4 : sp.toNatClampNeg + nn.toNatClampNeg ≤ z.toNatClampNeg) (h5 : dp.toNatClampNeg + nn.toNatClampNeg ≤ z'.toNatClampNeg)
    (hus : us = (List.range nn.toNatClampNeg).map fun i => vs.getD (sp.toNatClampNeg + i) dv) (hl : dp.toNatClampNeg + nn.toNatClampNeg ≤ vd.length) (hvd : vd.take dp.toNatClampNeg ++ us ++ vd.drop (dp.toNatClampNeg + nn.toNatClampNeg) = vd') (ge : n0 ≤ b) (hd : decode code pc = .ok (.invokestatic i, 3)) (hz : Ls.size = ml) (hf : 1 ≤ R.frames := by decide) (hlo : (st.map fun v => v.category).sum + (nativeFrameWords "java/lang/System" "arraycopy" 5 + 11) ≤ R.locals := by decide) (hp : pc + 3 = pc')
    (k : ∀ h', Keep h h' [b] → Arv Z h' b kB ty' z' vd' dd → Go l R Z n0 y code ml ret Q cells slots h' pc' Ls st) : Go l R Z n0 y code ml ret Q cells slots h pc Ls (.int nn :: .int dp :: .ref b :: .int sp :: .ref a :: st) := by
  refine Go.law (P := fun h' => Keep h h' [b] ∧ Arv Z h' b kB ty' z' vd' dd) (fun C X N eT hn => ?_) (fun h' q => k h' q.1 q.2)
  subst hp hvd
  obtain ⟨T', h', L, X', e', N', K, V, st⟩ := cpA X C.1 C.2.1 C.2.2.1 w1 w2 w3 w4 eT A B hty h1 h2 h3 h4 h5 hus hl N ge (g := mkF _ pc Ls (.int nn :: .int dp :: .ref b :: .int sp :: .ref a :: st)) rfl (by rw [C.2.2.2.2.1]; exact hz) rfl (hb C.2.2.2.1 hd) hf (W := (st.map fun v => v.category).sum) (by simp) hlo
  exact ⟨T', L, h', X', N', e', ⟨K, V⟩, st⟩
theorem Go.iastore {a : Addr} {kA : ClassId} {z j : Int32} {vs : List Value} {dv : Value} {v : Int32} {i : Nat} (F : Arv Z h a kA .int z vs dv) (ha : n0 ≤ a) (hd : decode code pc = .ok (.iastore, 1)) (hj : ¬ j < 0) (hjz : j < z) (hi : j.toNatClampNeg = i) (hil : i < vs.length) (hp : pc + 1 = pc') (k : ∀ h', Wr h h' a i (.int v) → Arv Z h' a kA .int z (vs.set i (.int v)) dv → Go l R Z n0 y code ml ret Q cells slots h' pc' Ls st) : Go l R Z n0 y code ml ret Q cells slots h pc Ls (.int v :: .int j :: .ref a :: st) := by
  refine Go.law (P := fun h' => (Wr h h' a i (.int v) ∧ Arv Z h' a kA .int z (vs.set i (.int v)) dv)) (fun C X N eT hn => ?_) (fun h' q => k h' q.1 q.2)
  subst hp
  obtain ⟨cl, A, q1, S, q3, H, G⟩ := F
  obtain ⟨T', h', X', e', W, st⟩ := stI X C.1 C.2.1 eT A (j := j) (inb_of S ⟨hj, hjz⟩) (g := mkF _ pc Ls (.int v :: .int j :: .ref a :: st)) rfl rfl (hb C.2.2.2.1 hd)
  have V := Arv.set A q1 S q3 H G rfl W i hi hil
  subst hi
  exact ⟨T', _, h', X', Fr.snoc X' N ha, e', ⟨W, V⟩, st⟩
theorem Go.lastore {a : Addr} {kA : ClassId} {z j : Int32} {vs : List Value} {dv : Value} {v : Int64} {i : Nat} (F : Arv Z h a kA .long z vs dv) (ha : n0 ≤ a) (hd : decode code pc = .ok (.lastore, 1)) (hj : ¬ j < 0) (hjz : j < z) (hi : j.toNatClampNeg = i) (hil : i < vs.length) (hp : pc + 1 = pc') (k : ∀ h', Wr h h' a i (.long v) → Arv Z h' a kA .long z (vs.set i (.long v)) dv → Go l R Z n0 y code ml ret Q cells slots h' pc' Ls st) : Go l R Z n0 y code ml ret Q cells slots h pc Ls (.long v :: .int j :: .ref a :: st) := by
  refine Go.law (P := fun h' => (Wr h h' a i (.long v) ∧ Arv Z h' a kA .long z (vs.set i (.long v)) dv)) (fun C X N eT hn => ?_) (fun h' q => k h' q.1 q.2)
  subst hp
  obtain ⟨cl, A, q1, S, q3, H, G⟩ := F
  obtain ⟨T', h', X', e', W, st⟩ := stJ X C.1 C.2.1 eT A (j := j) (inb_of S ⟨hj, hjz⟩) (g := mkF _ pc Ls (.long v :: .int j :: .ref a :: st)) rfl rfl (hb C.2.2.2.1 hd)
  have V := Arv.set A q1 S q3 H G rfl W i hi hil
  subst hi
  exact ⟨T', _, h', X', Fr.snoc X' N ha, e', ⟨W, V⟩, st⟩
theorem Go.castore {a : Addr} {kA : ClassId} {z j : Int32} {vs : List Value} {dv : Value} {v : Int32} {i : Nat} (F : Arv Z h a kA .char z vs dv) (ha : n0 ≤ a) (hd : decode code pc = .ok (.castore, 1)) (hj : ¬ j < 0) (hjz : j < z) (hi : j.toNatClampNeg = i) (hil : i < vs.length) (hp : pc + 1 = pc') (k : ∀ h', Wr h h' a i (.int (nar .char v)) → Arv Z h' a kA .char z (vs.set i (.int (nar .char v))) dv → Go l R Z n0 y code ml ret Q cells slots h' pc' Ls st) : Go l R Z n0 y code ml ret Q cells slots h pc Ls (.int v :: .int j :: .ref a :: st) := by
  refine Go.law (P := fun h' => (Wr h h' a i (.int (nar .char v)) ∧ Arv Z h' a kA .char z (vs.set i (.int (nar .char v))) dv)) (fun C X N eT hn => ?_) (fun h' q => k h' q.1 q.2)
  subst hp
  obtain ⟨cl, A, q1, S, q3, H, G⟩ := F
  obtain ⟨T', h', X', e', W, st⟩ := stC X C.1 C.2.1 eT A (j := j) (inb_of S ⟨hj, hjz⟩) (g := mkF _ pc Ls (.int v :: .int j :: .ref a :: st)) rfl rfl (hb C.2.2.2.1 hd)
  have V := Arv.set A q1 S q3 H G (fits_nar_char v) W i hi hil
  subst hi
  exact ⟨T', _, h', X', Fr.snoc X' N ha, e', ⟨W, V⟩, st⟩
theorem Go.bastore {a : Addr} {kA : ClassId} {z j : Int32} {vs : List Value} {dv : Value} {v : Int32} {i : Nat} (F : Arv Z h a kA .byte z vs dv) (ha : n0 ≤ a) (hd : decode code pc = .ok (.bastore, 1)) (hj : ¬ j < 0) (hjz : j < z) (hi : j.toNatClampNeg = i) (hil : i < vs.length) (hp : pc + 1 = pc') (k : ∀ h', Wr h h' a i (.int v.toInt8.toInt32) → Arv Z h' a kA .byte z (vs.set i (.int v.toInt8.toInt32)) dv → Go l R Z n0 y code ml ret Q cells slots h' pc' Ls st) : Go l R Z n0 y code ml ret Q cells slots h pc Ls (.int v :: .int j :: .ref a :: st) := by
  refine Go.law (P := fun h' => (Wr h h' a i (.int v.toInt8.toInt32) ∧ Arv Z h' a kA .byte z (vs.set i (.int v.toInt8.toInt32)) dv)) (fun C X N eT hn => ?_) (fun h' q => k h' q.1 q.2)
  subst hp
  obtain ⟨cl, A, q1, S, q3, H, G⟩ := F
  obtain ⟨T', h', X', e', W, st⟩ := stB X C.1 C.2.1 eT A (j := j) (inb_of S ⟨hj, hjz⟩) (g := mkF _ pc Ls (.int v :: .int j :: .ref a :: st)) rfl rfl (hb C.2.2.2.1 hd)
  have V := Arv.set A q1 S q3 H G (fits_nar_byte v) W i hi hil
  subst hi
  exact ⟨T', _, h', X', Fr.snoc X' N ha, e', ⟨W, V⟩, st⟩
theorem Go.aastore {a : Addr} {kA : ClassId} {ty : FieldType} {z j : Int32} {vs : List Value} {dv v : Value} {i : Nat} (F : Arv Z h a kA ty z vs dv) (ha : n0 ≤ a) (hty : ty.isReference = true) (hfit : fits ty v = true) (Fs : Sto Z h a v) (hd : decode code pc = .ok (.aastore, 1)) (hj : ¬ j < 0) (hjz : j < z) (hi : j.toNatClampNeg = i) (hil : i < vs.length) (hp : pc + 1 = pc') (k : ∀ h', Wr h h' a i v → Arv Z h' a kA ty z (vs.set i v) dv → Go l R Z n0 y code ml ret Q cells slots h' pc' Ls st) : Go l R Z n0 y code ml ret Q cells slots h pc Ls (v :: .int j :: .ref a :: st) := by
  refine Go.law (P := fun h' => (Wr h h' a i v ∧ Arv Z h' a kA ty z (vs.set i v) dv)) (fun C X N eT hn => ?_) (fun h' q => k h' q.1 q.2)
  subst hp
  obtain ⟨cl, A, q1, S, q3, H, G⟩ := F
  obtain ⟨T', h', X', e', W, st⟩ := stR X C.1 C.2.1 eT A (j := j) (inb_of S ⟨hj, hjz⟩) hty Fs (g := mkF _ pc Ls (v :: .int j :: .ref a :: st)) rfl rfl (hb C.2.2.2.1 hd)
  have V := Arv.set A q1 S q3 H G hfit W i hi hil
  subst hi
  exact ⟨T', _, h', X', Fr.snoc X' N ha, e', ⟨W, V⟩, st⟩
theorem Go.iaload {a : Addr} {kA : ClassId} {z j : Int32} {vs : List Value} {dv : Value} {v : Int32} (F : Arv Z h a kA .int z vs dv) (hd : decode code pc = .ok (.iaload, 1)) (hj : ¬ j < 0) (hjz : j < z) (hv : vs.getD j.toNatClampNeg dv = .int v) (hp : pc + 1 = pc') (k : Go l R Z n0 y code ml ret Q cells slots h pc' Ls (.int v :: st)) : Go l R Z n0 y code ml ret Q cells slots h pc Ls (.int j :: .ref a :: st) := by
  refine Go.step (fun C X eT q => ?_) k
  subst hp
  obtain ⟨cl, A, q1, S, q3, H, G⟩ := F
  have hin := inb_of S ⟨hj, hjz⟩
  exact X.iaload C.1 (j := j) (v := .int v) (by rw [eT]; exact A.1) (State.isArrayOf_alike C.2.1.alike A.2.1) A.2.2 hin (Has.at H hin hv) (g := mkF _ pc Ls (.int j :: .ref a :: st)) rfl rfl (hb C.2.2.2.1 hd) _ q
theorem Go.laload {a : Addr} {kA : ClassId} {z j : Int32} {vs : List Value} {dv : Value} {v : Int64} (F : Arv Z h a kA .long z vs dv) (hd : decode code pc = .ok (.laload, 1)) (hj : ¬ j < 0) (hjz : j < z) (hv : vs.getD j.toNatClampNeg dv = .long v) (hp : pc + 1 = pc') (k : Go l R Z n0 y code ml ret Q cells slots h pc' Ls (.long v :: st)) : Go l R Z n0 y code ml ret Q cells slots h pc Ls (.int j :: .ref a :: st) := by
  refine Go.step (fun C X eT q => ?_) k
  subst hp
  obtain ⟨cl, A, q1, S, q3, H, G⟩ := F
  have hin := inb_of S ⟨hj, hjz⟩
  exact X.laload C.1 (j := j) (v := .long v) (by rw [eT]; exact A.1) (State.isArrayOf_alike C.2.1.alike A.2.1) A.2.2 hin (Has.at H hin hv) (g := mkF _ pc Ls (.int j :: .ref a :: st)) rfl rfl (hb C.2.2.2.1 hd) _ q
theorem Go.caload {a : Addr} {kA : ClassId} {z j : Int32} {vs : List Value} {dv : Value} {v : Int32} (F : Arv Z h a kA .char z vs dv) (hd : decode code pc = .ok (.caload, 1)) (hj : ¬ j < 0) (hjz : j < z) (hv : vs.getD j.toNatClampNeg dv = .int v) (hp : pc + 1 = pc') (k : Go l R Z n0 y code ml ret Q cells slots h pc' Ls (.int v :: st)) : Go l R Z n0 y code ml ret Q cells slots h pc Ls (.int j :: .ref a :: st) := by
  refine Go.step (fun C X eT q => ?_) k
  subst hp
  obtain ⟨cl, A, q1, S, q3, H, G⟩ := F
  have hin := inb_of S ⟨hj, hjz⟩
  exact X.caload C.1 (j := j) (v := .int v) (by rw [eT]; exact A.1) (State.isArrayOf_alike C.2.1.alike A.2.1) A.2.2 hin (Has.at H hin hv) (g := mkF _ pc Ls (.int j :: .ref a :: st)) rfl rfl (hb C.2.2.2.1 hd) _ q
theorem Go.baload {a : Addr} {kA : ClassId} {z j : Int32} {vs : List Value} {dv : Value} {v : Int32} (F : Arv Z h a kA .byte z vs dv) (hd : decode code pc = .ok (.baload, 1)) (hj : ¬ j < 0) (hjz : j < z) (hv : vs.getD j.toNatClampNeg dv = .int v) (hp : pc + 1 = pc') (k : Go l R Z n0 y code ml ret Q cells slots h pc' Ls (.int v :: st)) : Go l R Z n0 y code ml ret Q cells slots h pc Ls (.int j :: .ref a :: st) := by
  refine Go.step (fun C X eT q => ?_) k
  subst hp
  obtain ⟨cl, A, q1, S, q3, H, G⟩ := F
  have hin := inb_of S ⟨hj, hjz⟩
  exact X.baloadBytes C.1 (j := j) (v := .int v) (by rw [eT]; exact A.1) (State.isArrayOf_alike C.2.1.alike A.2.1) A.2.2 hin (Has.at H hin hv) (g := mkF _ pc Ls (.int j :: .ref a :: st)) rfl rfl (hb C.2.2.2.1 hd) _ q
theorem Go.aaload {a : Addr} {kA : ClassId} {z j : Int32} {vs : List Value} {dv : Value} {v : Value} {ty : FieldType} (F : Arv Z h a kA ty z vs dv) (hty : ty.isReference = true) (hd : decode code pc = .ok (.aaload, 1)) (hj : ¬ j < 0) (hjz : j < z) (hv : vs.getD j.toNatClampNeg dv = v) (hp : pc + 1 = pc') (k : Go l R Z n0 y code ml ret Q cells slots h pc' Ls (v :: st)) : Go l R Z n0 y code ml ret Q cells slots h pc Ls (.int j :: .ref a :: st) := by
  refine Go.step (fun C X eT q => ?_) k
  subst hp
  obtain ⟨cl, A, q1, S, q3, H, G⟩ := F
  have hin := inb_of S ⟨hj, hjz⟩
  exact X.aaload C.1 (j := j) (v := v) (by rw [eT]; exact A.1) (State.isArrayOf_alike C.2.1.alike A.2.1) hty A.2.2 hin (Has.at H hin hv) (g := mkF _ pc Ls (.int j :: .ref a :: st)) rfl rfl (hb C.2.2.2.1 hd) _ q
theorem Go.arraylength {a : Addr} {kA : ClassId} {ty : FieldType} {z : Int32} {vs : List Value} {dv : Value} (F : Arv Z h a kA ty z vs dv) (hd : decode code pc = .ok (.arraylength, 1)) (hp : pc + 1 = pc') (k : Go l R Z n0 y code ml ret Q cells slots h pc' Ls (.int z :: st)) : Go l R Z n0 y code ml ret Q cells slots h pc Ls (.ref a :: st) := by
  refine Go.step (fun C X eT q => ?_) k
  subst hp
  obtain ⟨cl, A, q1, S, q3, H, G⟩ := F
  refine X.arraylength C.1 (by rw [eT]; exact A.1) (State.isArrayOf_alike C.2.1.alike A.2.1) (g := mkF _ pc Ls (.ref a :: st)) rfl rfl (hb C.2.2.2.1 hd) _ ?_
  rw [len_of S q3]
  exact q
theorem Go.retV (hr : ret = none) (hd : decode code pc = .ok (.return_, 1)) (hq : Q none h) (hc : cells ≤ R.cells := by decide) (hs : slots ≤ R.slots := by decide) : Go l R Z n0 y code ml ret Q cells slots h pc Ls [] := by
  intro p e s m args below meth c T locs C X N eT
  obtain ⟨fs, hr', hrun, hended, hW, hsame⟩ := X.leave (v := none) (fun _ => rfl) C.2.2.2.2.2.2.1
  refine ⟨_, _, X.returnOut C.1 (C.2.2.2.2.2.1.trans hr) (hb C.2.2.2.1 hd) hr', hrun, hended, _, locs, rfl, ⟨?_, N⟩, ⟨_, rfl⟩, hW, hsame.mono hc hs⟩
  show Q _ T.heap
  rw [eT]; exact hq
theorem Go.retN {t : FieldType} {v : Int32} (hr : ret = some t) (ht : t = .boolean ∨ t = .byte ∨ t = .char ∨ t = .short) (hd : decode code pc = .ok (.ireturn, 1)) (hq : Q (some (.int (nar t v))) h) (hc : cells ≤ R.cells := by decide) (hs : slots ≤ R.slots := by decide) : Go l R Z n0 y code ml ret Q cells slots h pc Ls (.int v :: st) := by
  intro p e s m args below meth c T locs C X N eT
  obtain ⟨fs, hr', hrun, hended, hW, hsame⟩ := X.leave (v := some (.int (nar t v))) (fun q => by rw [C.2.2.2.2.2.1, hr] at q; cases q) C.2.2.2.2.2.2.1
  refine ⟨_, _, Jvm.RoadKit.retN X C.1 (C.2.2.2.2.2.1.trans hr) ht (hb C.2.2.2.1 hd) hr', hrun, hended, _, locs, rfl, ⟨?_, N⟩, ⟨_, rfl⟩, hW, hsame.mono hc hs⟩
  show Q _ T.heap
  rw [eT]; exact hq
theorem Go.retI {v : Int32} (hr : ret = some .int) (hd : decode code pc = .ok (.ireturn, 1)) (hq : Q (some (.int v)) h) (hc : cells ≤ R.cells := by decide) (hs : slots ≤ R.slots := by decide) : Go l R Z n0 y code ml ret Q cells slots h pc Ls (.int v :: st) := by
  intro p e s m args below meth c T locs C X N eT
  obtain ⟨fs, hr', hrun, hended, hW, hsame⟩ := X.leave (v := some (.int v)) (fun q => by rw [C.2.2.2.2.2.1, hr] at q; cases q) C.2.2.2.2.2.2.1
  refine ⟨_, _, retOut X C.1 (C.2.2.2.2.2.1.trans hr) rfl (Or.inl ⟨rfl, Or.inl rfl, _, rfl⟩) (hb C.2.2.2.1 hd) hr', hrun, hended, _, locs, rfl, ⟨?_, N⟩, ⟨_, rfl⟩, hW, hsame.mono hc hs⟩
  show Q _ T.heap
  rw [eT]; exact hq
theorem Go.retJ {v : Int64} (hr : ret = some .long) (hd : decode code pc = .ok (.lreturn, 1)) (hq : Q (some (.long v)) h) (hc : cells ≤ R.cells := by decide) (hs : slots ≤ R.slots := by decide) : Go l R Z n0 y code ml ret Q cells slots h pc Ls (.long v :: st) := by
  intro p e s m args below meth c T locs C X N eT
  obtain ⟨fs, hr', hrun, hended, hW, hsame⟩ := X.leave (v := some (.long v)) (fun q => by rw [C.2.2.2.2.2.1, hr] at q; cases q) C.2.2.2.2.2.2.1
  refine ⟨_, _, retOut X C.1 (C.2.2.2.2.2.1.trans hr) rfl (Or.inr (Or.inl ⟨rfl, rfl, _, rfl⟩)) (hb C.2.2.2.1 hd) hr', hrun, hended, _, locs, rfl, ⟨?_, N⟩, ⟨_, rfl⟩, hW, hsame.mono hc hs⟩
  show Q _ T.heap
  rw [eT]; exact hq
theorem Go.retR {t : FieldType} {v : Value} (hr : ret = some t) (ht : t.isReference = true) (hv : v.isRef = true) (hn : narrow t v = v) (hd : decode code pc = .ok (.areturn, 1)) (hq : Q (some v) h) (hc : cells ≤ R.cells := by decide) (hs : slots ≤ R.slots := by decide) : Go l R Z n0 y code ml ret Q cells slots h pc Ls (v :: st) := by
  intro p e s m args below meth c T locs C X N eT
  obtain ⟨fs, hr', hrun, hended, hW, hsame⟩ := X.leave (v := some v) (fun q => by rw [C.2.2.2.2.2.1, hr] at q; cases q) C.2.2.2.2.2.2.1
  refine ⟨_, _, retOut X C.1 (C.2.2.2.2.2.1.trans hr) hn (Or.inr (Or.inr (Or.inr (Or.inr ⟨rfl, ht, hv⟩)))) (hb C.2.2.2.1 hd) hr', hrun, hended, _, locs, rfl, ⟨?_, N⟩, ⟨_, rfl⟩, hW, hsame.mono hc hs⟩
  show Q _ T.heap
  rw [eT]; exact hq
theorem Go.callS {z : MethodName} {zc : ByteArray} {zm : Nat} {zr : Option FieldType} {rm : Room} {Q' : Option Value → Heap → Prop} {cells' slots' i : Nat} (argsL rest : List Value) {ps : List FieldType} {r : Option FieldType} (w1 : (Jvm.Cond.methodLink y.cls i z).before a0 Z = true) (w2 : (Jvm.Cond.static z).before a0 Z = true) (wi : (Jvm.Cond.initialized z.cls).before a0 Z = true) (wc : (Jvm.Cond.code z zc zm zr).before a0 Z = true) (hy : z.cls ≠ "java/lang/invoke/MethodHandle" ∧ z.cls ≠ "java/lang/invoke/VarHandle") (hK : Con l z zc zm zr rm Z n0 argsL.toArray h Q') (hpd : parseMethodDescriptor z.desc = some ⟨ps, r⟩) (hlen : argsL.length = ps.length) (hst : st = argsL.reverse ++ rest) (hz : Ls.size = ml) (hc' : cells + rm.cells = cells') (hs' : slots + rm.slots = slots') (hfr : rm.frames + 1 ≤ R.frames := by decide) (hlo : (rest.map fun v => v.category).sum + (zm + 11) + rm.locals ≤ R.locals := by decide) (hc : cells' ≤ R.cells := by decide) (hs : slots' ≤ R.slots := by decide) (hd : decode code pc = .ok (.invokestatic i, 3)) (hp : pc + 3 = pc')
    (k : ∀ v h', Q' v h' → Go l R Z n0 y code ml ret Q cells' slots' h' pc' Ls (v.toList ++ rest)) : Go l R Z n0 y code ml ret Q cells slots h pc Ls st := by
  intro p e s m args below meth c T locs C X N eT
  subst hc' hs' hp hst
  have hold : Old Z n0 h := own_old C.2.2.2.2.2.2.2.2 X N eT
  obtain ⟨v, _, ⟨T', L', k', n'⟩, -, X', ⟨Lc, hQ, l', y', z'⟩, st⟩ := Jvm.LawKit.callS X C.1 (y := z) C.2.2.1 (mvT C.2.1 w1) (mvT C.2.1 w2) (mvT C.2.1 wi) (mvT C.2.1 wc) hy (backOf (W := (rest.map fun v => v.category).sum) (Q := fun v h L => Q' v h ∧ Fr n0 L) (hK hold []) C.2.1 wc wi hfr hlo) (g := mkF m pc Ls (argsL.reverse ++ rest)) rfl (by rw [C.2.2.2.2.1]; exact hz) (argsL := argsL) (rest := rest) (lenOf hpd hlen) rfl (by simp) (hb C.2.2.2.1 hd) (fun _ _ => ⟨rfl, eT, hc, hs⟩)
  dsimp only [Pt.U, Pt.locs, Pt.cells, Pt.slots] at X' l' y' z' st hQ
  subst l' y' z'
  obtain ⟨s₂, o, h1, h2⟩ := k v _ hQ.1 p e s m args below meth c T' _ C X' (Fr.app N hQ.2) rfl
  exact ⟨s₂, o, st _ h1, h2⟩
theorem Go.callC {z : MethodName} {zc : ByteArray} {zm : Nat} {zr : Option FieldType} {rm : Room} {Q' : Option Value → Heap → Prop} {cells' slots' i : Nat} (argsL rest : List Value) {ps : List FieldType} {r : Option FieldType} {a : Addr} (hzi : z.name = "<init>") (hzr : zr = none) (w1 : (Jvm.Cond.methodLink y.cls i z).before a0 Z = true) (w2 : (Jvm.Cond.instanceMethod z).before a0 Z = true) (wi : (Jvm.Cond.initialized z.cls).before a0 Z = true) (wc : (Jvm.Cond.code z zc zm zr).before a0 Z = true) (hy : z.cls ≠ "java/lang/invoke/MethodHandle" ∧ z.cls ≠ "java/lang/invoke/VarHandle") (hK : Con l z zc zm zr rm Z n0 (.ref a :: argsL).toArray h Q') (hpd : parseMethodDescriptor z.desc = some ⟨ps, r⟩) (hlen : argsL.length = ps.length) (hst : st = argsL.reverse ++ .ref a :: rest) (hz : Ls.size = ml) (hc' : cells + rm.cells = cells') (hs' : slots + rm.slots = slots') (hfr : rm.frames + 1 ≤ R.frames := by decide) (hlo : (rest.map fun v => v.category).sum + (zm + 11) + rm.locals ≤ R.locals := by decide) (hc : cells' ≤ R.cells := by decide) (hs : slots' ≤ R.slots := by decide) (hd : decode code pc = .ok (.invokespecial i, 3)) (hp : pc + 3 = pc')
    (k : ∀ v h', Q' v h' → Go l R Z n0 y code ml ret Q cells' slots' h' pc' Ls (v.toList ++ rest)) : Go l R Z n0 y code ml ret Q cells slots h pc Ls st := by
  intro p e s m args below meth c T locs C X N eT
  subst hc' hs' hp hst
  have hold : Old Z n0 h := own_old C.2.2.2.2.2.2.2.2 X N eT
  subst hzr
  obtain ⟨v, _, ⟨T', L', k', n'⟩, -, X', ⟨Lc, hQ, l', y', z'⟩, st⟩ := X.specialBack C.1 (y := z) hzi C.2.2.1 (mvT C.2.1 w1) (mvT C.2.1 w2) (mvT C.2.1 wc) hy (backOf (W := (rest.map fun v => v.category).sum) (Q := fun v h L => Q' v h ∧ Fr n0 L) (hK hold []) C.2.1 wc wi hfr hlo) (g := mkF m pc Ls (argsL.reverse ++ .ref a :: rest)) rfl (by rw [C.2.2.2.2.1]; exact hz) (Steps.refl _) (a := a) (argsL := argsL) (rest := rest) (lenOf hpd hlen) rfl (by simp) (hb C.2.2.2.1 hd) (fun _ _ => ⟨rfl, eT, hc, hs⟩)
  dsimp only [Pt.U, Pt.locs, Pt.cells, Pt.slots] at X' l' y' z' st hQ
  subst l' y' z'
  obtain ⟨s₂, o, h1, h2⟩ := k v _ hQ.1 p e s m args below meth c T' _ C X' (Fr.app N hQ.2) rfl
  exact ⟨s₂, o, st.trans h1, h2⟩
theorem Go.callCN {z : MethodName} {zc : ByteArray} {zm : Nat} {zr : Option FieldType} {rm : Room} {Q' : Option Value → Heap → Prop} {cells' slots' i : Nat} (argsL rest : List Value) {ps : List FieldType} {r : Option FieldType} {a : Addr} {host : String} (hzi : z.name = "<init>") (hzr : zr = none) (w1 : (Jvm.Cond.methodLinkNest y.cls i z host).before a0 Z = true) (w2 : (Jvm.Cond.instanceMethod z).before a0 Z = true) (wi : (Jvm.Cond.initialized z.cls).before a0 Z = true) (wc : (Jvm.Cond.code z zc zm zr).before a0 Z = true) (hy : z.cls ≠ "java/lang/invoke/MethodHandle" ∧ z.cls ≠ "java/lang/invoke/VarHandle") (hK : Con l z zc zm zr rm Z n0 (.ref a :: argsL).toArray h Q') (hpd : parseMethodDescriptor z.desc = some ⟨ps, r⟩) (hlen : argsL.length = ps.length) (hst : st = argsL.reverse ++ .ref a :: rest) (hz : Ls.size = ml) (hc' : cells + rm.cells = cells') (hs' : slots + rm.slots = slots') (hfr : rm.frames + 1 ≤ R.frames := by decide) (hlo : (rest.map fun v => v.category).sum + (zm + 11) + rm.locals ≤ R.locals := by decide) (hc : cells' ≤ R.cells := by decide) (hs : slots' ≤ R.slots := by decide) (hd : decode code pc = .ok (.invokespecial i, 3)) (hp : pc + 3 = pc')
    (k : ∀ v h', Q' v h' → Go l R Z n0 y code ml ret Q cells' slots' h' pc' Ls (v.toList ++ rest)) : Go l R Z n0 y code ml ret Q cells slots h pc Ls st := by
  intro p e s m args below meth c T locs C X N eT
  subst hc' hs' hp hst
  have hold : Old Z n0 h := own_old C.2.2.2.2.2.2.2.2 X N eT
  subst hzr
  obtain ⟨v, _, ⟨T', L', k', n'⟩, -, X', ⟨Lc, hQ, l', y', z'⟩, st⟩ := X.specialBackNest C.1 (y := z) hzi C.2.2.1 ((Cond.methodLinkNest_wide C.2.1 w1 :)) (mvT C.2.1 w2) (mvT C.2.1 wc) hy (backOf (W := (rest.map fun v => v.category).sum) (Q := fun v h L => Q' v h ∧ Fr n0 L) (hK hold []) C.2.1 wc wi hfr hlo) (g := mkF m pc Ls (argsL.reverse ++ .ref a :: rest)) rfl (by rw [C.2.2.2.2.1]; exact hz) (Steps.refl _) (a := a) (argsL := argsL) (rest := rest) (lenOf hpd hlen) rfl (by simp) (hb C.2.2.2.1 hd) (fun _ _ => ⟨rfl, eT, hc, hs⟩)
  dsimp only [Pt.U, Pt.locs, Pt.cells, Pt.slots] at X' l' y' z' st hQ
  subst l' y' z'
  obtain ⟨s₂, o, h1, h2⟩ := k v _ hQ.1 p e s m args below meth c T' _ C X' (Fr.app N hQ.2) rfl
  exact ⟨s₂, o, st.trans h1, h2⟩
theorem Go.callV {z : MethodName} {zc : ByteArray} {zm : Nat} {zr : Option FieldType} {rm : Room} {Q' : Option Value → Heap → Prop} {cells' slots' i : Nat} (argsL rest : List Value) {ps : List FieldType} {r : Option FieldType} {a : Addr} {x' : MethodName} {C' : String} (E : Exa Z h a C') (w1 : (Jvm.Cond.methodLink y.cls i x').before a0 Z = true) (w2 : (Jvm.Cond.declares x').before a0 Z = true) (nf : ∀ s' : State, Z.Warmed39 s'.vm → NotFace s' x') (w3 : (Jvm.Cond.selects C' x' z).before a0 Z = true) (w4 : (Jvm.Cond.instanceMethod z).before a0 Z = true) (wi : (Jvm.Cond.initialized z.cls).before a0 Z = true) (wc : (Jvm.Cond.code z zc zm zr).before a0 Z = true) (hy : x'.cls ≠ "java/lang/invoke/MethodHandle" ∧ x'.cls ≠ "java/lang/invoke/VarHandle") (hK : Con l z zc zm zr rm Z n0 (.ref a :: argsL).toArray h Q') (hpd : parseMethodDescriptor x'.desc = some ⟨ps, r⟩) (hlen : argsL.length = ps.length) (hst : st = argsL.reverse ++ .ref a :: rest) (hz : Ls.size = ml) (hc' : cells + rm.cells = cells') (hs' : slots + rm.slots = slots') (hfr : rm.frames + 1 ≤ R.frames := by decide) (hlo : (rest.map fun v => v.category).sum + (zm + 11) + rm.locals ≤ R.locals := by decide) (hc : cells' ≤ R.cells := by decide) (hs : slots' ≤ R.slots := by decide) (hd : decode code pc = .ok (.invokevirtual i, 3)) (hp : pc + 3 = pc')
    (k : ∀ v h', Q' v h' → Go l R Z n0 y code ml ret Q cells' slots' h' pc' Ls (v.toList ++ rest)) : Go l R Z n0 y code ml ret Q cells slots h pc Ls st := by
  intro p e s m args below meth c T locs C X N eT
  subst hc' hs' hp hst
  have hold : Old Z n0 h := own_old C.2.2.2.2.2.2.2.2 X N eT
  obtain ⟨cq, kq, qa, qb, qc⟩ := isOf C.2.1 eT E
  obtain ⟨v, _, ⟨T', L', k', n'⟩, -, X', ⟨Lc, hQ, l', y', z'⟩, st⟩ := X.virtualBack C.1 (y := x') (z := z) C.2.2.1 (mvT C.2.1 w1) (mvT C.2.1 w2) (nf s C.2.1) (mvT C.2.1 w3) (mvT C.2.1 w4) hy (backOf (W := (rest.map fun v => v.category).sum) (Q := fun v h L => Q' v h ∧ Fr n0 L) (hK hold []) C.2.1 wc wi hfr hlo) qa qc (g := mkF m pc Ls (argsL.reverse ++ .ref a :: rest)) rfl (by rw [C.2.2.2.2.1]; exact hz) (Steps.refl _) (argsL := argsL) (rest := rest) (lenOf hpd hlen) rfl (by simp) (hb C.2.2.2.1 hd) (fun _ _ => ⟨rfl, eT, hc, hs⟩)
  dsimp only [Pt.U, Pt.locs, Pt.cells, Pt.slots] at X' l' y' z' st hQ
  subst l' y' z'
  obtain ⟨s₂, o, h1, h2⟩ := k v _ hQ.1 p e s m args below meth c T' _ C X' (Fr.app N hQ.2) rfl
  exact ⟨s₂, o, st.trans h1, h2⟩
theorem Go.callU {z : MethodName} {zc : ByteArray} {zm : Nat} {zr : Option FieldType} {rm : Room} {Q' : Option Value → Heap → Prop} {cells' slots' i : Nat} (argsL rest : List Value) {ps : List FieldType} {r : Option FieldType} {a : Addr} {x' : MethodName} {C' owner : String} (E : Exa Z h a C') (w1 : (Jvm.Cond.methodLink y.cls i x').before a0 Z = true) (w2 : (Jvm.Cond.sameMethod x'.cls owner x'.name x'.desc).before a0 Z = true) (w5 : (Jvm.Cond.declares ⟨owner, x'.name, x'.desc⟩).before a0 Z = true) (w3 : (Jvm.Cond.selects C' x' z).before a0 Z = true) (w4 : (Jvm.Cond.instanceMethod z).before a0 Z = true) (wi : (Jvm.Cond.initialized z.cls).before a0 Z = true) (wc : (Jvm.Cond.code z zc zm zr).before a0 Z = true) (hy : owner ≠ "java/lang/invoke/MethodHandle" ∧ owner ≠ "java/lang/invoke/VarHandle") (hK : Con l z zc zm zr rm Z n0 (.ref a :: argsL).toArray h Q') (hpd : parseMethodDescriptor x'.desc = some ⟨ps, r⟩) (hlen : argsL.length = ps.length) (hst : st = argsL.reverse ++ .ref a :: rest) (hz : Ls.size = ml) (hc' : cells + rm.cells = cells') (hs' : slots + rm.slots = slots') (hfr : rm.frames + 1 ≤ R.frames := by decide) (hlo : (rest.map fun v => v.category).sum + (zm + 11) + rm.locals ≤ R.locals := by decide) (hc : cells' ≤ R.cells := by decide) (hs : slots' ≤ R.slots := by decide) (hd : decode code pc = .ok (.invokevirtual i, 3)) (hp : pc + 3 = pc')
    (k : ∀ v h', Q' v h' → Go l R Z n0 y code ml ret Q cells' slots' h' pc' Ls (v.toList ++ rest)) : Go l R Z n0 y code ml ret Q cells slots h pc Ls st := by
  intro p e s m args below meth c T locs C X N eT
  subst hc' hs' hp hst
  have hold : Old Z n0 h := own_old C.2.2.2.2.2.2.2.2 X N eT
  obtain ⟨cq, kq, qa, qb, qc⟩ := isOf C.2.1 eT E
  obtain ⟨v, _, ⟨T', L', k', n'⟩, -, X', ⟨Lc, hQ, l', y', z'⟩, st⟩ := X.virtualBackUp C.1 (x := x') (y := z) C.2.2.1 (mvT C.2.1 w1) (mvT C.2.1 w2) (mvT C.2.1 w5) hy (mvT C.2.1 w3) (mvT C.2.1 w4) (backOf (W := (rest.map fun v => v.category).sum) (Q := fun v h L => Q' v h ∧ Fr n0 L) (hK hold []) C.2.1 wc wi hfr hlo) qa qc (g := mkF m pc Ls (argsL.reverse ++ .ref a :: rest)) rfl (by rw [C.2.2.2.2.1]; exact hz) (Steps.refl _) (argsL := argsL) (rest := rest) (lenOf hpd hlen) rfl (by simp) (hb C.2.2.2.1 hd) (fun _ _ => ⟨rfl, eT, hc, hs⟩)
  dsimp only [Pt.U, Pt.locs, Pt.cells, Pt.slots] at X' l' y' z' st hQ
  subst l' y' z'
  obtain ⟨s₂, o, h1, h2⟩ := k v _ hQ.1 p e s m args below meth c T' _ C X' (Fr.app N hQ.2) rfl
  exact ⟨s₂, o, st.trans h1, h2⟩
theorem Go.callP {z : MethodName} {zc : ByteArray} {zm : Nat} {zr : Option FieldType} {rm : Room} {Q' : Option Value → Heap → Prop} {cells' slots' i : Nat} (argsL rest : List Value) {ps : List FieldType} {r : Option FieldType} {a : Addr} {C' : String} (E : Exa Z h a C') (w1 : (Jvm.Cond.methodLink y.cls i z).before a0 Z = true) (w2 : (Jvm.Cond.instanceMethod z).before a0 Z = true) (w3 : (Jvm.Cond.selects z.cls z z).before a0 Z = true) (w4 : (Jvm.Cond.privateMethod z).before a0 Z = true) (wi : (Jvm.Cond.initialized z.cls).before a0 Z = true) (wc : (Jvm.Cond.code z zc zm zr).before a0 Z = true) (hy : z.cls ≠ "java/lang/invoke/MethodHandle" ∧ z.cls ≠ "java/lang/invoke/VarHandle") (hK : Con l z zc zm zr rm Z n0 (.ref a :: argsL).toArray h Q') (hpd : parseMethodDescriptor z.desc = some ⟨ps, r⟩) (hlen : argsL.length = ps.length) (hst : st = argsL.reverse ++ .ref a :: rest) (hz : Ls.size = ml) (hc' : cells + rm.cells = cells') (hs' : slots + rm.slots = slots') (hfr : rm.frames + 1 ≤ R.frames := by decide) (hlo : (rest.map fun v => v.category).sum + (zm + 11) + rm.locals ≤ R.locals := by decide) (hc : cells' ≤ R.cells := by decide) (hs : slots' ≤ R.slots := by decide) (hd : decode code pc = .ok (.invokevirtual i, 3)) (hp : pc + 3 = pc')
    (k : ∀ v h', Q' v h' → Go l R Z n0 y code ml ret Q cells' slots' h' pc' Ls (v.toList ++ rest)) : Go l R Z n0 y code ml ret Q cells slots h pc Ls st := by
  intro p e s m args below meth c T locs C X N eT
  subst hc' hs' hp hst
  have hold : Old Z n0 h := own_old C.2.2.2.2.2.2.2.2 X N eT
  obtain ⟨cq, qa, qb⟩ := E.cell
  obtain ⟨v, _, ⟨T', L', k', n'⟩, -, X', ⟨Lc, hQ, l', y', z'⟩, st⟩ := X.privateBack C.1 (y := z) C.2.2.1 (mvT C.2.1 w1) (mvT C.2.1 w2) (mvT C.2.1 w3) (Cond.privateMethod_at (mvP C.2.1 w4 (args := #[]))) (mvT C.2.1 wc) hy (backOf (W := (rest.map fun v => v.category).sum) (Q := fun v h L => Q' v h ∧ Fr n0 L) (hK hold []) C.2.1 wc wi hfr hlo) (g := mkF m pc Ls (argsL.reverse ++ .ref a :: rest)) rfl (by rw [C.2.2.2.2.1]; exact hz) (Steps.refl _) (a := a) (by rw [eT]; exact qa) qb (argsL := argsL) (rest := rest) (lenOf hpd hlen) rfl (by simp) (hb C.2.2.2.1 hd) (fun _ _ => ⟨rfl, eT, hc, hs⟩)
  dsimp only [Pt.U, Pt.locs, Pt.cells, Pt.slots] at X' l' y' z' st hQ
  subst l' y' z'
  obtain ⟨s₂, o, h1, h2⟩ := k v _ hQ.1 p e s m args below meth c T' _ C X' (Fr.app N hQ.2) rfl
  exact ⟨s₂, o, st.trans h1, h2⟩
theorem Go.callI {z : MethodName} {zc : ByteArray} {zm : Nat} {zr : Option FieldType} {rm : Room} {Q' : Option Value → Heap → Prop} {cells' slots' i : Nat} (argsL rest : List Value) {ps : List FieldType} {r : Option FieldType} {a : Addr} {x' : MethodName} {C' : String} {cnt : Nat} (E : Exa Z h a C') (w1 : (Jvm.Cond.methodLink y.cls i x').before a0 Z = true) (w2 : (Jvm.Cond.declares x').before a0 Z = true) (w3 : (Jvm.Cond.interfaceMethod x'.cls x'.cls x'.name x'.desc).before a0 Z = true) (w4 : (Jvm.Cond.selects C' x' z).before a0 Z = true) (w5 : (Jvm.Cond.instanceMethod z).before a0 Z = true) (w6 : (Jvm.Cond.publicMethod z).before a0 Z = true) (w7 : (Jvm.Cond.unhidden C' x'.name x'.desc).before a0 Z = true) (w8 : (Jvm.Cond.castable C' x'.cls).before a0 Z = true) (wi : (Jvm.Cond.initialized z.cls).before a0 Z = true) (wc : (Jvm.Cond.code z zc zm zr).before a0 Z = true) (hy : x'.cls ≠ "java/lang/invoke/MethodHandle" ∧ x'.cls ≠ "java/lang/invoke/VarHandle") (hK : Con l z zc zm zr rm Z n0 (.ref a :: argsL).toArray h Q') (hpd : parseMethodDescriptor x'.desc = some ⟨ps, r⟩) (hlen : argsL.length = ps.length) (hst : st = argsL.reverse ++ .ref a :: rest) (hz : Ls.size = ml) (hc' : cells + rm.cells = cells') (hs' : slots + rm.slots = slots') (hfr : rm.frames + 1 ≤ R.frames := by decide) (hlo : (rest.map fun v => v.category).sum + (zm + 11) + rm.locals ≤ R.locals := by decide) (hc : cells' ≤ R.cells := by decide) (hs : slots' ≤ R.slots := by decide) (hd : decode code pc = .ok (.invokeinterface i cnt, 5)) (hp : pc + 5 = pc')
    (k : ∀ v h', Q' v h' → Go l R Z n0 y code ml ret Q cells' slots' h' pc' Ls (v.toList ++ rest)) : Go l R Z n0 y code ml ret Q cells slots h pc Ls st := by
  intro p e s m args below meth c T locs C X N eT
  subst hc' hs' hp hst
  have hold : Old Z n0 h := own_old C.2.2.2.2.2.2.2.2 X N eT
  obtain ⟨cq, kq, qa, qb, qc⟩ := isOf C.2.1 eT E
  obtain ⟨v, _, ⟨T', L', k', n'⟩, -, X', ⟨Lc, hQ, l', y', z'⟩, st⟩ := X.interfaceBack C.1 (xi := x') (y := z) C.2.2.1 (mvT C.2.1 w1) (mvT C.2.1 w2) (mvT C.2.1 w3 (hd := by simp [Cond.onTables, Cond.keepsFace, Cond.keeps, Cond.steady, Cond.faceAtom]; exact hy)) (mvT C.2.1 w4) (mvT C.2.1 w5) (mvT C.2.1 w6) (mvT C.2.1 w7) (mvT C.2.1 w8) hy (backOf (W := (rest.map fun v => v.category).sum) (Q := fun v h L => Q' v h ∧ Fr n0 L) (hK hold []) C.2.1 wc wi hfr hlo) qa qb qc (g := mkF m pc Ls (argsL.reverse ++ .ref a :: rest)) rfl (by rw [C.2.2.2.2.1]; exact hz) (Steps.refl _) (argsL := argsL) (rest := rest) (lenOf hpd hlen) rfl (by simp) (hb C.2.2.2.1 hd) (fun _ _ => ⟨rfl, eT, hc, hs⟩)
  dsimp only [Pt.U, Pt.locs, Pt.cells, Pt.slots] at X' l' y' z' st hQ
  subst l' y' z'
  obtain ⟨s₂, o, h1, h2⟩ := k v _ hQ.1 p e s m args below meth c T' _ C X' (Fr.app N hQ.2) rfl
  exact ⟨s₂, o, st.trans h1, h2⟩
end Rules
end Jvm.OwnGo
namespace Jvm.OwnNum
theorem mask (x m : Int32) (hm : 0 ≤ m.toInt) : 0 ≤ (x &&& m).toInt ∧ (x &&& m).toInt ≤ m.toInt := by
  have e : ∀ z : Int32, z.toInt = z.toBitVec.toInt := fun _ => rfl
  have hb : (x &&& m).toBitVec = x.toBitVec &&& m.toBitVec := rfl
  rw [e] at hm
  rw [e (x &&& m), e m, hb]
  have h1 : 2 * m.toBitVec.toNat < 2 ^ 32 := by
    rw [BitVec.toInt_eq_toNat_cond] at hm
    split at hm
    · assumption
    · have := m.toBitVec.isLt; omega
  have h2 : (x.toBitVec &&& m.toBitVec).toNat ≤ m.toBitVec.toNat := by
    rw [BitVec.toNat_and]; exact Nat.and_le_right
  rw [BitVec.toInt_eq_toNat_of_lt (x := m.toBitVec) h1, BitVec.toInt_eq_toNat_of_lt (x := x.toBitVec &&& m.toBitVec) (by omega)]
  omega
theorem modr (y k : Int32) (hy : 0 ≤ y.toInt) (hk : 0 < k.toInt) : 0 ≤ (y % k).toInt ∧ (y % k).toInt < k.toInt := by
  rw [Int32.toInt_mod]
  exact ⟨Int.tmod_nonneg _ hy, Int.tmod_lt_of_pos _ hk⟩
theorem maskmod (x k : Int32) (hk : 0 < k.toInt) : 0 ≤ ((x &&& 2147483647) % k).toInt ∧ ((x &&& 2147483647) % k).toInt < k.toInt := modr _ k (mask x 2147483647 (by decide)).1 hk
theorem eqI {a k : Int32} (h : a.toInt = k.toInt) : a = k := Int32.toInt_inj.mp h
end Jvm.OwnNum
namespace Jvm.OwnNum
theorem lremE (x y : Int64) : x - (x / y) * y = x % y := by
  apply Int64.toInt_inj.mp
  rw [Int64.toInt_mod, Int64.toInt_sub, Int64.toInt_mul, Int64.toInt_div]
  have h := Int.mul_tdiv_add_tmod x.toInt y.toInt
  have e : (x.toInt - ((x.toInt.tdiv y.toInt).bmod (2^64) * y.toInt).bmod (2^64)).bmod (2^64) = (x.toInt - (x.toInt.tdiv y.toInt * y.toInt)).bmod (2^64) := by
    simp
  rw [e]
  have q : x.toInt - x.toInt.tdiv y.toInt * y.toInt = x.toInt.tmod y.toInt := by
    rw [Int.mul_comm]; omega
  rw [q]
  have h1 := Int64.le_toInt (x % y)
  have h2 := Int64.toInt_lt (x % y)
  rw [Int64.toInt_mod] at h1 h2
  exact Int.bmod_eq_of_le_mul_two (by omega) (by omega)
theorem mask64 (x m : Int64) (hm : 0 ≤ m.toInt) : 0 ≤ (x &&& m).toInt ∧ (x &&& m).toInt ≤ m.toInt := by
  have e : ∀ z : Int64, z.toInt = z.toBitVec.toInt := fun _ => rfl
  have hb : (x &&& m).toBitVec = x.toBitVec &&& m.toBitVec := rfl
  rw [e] at hm
  rw [e (x &&& m), e m, hb]
  have h1 : 2 * m.toBitVec.toNat < 2 ^ 64 := by
    rw [BitVec.toInt_eq_toNat_cond] at hm
    split at hm
    · assumption
    · have := m.toBitVec.isLt; omega
  have h2 : (x.toBitVec &&& m.toBitVec).toNat ≤ m.toBitVec.toNat := by
    rw [BitVec.toNat_and]; exact Nat.and_le_right
  rw [BitVec.toInt_eq_toNat_of_lt (x := m.toBitVec) h1, BitVec.toInt_eq_toNat_of_lt (x := x.toBitVec &&& m.toBitVec) (by omega)]
  omega
theorem maskmod64 (x m k : Int64) (hm : 0 ≤ m.toInt) (hk : 0 < k.toInt) : 0 ≤ ((x &&& m) - ((x &&& m) / k) * k).toInt ∧ ((x &&& m) - ((x &&& m) / k) * k).toInt < k.toInt := by
  rw [lremE, Int64.toInt_mod]
  exact ⟨Int.tmod_nonneg _ (mask64 x m hm).1, Int.tmod_lt_of_pos _ hk⟩
theorem narrowI (x : Int64) (h1 : 0 ≤ x.toInt) (h2 : x.toInt < 2147483648) : x.toInt32.toInt = x.toInt := by
  rw [Int64.toInt_toInt32]
  exact Int.bmod_eq_of_le_mul_two (by omega) (by omega)
theorem lmod5 (x : Int64) : 0 ≤ (((x &&& (9223372036854775807 : Int64)) - ((x &&& (9223372036854775807 : Int64)) / (5 : Int64)) * (5 : Int64)).toInt32).toInt ∧ (((x &&& (9223372036854775807 : Int64)) - ((x &&& (9223372036854775807 : Int64)) / (5 : Int64)) * (5 : Int64)).toInt32).toInt < 5 := by
  have h := maskmod64 x 9223372036854775807 5 (by decide) (by decide)
  have e5 : (5 : Int64).toInt = 5 := by decide
  rw [e5] at h
  rw [narrowI _ h.1 (by omega)]
  exact h
end Jvm.OwnNum
namespace Jvm.OwnGo
open Jvm Jvm.ClassFile Sem Op Lib Jvm.Free Jvm.Stand Jvm.LawKit Jvm.RoadKit
section Sheet
variable {args : Array Value} {s : State} {t : Term} {a : Addr}
theorem own_eqI {k : Int32} (h : (Jvm.Cond.eq t (.int k)).value args s none s [] = some true) : t.eval args s none [] s = some (.int k) := by
  simp only [Cond.value, Term.eval] at h
  cases ht : t.eval args s none [] s with
  | none => simp [ht] at h
  | some x => cases x <;> simp [ht] at h ⊢; exact h
theorem own_eqJ {k : Int64} (h : (Jvm.Cond.eq t (.long k)).value args s none s [] = some true) : t.eval args s none [] s = some (.long k) := by
  simp only [Cond.value, Term.eval] at h
  cases ht : t.eval args s none [] s with
  | none => simp [ht] at h
  | some x => cases x <;> simp [ht] at h ⊢; exact h
theorem own_eqR {u : Term} {b : Addr} (hu : u.eval args s none [] s = some (.ref b)) (h : (Jvm.Cond.eq t u).value args s none s [] = some true) : t.eval args s none [] s = some (.ref b) := by
  simp only [Cond.value, hu] at h
  cases ht : t.eval args s none [] s with
  | none => simp [ht] at h
  | some x => cases x <;> simp [ht] at h ⊢; exact h
theorem own_fld {C n d : String} {v : Value} (ht : t.eval args s none [] s = some (.ref a)) (h : (Term.field t C n d).eval args s none [] s = some v) : Jvm.RoadKit.Fld s s.heap a C n d v :=
  Fld.start (by rw [← fld_at (C := C) (n := n) (dd := d) ht]; exact h)
theorem own_arr {ty : FieldType} {n : Int32} (ev : t.eval args s none [] s = some (.ref a)) (hx : (Jvm.Cond.arrayOf t ty).value args s none s [] = some true) (hl : (Term.length t).eval args s none [] s = some (.int n)) :
    ∃ c, Arr s s.heap a c ty ∧ c.slots.size < 2 ^ 31 ∧ c.slots.size.toInt32 = n := by
  obtain ⟨c, A⟩ := Arr.start ev hx
  have e := A.fin (Vm.Alike.refl _)
  refine ⟨c, A, ?_⟩
  simp only [Term.eval, ev, Option.bind_eq_bind, Option.bind_some, e] at hl
  split at hl
  · rename_i q; exact ⟨q, by simpa using hl⟩
  · cases hl
theorem own_elem {ty : FieldType} {j : Int32} {c : Cell} {v : Value} (ev : t.eval args s none [] s = some (.ref a)) (A : Arr s s.heap a c ty) (hj : ¬ j < 0) (h : (Term.elem t (.int j)).eval args s none [] s = some v) : c.slots[j.toNatClampNeg]? = some v := by
  rw [elem_f ev (Term.int_eval j) (A.fin (Vm.Alike.refl _)) hj] at h; exact h
end Sheet
end Jvm.OwnGo
namespace Jvm.OwnGo
open Jvm Jvm.ClassFile Sem Op Lib Jvm.Free Jvm.Stand Jvm.LawKit Jvm.RoadKit
theorem own_arvAny {s : State} {a : Addr} {c : Cell} {ty : FieldType} {n : Int32} {dv : Value} (hf : Fit s) (A : Arr s s.heap a c ty) (q : c.slots.size < 2 ^ 31) (e : c.slots.size.toInt32 = n) (hn : ¬ n < 0) : Jvm.RoadKit.Arv s s.heap a c.cls ty n c.slots.toList dv := by
  have S : c.slots.size = n.toNatClampNeg := by rw [← e]; simp only [Int32.toNatClampNeg, len_toInt q]; rfl
  have H : Has c c.slots.toList dv := fun k hk => by simp [List.getD_eq_getElem?_getD, hk]
  refine ⟨c, A, rfl, S, hn, H, fun j hj => ?_⟩
  have hi := idx_in hj q
  obtain ⟨v, h1, h2⟩ := elem_fit hf A hi
  have ej : (j.toInt32).toNatClampNeg = j := by
    simp only [Int32.toNatClampNeg, len_toInt (Nat.lt_trans hj q)]; rfl
  rw [ej, H j hj] at h1
  cases h1
  exact h2
end Jvm.OwnGo
namespace Jvm.OwnGo
open Jvm Jvm.ClassFile Sem Op Lib Jvm.Free Jvm.Stand Jvm.LawKit Jvm.RoadKit
theorem own_eqV {args : Array Value} {s : State} {t u : Term} {idx : List Nat} {k : Int32} (hu : u.eval args s none idx s = some (.int k)) (h : (Jvm.Cond.eq t u).value args s none s idx = some true) : t.eval args s none idx s = some (.int k) := by
  simp only [Cond.value, hu] at h
  cases ht : t.eval args s none idx s with
  | none => simp [ht] at h
  | some x => cases x <;> simp [ht] at h ⊢; exact h
theorem own_static_idx {args : Array Value} {s : State} {C n d : String} {v : Value} (h : (Term.static C n d).eval args s none [] s = some v) (idx : List Nat) : (Term.static C n d).eval args s none idx s = some v := by
  simp only [Term.eval] at h ⊢; exact h
theorem own_i128 (i : Int32) (h1 : ¬ i < -128) (h2 : ¬ 127 < i) : ¬ i + 128 < 0 ∧ i + 128 < 256 ∧ (i + 128).toNatClampNeg < 256 := by
  rw [Int32.lt_iff_toInt_lt] at h1 h2
  have e1 : (-128 : Int32).toInt = -128 := by decide
  have e2 : (127 : Int32).toInt = 127 := by decide
  have e3 : (128 : Int32).toInt = 128 := by decide
  rw [e1] at h1; rw [e2] at h2
  have e : (i + 128).toInt = i.toInt + 128 := by
    rw [Int32.toInt_add, e3]; exact Int.bmod_eq_of_le_mul_two (by omega) (by omega)
  refine ⟨?_, ?_, ?_⟩
  · rw [Int32.lt_iff_toInt_lt, e]; have : (0 : Int32).toInt = 0 := by decide
    omega
  · rw [Int32.lt_iff_toInt_lt, e]; have : (256 : Int32).toInt = 256 := by decide
    omega
  · simp only [Int32.toNatClampNeg, e]; omega
theorem own_cache {args : Array Value} {s : State} {a : Addr} {c : Cell} {ct : Term} (ev : ∀ idx, ct.eval args s none idx s = some (.ref a)) (A : Arr s s.heap a c (.object "java/lang/Integer")) (hsz : c.slots.size < 2 ^ 31) (hn : c.slots.size.toInt32 = 256)
    (hall : (Jvm.Cond.all ct (.and (.exactly (.elem ct (.index 0)) "java/lang/Integer") (.eq (.field (.elem ct (.index 0)) "java/lang/Integer" "value" "I") (.sub (.index 0) (.int 128))))).value args s none s [] = some true) :
    ∀ i : Int32, ¬ i < -128 → ¬ 127 < i → ∃ w, c.slots.toList.getD (i + 128).toNatClampNeg .null = .ref w ∧ Jvm.RoadKit.Exa s s.heap w "java/lang/Integer" ∧ Jvm.RoadKit.Fld s s.heap w "java/lang/Integer" "value" "I" (.int i) := by
  intro i h1 h2
  obtain ⟨b1, b2, b3⟩ := own_i128 i h1 h2
  have hat := A.fin (Vm.Alike.refl _)
  have S : c.slots.size = 256 := by
    have : c.slots.size = (256 : Int32).toNatClampNeg := by rw [← hn]; simp only [Int32.toNatClampNeg, len_toInt hsz]; rfl
    rw [this]; decide
  have q := Cond.all_elim (ev []) hat hall (i + 128).toNatClampNeg (by rw [S]; exact b3)
  obtain ⟨q1, q2⟩ := and_e q
  have ei : (Term.index 0).eval args s none [(i + 128).toNatClampNeg] s = some (.int (i + 128)) := idx_at b1
  obtain ⟨w, ew⟩ := exa_v q1
  have ew' := ew
  rw [elem_f (ev _) ei hat b1] at ew'
  have es : (Term.sub (.index 0) (.int 128)).eval args s none [(i + 128).toNatClampNeg] s = some (.int i) := by
    have e0 : i + 128 - 128 = i := by
      rw [Int32.sub_eq_add_neg, Int32.add_assoc]; simp
    have e1 := (back32 b1).1
    simp [Term.eval, e1, e0]
  have ef := own_eqV es q2
  refine ⟨w, ?_, exa_at ew q1, Fld.start ?_⟩
  · rw [List.getD_eq_getElem?_getD, Array.getElem?_toList, ew']; rfl
  · rw [← fld_at (C := "java/lang/Integer") (n := "value") (dd := "I") ew]; exact ef
end Jvm.OwnGo
namespace Jvm.OwnGo
open Jvm Jvm.ClassFile Sem Op Lib Jvm.Free Jvm.Stand Jvm.LawKit Jvm.RoadKit
theorem own_nroot {Z : State} {a0 : Array Value} {O K : String} {n : Nat} (w : (Jvm.Cond.noSuperclass O).before a0 Z = true) (wk : (Jvm.Cond.instantiable K n).before a0 Z = true) (hn : O ≠ K) : NS Z O K := by
  obtain ⟨c, k, h1, h2, h3, -, -⟩ := Cond.noSuperclass_spec w
  obtain ⟨t, kt, g1, -⟩ := Cond.instantiable_spec wk
  have ne := ids_ne h1 g1 hn
  refine ⟨c, t, h1, g1, fun fuel => ?_⟩
  cases fuel with
  | zero => rfl
  | succ f => simp [Vm.isSubclassAux, ne, h2, h3]
theorem own_nno {Z : State} {a0 : Array Value} {C S K : String} {n : Nat} (w : (Jvm.Cond.superclass C S).before a0 Z = true) (wk : (Jvm.Cond.instantiable K n).before a0 Z = true) (nn : NS Z C K) (hn : C ≠ K) : ∃ c t, Z.vm.findClass C = some c ∧ Z.vm.findClass K = some t ∧ Z.vm.assignable c t = false := by
  obtain ⟨c, t, h0, g0, n3⟩ := nn
  obtain ⟨p, k, kp, h1, h2, h3, h4, h5, -, h7⟩ := Cond.superclass_spec h0 w
  obtain ⟨t', kt, g1, g2, g3, g4, -⟩ := Cond.instantiable_spec wk
  cases g0.symm.trans g1
  have gi : kt.isInterface = false := by
    cases q : kt.isInterface with
    | false => rfl
    | true => simp [q] at g4
  have ne := ids_ne h0 g0 hn
  refine ⟨c, t, h0, g0, ?_⟩
  show Z.vm.assignableAux (255 + 1) c t = false
  simp [Vm.assignableAux, ne, h2, g2, h5, g3, gi, Vm.isSubclass, n3]
end Jvm.OwnGo
namespace Jvm.Pilot.@@N@@
open Jvm Jvm.ClassFile Sem Op Lib Jvm.Free Jvm.Stand Jvm.LawKit Jvm.RoadKit Bundle Jvm.OwnGo Jvm.Pilot.@@N@@.Jvm.D
theorem own_mod5 (x : Int32) : (x &&& (2147483647 : Int32)) % (5 : Int32) = (0 : Int32) ∨ (x &&& (2147483647 : Int32)) % (5 : Int32) = (1 : Int32) ∨ (x &&& (2147483647 : Int32)) % (5 : Int32) = (2 : Int32) ∨ (x &&& (2147483647 : Int32)) % (5 : Int32) = (3 : Int32) ∨ (x &&& (2147483647 : Int32)) % (5 : Int32) = (4 : Int32) := by
  obtain ⟨h1, h2⟩ := OwnNum.maskmod x 5 (by decide)
  have e : (5 : Int32).toInt = 5 := by decide
  have e' : (4 : Int32).toInt = 4 := by decide
  generalize (x &&& (2147483647 : Int32)) % (5 : Int32) = z at h1 h2 ⊢
  have q : z.toInt = 0 ∨ z.toInt = 1 ∨ z.toInt = 2 ∨ z.toInt = 3 ∨ z.toInt = 4 := by omega
  rcases q with q | q | q | q | q
  · exact Or.inl (OwnNum.eqI (q.trans (by decide)))
  · exact Or.inr (Or.inl (OwnNum.eqI (q.trans (by decide))))
  · exact Or.inr (Or.inr (Or.inl (OwnNum.eqI (q.trans (by decide)))))
  · exact Or.inr (Or.inr (Or.inr (Or.inl (OwnNum.eqI (q.trans (by decide))))))
  · exact Or.inr (Or.inr (Or.inr (Or.inr ((OwnNum.eqI (q.trans (by decide)))))))
theorem own_mod3 (x : Int32) : (x &&& (2147483647 : Int32)) % (3 : Int32) = (0 : Int32) ∨ (x &&& (2147483647 : Int32)) % (3 : Int32) = (1 : Int32) ∨ (x &&& (2147483647 : Int32)) % (3 : Int32) = (2 : Int32) := by
  obtain ⟨h1, h2⟩ := OwnNum.maskmod x 3 (by decide)
  have e : (3 : Int32).toInt = 3 := by decide
  have e' : (2 : Int32).toInt = 2 := by decide
  generalize (x &&& (2147483647 : Int32)) % (3 : Int32) = z at h1 h2 ⊢
  have q : z.toInt = 0 ∨ z.toInt = 1 ∨ z.toInt = 2 := by omega
  rcases q with q | q | q
  · exact Or.inl (OwnNum.eqI (q.trans (by decide)))
  · exact Or.inr (Or.inl (OwnNum.eqI (q.trans (by decide))))
  · exact Or.inr (Or.inr ((OwnNum.eqI (q.trans (by decide)))))
theorem d1_0 : decode prog_31_method_1_code 0 = .ok (.aload_n 0, 1) := by decide +kernel
theorem d1_1 : decode prog_31_method_1_code 1 = .ok (.invokespecial 1, 3) := by decide +kernel
theorem d1_4 : decode prog_31_method_1_code 4 = .ok (.return_, 1) := by decide +kernel
theorem pn_0 : plainName "com/example/inquire/inquire/index/PageCounts" = true := by first | (simp [plainName, overriddenIn]; done) | decide +kernel
set_option maxRecDepth 65536 in
set_option maxHeartbeats 4000000 in
theorem c_init (l : Launch) (Z : State) (a0 : Array Value) (hw : ∀ d ∈ tables_1, d.before a0 Z = true) {n0 : Nat} (h : Heap) (a : Addr) :
    Con l (⟨"com/example/inquire/inquire/index/PageCounts", "<init>", "()V"⟩ : MethodName) prog_31_method_1_code 1 none ({ frames := 1, cells := 0, slots := 0, locals := 12 } : Room) Z n0 #[(.ref a)] h (fun v h' => v = none ∧ h = h') := by
  refine Con.of_go (plainFor_of_name pn_0) (Ls := #[.val (.ref a)]) (fun m => by first | (simp [entryFrame, mkF, argsToLocals, Value.category]; done) | rfl) ?_
  refine Go.aloadN (pc' := 1) d1_0 rfl rfl rfl ?_
  refine Go.initO (pc' := 4) (hw _ (List.mem_of_getElem? (i := 8) rfl)) (hw _ (List.mem_of_getElem? (i := 9) rfl)) (hw _ (List.mem_of_getElem? (i := 10) rfl)) d1_1 rfl (Nat.le_of_ble_eq_true rfl) (Nat.le_of_ble_eq_true rfl) rfl ?_
  exact Go.retV rfl d1_4 ⟨rfl, rfl⟩ (by decide) (by decide)
theorem d3_0 : decode prog_31_method_3_code 0 = .ok (.aload_n 0, 1) := by decide +kernel
theorem d3_1 : decode prog_31_method_3_code 1 = .ok (.getfield 19, 3) := by decide +kernel
theorem d3_4 : decode prog_31_method_3_code 4 = .ok (.lreturn, 1) := by decide +kernel
set_option maxRecDepth 65536 in
set_option maxHeartbeats 4000000 in
theorem c_get0 (l : Launch) (Z : State) (a0 : Array Value) (hw : ∀ d ∈ tables_1, d.before a0 Z = true) {n0 : Nat} (h : Heap) (a : Addr) (x : Int64) (f : Fld Z h a "com/example/inquire/inquire/index/PageCounts" "articles" "J" (.long x)) :
    Con l (⟨"com/example/inquire/inquire/index/PageCounts", "getArticles", "()J"⟩ : MethodName) prog_31_method_3_code 1 (some .long) ({ frames := 0, cells := 0, slots := 0, locals := 0 } : Room) Z n0 #[(.ref a)] h (fun v h' => v = some (.long x) ∧ h = h') := by
  refine Con.of_go (plainFor_of_name pn_0) (Ls := #[.val (.ref a)]) (fun m => by first | (simp [entryFrame, mkF, argsToLocals, Value.category]; done) | rfl) ?_
  refine Go.aloadN (pc' := 1) d3_0 rfl rfl rfl ?_
  refine Go.getfield (pc' := 4) (host := "") (Or.inl (hw _ (List.mem_of_getElem? (i := 16) rfl))) Via.refl f d3_1 rfl ?_
  exact Go.retJ rfl d3_4 ⟨rfl, rfl⟩ (by decide) (by decide)
theorem d4_0 : decode prog_31_method_4_code 0 = .ok (.aload_n 0, 1) := by decide +kernel
theorem d4_1 : decode prog_31_method_4_code 1 = .ok (.getfield 25, 3) := by decide +kernel
theorem d4_4 : decode prog_31_method_4_code 4 = .ok (.lreturn, 1) := by decide +kernel
set_option maxRecDepth 65536 in
set_option maxHeartbeats 4000000 in
theorem c_get1 (l : Launch) (Z : State) (a0 : Array Value) (hw : ∀ d ∈ tables_1, d.before a0 Z = true) {n0 : Nat} (h : Heap) (a : Addr) (x : Int64) (f : Fld Z h a "com/example/inquire/inquire/index/PageCounts" "redirects" "J" (.long x)) :
    Con l (⟨"com/example/inquire/inquire/index/PageCounts", "getRedirects", "()J"⟩ : MethodName) prog_31_method_4_code 1 (some .long) ({ frames := 0, cells := 0, slots := 0, locals := 0 } : Room) Z n0 #[(.ref a)] h (fun v h' => v = some (.long x) ∧ h = h') := by
  refine Con.of_go (plainFor_of_name pn_0) (Ls := #[.val (.ref a)]) (fun m => by first | (simp [entryFrame, mkF, argsToLocals, Value.category]; done) | rfl) ?_
  refine Go.aloadN (pc' := 1) d4_0 rfl rfl rfl ?_
  refine Go.getfield (pc' := 4) (host := "") (Or.inl (hw _ (List.mem_of_getElem? (i := 23) rfl))) Via.refl f d4_1 rfl ?_
  exact Go.retJ rfl d4_4 ⟨rfl, rfl⟩ (by decide) (by decide)
theorem d5_0 : decode prog_31_method_5_code 0 = .ok (.aload_n 0, 1) := by decide +kernel
theorem d5_1 : decode prog_31_method_5_code 1 = .ok (.getfield 28, 3) := by decide +kernel
theorem d5_4 : decode prog_31_method_5_code 4 = .ok (.lreturn, 1) := by decide +kernel
set_option maxRecDepth 65536 in
set_option maxHeartbeats 4000000 in
theorem c_get2 (l : Launch) (Z : State) (a0 : Array Value) (hw : ∀ d ∈ tables_1, d.before a0 Z = true) {n0 : Nat} (h : Heap) (a : Addr) (x : Int64) (f : Fld Z h a "com/example/inquire/inquire/index/PageCounts" "other" "J" (.long x)) :
    Con l (⟨"com/example/inquire/inquire/index/PageCounts", "getOther", "()J"⟩ : MethodName) prog_31_method_5_code 1 (some .long) ({ frames := 0, cells := 0, slots := 0, locals := 0 } : Room) Z n0 #[(.ref a)] h (fun v h' => v = some (.long x) ∧ h = h') := by
  refine Con.of_go (plainFor_of_name pn_0) (Ls := #[.val (.ref a)]) (fun m => by first | (simp [entryFrame, mkF, argsToLocals, Value.category]; done) | rfl) ?_
  refine Go.aloadN (pc' := 1) d5_0 rfl rfl rfl ?_
  refine Go.getfield (pc' := 4) (host := "") (Or.inl (hw _ (List.mem_of_getElem? (i := 30) rfl))) Via.refl f d5_1 rfl ?_
  exact Go.retJ rfl d5_4 ⟨rfl, rfl⟩ (by decide) (by decide)
theorem d7_0 : decode method_2_code 0 = .ok (.iload_n 0, 1) := by decide +kernel
theorem d7_1 : decode method_2_code 1 = .ok (.ldc 7, 2) := by decide +kernel
theorem d7_3 : decode method_2_code 3 = .ok (.iand, 1) := by decide +kernel
theorem d7_4 : decode method_2_code 4 = .ok (.iconst 3, 1) := by decide +kernel
theorem d7_5 : decode method_2_code 5 = .ok (.irem, 1) := by decide +kernel
theorem d7_6 : decode method_2_code 6 = .ok (.ireturn, 1) := by decide +kernel
theorem pn_1 : plainName "com/example/inquire/inquire/index/PageCountsCountPinLaw" = true := by first | (simp [plainName, overriddenIn]; done) | decide +kernel
set_option maxRecDepth 65536 in
set_option maxHeartbeats 4000000 in
theorem c_pick (l : Launch) (Z : State) (a0 : Array Value) (hw : ∀ d ∈ tables_1, d.before a0 Z = true) {n0 : Nat} (h : Heap) (k : Int32) :
    Con l (⟨"com/example/inquire/inquire/index/PageCountsCountPinLaw", "pick", "(I)I"⟩ : MethodName) method_2_code 1 (some .int) ({ frames := 0, cells := 0, slots := 0, locals := 0 } : Room) Z n0 #[(.int k)] h (fun v h' => v = some (.int ((k &&& (2147483647 : Int32)) % (3 : Int32))) ∧ h = h') := by
  refine Con.of_go (plainFor_of_name pn_1) (Ls := #[.val (.int k)]) (fun m => by first | (simp [entryFrame, mkF, argsToLocals, Value.category]; done) | rfl) ?_
  refine Go.iloadN (pc' := 1) d7_0 rfl rfl ?_
  refine Go.ldcI (pc' := 3) (hw _ (List.mem_of_getElem? (i := 0) rfl)) d7_1 rfl ?_
  refine Go.iand (pc' := 4) d7_3 rfl ?_
  refine Go.iconst (pc' := 5) (v := (3 : Int32)) d7_4 rfl rfl ?_
  refine Go.irem (pc' := 6) d7_5 (by decide) rfl ?_
  exact Go.retI rfl d7_6 ⟨rfl, rfl⟩ (by decide) (by decide)
theorem d8_0 : decode method_3_code 0 = .ok (.iload_n 0, 1) := by decide +kernel
theorem d8_1 : decode method_3_code 1 = .ok (.ifCond .ne 7, 3) := by decide +kernel
theorem d8_4 : decode method_3_code 4 = .ok (.getstatic 8, 3) := by decide +kernel
theorem d8_7 : decode method_3_code 7 = .ok (.areturn, 1) := by decide +kernel
set_option maxRecDepth 65536 in
set_option maxHeartbeats 4000000 in
theorem c_kind0 (l : Launch) (Z : State) (a0 : Array Value) (hw : ∀ d ∈ tables_1, d.before a0 Z = true) {n0 : Nat} (h : Heap) (w0 : Addr) (s0 : Sta Z Z.heap "com/example/inquire/inquire/io/Page$Kind" "ARTICLE" "Lcom/example/inquire/inquire/io/Page$Kind;" (.ref w0)) :
    Con l (⟨"com/example/inquire/inquire/index/PageCountsCountPinLaw", "kindOf", "(I)Lcom/example/inquire/inquire/io/Page$Kind;"⟩ : MethodName) method_3_code 1 (some (.object "com/example/inquire/inquire/io/Page$Kind")) ({ frames := 0, cells := 0, slots := 0, locals := 0 } : Room) Z n0 #[(.int (0 : Int32))] h (fun v h' => v = some (.ref w0) ∧ h = h') := by
  refine Con.of_go (plainFor_of_name pn_1) (Ls := #[.val (.int (0 : Int32))]) (fun m => by first | (simp [entryFrame, mkF, argsToLocals, Value.category]; done) | rfl) ?_
  refine Go.iloadN (pc' := 1) d8_0 rfl rfl ?_
  refine Go.ifNo (pc' := 4) d8_1 (XT.i0_ne_f (by decide)) rfl ?_
  refine Go.old (fun old1 => ?_)
  refine Go.getstatic (pc' := 7) (host := "") (Or.inl (hw _ (List.mem_of_getElem? (i := 62) rfl))) Via.refl (s0.ext old1.2) d8_4 rfl ?_
  exact Go.retR rfl rfl rfl rfl d8_7 ⟨rfl, rfl⟩ (by decide) (by decide)
theorem d8_8 : decode method_3_code 8 = .ok (.iload_n 0, 1) := by decide +kernel
theorem d8_9 : decode method_3_code 9 = .ok (.iconst 1, 1) := by decide +kernel
theorem d8_10 : decode method_3_code 10 = .ok (.if_icmp .ne 7, 3) := by decide +kernel
theorem d8_13 : decode method_3_code 13 = .ok (.getstatic 14, 3) := by decide +kernel
theorem d8_16 : decode method_3_code 16 = .ok (.areturn, 1) := by decide +kernel
set_option maxRecDepth 65536 in
set_option maxHeartbeats 4000000 in
theorem c_kind1 (l : Launch) (Z : State) (a0 : Array Value) (hw : ∀ d ∈ tables_1, d.before a0 Z = true) {n0 : Nat} (h : Heap) (w1 : Addr) (s1 : Sta Z Z.heap "com/example/inquire/inquire/io/Page$Kind" "REDIRECT" "Lcom/example/inquire/inquire/io/Page$Kind;" (.ref w1)) :
    Con l (⟨"com/example/inquire/inquire/index/PageCountsCountPinLaw", "kindOf", "(I)Lcom/example/inquire/inquire/io/Page$Kind;"⟩ : MethodName) method_3_code 1 (some (.object "com/example/inquire/inquire/io/Page$Kind")) ({ frames := 0, cells := 0, slots := 0, locals := 0 } : Room) Z n0 #[(.int (1 : Int32))] h (fun v h' => v = some (.ref w1) ∧ h = h') := by
  refine Con.of_go (plainFor_of_name pn_1) (Ls := #[.val (.int (1 : Int32))]) (fun m => by first | (simp [entryFrame, mkF, argsToLocals, Value.category]; done) | rfl) ?_
  refine Go.iloadN (pc' := 1) d8_0 rfl rfl ?_
  refine Go.ifYes (pc' := 8) d8_1 (XT.i0_ne_t (by decide)) (by decide) (by decide) ?_
  refine Go.iloadN (pc' := 9) d8_8 rfl rfl ?_
  refine Go.iconst (pc' := 10) (v := (1 : Int32)) d8_9 rfl rfl ?_
  refine Go.icmpNo (pc' := 13) d8_10 (XT.ii_ne_f (by decide)) rfl ?_
  refine Go.old (fun old1 => ?_)
  refine Go.getstatic (pc' := 16) (host := "") (Or.inl (hw _ (List.mem_of_getElem? (i := 42) rfl))) Via.refl (s1.ext old1.2) d8_13 rfl ?_
  exact Go.retR rfl rfl rfl rfl d8_16 ⟨rfl, rfl⟩ (by decide) (by decide)
theorem d8_17 : decode method_3_code 17 = .ok (.getstatic 17, 3) := by decide +kernel
theorem d8_20 : decode method_3_code 20 = .ok (.areturn, 1) := by decide +kernel
set_option maxRecDepth 65536 in
set_option maxHeartbeats 4000000 in
theorem c_kind2 (l : Launch) (Z : State) (a0 : Array Value) (hw : ∀ d ∈ tables_1, d.before a0 Z = true) {n0 : Nat} (h : Heap) (w2 : Addr) (s2 : Sta Z Z.heap "com/example/inquire/inquire/io/Page$Kind" "OTHER" "Lcom/example/inquire/inquire/io/Page$Kind;" (.ref w2)) :
    Con l (⟨"com/example/inquire/inquire/index/PageCountsCountPinLaw", "kindOf", "(I)Lcom/example/inquire/inquire/io/Page$Kind;"⟩ : MethodName) method_3_code 1 (some (.object "com/example/inquire/inquire/io/Page$Kind")) ({ frames := 0, cells := 0, slots := 0, locals := 0 } : Room) Z n0 #[(.int (2 : Int32))] h (fun v h' => v = some (.ref w2) ∧ h = h') := by
  refine Con.of_go (plainFor_of_name pn_1) (Ls := #[.val (.int (2 : Int32))]) (fun m => by first | (simp [entryFrame, mkF, argsToLocals, Value.category]; done) | rfl) ?_
  refine Go.iloadN (pc' := 1) d8_0 rfl rfl ?_
  refine Go.ifYes (pc' := 8) d8_1 (XT.i0_ne_t (by decide)) (by decide) (by decide) ?_
  refine Go.iloadN (pc' := 9) d8_8 rfl rfl ?_
  refine Go.iconst (pc' := 10) (v := (1 : Int32)) d8_9 rfl rfl ?_
  refine Go.icmpYes (pc' := 17) d8_10 (XT.ii_ne_t (by decide)) (by decide) (by decide) ?_
  refine Go.old (fun old1 => ?_)
  refine Go.getstatic (pc' := 20) (host := "") (Or.inl (hw _ (List.mem_of_getElem? (i := 64) rfl))) Via.refl (s2.ext old1.2) d8_17 rfl ?_
  exact Go.retR rfl rfl rfl rfl d8_20 ⟨rfl, rfl⟩ (by decide) (by decide)
theorem d10_0 : decode jdk_37_method_2_code 0 = .ok (.aload_n 0, 1) := by decide +kernel
theorem d10_1 : decode jdk_37_method_2_code 1 = .ok (.getfield 7, 3) := by decide +kernel
theorem d10_4 : decode jdk_37_method_2_code 4 = .ok (.ireturn, 1) := by decide +kernel
theorem pn_2 : plainName "java/lang/Enum" = true := by first | (simp [plainName, overriddenIn]; done) | decide +kernel
set_option maxRecDepth 65536 in
set_option maxHeartbeats 4000000 in
theorem c_ord (l : Launch) (Z : State) (a0 : Array Value) (hw : ∀ d ∈ tables_1, d.before a0 Z = true) {n0 : Nat} (h : Heap) (a : Addr) (n : Int32) (f : Fld Z Z.heap a "java/lang/Enum" "ordinal" "I" (.int n)) :
    Con l (⟨"java/lang/Enum", "ordinal", "()I"⟩ : MethodName) jdk_37_method_2_code 1 (some .int) ({ frames := 0, cells := 0, slots := 0, locals := 0 } : Room) Z n0 #[(.ref a)] h (fun v h' => v = some (.int n) ∧ h = h') := by
  refine Con.of_go (plainFor_of_name pn_2) (Ls := #[.val (.ref a)]) (fun m => by first | (simp [entryFrame, mkF, argsToLocals, Value.category]; done) | rfl) ?_
  refine Go.aloadN (pc' := 1) d10_0 rfl rfl rfl ?_
  refine Go.old (fun old1 => ?_)
  refine Go.getfield (pc' := 4) (host := "") (Or.inl (hw _ (List.mem_of_getElem? (i := 60) rfl))) Via.refl (f.ext old1.2) d10_1 rfl ?_
  exact Go.retI rfl d10_4 ⟨rfl, rfl⟩ (by decide) (by decide)
theorem d9_0 : decode prog_31_method_2_code 0 = .ok (.getstatic 7, 3) := by decide +kernel
theorem d9_3 : decode prog_31_method_2_code 3 = .ok (.aload_n 1, 1) := by decide +kernel
theorem d9_4 : decode prog_31_method_2_code 4 = .ok (.invokevirtual 13, 3) := by decide +kernel
theorem d9_7 : decode prog_31_method_2_code 7 = .ok (.iaload, 1) := by decide +kernel
theorem d9_8 : decode prog_31_method_2_code 8 = .ok (.tableswitch 64 1 3 #[28, 41, 54], 28) := by decide +kernel
theorem d9_36 : decode prog_31_method_2_code 36 = .ok (.aload_n 0, 1) := by decide +kernel
theorem d9_37 : decode prog_31_method_2_code 37 = .ok (.dup, 1) := by decide +kernel
theorem d9_38 : decode prog_31_method_2_code 38 = .ok (.getfield 19, 3) := by decide +kernel
theorem d9_41 : decode prog_31_method_2_code 41 = .ok (.lconst 1, 1) := by decide +kernel
theorem d9_42 : decode prog_31_method_2_code 42 = .ok (.ladd, 1) := by decide +kernel
theorem d9_43 : decode prog_31_method_2_code 43 = .ok (.putfield 19, 3) := by decide +kernel
theorem d9_46 : decode prog_31_method_2_code 46 = .ok (.goto 26, 3) := by decide +kernel
theorem d9_72 : decode prog_31_method_2_code 72 = .ok (.return_, 1) := by decide +kernel
theorem pd_0 : parseMethodDescriptor "()I" = some ⟨[], some .int⟩ := by decide +kernel
set_option maxRecDepth 65536 in
set_option maxHeartbeats 4000000 in
theorem c_count0 (l : Launch) (Z : State) (a0 : Array Value) (hw : ∀ d ∈ tables_1, d.before a0 Z = true) {n0 : Nat} (h : Heap) (a : Addr) (w0 : Addr) (wm : Addr) (km : ClassId) (x : Int64) (y : Int64) (z : Int64) (x0 : Exa Z Z.heap w0 "com/example/inquire/inquire/io/Page$Kind") (o0 : Fld Z Z.heap w0 "java/lang/Enum" "ordinal" "I" (.int (0 : Int32))) (sm : Sta Z Z.heap "com/example/inquire/inquire/index/PageCounts$1" "$SwitchMap$com$example$inquire$inquire$io$Page$Kind" "[I" (.ref wm)) (vm : Arv Z Z.heap wm km .int (3 : Int32) [(.int 1), (.int 2), (.int 3)] (.int 0)) (ge_a : n0 ≤ a) (e : Exa Z h a "com/example/inquire/inquire/index/PageCounts") (f0 : Fld Z h a "com/example/inquire/inquire/index/PageCounts" "articles" "J" (.long x)) (f1 : Fld Z h a "com/example/inquire/inquire/index/PageCounts" "redirects" "J" (.long y)) (f2 : Fld Z h a "com/example/inquire/inquire/index/PageCounts" "other" "J" (.long z)) :
    Con l (⟨"com/example/inquire/inquire/index/PageCounts", "count", "(Lcom/example/inquire/inquire/io/Page$Kind;)V"⟩ : MethodName) prog_31_method_2_code 2 none ({ frames := 1, cells := 0, slots := 0, locals := 13 } : Room) Z n0 #[(.ref a), (.ref w0)] h (fun v h' => v = none ∧ Keep h h' [a] ∧ Fld Z h' a "com/example/inquire/inquire/index/PageCounts" "articles" "J" (.long (x + (1 : Int64))) ∧ Fld Z h' a "com/example/inquire/inquire/index/PageCounts" "redirects" "J" (.long y) ∧ Fld Z h' a "com/example/inquire/inquire/index/PageCounts" "other" "J" (.long z)) := by
  refine Con.of_go (plainFor_of_name pn_0) (Ls := #[.val (.ref a), .val (.ref w0)]) (fun m => by first | (simp [entryFrame, mkF, argsToLocals, Value.category]; done) | rfl) ?_
  refine Go.old (fun old1 => ?_)
  refine Go.getstatic (pc' := 3) (host := "") (Or.inl (hw _ (List.mem_of_getElem? (i := 50) rfl))) Via.refl (sm.ext old1.2) d9_0 rfl ?_
  refine Go.aloadN (pc' := 4) d9_3 rfl rfl rfl ?_
  refine Go.callU (cells' := 0) (slots' := 0) (pc' := 7) [] [(.ref wm)] (x0.ext old1.2) (hw _ (List.mem_of_getElem? (i := 53) rfl)) (hw _ (List.mem_of_getElem? (i := 54) rfl)) (hw _ (List.mem_of_getElem? (i := 55) rfl)) (hw _ (List.mem_of_getElem? (i := 57) rfl)) (hw _ (List.mem_of_getElem? (i := 56) rfl)) (hw _ (List.mem_of_getElem? (i := 58) rfl)) (hw _ (List.mem_of_getElem? (i := 59) rfl)) (by decide) (c_ord l Z a0 hw h w0 (0 : Int32) o0) pd_0 rfl rfl rfl rfl rfl (Nat.le_of_ble_eq_true rfl) (Nat.le_of_ble_eq_true rfl) (Nat.le_of_ble_eq_true rfl) (Nat.le_of_ble_eq_true rfl) d9_4 rfl ?_
  rintro _ _ ⟨rfl, rfl⟩
  show Go _ _ _ _ _ _ _ _ _ _ _ _ 7 #[.val (.ref a), .val (.ref w0)] [(.int (0 : Int32)), (.ref wm)]
  refine Go.iaload (pc' := 8) (v := (1 : Int32)) (vm.ext old1.2) d9_7 (by decide) (by decide) rfl rfl ?_
  refine Go.tsw (pc' := 36) (o := 28) d9_8 (by decide) (by decide) (by decide) (by decide) ?_
  refine Go.aloadN (pc' := 37) d9_36 rfl rfl rfl ?_
  refine Go.dup (pc' := 38) d9_37 rfl rfl ?_
  refine Go.getfield (pc' := 41) (host := "") (Or.inl (hw _ (List.mem_of_getElem? (i := 16) rfl))) Via.refl f0 d9_38 rfl ?_
  refine Go.lconst (pc' := 42) (v := (1 : Int64)) d9_41 rfl rfl ?_
  refine Go.ladd (pc' := 43) d9_42 rfl ?_
  refine Go.putfield (pc' := 46) (host := "") (Or.inl (hw _ (List.mem_of_getElem? (i := 16) rfl))) Via.refl f0 e (Or.inl (hw _ (List.mem_of_getElem? (i := 17) rfl))) (hw _ (List.mem_of_getElem? (i := 3) rfl)) (ty := .long) (by decide) rfl rfl ge_a d9_43 rfl ?_
  intro h3 W4
  have K5 : Keep h h3 [a] := (Keep.refl h [a]).wr W4 (Or.inl (List.mem_of_getElem? (i := 0) rfl))
  have f6 := f0.same W4
  refine Go.goto (pc' := 72) d9_46 (by decide) (by decide) ?_
  have f7 : Fld Z h3 a "com/example/inquire/inquire/index/PageCounts" "redirects" "J" (.long y) := (f1.other W4 (Or.inr (slot_ne (Or.inl (hw _ (List.mem_of_getElem? (i := 24) rfl))) (Or.inl (hw _ (List.mem_of_getElem? (i := 17) rfl))) (by decide) (t := .long) (t' := .long) (by decide) (by decide))))
  have f8 : Fld Z h3 a "com/example/inquire/inquire/index/PageCounts" "other" "J" (.long z) := (f2.other W4 (Or.inr (slot_ne (Or.inl (hw _ (List.mem_of_getElem? (i := 31) rfl))) (Or.inl (hw _ (List.mem_of_getElem? (i := 17) rfl))) (by decide) (t := .long) (t' := .long) (by decide) (by decide))))
  exact Go.retV rfl d9_72 ⟨rfl, K5, f6, f7, f8⟩ (by decide) (by decide)
theorem d9_49 : decode prog_31_method_2_code 49 = .ok (.aload_n 0, 1) := by decide +kernel
theorem d9_50 : decode prog_31_method_2_code 50 = .ok (.dup, 1) := by decide +kernel
theorem d9_51 : decode prog_31_method_2_code 51 = .ok (.getfield 25, 3) := by decide +kernel
theorem d9_54 : decode prog_31_method_2_code 54 = .ok (.lconst 1, 1) := by decide +kernel
theorem d9_55 : decode prog_31_method_2_code 55 = .ok (.ladd, 1) := by decide +kernel
theorem d9_56 : decode prog_31_method_2_code 56 = .ok (.putfield 25, 3) := by decide +kernel
theorem d9_59 : decode prog_31_method_2_code 59 = .ok (.goto 13, 3) := by decide +kernel
set_option maxRecDepth 65536 in
set_option maxHeartbeats 4000000 in
theorem c_count1 (l : Launch) (Z : State) (a0 : Array Value) (hw : ∀ d ∈ tables_1, d.before a0 Z = true) {n0 : Nat} (h : Heap) (a : Addr) (w1 : Addr) (wm : Addr) (km : ClassId) (x : Int64) (y : Int64) (z : Int64) (x1 : Exa Z Z.heap w1 "com/example/inquire/inquire/io/Page$Kind") (o1 : Fld Z Z.heap w1 "java/lang/Enum" "ordinal" "I" (.int (1 : Int32))) (sm : Sta Z Z.heap "com/example/inquire/inquire/index/PageCounts$1" "$SwitchMap$com$example$inquire$inquire$io$Page$Kind" "[I" (.ref wm)) (vm : Arv Z Z.heap wm km .int (3 : Int32) [(.int 1), (.int 2), (.int 3)] (.int 0)) (ge_a : n0 ≤ a) (e : Exa Z h a "com/example/inquire/inquire/index/PageCounts") (f0 : Fld Z h a "com/example/inquire/inquire/index/PageCounts" "articles" "J" (.long x)) (f1 : Fld Z h a "com/example/inquire/inquire/index/PageCounts" "redirects" "J" (.long y)) (f2 : Fld Z h a "com/example/inquire/inquire/index/PageCounts" "other" "J" (.long z)) :
    Con l (⟨"com/example/inquire/inquire/index/PageCounts", "count", "(Lcom/example/inquire/inquire/io/Page$Kind;)V"⟩ : MethodName) prog_31_method_2_code 2 none ({ frames := 1, cells := 0, slots := 0, locals := 13 } : Room) Z n0 #[(.ref a), (.ref w1)] h (fun v h' => v = none ∧ Keep h h' [a] ∧ Fld Z h' a "com/example/inquire/inquire/index/PageCounts" "articles" "J" (.long x) ∧ Fld Z h' a "com/example/inquire/inquire/index/PageCounts" "redirects" "J" (.long (y + (1 : Int64))) ∧ Fld Z h' a "com/example/inquire/inquire/index/PageCounts" "other" "J" (.long z)) := by
  refine Con.of_go (plainFor_of_name pn_0) (Ls := #[.val (.ref a), .val (.ref w1)]) (fun m => by first | (simp [entryFrame, mkF, argsToLocals, Value.category]; done) | rfl) ?_
  refine Go.old (fun old1 => ?_)
  refine Go.getstatic (pc' := 3) (host := "") (Or.inl (hw _ (List.mem_of_getElem? (i := 50) rfl))) Via.refl (sm.ext old1.2) d9_0 rfl ?_
  refine Go.aloadN (pc' := 4) d9_3 rfl rfl rfl ?_
  refine Go.callU (cells' := 0) (slots' := 0) (pc' := 7) [] [(.ref wm)] (x1.ext old1.2) (hw _ (List.mem_of_getElem? (i := 53) rfl)) (hw _ (List.mem_of_getElem? (i := 54) rfl)) (hw _ (List.mem_of_getElem? (i := 55) rfl)) (hw _ (List.mem_of_getElem? (i := 57) rfl)) (hw _ (List.mem_of_getElem? (i := 56) rfl)) (hw _ (List.mem_of_getElem? (i := 58) rfl)) (hw _ (List.mem_of_getElem? (i := 59) rfl)) (by decide) (c_ord l Z a0 hw h w1 (1 : Int32) o1) pd_0 rfl rfl rfl rfl rfl (Nat.le_of_ble_eq_true rfl) (Nat.le_of_ble_eq_true rfl) (Nat.le_of_ble_eq_true rfl) (Nat.le_of_ble_eq_true rfl) d9_4 rfl ?_
  rintro _ _ ⟨rfl, rfl⟩
  show Go _ _ _ _ _ _ _ _ _ _ _ _ 7 #[.val (.ref a), .val (.ref w1)] [(.int (1 : Int32)), (.ref wm)]
  refine Go.iaload (pc' := 8) (v := (2 : Int32)) (vm.ext old1.2) d9_7 (by decide) (by decide) rfl rfl ?_
  refine Go.tsw (pc' := 49) (o := 41) d9_8 (by decide) (by decide) (by decide) (by decide) ?_
  refine Go.aloadN (pc' := 50) d9_49 rfl rfl rfl ?_
  refine Go.dup (pc' := 51) d9_50 rfl rfl ?_
  refine Go.getfield (pc' := 54) (host := "") (Or.inl (hw _ (List.mem_of_getElem? (i := 23) rfl))) Via.refl f1 d9_51 rfl ?_
  refine Go.lconst (pc' := 55) (v := (1 : Int64)) d9_54 rfl rfl ?_
  refine Go.ladd (pc' := 56) d9_55 rfl ?_
  refine Go.putfield (pc' := 59) (host := "") (Or.inl (hw _ (List.mem_of_getElem? (i := 23) rfl))) Via.refl f1 e (Or.inl (hw _ (List.mem_of_getElem? (i := 24) rfl))) (hw _ (List.mem_of_getElem? (i := 3) rfl)) (ty := .long) (by decide) rfl rfl ge_a d9_56 rfl ?_
  intro h3 W4
  have K5 : Keep h h3 [a] := (Keep.refl h [a]).wr W4 (Or.inl (List.mem_of_getElem? (i := 0) rfl))
  have f6 := f1.same W4
  refine Go.goto (pc' := 72) d9_59 (by decide) (by decide) ?_
  have f7 : Fld Z h3 a "com/example/inquire/inquire/index/PageCounts" "articles" "J" (.long x) := (f0.other W4 (Or.inr (slot_ne (Or.inl (hw _ (List.mem_of_getElem? (i := 17) rfl))) (Or.inl (hw _ (List.mem_of_getElem? (i := 24) rfl))) (by decide) (t := .long) (t' := .long) (by decide) (by decide))))
  have f8 : Fld Z h3 a "com/example/inquire/inquire/index/PageCounts" "other" "J" (.long z) := (f2.other W4 (Or.inr (slot_ne (Or.inl (hw _ (List.mem_of_getElem? (i := 31) rfl))) (Or.inl (hw _ (List.mem_of_getElem? (i := 24) rfl))) (by decide) (t := .long) (t' := .long) (by decide) (by decide))))
  exact Go.retV rfl d9_72 ⟨rfl, K5, f7, f6, f8⟩ (by decide) (by decide)
theorem d9_62 : decode prog_31_method_2_code 62 = .ok (.aload_n 0, 1) := by decide +kernel
theorem d9_63 : decode prog_31_method_2_code 63 = .ok (.dup, 1) := by decide +kernel
theorem d9_64 : decode prog_31_method_2_code 64 = .ok (.getfield 28, 3) := by decide +kernel
theorem d9_67 : decode prog_31_method_2_code 67 = .ok (.lconst 1, 1) := by decide +kernel
theorem d9_68 : decode prog_31_method_2_code 68 = .ok (.ladd, 1) := by decide +kernel
theorem d9_69 : decode prog_31_method_2_code 69 = .ok (.putfield 28, 3) := by decide +kernel
set_option maxRecDepth 65536 in
set_option maxHeartbeats 4000000 in
theorem c_count2 (l : Launch) (Z : State) (a0 : Array Value) (hw : ∀ d ∈ tables_1, d.before a0 Z = true) {n0 : Nat} (h : Heap) (a : Addr) (w2 : Addr) (wm : Addr) (km : ClassId) (x : Int64) (y : Int64) (z : Int64) (x2 : Exa Z Z.heap w2 "com/example/inquire/inquire/io/Page$Kind") (o2 : Fld Z Z.heap w2 "java/lang/Enum" "ordinal" "I" (.int (2 : Int32))) (sm : Sta Z Z.heap "com/example/inquire/inquire/index/PageCounts$1" "$SwitchMap$com$example$inquire$inquire$io$Page$Kind" "[I" (.ref wm)) (vm : Arv Z Z.heap wm km .int (3 : Int32) [(.int 1), (.int 2), (.int 3)] (.int 0)) (ge_a : n0 ≤ a) (e : Exa Z h a "com/example/inquire/inquire/index/PageCounts") (f0 : Fld Z h a "com/example/inquire/inquire/index/PageCounts" "articles" "J" (.long x)) (f1 : Fld Z h a "com/example/inquire/inquire/index/PageCounts" "redirects" "J" (.long y)) (f2 : Fld Z h a "com/example/inquire/inquire/index/PageCounts" "other" "J" (.long z)) :
    Con l (⟨"com/example/inquire/inquire/index/PageCounts", "count", "(Lcom/example/inquire/inquire/io/Page$Kind;)V"⟩ : MethodName) prog_31_method_2_code 2 none ({ frames := 1, cells := 0, slots := 0, locals := 13 } : Room) Z n0 #[(.ref a), (.ref w2)] h (fun v h' => v = none ∧ Keep h h' [a] ∧ Fld Z h' a "com/example/inquire/inquire/index/PageCounts" "articles" "J" (.long x) ∧ Fld Z h' a "com/example/inquire/inquire/index/PageCounts" "redirects" "J" (.long y) ∧ Fld Z h' a "com/example/inquire/inquire/index/PageCounts" "other" "J" (.long (z + (1 : Int64)))) := by
  refine Con.of_go (plainFor_of_name pn_0) (Ls := #[.val (.ref a), .val (.ref w2)]) (fun m => by first | (simp [entryFrame, mkF, argsToLocals, Value.category]; done) | rfl) ?_
  refine Go.old (fun old1 => ?_)
  refine Go.getstatic (pc' := 3) (host := "") (Or.inl (hw _ (List.mem_of_getElem? (i := 50) rfl))) Via.refl (sm.ext old1.2) d9_0 rfl ?_
  refine Go.aloadN (pc' := 4) d9_3 rfl rfl rfl ?_
  refine Go.callU (cells' := 0) (slots' := 0) (pc' := 7) [] [(.ref wm)] (x2.ext old1.2) (hw _ (List.mem_of_getElem? (i := 53) rfl)) (hw _ (List.mem_of_getElem? (i := 54) rfl)) (hw _ (List.mem_of_getElem? (i := 55) rfl)) (hw _ (List.mem_of_getElem? (i := 57) rfl)) (hw _ (List.mem_of_getElem? (i := 56) rfl)) (hw _ (List.mem_of_getElem? (i := 58) rfl)) (hw _ (List.mem_of_getElem? (i := 59) rfl)) (by decide) (c_ord l Z a0 hw h w2 (2 : Int32) o2) pd_0 rfl rfl rfl rfl rfl (Nat.le_of_ble_eq_true rfl) (Nat.le_of_ble_eq_true rfl) (Nat.le_of_ble_eq_true rfl) (Nat.le_of_ble_eq_true rfl) d9_4 rfl ?_
  rintro _ _ ⟨rfl, rfl⟩
  show Go _ _ _ _ _ _ _ _ _ _ _ _ 7 #[.val (.ref a), .val (.ref w2)] [(.int (2 : Int32)), (.ref wm)]
  refine Go.iaload (pc' := 8) (v := (3 : Int32)) (vm.ext old1.2) d9_7 (by decide) (by decide) rfl rfl ?_
  refine Go.tsw (pc' := 62) (o := 54) d9_8 (by decide) (by decide) (by decide) (by decide) ?_
  refine Go.aloadN (pc' := 63) d9_62 rfl rfl rfl ?_
  refine Go.dup (pc' := 64) d9_63 rfl rfl ?_
  refine Go.getfield (pc' := 67) (host := "") (Or.inl (hw _ (List.mem_of_getElem? (i := 30) rfl))) Via.refl f2 d9_64 rfl ?_
  refine Go.lconst (pc' := 68) (v := (1 : Int64)) d9_67 rfl rfl ?_
  refine Go.ladd (pc' := 69) d9_68 rfl ?_
  refine Go.putfield (pc' := 72) (host := "") (Or.inl (hw _ (List.mem_of_getElem? (i := 30) rfl))) Via.refl f2 e (Or.inl (hw _ (List.mem_of_getElem? (i := 31) rfl))) (hw _ (List.mem_of_getElem? (i := 3) rfl)) (ty := .long) (by decide) rfl rfl ge_a d9_69 rfl ?_
  intro h3 W4
  have K5 : Keep h h3 [a] := (Keep.refl h [a]).wr W4 (Or.inl (List.mem_of_getElem? (i := 0) rfl))
  have f6 := f2.same W4
  have f7 : Fld Z h3 a "com/example/inquire/inquire/index/PageCounts" "articles" "J" (.long x) := (f0.other W4 (Or.inr (slot_ne (Or.inl (hw _ (List.mem_of_getElem? (i := 17) rfl))) (Or.inl (hw _ (List.mem_of_getElem? (i := 31) rfl))) (by decide) (t := .long) (t' := .long) (by decide) (by decide))))
  have f8 : Fld Z h3 a "com/example/inquire/inquire/index/PageCounts" "redirects" "J" (.long y) := (f1.other W4 (Or.inr (slot_ne (Or.inl (hw _ (List.mem_of_getElem? (i := 24) rfl))) (Or.inl (hw _ (List.mem_of_getElem? (i := 31) rfl))) (by decide) (t := .long) (t' := .long) (by decide) (by decide))))
  exact Go.retV rfl d9_72 ⟨rfl, K5, f7, f8, f6⟩ (by decide) (by decide)
theorem d6_0 : decode method_4_code 0 = .ok (.iload_n 2, 1) := by decide +kernel
theorem d6_1 : decode method_4_code 1 = .ok (.invokestatic 20, 3) := by decide +kernel
theorem d6_4 : decode method_4_code 4 = .ok (.istore_n 3, 1) := by decide +kernel
theorem d6_5 : decode method_4_code 5 = .ok (.aload_n 0, 1) := by decide +kernel
theorem d6_6 : decode method_4_code 6 = .ok (.iload_n 3, 1) := by decide +kernel
theorem d6_7 : decode method_4_code 7 = .ok (.invokestatic 26, 3) := by decide +kernel
theorem d6_10 : decode method_4_code 10 = .ok (.invokevirtual 30, 3) := by decide +kernel
theorem d6_13 : decode method_4_code 13 = .ok (.aload_n 1, 1) := by decide +kernel
theorem d6_14 : decode method_4_code 14 = .ok (.iload_n 3, 1) := by decide +kernel
theorem d6_15 : decode method_4_code 15 = .ok (.aload_n 1, 1) := by decide +kernel
theorem d6_16 : decode method_4_code 16 = .ok (.iload_n 3, 1) := by decide +kernel
theorem d6_17 : decode method_4_code 17 = .ok (.laload, 1) := by decide +kernel
theorem d6_18 : decode method_4_code 18 = .ok (.lconst 1, 1) := by decide +kernel
theorem d6_19 : decode method_4_code 19 = .ok (.ladd, 1) := by decide +kernel
theorem d6_20 : decode method_4_code 20 = .ok (.lastore, 1) := by decide +kernel
theorem d6_21 : decode method_4_code 21 = .ok (.return_, 1) := by decide +kernel
theorem pd_1 : parseMethodDescriptor "(I)I" = some ⟨[.int], some .int⟩ := by decide +kernel
theorem pd_2 : parseMethodDescriptor "(I)Lcom/example/inquire/inquire/io/Page$Kind;" = some ⟨[.int], some (.object "com/example/inquire/inquire/io/Page$Kind")⟩ := by decide +kernel
theorem pd_3 : parseMethodDescriptor "(Lcom/example/inquire/inquire/io/Page$Kind;)V" = some ⟨[(.object "com/example/inquire/inquire/io/Page$Kind")], none⟩ := by decide +kernel
set_option maxRecDepth 65536 in
set_option maxHeartbeats 4000000 in
theorem c_step (l : Launch) (Z : State) (a0 : Array Value) (hw : ∀ d ∈ tables_1, d.before a0 Z = true) {n0 : Nat} (h : Heap) (a : Addr) (b : Addr) (kb : ClassId) (k : Int32) (x : Int64) (y : Int64) (z : Int64) (w0 : Addr) (w1 : Addr) (w2 : Addr) (wm : Addr) (km : ClassId) (s0 : Sta Z Z.heap "com/example/inquire/inquire/io/Page$Kind" "ARTICLE" "Lcom/example/inquire/inquire/io/Page$Kind;" (.ref w0)) (x0 : Exa Z Z.heap w0 "com/example/inquire/inquire/io/Page$Kind") (o0 : Fld Z Z.heap w0 "java/lang/Enum" "ordinal" "I" (.int (0 : Int32))) (s1 : Sta Z Z.heap "com/example/inquire/inquire/io/Page$Kind" "REDIRECT" "Lcom/example/inquire/inquire/io/Page$Kind;" (.ref w1)) (x1 : Exa Z Z.heap w1 "com/example/inquire/inquire/io/Page$Kind") (o1 : Fld Z Z.heap w1 "java/lang/Enum" "ordinal" "I" (.int (1 : Int32))) (s2 : Sta Z Z.heap "com/example/inquire/inquire/io/Page$Kind" "OTHER" "Lcom/example/inquire/inquire/io/Page$Kind;" (.ref w2)) (x2 : Exa Z Z.heap w2 "com/example/inquire/inquire/io/Page$Kind") (o2 : Fld Z Z.heap w2 "java/lang/Enum" "ordinal" "I" (.int (2 : Int32))) (sm : Sta Z Z.heap "com/example/inquire/inquire/index/PageCounts$1" "$SwitchMap$com$example$inquire$inquire$io$Page$Kind" "[I" (.ref wm)) (vm : Arv Z Z.heap wm km .int (3 : Int32) [(.int 1), (.int 2), (.int 3)] (.int 0)) (ge_a : n0 ≤ a) (ge_b : n0 ≤ b) (ne_a_b : a ≠ b) (e : Exa Z h a "com/example/inquire/inquire/index/PageCounts") (f0 : Fld Z h a "com/example/inquire/inquire/index/PageCounts" "articles" "J" (.long x)) (f1 : Fld Z h a "com/example/inquire/inquire/index/PageCounts" "redirects" "J" (.long y)) (f2 : Fld Z h a "com/example/inquire/inquire/index/PageCounts" "other" "J" (.long z)) (v : Arv Z h b kb .long (3 : Int32) [(.long x), (.long y), (.long z)] (.long 0)) :
    Con l (⟨"com/example/inquire/inquire/index/PageCountsCountPinLaw", "step", "(Lcom/example/inquire/inquire/index/PageCounts;[JI)V"⟩ : MethodName) method_4_code 4 none ({ frames := 2, cells := 0, slots := 0, locals := 26 } : Room) Z n0 #[(.ref a), (.ref b), (.int k)] h (fun v h' => ∃ x2 : Int64, ∃ y2 : Int64, ∃ z2 : Int64, v = none ∧ Keep h h' [a, b] ∧ Fld Z h' a "com/example/inquire/inquire/index/PageCounts" "articles" "J" (.long x2) ∧ Fld Z h' a "com/example/inquire/inquire/index/PageCounts" "redirects" "J" (.long y2) ∧ Fld Z h' a "com/example/inquire/inquire/index/PageCounts" "other" "J" (.long z2) ∧ Arv Z h' b kb .long (3 : Int32) [(.long x2), (.long y2), (.long z2)] (.long 0)) := by
  refine Con.of_go (plainFor_of_name pn_1) (Ls := #[.val (.ref a), .val (.ref b), .val (.int k), .unset]) (fun m => by first | (simp [entryFrame, mkF, argsToLocals, Value.category]; done) | rfl) ?_
  refine Go.iloadN (pc' := 1) d6_0 rfl rfl ?_
  refine Go.callS (cells' := 0) (slots' := 0) (pc' := 4) [(.int k)] [] (hw _ (List.mem_of_getElem? (i := 36) rfl)) (hw _ (List.mem_of_getElem? (i := 37) rfl)) (hw _ (List.mem_of_getElem? (i := 34) rfl)) (hw _ (List.mem_of_getElem? (i := 38) rfl)) (by decide) (c_pick l Z a0 hw h k) pd_1 rfl rfl rfl rfl rfl (Nat.le_of_ble_eq_true rfl) (Nat.le_of_ble_eq_true rfl) (Nat.le_of_ble_eq_true rfl) (Nat.le_of_ble_eq_true rfl) d6_1 rfl ?_
  rintro _ _ ⟨rfl, rfl⟩
  show Go _ _ _ _ _ _ _ _ _ _ _ _ 4 #[.val (.ref a), .val (.ref b), .val (.int k), .unset] [(.int ((k &&& (2147483647 : Int32)) % (3 : Int32)))]
  refine Go.istoreN (pc' := 5) (Ls' := #[.val (.ref a), .val (.ref b), .val (.int k), .val (.int ((k &&& (2147483647 : Int32)) % (3 : Int32)))]) d6_4 rfl rfl ?_
  obtain hk2 | hk2 | hk2 := own_mod3 k
  ·
    rw [hk2]
    refine Go.aloadN (pc' := 6) d6_5 rfl rfl rfl ?_
    refine Go.iloadN (pc' := 7) d6_6 rfl rfl ?_
    refine Go.callS (cells' := 0) (slots' := 0) (pc' := 10) [(.int (0 : Int32))] [(.ref a)] (hw _ (List.mem_of_getElem? (i := 39) rfl)) (hw _ (List.mem_of_getElem? (i := 40) rfl)) (hw _ (List.mem_of_getElem? (i := 34) rfl)) (hw _ (List.mem_of_getElem? (i := 41) rfl)) (by decide) (c_kind0 l Z a0 hw h w0 s0) pd_2 rfl rfl rfl rfl rfl (Nat.le_of_ble_eq_true rfl) (Nat.le_of_ble_eq_true rfl) (Nat.le_of_ble_eq_true rfl) (Nat.le_of_ble_eq_true rfl) d6_7 rfl ?_
    rintro _ _ ⟨rfl, rfl⟩
    show Go _ _ _ _ _ _ _ _ _ _ _ _ 10 #[.val (.ref a), .val (.ref b), .val (.int k), .val (.int (0 : Int32))] [(.ref w0), (.ref a)]
    refine Go.callV (cells' := 0) (slots' := 0) (pc' := 13) [(.ref w0)] [] e (hw _ (List.mem_of_getElem? (i := 45) rfl)) (hw _ (List.mem_of_getElem? (i := 46) rfl)) (fun s' hs' => notFace_of_selects (args := #[]) (mvT hs' (hw _ (List.mem_of_getElem? (i := 48) rfl)))) (hw _ (List.mem_of_getElem? (i := 48) rfl)) (hw _ (List.mem_of_getElem? (i := 47) rfl)) (hw _ (List.mem_of_getElem? (i := 4) rfl)) (hw _ (List.mem_of_getElem? (i := 49) rfl)) (by decide) (c_count0 l Z a0 hw h a w0 wm km x y z x0 o0 sm vm ge_a e f0 f1 f2) pd_3 rfl rfl rfl rfl rfl (Nat.le_of_ble_eq_true rfl) (Nat.le_of_ble_eq_true rfl) (Nat.le_of_ble_eq_true rfl) (Nat.le_of_ble_eq_true rfl) d6_10 rfl ?_
    rintro _ h4 ⟨rfl, K4, F4_0, F4_1, F4_2⟩
    have K5 : Keep h h4 [a, b] := (Keep.refl h [a, b]).trans K4 (allS (Or.inl (List.mem_of_getElem? (i := 0) rfl)) all0)
    show Go _ _ _ _ _ _ _ _ _ _ _ _ 13 #[.val (.ref a), .val (.ref b), .val (.int k), .val (.int (0 : Int32))] []
    refine Go.aloadN (pc' := 14) d6_13 rfl rfl rfl ?_
    refine Go.iloadN (pc' := 15) d6_14 rfl rfl ?_
    refine Go.aloadN (pc' := 16) d6_15 rfl rfl rfl ?_
    refine Go.iloadN (pc' := 17) d6_16 rfl rfl ?_
    refine Go.laload (pc' := 18) (v := x) (v.keep K4 (ninS (Ne.symm ne_a_b) nin0)) d6_17 (by decide) (by decide) rfl rfl ?_
    refine Go.lconst (pc' := 19) (v := (1 : Int64)) d6_18 rfl rfl ?_
    refine Go.ladd (pc' := 20) d6_19 rfl ?_
    refine Go.lastore (pc' := 21) (v.keep K4 (ninS (Ne.symm ne_a_b) nin0)) ge_b d6_20 (by decide) (by decide) (i := 0) rfl (Nat.le_of_ble_eq_true rfl) rfl ?_
    intro h6 W7 V8
    have K9 : Keep h h6 [a, b] := K5.wr W7 (Or.inl (List.mem_of_getElem? (i := 1) rfl))
    replace V8 : Arv Z h6 b kb .long (3 : Int32) [(.long (x + (1 : Int64))), (.long y), (.long z)] (.long 0) := V8
    exact Go.retV rfl d6_21 ⟨(x + (1 : Int64)), y, z, rfl, K9, (F4_0.other W7 (Or.inl ne_a_b)), (F4_1.other W7 (Or.inl ne_a_b)), (F4_2.other W7 (Or.inl ne_a_b)), V8⟩ (by decide) (by decide)
  ·
    rw [hk2]
    refine Go.aloadN (pc' := 6) d6_5 rfl rfl rfl ?_
    refine Go.iloadN (pc' := 7) d6_6 rfl rfl ?_
    refine Go.callS (cells' := 0) (slots' := 0) (pc' := 10) [(.int (1 : Int32))] [(.ref a)] (hw _ (List.mem_of_getElem? (i := 39) rfl)) (hw _ (List.mem_of_getElem? (i := 40) rfl)) (hw _ (List.mem_of_getElem? (i := 34) rfl)) (hw _ (List.mem_of_getElem? (i := 41) rfl)) (by decide) (c_kind1 l Z a0 hw h w1 s1) pd_2 rfl rfl rfl rfl rfl (Nat.le_of_ble_eq_true rfl) (Nat.le_of_ble_eq_true rfl) (Nat.le_of_ble_eq_true rfl) (Nat.le_of_ble_eq_true rfl) d6_7 rfl ?_
    rintro _ _ ⟨rfl, rfl⟩
    show Go _ _ _ _ _ _ _ _ _ _ _ _ 10 #[.val (.ref a), .val (.ref b), .val (.int k), .val (.int (1 : Int32))] [(.ref w1), (.ref a)]
    refine Go.callV (cells' := 0) (slots' := 0) (pc' := 13) [(.ref w1)] [] e (hw _ (List.mem_of_getElem? (i := 45) rfl)) (hw _ (List.mem_of_getElem? (i := 46) rfl)) (fun s' hs' => notFace_of_selects (args := #[]) (mvT hs' (hw _ (List.mem_of_getElem? (i := 48) rfl)))) (hw _ (List.mem_of_getElem? (i := 48) rfl)) (hw _ (List.mem_of_getElem? (i := 47) rfl)) (hw _ (List.mem_of_getElem? (i := 4) rfl)) (hw _ (List.mem_of_getElem? (i := 49) rfl)) (by decide) (c_count1 l Z a0 hw h a w1 wm km x y z x1 o1 sm vm ge_a e f0 f1 f2) pd_3 rfl rfl rfl rfl rfl (Nat.le_of_ble_eq_true rfl) (Nat.le_of_ble_eq_true rfl) (Nat.le_of_ble_eq_true rfl) (Nat.le_of_ble_eq_true rfl) d6_10 rfl ?_
    rintro _ h11 ⟨rfl, K11, F11_0, F11_1, F11_2⟩
    have K12 : Keep h h11 [a, b] := (Keep.refl h [a, b]).trans K11 (allS (Or.inl (List.mem_of_getElem? (i := 0) rfl)) all0)
    show Go _ _ _ _ _ _ _ _ _ _ _ _ 13 #[.val (.ref a), .val (.ref b), .val (.int k), .val (.int (1 : Int32))] []
    refine Go.aloadN (pc' := 14) d6_13 rfl rfl rfl ?_
    refine Go.iloadN (pc' := 15) d6_14 rfl rfl ?_
    refine Go.aloadN (pc' := 16) d6_15 rfl rfl rfl ?_
    refine Go.iloadN (pc' := 17) d6_16 rfl rfl ?_
    have f13 : Arv Z h11 b kb .long (3 : Int32) [(.long x), (.long y), (.long z)] (.long 0) := (v.keep K11 (ninS (Ne.symm ne_a_b) nin0))
    refine Go.laload (pc' := 18) (v := y) f13 d6_17 (by decide) (by decide) rfl rfl ?_
    refine Go.lconst (pc' := 19) (v := (1 : Int64)) d6_18 rfl rfl ?_
    refine Go.ladd (pc' := 20) d6_19 rfl ?_
    refine Go.lastore (pc' := 21) f13 ge_b d6_20 (by decide) (by decide) (i := 1) rfl (Nat.le_of_ble_eq_true rfl) rfl ?_
    intro h14 W15 V16
    have K17 : Keep h h14 [a, b] := K12.wr W15 (Or.inl (List.mem_of_getElem? (i := 1) rfl))
    replace V16 : Arv Z h14 b kb .long (3 : Int32) [(.long x), (.long (y + (1 : Int64))), (.long z)] (.long 0) := V16
    exact Go.retV rfl d6_21 ⟨x, (y + (1 : Int64)), z, rfl, K17, (F11_0.other W15 (Or.inl ne_a_b)), (F11_1.other W15 (Or.inl ne_a_b)), (F11_2.other W15 (Or.inl ne_a_b)), V16⟩ (by decide) (by decide)
  ·
    rw [hk2]
    refine Go.aloadN (pc' := 6) d6_5 rfl rfl rfl ?_
    refine Go.iloadN (pc' := 7) d6_6 rfl rfl ?_
    refine Go.callS (cells' := 0) (slots' := 0) (pc' := 10) [(.int (2 : Int32))] [(.ref a)] (hw _ (List.mem_of_getElem? (i := 39) rfl)) (hw _ (List.mem_of_getElem? (i := 40) rfl)) (hw _ (List.mem_of_getElem? (i := 34) rfl)) (hw _ (List.mem_of_getElem? (i := 41) rfl)) (by decide) (c_kind2 l Z a0 hw h w2 s2) pd_2 rfl rfl rfl rfl rfl (Nat.le_of_ble_eq_true rfl) (Nat.le_of_ble_eq_true rfl) (Nat.le_of_ble_eq_true rfl) (Nat.le_of_ble_eq_true rfl) d6_7 rfl ?_
    rintro _ _ ⟨rfl, rfl⟩
    show Go _ _ _ _ _ _ _ _ _ _ _ _ 10 #[.val (.ref a), .val (.ref b), .val (.int k), .val (.int (2 : Int32))] [(.ref w2), (.ref a)]
    refine Go.callV (cells' := 0) (slots' := 0) (pc' := 13) [(.ref w2)] [] e (hw _ (List.mem_of_getElem? (i := 45) rfl)) (hw _ (List.mem_of_getElem? (i := 46) rfl)) (fun s' hs' => notFace_of_selects (args := #[]) (mvT hs' (hw _ (List.mem_of_getElem? (i := 48) rfl)))) (hw _ (List.mem_of_getElem? (i := 48) rfl)) (hw _ (List.mem_of_getElem? (i := 47) rfl)) (hw _ (List.mem_of_getElem? (i := 4) rfl)) (hw _ (List.mem_of_getElem? (i := 49) rfl)) (by decide) (c_count2 l Z a0 hw h a w2 wm km x y z x2 o2 sm vm ge_a e f0 f1 f2) pd_3 rfl rfl rfl rfl rfl (Nat.le_of_ble_eq_true rfl) (Nat.le_of_ble_eq_true rfl) (Nat.le_of_ble_eq_true rfl) (Nat.le_of_ble_eq_true rfl) d6_10 rfl ?_
    rintro _ h19 ⟨rfl, K19, F19_0, F19_1, F19_2⟩
    have K20 : Keep h h19 [a, b] := (Keep.refl h [a, b]).trans K19 (allS (Or.inl (List.mem_of_getElem? (i := 0) rfl)) all0)
    show Go _ _ _ _ _ _ _ _ _ _ _ _ 13 #[.val (.ref a), .val (.ref b), .val (.int k), .val (.int (2 : Int32))] []
    refine Go.aloadN (pc' := 14) d6_13 rfl rfl rfl ?_
    refine Go.iloadN (pc' := 15) d6_14 rfl rfl ?_
    refine Go.aloadN (pc' := 16) d6_15 rfl rfl rfl ?_
    refine Go.iloadN (pc' := 17) d6_16 rfl rfl ?_
    have f21 : Arv Z h19 b kb .long (3 : Int32) [(.long x), (.long y), (.long z)] (.long 0) := (v.keep K19 (ninS (Ne.symm ne_a_b) nin0))
    refine Go.laload (pc' := 18) (v := z) f21 d6_17 (by decide) (by decide) rfl rfl ?_
    refine Go.lconst (pc' := 19) (v := (1 : Int64)) d6_18 rfl rfl ?_
    refine Go.ladd (pc' := 20) d6_19 rfl ?_
    refine Go.lastore (pc' := 21) f21 ge_b d6_20 (by decide) (by decide) (i := 2) rfl (Nat.le_of_ble_eq_true rfl) rfl ?_
    intro h22 W23 V24
    have K25 : Keep h h22 [a, b] := K20.wr W23 (Or.inl (List.mem_of_getElem? (i := 1) rfl))
    replace V24 : Arv Z h22 b kb .long (3 : Int32) [(.long x), (.long y), (.long (z + (1 : Int64)))] (.long 0) := V24
    exact Go.retV rfl d6_21 ⟨x, y, (z + (1 : Int64)), rfl, K25, (F19_0.other W23 (Or.inl ne_a_b)), (F19_1.other W23 (Or.inl ne_a_b)), (F19_2.other W23 (Or.inl ne_a_b)), V24⟩ (by decide) (by decide)
theorem pd_4 : parseMethodDescriptor "()V" = some ⟨[], none⟩ := by decide +kernel
theorem pd_5 : parseMethodDescriptor "()J" = some ⟨[], some .long⟩ := by decide +kernel
theorem pd_6 : parseMethodDescriptor "(Lcom/example/inquire/inquire/index/PageCounts;[JI)V" = some ⟨[(.object "com/example/inquire/inquire/index/PageCounts"), (.array .long), .int], none⟩ := by decide +kernel
set_option maxRecDepth 65536 in
set_option maxHeartbeats 4000000 in
theorem c_law (l : Launch) (Z : State) (a0 : Array Value) (hw : ∀ d ∈ tables_1, d.before a0 Z = true) {n0 : Nat} (h : Heap) (p0 : Int32) (p1 : Int32) (p2 : Int32) (p3 : Int32) (p4 : Int32) (w0 : Addr) (w1 : Addr) (w2 : Addr) (wm : Addr) (km : ClassId) (s0 : Sta Z Z.heap "com/example/inquire/inquire/io/Page$Kind" "ARTICLE" "Lcom/example/inquire/inquire/io/Page$Kind;" (.ref w0)) (x0 : Exa Z Z.heap w0 "com/example/inquire/inquire/io/Page$Kind") (o0 : Fld Z Z.heap w0 "java/lang/Enum" "ordinal" "I" (.int (0 : Int32))) (s1 : Sta Z Z.heap "com/example/inquire/inquire/io/Page$Kind" "REDIRECT" "Lcom/example/inquire/inquire/io/Page$Kind;" (.ref w1)) (x1 : Exa Z Z.heap w1 "com/example/inquire/inquire/io/Page$Kind") (o1 : Fld Z Z.heap w1 "java/lang/Enum" "ordinal" "I" (.int (1 : Int32))) (s2 : Sta Z Z.heap "com/example/inquire/inquire/io/Page$Kind" "OTHER" "Lcom/example/inquire/inquire/io/Page$Kind;" (.ref w2)) (x2 : Exa Z Z.heap w2 "com/example/inquire/inquire/io/Page$Kind") (o2 : Fld Z Z.heap w2 "java/lang/Enum" "ordinal" "I" (.int (2 : Int32))) (sm : Sta Z Z.heap "com/example/inquire/inquire/index/PageCounts$1" "$SwitchMap$com$example$inquire$inquire$io$Page$Kind" "[I" (.ref wm)) (vm : Arv Z Z.heap wm km .int (3 : Int32) [(.int 1), (.int 2), (.int 3)] (.int 0)) :
    Con l x code maxLocals ret room_1 Z n0 #[(.int p0), (.int p1), (.int p2), (.int p3), (.int p4)] h (fun v h' => v = some (.int (1 : Int32)) ∧ Keep h h' []) := by
  refine Con.of_go (plainFor_of_name pn_1) (Ls := #[.val (.int p0), .val (.int p1), .val (.int p2), .val (.int p3), .val (.int p4), .unset, .unset, .unset]) (fun m => by first | (simp [entryFrame, mkF, argsToLocals, Value.category, maxLocals]; done) | rfl) ?_
  refine Go.iloadN (pc' := 1) at_0 rfl rfl ?_
  refine Go.ldcI (pc' := 3) (hw _ (List.mem_of_getElem? (i := 0) rfl)) at_1 rfl ?_
  refine Go.iand (pc' := 4) at_3 rfl ?_
  refine Go.iconst (pc' := 5) (v := (5 : Int32)) at_4 rfl rfl ?_
  refine Go.irem (pc' := 6) at_5 (by decide) rfl ?_
  refine Go.istore (pc' := 8) (Ls' := #[.val (.int p0), .val (.int p1), .val (.int p2), .val (.int p3), .val (.int p4), .val (.int ((p0 &&& (2147483647 : Int32)) % (5 : Int32))), .unset, .unset]) at_6 rfl rfl ?_
  obtain hk1 | hk1 | hk1 | hk1 | hk1 := own_mod5 p0
  ·
    rw [hk1]
    refine Go.iconst (pc' := 9) (v := (3 : Int32)) at_8 rfl rfl ?_
    refine Go.newarray (pc' := 11) (cells' := 1) (slots' := 3) (cap := 3) (hw _ (List.mem_of_getElem? (i := 1) rfl)) at_9 (ad := "[J") (by decide) (by decide) (by decide) rfl rfl (by decide) (by decide) (by decide) rfl ?_
    intro h2 b2 g2 E2 ge2 kA2 A2 X2
    have sz3 : h.size ≤ b2 := Nat.le_trans (Keep.refl h []).1 (Nat.le_of_eq g2.symm)
    have K4 : Keep h h2 [] := (Keep.refl h []).ext E2
    have V2 : Arv Z h2 b2 kA2 .long (3 : Int32) [(.long 0), (.long 0), (.long 0)] (.long 0) := Arv.pad A2 (pad_rep [] (.long 0) 3)
    refine Go.astore (pc' := 13) (Ls' := #[.val (.int p0), .val (.int p1), .val (.int p2), .val (.int p3), .val (.int p4), .val (.int (0 : Int32)), .val (.ref b2), .unset]) at_11 rfl rfl rfl ?_
    refine Go.new (pc' := 16) (cells' := 2) (slots' := 6) (hw _ (List.mem_of_getElem? (i := 2) rfl)) (hw _ (List.mem_of_getElem? (i := 3) rfl)) (hw _ (List.mem_of_getElem? (i := 4) rfl)) at_13 rfl rfl (by decide) (by decide) rfl ?_
    intro h5 b5 g5 E5 ge5 A5 D5
    have sz6 : h.size ≤ b5 := Nat.le_trans K4.1 (Nat.le_of_eq g5.symm)
    have K7 : Keep h h5 [] := K4.ext E5
    refine Go.dup (pc' := 17) at_16 rfl rfl ?_
    refine Go.callC (cells' := 2) (slots' := 6) (pc' := 20) [] [(.ref b5)] (a := b5) rfl rfl (hw _ (List.mem_of_getElem? (i := 5) rfl)) (hw _ (List.mem_of_getElem? (i := 6) rfl)) (hw _ (List.mem_of_getElem? (i := 4) rfl)) (hw _ (List.mem_of_getElem? (i := 7) rfl)) (by decide) (c_init l Z a0 hw h5 b5) pd_4 rfl rfl rfl rfl rfl (Nat.le_of_ble_eq_true rfl) (Nat.le_of_ble_eq_true rfl) (Nat.le_of_ble_eq_true rfl) (Nat.le_of_ble_eq_true rfl) at_17 rfl ?_
    rintro _ _ ⟨rfl, rfl⟩
    show Go _ _ _ _ _ _ _ _ _ _ _ _ 20 #[.val (.int p0), .val (.int p1), .val (.int p2), .val (.int p3), .val (.int p4), .val (.int (0 : Int32)), .val (.ref b2), .unset] [(.ref b5)]
    refine Go.astore (pc' := 22) (Ls' := #[.val (.int p0), .val (.int p1), .val (.int p2), .val (.int p3), .val (.int p4), .val (.int (0 : Int32)), .val (.ref b2), .val (.ref b5)]) at_20 rfl rfl rfl ?_
    refine Go.iload (pc' := 24) at_22 rfl rfl ?_
    refine Go.iconst (pc' := 25) (v := (1 : Int32)) at_24 rfl rfl ?_
    refine Go.icmpYes (pc' := 36) at_25 (XT.ii_lt_t (by decide)) (by decide) (by decide) ?_
    refine Go.iload (pc' := 38) at_36 rfl rfl ?_
    refine Go.iconst (pc' := 39) (v := (2 : Int32)) at_38 rfl rfl ?_
    refine Go.icmpYes (pc' := 50) at_39 (XT.ii_lt_t (by decide)) (by decide) (by decide) ?_
    refine Go.iload (pc' := 52) at_50 rfl rfl ?_
    refine Go.iconst (pc' := 53) (v := (3 : Int32)) at_52 rfl rfl ?_
    refine Go.icmpYes (pc' := 64) at_53 (XT.ii_lt_t (by decide)) (by decide) (by decide) ?_
    refine Go.iload (pc' := 66) at_64 rfl rfl ?_
    refine Go.iconst (pc' := 67) (v := (4 : Int32)) at_66 rfl rfl ?_
    refine Go.icmpYes (pc' := 79) at_67 (XT.ii_lt_t (by decide)) (by decide) (by decide) ?_
    refine Go.aload (pc' := 81) at_79 rfl rfl rfl ?_
    refine Go.callV (cells' := 2) (slots' := 6) (pc' := 84) [] [] A5 (hw _ (List.mem_of_getElem? (i := 11) rfl)) (hw _ (List.mem_of_getElem? (i := 12) rfl)) (fun s' hs' => notFace_of_selects (args := #[]) (mvT hs' (hw _ (List.mem_of_getElem? (i := 14) rfl)))) (hw _ (List.mem_of_getElem? (i := 14) rfl)) (hw _ (List.mem_of_getElem? (i := 13) rfl)) (hw _ (List.mem_of_getElem? (i := 4) rfl)) (hw _ (List.mem_of_getElem? (i := 15) rfl)) (by decide) (c_get0 l Z a0 hw h5 b5 (0 : Int64) ((D5 (Or.inl (hw _ (List.mem_of_getElem? (i := 17) rfl))) (ty := .long) (by decide) : Fld Z h5 b5 "com/example/inquire/inquire/index/PageCounts" "articles" "J" (.long (0 : Int64))))) pd_5 rfl rfl rfl rfl rfl (Nat.le_of_ble_eq_true rfl) (Nat.le_of_ble_eq_true rfl) (Nat.le_of_ble_eq_true rfl) (Nat.le_of_ble_eq_true rfl) at_81 rfl ?_
    rintro _ _ ⟨rfl, rfl⟩
    show Go _ _ _ _ _ _ _ _ _ _ _ _ 84 #[.val (.int p0), .val (.int p1), .val (.int p2), .val (.int p3), .val (.int p4), .val (.int (0 : Int32)), .val (.ref b2), .val (.ref b5)] [(.long (0 : Int64))]
    refine Go.aload (pc' := 86) at_84 rfl rfl rfl ?_
    refine Go.iconst (pc' := 87) (v := (0 : Int32)) at_86 rfl rfl ?_
    refine Go.laload (pc' := 88) (v := (0 : Int64)) (V2.ext E5) at_87 (by decide) (by decide) rfl rfl ?_
    refine Go.lcmp (pc' := 89) at_88 rfl ?_
    refine Go.ifNo (pc' := 92) at_89 (XT.ll_ne_f (by decide)) rfl ?_
    refine Go.aload (pc' := 94) at_92 rfl rfl rfl ?_
    refine Go.callV (cells' := 2) (slots' := 6) (pc' := 97) [] [] A5 (hw _ (List.mem_of_getElem? (i := 18) rfl)) (hw _ (List.mem_of_getElem? (i := 19) rfl)) (fun s' hs' => notFace_of_selects (args := #[]) (mvT hs' (hw _ (List.mem_of_getElem? (i := 21) rfl)))) (hw _ (List.mem_of_getElem? (i := 21) rfl)) (hw _ (List.mem_of_getElem? (i := 20) rfl)) (hw _ (List.mem_of_getElem? (i := 4) rfl)) (hw _ (List.mem_of_getElem? (i := 22) rfl)) (by decide) (c_get1 l Z a0 hw h5 b5 (0 : Int64) ((D5 (Or.inl (hw _ (List.mem_of_getElem? (i := 24) rfl))) (ty := .long) (by decide) : Fld Z h5 b5 "com/example/inquire/inquire/index/PageCounts" "redirects" "J" (.long (0 : Int64))))) pd_5 rfl rfl rfl rfl rfl (Nat.le_of_ble_eq_true rfl) (Nat.le_of_ble_eq_true rfl) (Nat.le_of_ble_eq_true rfl) (Nat.le_of_ble_eq_true rfl) at_94 rfl ?_
    rintro _ _ ⟨rfl, rfl⟩
    show Go _ _ _ _ _ _ _ _ _ _ _ _ 97 #[.val (.int p0), .val (.int p1), .val (.int p2), .val (.int p3), .val (.int p4), .val (.int (0 : Int32)), .val (.ref b2), .val (.ref b5)] [(.long (0 : Int64))]
    refine Go.aload (pc' := 99) at_97 rfl rfl rfl ?_
    refine Go.iconst (pc' := 100) (v := (1 : Int32)) at_99 rfl rfl ?_
    refine Go.laload (pc' := 101) (v := (0 : Int64)) (V2.ext E5) at_100 (by decide) (by decide) rfl rfl ?_
    refine Go.lcmp (pc' := 102) at_101 rfl ?_
    refine Go.ifNo (pc' := 105) at_102 (XT.ll_ne_f (by decide)) rfl ?_
    refine Go.aload (pc' := 107) at_105 rfl rfl rfl ?_
    refine Go.callV (cells' := 2) (slots' := 6) (pc' := 110) [] [] A5 (hw _ (List.mem_of_getElem? (i := 25) rfl)) (hw _ (List.mem_of_getElem? (i := 26) rfl)) (fun s' hs' => notFace_of_selects (args := #[]) (mvT hs' (hw _ (List.mem_of_getElem? (i := 28) rfl)))) (hw _ (List.mem_of_getElem? (i := 28) rfl)) (hw _ (List.mem_of_getElem? (i := 27) rfl)) (hw _ (List.mem_of_getElem? (i := 4) rfl)) (hw _ (List.mem_of_getElem? (i := 29) rfl)) (by decide) (c_get2 l Z a0 hw h5 b5 (0 : Int64) ((D5 (Or.inl (hw _ (List.mem_of_getElem? (i := 31) rfl))) (ty := .long) (by decide) : Fld Z h5 b5 "com/example/inquire/inquire/index/PageCounts" "other" "J" (.long (0 : Int64))))) pd_5 rfl rfl rfl rfl rfl (Nat.le_of_ble_eq_true rfl) (Nat.le_of_ble_eq_true rfl) (Nat.le_of_ble_eq_true rfl) (Nat.le_of_ble_eq_true rfl) at_107 rfl ?_
    rintro _ _ ⟨rfl, rfl⟩
    show Go _ _ _ _ _ _ _ _ _ _ _ _ 110 #[.val (.int p0), .val (.int p1), .val (.int p2), .val (.int p3), .val (.int p4), .val (.int (0 : Int32)), .val (.ref b2), .val (.ref b5)] [(.long (0 : Int64))]
    refine Go.aload (pc' := 112) at_110 rfl rfl rfl ?_
    refine Go.iconst (pc' := 113) (v := (2 : Int32)) at_112 rfl rfl ?_
    refine Go.laload (pc' := 114) (v := (0 : Int64)) (V2.ext E5) at_113 (by decide) (by decide) rfl rfl ?_
    refine Go.lcmp (pc' := 115) at_114 rfl ?_
    refine Go.ifNo (pc' := 118) at_115 (XT.ll_ne_f (by decide)) rfl ?_
    refine Go.iconst (pc' := 119) (v := (1 : Int32)) at_118 rfl rfl ?_
    refine Go.goto (pc' := 123) at_119 (by decide) (by decide) ?_
    exact Go.retN (t := .boolean) rfl (by simp) at_123 ⟨rfl, K7⟩ (by decide) (by decide)
  ·
    rw [hk1]
    refine Go.iconst (pc' := 9) (v := (3 : Int32)) at_8 rfl rfl ?_
    refine Go.newarray (pc' := 11) (cells' := 1) (slots' := 3) (cap := 3) (hw _ (List.mem_of_getElem? (i := 1) rfl)) at_9 (ad := "[J") (by decide) (by decide) (by decide) rfl rfl (by decide) (by decide) (by decide) rfl ?_
    intro h12 b12 g12 E12 ge12 kA12 A12 X12
    have sz13 : h.size ≤ b12 := Nat.le_trans (Keep.refl h []).1 (Nat.le_of_eq g12.symm)
    have K14 : Keep h h12 [] := (Keep.refl h []).ext E12
    have V12 : Arv Z h12 b12 kA12 .long (3 : Int32) [(.long 0), (.long 0), (.long 0)] (.long 0) := Arv.pad A12 (pad_rep [] (.long 0) 3)
    refine Go.astore (pc' := 13) (Ls' := #[.val (.int p0), .val (.int p1), .val (.int p2), .val (.int p3), .val (.int p4), .val (.int (1 : Int32)), .val (.ref b12), .unset]) at_11 rfl rfl rfl ?_
    refine Go.new (pc' := 16) (cells' := 2) (slots' := 6) (hw _ (List.mem_of_getElem? (i := 2) rfl)) (hw _ (List.mem_of_getElem? (i := 3) rfl)) (hw _ (List.mem_of_getElem? (i := 4) rfl)) at_13 rfl rfl (by decide) (by decide) rfl ?_
    intro h15 b15 g15 E15 ge15 A15 D15
    have sz16 : h.size ≤ b15 := Nat.le_trans K14.1 (Nat.le_of_eq g15.symm)
    have K17 : Keep h h15 [] := K14.ext E15
    refine Go.dup (pc' := 17) at_16 rfl rfl ?_
    refine Go.callC (cells' := 2) (slots' := 6) (pc' := 20) [] [(.ref b15)] (a := b15) rfl rfl (hw _ (List.mem_of_getElem? (i := 5) rfl)) (hw _ (List.mem_of_getElem? (i := 6) rfl)) (hw _ (List.mem_of_getElem? (i := 4) rfl)) (hw _ (List.mem_of_getElem? (i := 7) rfl)) (by decide) (c_init l Z a0 hw h15 b15) pd_4 rfl rfl rfl rfl rfl (Nat.le_of_ble_eq_true rfl) (Nat.le_of_ble_eq_true rfl) (Nat.le_of_ble_eq_true rfl) (Nat.le_of_ble_eq_true rfl) at_17 rfl ?_
    rintro _ _ ⟨rfl, rfl⟩
    show Go _ _ _ _ _ _ _ _ _ _ _ _ 20 #[.val (.int p0), .val (.int p1), .val (.int p2), .val (.int p3), .val (.int p4), .val (.int (1 : Int32)), .val (.ref b12), .unset] [(.ref b15)]
    refine Go.astore (pc' := 22) (Ls' := #[.val (.int p0), .val (.int p1), .val (.int p2), .val (.int p3), .val (.int p4), .val (.int (1 : Int32)), .val (.ref b12), .val (.ref b15)]) at_20 rfl rfl rfl ?_
    refine Go.iload (pc' := 24) at_22 rfl rfl ?_
    refine Go.iconst (pc' := 25) (v := (1 : Int32)) at_24 rfl rfl ?_
    refine Go.icmpNo (pc' := 28) at_25 (XT.ii_lt_f (by decide)) rfl ?_
    refine Go.aload (pc' := 30) at_28 rfl rfl rfl ?_
    refine Go.aload (pc' := 32) at_30 rfl rfl rfl ?_
    refine Go.iloadN (pc' := 33) at_32 rfl rfl ?_
    have ne19 : b12 ≠ b15 := (Nat.ne_of_lt (Nat.lt_of_lt_of_le X12.lt (Nat.le_of_eq g15.symm)))
    refine Go.callS (cells' := 2) (slots' := 6) (pc' := 36) [(.ref b15), (.ref b12), (.int p1)] [] (hw _ (List.mem_of_getElem? (i := 32) rfl)) (hw _ (List.mem_of_getElem? (i := 33) rfl)) (hw _ (List.mem_of_getElem? (i := 34) rfl)) (hw _ (List.mem_of_getElem? (i := 35) rfl)) (by decide) (c_step l Z a0 hw h15 b15 b12 kA12 p1 (0 : Int64) (0 : Int64) (0 : Int64) w0 w1 w2 wm km s0 x0 o0 s1 x1 o1 s2 x2 o2 sm vm ge15 ge12 (Ne.symm ne19) A15 ((D15 (Or.inl (hw _ (List.mem_of_getElem? (i := 17) rfl))) (ty := .long) (by decide) : Fld Z h15 b15 "com/example/inquire/inquire/index/PageCounts" "articles" "J" (.long (0 : Int64)))) ((D15 (Or.inl (hw _ (List.mem_of_getElem? (i := 24) rfl))) (ty := .long) (by decide) : Fld Z h15 b15 "com/example/inquire/inquire/index/PageCounts" "redirects" "J" (.long (0 : Int64)))) ((D15 (Or.inl (hw _ (List.mem_of_getElem? (i := 31) rfl))) (ty := .long) (by decide) : Fld Z h15 b15 "com/example/inquire/inquire/index/PageCounts" "other" "J" (.long (0 : Int64)))) (V12.ext E15)) pd_6 rfl rfl rfl rfl rfl (Nat.le_of_ble_eq_true rfl) (Nat.le_of_ble_eq_true rfl) (Nat.le_of_ble_eq_true rfl) (Nat.le_of_ble_eq_true rfl) at_33 rfl ?_
    rintro _ h20 ⟨x2_20, y2_20, z2_20, rfl, K20, F20_0, F20_1, F20_2, F20_3⟩
    have K21 : Keep h h20 [] := K17.trans K20 (allS (Or.inr sz16) (allS (Or.inr sz13) all0))
    show Go _ _ _ _ _ _ _ _ _ _ _ _ 36 #[.val (.int p0), .val (.int p1), .val (.int p2), .val (.int p3), .val (.int p4), .val (.int (1 : Int32)), .val (.ref b12), .val (.ref b15)] []
    refine Go.iload (pc' := 38) at_36 rfl rfl ?_
    refine Go.iconst (pc' := 39) (v := (2 : Int32)) at_38 rfl rfl ?_
    refine Go.icmpYes (pc' := 50) at_39 (XT.ii_lt_t (by decide)) (by decide) (by decide) ?_
    refine Go.iload (pc' := 52) at_50 rfl rfl ?_
    refine Go.iconst (pc' := 53) (v := (3 : Int32)) at_52 rfl rfl ?_
    refine Go.icmpYes (pc' := 64) at_53 (XT.ii_lt_t (by decide)) (by decide) (by decide) ?_
    refine Go.iload (pc' := 66) at_64 rfl rfl ?_
    refine Go.iconst (pc' := 67) (v := (4 : Int32)) at_66 rfl rfl ?_
    refine Go.icmpYes (pc' := 79) at_67 (XT.ii_lt_t (by decide)) (by decide) (by decide) ?_
    refine Go.aload (pc' := 81) at_79 rfl rfl rfl ?_
    refine Go.callV (cells' := 2) (slots' := 6) (pc' := 84) [] [] (A15.keep K20) (hw _ (List.mem_of_getElem? (i := 11) rfl)) (hw _ (List.mem_of_getElem? (i := 12) rfl)) (fun s' hs' => notFace_of_selects (args := #[]) (mvT hs' (hw _ (List.mem_of_getElem? (i := 14) rfl)))) (hw _ (List.mem_of_getElem? (i := 14) rfl)) (hw _ (List.mem_of_getElem? (i := 13) rfl)) (hw _ (List.mem_of_getElem? (i := 4) rfl)) (hw _ (List.mem_of_getElem? (i := 15) rfl)) (by decide) (c_get0 l Z a0 hw h20 b15 x2_20 F20_0) pd_5 rfl rfl rfl rfl rfl (Nat.le_of_ble_eq_true rfl) (Nat.le_of_ble_eq_true rfl) (Nat.le_of_ble_eq_true rfl) (Nat.le_of_ble_eq_true rfl) at_81 rfl ?_
    rintro _ _ ⟨rfl, rfl⟩
    show Go _ _ _ _ _ _ _ _ _ _ _ _ 84 #[.val (.int p0), .val (.int p1), .val (.int p2), .val (.int p3), .val (.int p4), .val (.int (1 : Int32)), .val (.ref b12), .val (.ref b15)] [(.long x2_20)]
    refine Go.aload (pc' := 86) at_84 rfl rfl rfl ?_
    refine Go.iconst (pc' := 87) (v := (0 : Int32)) at_86 rfl rfl ?_
    refine Go.laload (pc' := 88) (v := x2_20) F20_3 at_87 (by decide) (by decide) rfl rfl ?_
    refine Go.lcmp (pc' := 89) at_88 rfl ?_
    refine Go.ifNo (pc' := 92) at_89 (XT.ll_ne_f rfl) rfl ?_
    refine Go.aload (pc' := 94) at_92 rfl rfl rfl ?_
    refine Go.callV (cells' := 2) (slots' := 6) (pc' := 97) [] [] (A15.keep K20) (hw _ (List.mem_of_getElem? (i := 18) rfl)) (hw _ (List.mem_of_getElem? (i := 19) rfl)) (fun s' hs' => notFace_of_selects (args := #[]) (mvT hs' (hw _ (List.mem_of_getElem? (i := 21) rfl)))) (hw _ (List.mem_of_getElem? (i := 21) rfl)) (hw _ (List.mem_of_getElem? (i := 20) rfl)) (hw _ (List.mem_of_getElem? (i := 4) rfl)) (hw _ (List.mem_of_getElem? (i := 22) rfl)) (by decide) (c_get1 l Z a0 hw h20 b15 y2_20 F20_1) pd_5 rfl rfl rfl rfl rfl (Nat.le_of_ble_eq_true rfl) (Nat.le_of_ble_eq_true rfl) (Nat.le_of_ble_eq_true rfl) (Nat.le_of_ble_eq_true rfl) at_94 rfl ?_
    rintro _ _ ⟨rfl, rfl⟩
    show Go _ _ _ _ _ _ _ _ _ _ _ _ 97 #[.val (.int p0), .val (.int p1), .val (.int p2), .val (.int p3), .val (.int p4), .val (.int (1 : Int32)), .val (.ref b12), .val (.ref b15)] [(.long y2_20)]
    refine Go.aload (pc' := 99) at_97 rfl rfl rfl ?_
    refine Go.iconst (pc' := 100) (v := (1 : Int32)) at_99 rfl rfl ?_
    refine Go.laload (pc' := 101) (v := y2_20) F20_3 at_100 (by decide) (by decide) rfl rfl ?_
    refine Go.lcmp (pc' := 102) at_101 rfl ?_
    refine Go.ifNo (pc' := 105) at_102 (XT.ll_ne_f rfl) rfl ?_
    refine Go.aload (pc' := 107) at_105 rfl rfl rfl ?_
    refine Go.callV (cells' := 2) (slots' := 6) (pc' := 110) [] [] (A15.keep K20) (hw _ (List.mem_of_getElem? (i := 25) rfl)) (hw _ (List.mem_of_getElem? (i := 26) rfl)) (fun s' hs' => notFace_of_selects (args := #[]) (mvT hs' (hw _ (List.mem_of_getElem? (i := 28) rfl)))) (hw _ (List.mem_of_getElem? (i := 28) rfl)) (hw _ (List.mem_of_getElem? (i := 27) rfl)) (hw _ (List.mem_of_getElem? (i := 4) rfl)) (hw _ (List.mem_of_getElem? (i := 29) rfl)) (by decide) (c_get2 l Z a0 hw h20 b15 z2_20 F20_2) pd_5 rfl rfl rfl rfl rfl (Nat.le_of_ble_eq_true rfl) (Nat.le_of_ble_eq_true rfl) (Nat.le_of_ble_eq_true rfl) (Nat.le_of_ble_eq_true rfl) at_107 rfl ?_
    rintro _ _ ⟨rfl, rfl⟩
    show Go _ _ _ _ _ _ _ _ _ _ _ _ 110 #[.val (.int p0), .val (.int p1), .val (.int p2), .val (.int p3), .val (.int p4), .val (.int (1 : Int32)), .val (.ref b12), .val (.ref b15)] [(.long z2_20)]
    refine Go.aload (pc' := 112) at_110 rfl rfl rfl ?_
    refine Go.iconst (pc' := 113) (v := (2 : Int32)) at_112 rfl rfl ?_
    refine Go.laload (pc' := 114) (v := z2_20) F20_3 at_113 (by decide) (by decide) rfl rfl ?_
    refine Go.lcmp (pc' := 115) at_114 rfl ?_
    refine Go.ifNo (pc' := 118) at_115 (XT.ll_ne_f rfl) rfl ?_
    refine Go.iconst (pc' := 119) (v := (1 : Int32)) at_118 rfl rfl ?_
    refine Go.goto (pc' := 123) at_119 (by decide) (by decide) ?_
    exact Go.retN (t := .boolean) rfl (by simp) at_123 ⟨rfl, K21⟩ (by decide) (by decide)
  ·
    rw [hk1]
    refine Go.iconst (pc' := 9) (v := (3 : Int32)) at_8 rfl rfl ?_
    refine Go.newarray (pc' := 11) (cells' := 1) (slots' := 3) (cap := 3) (hw _ (List.mem_of_getElem? (i := 1) rfl)) at_9 (ad := "[J") (by decide) (by decide) (by decide) rfl rfl (by decide) (by decide) (by decide) rfl ?_
    intro h25 b25 g25 E25 ge25 kA25 A25 X25
    have sz26 : h.size ≤ b25 := Nat.le_trans (Keep.refl h []).1 (Nat.le_of_eq g25.symm)
    have K27 : Keep h h25 [] := (Keep.refl h []).ext E25
    have V25 : Arv Z h25 b25 kA25 .long (3 : Int32) [(.long 0), (.long 0), (.long 0)] (.long 0) := Arv.pad A25 (pad_rep [] (.long 0) 3)
    refine Go.astore (pc' := 13) (Ls' := #[.val (.int p0), .val (.int p1), .val (.int p2), .val (.int p3), .val (.int p4), .val (.int (2 : Int32)), .val (.ref b25), .unset]) at_11 rfl rfl rfl ?_
    refine Go.new (pc' := 16) (cells' := 2) (slots' := 6) (hw _ (List.mem_of_getElem? (i := 2) rfl)) (hw _ (List.mem_of_getElem? (i := 3) rfl)) (hw _ (List.mem_of_getElem? (i := 4) rfl)) at_13 rfl rfl (by decide) (by decide) rfl ?_
    intro h28 b28 g28 E28 ge28 A28 D28
    have sz29 : h.size ≤ b28 := Nat.le_trans K27.1 (Nat.le_of_eq g28.symm)
    have K30 : Keep h h28 [] := K27.ext E28
    refine Go.dup (pc' := 17) at_16 rfl rfl ?_
    refine Go.callC (cells' := 2) (slots' := 6) (pc' := 20) [] [(.ref b28)] (a := b28) rfl rfl (hw _ (List.mem_of_getElem? (i := 5) rfl)) (hw _ (List.mem_of_getElem? (i := 6) rfl)) (hw _ (List.mem_of_getElem? (i := 4) rfl)) (hw _ (List.mem_of_getElem? (i := 7) rfl)) (by decide) (c_init l Z a0 hw h28 b28) pd_4 rfl rfl rfl rfl rfl (Nat.le_of_ble_eq_true rfl) (Nat.le_of_ble_eq_true rfl) (Nat.le_of_ble_eq_true rfl) (Nat.le_of_ble_eq_true rfl) at_17 rfl ?_
    rintro _ _ ⟨rfl, rfl⟩
    show Go _ _ _ _ _ _ _ _ _ _ _ _ 20 #[.val (.int p0), .val (.int p1), .val (.int p2), .val (.int p3), .val (.int p4), .val (.int (2 : Int32)), .val (.ref b25), .unset] [(.ref b28)]
    refine Go.astore (pc' := 22) (Ls' := #[.val (.int p0), .val (.int p1), .val (.int p2), .val (.int p3), .val (.int p4), .val (.int (2 : Int32)), .val (.ref b25), .val (.ref b28)]) at_20 rfl rfl rfl ?_
    refine Go.iload (pc' := 24) at_22 rfl rfl ?_
    refine Go.iconst (pc' := 25) (v := (1 : Int32)) at_24 rfl rfl ?_
    refine Go.icmpNo (pc' := 28) at_25 (XT.ii_lt_f (by decide)) rfl ?_
    refine Go.aload (pc' := 30) at_28 rfl rfl rfl ?_
    refine Go.aload (pc' := 32) at_30 rfl rfl rfl ?_
    refine Go.iloadN (pc' := 33) at_32 rfl rfl ?_
    have ne32 : b25 ≠ b28 := (Nat.ne_of_lt (Nat.lt_of_lt_of_le X25.lt (Nat.le_of_eq g28.symm)))
    refine Go.callS (cells' := 2) (slots' := 6) (pc' := 36) [(.ref b28), (.ref b25), (.int p1)] [] (hw _ (List.mem_of_getElem? (i := 32) rfl)) (hw _ (List.mem_of_getElem? (i := 33) rfl)) (hw _ (List.mem_of_getElem? (i := 34) rfl)) (hw _ (List.mem_of_getElem? (i := 35) rfl)) (by decide) (c_step l Z a0 hw h28 b28 b25 kA25 p1 (0 : Int64) (0 : Int64) (0 : Int64) w0 w1 w2 wm km s0 x0 o0 s1 x1 o1 s2 x2 o2 sm vm ge28 ge25 (Ne.symm ne32) A28 ((D28 (Or.inl (hw _ (List.mem_of_getElem? (i := 17) rfl))) (ty := .long) (by decide) : Fld Z h28 b28 "com/example/inquire/inquire/index/PageCounts" "articles" "J" (.long (0 : Int64)))) ((D28 (Or.inl (hw _ (List.mem_of_getElem? (i := 24) rfl))) (ty := .long) (by decide) : Fld Z h28 b28 "com/example/inquire/inquire/index/PageCounts" "redirects" "J" (.long (0 : Int64)))) ((D28 (Or.inl (hw _ (List.mem_of_getElem? (i := 31) rfl))) (ty := .long) (by decide) : Fld Z h28 b28 "com/example/inquire/inquire/index/PageCounts" "other" "J" (.long (0 : Int64)))) (V25.ext E28)) pd_6 rfl rfl rfl rfl rfl (Nat.le_of_ble_eq_true rfl) (Nat.le_of_ble_eq_true rfl) (Nat.le_of_ble_eq_true rfl) (Nat.le_of_ble_eq_true rfl) at_33 rfl ?_
    rintro _ h33 ⟨x2_33, y2_33, z2_33, rfl, K33, F33_0, F33_1, F33_2, F33_3⟩
    have K34 : Keep h h33 [] := K30.trans K33 (allS (Or.inr sz29) (allS (Or.inr sz26) all0))
    show Go _ _ _ _ _ _ _ _ _ _ _ _ 36 #[.val (.int p0), .val (.int p1), .val (.int p2), .val (.int p3), .val (.int p4), .val (.int (2 : Int32)), .val (.ref b25), .val (.ref b28)] []
    refine Go.iload (pc' := 38) at_36 rfl rfl ?_
    refine Go.iconst (pc' := 39) (v := (2 : Int32)) at_38 rfl rfl ?_
    refine Go.icmpNo (pc' := 42) at_39 (XT.ii_lt_f (by decide)) rfl ?_
    refine Go.aload (pc' := 44) at_42 rfl rfl rfl ?_
    refine Go.aload (pc' := 46) at_44 rfl rfl rfl ?_
    refine Go.iloadN (pc' := 47) at_46 rfl rfl ?_
    refine Go.callS (cells' := 2) (slots' := 6) (pc' := 50) [(.ref b28), (.ref b25), (.int p2)] [] (hw _ (List.mem_of_getElem? (i := 32) rfl)) (hw _ (List.mem_of_getElem? (i := 33) rfl)) (hw _ (List.mem_of_getElem? (i := 34) rfl)) (hw _ (List.mem_of_getElem? (i := 35) rfl)) (by decide) (c_step l Z a0 hw h33 b28 b25 kA25 p2 x2_33 y2_33 z2_33 w0 w1 w2 wm km s0 x0 o0 s1 x1 o1 s2 x2 o2 sm vm ge28 ge25 (Ne.symm ne32) (A28.keep K33) F33_0 F33_1 F33_2 F33_3) pd_6 rfl rfl rfl rfl rfl (Nat.le_of_ble_eq_true rfl) (Nat.le_of_ble_eq_true rfl) (Nat.le_of_ble_eq_true rfl) (Nat.le_of_ble_eq_true rfl) at_47 rfl ?_
    rintro _ h35 ⟨x2_35, y2_35, z2_35, rfl, K35, F35_0, F35_1, F35_2, F35_3⟩
    have K36 : Keep h h35 [] := K34.trans K35 (allS (Or.inr sz29) (allS (Or.inr sz26) all0))
    show Go _ _ _ _ _ _ _ _ _ _ _ _ 50 #[.val (.int p0), .val (.int p1), .val (.int p2), .val (.int p3), .val (.int p4), .val (.int (2 : Int32)), .val (.ref b25), .val (.ref b28)] []
    refine Go.iload (pc' := 52) at_50 rfl rfl ?_
    refine Go.iconst (pc' := 53) (v := (3 : Int32)) at_52 rfl rfl ?_
    refine Go.icmpYes (pc' := 64) at_53 (XT.ii_lt_t (by decide)) (by decide) (by decide) ?_
    refine Go.iload (pc' := 66) at_64 rfl rfl ?_
    refine Go.iconst (pc' := 67) (v := (4 : Int32)) at_66 rfl rfl ?_
    refine Go.icmpYes (pc' := 79) at_67 (XT.ii_lt_t (by decide)) (by decide) (by decide) ?_
    refine Go.aload (pc' := 81) at_79 rfl rfl rfl ?_
    refine Go.callV (cells' := 2) (slots' := 6) (pc' := 84) [] [] ((A28.keep K33).keep K35) (hw _ (List.mem_of_getElem? (i := 11) rfl)) (hw _ (List.mem_of_getElem? (i := 12) rfl)) (fun s' hs' => notFace_of_selects (args := #[]) (mvT hs' (hw _ (List.mem_of_getElem? (i := 14) rfl)))) (hw _ (List.mem_of_getElem? (i := 14) rfl)) (hw _ (List.mem_of_getElem? (i := 13) rfl)) (hw _ (List.mem_of_getElem? (i := 4) rfl)) (hw _ (List.mem_of_getElem? (i := 15) rfl)) (by decide) (c_get0 l Z a0 hw h35 b28 x2_35 F35_0) pd_5 rfl rfl rfl rfl rfl (Nat.le_of_ble_eq_true rfl) (Nat.le_of_ble_eq_true rfl) (Nat.le_of_ble_eq_true rfl) (Nat.le_of_ble_eq_true rfl) at_81 rfl ?_
    rintro _ _ ⟨rfl, rfl⟩
    show Go _ _ _ _ _ _ _ _ _ _ _ _ 84 #[.val (.int p0), .val (.int p1), .val (.int p2), .val (.int p3), .val (.int p4), .val (.int (2 : Int32)), .val (.ref b25), .val (.ref b28)] [(.long x2_35)]
    refine Go.aload (pc' := 86) at_84 rfl rfl rfl ?_
    refine Go.iconst (pc' := 87) (v := (0 : Int32)) at_86 rfl rfl ?_
    refine Go.laload (pc' := 88) (v := x2_35) F35_3 at_87 (by decide) (by decide) rfl rfl ?_
    refine Go.lcmp (pc' := 89) at_88 rfl ?_
    refine Go.ifNo (pc' := 92) at_89 (XT.ll_ne_f rfl) rfl ?_
    refine Go.aload (pc' := 94) at_92 rfl rfl rfl ?_
    refine Go.callV (cells' := 2) (slots' := 6) (pc' := 97) [] [] ((A28.keep K33).keep K35) (hw _ (List.mem_of_getElem? (i := 18) rfl)) (hw _ (List.mem_of_getElem? (i := 19) rfl)) (fun s' hs' => notFace_of_selects (args := #[]) (mvT hs' (hw _ (List.mem_of_getElem? (i := 21) rfl)))) (hw _ (List.mem_of_getElem? (i := 21) rfl)) (hw _ (List.mem_of_getElem? (i := 20) rfl)) (hw _ (List.mem_of_getElem? (i := 4) rfl)) (hw _ (List.mem_of_getElem? (i := 22) rfl)) (by decide) (c_get1 l Z a0 hw h35 b28 y2_35 F35_1) pd_5 rfl rfl rfl rfl rfl (Nat.le_of_ble_eq_true rfl) (Nat.le_of_ble_eq_true rfl) (Nat.le_of_ble_eq_true rfl) (Nat.le_of_ble_eq_true rfl) at_94 rfl ?_
    rintro _ _ ⟨rfl, rfl⟩
    show Go _ _ _ _ _ _ _ _ _ _ _ _ 97 #[.val (.int p0), .val (.int p1), .val (.int p2), .val (.int p3), .val (.int p4), .val (.int (2 : Int32)), .val (.ref b25), .val (.ref b28)] [(.long y2_35)]
    refine Go.aload (pc' := 99) at_97 rfl rfl rfl ?_
    refine Go.iconst (pc' := 100) (v := (1 : Int32)) at_99 rfl rfl ?_
    refine Go.laload (pc' := 101) (v := y2_35) F35_3 at_100 (by decide) (by decide) rfl rfl ?_
    refine Go.lcmp (pc' := 102) at_101 rfl ?_
    refine Go.ifNo (pc' := 105) at_102 (XT.ll_ne_f rfl) rfl ?_
    refine Go.aload (pc' := 107) at_105 rfl rfl rfl ?_
    refine Go.callV (cells' := 2) (slots' := 6) (pc' := 110) [] [] ((A28.keep K33).keep K35) (hw _ (List.mem_of_getElem? (i := 25) rfl)) (hw _ (List.mem_of_getElem? (i := 26) rfl)) (fun s' hs' => notFace_of_selects (args := #[]) (mvT hs' (hw _ (List.mem_of_getElem? (i := 28) rfl)))) (hw _ (List.mem_of_getElem? (i := 28) rfl)) (hw _ (List.mem_of_getElem? (i := 27) rfl)) (hw _ (List.mem_of_getElem? (i := 4) rfl)) (hw _ (List.mem_of_getElem? (i := 29) rfl)) (by decide) (c_get2 l Z a0 hw h35 b28 z2_35 F35_2) pd_5 rfl rfl rfl rfl rfl (Nat.le_of_ble_eq_true rfl) (Nat.le_of_ble_eq_true rfl) (Nat.le_of_ble_eq_true rfl) (Nat.le_of_ble_eq_true rfl) at_107 rfl ?_
    rintro _ _ ⟨rfl, rfl⟩
    show Go _ _ _ _ _ _ _ _ _ _ _ _ 110 #[.val (.int p0), .val (.int p1), .val (.int p2), .val (.int p3), .val (.int p4), .val (.int (2 : Int32)), .val (.ref b25), .val (.ref b28)] [(.long z2_35)]
    refine Go.aload (pc' := 112) at_110 rfl rfl rfl ?_
    refine Go.iconst (pc' := 113) (v := (2 : Int32)) at_112 rfl rfl ?_
    refine Go.laload (pc' := 114) (v := z2_35) F35_3 at_113 (by decide) (by decide) rfl rfl ?_
    refine Go.lcmp (pc' := 115) at_114 rfl ?_
    refine Go.ifNo (pc' := 118) at_115 (XT.ll_ne_f rfl) rfl ?_
    refine Go.iconst (pc' := 119) (v := (1 : Int32)) at_118 rfl rfl ?_
    refine Go.goto (pc' := 123) at_119 (by decide) (by decide) ?_
    exact Go.retN (t := .boolean) rfl (by simp) at_123 ⟨rfl, K36⟩ (by decide) (by decide)
  ·
    rw [hk1]
    refine Go.iconst (pc' := 9) (v := (3 : Int32)) at_8 rfl rfl ?_
    refine Go.newarray (pc' := 11) (cells' := 1) (slots' := 3) (cap := 3) (hw _ (List.mem_of_getElem? (i := 1) rfl)) at_9 (ad := "[J") (by decide) (by decide) (by decide) rfl rfl (by decide) (by decide) (by decide) rfl ?_
    intro h40 b40 g40 E40 ge40 kA40 A40 X40
    have sz41 : h.size ≤ b40 := Nat.le_trans (Keep.refl h []).1 (Nat.le_of_eq g40.symm)
    have K42 : Keep h h40 [] := (Keep.refl h []).ext E40
    have V40 : Arv Z h40 b40 kA40 .long (3 : Int32) [(.long 0), (.long 0), (.long 0)] (.long 0) := Arv.pad A40 (pad_rep [] (.long 0) 3)
    refine Go.astore (pc' := 13) (Ls' := #[.val (.int p0), .val (.int p1), .val (.int p2), .val (.int p3), .val (.int p4), .val (.int (3 : Int32)), .val (.ref b40), .unset]) at_11 rfl rfl rfl ?_
    refine Go.new (pc' := 16) (cells' := 2) (slots' := 6) (hw _ (List.mem_of_getElem? (i := 2) rfl)) (hw _ (List.mem_of_getElem? (i := 3) rfl)) (hw _ (List.mem_of_getElem? (i := 4) rfl)) at_13 rfl rfl (by decide) (by decide) rfl ?_
    intro h43 b43 g43 E43 ge43 A43 D43
    have sz44 : h.size ≤ b43 := Nat.le_trans K42.1 (Nat.le_of_eq g43.symm)
    have K45 : Keep h h43 [] := K42.ext E43
    refine Go.dup (pc' := 17) at_16 rfl rfl ?_
    refine Go.callC (cells' := 2) (slots' := 6) (pc' := 20) [] [(.ref b43)] (a := b43) rfl rfl (hw _ (List.mem_of_getElem? (i := 5) rfl)) (hw _ (List.mem_of_getElem? (i := 6) rfl)) (hw _ (List.mem_of_getElem? (i := 4) rfl)) (hw _ (List.mem_of_getElem? (i := 7) rfl)) (by decide) (c_init l Z a0 hw h43 b43) pd_4 rfl rfl rfl rfl rfl (Nat.le_of_ble_eq_true rfl) (Nat.le_of_ble_eq_true rfl) (Nat.le_of_ble_eq_true rfl) (Nat.le_of_ble_eq_true rfl) at_17 rfl ?_
    rintro _ _ ⟨rfl, rfl⟩
    show Go _ _ _ _ _ _ _ _ _ _ _ _ 20 #[.val (.int p0), .val (.int p1), .val (.int p2), .val (.int p3), .val (.int p4), .val (.int (3 : Int32)), .val (.ref b40), .unset] [(.ref b43)]
    refine Go.astore (pc' := 22) (Ls' := #[.val (.int p0), .val (.int p1), .val (.int p2), .val (.int p3), .val (.int p4), .val (.int (3 : Int32)), .val (.ref b40), .val (.ref b43)]) at_20 rfl rfl rfl ?_
    refine Go.iload (pc' := 24) at_22 rfl rfl ?_
    refine Go.iconst (pc' := 25) (v := (1 : Int32)) at_24 rfl rfl ?_
    refine Go.icmpNo (pc' := 28) at_25 (XT.ii_lt_f (by decide)) rfl ?_
    refine Go.aload (pc' := 30) at_28 rfl rfl rfl ?_
    refine Go.aload (pc' := 32) at_30 rfl rfl rfl ?_
    refine Go.iloadN (pc' := 33) at_32 rfl rfl ?_
    have ne47 : b40 ≠ b43 := (Nat.ne_of_lt (Nat.lt_of_lt_of_le X40.lt (Nat.le_of_eq g43.symm)))
    refine Go.callS (cells' := 2) (slots' := 6) (pc' := 36) [(.ref b43), (.ref b40), (.int p1)] [] (hw _ (List.mem_of_getElem? (i := 32) rfl)) (hw _ (List.mem_of_getElem? (i := 33) rfl)) (hw _ (List.mem_of_getElem? (i := 34) rfl)) (hw _ (List.mem_of_getElem? (i := 35) rfl)) (by decide) (c_step l Z a0 hw h43 b43 b40 kA40 p1 (0 : Int64) (0 : Int64) (0 : Int64) w0 w1 w2 wm km s0 x0 o0 s1 x1 o1 s2 x2 o2 sm vm ge43 ge40 (Ne.symm ne47) A43 ((D43 (Or.inl (hw _ (List.mem_of_getElem? (i := 17) rfl))) (ty := .long) (by decide) : Fld Z h43 b43 "com/example/inquire/inquire/index/PageCounts" "articles" "J" (.long (0 : Int64)))) ((D43 (Or.inl (hw _ (List.mem_of_getElem? (i := 24) rfl))) (ty := .long) (by decide) : Fld Z h43 b43 "com/example/inquire/inquire/index/PageCounts" "redirects" "J" (.long (0 : Int64)))) ((D43 (Or.inl (hw _ (List.mem_of_getElem? (i := 31) rfl))) (ty := .long) (by decide) : Fld Z h43 b43 "com/example/inquire/inquire/index/PageCounts" "other" "J" (.long (0 : Int64)))) (V40.ext E43)) pd_6 rfl rfl rfl rfl rfl (Nat.le_of_ble_eq_true rfl) (Nat.le_of_ble_eq_true rfl) (Nat.le_of_ble_eq_true rfl) (Nat.le_of_ble_eq_true rfl) at_33 rfl ?_
    rintro _ h48 ⟨x2_48, y2_48, z2_48, rfl, K48, F48_0, F48_1, F48_2, F48_3⟩
    have K49 : Keep h h48 [] := K45.trans K48 (allS (Or.inr sz44) (allS (Or.inr sz41) all0))
    show Go _ _ _ _ _ _ _ _ _ _ _ _ 36 #[.val (.int p0), .val (.int p1), .val (.int p2), .val (.int p3), .val (.int p4), .val (.int (3 : Int32)), .val (.ref b40), .val (.ref b43)] []
    refine Go.iload (pc' := 38) at_36 rfl rfl ?_
    refine Go.iconst (pc' := 39) (v := (2 : Int32)) at_38 rfl rfl ?_
    refine Go.icmpNo (pc' := 42) at_39 (XT.ii_lt_f (by decide)) rfl ?_
    refine Go.aload (pc' := 44) at_42 rfl rfl rfl ?_
    refine Go.aload (pc' := 46) at_44 rfl rfl rfl ?_
    refine Go.iloadN (pc' := 47) at_46 rfl rfl ?_
    refine Go.callS (cells' := 2) (slots' := 6) (pc' := 50) [(.ref b43), (.ref b40), (.int p2)] [] (hw _ (List.mem_of_getElem? (i := 32) rfl)) (hw _ (List.mem_of_getElem? (i := 33) rfl)) (hw _ (List.mem_of_getElem? (i := 34) rfl)) (hw _ (List.mem_of_getElem? (i := 35) rfl)) (by decide) (c_step l Z a0 hw h48 b43 b40 kA40 p2 x2_48 y2_48 z2_48 w0 w1 w2 wm km s0 x0 o0 s1 x1 o1 s2 x2 o2 sm vm ge43 ge40 (Ne.symm ne47) (A43.keep K48) F48_0 F48_1 F48_2 F48_3) pd_6 rfl rfl rfl rfl rfl (Nat.le_of_ble_eq_true rfl) (Nat.le_of_ble_eq_true rfl) (Nat.le_of_ble_eq_true rfl) (Nat.le_of_ble_eq_true rfl) at_47 rfl ?_
    rintro _ h50 ⟨x2_50, y2_50, z2_50, rfl, K50, F50_0, F50_1, F50_2, F50_3⟩
    have K51 : Keep h h50 [] := K49.trans K50 (allS (Or.inr sz44) (allS (Or.inr sz41) all0))
    show Go _ _ _ _ _ _ _ _ _ _ _ _ 50 #[.val (.int p0), .val (.int p1), .val (.int p2), .val (.int p3), .val (.int p4), .val (.int (3 : Int32)), .val (.ref b40), .val (.ref b43)] []
    refine Go.iload (pc' := 52) at_50 rfl rfl ?_
    refine Go.iconst (pc' := 53) (v := (3 : Int32)) at_52 rfl rfl ?_
    refine Go.icmpNo (pc' := 56) at_53 (XT.ii_lt_f (by decide)) rfl ?_
    refine Go.aload (pc' := 58) at_56 rfl rfl rfl ?_
    refine Go.aload (pc' := 60) at_58 rfl rfl rfl ?_
    refine Go.iloadN (pc' := 61) at_60 rfl rfl ?_
    refine Go.callS (cells' := 2) (slots' := 6) (pc' := 64) [(.ref b43), (.ref b40), (.int p3)] [] (hw _ (List.mem_of_getElem? (i := 32) rfl)) (hw _ (List.mem_of_getElem? (i := 33) rfl)) (hw _ (List.mem_of_getElem? (i := 34) rfl)) (hw _ (List.mem_of_getElem? (i := 35) rfl)) (by decide) (c_step l Z a0 hw h50 b43 b40 kA40 p3 x2_50 y2_50 z2_50 w0 w1 w2 wm km s0 x0 o0 s1 x1 o1 s2 x2 o2 sm vm ge43 ge40 (Ne.symm ne47) (((A43.keep K48).keep K50)) F50_0 F50_1 F50_2 F50_3) pd_6 rfl rfl rfl rfl rfl (Nat.le_of_ble_eq_true rfl) (Nat.le_of_ble_eq_true rfl) (Nat.le_of_ble_eq_true rfl) (Nat.le_of_ble_eq_true rfl) at_61 rfl ?_
    rintro _ h52 ⟨x2_52, y2_52, z2_52, rfl, K52, F52_0, F52_1, F52_2, F52_3⟩
    have K53 : Keep h h52 [] := K51.trans K52 (allS (Or.inr sz44) (allS (Or.inr sz41) all0))
    show Go _ _ _ _ _ _ _ _ _ _ _ _ 64 #[.val (.int p0), .val (.int p1), .val (.int p2), .val (.int p3), .val (.int p4), .val (.int (3 : Int32)), .val (.ref b40), .val (.ref b43)] []
    refine Go.iload (pc' := 66) at_64 rfl rfl ?_
    refine Go.iconst (pc' := 67) (v := (4 : Int32)) at_66 rfl rfl ?_
    refine Go.icmpYes (pc' := 79) at_67 (XT.ii_lt_t (by decide)) (by decide) (by decide) ?_
    refine Go.aload (pc' := 81) at_79 rfl rfl rfl ?_
    refine Go.callV (cells' := 2) (slots' := 6) (pc' := 84) [] [] (((A43.keep K48).keep K50).keep K52) (hw _ (List.mem_of_getElem? (i := 11) rfl)) (hw _ (List.mem_of_getElem? (i := 12) rfl)) (fun s' hs' => notFace_of_selects (args := #[]) (mvT hs' (hw _ (List.mem_of_getElem? (i := 14) rfl)))) (hw _ (List.mem_of_getElem? (i := 14) rfl)) (hw _ (List.mem_of_getElem? (i := 13) rfl)) (hw _ (List.mem_of_getElem? (i := 4) rfl)) (hw _ (List.mem_of_getElem? (i := 15) rfl)) (by decide) (c_get0 l Z a0 hw h52 b43 x2_52 F52_0) pd_5 rfl rfl rfl rfl rfl (Nat.le_of_ble_eq_true rfl) (Nat.le_of_ble_eq_true rfl) (Nat.le_of_ble_eq_true rfl) (Nat.le_of_ble_eq_true rfl) at_81 rfl ?_
    rintro _ _ ⟨rfl, rfl⟩
    show Go _ _ _ _ _ _ _ _ _ _ _ _ 84 #[.val (.int p0), .val (.int p1), .val (.int p2), .val (.int p3), .val (.int p4), .val (.int (3 : Int32)), .val (.ref b40), .val (.ref b43)] [(.long x2_52)]
    refine Go.aload (pc' := 86) at_84 rfl rfl rfl ?_
    refine Go.iconst (pc' := 87) (v := (0 : Int32)) at_86 rfl rfl ?_
    refine Go.laload (pc' := 88) (v := x2_52) F52_3 at_87 (by decide) (by decide) rfl rfl ?_
    refine Go.lcmp (pc' := 89) at_88 rfl ?_
    refine Go.ifNo (pc' := 92) at_89 (XT.ll_ne_f rfl) rfl ?_
    refine Go.aload (pc' := 94) at_92 rfl rfl rfl ?_
    refine Go.callV (cells' := 2) (slots' := 6) (pc' := 97) [] [] (((A43.keep K48).keep K50).keep K52) (hw _ (List.mem_of_getElem? (i := 18) rfl)) (hw _ (List.mem_of_getElem? (i := 19) rfl)) (fun s' hs' => notFace_of_selects (args := #[]) (mvT hs' (hw _ (List.mem_of_getElem? (i := 21) rfl)))) (hw _ (List.mem_of_getElem? (i := 21) rfl)) (hw _ (List.mem_of_getElem? (i := 20) rfl)) (hw _ (List.mem_of_getElem? (i := 4) rfl)) (hw _ (List.mem_of_getElem? (i := 22) rfl)) (by decide) (c_get1 l Z a0 hw h52 b43 y2_52 F52_1) pd_5 rfl rfl rfl rfl rfl (Nat.le_of_ble_eq_true rfl) (Nat.le_of_ble_eq_true rfl) (Nat.le_of_ble_eq_true rfl) (Nat.le_of_ble_eq_true rfl) at_94 rfl ?_
    rintro _ _ ⟨rfl, rfl⟩
    show Go _ _ _ _ _ _ _ _ _ _ _ _ 97 #[.val (.int p0), .val (.int p1), .val (.int p2), .val (.int p3), .val (.int p4), .val (.int (3 : Int32)), .val (.ref b40), .val (.ref b43)] [(.long y2_52)]
    refine Go.aload (pc' := 99) at_97 rfl rfl rfl ?_
    refine Go.iconst (pc' := 100) (v := (1 : Int32)) at_99 rfl rfl ?_
    refine Go.laload (pc' := 101) (v := y2_52) F52_3 at_100 (by decide) (by decide) rfl rfl ?_
    refine Go.lcmp (pc' := 102) at_101 rfl ?_
    refine Go.ifNo (pc' := 105) at_102 (XT.ll_ne_f rfl) rfl ?_
    refine Go.aload (pc' := 107) at_105 rfl rfl rfl ?_
    refine Go.callV (cells' := 2) (slots' := 6) (pc' := 110) [] [] (((A43.keep K48).keep K50).keep K52) (hw _ (List.mem_of_getElem? (i := 25) rfl)) (hw _ (List.mem_of_getElem? (i := 26) rfl)) (fun s' hs' => notFace_of_selects (args := #[]) (mvT hs' (hw _ (List.mem_of_getElem? (i := 28) rfl)))) (hw _ (List.mem_of_getElem? (i := 28) rfl)) (hw _ (List.mem_of_getElem? (i := 27) rfl)) (hw _ (List.mem_of_getElem? (i := 4) rfl)) (hw _ (List.mem_of_getElem? (i := 29) rfl)) (by decide) (c_get2 l Z a0 hw h52 b43 z2_52 F52_2) pd_5 rfl rfl rfl rfl rfl (Nat.le_of_ble_eq_true rfl) (Nat.le_of_ble_eq_true rfl) (Nat.le_of_ble_eq_true rfl) (Nat.le_of_ble_eq_true rfl) at_107 rfl ?_
    rintro _ _ ⟨rfl, rfl⟩
    show Go _ _ _ _ _ _ _ _ _ _ _ _ 110 #[.val (.int p0), .val (.int p1), .val (.int p2), .val (.int p3), .val (.int p4), .val (.int (3 : Int32)), .val (.ref b40), .val (.ref b43)] [(.long z2_52)]
    refine Go.aload (pc' := 112) at_110 rfl rfl rfl ?_
    refine Go.iconst (pc' := 113) (v := (2 : Int32)) at_112 rfl rfl ?_
    refine Go.laload (pc' := 114) (v := z2_52) F52_3 at_113 (by decide) (by decide) rfl rfl ?_
    refine Go.lcmp (pc' := 115) at_114 rfl ?_
    refine Go.ifNo (pc' := 118) at_115 (XT.ll_ne_f rfl) rfl ?_
    refine Go.iconst (pc' := 119) (v := (1 : Int32)) at_118 rfl rfl ?_
    refine Go.goto (pc' := 123) at_119 (by decide) (by decide) ?_
    exact Go.retN (t := .boolean) rfl (by simp) at_123 ⟨rfl, K53⟩ (by decide) (by decide)
  ·
    rw [hk1]
    refine Go.iconst (pc' := 9) (v := (3 : Int32)) at_8 rfl rfl ?_
    refine Go.newarray (pc' := 11) (cells' := 1) (slots' := 3) (cap := 3) (hw _ (List.mem_of_getElem? (i := 1) rfl)) at_9 (ad := "[J") (by decide) (by decide) (by decide) rfl rfl (by decide) (by decide) (by decide) rfl ?_
    intro h57 b57 g57 E57 ge57 kA57 A57 X57
    have sz58 : h.size ≤ b57 := Nat.le_trans (Keep.refl h []).1 (Nat.le_of_eq g57.symm)
    have K59 : Keep h h57 [] := (Keep.refl h []).ext E57
    have V57 : Arv Z h57 b57 kA57 .long (3 : Int32) [(.long 0), (.long 0), (.long 0)] (.long 0) := Arv.pad A57 (pad_rep [] (.long 0) 3)
    refine Go.astore (pc' := 13) (Ls' := #[.val (.int p0), .val (.int p1), .val (.int p2), .val (.int p3), .val (.int p4), .val (.int (4 : Int32)), .val (.ref b57), .unset]) at_11 rfl rfl rfl ?_
    refine Go.new (pc' := 16) (cells' := 2) (slots' := 6) (hw _ (List.mem_of_getElem? (i := 2) rfl)) (hw _ (List.mem_of_getElem? (i := 3) rfl)) (hw _ (List.mem_of_getElem? (i := 4) rfl)) at_13 rfl rfl (by decide) (by decide) rfl ?_
    intro h60 b60 g60 E60 ge60 A60 D60
    have sz61 : h.size ≤ b60 := Nat.le_trans K59.1 (Nat.le_of_eq g60.symm)
    have K62 : Keep h h60 [] := K59.ext E60
    refine Go.dup (pc' := 17) at_16 rfl rfl ?_
    refine Go.callC (cells' := 2) (slots' := 6) (pc' := 20) [] [(.ref b60)] (a := b60) rfl rfl (hw _ (List.mem_of_getElem? (i := 5) rfl)) (hw _ (List.mem_of_getElem? (i := 6) rfl)) (hw _ (List.mem_of_getElem? (i := 4) rfl)) (hw _ (List.mem_of_getElem? (i := 7) rfl)) (by decide) (c_init l Z a0 hw h60 b60) pd_4 rfl rfl rfl rfl rfl (Nat.le_of_ble_eq_true rfl) (Nat.le_of_ble_eq_true rfl) (Nat.le_of_ble_eq_true rfl) (Nat.le_of_ble_eq_true rfl) at_17 rfl ?_
    rintro _ _ ⟨rfl, rfl⟩
    show Go _ _ _ _ _ _ _ _ _ _ _ _ 20 #[.val (.int p0), .val (.int p1), .val (.int p2), .val (.int p3), .val (.int p4), .val (.int (4 : Int32)), .val (.ref b57), .unset] [(.ref b60)]
    refine Go.astore (pc' := 22) (Ls' := #[.val (.int p0), .val (.int p1), .val (.int p2), .val (.int p3), .val (.int p4), .val (.int (4 : Int32)), .val (.ref b57), .val (.ref b60)]) at_20 rfl rfl rfl ?_
    refine Go.iload (pc' := 24) at_22 rfl rfl ?_
    refine Go.iconst (pc' := 25) (v := (1 : Int32)) at_24 rfl rfl ?_
    refine Go.icmpNo (pc' := 28) at_25 (XT.ii_lt_f (by decide)) rfl ?_
    refine Go.aload (pc' := 30) at_28 rfl rfl rfl ?_
    refine Go.aload (pc' := 32) at_30 rfl rfl rfl ?_
    refine Go.iloadN (pc' := 33) at_32 rfl rfl ?_
    have ne64 : b57 ≠ b60 := (Nat.ne_of_lt (Nat.lt_of_lt_of_le X57.lt (Nat.le_of_eq g60.symm)))
    refine Go.callS (cells' := 2) (slots' := 6) (pc' := 36) [(.ref b60), (.ref b57), (.int p1)] [] (hw _ (List.mem_of_getElem? (i := 32) rfl)) (hw _ (List.mem_of_getElem? (i := 33) rfl)) (hw _ (List.mem_of_getElem? (i := 34) rfl)) (hw _ (List.mem_of_getElem? (i := 35) rfl)) (by decide) (c_step l Z a0 hw h60 b60 b57 kA57 p1 (0 : Int64) (0 : Int64) (0 : Int64) w0 w1 w2 wm km s0 x0 o0 s1 x1 o1 s2 x2 o2 sm vm ge60 ge57 (Ne.symm ne64) A60 ((D60 (Or.inl (hw _ (List.mem_of_getElem? (i := 17) rfl))) (ty := .long) (by decide) : Fld Z h60 b60 "com/example/inquire/inquire/index/PageCounts" "articles" "J" (.long (0 : Int64)))) ((D60 (Or.inl (hw _ (List.mem_of_getElem? (i := 24) rfl))) (ty := .long) (by decide) : Fld Z h60 b60 "com/example/inquire/inquire/index/PageCounts" "redirects" "J" (.long (0 : Int64)))) ((D60 (Or.inl (hw _ (List.mem_of_getElem? (i := 31) rfl))) (ty := .long) (by decide) : Fld Z h60 b60 "com/example/inquire/inquire/index/PageCounts" "other" "J" (.long (0 : Int64)))) (V57.ext E60)) pd_6 rfl rfl rfl rfl rfl (Nat.le_of_ble_eq_true rfl) (Nat.le_of_ble_eq_true rfl) (Nat.le_of_ble_eq_true rfl) (Nat.le_of_ble_eq_true rfl) at_33 rfl ?_
    rintro _ h65 ⟨x2_65, y2_65, z2_65, rfl, K65, F65_0, F65_1, F65_2, F65_3⟩
    have K66 : Keep h h65 [] := K62.trans K65 (allS (Or.inr sz61) (allS (Or.inr sz58) all0))
    show Go _ _ _ _ _ _ _ _ _ _ _ _ 36 #[.val (.int p0), .val (.int p1), .val (.int p2), .val (.int p3), .val (.int p4), .val (.int (4 : Int32)), .val (.ref b57), .val (.ref b60)] []
    refine Go.iload (pc' := 38) at_36 rfl rfl ?_
    refine Go.iconst (pc' := 39) (v := (2 : Int32)) at_38 rfl rfl ?_
    refine Go.icmpNo (pc' := 42) at_39 (XT.ii_lt_f (by decide)) rfl ?_
    refine Go.aload (pc' := 44) at_42 rfl rfl rfl ?_
    refine Go.aload (pc' := 46) at_44 rfl rfl rfl ?_
    refine Go.iloadN (pc' := 47) at_46 rfl rfl ?_
    refine Go.callS (cells' := 2) (slots' := 6) (pc' := 50) [(.ref b60), (.ref b57), (.int p2)] [] (hw _ (List.mem_of_getElem? (i := 32) rfl)) (hw _ (List.mem_of_getElem? (i := 33) rfl)) (hw _ (List.mem_of_getElem? (i := 34) rfl)) (hw _ (List.mem_of_getElem? (i := 35) rfl)) (by decide) (c_step l Z a0 hw h65 b60 b57 kA57 p2 x2_65 y2_65 z2_65 w0 w1 w2 wm km s0 x0 o0 s1 x1 o1 s2 x2 o2 sm vm ge60 ge57 (Ne.symm ne64) (A60.keep K65) F65_0 F65_1 F65_2 F65_3) pd_6 rfl rfl rfl rfl rfl (Nat.le_of_ble_eq_true rfl) (Nat.le_of_ble_eq_true rfl) (Nat.le_of_ble_eq_true rfl) (Nat.le_of_ble_eq_true rfl) at_47 rfl ?_
    rintro _ h67 ⟨x2_67, y2_67, z2_67, rfl, K67, F67_0, F67_1, F67_2, F67_3⟩
    have K68 : Keep h h67 [] := K66.trans K67 (allS (Or.inr sz61) (allS (Or.inr sz58) all0))
    show Go _ _ _ _ _ _ _ _ _ _ _ _ 50 #[.val (.int p0), .val (.int p1), .val (.int p2), .val (.int p3), .val (.int p4), .val (.int (4 : Int32)), .val (.ref b57), .val (.ref b60)] []
    refine Go.iload (pc' := 52) at_50 rfl rfl ?_
    refine Go.iconst (pc' := 53) (v := (3 : Int32)) at_52 rfl rfl ?_
    refine Go.icmpNo (pc' := 56) at_53 (XT.ii_lt_f (by decide)) rfl ?_
    refine Go.aload (pc' := 58) at_56 rfl rfl rfl ?_
    refine Go.aload (pc' := 60) at_58 rfl rfl rfl ?_
    refine Go.iloadN (pc' := 61) at_60 rfl rfl ?_
    refine Go.callS (cells' := 2) (slots' := 6) (pc' := 64) [(.ref b60), (.ref b57), (.int p3)] [] (hw _ (List.mem_of_getElem? (i := 32) rfl)) (hw _ (List.mem_of_getElem? (i := 33) rfl)) (hw _ (List.mem_of_getElem? (i := 34) rfl)) (hw _ (List.mem_of_getElem? (i := 35) rfl)) (by decide) (c_step l Z a0 hw h67 b60 b57 kA57 p3 x2_67 y2_67 z2_67 w0 w1 w2 wm km s0 x0 o0 s1 x1 o1 s2 x2 o2 sm vm ge60 ge57 (Ne.symm ne64) (((A60.keep K65).keep K67)) F67_0 F67_1 F67_2 F67_3) pd_6 rfl rfl rfl rfl rfl (Nat.le_of_ble_eq_true rfl) (Nat.le_of_ble_eq_true rfl) (Nat.le_of_ble_eq_true rfl) (Nat.le_of_ble_eq_true rfl) at_61 rfl ?_
    rintro _ h69 ⟨x2_69, y2_69, z2_69, rfl, K69, F69_0, F69_1, F69_2, F69_3⟩
    have K70 : Keep h h69 [] := K68.trans K69 (allS (Or.inr sz61) (allS (Or.inr sz58) all0))
    show Go _ _ _ _ _ _ _ _ _ _ _ _ 64 #[.val (.int p0), .val (.int p1), .val (.int p2), .val (.int p3), .val (.int p4), .val (.int (4 : Int32)), .val (.ref b57), .val (.ref b60)] []
    refine Go.iload (pc' := 66) at_64 rfl rfl ?_
    refine Go.iconst (pc' := 67) (v := (4 : Int32)) at_66 rfl rfl ?_
    refine Go.icmpNo (pc' := 70) at_67 (XT.ii_lt_f (by decide)) rfl ?_
    refine Go.aload (pc' := 72) at_70 rfl rfl rfl ?_
    refine Go.aload (pc' := 74) at_72 rfl rfl rfl ?_
    refine Go.iload (pc' := 76) at_74 rfl rfl ?_
    refine Go.callS (cells' := 2) (slots' := 6) (pc' := 79) [(.ref b60), (.ref b57), (.int p4)] [] (hw _ (List.mem_of_getElem? (i := 32) rfl)) (hw _ (List.mem_of_getElem? (i := 33) rfl)) (hw _ (List.mem_of_getElem? (i := 34) rfl)) (hw _ (List.mem_of_getElem? (i := 35) rfl)) (by decide) (c_step l Z a0 hw h69 b60 b57 kA57 p4 x2_69 y2_69 z2_69 w0 w1 w2 wm km s0 x0 o0 s1 x1 o1 s2 x2 o2 sm vm ge60 ge57 (Ne.symm ne64) ((((A60.keep K65).keep K67).keep K69)) F69_0 F69_1 F69_2 F69_3) pd_6 rfl rfl rfl rfl rfl (Nat.le_of_ble_eq_true rfl) (Nat.le_of_ble_eq_true rfl) (Nat.le_of_ble_eq_true rfl) (Nat.le_of_ble_eq_true rfl) at_76 rfl ?_
    rintro _ h71 ⟨x2_71, y2_71, z2_71, rfl, K71, F71_0, F71_1, F71_2, F71_3⟩
    have K72 : Keep h h71 [] := K70.trans K71 (allS (Or.inr sz61) (allS (Or.inr sz58) all0))
    show Go _ _ _ _ _ _ _ _ _ _ _ _ 79 #[.val (.int p0), .val (.int p1), .val (.int p2), .val (.int p3), .val (.int p4), .val (.int (4 : Int32)), .val (.ref b57), .val (.ref b60)] []
    refine Go.aload (pc' := 81) at_79 rfl rfl rfl ?_
    have f73 : Exa Z h71 b60 "com/example/inquire/inquire/index/PageCounts" := ((((A60.keep K65).keep K67).keep K69).keep K71)
    refine Go.callV (cells' := 2) (slots' := 6) (pc' := 84) [] [] f73 (hw _ (List.mem_of_getElem? (i := 11) rfl)) (hw _ (List.mem_of_getElem? (i := 12) rfl)) (fun s' hs' => notFace_of_selects (args := #[]) (mvT hs' (hw _ (List.mem_of_getElem? (i := 14) rfl)))) (hw _ (List.mem_of_getElem? (i := 14) rfl)) (hw _ (List.mem_of_getElem? (i := 13) rfl)) (hw _ (List.mem_of_getElem? (i := 4) rfl)) (hw _ (List.mem_of_getElem? (i := 15) rfl)) (by decide) (c_get0 l Z a0 hw h71 b60 x2_71 F71_0) pd_5 rfl rfl rfl rfl rfl (Nat.le_of_ble_eq_true rfl) (Nat.le_of_ble_eq_true rfl) (Nat.le_of_ble_eq_true rfl) (Nat.le_of_ble_eq_true rfl) at_81 rfl ?_
    rintro _ _ ⟨rfl, rfl⟩
    show Go _ _ _ _ _ _ _ _ _ _ _ _ 84 #[.val (.int p0), .val (.int p1), .val (.int p2), .val (.int p3), .val (.int p4), .val (.int (4 : Int32)), .val (.ref b57), .val (.ref b60)] [(.long x2_71)]
    refine Go.aload (pc' := 86) at_84 rfl rfl rfl ?_
    refine Go.iconst (pc' := 87) (v := (0 : Int32)) at_86 rfl rfl ?_
    refine Go.laload (pc' := 88) (v := x2_71) F71_3 at_87 (by decide) (by decide) rfl rfl ?_
    refine Go.lcmp (pc' := 89) at_88 rfl ?_
    refine Go.ifNo (pc' := 92) at_89 (XT.ll_ne_f rfl) rfl ?_
    refine Go.aload (pc' := 94) at_92 rfl rfl rfl ?_
    refine Go.callV (cells' := 2) (slots' := 6) (pc' := 97) [] [] f73 (hw _ (List.mem_of_getElem? (i := 18) rfl)) (hw _ (List.mem_of_getElem? (i := 19) rfl)) (fun s' hs' => notFace_of_selects (args := #[]) (mvT hs' (hw _ (List.mem_of_getElem? (i := 21) rfl)))) (hw _ (List.mem_of_getElem? (i := 21) rfl)) (hw _ (List.mem_of_getElem? (i := 20) rfl)) (hw _ (List.mem_of_getElem? (i := 4) rfl)) (hw _ (List.mem_of_getElem? (i := 22) rfl)) (by decide) (c_get1 l Z a0 hw h71 b60 y2_71 F71_1) pd_5 rfl rfl rfl rfl rfl (Nat.le_of_ble_eq_true rfl) (Nat.le_of_ble_eq_true rfl) (Nat.le_of_ble_eq_true rfl) (Nat.le_of_ble_eq_true rfl) at_94 rfl ?_
    rintro _ _ ⟨rfl, rfl⟩
    show Go _ _ _ _ _ _ _ _ _ _ _ _ 97 #[.val (.int p0), .val (.int p1), .val (.int p2), .val (.int p3), .val (.int p4), .val (.int (4 : Int32)), .val (.ref b57), .val (.ref b60)] [(.long y2_71)]
    refine Go.aload (pc' := 99) at_97 rfl rfl rfl ?_
    refine Go.iconst (pc' := 100) (v := (1 : Int32)) at_99 rfl rfl ?_
    refine Go.laload (pc' := 101) (v := y2_71) F71_3 at_100 (by decide) (by decide) rfl rfl ?_
    refine Go.lcmp (pc' := 102) at_101 rfl ?_
    refine Go.ifNo (pc' := 105) at_102 (XT.ll_ne_f rfl) rfl ?_
    refine Go.aload (pc' := 107) at_105 rfl rfl rfl ?_
    refine Go.callV (cells' := 2) (slots' := 6) (pc' := 110) [] [] f73 (hw _ (List.mem_of_getElem? (i := 25) rfl)) (hw _ (List.mem_of_getElem? (i := 26) rfl)) (fun s' hs' => notFace_of_selects (args := #[]) (mvT hs' (hw _ (List.mem_of_getElem? (i := 28) rfl)))) (hw _ (List.mem_of_getElem? (i := 28) rfl)) (hw _ (List.mem_of_getElem? (i := 27) rfl)) (hw _ (List.mem_of_getElem? (i := 4) rfl)) (hw _ (List.mem_of_getElem? (i := 29) rfl)) (by decide) (c_get2 l Z a0 hw h71 b60 z2_71 F71_2) pd_5 rfl rfl rfl rfl rfl (Nat.le_of_ble_eq_true rfl) (Nat.le_of_ble_eq_true rfl) (Nat.le_of_ble_eq_true rfl) (Nat.le_of_ble_eq_true rfl) at_107 rfl ?_
    rintro _ _ ⟨rfl, rfl⟩
    show Go _ _ _ _ _ _ _ _ _ _ _ _ 110 #[.val (.int p0), .val (.int p1), .val (.int p2), .val (.int p3), .val (.int p4), .val (.int (4 : Int32)), .val (.ref b57), .val (.ref b60)] [(.long z2_71)]
    refine Go.aload (pc' := 112) at_110 rfl rfl rfl ?_
    refine Go.iconst (pc' := 113) (v := (2 : Int32)) at_112 rfl rfl ?_
    refine Go.laload (pc' := 114) (v := z2_71) F71_3 at_113 (by decide) (by decide) rfl rfl ?_
    refine Go.lcmp (pc' := 115) at_114 rfl ?_
    refine Go.ifNo (pc' := 118) at_115 (XT.ll_ne_f rfl) rfl ?_
    refine Go.iconst (pc' := 119) (v := (1 : Int32)) at_118 rfl rfl ?_
    refine Go.goto (pc' := 123) at_119 (by decide) (by decide) ?_
    exact Go.retN (t := .boolean) rfl (by simp) at_123 ⟨rfl, K72⟩ (by decide) (by decide)
set_option maxRecDepth 65536 in
set_option maxHeartbeats 4000000 in
theorem comes_1 {Post : Tables → Env → Array Value → State → Outcome → State → Prop} (hpost : ∀ tb e args s v u, (limb_1_1.after args s (.returned v) u = true ∧ limb_1_2.after args s (.returned v) u = true ∧ True) → FrameEnd s (.returned v) u (Jvm.fieldLocs frame_1_writes args s ++ Jvm.arrayLocs frame_1_arrays args s ++ Jvm.staticLocs frame_1_statics s) 16 128 → Post tb e args s (.returned v) u) :
    ArmFor flags0 classFile x code maxLocals ret World_1 tables_1 room_1 Calls_1 rest_1 Pre_1 Post := by
  intro l hfl _ _ p e ha hc hk s m args below hf hA hF happ hP
  obtain ⟨hcalls, hrest, hpre⟩ := hP
  obtain ⟨-, -, -, hnamed, -, -, -, hat⟩ := (Spec.applies_iff hf).mp happ
  obtain ⟨hg, hn⟩ := and_e (Cond.before_iff.mp (show (Jvm.Cond.and given_1 narrow_1).before args s = true from hpre))
  obtain ⟨g1, g2⟩ := and_e hg
  obtain ⟨g3, g4⟩ := and_e g2
  obtain ⟨g5, g6⟩ := and_e g4
  obtain ⟨g7, g8⟩ := and_e g6
  obtain ⟨g9, g10⟩ := and_e g8
  obtain ⟨w0, w1, w2, w3, w4, rfl⟩ : ∃ w0 w1 w2 w3 w4 : Value, args = #[w0, w1, w2, w3, w4] := by
    have hs : args.size = 5 := by simpa [Cond.value, given_1] using g1
    obtain ⟨L⟩ := args
    match L, hs with
    | [w0, w1, w2, w3, w4], _ => exact ⟨w0, w1, w2, w3, w4, rfl⟩
  have hw := fun d (hd : d ∈ tables_1) => atoms_spec (ws := Jvm.Cond.code x code maxLocals ret :: tables_1) hat d (List.mem_cons_of_mem _ hd)
  have hfit : Fit s := fun {y c} hc i hi => by
    obtain ⟨ha, rfl⟩ := Array.getElem?_eq_some_iff.mp hc
    have q := List.all_eq_true.mp ((Array.all_eq_true_iff_forall_mem.mp hF) _ (Array.getElem_mem ha)) i (List.mem_range.mpr hi)
    simpa [Array.getElem?_eq_getElem hi] using q
  obtain ⟨i0, ei0⟩ := is_v g3
  obtain rfl : w0 = (.int i0) := Option.some.inj ei0
  obtain ⟨i1, ei1⟩ := is_v g5
  obtain rfl : w1 = (.int i1) := Option.some.inj ei1
  obtain ⟨i2, ei2⟩ := is_v g7
  obtain rfl : w2 = (.int i2) := Option.some.inj ei2
  obtain ⟨i3, ei3⟩ := is_v g9
  obtain rfl : w3 = (.int i3) := Option.some.inj ei3
  obtain ⟨i4, ei4⟩ := is_v g10
  obtain rfl : w4 = (.int i4) := Option.some.inj ei4
  obtain ⟨c0, cr0⟩ := and_e hn
  obtain ⟨c1, cr1⟩ := and_e cr0
  obtain ⟨c2, cr2⟩ := and_e cr1
  obtain ⟨c3, cr3⟩ := and_e cr2
  obtain ⟨c4, cr4⟩ := and_e cr3
  obtain ⟨c5, cr5⟩ := and_e cr4
  obtain ⟨c6, cr6⟩ := and_e cr5
  obtain ⟨c7, cr7⟩ := and_e cr6
  obtain ⟨c8, cr8⟩ := and_e cr7
  obtain ⟨c9, cr9⟩ := and_e cr8
  obtain ⟨w0, ev_w0⟩ := exa_v c5
  have exa_w0 := Exa.start ev_w0 c5
  have sta_w0 := Sta.start ev_w0 (Or.inr ⟨(hw _ (List.mem_of_getElem? (i := 43) rfl)), (hw _ (List.mem_of_getElem? (i := 63) rfl))⟩)
  have ord_0 := own_fld ev_w0 (own_eqI c6)
  obtain ⟨w1, ev_w1⟩ := exa_v c0
  have exa_w1 := Exa.start ev_w1 c0
  have sta_w1 := Sta.start ev_w1 (Or.inr ⟨(hw _ (List.mem_of_getElem? (i := 43) rfl)), (hw _ (List.mem_of_getElem? (i := 44) rfl))⟩)
  have ord_1 := own_fld ev_w1 (own_eqI c3)
  obtain ⟨w2, ev_w2⟩ := exa_v c8
  have exa_w2 := Exa.start ev_w2 c8
  have sta_w2 := Sta.start ev_w2 (Or.inr ⟨(hw _ (List.mem_of_getElem? (i := 43) rfl)), (hw _ (List.mem_of_getElem? (i := 65) rfl))⟩)
  have ord_2 := own_fld ev_w2 (own_eqI c9)
  obtain ⟨wm, ev_wm⟩ := arr_v c1
  obtain ⟨cm, Am, hm1, hm2⟩ := own_arr ev_wm c1 (own_eqI c2)
  have sta_wm := Sta.start ev_wm (Or.inr ⟨(hw _ (List.mem_of_getElem? (i := 51) rfl)), (hw _ (List.mem_of_getElem? (i := 52) rfl))⟩)
  have vm : Arv s s.heap wm cm.cls .int (3 : Int32) [(.int 1), (.int 2), (.int 3)] (.int 0) := Arv.start hfit Am hm1 hm2 (by decide) rfl ⟨own_elem ev_wm Am (by decide) (own_eqI c7), own_elem ev_wm Am (by decide) (own_eqI c4), own_elem ev_wm Am (by decide) (own_eqI cr9), trivial⟩
  obtain ⟨n, o, h1, h2, h3, _, L, rfl, ⟨hQ, N⟩, hq⟩ := c_law l s _ hw s.heap i0 i1 i2 i3 i4 w0 w1 w2 wm cm.cls sta_w0 exa_w0 ord_0 sta_w1 exa_w1 ord_1 sta_w2 exa_w2 ord_2 sta_wm vm (Old.start s) tables_1 p e ha hc hk s m _ below hf ((Spec.applies_iff_loose hf).mp happ).1 ⟨rfl, State.Warmed39.refl s, rfl⟩ trivial
  obtain rfl := hQ.1
  refine ⟨n, _, h1, h2, h3, hpost _ _ _ _ _ _ ⟨Cond.after_iff.mpr rfl, Cond.after_iff.mpr (eq_i res_at (Term.int_eval (1)) rfl), trivial⟩ ⟨hq.1, hq.2.1, (hq.2.2.sift fun y hy => Or.inr (N y hy)).mono (by decide) (by decide)⟩⟩
theorem main_1_1 : Claimed_1_1 := comes_1 fun _ _ _ _ _ _ h hF => ⟨h.1, hF⟩
theorem main_1_2 : Claimed_1_2 := comes_1 fun _ _ _ _ _ _ h hF => ⟨h.2.1, hF⟩

end Jvm.Pilot.@@N@@
namespace Jvm.Pilot.@@N@@
open Jvm Jvm.ClassFile Sem Op Lib Jvm.Free Jvm.Stand Jvm.Pilot.@@N@@.Jvm.D
/-! MADE BY PROGRAM (witnessworld.py) out of the Statement's table words and the real class files: 16 classes; the members and pool entries that the words name. The judged class is class 1, her method 4. -/
namespace start1
open Jvm.ClassFile
def u (s : String) : CpInfo := .utf8 (stringToUtf16 s)
/-- a pool by its gaps: so many unusable entries, then the entry; so many at the end -/
def gap : Nat → List CpInfo → List CpInfo
  | 0, r => r
  | n + 1, r => .unusable :: gap n r
def poolList (es : List (Nat × CpInfo)) (last : Nat) : List CpInfo := es.foldr (fun e r => gap e.1 (e.2 :: r)) (gap last [])
def pool (es : List (Nat × CpInfo)) (last : Nat) : Array CpInfo := ⟨poolList es last⟩
def fileOf (pool : Array CpInfo) (this : Nat) (attrs : Array Attribute := #[]) (ms : Array MethodInfo := #[]) (fl : Nat := 33) (sup : Nat := 0) (ifs : Array Nat := #[]) (fds : Array FieldInfo := #[]) : ClassFile where
  minorVersion := 0
  majorVersion := 65
  constantPool := pool
  accessFlags := fl
  thisClass := this
  superClass := sup
  interfaces := ifs
  fields := fds
  methods := ms
  attributes := attrs
def plain (name : String) (sup : Option ClassId) : Class where
  name := name
  kind := .ordinary
  loader := none
  accessFlags := 33
  super := sup
  interfaces := #[]
  cf := none
  fields := #[]
  methods := #[]
  instanceTypes := #[]
  staticTypes := #[]
  resolved := #[]
  callSites := []
  init := .initialized
  statics := none
  mirror := none

def pool0 : Array CpInfo := pool [(5, u "<init>"), (0, u "()V"), (1, .class_ 10), (1, u "java/lang/Object")] 113

def k0c0 : Code := { maxStack := 0, maxLocals := 1, code := object_method_1_code, exceptionTable := #[], attributes := #[] }
def k0m0 : Method := { name := "<init>", desc := "()V", sig := { parameters := [], returnType := none }, accessFlags := 1, code := some k0c0 }
/-- java/lang/Object -/
def k0 : Class := { plain "java/lang/Object" none with
  accessFlags := 33
  interfaces := #[]
  cf := some (fileOf pool0 8 #[] #[{ accessFlags := 1, nameIndex := 5, descriptorIndex := 6, attributes := #[] }] 33 0 #[] #[])
  fields := #[]
  methods := #[k0m0]
  instanceTypes := #[]
  staticTypes := #[]
  resolved := Array.replicate 124 none
  statics := none }

def pool1 : Array CpInfo := pool [(2, .class_ 4), (0, .nameAndType 5 6), (0, u "java/lang/Object"), (0, u "<init>"), (0, u "()V"), (0, .integer 2147483647), (0, .fieldref 9 10), (0, .class_ 11), (0, .nameAndType 12 13), (0, u "com/example/inquire/inquire/io/Page$Kind"), (0, u "ARTICLE"), (0, u "Lcom/example/inquire/inquire/io/Page$Kind;"), (0, .fieldref 9 15), (0, .nameAndType 16 13), (0, u "REDIRECT"), (0, .fieldref 9 18), (0, .nameAndType 19 13), (0, u "OTHER"), (0, .methodref 21 22), (0, .class_ 23), (0, .nameAndType 24 25), (0, u "com/example/inquire/inquire/index/PageCountsCountPinLaw"), (0, u "pick"), (0, u "(I)I"), (0, .methodref 21 27), (0, .nameAndType 28 29), (0, u "kindOf"), (0, u "(I)Lcom/example/inquire/inquire/io/Page$Kind;"), (0, .methodref 31 32), (0, .class_ 33), (0, .nameAndType 34 35), (0, u "com/example/inquire/inquire/index/PageCounts"), (0, u "count"), (0, u "(Lcom/example/inquire/inquire/io/Page$Kind;)V"), (0, .methodref 31 3), (0, .methodref 21 38), (0, .nameAndType 39 40), (0, u "step"), (0, u "(Lcom/example/inquire/inquire/index/PageCounts;[JI)V"), (0, .methodref 31 42), (0, .nameAndType 43 44), (0, u "getArticles"), (0, u "()J"), (0, .methodref 31 46), (0, .nameAndType 47 44), (0, u "getRedirects"), (0, .methodref 31 49), (0, .nameAndType 50 44), (0, u "getOther"), (3, u "law"), (0, u "(IIIII)Z")] 8

def k1m0 : Method := { name := "<init>", desc := "()V", sig := { parameters := [], returnType := none }, accessFlags := 1, code := none }
def k1c1 : Code := { maxStack := 2, maxLocals := 1, code := method_2_code, exceptionTable := #[], attributes := #[] }
def k1m1 : Method := { name := "pick", desc := "(I)I", sig := { parameters := [.int], returnType := some .int }, accessFlags := 10, code := some k1c1 }
def k1c2 : Code := { maxStack := 2, maxLocals := 1, code := method_3_code, exceptionTable := #[], attributes := #[] }
def k1m2 : Method := { name := "kindOf", desc := "(I)Lcom/example/inquire/inquire/io/Page$Kind;", sig := { parameters := [.int], returnType := some (.object "com/example/inquire/inquire/io/Page$Kind") }, accessFlags := 10, code := some k1c2 }
def k1c3 : Code := { maxStack := 6, maxLocals := 4, code := method_4_code, exceptionTable := #[], attributes := #[] }
def k1m3 : Method := { name := "step", desc := "(Lcom/example/inquire/inquire/index/PageCounts;[JI)V", sig := { parameters := [(.object "com/example/inquire/inquire/index/PageCounts"), (.array .long), .int], returnType := none }, accessFlags := 10, code := some k1c3 }
def k1c4 : Code := { maxStack := 4, maxLocals := 8, code := code, exceptionTable := #[], attributes := #[] }
def k1m4 : Method := { name := "law", desc := "(IIIII)Z", sig := { parameters := [.int, .int, .int, .int, .int], returnType := some .boolean }, accessFlags := 9, code := some k1c4 }
/-- com/example/inquire/inquire/index/PageCountsCountPinLaw -/
def k1 : Class := { plain "com/example/inquire/inquire/index/PageCountsCountPinLaw" (some 0) with
  accessFlags := 49
  interfaces := #[]
  cf := some (fileOf pool1 21 #[] #[{ accessFlags := 1, nameIndex := 5, descriptorIndex := 6, attributes := #[] }, { accessFlags := 10, nameIndex := 24, descriptorIndex := 25, attributes := #[] }, { accessFlags := 10, nameIndex := 28, descriptorIndex := 29, attributes := #[] }, { accessFlags := 10, nameIndex := 39, descriptorIndex := 40, attributes := #[] }, { accessFlags := 9, nameIndex := 54, descriptorIndex := 55, attributes := #[] }] 49 2 #[] #[])
  fields := #[]
  methods := #[k1m0, k1m1, k1m2, k1m3, k1m4]
  instanceTypes := #[]
  staticTypes := #[]
  resolved := Array.replicate 64 none
  statics := none }

def pool2 : Array CpInfo := pool [(1, .methodref 2 3), (0, .class_ 4), (0, .nameAndType 5 6), (0, u "java/lang/Object"), (0, u "<init>"), (0, u "()V"), (0, .fieldref 8 9), (0, .class_ 10), (0, .nameAndType 11 12), (0, u "com/example/inquire/inquire/index/PageCounts$1"), (0, u "$SwitchMap$com$example$inquire$inquire$io$Page$Kind"), (0, u "[I"), (0, .methodref 14 15), (0, .class_ 16), (0, .nameAndType 17 18), (0, u "com/example/inquire/inquire/io/Page$Kind"), (0, u "ordinal"), (0, u "()I"), (0, .fieldref 20 21), (0, .class_ 22), (0, .nameAndType 23 24), (0, u "com/example/inquire/inquire/index/PageCounts"), (0, u "articles"), (0, u "J"), (0, .fieldref 20 26), (0, .nameAndType 27 24), (0, u "redirects"), (0, .fieldref 20 29), (0, .nameAndType 30 24), (0, u "other"), (2, u "count"), (0, u "(Lcom/example/inquire/inquire/io/Page$Kind;)V"), (1, u "getArticles"), (0, u "()J"), (0, u "getRedirects"), (0, u "getOther")] 7

def k2c0 : Code := { maxStack := 1, maxLocals := 1, code := prog_31_method_1_code, exceptionTable := #[], attributes := #[] }
def k2m0 : Method := { name := "<init>", desc := "()V", sig := { parameters := [], returnType := none }, accessFlags := 1, code := some k2c0 }
def k2c1 : Code := { maxStack := 5, maxLocals := 2, code := prog_31_method_2_code, exceptionTable := #[], attributes := #[] }
def k2m1 : Method := { name := "count", desc := "(Lcom/example/inquire/inquire/io/Page$Kind;)V", sig := { parameters := [(.object "com/example/inquire/inquire/io/Page$Kind")], returnType := none }, accessFlags := 0, code := some k2c1 }
def k2c2 : Code := { maxStack := 2, maxLocals := 1, code := prog_31_method_3_code, exceptionTable := #[], attributes := #[] }
def k2m2 : Method := { name := "getArticles", desc := "()J", sig := { parameters := [], returnType := some .long }, accessFlags := 1, code := some k2c2 }
def k2c3 : Code := { maxStack := 2, maxLocals := 1, code := prog_31_method_4_code, exceptionTable := #[], attributes := #[] }
def k2m3 : Method := { name := "getRedirects", desc := "()J", sig := { parameters := [], returnType := some .long }, accessFlags := 1, code := some k2c3 }
def k2c4 : Code := { maxStack := 2, maxLocals := 1, code := prog_31_method_5_code, exceptionTable := #[], attributes := #[] }
def k2m4 : Method := { name := "getOther", desc := "()J", sig := { parameters := [], returnType := some .long }, accessFlags := 1, code := some k2c4 }
/-- com/example/inquire/inquire/index/PageCounts -/
def k2 : Class := { plain "com/example/inquire/inquire/index/PageCounts" (some 0) with
  accessFlags := 49
  interfaces := #[]
  cf := some (fileOf pool2 20 #[.nestMembers #[8]] #[{ accessFlags := 1, nameIndex := 5, descriptorIndex := 6, attributes := #[] }, { accessFlags := 0, nameIndex := 33, descriptorIndex := 34, attributes := #[] }, { accessFlags := 1, nameIndex := 36, descriptorIndex := 37, attributes := #[] }, { accessFlags := 1, nameIndex := 38, descriptorIndex := 37, attributes := #[] }, { accessFlags := 1, nameIndex := 39, descriptorIndex := 37, attributes := #[] }] 49 2 #[] #[{ accessFlags := 2, nameIndex := 23, descriptorIndex := 24, attributes := #[] }, { accessFlags := 2, nameIndex := 27, descriptorIndex := 24, attributes := #[] }, { accessFlags := 2, nameIndex := 30, descriptorIndex := 24, attributes := #[] }])
  fields := #[{ name := "articles", type := .long, accessFlags := 2, slot := 0, constantValue := 0 }, { name := "redirects", type := .long, accessFlags := 2, slot := 1, constantValue := 0 }, { name := "other", type := .long, accessFlags := 2, slot := 2, constantValue := 0 }]
  methods := #[k2m0, k2m1, k2m2, k2m3, k2m4]
  instanceTypes := #[.long, .long, .long]
  staticTypes := #[]
  resolved := Array.replicate 47 none
  statics := none }

def pool3 : Array CpInfo := pool [(1, .class_ 2), (0, u "java/lang/constant/Constable"), (0, .class_ 4), (0, u "java/lang/Object")] 6

/-- java/lang/constant/Constable -/
def k3 : Class := { plain "java/lang/constant/Constable" (some 0) with
  accessFlags := 1537
  interfaces := #[]
  cf := some (fileOf pool3 1 #[] #[] 1537 3 #[] #[])
  fields := #[]
  methods := #[]
  instanceTypes := #[]
  staticTypes := #[]
  resolved := Array.replicate 11 none
  statics := none }

def pool4 : Array CpInfo := pool [(1, .class_ 2), (0, u "java/lang/Comparable"), (0, .class_ 4), (0, u "java/lang/Object")] 7

/-- java/lang/Comparable -/
def k4 : Class := { plain "java/lang/Comparable" (some 0) with
  accessFlags := 1537
  interfaces := #[]
  cf := some (fileOf pool4 1 #[] #[] 1537 3 #[] #[])
  fields := #[]
  methods := #[]
  instanceTypes := #[]
  staticTypes := #[]
  resolved := Array.replicate 12 none
  statics := none }

def pool5 : Array CpInfo := pool [(1, .class_ 2), (0, u "java/io/Serializable"), (0, .class_ 4), (0, u "java/lang/Object")] 2

/-- java/io/Serializable -/
def k5 : Class := { plain "java/io/Serializable" (some 0) with
  accessFlags := 1537
  interfaces := #[]
  cf := some (fileOf pool5 1 #[] #[] 1537 3 #[] #[])
  fields := #[]
  methods := #[]
  instanceTypes := #[]
  staticTypes := #[]
  resolved := Array.replicate 7 none
  statics := none }

def pool6 : Array CpInfo := pool [(2, .class_ 4), (1, u "java/lang/Enum"), (0, u "name"), (0, u "Ljava/lang/String;"), (0, .fieldref 2 8), (0, .nameAndType 9 10), (0, u "ordinal"), (0, u "I"), (1, .class_ 14), (1, u "java/lang/Object"), (4, u "hash"), (86, .class_ 108), (1, u "java/lang/Enum$EnumDesc"), (2, .class_ 112), (0, u "java/lang/constant/Constable"), (0, .class_ 114), (0, u "java/lang/Comparable"), (0, .class_ 116), (0, u "java/io/Serializable"), (9, u "()I")] 77

def k6c0 : Code := { maxStack := 1, maxLocals := 1, code := jdk_37_method_2_code, exceptionTable := #[], attributes := #[] }
def k6m0 : Method := { name := "ordinal", desc := "()I", sig := { parameters := [], returnType := some .int }, accessFlags := 17, code := some k6c0 }
/-- java/lang/Enum -/
def k6 : Class := { plain "java/lang/Enum" (some 0) with
  accessFlags := 1057
  interfaces := #[3, 4, 5]
  cf := some (fileOf pool6 2 #[.nestMembers #[106]] #[{ accessFlags := 17, nameIndex := 9, descriptorIndex := 126, attributes := #[] }] 1057 12 #[111, 113, 115] #[{ accessFlags := 18, nameIndex := 5, descriptorIndex := 6, attributes := #[] }, { accessFlags := 18, nameIndex := 9, descriptorIndex := 10, attributes := #[] }, { accessFlags := 2, nameIndex := 19, descriptorIndex := 10, attributes := #[] }])
  fields := #[{ name := "name", type := (.object "java/lang/String"), accessFlags := 18, slot := 0, constantValue := 0 }, { name := "ordinal", type := .int, accessFlags := 18, slot := 1, constantValue := 0 }, { name := "hash", type := .int, accessFlags := 2, slot := 2, constantValue := 0 }]
  methods := #[k6m0]
  instanceTypes := #[(.object "java/lang/String"), .int, .int]
  staticTypes := #[]
  resolved := Array.replicate 204 none
  statics := none }

def pool7 : Array CpInfo := pool [(1, .class_ 2), (0, u "com/example/inquire/inquire/io/Page$Kind"), (2, u "ARTICLE"), (0, u "Lcom/example/inquire/inquire/io/Page$Kind;"), (2, u "REDIRECT"), (2, u "OTHER"), (2, u "$VALUES"), (0, u "[Lcom/example/inquire/inquire/io/Page$Kind;"), (6, .class_ 25), (1, u "java/lang/Enum"), (26, .class_ 53), (0, u "com/example/inquire/inquire/io/Page")] 2

/-- com/example/inquire/inquire/io/Page$Kind -/
def k7 : Class := { plain "com/example/inquire/inquire/io/Page$Kind" (some 6) with
  accessFlags := 16433
  interfaces := #[]
  cf := some (fileOf pool7 1 #[.nestHost 52] #[] 16433 23 #[] #[{ accessFlags := 16409, nameIndex := 5, descriptorIndex := 6, attributes := #[] }, { accessFlags := 16409, nameIndex := 9, descriptorIndex := 6, attributes := #[] }, { accessFlags := 16409, nameIndex := 12, descriptorIndex := 6, attributes := #[] }, { accessFlags := 4122, nameIndex := 15, descriptorIndex := 16, attributes := #[] }])
  fields := #[{ name := "ARTICLE", type := (.object "com/example/inquire/inquire/io/Page$Kind"), accessFlags := 16409, slot := 0, constantValue := 0 }, { name := "REDIRECT", type := (.object "com/example/inquire/inquire/io/Page$Kind"), accessFlags := 16409, slot := 1, constantValue := 0 }, { name := "OTHER", type := (.object "com/example/inquire/inquire/io/Page$Kind"), accessFlags := 16409, slot := 2, constantValue := 0 }, { name := "$VALUES", type := (.array (.object "com/example/inquire/inquire/io/Page$Kind")), accessFlags := 4122, slot := 3, constantValue := 0 }]
  methods := #[]
  instanceTypes := #[(.object "java/lang/String"), .int, .int]
  staticTypes := #[(.object "com/example/inquire/inquire/io/Page$Kind"), (.object "com/example/inquire/inquire/io/Page$Kind"), (.object "com/example/inquire/inquire/io/Page$Kind"), (.array (.object "com/example/inquire/inquire/io/Page$Kind"))]
  resolved := Array.replicate 56 none
  statics := some 0 }

def pool8 : Array CpInfo := pool [(8, .class_ 10), (1, u "com/example/inquire/inquire/index/PageCounts$1"), (0, u "$SwitchMap$com$example$inquire$inquire$io$Page$Kind"), (0, u "[I"), (16, .class_ 30), (0, u "java/lang/Object"), (8, .class_ 40), (0, u "com/example/inquire/inquire/index/PageCounts")] 5

/-- com/example/inquire/inquire/index/PageCounts$1 -/
def k8 : Class := { plain "com/example/inquire/inquire/index/PageCounts$1" (some 0) with
  accessFlags := 4128
  interfaces := #[]
  cf := some (fileOf pool8 8 #[.nestHost 39] #[] 4128 29 #[] #[{ accessFlags := 4120, nameIndex := 11, descriptorIndex := 12, attributes := #[] }])
  fields := #[{ name := "$SwitchMap$com$example$inquire$inquire$io$Page$Kind", type := (.array .int), accessFlags := 4120, slot := 0, constantValue := 0 }]
  methods := #[]
  instanceTypes := #[]
  staticTypes := #[(.array .int)]
  resolved := Array.replicate 46 none
  statics := some 1 }

def pool9 : Array CpInfo := pool [(1, u "java/lang/Cloneable"), (0, .class_ 1), (0, u "java/lang/Object"), (0, .class_ 3)] 3

/-- java/lang/Cloneable -/
def k9 : Class := { plain "java/lang/Cloneable" (some 0) with
  accessFlags := 1537
  interfaces := #[]
  cf := some (fileOf pool9 2 #[] #[] 1537 4 #[] #[])
  fields := #[]
  methods := #[]
  instanceTypes := #[]
  staticTypes := #[]
  resolved := Array.replicate 8 none
  statics := none }

/-- the primitive byte -/
def k10 : Class := { plain "byte" none with kind := .primitive 'B', accessFlags := 0x411 }
/-- [B -/
def k11 : Class := { plain "[B" (some 0) with kind := .array 10 .byte, interfaces := #[9, 5], accessFlags := 1041 }

/-- the primitive int -/
def k12 : Class := { plain "int" none with kind := .primitive 'I', accessFlags := 0x411 }
/-- [I -/
def k13 : Class := { plain "[I" (some 0) with kind := .array 12 .int, interfaces := #[9, 5], accessFlags := 1041 }

/-- the primitive long -/
def k14 : Class := { plain "long" none with kind := .primitive 'J', accessFlags := 0x411 }
/-- [J -/
def k15 : Class := { plain "[J" (some 0) with kind := .array 14 .long, interfaces := #[9, 5], accessFlags := 1041 }

def heap : Heap := #[{ cls := 7, slots := #[.ref 2, .ref 3, .ref 4, .null], vm := .statics 7 },
  { cls := 8, slots := #[.ref 5], vm := .statics 8 },
  { cls := 7, slots := #[.null, .int 0, .int 0], vm := .none },
  { cls := 7, slots := #[.null, .int 1, .int 0], vm := .none },
  { cls := 7, slots := #[.null, .int 2, .int 0], vm := .none },
  { cls := 13, slots := #[.int 1, .int 2, .int 3], vm := .none }]
def classes : Array Class := #[k0, k1, k2, k3, k4, k5, k6, k7, k8, k9, k10, k11, k12, k13, k14, k15]
def interned : List (Array UInt16 × Addr) := []
def slotsUsed : Nat := 17
def theMethod : MethodId := ⟨1, 4⟩
def args0 : Array Value := #[.int 4, .int 7, .int 9, .int 2, .int 3]
def aboutOver (below : List Frame) : State where
  vm := { classes := classes, interned := interned.toArray }
  heap := heap
  slotsUsed := slotsUsed
  threads := #[{ frames := .invoking theMethod args0 :: below }]
def below0 : List Frame := [.native { method := ⟨0, 0⟩, args := #[] }]
def about1 : State := aboutOver below0
def p0 : Program := .bare "" "" ""
def e0 : Env := launch0.env 0 0 0
theorem w_frames : about1.frames = Frame.invoking theMethod args0 :: below0 := rfl
set_option maxRecDepth 65536 in
theorem w_args : argsFit about1.vm theMethod args0 = true := by decide +kernel
set_option maxRecDepth 65536 in
theorem w_heap : heapFits about1 = true := by decide +kernel
set_option maxRecDepth 65536 in
theorem w_runnable : about1.curStatus? = some .runnable := by decide +kernel
set_option maxRecDepth 65536 in
theorem w_alone : about1.alone = true := by decide +kernel
set_option maxRecDepth 65536 in
theorem w_named : about1.methodNamed? x = some theMethod := by decide +kernel
set_option maxRecDepth 65536 in
theorem w_hears : about1.hears theMethod below0 = true := by decide +kernel
set_option maxRecDepth 65536 in
theorem w_ripe : about1.ripe theMethod args0 below0 = true := by decide +kernel
theorem w_running : about1.status = .running := rfl
set_option maxRecDepth 65536 in
theorem w_room : about1.hasRoom e0.platform room_1 = true :=
  launch0.hasRoom_least _ room_1 (by decide +kernel) (by decide +kernel) (by decide +kernel) (by decide +kernel) (by decide +kernel) (by decide +kernel)
theorem allAtoms_all (ts : List Jvm.Cond) (a : Array Jvm.Value) (st : Jvm.State) : (allAtoms ts).before a st = ts.all (fun c => c.before a st) := by
  induction ts with
  | nil => rfl
  | cons c t ih =>
    show (Jvm.Cond.and c (allAtoms t)).before a st = _
    rw [Jvm.Cond.before_and, ih, List.all_cons]
def words1 : List Jvm.Cond := Jvm.Cond.code x code maxLocals ret :: tables_1
/-- a 'code' word, met by the world's own term for the bytes: nothing is compared byte by byte -/
theorem code_word {y : MethodName} {bytes : ByteArray} {mx : Nat} {rt : Option FieldType} {a : Array Value} {s : State} {m : MethodId} {meth : Method} {c : Code} (h1 : s.methodNamed? y = some m) (h2 : s.vm.method? m = some meth) (h3 : meth.code = some c) (h4 : c.code = bytes)
    (h5 : (c.maxLocals == mx && c.exceptionTable.isEmpty && decide (c.maxStack ≤ mostOperands) && decide (meth.sig.returnType = rt) && !meth.locks && decide (parseMethodDescriptor y.desc = some meth.sig)) = true) : (Jvm.Cond.code y bytes mx rt).before a s = true := by
  simp only [Bool.and_eq_true, beq_iff_eq, Bool.not_eq_true', decide_eq_true_eq] at h5
  obtain ⟨⟨⟨⟨⟨g1, g2⟩, g3⟩, g4⟩, g5⟩, g6⟩ := h5
  simp [Cond.before, Cond.holds, Cond.value, h1, h2, h3, h4, g1, g2, g3, g4, g5, g6]
def isCode : Jvm.Cond → Bool
  | .code _ _ _ _ => true
  | _ => false
theorem all_split {L : List Jvm.Cond} {P : Jvm.Cond → Bool} (h1 : L.all (fun c => isCode c || P c) = true) (h2 : ∀ c ∈ L.filter isCode, P c = true) : L.all P = true := by
  refine List.all_eq_true.mpr fun c hc => ?_
  have h := List.all_eq_true.mp h1 c hc
  rcases Bool.eq_false_or_eq_true (isCode c) with hi | hi
  · exact h2 c (List.mem_filter.mpr ⟨hc, hi⟩)
  · simpa [hi] using h
set_option maxRecDepth 65536 in
theorem w_c0 : (Jvm.Cond.code x code maxLocals ret).before args0 about1 = true := code_word (m := ⟨1, 4⟩) (meth := k1m4) (c := k1c4) (by decide +kernel) rfl rfl rfl (by decide +kernel)
set_option maxRecDepth 65536 in
theorem w_c1 : (Jvm.Cond.code ({ cls := "com/example/inquire/inquire/index/PageCounts", name := "<init>", desc := "()V" } : Jvm.MethodName) prog_31_method_1_code (1 : Nat) (Option.none : Option Jvm.ClassFile.FieldType)).before args0 about1 = true := code_word (m := ⟨2, 0⟩) (meth := k2m0) (c := k2c0) (by decide +kernel) rfl rfl rfl (by decide +kernel)
set_option maxRecDepth 65536 in
theorem w_c2 : (Jvm.Cond.code ({ cls := "java/lang/Object", name := "<init>", desc := "()V" } : Jvm.MethodName) object_method_1_code (1 : Nat) (Option.none : Option Jvm.ClassFile.FieldType)).before args0 about1 = true := code_word (m := ⟨0, 0⟩) (meth := k0m0) (c := k0c0) (by decide +kernel) rfl rfl rfl (by decide +kernel)
set_option maxRecDepth 65536 in
theorem w_c3 : (Jvm.Cond.code ({ cls := "com/example/inquire/inquire/index/PageCounts", name := "getArticles", desc := "()J" } : Jvm.MethodName) prog_31_method_3_code (1 : Nat) (Option.some Jvm.ClassFile.FieldType.long)).before args0 about1 = true := code_word (m := ⟨2, 2⟩) (meth := k2m2) (c := k2c2) (by decide +kernel) rfl rfl rfl (by decide +kernel)
set_option maxRecDepth 65536 in
theorem w_c4 : (Jvm.Cond.code ({ cls := "com/example/inquire/inquire/index/PageCounts", name := "getRedirects", desc := "()J" } : Jvm.MethodName) prog_31_method_4_code (1 : Nat) (Option.some Jvm.ClassFile.FieldType.long)).before args0 about1 = true := code_word (m := ⟨2, 3⟩) (meth := k2m3) (c := k2c3) (by decide +kernel) rfl rfl rfl (by decide +kernel)
set_option maxRecDepth 65536 in
theorem w_c5 : (Jvm.Cond.code ({ cls := "com/example/inquire/inquire/index/PageCounts", name := "getOther", desc := "()J" } : Jvm.MethodName) prog_31_method_5_code (1 : Nat) (Option.some Jvm.ClassFile.FieldType.long)).before args0 about1 = true := code_word (m := ⟨2, 4⟩) (meth := k2m4) (c := k2c4) (by decide +kernel) rfl rfl rfl (by decide +kernel)
set_option maxRecDepth 65536 in
theorem w_c6 : (Jvm.Cond.code ({ cls := "com/example/inquire/inquire/index/PageCountsCountPinLaw", name := "step", desc := "(Lcom/example/inquire/inquire/index/PageCounts;[JI)V" } : Jvm.MethodName) method_4_code (4 : Nat) (Option.none : Option Jvm.ClassFile.FieldType)).before args0 about1 = true := code_word (m := ⟨1, 3⟩) (meth := k1m3) (c := k1c3) (by decide +kernel) rfl rfl rfl (by decide +kernel)
set_option maxRecDepth 65536 in
theorem w_c7 : (Jvm.Cond.code ({ cls := "com/example/inquire/inquire/index/PageCountsCountPinLaw", name := "pick", desc := "(I)I" } : Jvm.MethodName) method_2_code (1 : Nat) (Option.some Jvm.ClassFile.FieldType.int)).before args0 about1 = true := code_word (m := ⟨1, 1⟩) (meth := k1m1) (c := k1c1) (by decide +kernel) rfl rfl rfl (by decide +kernel)
set_option maxRecDepth 65536 in
theorem w_c8 : (Jvm.Cond.code ({ cls := "com/example/inquire/inquire/index/PageCountsCountPinLaw", name := "kindOf", desc := "(I)Lcom/example/inquire/inquire/io/Page$Kind;" } : Jvm.MethodName) method_3_code (1 : Nat) (Option.some (Jvm.ClassFile.FieldType.object "com/example/inquire/inquire/io/Page$Kind"))).before args0 about1 = true := code_word (m := ⟨1, 2⟩) (meth := k1m2) (c := k1c2) (by decide +kernel) rfl rfl rfl (by decide +kernel)
set_option maxRecDepth 65536 in
theorem w_c9 : (Jvm.Cond.code ({ cls := "com/example/inquire/inquire/index/PageCounts", name := "count", desc := "(Lcom/example/inquire/inquire/io/Page$Kind;)V" } : Jvm.MethodName) prog_31_method_2_code (2 : Nat) (Option.none : Option Jvm.ClassFile.FieldType)).before args0 about1 = true := code_word (m := ⟨2, 1⟩) (meth := k2m1) (c := k2c1) (by decide +kernel) rfl rfl rfl (by decide +kernel)
set_option maxRecDepth 65536 in
theorem w_c10 : (Jvm.Cond.code ({ cls := "java/lang/Enum", name := "ordinal", desc := "()I" } : Jvm.MethodName) jdk_37_method_2_code (1 : Nat) (Option.some Jvm.ClassFile.FieldType.int)).before args0 about1 = true := code_word (m := ⟨6, 0⟩) (meth := k6m0) (c := k6c0) (by decide +kernel) rfl rfl rfl (by decide +kernel)
def codes1 : List Jvm.Cond := [Jvm.Cond.code x code maxLocals ret, Jvm.Cond.code ({ cls := "com/example/inquire/inquire/index/PageCounts", name := "<init>", desc := "()V" } : Jvm.MethodName) prog_31_method_1_code (1 : Nat) (Option.none : Option Jvm.ClassFile.FieldType), Jvm.Cond.code ({ cls := "java/lang/Object", name := "<init>", desc := "()V" } : Jvm.MethodName) object_method_1_code (1 : Nat) (Option.none : Option Jvm.ClassFile.FieldType), Jvm.Cond.code ({ cls := "com/example/inquire/inquire/index/PageCounts", name := "getArticles", desc := "()J" } : Jvm.MethodName) prog_31_method_3_code (1 : Nat) (Option.some Jvm.ClassFile.FieldType.long), Jvm.Cond.code ({ cls := "com/example/inquire/inquire/index/PageCounts", name := "getRedirects", desc := "()J" } : Jvm.MethodName) prog_31_method_4_code (1 : Nat) (Option.some Jvm.ClassFile.FieldType.long), Jvm.Cond.code ({ cls := "com/example/inquire/inquire/index/PageCounts", name := "getOther", desc := "()J" } : Jvm.MethodName) prog_31_method_5_code (1 : Nat) (Option.some Jvm.ClassFile.FieldType.long), Jvm.Cond.code ({ cls := "com/example/inquire/inquire/index/PageCountsCountPinLaw", name := "step", desc := "(Lcom/example/inquire/inquire/index/PageCounts;[JI)V" } : Jvm.MethodName) method_4_code (4 : Nat) (Option.none : Option Jvm.ClassFile.FieldType), Jvm.Cond.code ({ cls := "com/example/inquire/inquire/index/PageCountsCountPinLaw", name := "pick", desc := "(I)I" } : Jvm.MethodName) method_2_code (1 : Nat) (Option.some Jvm.ClassFile.FieldType.int), Jvm.Cond.code ({ cls := "com/example/inquire/inquire/index/PageCountsCountPinLaw", name := "kindOf", desc := "(I)Lcom/example/inquire/inquire/io/Page$Kind;" } : Jvm.MethodName) method_3_code (1 : Nat) (Option.some (Jvm.ClassFile.FieldType.object "com/example/inquire/inquire/io/Page$Kind")), Jvm.Cond.code ({ cls := "com/example/inquire/inquire/index/PageCounts", name := "count", desc := "(Lcom/example/inquire/inquire/io/Page$Kind;)V" } : Jvm.MethodName) prog_31_method_2_code (2 : Nat) (Option.none : Option Jvm.ClassFile.FieldType), Jvm.Cond.code ({ cls := "java/lang/Enum", name := "ordinal", desc := "()I" } : Jvm.MethodName) jdk_37_method_2_code (1 : Nat) (Option.some Jvm.ClassFile.FieldType.int)]
set_option maxRecDepth 65536 in
theorem codes_eq : words1.filter isCode = codes1 := rfl
theorem w_codes : ∀ c ∈ words1.filter isCode, c.before args0 about1 = true := by
  rw [codes_eq]
  intro c hc
  simp only [codes1, List.mem_cons, List.not_mem_nil, or_false] at hc
  rcases hc with rfl | rfl | rfl | rfl | rfl | rfl | rfl | rfl | rfl | rfl | rfl
  · exact w_c0
  · exact w_c1
  · exact w_c2
  · exact w_c3
  · exact w_c4
  · exact w_c5
  · exact w_c6
  · exact w_c7
  · exact w_c8
  · exact w_c9
  · exact w_c10
set_option maxRecDepth 65536 in
theorem w_t1 : (words1.take 24).all (fun c => isCode c || c.before args0 about1) = true := by decide +kernel
set_option maxRecDepth 65536 in
theorem w_t2 : ((words1.drop 24).take 24).all (fun c => isCode c || c.before args0 about1) = true := by decide +kernel
set_option maxRecDepth 65536 in
theorem w_t3 : ((words1.drop 24).drop 24).all (fun c => isCode c || c.before args0 about1) = true := by decide +kernel
theorem w_tables : (allAtoms (Jvm.Cond.code x code maxLocals ret :: tables_1)).before args0 about1 = true := by
  rw [allAtoms_all]
  show words1.all (fun c => c.before args0 about1) = true
  refine all_split ?_ w_codes
  rw [← List.take_append_drop 24 words1, List.all_append, w_t1, ← List.take_append_drop 24 (words1.drop 24), List.all_append, w_t2, w_t3]
  rfl
set_option maxRecDepth 65536 in
theorem w_case : (Jvm.Cond.and given_1 narrow_1).before args0 about1 = true := by decide +kernel
theorem w_applies : (headSpec (Jvm.Cond.code x code maxLocals ret :: tables_1) room_1).applies x e0.platform about1 = true :=
  (Spec.applies_iff w_frames).mpr ⟨w_running, w_runnable, w_alone, w_named, w_hears, w_ripe, w_room, w_tables⟩
theorem atStart : AtStart classFile x code maxLocals ret World_1 tables_1 room_1 Calls_1 rest_1 Pre_1 launch0 p0 e0 about1 theMethod args0 below0 :=
  ⟨lists_1, trivial, launch0.admits_env _ _ _, launch0.least_env, fairChoices_fair.cas, fairChoices_fair.clock, w_frames, w_args, w_heap, w_applies, trivial, trivial, w_case⟩
end start1
theorem witness_1 : WitnessClaimed_1 := ⟨start1.p0, start1.e0, start1.about1, start1.theMethod, start1.args0, start1.below0, start1.atStart⟩
end Jvm.Pilot.@@N@@
