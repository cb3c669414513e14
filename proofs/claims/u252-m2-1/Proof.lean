import JvmDerived
import JvmDerived.Pilot.@@N@@Statement
import JvmDerived.Pilot.@@N@@Code
set_option linter.unusedVariables false
set_option linter.unusedSimpArgs false
namespace Jvm.OwnGo
open Jvm Jvm.ClassFile Sem Op Lib Jvm.Free Jvm.Stand Jvm.LawKit Jvm.RoadKit
/-- the setting of one body's run -/
def Cx (p : Program) (l : Launch) (e : Env) (R : Room) (s : State) (m : MethodId) (meth : Method) (c : Code) (Z : State) (n0 : Nat) (y : MethodName) (code : ByteArray) (ml : Nat) (ret : Option FieldType) : Prop :=
  p.tables.exec = Jvm.exec ∧ Z.Warmed39 s.vm ∧ s.vm.findClass y.cls = some m.cls ∧ c.code = code ∧ c.maxLocals = ml ∧ meth.sig.returnType = ret ∧ meth.locks = false ∧ meth.name = y.name ∧ Old Z n0 s.heap
/-- from pc, with these locals, this stack and this heap, the body of y returns, Q holds of what it returns and leaves, and it has written in cells at or above n0 alone -/
def Go (l : Launch) (R : Room) (Z : State) (n0 : Nat) (y : MethodName) (code : ByteArray) (ml : Nat) (ret : Option FieldType) (Q : Option Value → Heap → Prop) (cells slots : Nat) (h : Heap) (pc : Nat) (Ls : Array Slot) (st : List Value) : Prop :=
  ∀ (p : Program) (e : Env) (s : State) (m : MethodId) (args : Array Value) (below : List Frame) (meth : Method) (c : Code) (T : State) (locs : List Loc),
    Cx p l e R s m meth c Z n0 y code ml ret → Stand p l e R s m args below meth c T locs cells slots → Fr n0 locs → T.heap = h →
    ∃ s₂ o, Steps p.tables e below (T.setTop (mkF m pc Ls st)) s₂ ∧ s₂.status = .running ∧ Ended s₂ below o ∧ ∃ v L, o = .returned v ∧ (Q v s₂.heap ∧ Fr n0 L) ∧ FrameEnd s o s₂ L R.cells R.slots
/-- what a body called with these arguments at the heap h does -/
def Con (l : Launch) (y : MethodName) (code : ByteArray) (ml : Nat) (ret : Option FieldType) (R : Room) (Z : State) (n0 : Nat) (as : Array Value) (h : Heap) (Q : Option Value → Heap → Prop) : Prop :=
  Old Z n0 h → ∀ ws, MetFree l y (head1 (Jvm.Cond.code y code ml ret :: ws) R) (fun a U => a = as ∧ Z.Warmed39 U.vm ∧ U.heap = h) (fun _ _ _ _ _ => True)
    (fun _ U o U' => ∃ v L, o = .returned v ∧ (Q v U'.heap ∧ Fr n0 L) ∧ FrameEnd U o U' L R.cells R.slots)
def Mi (Z : State) (C : String) (mr : Addr) : Prop := ∃ (c : ClassId) (k : Class), Z.vm.findClass C = some c ∧ Z.vm.classes[c]? = some k ∧ k.mirror = some mr
theorem Mi.at {Z s : State} {C : String} {mr : Addr} (M : Mi Z C mr) (hZ : Z.Warmed39 s.vm) : ∃ (c : ClassId) (k : Class), s.vm.findClass C = some c ∧ s.vm.classes[c]? = some k ∧ k.mirror = some mr := by
  obtain ⟨c, k, m1, m2, m3⟩ := M
  obtain ⟨k', q, ek⟩ := hZ.alike.2.2 _ _ m2
  exact ⟨c, k', by rw [hZ.alike.findClass]; exact m1, q, by rw [ek]; exact m3⟩
theorem own_sto {Z : State} {h : Heap} {a b : Addr} {kA : ClassId} {ty : FieldType} {z : Int32} {vs : List Value} {dv : Value} {C : String} (F : Arv Z h a kA ty z vs dv) (O : Ovr Z kA C) (I : Ins Z h b C true) : Sto Z h a (.ref b) := by
  obtain ⟨c, A, q, -⟩ := F; exact Sto.ofV A q O I
theorem own_nar (t : FieldType) {v : Value} (h : v.isRef = true) : narrow t v = v := by cases v <;> first | rfl | (cases t <;> rfl) | (simp [Value.isRef] at h)
theorem own_fits {t : FieldType} {v : Value} (ht : t.isReference = true) (h : v.isRef = true) : fits t v = true := by cases t <;> first | (cases ht; done) | (cases v <;> first | rfl | (simp [Value.isRef] at h))
theorem own_old {p : Program} {l : Launch} {e : Env} {R : Room} {s : State} {m : MethodId} {args : Array Value} {below : List Frame} {meth : Method} {c : Code} {T : State} {locs : List Loc} {cells slots n0 : Nat} {Z : State} {h : Heap} (O : Old Z n0 s.heap) (X : Stand p l e R s m args below meth c T locs cells slots) (N : Fr n0 locs) (eT : T.heap = h) : Old Z n0 h := by
  subst eT
  obtain ⟨-, g1, -, -, -, g2⟩ := X.same
  refine ⟨O.1, Nat.le_trans O.2.1 g1, fun a c ha => ?_⟩
  obtain ⟨c', q1, q2, q3, q4⟩ := g2 a c (O.2.2 a c ha)
  have hlt : a < n0 := O.1 ▸ (Array.getElem?_eq_some_iff.mp ha).1
  have e1 : c'.slots = c.slots := Array.ext_getElem? fun i => q4 i fun hm => absurd (N _ hm) (Nat.not_le.mpr hlt)
  have e2 : c' = c := by rw [q2, e1]
  rw [← e2]; exact q1
section Rules
variable {l : Launch} {R : Room} {Z : State} {n0 : Nat} {y : MethodName} {code : ByteArray} {ml : Nat} {ret : Option FieldType} {Q : Option Value → Heap → Prop} {cells slots : Nat} {h : Heap} {pc pc' : Nat} {Ls Ls' : Array Slot} {st st' rest : List Value} {a0 : Array Value}
theorem Con.of_go {as : Array Value} (hp : plainFor y = true) (he : ∀ m, entryFrame m as ml = mkF m 0 Ls []) (k : Go l R Z n0 y code ml ret Q 0 0 h 0 Ls []) : Con l y code ml ret R Z n0 as h Q := by
  intro hn ws
  refine MetFree.of_bodySF hp hisR ?_
  intro p e s m args below meth c s₁ Bd hml0 hP hK
  obtain ⟨rfl, hZ, hh⟩ := hP
  have e0 : s₁.heap = h := by rw [← hh, Bd.state]; rfl
  have X0 : Stand p l e R s m args below meth c s₁ [] 0 0 := Stand.of_body Bd
  obtain ⟨s₂, o, h1, h2, h3, h4⟩ := k p e s m args below meth c s₁ [] ⟨Bd.exec, hZ, findClass_of_methodNamed Bd.named, Bd.bytes, hml0, Bd.returns, Bd.notSynchronized, (name_of_methodNamed Bd.named Bd.method).1, by rw [hh]; exact hn⟩ X0 (Fr.nil n0) e0
  exact ⟨s₂, o, castTop (he m) h1, h2, h3, h4⟩
theorem Con.mono {as : Array Value} {Q' : Option Value → Heap → Prop} (k : Con l y code ml ret R Z n0 as h Q) (hq : ∀ v h', Q v h' → Q' v h') : Con l y code ml ret R Z n0 as h Q' := by
  intro hn ws
  refine (k hn ws).mono (fun _ _ q => q) (fun _ _ _ _ _ q => q) ?_
  rintro a U o U' hP ⟨v, L, e, ⟨q, N⟩, r⟩
  exact ⟨v, L, e, ⟨hq _ _ q, N⟩, r⟩
theorem Go.mono {Q' : Option Value → Heap → Prop} (k : Go l R Z n0 y code ml ret Q' cells slots h pc Ls st) (hq : ∀ v h', Q' v h' → Q v h') : Go l R Z n0 y code ml ret Q cells slots h pc Ls st := by
  intro p e s m args below meth c T locs C X N eT
  obtain ⟨s₂, o, h1, h2, h3, v, L, h4, ⟨h5, h6⟩, h7⟩ := k p e s m args below meth c T locs C X N eT
  exact ⟨s₂, o, h1, h2, h3, v, L, h4, ⟨hq _ _ h5, h6⟩, h7⟩
theorem Go.more {cells' slots' : Nat} (k : Go l R Z n0 y code ml ret Q cells' slots' h pc Ls st) (hc : cells ≤ cells') (hs : slots ≤ slots') : Go l R Z n0 y code ml ret Q cells slots h pc Ls st := by
  intro p e s m args below meth c T locs C X N eT
  exact k p e s m args below meth c T locs C (X.more hc hs) N eT
theorem Go.old (k : Old Z n0 h → Go l R Z n0 y code ml ret Q cells slots h pc Ls st) : Go l R Z n0 y code ml ret Q cells slots h pc Ls st := by
  intro p e s m args below meth c T locs C X N eT
  exact k (own_old C.2.2.2.2.2.2.2.2 X N eT) p e s m args below meth c T locs C X N eT
theorem Go.step (hst : ∀ {p : Program} {e : Env} {s : State} {m : MethodId} {args : Array Value} {below : List Frame} {meth : Method} {c : Code} {T : State} {locs : List Loc} {target : State},
      Cx p l e R s m meth c Z n0 y code ml ret → Stand p l e R s m args below meth c T locs cells slots → T.heap = h → Steps p.tables e below (T.setTop (mkF m pc' Ls' st')) target → Steps p.tables e below (T.setTop (mkF m pc Ls st)) target)
    (k : Go l R Z n0 y code ml ret Q cells slots h pc' Ls' st') : Go l R Z n0 y code ml ret Q cells slots h pc Ls st := by
  intro p e s m args below meth c T locs C X N eT
  obtain ⟨s₂, o, h1, h2⟩ := k p e s m args below meth c T locs C X N eT
  exact ⟨s₂, o, hst C X eT h1, h2⟩
theorem Go.law {cells' slots' : Nat} {P : Heap → Prop} (hst : ∀ {p : Program} {e : Env} {s : State} {m : MethodId} {args : Array Value} {below : List Frame} {meth : Method} {c : Code} {T : State} {locs : List Loc},
      Cx p l e R s m meth c Z n0 y code ml ret → Stand p l e R s m args below meth c T locs cells slots → Fr n0 locs → T.heap = h → n0 ≤ h.size →
      ∃ T' locs' h', Stand p l e R s m args below meth c T' locs' cells' slots' ∧ Fr n0 locs' ∧ T'.heap = h' ∧ P h' ∧ ∀ target, Steps p.tables e below (T'.setTop (mkF m pc' Ls' st')) target → Steps p.tables e below (T.setTop (mkF m pc Ls st)) target)
    (k : ∀ h', P h' → Go l R Z n0 y code ml ret Q cells' slots' h' pc' Ls' st') : Go l R Z n0 y code ml ret Q cells slots h pc Ls st := by
  intro p e s m args below meth c T locs C X N eT
  have hold : Old Z n0 h := own_old C.2.2.2.2.2.2.2.2 X N eT
  obtain ⟨T', locs', h', X', N', e', hP, st⟩ := hst C X N eT (hold.1 ▸ hold.2.1)
  obtain ⟨s₂, o, h1, h2⟩ := k h' hP p e s m args below meth c T' locs' C X' N' e'
  exact ⟨s₂, o, st _ h1, h2⟩
theorem Go.iloadN {k : Fin 4} {v : Int32} (hd : decode code pc = .ok (.iload_n k, 1)) (hl : Ls[k.val]? = some (.val (.int v))) (hp : pc + 1 = pc') (k : Go l R Z n0 y code ml ret Q cells slots h pc' Ls (.int v :: st)) : Go l R Z n0 y code ml ret Q cells slots h pc Ls st := Go.step (fun C X _ q => by subst hp; exact XS.iloadN X.here C.1 rfl (hb C.2.2.2.1 hd) hl q) k
theorem Go.iload {k : Nat} {v : Int32} (hd : decode code pc = .ok (.iload k, 2)) (hl : Ls[k]? = some (.val (.int v))) (hp : pc + 2 = pc') (k : Go l R Z n0 y code ml ret Q cells slots h pc' Ls (.int v :: st)) : Go l R Z n0 y code ml ret Q cells slots h pc Ls st := Go.step (fun C X _ q => by subst hp; exact XS.iload X.here C.1 rfl (hb C.2.2.2.1 hd) hl q) k
theorem Go.lloadN {k : Fin 4} {v : Int64} (hd : decode code pc = .ok (.lload_n k, 1)) (hl : Ls[k.val]? = some (.val (.long v))) (hp : pc + 1 = pc') (k : Go l R Z n0 y code ml ret Q cells slots h pc' Ls (.long v :: st)) : Go l R Z n0 y code ml ret Q cells slots h pc Ls st := Go.step (fun C X _ q => by subst hp; exact XT.lloadN X.here C.1 rfl (hb C.2.2.2.1 hd) hl q) k
theorem Go.lload {k : Nat} {v : Int64} (hd : decode code pc = .ok (.lload k, 2)) (hl : Ls[k]? = some (.val (.long v))) (hp : pc + 2 = pc') (k : Go l R Z n0 y code ml ret Q cells slots h pc' Ls (.long v :: st)) : Go l R Z n0 y code ml ret Q cells slots h pc Ls st := Go.step (fun C X _ q => by subst hp; exact XT.lload X.here C.1 rfl (hb C.2.2.2.1 hd) hl q) k
theorem Go.aloadN {k : Fin 4} {v : Value} (hd : decode code pc = .ok (.aload_n k, 1)) (hl : Ls[k.val]? = some (.val v)) (hv : v.isRef = true) (hp : pc + 1 = pc') (k : Go l R Z n0 y code ml ret Q cells slots h pc' Ls (v :: st)) : Go l R Z n0 y code ml ret Q cells slots h pc Ls st := Go.step (fun C X _ q => by subst hp; exact XS.aloadN X.here C.1 rfl (hb C.2.2.2.1 hd) hl hv q) k
theorem Go.aload {k : Nat} {v : Value} (hd : decode code pc = .ok (.aload k, 2)) (hl : Ls[k]? = some (.val v)) (hv : v.isRef = true) (hp : pc + 2 = pc') (k : Go l R Z n0 y code ml ret Q cells slots h pc' Ls (v :: st)) : Go l R Z n0 y code ml ret Q cells slots h pc Ls st := Go.step (fun C X _ q => by subst hp; exact XS.aload X.here C.1 rfl (hb C.2.2.2.1 hd) hl hv q) k
theorem Go.istoreN {k : Fin 4} {v : Int32} (hd : decode code pc = .ok (.istore_n k, 1)) (hl : storeLocals Ls k.val (.int v) = some Ls') (hp : pc + 1 = pc') (k : Go l R Z n0 y code ml ret Q cells slots h pc' Ls' st) : Go l R Z n0 y code ml ret Q cells slots h pc Ls (.int v :: st) := Go.step (fun C X _ q => by subst hp; exact XS.istoreN X.here C.1 rfl (hb C.2.2.2.1 hd) rfl hl q) k
theorem Go.istore {k : Nat} {v : Int32} (hd : decode code pc = .ok (.istore k, 2)) (hl : storeLocals Ls k (.int v) = some Ls') (hp : pc + 2 = pc') (k : Go l R Z n0 y code ml ret Q cells slots h pc' Ls' st) : Go l R Z n0 y code ml ret Q cells slots h pc Ls (.int v :: st) := Go.step (fun C X _ q => by subst hp; exact XS.istore X.here C.1 rfl (hb C.2.2.2.1 hd) rfl hl q) k
theorem Go.lstoreN {k : Fin 4} {v : Int64} (hd : decode code pc = .ok (.lstore_n k, 1)) (hl : storeLocals Ls k.val (.long v) = some Ls') (hp : pc + 1 = pc') (k : Go l R Z n0 y code ml ret Q cells slots h pc' Ls' st) : Go l R Z n0 y code ml ret Q cells slots h pc Ls (.long v :: st) := Go.step (fun C X _ q => by subst hp; exact XT.lstoreN X.here C.1 rfl (hb C.2.2.2.1 hd) rfl hl q) k
theorem Go.lstore {k : Nat} {v : Int64} (hd : decode code pc = .ok (.lstore k, 2)) (hl : storeLocals Ls k (.long v) = some Ls') (hp : pc + 2 = pc') (k : Go l R Z n0 y code ml ret Q cells slots h pc' Ls' st) : Go l R Z n0 y code ml ret Q cells slots h pc Ls (.long v :: st) := Go.step (fun C X _ q => by subst hp; exact XT.lstore X.here C.1 rfl (hb C.2.2.2.1 hd) rfl hl q) k
theorem Go.astoreN {k : Fin 4} {v : Value} (hd : decode code pc = .ok (.astore_n k, 1)) (hv : v.isRef = true) (hl : storeLocals Ls k.val v = some Ls') (hp : pc + 1 = pc') (k : Go l R Z n0 y code ml ret Q cells slots h pc' Ls' st) : Go l R Z n0 y code ml ret Q cells slots h pc Ls (v :: st) := Go.step (fun C X _ q => by subst hp; exact XS.astoreN X.here C.1 rfl (hb C.2.2.2.1 hd) rfl hv hl q) k
theorem Go.astore {k : Nat} {v : Value} (hd : decode code pc = .ok (.astore k, 2)) (hv : v.isRef = true) (hl : storeLocals Ls k v = some Ls') (hp : pc + 2 = pc') (k : Go l R Z n0 y code ml ret Q cells slots h pc' Ls' st) : Go l R Z n0 y code ml ret Q cells slots h pc Ls (v :: st) := Go.step (fun C X _ q => by subst hp; exact XS.astore X.here C.1 rfl (hb C.2.2.2.1 hd) rfl hv hl q) k
theorem Go.iconst {i : Int} {v : Int32} (hd : decode code pc = .ok (.iconst i, 1)) (hv : Int32.ofInt i = v) (hp : pc + 1 = pc') (k : Go l R Z n0 y code ml ret Q cells slots h pc' Ls (.int v :: st)) : Go l R Z n0 y code ml ret Q cells slots h pc Ls st := Go.step (fun C X _ q => by subst hp; exact (by subst hv; exact XS.iconst X.here C.1 rfl (hb C.2.2.2.1 hd) q)) k
theorem Go.bipush {i : Int} {v : Int32} (hd : decode code pc = .ok (.bipush i, 2)) (hv : (Int8.ofInt i).toInt32 = v) (hp : pc + 2 = pc') (k : Go l R Z n0 y code ml ret Q cells slots h pc' Ls (.int v :: st)) : Go l R Z n0 y code ml ret Q cells slots h pc Ls st := Go.step (fun C X _ q => by subst hp; exact (by subst hv; exact XS.bipush X.here C.1 rfl (hb C.2.2.2.1 hd) q)) k
theorem Go.sipush {i : Int} {v : Int32} (hd : decode code pc = .ok (.sipush i, 3)) (hv : (Int16.ofInt i).toInt32 = v) (hp : pc + 3 = pc') (k : Go l R Z n0 y code ml ret Q cells slots h pc' Ls (.int v :: st)) : Go l R Z n0 y code ml ret Q cells slots h pc Ls st := Go.step (fun C X _ q => by subst hp; exact (by subst hv; exact XS.sipush X.here C.1 rfl (hb C.2.2.2.1 hd) q)) k
theorem Go.lconst {i : Fin 2} {v : Int64} (hd : decode code pc = .ok (.lconst i, 1)) (hv : Int64.ofNat i = v) (hp : pc + 1 = pc') (k : Go l R Z n0 y code ml ret Q cells slots h pc' Ls (.long v :: st)) : Go l R Z n0 y code ml ret Q cells slots h pc Ls st := Go.step (fun C X _ q => by subst hp; exact XT.lconstV X.here C.1 rfl v (hb C.2.2.2.1 hd) hv q) k
theorem Go.aconstNull (hd : decode code pc = .ok (.aconst_null, 1)) (hp : pc + 1 = pc') (k : Go l R Z n0 y code ml ret Q cells slots h pc' Ls (.null :: st)) : Go l R Z n0 y code ml ret Q cells slots h pc Ls st := Go.step (fun C X _ q => by subst hp; exact XS.aconstNull X.here C.1 rfl (hb C.2.2.2.1 hd) q) k
theorem Go.ldcI {i : Nat} {v : Int32} (w : (Jvm.Cond.constant y.cls i v).before a0 Z = true) (hd : decode code pc = .ok (.ldc i, 2)) (hp : pc + 2 = pc') (k : Go l R Z n0 y code ml ret Q cells slots h pc' Ls (.int v :: st)) : Go l R Z n0 y code ml ret Q cells slots h pc Ls st := Go.step (fun C X _ q => by subst hp; exact Jvm.Stand.ldcI X C.1 C.2.2.1 (mvT C.2.1 w) rfl (hb C.2.2.2.1 hd) q) k
theorem Go.ldcWI {i : Nat} {v : Int32} (w : (Jvm.Cond.constant y.cls i v).before a0 Z = true) (hd : decode code pc = .ok (.ldc_w i, 3)) (hp : pc + 3 = pc') (k : Go l R Z n0 y code ml ret Q cells slots h pc' Ls (.int v :: st)) : Go l R Z n0 y code ml ret Q cells slots h pc Ls st := Go.step (fun C X _ q => by subst hp; exact Jvm.Stand.ldcWI X C.1 C.2.2.1 (mvT C.2.1 w) rfl (hb C.2.2.2.1 hd) q) k
theorem Go.ldc2J {i : Nat} {v : Int64} (w : (Jvm.Cond.constantLong y.cls i v).before a0 Z = true) (hd : decode code pc = .ok (.ldc2_w i, 3)) (hp : pc + 3 = pc') (k : Go l R Z n0 y code ml ret Q cells slots h pc' Ls (.long v :: st)) : Go l R Z n0 y code ml ret Q cells slots h pc Ls st := Go.step (fun C X _ q => by subst hp; exact Jvm.Stand.ldc2J X C.1 C.2.2.1 (mvT C.2.1 w) rfl (hb C.2.2.2.1 hd) q) k
theorem Go.iadd {a b : Int32} (hd : decode code pc = .ok (.iadd, 1)) (hp : pc + 1 = pc') (k : Go l R Z n0 y code ml ret Q cells slots h pc' Ls (.int (a + b) :: st)) : Go l R Z n0 y code ml ret Q cells slots h pc Ls (.int b :: .int a :: st) := Go.step (fun C X _ q => by subst hp; exact XS.iadd X.here C.1 rfl (hb C.2.2.2.1 hd) rfl q) k
theorem Go.isub {a b : Int32} (hd : decode code pc = .ok (.isub, 1)) (hp : pc + 1 = pc') (k : Go l R Z n0 y code ml ret Q cells slots h pc' Ls (.int (a - b) :: st)) : Go l R Z n0 y code ml ret Q cells slots h pc Ls (.int b :: .int a :: st) := Go.step (fun C X _ q => by subst hp; exact XS.isub X.here C.1 rfl (hb C.2.2.2.1 hd) rfl q) k
theorem Go.imul {a b : Int32} (hd : decode code pc = .ok (.imul, 1)) (hp : pc + 1 = pc') (k : Go l R Z n0 y code ml ret Q cells slots h pc' Ls (.int (a * b) :: st)) : Go l R Z n0 y code ml ret Q cells slots h pc Ls (.int b :: .int a :: st) := Go.step (fun C X _ q => by subst hp; exact XS.imul X.here C.1 rfl (hb C.2.2.2.1 hd) rfl q) k
theorem Go.iand {a b : Int32} (hd : decode code pc = .ok (.iand, 1)) (hp : pc + 1 = pc') (k : Go l R Z n0 y code ml ret Q cells slots h pc' Ls (.int (a &&& b) :: st)) : Go l R Z n0 y code ml ret Q cells slots h pc Ls (.int b :: .int a :: st) := Go.step (fun C X _ q => by subst hp; exact XS.iand X.here C.1 rfl (hb C.2.2.2.1 hd) rfl q) k
theorem Go.ior {a b : Int32} (hd : decode code pc = .ok (.ior, 1)) (hp : pc + 1 = pc') (k : Go l R Z n0 y code ml ret Q cells slots h pc' Ls (.int (a ||| b) :: st)) : Go l R Z n0 y code ml ret Q cells slots h pc Ls (.int b :: .int a :: st) := Go.step (fun C X _ q => by subst hp; exact XT.ior X.here C.1 rfl (hb C.2.2.2.1 hd) rfl q) k
theorem Go.ixor {a b : Int32} (hd : decode code pc = .ok (.ixor, 1)) (hp : pc + 1 = pc') (k : Go l R Z n0 y code ml ret Q cells slots h pc' Ls (.int (a ^^^ b) :: st)) : Go l R Z n0 y code ml ret Q cells slots h pc Ls (.int b :: .int a :: st) := Go.step (fun C X _ q => by subst hp; exact XT.ixor X.here C.1 rfl (hb C.2.2.2.1 hd) rfl q) k
theorem Go.ladd {a b : Int64} (hd : decode code pc = .ok (.ladd, 1)) (hp : pc + 1 = pc') (k : Go l R Z n0 y code ml ret Q cells slots h pc' Ls (.long (a + b) :: st)) : Go l R Z n0 y code ml ret Q cells slots h pc Ls (.long b :: .long a :: st) := Go.step (fun C X _ q => by subst hp; exact XT.ladd X.here C.1 rfl (hb C.2.2.2.1 hd) rfl q) k
theorem Go.lsub {a b : Int64} (hd : decode code pc = .ok (.lsub, 1)) (hp : pc + 1 = pc') (k : Go l R Z n0 y code ml ret Q cells slots h pc' Ls (.long (a - b) :: st)) : Go l R Z n0 y code ml ret Q cells slots h pc Ls (.long b :: .long a :: st) := Go.step (fun C X _ q => by subst hp; exact XT.lsub X.here C.1 rfl (hb C.2.2.2.1 hd) rfl q) k
theorem Go.lmul {a b : Int64} (hd : decode code pc = .ok (.lmul, 1)) (hp : pc + 1 = pc') (k : Go l R Z n0 y code ml ret Q cells slots h pc' Ls (.long (a * b) :: st)) : Go l R Z n0 y code ml ret Q cells slots h pc Ls (.long b :: .long a :: st) := Go.step (fun C X _ q => by subst hp; exact XT.lmul X.here C.1 rfl (hb C.2.2.2.1 hd) rfl q) k
theorem Go.land {a b : Int64} (hd : decode code pc = .ok (.land, 1)) (hp : pc + 1 = pc') (k : Go l R Z n0 y code ml ret Q cells slots h pc' Ls (.long (a &&& b) :: st)) : Go l R Z n0 y code ml ret Q cells slots h pc Ls (.long b :: .long a :: st) := Go.step (fun C X _ q => by subst hp; exact XT.land X.here C.1 rfl (hb C.2.2.2.1 hd) rfl q) k
theorem Go.lor {a b : Int64} (hd : decode code pc = .ok (.lor, 1)) (hp : pc + 1 = pc') (k : Go l R Z n0 y code ml ret Q cells slots h pc' Ls (.long (a ||| b) :: st)) : Go l R Z n0 y code ml ret Q cells slots h pc Ls (.long b :: .long a :: st) := Go.step (fun C X _ q => by subst hp; exact XT.lor X.here C.1 rfl (hb C.2.2.2.1 hd) rfl q) k
theorem Go.lxor {a b : Int64} (hd : decode code pc = .ok (.lxor, 1)) (hp : pc + 1 = pc') (k : Go l R Z n0 y code ml ret Q cells slots h pc' Ls (.long (a ^^^ b) :: st)) : Go l R Z n0 y code ml ret Q cells slots h pc Ls (.long b :: .long a :: st) := Go.step (fun C X _ q => by subst hp; exact XT.lxor X.here C.1 rfl (hb C.2.2.2.1 hd) rfl q) k
theorem Go.ishl {a b : Int32} (hd : decode code pc = .ok (.ishl, 1)) (hp : pc + 1 = pc') (k : Go l R Z n0 y code ml ret Q cells slots h pc' Ls (.int (a <<< (b &&& 31)) :: st)) : Go l R Z n0 y code ml ret Q cells slots h pc Ls (.int b :: .int a :: st) := Go.step (fun C X _ q => by subst hp; exact XT.ishl X.here C.1 rfl (hb C.2.2.2.1 hd) rfl q) k
theorem Go.ishr {a b : Int32} (hd : decode code pc = .ok (.ishr, 1)) (hp : pc + 1 = pc') (k : Go l R Z n0 y code ml ret Q cells slots h pc' Ls (.int (a >>> (b &&& 31)) :: st)) : Go l R Z n0 y code ml ret Q cells slots h pc Ls (.int b :: .int a :: st) := Go.step (fun C X _ q => by subst hp; exact XT.ishr X.here C.1 rfl (hb C.2.2.2.1 hd) rfl q) k
theorem Go.iushr {a b : Int32} (hd : decode code pc = .ok (.iushr, 1)) (hp : pc + 1 = pc') (k : Go l R Z n0 y code ml ret Q cells slots h pc' Ls (.int (XT.ushr a b) :: st)) : Go l R Z n0 y code ml ret Q cells slots h pc Ls (.int b :: .int a :: st) := Go.step (fun C X _ q => by subst hp; exact XT.iushr X.here C.1 rfl (hb C.2.2.2.1 hd) rfl q) k
theorem Go.lshr {a : Int64} {b : Int32} (hd : decode code pc = .ok (.lshr, 1)) (hp : pc + 1 = pc') (k : Go l R Z n0 y code ml ret Q cells slots h pc' Ls (.long (a >>> (b.toInt64 &&& 63)) :: st)) : Go l R Z n0 y code ml ret Q cells slots h pc Ls (.int b :: .long a :: st) := Go.step (fun C X _ q => by subst hp; exact XT.lshr X.here C.1 rfl (hb C.2.2.2.1 hd) rfl q) k
theorem Go.lshl {a : Int64} {b : Int32} (hd : decode code pc = .ok (.lshl, 1)) (hp : pc + 1 = pc') (k : Go l R Z n0 y code ml ret Q cells slots h pc' Ls (.long (a <<< (b.toInt64 &&& 63)) :: st)) : Go l R Z n0 y code ml ret Q cells slots h pc Ls (.int b :: .long a :: st) := Go.step (fun C X _ q => by subst hp; exact XT.lshl X.here C.1 rfl (hb C.2.2.2.1 hd) rfl q) k
theorem Go.lushr {a : Int64} {b : Int32} (hd : decode code pc = .ok (.lushr, 1)) (hp : pc + 1 = pc') (k : Go l R Z n0 y code ml ret Q cells slots h pc' Ls (.long (XT.ushrL a b) :: st)) : Go l R Z n0 y code ml ret Q cells slots h pc Ls (.int b :: .long a :: st) := Go.step (fun C X _ q => by subst hp; exact XT.lushr X.here C.1 rfl (hb C.2.2.2.1 hd) rfl q) k
theorem Go.irem {a b : Int32} (hd : decode code pc = .ok (.irem, 1)) (hz : b ≠ 0) (hp : pc + 1 = pc') (k : Go l R Z n0 y code ml ret Q cells slots h pc' Ls (.int (a % b) :: st)) : Go l R Z n0 y code ml ret Q cells slots h pc Ls (.int b :: .int a :: st) := Go.step (fun C X _ q => by subst hp; exact iremM X C.1 rfl (hb C.2.2.2.1 hd) rfl hz q) k
theorem Go.idiv {a b : Int32} (hd : decode code pc = .ok (.idiv, 1)) (hz : b ≠ 0) (hp : pc + 1 = pc') (k : Go l R Z n0 y code ml ret Q cells slots h pc' Ls (.int (a / b) :: st)) : Go l R Z n0 y code ml ret Q cells slots h pc Ls (.int b :: .int a :: st) := Go.step (fun C X _ q => by subst hp; exact XS.idiv X.here C.1 rfl (hb C.2.2.2.1 hd) rfl hz q) k
theorem Go.ldiv {a b : Int64} (hd : decode code pc = .ok (.ldiv, 1)) (hz : b ≠ 0) (hp : pc + 1 = pc') (k : Go l R Z n0 y code ml ret Q cells slots h pc' Ls (.long (a / b) :: st)) : Go l R Z n0 y code ml ret Q cells slots h pc Ls (.long b :: .long a :: st) := Go.step (fun C X _ q => by subst hp; exact XT.ldiv X.here C.1 rfl (hb C.2.2.2.1 hd) rfl hz q) k
theorem Go.lrem {a b : Int64} (hd : decode code pc = .ok (.lrem, 1)) (hz : b ≠ 0) (hp : pc + 1 = pc') (k : Go l R Z n0 y code ml ret Q cells slots h pc' Ls (.long (a - (a / b) * b) :: st)) : Go l R Z n0 y code ml ret Q cells slots h pc Ls (.long b :: .long a :: st) := Go.step (fun C X _ q => by subst hp; exact XT.lrem X.here C.1 rfl (hb C.2.2.2.1 hd) rfl hz q) k
theorem Go.ineg {a : Int32} (hd : decode code pc = .ok (.ineg, 1)) (hp : pc + 1 = pc') (k : Go l R Z n0 y code ml ret Q cells slots h pc' Ls (.int (-a) :: st)) : Go l R Z n0 y code ml ret Q cells slots h pc Ls (.int a :: st) := Go.step (fun C X _ q => by subst hp; exact XS.ineg X.here C.1 rfl (hb C.2.2.2.1 hd) rfl q) k
theorem Go.lneg {a : Int64} (hd : decode code pc = .ok (.lneg, 1)) (hp : pc + 1 = pc') (k : Go l R Z n0 y code ml ret Q cells slots h pc' Ls (.long (-a) :: st)) : Go l R Z n0 y code ml ret Q cells slots h pc Ls (.long a :: st) := Go.step (fun C X _ q => by subst hp; exact XT.lneg X.here C.1 rfl (hb C.2.2.2.1 hd) rfl q) k
theorem Go.i2l {a : Int32} (hd : decode code pc = .ok (.i2l, 1)) (hp : pc + 1 = pc') (k : Go l R Z n0 y code ml ret Q cells slots h pc' Ls (.long a.toInt64 :: st)) : Go l R Z n0 y code ml ret Q cells slots h pc Ls (.int a :: st) := Go.step (fun C X _ q => by subst hp; exact XT.i2l X.here C.1 rfl (hb C.2.2.2.1 hd) rfl q) k
theorem Go.l2i {a : Int64} (hd : decode code pc = .ok (.l2i, 1)) (hp : pc + 1 = pc') (k : Go l R Z n0 y code ml ret Q cells slots h pc' Ls (.int a.toInt32 :: st)) : Go l R Z n0 y code ml ret Q cells slots h pc Ls (.long a :: st) := Go.step (fun C X _ q => by subst hp; exact XT.l2i X.here C.1 rfl (hb C.2.2.2.1 hd) rfl q) k
theorem Go.i2b {a : Int32} (hd : decode code pc = .ok (.i2b, 1)) (hp : pc + 1 = pc') (k : Go l R Z n0 y code ml ret Q cells slots h pc' Ls (.int a.toInt8.toInt32 :: st)) : Go l R Z n0 y code ml ret Q cells slots h pc Ls (.int a :: st) := Go.step (fun C X _ q => by subst hp; exact XT.i2b X.here C.1 rfl (hb C.2.2.2.1 hd) rfl q) k
theorem Go.i2c {a : Int32} (hd : decode code pc = .ok (.i2c, 1)) (hp : pc + 1 = pc') (k : Go l R Z n0 y code ml ret Q cells slots h pc' Ls (.int a.toUInt32.toUInt16.toUInt32.toInt32 :: st)) : Go l R Z n0 y code ml ret Q cells slots h pc Ls (.int a :: st) := Go.step (fun C X _ q => by subst hp; exact XT.i2c X.here C.1 rfl (hb C.2.2.2.1 hd) rfl q) k
theorem Go.lcmp {a b : Int64} (hd : decode code pc = .ok (.lcmp, 1)) (hp : pc + 1 = pc') (k : Go l R Z n0 y code ml ret Q cells slots h pc' Ls (.int (XT.cmpL a b) :: st)) : Go l R Z n0 y code ml ret Q cells slots h pc Ls (.long b :: .long a :: st) := Go.step (fun C X _ q => by subst hp; exact XT.lcmp X.here C.1 rfl (hb C.2.2.2.1 hd) rfl q) k
theorem Go.iinc {k : Nat} {i : Int} {v w : Int32} (hd : decode code pc = .ok (.iinc k i, 3)) (hv : Int32.ofInt i = w) (hl : Ls[k]? = some (.val (.int v))) (hl' : storeLocals Ls k (.int (v + w)) = some Ls') (hp : pc + 3 = pc') (k : Go l R Z n0 y code ml ret Q cells slots h pc' Ls' st) : Go l R Z n0 y code ml ret Q cells slots h pc Ls st := Go.step (fun C X _ q => by subst hp; exact XT.iincV X.here C.1 rfl w (hb C.2.2.2.1 hd) hv hl hl' q) k
theorem Go.dup {v : Value} (hd : decode code pc = .ok (.dup, 1)) (hc : v.category = 1) (hp : pc + 1 = pc') (k : Go l R Z n0 y code ml ret Q cells slots h pc' Ls (v :: v :: st)) : Go l R Z n0 y code ml ret Q cells slots h pc Ls (v :: st) := Go.step (fun C X _ q => by subst hp; exact XS.dup X.here C.1 rfl (hb C.2.2.2.1 hd) rfl hc q) k
theorem Go.pop {v : Value} (hd : decode code pc = .ok (.pop, 1)) (hc : v.category = 1) (hp : pc + 1 = pc') (k : Go l R Z n0 y code ml ret Q cells slots h pc' Ls st) : Go l R Z n0 y code ml ret Q cells slots h pc Ls (v :: st) := Go.step (fun C X _ q => by subst hp; exact XT.pop X.here C.1 rfl (hb C.2.2.2.1 hd) rfl hc q) k
theorem Go.dupX1 {v w : Value} (hd : decode code pc = .ok (.dup_x1, 1)) (hc : v.category = 1) (hc' : w.category = 1) (hp : pc + 1 = pc') (k : Go l R Z n0 y code ml ret Q cells slots h pc' Ls (v :: w :: v :: st)) : Go l R Z n0 y code ml ret Q cells slots h pc Ls (v :: w :: st) := Go.step (fun C X _ q => by subst hp; exact XT.dupX1 X.here C.1 rfl (hb C.2.2.2.1 hd) rfl hc hc' q) k
theorem Go.dup2 {v w : Value} (hd : decode code pc = .ok (.dup2, 1)) (hc : v.category = 1) (hc' : w.category = 1) (hp : pc + 1 = pc') (k : Go l R Z n0 y code ml ret Q cells slots h pc' Ls (v :: w :: v :: w :: st)) : Go l R Z n0 y code ml ret Q cells slots h pc Ls (v :: w :: st) := Go.step (fun C X _ q => by subst hp; exact XT.dup2 X.here C.1 rfl (hb C.2.2.2.1 hd) rfl hc hc' q) k
theorem Go.dup2L {a : Int64} (hd : decode code pc = .ok (.dup2, 1)) (hp : pc + 1 = pc') (k : Go l R Z n0 y code ml ret Q cells slots h pc' Ls (.long a :: .long a :: st)) : Go l R Z n0 y code ml ret Q cells slots h pc Ls (.long a :: st) := Go.step (fun C X _ q => by subst hp; exact XT.dup2L X.here C.1 rfl (hb C.2.2.2.1 hd) rfl q) k
theorem Go.goto {o : Int} (hd : decode code pc = .ok (.goto o, 3)) (ho : 0 ≤ (pc : Int) + o := by decide) (hp : ((pc : Int) + o).toNat = pc' := by decide) (k : Go l R Z n0 y code ml ret Q cells slots h pc' Ls st) : Go l R Z n0 y code ml ret Q cells slots h pc Ls st := Go.step (fun C X _ q => XS.goto X.here C.1 rfl rfl (hb C.2.2.2.1 hd) ho hp q) k
theorem Go.ifYes {o : Int} {cd : ClassFile.Cond} {a : Int32} (hd : decode code pc = .ok (.ifCond cd o, 3)) (hc : ifCond.holds cd a = true) (ho : 0 ≤ (pc : Int) + o := by decide) (hp : ((pc : Int) + o).toNat = pc' := by decide) (k : Go l R Z n0 y code ml ret Q cells slots h pc' Ls st) : Go l R Z n0 y code ml ret Q cells slots h pc Ls (.int a :: st) := Go.step (fun C X _ q => XS.ifYes X.here C.1 rfl rfl (hb C.2.2.2.1 hd) rfl hc ho hp q) k
theorem Go.icmpYes {o : Int} {cd : ClassFile.Cond} {a b : Int32} (hd : decode code pc = .ok (.if_icmp cd o, 3)) (hc : if_icmp.holds cd a b = true) (ho : 0 ≤ (pc : Int) + o := by decide) (hp : ((pc : Int) + o).toNat = pc' := by decide) (k : Go l R Z n0 y code ml ret Q cells slots h pc' Ls st) : Go l R Z n0 y code ml ret Q cells slots h pc Ls (.int b :: .int a :: st) := Go.step (fun C X _ q => XS.icmpYes X.here C.1 rfl rfl (hb C.2.2.2.1 hd) rfl hc ho hp q) k
theorem Go.acmpYes {o : Int} {cd : ClassFile.ACond} {a b : Value} (hd : decode code pc = .ok (.if_acmp cd o, 3)) (ha : a.isRef = true) (hb' : b.isRef = true) (hc : XT.acmp cd a b = true) (ho : 0 ≤ (pc : Int) + o := by decide) (hp : ((pc : Int) + o).toNat = pc' := by decide) (k : Go l R Z n0 y code ml ret Q cells slots h pc' Ls st) : Go l R Z n0 y code ml ret Q cells slots h pc Ls (b :: a :: st) := Go.step (fun C X _ q => XT.acmpYes X.here C.1 rfl rfl (hb C.2.2.2.1 hd) rfl ha hb' hc ho hp q) k
theorem Go.nullYes {o : Int} {a : Value} (hd : decode code pc = .ok (.ifnull o, 3)) (hv : a = .null) (ho : 0 ≤ (pc : Int) + o := by decide) (hp : ((pc : Int) + o).toNat = pc' := by decide) (k : Go l R Z n0 y code ml ret Q cells slots h pc' Ls st) : Go l R Z n0 y code ml ret Q cells slots h pc Ls (a :: st) := Go.step (fun C X _ q => XT.nullYes X.here C.1 rfl rfl (hb C.2.2.2.1 hd) rfl hv ho hp q) k
theorem Go.nonnullYes {o : Int} {a : Value} (hd : decode code pc = .ok (.ifnonnull o, 3)) (ha : a.isRef = true) (hv : ¬ a = .null) (ho : 0 ≤ (pc : Int) + o := by decide) (hp : ((pc : Int) + o).toNat = pc' := by decide) (k : Go l R Z n0 y code ml ret Q cells slots h pc' Ls st) : Go l R Z n0 y code ml ret Q cells slots h pc Ls (a :: st) := Go.step (fun C X _ q => XT.nonnullYes X.here C.1 rfl rfl (hb C.2.2.2.1 hd) rfl ha hv ho hp q) k
theorem Go.ifNo {o : Int} {cd : ClassFile.Cond} {a : Int32} (hd : decode code pc = .ok (.ifCond cd o, 3)) (hc : ifCond.holds cd a = false) (hp : pc + 3 = pc') (k : Go l R Z n0 y code ml ret Q cells slots h pc' Ls st) : Go l R Z n0 y code ml ret Q cells slots h pc Ls (.int a :: st) := Go.step (fun C X _ q => by subst hp; exact XS.ifNo X.here C.1 rfl (hb C.2.2.2.1 hd) rfl hc q) k
theorem Go.icmpNo {o : Int} {cd : ClassFile.Cond} {a b : Int32} (hd : decode code pc = .ok (.if_icmp cd o, 3)) (hc : if_icmp.holds cd a b = false) (hp : pc + 3 = pc') (k : Go l R Z n0 y code ml ret Q cells slots h pc' Ls st) : Go l R Z n0 y code ml ret Q cells slots h pc Ls (.int b :: .int a :: st) := Go.step (fun C X _ q => by subst hp; exact XS.icmpNo X.here C.1 rfl (hb C.2.2.2.1 hd) rfl hc q) k
theorem Go.acmpNo {o : Int} {cd : ClassFile.ACond} {a b : Value} (hd : decode code pc = .ok (.if_acmp cd o, 3)) (ha : a.isRef = true) (hb' : b.isRef = true) (hc : XT.acmp cd a b = false) (hp : pc + 3 = pc') (k : Go l R Z n0 y code ml ret Q cells slots h pc' Ls st) : Go l R Z n0 y code ml ret Q cells slots h pc Ls (b :: a :: st) := Go.step (fun C X _ q => by subst hp; exact XT.acmpNo X.here C.1 rfl (hb C.2.2.2.1 hd) rfl ha hb' hc q) k
theorem Go.nullNo {o : Int} {a : Value} (hd : decode code pc = .ok (.ifnull o, 3)) (ha : a.isRef = true) (hv : ¬ a = .null) (hp : pc + 3 = pc') (k : Go l R Z n0 y code ml ret Q cells slots h pc' Ls st) : Go l R Z n0 y code ml ret Q cells slots h pc Ls (a :: st) := Go.step (fun C X _ q => by subst hp; exact XT.nullNo X.here C.1 rfl (hb C.2.2.2.1 hd) rfl ha hv q) k
theorem Go.nonnullNo {o : Int} {a : Value} (hd : decode code pc = .ok (.ifnonnull o, 3)) (hv : a = .null) (hp : pc + 3 = pc') (k : Go l R Z n0 y code ml ret Q cells slots h pc' Ls st) : Go l R Z n0 y code ml ret Q cells slots h pc Ls (a :: st) := Go.step (fun C X _ q => by subst hp; exact XT.nonnullNo X.here C.1 rfl (hb C.2.2.2.1 hd) rfl hv q) k
theorem Go.tsw {a : Int32} {dflt low high o : Int} {offs : Array Int} {len : Nat} (hd : decode code pc = .ok (.tableswitch dflt low high offs, len)) (hin : ¬ (a.toInt < low ∨ a.toInt > high)) (hoff : offs[(a.toInt - low).toNat]? = some o) (ho : 0 ≤ (pc : Int) + o) (hp : ((pc : Int) + o).toNat = pc') (k : Go l R Z n0 y code ml ret Q cells slots h pc' Ls st) : Go l R Z n0 y code ml ret Q cells slots h pc Ls (.int a :: st) := Go.step (fun C X _ q => XS.tswIn X.here C.1 rfl rfl (hb C.2.2.2.1 hd) rfl hin hoff ho hp q) k
theorem Go.tswOut {a : Int32} {dflt low high : Int} {offs : Array Int} {len : Nat} (hd : decode code pc = .ok (.tableswitch dflt low high offs, len)) (hout : a.toInt < low ∨ a.toInt > high) (ho : 0 ≤ (pc : Int) + dflt) (hp : ((pc : Int) + dflt).toNat = pc') (k : Go l R Z n0 y code ml ret Q cells slots h pc' Ls st) : Go l R Z n0 y code ml ret Q cells slots h pc Ls (.int a :: st) := Go.step (fun C X _ q => XS.tswOut X.here C.1 rfl rfl (hb C.2.2.2.1 hd) rfl hout ho hp q) k
theorem Go.getstatic {host : String} {R0 O n d : String} {i : Nat} (w : (Jvm.Cond.fieldLink y.cls i R0 n d).before a0 Z = true ∨ (Jvm.Cond.fieldLinkNest y.cls i R0 n d host).before a0 Z = true) (via : Via Z R0 O n d) {v : Value} (F : Sta Z h O n d v) (hd : decode code pc = .ok (.getstatic i, 3)) (hp : pc + 3 = pc') (k : Go l R Z n0 y code ml ret Q cells slots h pc' Ls (v :: st)) : Go l R Z n0 y code ml ret Q cells slots h pc Ls st := by
  refine Go.law (P := fun h' => h' = h) (fun C X N eT _ => ?_) (fun h' e => e ▸ k)
  subst hp
  obtain ⟨T', X', e', st⟩ := getS2 X C.1 C.2.1 C.2.2.1 w via eT F (g := mkF _ pc Ls st) rfl (hb C.2.2.2.1 hd)
  exact ⟨T', _, h, X', N, e', rfl, st⟩
theorem Go.getfield {host : String} {R0 O n d : String} {i : Nat} (w : (Jvm.Cond.fieldLink y.cls i R0 n d).before a0 Z = true ∨ (Jvm.Cond.fieldLinkNest y.cls i R0 n d host).before a0 Z = true) (via : Via Z R0 O n d) {v : Value} {a : Addr} (F : Fld Z h a O n d v) (hd : decode code pc = .ok (.getfield i, 3)) (hp : pc + 3 = pc') (k : Go l R Z n0 y code ml ret Q cells slots h pc' Ls (v :: st)) : Go l R Z n0 y code ml ret Q cells slots h pc Ls (.ref a :: st) := by
  refine Go.law (P := fun h' => h' = h) (fun C X N eT _ => ?_) (fun h' e => e ▸ k)
  subst hp
  obtain ⟨T', X', e', st⟩ := getF X C.1 C.2.1 C.2.2.1 w via eT F (g := mkF _ pc Ls (.ref a :: st)) rfl rfl (hb C.2.2.2.1 hd)
  exact ⟨T', _, h, X', N, e', rfl, st⟩
theorem Go.castY {K : String} {i : Nat} {a : Addr} (w : (Jvm.Cond.classLink y.cls i K).before a0 Z = true) (F : Ins Z h a K true) (hd : decode code pc = .ok (.checkcast i, 3)) (hp : pc + 3 = pc') (k : Go l R Z n0 y code ml ret Q cells slots h pc' Ls (.ref a :: st)) : Go l R Z n0 y code ml ret Q cells slots h pc Ls (.ref a :: st) := by
  refine Go.law (P := fun h' => h' = h) (fun C X N eT _ => ?_) (fun h' e => e ▸ k)
  subst hp
  obtain ⟨T', X', e', st⟩ := castY X C.1 C.2.1 C.2.2.1 w eT F (g := mkF _ pc Ls (.ref a :: st)) rfl rfl (hb C.2.2.2.1 hd)
  exact ⟨T', _, h, X', N, e', rfl, st⟩
theorem Go.instY {K : String} {i : Nat} {a : Addr} (w : (Jvm.Cond.classLink y.cls i K).before a0 Z = true) (F : Ins Z h a K true) (hd : decode code pc = .ok (.instanceof i, 3)) (hp : pc + 3 = pc') (k : Go l R Z n0 y code ml ret Q cells slots h pc' Ls (.int 1 :: st)) : Go l R Z n0 y code ml ret Q cells slots h pc Ls (.ref a :: st) := by
  refine Go.law (P := fun h' => h' = h) (fun C X N eT _ => ?_) (fun h' e => e ▸ k)
  subst hp
  obtain ⟨T', X', e', st⟩ := instY X C.1 C.2.1 C.2.2.1 w eT F (g := mkF _ pc Ls (.ref a :: st)) rfl rfl (hb C.2.2.2.1 hd)
  exact ⟨T', _, h, X', N, e', rfl, st⟩
theorem Go.instNo {K C' : String} {i : Nat} {a : Addr} (w : (Jvm.Cond.classLink y.cls i K).before a0 Z = true) (E : Exa Z h a C') (F : ∃ c t, Z.vm.findClass C' = some c ∧ Z.vm.findClass K = some t ∧ Z.vm.assignable c t = false) (hd : decode code pc = .ok (.instanceof i, 3)) (hp : pc + 3 = pc') (k : Go l R Z n0 y code ml ret Q cells slots h pc' Ls (.int 0 :: st)) : Go l R Z n0 y code ml ret Q cells slots h pc Ls (.ref a :: st) := by
  refine Go.law (P := fun h' => h' = h) (fun C X N eT _ => ?_) (fun h' e => e ▸ k)
  subst hp
  obtain ⟨T', X', e', st⟩ := instNo X C.1 C.2.1 C.2.2.1 w eT E F (g := mkF _ pc Ls (.ref a :: st)) rfl rfl (hb C.2.2.2.1 hd)
  exact ⟨T', _, h, X', N, e', rfl, st⟩
theorem Go.castNull {i : Nat} (hd : decode code pc = .ok (.checkcast i, 3)) (hp : pc + 3 = pc') (k : Go l R Z n0 y code ml ret Q cells slots h pc' Ls (.null :: st)) : Go l R Z n0 y code ml ret Q cells slots h pc Ls (.null :: st) := Go.step (fun C X _ q => by subst hp; exact (X.checkcastNull C.1 (g := mkF _ pc Ls (.null :: st)) rfl rfl (hb C.2.2.2.1 hd) _ q)) k
theorem Go.initO {i : Nat} {a : Addr} (w1 : (Jvm.Cond.methodLink y.cls i Lib.objectInit).before a0 Z = true) (w2 : (Jvm.Cond.instanceMethod Lib.objectInit).before a0 Z = true) (w3 : (Jvm.Cond.code Lib.objectInit ⟨#[0xb1]⟩ 1 none).before a0 Z = true) (hd : decode code pc = .ok (.invokespecial i, 3)) (hz : Ls.size = ml) (hf : 1 ≤ R.frames := by decide) (hl : (st.map fun v => v.category).sum + 12 ≤ R.locals := by decide) (hp : pc + 3 = pc') (k : Go l R Z n0 y code ml ret Q cells slots h pc' Ls st) : Go l R Z n0 y code ml ret Q cells slots h pc Ls (.ref a :: st) := by
  refine Go.law (P := fun h' => h' = h) (fun C X N eT _ => ?_) (fun h' e => e ▸ k)
  subst hp
  obtain ⟨T', X', e', st⟩ := initO X C.1 C.2.1 C.2.2.1 w1 w2 w3 eT (g := mkF _ pc Ls (.ref a :: st)) rfl (by rw [C.2.2.2.2.1]; exact hz) rfl (hb C.2.2.2.1 hd) hf (W := (st.map fun v => v.category).sum) (by simp) hl
  exact ⟨T', _, h, X', N, e', rfl, st⟩
theorem Go.getClass {i : Nat} {a mr : Addr} {C' : String} (w1 : (Jvm.Cond.methodLink y.cls i ⟨"java/lang/Object", "getClass", "()Ljava/lang/Class;"⟩).before a0 Z = true) (w2 : (Jvm.Cond.declares ⟨"java/lang/Object", "getClass", "()Ljava/lang/Class;"⟩).before a0 Z = true) (w3 : (Jvm.Cond.noSuperclass "java/lang/Object").before a0 Z = true) (w4 : (Jvm.Cond.selects C' ⟨"java/lang/Object", "getClass", "()Ljava/lang/Class;"⟩ ⟨"java/lang/Object", "getClass", "()Ljava/lang/Class;"⟩).before a0 Z = true) (w5 : (Jvm.Cond.instanceMethod ⟨"java/lang/Object", "getClass", "()Ljava/lang/Class;"⟩).before a0 Z = true) (w6 : (Jvm.Cond.native ⟨"java/lang/Object", "getClass", "()Ljava/lang/Class;"⟩).before a0 Z = true) (E : Exa Z h a C') (M : Mi Z C' mr) (hd : decode code pc = .ok (.invokevirtual i, 3)) (hz : Ls.size = ml) (hf : 1 ≤ R.frames := by decide) (hl : (st.map fun v => v.category).sum + (nativeFrameWords "java/lang/Object" "getClass" 1 + 11) ≤ R.locals := by decide) (hp : pc + 3 = pc') (k : Go l R Z n0 y code ml ret Q cells slots h pc' Ls (.ref mr :: st)) : Go l R Z n0 y code ml ret Q cells slots h pc Ls (.ref a :: st) := by
  refine Go.law (P := fun h' => h' = h) (fun C X N eT _ => ?_) (fun h' e => e ▸ k)
  subst hp
  obtain ⟨cB, kB, i1, i2, i3⟩ := isOf C.2.1 eT E
  obtain ⟨cc, kc, m1, m2, m3⟩ := M.at C.2.1
  cases i1.symm.trans m1
  obtain ⟨vm', X', st⟩ := X.getClassOf C.1 C.2.2.1 (mvT C.2.1 w1) (mvT C.2.1 w2) (nf_top (args := #[]) (mvT C.2.1 w3)) (mvT C.2.1 w4) (mvT C.2.1 w5) (mvT C.2.1 w6) m1 i3 m2 m3 (g := mkF _ pc Ls (.ref a :: st)) rfl (by rw [C.2.2.2.2.1]; exact hz) rfl (hb C.2.2.2.1 hd) hf (by simpa using hl)
  exact ⟨_, _, h, X', N, eT, rfl, st⟩
theorem Go.ldcMirror {i : Nat} {mr : Addr} {C' : String} (w : (Jvm.Cond.classLink y.cls i C').before a0 Z = true) (M : Mi Z C' mr) (hd : decode code pc = .ok (.ldc i, 2)) (hp : pc + 2 = pc') (k : Go l R Z n0 y code ml ret Q cells slots h pc' Ls (.ref mr :: st)) : Go l R Z n0 y code ml ret Q cells slots h pc Ls st := by
  refine Go.law (P := fun h' => h' = h) (fun C X N eT _ => ?_) (fun h' e => e ▸ k)
  subst hp
  obtain ⟨cc, kc, m1, m2, m3⟩ := M.at C.2.1
  obtain ⟨vm', X', st⟩ := X.ldcMirror C.1 C.2.2.1 (mvT C.2.1 w) (a := mr) (by simp [Term.eval, m1, m2, m3]) (g := mkF _ pc Ls st) rfl (hb C.2.2.2.1 hd)
  exact ⟨_, _, h, X', N, eT, rfl, st⟩
theorem Go.putfield {host : String} {R0 O n d : String} {i : Nat} (w : (Jvm.Cond.fieldLink y.cls i R0 n d).before a0 Z = true ∨ (Jvm.Cond.fieldLinkNest y.cls i R0 n d host).before a0 Z = true) {ty : FieldType} {C' : String} {kk : Nat} (via : Via Z R0 O n d) {v old : Value} {a : Addr} (F : Fld Z h a O n d old) (E : Exa Z h a C') (L : (Jvm.Cond.lays C' O n d).before a0 Z = true ∨ ((Jvm.Cond.laysFinal C' O n d).before a0 Z = true ∧ y.cls = O ∧ y.name = "<init>")) (wi : (Jvm.Cond.instantiable C' kk).before a0 Z = true) (hty : parseFieldDescriptor d = some ty) (hn : narrow ty v = v) (hf : fits ty v = true) (ha : n0 ≤ a) (hd : decode code pc = .ok (.putfield i, 3)) (hp : pc + 3 = pc') (k : ∀ h', Wr h h' a (Jvm.RoadKit.slotOf Z O n d) v → Go l R Z n0 y code ml ret Q cells slots h' pc' Ls st) : Go l R Z n0 y code ml ret Q cells slots h pc Ls (v :: .ref a :: st) := by
  refine Go.law (P := fun h' => Wr h h' a (Jvm.RoadKit.slotOf Z O n d) v) (fun C X N eT hn => ?_) (k)
  subst hp
  obtain ⟨T', h', X', e', W, st⟩ := putF X C.1 C.2.1 C.2.2.1 w via eT F E (L.imp id fun q => ⟨q.1, q.2.1, C.2.2.2.2.2.2.2.1.trans q.2.2⟩) wi hty ‹narrow ty v = v› hf (g := mkF _ pc Ls (v :: .ref a :: st)) rfl rfl (hb C.2.2.2.1 hd)
  exact ⟨T', _, h', X', Fr.snoc X' N ha, e', W, st⟩
theorem Go.putfieldN {R0 O n d : String} {i : Nat} (w : (Jvm.Cond.fieldLink y.cls i R0 n d).before a0 Z = true) {ty : FieldType} {C' : String} {kk : Nat} (via : Via Z R0 O n d) {v v' : Int32} {old : Value} {a : Addr} (F : Fld Z h a O n d old) (E : Exa Z h a C') (L : (Jvm.Cond.lays C' O n d).before a0 Z = true ∨ ((Jvm.Cond.laysFinal C' O n d).before a0 Z = true ∧ y.cls = O ∧ y.name = "<init>")) (wi : (Jvm.Cond.instantiable C' kk).before a0 Z = true) (hty : parseFieldDescriptor d = some ty) (hn : narrow ty (.int v) = .int v') (hf : fits ty (.int v') = true) (ha : n0 ≤ a) (hd : decode code pc = .ok (.putfield i, 3)) (hp : pc + 3 = pc') (k : ∀ h', Wr h h' a (Jvm.RoadKit.slotOf Z O n d) (.int v') → Go l R Z n0 y code ml ret Q cells slots h' pc' Ls st) : Go l R Z n0 y code ml ret Q cells slots h pc Ls (.int v :: .ref a :: st) := by
  refine Go.law (P := fun h' => Wr h h' a (Jvm.RoadKit.slotOf Z O n d) (.int v')) (fun C X N eT hn => ?_) (k)
  subst hp
  obtain ⟨T', h', X', e', W, st⟩ := putFN X C.1 C.2.1 C.2.2.1 w via eT F E (L.imp id fun q => ⟨q.1, q.2.1, C.2.2.2.2.2.2.2.1.trans q.2.2⟩) wi hty ‹narrow ty (.int v) = .int v'› hf (g := mkF _ pc Ls (.int v :: .ref a :: st)) rfl rfl (hb C.2.2.2.1 hd)
  exact ⟨T', _, h', X', Fr.snoc X' N ha, e', W, st⟩
theorem Go.new {C' : String} {i n cells' slots' : Nat} (w : (Jvm.Cond.classLink y.cls i C').before a0 Z = true) (wi : (Jvm.Cond.instantiable C' n).before a0 Z = true) (wz : (Jvm.Cond.initialized C').before a0 Z = true) (hd : decode code pc = .ok (.new i, 3)) (hc' : cells + 1 = cells') (hs' : slots + n = slots') (hc : cells' ≤ R.cells := by decide) (hl : slots' ≤ R.slots := by decide) (hp : pc + 3 = pc') (k : ∀ (h' : Heap) (b : Addr), b = h.size → Ext h h' → n0 ≤ b → Exa Z h' b C' → (∀ {O nm d : String} {ty : FieldType}, Laid Z a0 C' O nm d → parseFieldDescriptor d = some ty → Fld Z h' b O nm d (defaultValue ty)) → Go l R Z n0 y code ml ret Q cells' slots' h' pc' Ls (.ref b :: st)) : Go l R Z n0 y code ml ret Q cells slots h pc Ls st := by
  refine Go.law (P := fun h' => (Ext h h' ∧ n0 ≤ h.size ∧ Exa Z h' h.size C' ∧ ∀ {O nm d : String} {ty : FieldType}, Laid Z a0 C' O nm d → parseFieldDescriptor d = some ty → Fld Z h' h.size O nm d (defaultValue ty))) (fun C X N eT hn => ?_) (fun h' q => k h' h.size rfl q.1 q.2.1 q.2.2.1 q.2.2.2)
  subst hp
  subst hc' hs'
  obtain ⟨T', h', X', e', E, A, D, -, st⟩ := newO X C.1 C.2.1 C.2.2.1 w wi wz eT (g := mkF _ pc Ls st) rfl (hb C.2.2.2.1 hd) hc hl
  exact ⟨T', _, h', X', N, e', ⟨E, hn, A, D⟩, st⟩
theorem Go.newarray {aty : ArrayType} {ad : String} {n : Int32} {cap cells' slots' : Nat} (w : (Jvm.Cond.arrayClass (newarray.typeOf aty)).before a0 Z = true) (hd : decode code pc = .ok (.newarray aty, 2)) (had : "[" ++ (newarray.typeOf aty).toString = ad) (hn' : ¬ n < 0) (hcap : n.toNatClampNeg ≤ cap) (hc' : cells + 1 = cells') (hs' : slots + cap = slots') (hb8 : cap * 8 ≤ 536870912 := by decide) (hc : cells' ≤ R.cells := by decide) (hl : slots' ≤ R.slots := by decide) (hp : pc + 2 = pc') (k : ∀ (h' : Heap) (b : Addr), b = h.size → Ext h h' → n0 ≤ b → ∀ cA, Arv Z h' b cA (newarray.typeOf aty) n [] (defaultValue (newarray.typeOf aty)) → Exa Z h' b ad → Go l R Z n0 y code ml ret Q cells' slots' h' pc' Ls (.ref b :: st)) : Go l R Z n0 y code ml ret Q cells slots h pc Ls (.int n :: st) := by
  refine Go.law (P := fun h' => (Ext h h' ∧ n0 ≤ h.size ∧ ∃ cA, Arv Z h' h.size cA (newarray.typeOf aty) n [] (defaultValue (newarray.typeOf aty)) ∧ Exa Z h' h.size ad)) (fun C X N eT hn => ?_) (fun h' q => q.2.2.elim fun cA u => k h' h.size rfl q.1 q.2.1 cA u.1 u.2)
  subst hp
  subst hc' hs'
  obtain ⟨T', h', cA, X', e', E, A, A2, st⟩ := newPE X C.1 C.2.1 w eT (g := mkF _ pc Ls (.int n :: st)) rfl (hb C.2.2.2.1 hd) rfl hn' hcap hb8 hc hl had
  exact ⟨T', _, h', X', N, e', ⟨E, hn, cA, Arv.new A hn', A2⟩, st⟩
theorem Go.anewarray {C' ad : String} {i : Nat} {n : Int32} {cap cells' slots' : Nat} (w : (Jvm.Cond.classLink y.cls i C').before a0 Z = true) (w2 : (Jvm.Cond.arrayOver (.object C')).before a0 Z = true) (hd : decode code pc = .ok (.anewarray i, 3)) (had : "[" ++ (FieldType.object C').toString = ad) (hn' : ¬ n < 0) (hcap : n.toNatClampNeg ≤ cap) (hc' : cells + 1 = cells') (hs' : slots + cap = slots') (hb8 : cap * 8 ≤ 536870912 := by decide) (hc : cells' ≤ R.cells := by decide) (hl : slots' ≤ R.slots := by decide) (hp : pc + 3 = pc') (k : ∀ (h' : Heap) (b : Addr), b = h.size → Ext h h' → n0 ≤ b → ∀ cA, Arv Z h' b cA (.object C') n [] .null → Exa Z h' b ad → Ovr Z cA C' → Go l R Z n0 y code ml ret Q cells' slots' h' pc' Ls (.ref b :: st)) : Go l R Z n0 y code ml ret Q cells slots h pc Ls (.int n :: st) := by
  refine Go.law (P := fun h' => (Ext h h' ∧ n0 ≤ h.size ∧ ∃ cA, Arv Z h' h.size cA (.object C') n [] .null ∧ Exa Z h' h.size ad ∧ Ovr Z cA C')) (fun C X N eT hn => ?_) (fun h' q => q.2.2.elim fun cA u => k h' h.size rfl q.1 q.2.1 cA u.1 u.2.1 u.2.2)
  subst hp
  subst hc' hs'
  obtain ⟨T', h', cA, X', e', E, A, A2, O, st⟩ := newRE X C.1 C.2.1 C.2.2.1 w w2 eT (g := mkF _ pc Ls (.int n :: st)) rfl (hb C.2.2.2.1 hd) rfl hn' hcap hb8 hc hl had
  exact ⟨T', _, h', X', N, e', ⟨E, hn, cA, Arv.new A hn', A2, O⟩, st⟩
theorem Go.arraycopy {i : Nat} {a b : Addr} {kA kB : ClassId} {ty ty' : FieldType} {z z' sp dp nn : Int32} {vs vd us vd' : List Value} {dv dd : Value} (w1 : (Jvm.Cond.methodLink y.cls i Jvm.Stand.acN).before a0 Z = true) (w2 : (Jvm.Cond.native Jvm.Stand.acN).before a0 Z = true) (w3 : (Jvm.Cond.static Jvm.Stand.acN).before a0 Z = true) (w4 : (Jvm.Cond.initialized "java/lang/System").before a0 Z = true)
    (A : Arv Z h a kA ty z vs dv) (B : Arv Z h b kB ty' z' vd dd) (hty : (ty = ty' ∧ refKind ty = false) ∨ (refKind ty = true ∧ refKind ty' = true ∧ StoL Z h b us)) (h1 : ¬ sp < 0) (h2 : ¬ dp < 0) (h3 : ¬ nn < 0) (h4 : sp.toNatClampNeg + nn.toNatClampNeg ≤ z.toNatClampNeg) (h5 : dp.toNatClampNeg + nn.toNatClampNeg ≤ z'.toNatClampNeg)
    (hus : us = (List.range nn.toNatClampNeg).map fun i => vs.getD (sp.toNatClampNeg + i) dv) (hl : dp.toNatClampNeg + nn.toNatClampNeg ≤ vd.length) (hvd : vd.take dp.toNatClampNeg ++ us ++ vd.drop (dp.toNatClampNeg + nn.toNatClampNeg) = vd') (ge : n0 ≤ b) (hd : decode code pc = .ok (.invokestatic i, 3)) (hz : Ls.size = ml) (hf : 1 ≤ R.frames := by decide) (hlo : (st.map fun v => v.category).sum + (nativeFrameWords "java/lang/System" "arraycopy" 5 + 11) ≤ R.locals := by decide) (hp : pc + 3 = pc')
    (k : ∀ h', Keep h h' [b] → Arv Z h' b kB ty' z' vd' dd → Go l R Z n0 y code ml ret Q cells slots h' pc' Ls st) : Go l R Z n0 y code ml ret Q cells slots h pc Ls (.int nn :: .int dp :: .ref b :: .int sp :: .ref a :: st) := by
  refine Go.law (P := fun h' => Keep h h' [b] ∧ Arv Z h' b kB ty' z' vd' dd) (fun C X N eT hn => ?_) (fun h' q => k h' q.1 q.2)
  subst hp hvd
  obtain ⟨T', h', L, X', e', N', K, V, st⟩ := cpA X C.1 C.2.1 C.2.2.1 w1 w2 w3 w4 eT A B hty h1 h2 h3 h4 h5 hus hl N ge (g := mkF _ pc Ls (.int nn :: .int dp :: .ref b :: .int sp :: .ref a :: st)) rfl (by rw [C.2.2.2.2.1]; exact hz) rfl (hb C.2.2.2.1 hd) hf (W := (st.map fun v => v.category).sum) (by simp) hlo
  exact ⟨T', L, h', X', N', e', ⟨K, V⟩, st⟩
theorem Go.iastore {a : Addr} {kA : ClassId} {z j : Int32} {vs : List Value} {dv : Value} {v : Int32} {i : Nat} (F : Arv Z h a kA .int z vs dv) (ha : n0 ≤ a) (hd : decode code pc = .ok (.iastore, 1)) (hj : ¬ j < 0) (hjz : j < z) (hi : j.toNatClampNeg = i) (hil : i < vs.length) (hp : pc + 1 = pc') (k : ∀ h', Wr h h' a i (.int v) → Arv Z h' a kA .int z (vs.set i (.int v)) dv → Go l R Z n0 y code ml ret Q cells slots h' pc' Ls st) : Go l R Z n0 y code ml ret Q cells slots h pc Ls (.int v :: .int j :: .ref a :: st) := by
  refine Go.law (P := fun h' => (Wr h h' a i (.int v) ∧ Arv Z h' a kA .int z (vs.set i (.int v)) dv)) (fun C X N eT hn => ?_) (fun h' q => k h' q.1 q.2)
  subst hp
  obtain ⟨cl, A, q1, S, q3, H, G⟩ := F
  obtain ⟨T', h', X', e', W, st⟩ := stI X C.1 C.2.1 eT A (j := j) (inb_of S ⟨hj, hjz⟩) (g := mkF _ pc Ls (.int v :: .int j :: .ref a :: st)) rfl rfl (hb C.2.2.2.1 hd)
  have V := Arv.set A q1 S q3 H G rfl W i hi hil
  subst hi
  exact ⟨T', _, h', X', Fr.snoc X' N ha, e', ⟨W, V⟩, st⟩
theorem Go.lastore {a : Addr} {kA : ClassId} {z j : Int32} {vs : List Value} {dv : Value} {v : Int64} {i : Nat} (F : Arv Z h a kA .long z vs dv) (ha : n0 ≤ a) (hd : decode code pc = .ok (.lastore, 1)) (hj : ¬ j < 0) (hjz : j < z) (hi : j.toNatClampNeg = i) (hil : i < vs.length) (hp : pc + 1 = pc') (k : ∀ h', Wr h h' a i (.long v) → Arv Z h' a kA .long z (vs.set i (.long v)) dv → Go l R Z n0 y code ml ret Q cells slots h' pc' Ls st) : Go l R Z n0 y code ml ret Q cells slots h pc Ls (.long v :: .int j :: .ref a :: st) := by
  refine Go.law (P := fun h' => (Wr h h' a i (.long v) ∧ Arv Z h' a kA .long z (vs.set i (.long v)) dv)) (fun C X N eT hn => ?_) (fun h' q => k h' q.1 q.2)
  subst hp
  obtain ⟨cl, A, q1, S, q3, H, G⟩ := F
  obtain ⟨T', h', X', e', W, st⟩ := stJ X C.1 C.2.1 eT A (j := j) (inb_of S ⟨hj, hjz⟩) (g := mkF _ pc Ls (.long v :: .int j :: .ref a :: st)) rfl rfl (hb C.2.2.2.1 hd)
  have V := Arv.set A q1 S q3 H G rfl W i hi hil
  subst hi
  exact ⟨T', _, h', X', Fr.snoc X' N ha, e', ⟨W, V⟩, st⟩
theorem Go.castore {a : Addr} {kA : ClassId} {z j : Int32} {vs : List Value} {dv : Value} {v : Int32} {i : Nat} (F : Arv Z h a kA .char z vs dv) (ha : n0 ≤ a) (hd : decode code pc = .ok (.castore, 1)) (hj : ¬ j < 0) (hjz : j < z) (hi : j.toNatClampNeg = i) (hil : i < vs.length) (hp : pc + 1 = pc') (k : ∀ h', Wr h h' a i (.int (nar .char v)) → Arv Z h' a kA .char z (vs.set i (.int (nar .char v))) dv → Go l R Z n0 y code ml ret Q cells slots h' pc' Ls st) : Go l R Z n0 y code ml ret Q cells slots h pc Ls (.int v :: .int j :: .ref a :: st) := by
  refine Go.law (P := fun h' => (Wr h h' a i (.int (nar .char v)) ∧ Arv Z h' a kA .char z (vs.set i (.int (nar .char v))) dv)) (fun C X N eT hn => ?_) (fun h' q => k h' q.1 q.2)
  subst hp
  obtain ⟨cl, A, q1, S, q3, H, G⟩ := F
  obtain ⟨T', h', X', e', W, st⟩ := stC X C.1 C.2.1 eT A (j := j) (inb_of S ⟨hj, hjz⟩) (g := mkF _ pc Ls (.int v :: .int j :: .ref a :: st)) rfl rfl (hb C.2.2.2.1 hd)
  have V := Arv.set A q1 S q3 H G (fits_nar_char v) W i hi hil
  subst hi
  exact ⟨T', _, h', X', Fr.snoc X' N ha, e', ⟨W, V⟩, st⟩
theorem Go.bastore {a : Addr} {kA : ClassId} {z j : Int32} {vs : List Value} {dv : Value} {v : Int32} {i : Nat} (F : Arv Z h a kA .byte z vs dv) (ha : n0 ≤ a) (hd : decode code pc = .ok (.bastore, 1)) (hj : ¬ j < 0) (hjz : j < z) (hi : j.toNatClampNeg = i) (hil : i < vs.length) (hp : pc + 1 = pc') (k : ∀ h', Wr h h' a i (.int v.toInt8.toInt32) → Arv Z h' a kA .byte z (vs.set i (.int v.toInt8.toInt32)) dv → Go l R Z n0 y code ml ret Q cells slots h' pc' Ls st) : Go l R Z n0 y code ml ret Q cells slots h pc Ls (.int v :: .int j :: .ref a :: st) := by
  refine Go.law (P := fun h' => (Wr h h' a i (.int v.toInt8.toInt32) ∧ Arv Z h' a kA .byte z (vs.set i (.int v.toInt8.toInt32)) dv)) (fun C X N eT hn => ?_) (fun h' q => k h' q.1 q.2)
  subst hp
  obtain ⟨cl, A, q1, S, q3, H, G⟩ := F
  obtain ⟨T', h', X', e', W, st⟩ := stB X C.1 C.2.1 eT A (j := j) (inb_of S ⟨hj, hjz⟩) (g := mkF _ pc Ls (.int v :: .int j :: .ref a :: st)) rfl rfl (hb C.2.2.2.1 hd)
  have V := Arv.set A q1 S q3 H G (fits_nar_byte v) W i hi hil
  subst hi
  exact ⟨T', _, h', X', Fr.snoc X' N ha, e', ⟨W, V⟩, st⟩
theorem Go.aastore {a : Addr} {kA : ClassId} {ty : FieldType} {z j : Int32} {vs : List Value} {dv v : Value} {i : Nat} (F : Arv Z h a kA ty z vs dv) (ha : n0 ≤ a) (hty : ty.isReference = true) (hfit : fits ty v = true) (Fs : Sto Z h a v) (hd : decode code pc = .ok (.aastore, 1)) (hj : ¬ j < 0) (hjz : j < z) (hi : j.toNatClampNeg = i) (hil : i < vs.length) (hp : pc + 1 = pc') (k : ∀ h', Wr h h' a i v → Arv Z h' a kA ty z (vs.set i v) dv → Go l R Z n0 y code ml ret Q cells slots h' pc' Ls st) : Go l R Z n0 y code ml ret Q cells slots h pc Ls (v :: .int j :: .ref a :: st) := by
  refine Go.law (P := fun h' => (Wr h h' a i v ∧ Arv Z h' a kA ty z (vs.set i v) dv)) (fun C X N eT hn => ?_) (fun h' q => k h' q.1 q.2)
  subst hp
  obtain ⟨cl, A, q1, S, q3, H, G⟩ := F
  obtain ⟨T', h', X', e', W, st⟩ := stR X C.1 C.2.1 eT A (j := j) (inb_of S ⟨hj, hjz⟩) hty Fs (g := mkF _ pc Ls (v :: .int j :: .ref a :: st)) rfl rfl (hb C.2.2.2.1 hd)
  have V := Arv.set A q1 S q3 H G hfit W i hi hil
  subst hi
  exact ⟨T', _, h', X', Fr.snoc X' N ha, e', ⟨W, V⟩, st⟩
theorem Go.iaload {a : Addr} {kA : ClassId} {z j : Int32} {vs : List Value} {dv : Value} {v : Int32} (F : Arv Z h a kA .int z vs dv) (hd : decode code pc = .ok (.iaload, 1)) (hj : ¬ j < 0) (hjz : j < z) (hv : vs.getD j.toNatClampNeg dv = .int v) (hp : pc + 1 = pc') (k : Go l R Z n0 y code ml ret Q cells slots h pc' Ls (.int v :: st)) : Go l R Z n0 y code ml ret Q cells slots h pc Ls (.int j :: .ref a :: st) := by
  refine Go.step (fun C X eT q => ?_) k
  subst hp
  obtain ⟨cl, A, q1, S, q3, H, G⟩ := F
  have hin := inb_of S ⟨hj, hjz⟩
  exact X.iaload C.1 (j := j) (v := .int v) (by rw [eT]; exact A.1) (State.isArrayOf_alike C.2.1.alike A.2.1) A.2.2 hin (Has.at H hin hv) (g := mkF _ pc Ls (.int j :: .ref a :: st)) rfl rfl (hb C.2.2.2.1 hd) _ q
theorem Go.laload {a : Addr} {kA : ClassId} {z j : Int32} {vs : List Value} {dv : Value} {v : Int64} (F : Arv Z h a kA .long z vs dv) (hd : decode code pc = .ok (.laload, 1)) (hj : ¬ j < 0) (hjz : j < z) (hv : vs.getD j.toNatClampNeg dv = .long v) (hp : pc + 1 = pc') (k : Go l R Z n0 y code ml ret Q cells slots h pc' Ls (.long v :: st)) : Go l R Z n0 y code ml ret Q cells slots h pc Ls (.int j :: .ref a :: st) := by
  refine Go.step (fun C X eT q => ?_) k
  subst hp
  obtain ⟨cl, A, q1, S, q3, H, G⟩ := F
  have hin := inb_of S ⟨hj, hjz⟩
  exact X.laload C.1 (j := j) (v := .long v) (by rw [eT]; exact A.1) (State.isArrayOf_alike C.2.1.alike A.2.1) A.2.2 hin (Has.at H hin hv) (g := mkF _ pc Ls (.int j :: .ref a :: st)) rfl rfl (hb C.2.2.2.1 hd) _ q
theorem Go.caload {a : Addr} {kA : ClassId} {z j : Int32} {vs : List Value} {dv : Value} {v : Int32} (F : Arv Z h a kA .char z vs dv) (hd : decode code pc = .ok (.caload, 1)) (hj : ¬ j < 0) (hjz : j < z) (hv : vs.getD j.toNatClampNeg dv = .int v) (hp : pc + 1 = pc') (k : Go l R Z n0 y code ml ret Q cells slots h pc' Ls (.int v :: st)) : Go l R Z n0 y code ml ret Q cells slots h pc Ls (.int j :: .ref a :: st) := by
  refine Go.step (fun C X eT q => ?_) k
  subst hp
  obtain ⟨cl, A, q1, S, q3, H, G⟩ := F
  have hin := inb_of S ⟨hj, hjz⟩
  exact X.caload C.1 (j := j) (v := .int v) (by rw [eT]; exact A.1) (State.isArrayOf_alike C.2.1.alike A.2.1) A.2.2 hin (Has.at H hin hv) (g := mkF _ pc Ls (.int j :: .ref a :: st)) rfl rfl (hb C.2.2.2.1 hd) _ q
theorem Go.baload {a : Addr} {kA : ClassId} {z j : Int32} {vs : List Value} {dv : Value} {v : Int32} (F : Arv Z h a kA .byte z vs dv) (hd : decode code pc = .ok (.baload, 1)) (hj : ¬ j < 0) (hjz : j < z) (hv : vs.getD j.toNatClampNeg dv = .int v) (hp : pc + 1 = pc') (k : Go l R Z n0 y code ml ret Q cells slots h pc' Ls (.int v :: st)) : Go l R Z n0 y code ml ret Q cells slots h pc Ls (.int j :: .ref a :: st) := by
  refine Go.step (fun C X eT q => ?_) k
  subst hp
  obtain ⟨cl, A, q1, S, q3, H, G⟩ := F
  have hin := inb_of S ⟨hj, hjz⟩
  exact X.baloadBytes C.1 (j := j) (v := .int v) (by rw [eT]; exact A.1) (State.isArrayOf_alike C.2.1.alike A.2.1) A.2.2 hin (Has.at H hin hv) (g := mkF _ pc Ls (.int j :: .ref a :: st)) rfl rfl (hb C.2.2.2.1 hd) _ q
theorem Go.aaload {a : Addr} {kA : ClassId} {z j : Int32} {vs : List Value} {dv : Value} {v : Value} {ty : FieldType} (F : Arv Z h a kA ty z vs dv) (hty : ty.isReference = true) (hd : decode code pc = .ok (.aaload, 1)) (hj : ¬ j < 0) (hjz : j < z) (hv : vs.getD j.toNatClampNeg dv = v) (hp : pc + 1 = pc') (k : Go l R Z n0 y code ml ret Q cells slots h pc' Ls (v :: st)) : Go l R Z n0 y code ml ret Q cells slots h pc Ls (.int j :: .ref a :: st) := by
  refine Go.step (fun C X eT q => ?_) k
  subst hp
  obtain ⟨cl, A, q1, S, q3, H, G⟩ := F
  have hin := inb_of S ⟨hj, hjz⟩
  exact X.aaload C.1 (j := j) (v := v) (by rw [eT]; exact A.1) (State.isArrayOf_alike C.2.1.alike A.2.1) hty A.2.2 hin (Has.at H hin hv) (g := mkF _ pc Ls (.int j :: .ref a :: st)) rfl rfl (hb C.2.2.2.1 hd) _ q
theorem Go.arraylength {a : Addr} {kA : ClassId} {ty : FieldType} {z : Int32} {vs : List Value} {dv : Value} (F : Arv Z h a kA ty z vs dv) (hd : decode code pc = .ok (.arraylength, 1)) (hp : pc + 1 = pc') (k : Go l R Z n0 y code ml ret Q cells slots h pc' Ls (.int z :: st)) : Go l R Z n0 y code ml ret Q cells slots h pc Ls (.ref a :: st) := by
  refine Go.step (fun C X eT q => ?_) k
  subst hp
  obtain ⟨cl, A, q1, S, q3, H, G⟩ := F
  refine X.arraylength C.1 (by rw [eT]; exact A.1) (State.isArrayOf_alike C.2.1.alike A.2.1) (g := mkF _ pc Ls (.ref a :: st)) rfl rfl (hb C.2.2.2.1 hd) _ ?_
  rw [len_of S q3]
  exact q
theorem Go.retV (hr : ret = none) (hd : decode code pc = .ok (.return_, 1)) (hq : Q none h) (hc : cells ≤ R.cells := by decide) (hs : slots ≤ R.slots := by decide) : Go l R Z n0 y code ml ret Q cells slots h pc Ls [] := by
  intro p e s m args below meth c T locs C X N eT
  obtain ⟨fs, hr', hrun, hended, hW, hsame⟩ := X.leave (v := none) (fun _ => rfl) C.2.2.2.2.2.2.1
  refine ⟨_, _, X.returnOut C.1 (C.2.2.2.2.2.1.trans hr) (hb C.2.2.2.1 hd) hr', hrun, hended, _, locs, rfl, ⟨?_, N⟩, ⟨_, rfl⟩, hW, hsame.mono hc hs⟩
  show Q _ T.heap
  rw [eT]; exact hq
theorem Go.retN {t : FieldType} {v : Int32} (hr : ret = some t) (ht : t = .boolean ∨ t = .byte ∨ t = .char ∨ t = .short) (hd : decode code pc = .ok (.ireturn, 1)) (hq : Q (some (.int (nar t v))) h) (hc : cells ≤ R.cells := by decide) (hs : slots ≤ R.slots := by decide) : Go l R Z n0 y code ml ret Q cells slots h pc Ls (.int v :: st) := by
  intro p e s m args below meth c T locs C X N eT
  obtain ⟨fs, hr', hrun, hended, hW, hsame⟩ := X.leave (v := some (.int (nar t v))) (fun q => by rw [C.2.2.2.2.2.1, hr] at q; cases q) C.2.2.2.2.2.2.1
  refine ⟨_, _, Jvm.RoadKit.retN X C.1 (C.2.2.2.2.2.1.trans hr) ht (hb C.2.2.2.1 hd) hr', hrun, hended, _, locs, rfl, ⟨?_, N⟩, ⟨_, rfl⟩, hW, hsame.mono hc hs⟩
  show Q _ T.heap
  rw [eT]; exact hq
theorem Go.retI {v : Int32} (hr : ret = some .int) (hd : decode code pc = .ok (.ireturn, 1)) (hq : Q (some (.int v)) h) (hc : cells ≤ R.cells := by decide) (hs : slots ≤ R.slots := by decide) : Go l R Z n0 y code ml ret Q cells slots h pc Ls (.int v :: st) := by
  intro p e s m args below meth c T locs C X N eT
  obtain ⟨fs, hr', hrun, hended, hW, hsame⟩ := X.leave (v := some (.int v)) (fun q => by rw [C.2.2.2.2.2.1, hr] at q; cases q) C.2.2.2.2.2.2.1
  refine ⟨_, _, retOut X C.1 (C.2.2.2.2.2.1.trans hr) rfl (Or.inl ⟨rfl, Or.inl rfl, _, rfl⟩) (hb C.2.2.2.1 hd) hr', hrun, hended, _, locs, rfl, ⟨?_, N⟩, ⟨_, rfl⟩, hW, hsame.mono hc hs⟩
  show Q _ T.heap
  rw [eT]; exact hq
theorem Go.retJ {v : Int64} (hr : ret = some .long) (hd : decode code pc = .ok (.lreturn, 1)) (hq : Q (some (.long v)) h) (hc : cells ≤ R.cells := by decide) (hs : slots ≤ R.slots := by decide) : Go l R Z n0 y code ml ret Q cells slots h pc Ls (.long v :: st) := by
  intro p e s m args below meth c T locs C X N eT
  obtain ⟨fs, hr', hrun, hended, hW, hsame⟩ := X.leave (v := some (.long v)) (fun q => by rw [C.2.2.2.2.2.1, hr] at q; cases q) C.2.2.2.2.2.2.1
  refine ⟨_, _, retOut X C.1 (C.2.2.2.2.2.1.trans hr) rfl (Or.inr (Or.inl ⟨rfl, rfl, _, rfl⟩)) (hb C.2.2.2.1 hd) hr', hrun, hended, _, locs, rfl, ⟨?_, N⟩, ⟨_, rfl⟩, hW, hsame.mono hc hs⟩
  show Q _ T.heap
  rw [eT]; exact hq
theorem Go.retR {t : FieldType} {v : Value} (hr : ret = some t) (ht : t.isReference = true) (hv : v.isRef = true) (hn : narrow t v = v) (hd : decode code pc = .ok (.areturn, 1)) (hq : Q (some v) h) (hc : cells ≤ R.cells := by decide) (hs : slots ≤ R.slots := by decide) : Go l R Z n0 y code ml ret Q cells slots h pc Ls (v :: st) := by
  intro p e s m args below meth c T locs C X N eT
  obtain ⟨fs, hr', hrun, hended, hW, hsame⟩ := X.leave (v := some v) (fun q => by rw [C.2.2.2.2.2.1, hr] at q; cases q) C.2.2.2.2.2.2.1
  refine ⟨_, _, retOut X C.1 (C.2.2.2.2.2.1.trans hr) hn (Or.inr (Or.inr (Or.inr (Or.inr ⟨rfl, ht, hv⟩)))) (hb C.2.2.2.1 hd) hr', hrun, hended, _, locs, rfl, ⟨?_, N⟩, ⟨_, rfl⟩, hW, hsame.mono hc hs⟩
  show Q _ T.heap
  rw [eT]; exact hq
theorem Go.callS {z : MethodName} {zc : ByteArray} {zm : Nat} {zr : Option FieldType} {rm : Room} {Q' : Option Value → Heap → Prop} {cells' slots' i : Nat} (argsL rest : List Value) {ps : List FieldType} {r : Option FieldType} (w1 : (Jvm.Cond.methodLink y.cls i z).before a0 Z = true) (w2 : (Jvm.Cond.static z).before a0 Z = true) (wi : (Jvm.Cond.initialized z.cls).before a0 Z = true) (wc : (Jvm.Cond.code z zc zm zr).before a0 Z = true) (hy : z.cls ≠ "java/lang/invoke/MethodHandle" ∧ z.cls ≠ "java/lang/invoke/VarHandle") (hK : Con l z zc zm zr rm Z n0 argsL.toArray h Q') (hpd : parseMethodDescriptor z.desc = some ⟨ps, r⟩) (hlen : argsL.length = ps.length) (hst : st = argsL.reverse ++ rest) (hz : Ls.size = ml) (hc' : cells + rm.cells = cells') (hs' : slots + rm.slots = slots') (hfr : rm.frames + 1 ≤ R.frames := by decide) (hlo : (rest.map fun v => v.category).sum + (zm + 11) + rm.locals ≤ R.locals := by decide) (hc : cells' ≤ R.cells := by decide) (hs : slots' ≤ R.slots := by decide) (hd : decode code pc = .ok (.invokestatic i, 3)) (hp : pc + 3 = pc')
    (k : ∀ v h', Q' v h' → Go l R Z n0 y code ml ret Q cells' slots' h' pc' Ls (v.toList ++ rest)) : Go l R Z n0 y code ml ret Q cells slots h pc Ls st := by
  intro p e s m args below meth c T locs C X N eT
  subst hc' hs' hp hst
  have hold : Old Z n0 h := own_old C.2.2.2.2.2.2.2.2 X N eT
  obtain ⟨v, _, ⟨T', L', k', n'⟩, -, X', ⟨Lc, hQ, l', y', z'⟩, st⟩ := Jvm.LawKit.callS X C.1 (y := z) C.2.2.1 (mvT C.2.1 w1) (mvT C.2.1 w2) (mvT C.2.1 wi) (mvT C.2.1 wc) hy (backOf (W := (rest.map fun v => v.category).sum) (Q := fun v h L => Q' v h ∧ Fr n0 L) (hK hold []) C.2.1 wc wi hfr hlo) (g := mkF m pc Ls (argsL.reverse ++ rest)) rfl (by rw [C.2.2.2.2.1]; exact hz) (argsL := argsL) (rest := rest) (lenOf hpd hlen) rfl (by simp) (hb C.2.2.2.1 hd) (fun _ _ => ⟨rfl, eT, hc, hs⟩)
  dsimp only [Pt.U, Pt.locs, Pt.cells, Pt.slots] at X' l' y' z' st hQ
  subst l' y' z'
  obtain ⟨s₂, o, h1, h2⟩ := k v _ hQ.1 p e s m args below meth c T' _ C X' (Fr.app N hQ.2) rfl
  exact ⟨s₂, o, st _ h1, h2⟩
theorem Go.callC {z : MethodName} {zc : ByteArray} {zm : Nat} {zr : Option FieldType} {rm : Room} {Q' : Option Value → Heap → Prop} {cells' slots' i : Nat} (argsL rest : List Value) {ps : List FieldType} {r : Option FieldType} {a : Addr} (hzi : z.name = "<init>") (hzr : zr = none) (w1 : (Jvm.Cond.methodLink y.cls i z).before a0 Z = true) (w2 : (Jvm.Cond.instanceMethod z).before a0 Z = true) (wi : (Jvm.Cond.initialized z.cls).before a0 Z = true) (wc : (Jvm.Cond.code z zc zm zr).before a0 Z = true) (hy : z.cls ≠ "java/lang/invoke/MethodHandle" ∧ z.cls ≠ "java/lang/invoke/VarHandle") (hK : Con l z zc zm zr rm Z n0 (.ref a :: argsL).toArray h Q') (hpd : parseMethodDescriptor z.desc = some ⟨ps, r⟩) (hlen : argsL.length = ps.length) (hst : st = argsL.reverse ++ .ref a :: rest) (hz : Ls.size = ml) (hc' : cells + rm.cells = cells') (hs' : slots + rm.slots = slots') (hfr : rm.frames + 1 ≤ R.frames := by decide) (hlo : (rest.map fun v => v.category).sum + (zm + 11) + rm.locals ≤ R.locals := by decide) (hc : cells' ≤ R.cells := by decide) (hs : slots' ≤ R.slots := by decide) (hd : decode code pc = .ok (.invokespecial i, 3)) (hp : pc + 3 = pc')
    (k : ∀ v h', Q' v h' → Go l R Z n0 y code ml ret Q cells' slots' h' pc' Ls (v.toList ++ rest)) : Go l R Z n0 y code ml ret Q cells slots h pc Ls st := by
  intro p e s m args below meth c T locs C X N eT
  subst hc' hs' hp hst
  have hold : Old Z n0 h := own_old C.2.2.2.2.2.2.2.2 X N eT
  subst hzr
  obtain ⟨v, _, ⟨T', L', k', n'⟩, -, X', ⟨Lc, hQ, l', y', z'⟩, st⟩ := X.specialBack C.1 (y := z) hzi C.2.2.1 (mvT C.2.1 w1) (mvT C.2.1 w2) (mvT C.2.1 wc) hy (backOf (W := (rest.map fun v => v.category).sum) (Q := fun v h L => Q' v h ∧ Fr n0 L) (hK hold []) C.2.1 wc wi hfr hlo) (g := mkF m pc Ls (argsL.reverse ++ .ref a :: rest)) rfl (by rw [C.2.2.2.2.1]; exact hz) (Steps.refl _) (a := a) (argsL := argsL) (rest := rest) (lenOf hpd hlen) rfl (by simp) (hb C.2.2.2.1 hd) (fun _ _ => ⟨rfl, eT, hc, hs⟩)
  dsimp only [Pt.U, Pt.locs, Pt.cells, Pt.slots] at X' l' y' z' st hQ
  subst l' y' z'
  obtain ⟨s₂, o, h1, h2⟩ := k v _ hQ.1 p e s m args below meth c T' _ C X' (Fr.app N hQ.2) rfl
  exact ⟨s₂, o, st.trans h1, h2⟩
theorem Go.callCN {z : MethodName} {zc : ByteArray} {zm : Nat} {zr : Option FieldType} {rm : Room} {Q' : Option Value → Heap → Prop} {cells' slots' i : Nat} (argsL rest : List Value) {ps : List FieldType} {r : Option FieldType} {a : Addr} {host : String} (hzi : z.name = "<init>") (hzr : zr = none) (w1 : (Jvm.Cond.methodLinkNest y.cls i z host).before a0 Z = true) (w2 : (Jvm.Cond.instanceMethod z).before a0 Z = true) (wi : (Jvm.Cond.initialized z.cls).before a0 Z = true) (wc : (Jvm.Cond.code z zc zm zr).before a0 Z = true) (hy : z.cls ≠ "java/lang/invoke/MethodHandle" ∧ z.cls ≠ "java/lang/invoke/VarHandle") (hK : Con l z zc zm zr rm Z n0 (.ref a :: argsL).toArray h Q') (hpd : parseMethodDescriptor z.desc = some ⟨ps, r⟩) (hlen : argsL.length = ps.length) (hst : st = argsL.reverse ++ .ref a :: rest) (hz : Ls.size = ml) (hc' : cells + rm.cells = cells') (hs' : slots + rm.slots = slots') (hfr : rm.frames + 1 ≤ R.frames := by decide) (hlo : (rest.map fun v => v.category).sum + (zm + 11) + rm.locals ≤ R.locals := by decide) (hc : cells' ≤ R.cells := by decide) (hs : slots' ≤ R.slots := by decide) (hd : decode code pc = .ok (.invokespecial i, 3)) (hp : pc + 3 = pc')
    (k : ∀ v h', Q' v h' → Go l R Z n0 y code ml ret Q cells' slots' h' pc' Ls (v.toList ++ rest)) : Go l R Z n0 y code ml ret Q cells slots h pc Ls st := by
  intro p e s m args below meth c T locs C X N eT
  subst hc' hs' hp hst
  have hold : Old Z n0 h := own_old C.2.2.2.2.2.2.2.2 X N eT
  subst hzr
  obtain ⟨v, _, ⟨T', L', k', n'⟩, -, X', ⟨Lc, hQ, l', y', z'⟩, st⟩ := X.specialBackNest C.1 (y := z) hzi C.2.2.1 ((Cond.methodLinkNest_wide C.2.1 w1 :)) (mvT C.2.1 w2) (mvT C.2.1 wc) hy (backOf (W := (rest.map fun v => v.category).sum) (Q := fun v h L => Q' v h ∧ Fr n0 L) (hK hold []) C.2.1 wc wi hfr hlo) (g := mkF m pc Ls (argsL.reverse ++ .ref a :: rest)) rfl (by rw [C.2.2.2.2.1]; exact hz) (Steps.refl _) (a := a) (argsL := argsL) (rest := rest) (lenOf hpd hlen) rfl (by simp) (hb C.2.2.2.1 hd) (fun _ _ => ⟨rfl, eT, hc, hs⟩)
  dsimp only [Pt.U, Pt.locs, Pt.cells, Pt.slots] at X' l' y' z' st hQ
  subst l' y' z'
  obtain ⟨s₂, o, h1, h2⟩ := k v _ hQ.1 p e s m args below meth c T' _ C X' (Fr.app N hQ.2) rfl
  exact ⟨s₂, o, st.trans h1, h2⟩
theorem Go.callV {z : MethodName} {zc : ByteArray} {zm : Nat} {zr : Option FieldType} {rm : Room} {Q' : Option Value → Heap → Prop} {cells' slots' i : Nat} (argsL rest : List Value) {ps : List FieldType} {r : Option FieldType} {a : Addr} {x' : MethodName} {C' : String} (E : Exa Z h a C') (w1 : (Jvm.Cond.methodLink y.cls i x').before a0 Z = true) (w2 : (Jvm.Cond.declares x').before a0 Z = true) (nf : ∀ s' : State, Z.Warmed39 s'.vm → NotFace s' x') (w3 : (Jvm.Cond.selects C' x' z).before a0 Z = true) (w4 : (Jvm.Cond.instanceMethod z).before a0 Z = true) (wi : (Jvm.Cond.initialized z.cls).before a0 Z = true) (wc : (Jvm.Cond.code z zc zm zr).before a0 Z = true) (hy : x'.cls ≠ "java/lang/invoke/MethodHandle" ∧ x'.cls ≠ "java/lang/invoke/VarHandle") (hK : Con l z zc zm zr rm Z n0 (.ref a :: argsL).toArray h Q') (hpd : parseMethodDescriptor x'.desc = some ⟨ps, r⟩) (hlen : argsL.length = ps.length) (hst : st = argsL.reverse ++ .ref a :: rest) (hz : Ls.size = ml) (hc' : cells + rm.cells = cells') (hs' : slots + rm.slots = slots') (hfr : rm.frames + 1 ≤ R.frames := by decide) (hlo : (rest.map fun v => v.category).sum + (zm + 11) + rm.locals ≤ R.locals := by decide) (hc : cells' ≤ R.cells := by decide) (hs : slots' ≤ R.slots := by decide) (hd : decode code pc = .ok (.invokevirtual i, 3)) (hp : pc + 3 = pc')
    (k : ∀ v h', Q' v h' → Go l R Z n0 y code ml ret Q cells' slots' h' pc' Ls (v.toList ++ rest)) : Go l R Z n0 y code ml ret Q cells slots h pc Ls st := by
  intro p e s m args below meth c T locs C X N eT
  subst hc' hs' hp hst
  have hold : Old Z n0 h := own_old C.2.2.2.2.2.2.2.2 X N eT
  obtain ⟨cq, kq, qa, qb, qc⟩ := isOf C.2.1 eT E
  obtain ⟨v, _, ⟨T', L', k', n'⟩, -, X', ⟨Lc, hQ, l', y', z'⟩, st⟩ := X.virtualBack C.1 (y := x') (z := z) C.2.2.1 (mvT C.2.1 w1) (mvT C.2.1 w2) (nf s C.2.1) (mvT C.2.1 w3) (mvT C.2.1 w4) hy (backOf (W := (rest.map fun v => v.category).sum) (Q := fun v h L => Q' v h ∧ Fr n0 L) (hK hold []) C.2.1 wc wi hfr hlo) qa qc (g := mkF m pc Ls (argsL.reverse ++ .ref a :: rest)) rfl (by rw [C.2.2.2.2.1]; exact hz) (Steps.refl _) (argsL := argsL) (rest := rest) (lenOf hpd hlen) rfl (by simp) (hb C.2.2.2.1 hd) (fun _ _ => ⟨rfl, eT, hc, hs⟩)
  dsimp only [Pt.U, Pt.locs, Pt.cells, Pt.slots] at X' l' y' z' st hQ
  subst l' y' z'
  obtain ⟨s₂, o, h1, h2⟩ := k v _ hQ.1 p e s m args below meth c T' _ C X' (Fr.app N hQ.2) rfl
  exact ⟨s₂, o, st.trans h1, h2⟩
theorem Go.callU {z : MethodName} {zc : ByteArray} {zm : Nat} {zr : Option FieldType} {rm : Room} {Q' : Option Value → Heap → Prop} {cells' slots' i : Nat} (argsL rest : List Value) {ps : List FieldType} {r : Option FieldType} {a : Addr} {x' : MethodName} {C' owner : String} (E : Exa Z h a C') (w1 : (Jvm.Cond.methodLink y.cls i x').before a0 Z = true) (w2 : (Jvm.Cond.sameMethod x'.cls owner x'.name x'.desc).before a0 Z = true) (w5 : (Jvm.Cond.declares ⟨owner, x'.name, x'.desc⟩).before a0 Z = true) (w3 : (Jvm.Cond.selects C' x' z).before a0 Z = true) (w4 : (Jvm.Cond.instanceMethod z).before a0 Z = true) (wi : (Jvm.Cond.initialized z.cls).before a0 Z = true) (wc : (Jvm.Cond.code z zc zm zr).before a0 Z = true) (hy : owner ≠ "java/lang/invoke/MethodHandle" ∧ owner ≠ "java/lang/invoke/VarHandle") (hK : Con l z zc zm zr rm Z n0 (.ref a :: argsL).toArray h Q') (hpd : parseMethodDescriptor x'.desc = some ⟨ps, r⟩) (hlen : argsL.length = ps.length) (hst : st = argsL.reverse ++ .ref a :: rest) (hz : Ls.size = ml) (hc' : cells + rm.cells = cells') (hs' : slots + rm.slots = slots') (hfr : rm.frames + 1 ≤ R.frames := by decide) (hlo : (rest.map fun v => v.category).sum + (zm + 11) + rm.locals ≤ R.locals := by decide) (hc : cells' ≤ R.cells := by decide) (hs : slots' ≤ R.slots := by decide) (hd : decode code pc = .ok (.invokevirtual i, 3)) (hp : pc + 3 = pc')
    (k : ∀ v h', Q' v h' → Go l R Z n0 y code ml ret Q cells' slots' h' pc' Ls (v.toList ++ rest)) : Go l R Z n0 y code ml ret Q cells slots h pc Ls st := by
  intro p e s m args below meth c T locs C X N eT
  subst hc' hs' hp hst
  have hold : Old Z n0 h := own_old C.2.2.2.2.2.2.2.2 X N eT
  obtain ⟨cq, kq, qa, qb, qc⟩ := isOf C.2.1 eT E
  obtain ⟨v, _, ⟨T', L', k', n'⟩, -, X', ⟨Lc, hQ, l', y', z'⟩, st⟩ := X.virtualBackUp C.1 (x := x') (y := z) C.2.2.1 (mvT C.2.1 w1) (mvT C.2.1 w2) (mvT C.2.1 w5) hy (mvT C.2.1 w3) (mvT C.2.1 w4) (backOf (W := (rest.map fun v => v.category).sum) (Q := fun v h L => Q' v h ∧ Fr n0 L) (hK hold []) C.2.1 wc wi hfr hlo) qa qc (g := mkF m pc Ls (argsL.reverse ++ .ref a :: rest)) rfl (by rw [C.2.2.2.2.1]; exact hz) (Steps.refl _) (argsL := argsL) (rest := rest) (lenOf hpd hlen) rfl (by simp) (hb C.2.2.2.1 hd) (fun _ _ => ⟨rfl, eT, hc, hs⟩)
  dsimp only [Pt.U, Pt.locs, Pt.cells, Pt.slots] at X' l' y' z' st hQ
  subst l' y' z'
  obtain ⟨s₂, o, h1, h2⟩ := k v _ hQ.1 p e s m args below meth c T' _ C X' (Fr.app N hQ.2) rfl
  exact ⟨s₂, o, st.trans h1, h2⟩
theorem Go.callP {z : MethodName} {zc : ByteArray} {zm : Nat} {zr : Option FieldType} {rm : Room} {Q' : Option Value → Heap → Prop} {cells' slots' i : Nat} (argsL rest : List Value) {ps : List FieldType} {r : Option FieldType} {a : Addr} {C' : String} (E : Exa Z h a C') (w1 : (Jvm.Cond.methodLink y.cls i z).before a0 Z = true) (w2 : (Jvm.Cond.instanceMethod z).before a0 Z = true) (w3 : (Jvm.Cond.selects z.cls z z).before a0 Z = true) (w4 : (Jvm.Cond.privateMethod z).before a0 Z = true) (wi : (Jvm.Cond.initialized z.cls).before a0 Z = true) (wc : (Jvm.Cond.code z zc zm zr).before a0 Z = true) (hy : z.cls ≠ "java/lang/invoke/MethodHandle" ∧ z.cls ≠ "java/lang/invoke/VarHandle") (hK : Con l z zc zm zr rm Z n0 (.ref a :: argsL).toArray h Q') (hpd : parseMethodDescriptor z.desc = some ⟨ps, r⟩) (hlen : argsL.length = ps.length) (hst : st = argsL.reverse ++ .ref a :: rest) (hz : Ls.size = ml) (hc' : cells + rm.cells = cells') (hs' : slots + rm.slots = slots') (hfr : rm.frames + 1 ≤ R.frames := by decide) (hlo : (rest.map fun v => v.category).sum + (zm + 11) + rm.locals ≤ R.locals := by decide) (hc : cells' ≤ R.cells := by decide) (hs : slots' ≤ R.slots := by decide) (hd : decode code pc = .ok (.invokevirtual i, 3)) (hp : pc + 3 = pc')
    (k : ∀ v h', Q' v h' → Go l R Z n0 y code ml ret Q cells' slots' h' pc' Ls (v.toList ++ rest)) : Go l R Z n0 y code ml ret Q cells slots h pc Ls st := by
  intro p e s m args below meth c T locs C X N eT
  subst hc' hs' hp hst
  have hold : Old Z n0 h := own_old C.2.2.2.2.2.2.2.2 X N eT
  obtain ⟨cq, qa, qb⟩ := E.cell
  obtain ⟨v, _, ⟨T', L', k', n'⟩, -, X', ⟨Lc, hQ, l', y', z'⟩, st⟩ := X.privateBack C.1 (y := z) C.2.2.1 (mvT C.2.1 w1) (mvT C.2.1 w2) (mvT C.2.1 w3) (Cond.privateMethod_at (mvP C.2.1 w4 (args := #[]))) (mvT C.2.1 wc) hy (backOf (W := (rest.map fun v => v.category).sum) (Q := fun v h L => Q' v h ∧ Fr n0 L) (hK hold []) C.2.1 wc wi hfr hlo) (g := mkF m pc Ls (argsL.reverse ++ .ref a :: rest)) rfl (by rw [C.2.2.2.2.1]; exact hz) (Steps.refl _) (a := a) (by rw [eT]; exact qa) qb (argsL := argsL) (rest := rest) (lenOf hpd hlen) rfl (by simp) (hb C.2.2.2.1 hd) (fun _ _ => ⟨rfl, eT, hc, hs⟩)
  dsimp only [Pt.U, Pt.locs, Pt.cells, Pt.slots] at X' l' y' z' st hQ
  subst l' y' z'
  obtain ⟨s₂, o, h1, h2⟩ := k v _ hQ.1 p e s m args below meth c T' _ C X' (Fr.app N hQ.2) rfl
  exact ⟨s₂, o, st.trans h1, h2⟩
theorem Go.callI {z : MethodName} {zc : ByteArray} {zm : Nat} {zr : Option FieldType} {rm : Room} {Q' : Option Value → Heap → Prop} {cells' slots' i : Nat} (argsL rest : List Value) {ps : List FieldType} {r : Option FieldType} {a : Addr} {x' : MethodName} {C' : String} {cnt : Nat} (E : Exa Z h a C') (w1 : (Jvm.Cond.methodLink y.cls i x').before a0 Z = true) (w2 : (Jvm.Cond.declares x').before a0 Z = true) (w3 : (Jvm.Cond.interfaceMethod x'.cls x'.cls x'.name x'.desc).before a0 Z = true) (w4 : (Jvm.Cond.selects C' x' z).before a0 Z = true) (w5 : (Jvm.Cond.instanceMethod z).before a0 Z = true) (w6 : (Jvm.Cond.publicMethod z).before a0 Z = true) (w7 : (Jvm.Cond.unhidden C' x'.name x'.desc).before a0 Z = true) (w8 : (Jvm.Cond.castable C' x'.cls).before a0 Z = true) (wi : (Jvm.Cond.initialized z.cls).before a0 Z = true) (wc : (Jvm.Cond.code z zc zm zr).before a0 Z = true) (hy : x'.cls ≠ "java/lang/invoke/MethodHandle" ∧ x'.cls ≠ "java/lang/invoke/VarHandle") (hK : Con l z zc zm zr rm Z n0 (.ref a :: argsL).toArray h Q') (hpd : parseMethodDescriptor x'.desc = some ⟨ps, r⟩) (hlen : argsL.length = ps.length) (hst : st = argsL.reverse ++ .ref a :: rest) (hz : Ls.size = ml) (hc' : cells + rm.cells = cells') (hs' : slots + rm.slots = slots') (hfr : rm.frames + 1 ≤ R.frames := by decide) (hlo : (rest.map fun v => v.category).sum + (zm + 11) + rm.locals ≤ R.locals := by decide) (hc : cells' ≤ R.cells := by decide) (hs : slots' ≤ R.slots := by decide) (hd : decode code pc = .ok (.invokeinterface i cnt, 5)) (hp : pc + 5 = pc')
    (k : ∀ v h', Q' v h' → Go l R Z n0 y code ml ret Q cells' slots' h' pc' Ls (v.toList ++ rest)) : Go l R Z n0 y code ml ret Q cells slots h pc Ls st := by
  intro p e s m args below meth c T locs C X N eT
  subst hc' hs' hp hst
  have hold : Old Z n0 h := own_old C.2.2.2.2.2.2.2.2 X N eT
  obtain ⟨cq, kq, qa, qb, qc⟩ := isOf C.2.1 eT E
  obtain ⟨v, _, ⟨T', L', k', n'⟩, -, X', ⟨Lc, hQ, l', y', z'⟩, st⟩ := X.interfaceBack C.1 (xi := x') (y := z) C.2.2.1 (mvT C.2.1 w1) (mvT C.2.1 w2) (mvT C.2.1 w3 (hd := by simp [Cond.onTables, Cond.keepsFace, Cond.keeps, Cond.steady, Cond.faceAtom]; exact hy)) (mvT C.2.1 w4) (mvT C.2.1 w5) (mvT C.2.1 w6) (mvT C.2.1 w7) (mvT C.2.1 w8) hy (backOf (W := (rest.map fun v => v.category).sum) (Q := fun v h L => Q' v h ∧ Fr n0 L) (hK hold []) C.2.1 wc wi hfr hlo) qa qb qc (g := mkF m pc Ls (argsL.reverse ++ .ref a :: rest)) rfl (by rw [C.2.2.2.2.1]; exact hz) (Steps.refl _) (argsL := argsL) (rest := rest) (lenOf hpd hlen) rfl (by simp) (hb C.2.2.2.1 hd) (fun _ _ => ⟨rfl, eT, hc, hs⟩)
  dsimp only [Pt.U, Pt.locs, Pt.cells, Pt.slots] at X' l' y' z' st hQ
  subst l' y' z'
  obtain ⟨s₂, o, h1, h2⟩ := k v _ hQ.1 p e s m args below meth c T' _ C X' (Fr.app N hQ.2) rfl
  exact ⟨s₂, o, st.trans h1, h2⟩
end Rules
end Jvm.OwnGo
namespace Jvm.OwnNum
theorem mask (x m : Int32) (hm : 0 ≤ m.toInt) : 0 ≤ (x &&& m).toInt ∧ (x &&& m).toInt ≤ m.toInt := by
  have e : ∀ z : Int32, z.toInt = z.toBitVec.toInt := fun _ => rfl
  have hb : (x &&& m).toBitVec = x.toBitVec &&& m.toBitVec := rfl
  rw [e] at hm
  rw [e (x &&& m), e m, hb]
  have h1 : 2 * m.toBitVec.toNat < 2 ^ 32 := by
    rw [BitVec.toInt_eq_toNat_cond] at hm
    split at hm
    · assumption
    · have := m.toBitVec.isLt; omega
  have h2 : (x.toBitVec &&& m.toBitVec).toNat ≤ m.toBitVec.toNat := by
    rw [BitVec.toNat_and]; exact Nat.and_le_right
  rw [BitVec.toInt_eq_toNat_of_lt (x := m.toBitVec) h1, BitVec.toInt_eq_toNat_of_lt (x := x.toBitVec &&& m.toBitVec) (by omega)]
  omega
theorem modr (y k : Int32) (hy : 0 ≤ y.toInt) (hk : 0 < k.toInt) : 0 ≤ (y % k).toInt ∧ (y % k).toInt < k.toInt := by
  rw [Int32.toInt_mod]
  exact ⟨Int.tmod_nonneg _ hy, Int.tmod_lt_of_pos _ hk⟩
theorem maskmod (x k : Int32) (hk : 0 < k.toInt) : 0 ≤ ((x &&& 2147483647) % k).toInt ∧ ((x &&& 2147483647) % k).toInt < k.toInt := modr _ k (mask x 2147483647 (by decide)).1 hk
theorem eqI {a k : Int32} (h : a.toInt = k.toInt) : a = k := Int32.toInt_inj.mp h
end Jvm.OwnNum
namespace Jvm.OwnNum
theorem lremE (x y : Int64) : x - (x / y) * y = x % y := by
  apply Int64.toInt_inj.mp
  rw [Int64.toInt_mod, Int64.toInt_sub, Int64.toInt_mul, Int64.toInt_div]
  have h := Int.mul_tdiv_add_tmod x.toInt y.toInt
  have e : (x.toInt - ((x.toInt.tdiv y.toInt).bmod (2^64) * y.toInt).bmod (2^64)).bmod (2^64) = (x.toInt - (x.toInt.tdiv y.toInt * y.toInt)).bmod (2^64) := by
    simp
  rw [e]
  have q : x.toInt - x.toInt.tdiv y.toInt * y.toInt = x.toInt.tmod y.toInt := by
    rw [Int.mul_comm]; omega
  rw [q]
  have h1 := Int64.le_toInt (x % y)
  have h2 := Int64.toInt_lt (x % y)
  rw [Int64.toInt_mod] at h1 h2
  exact Int.bmod_eq_of_le_mul_two (by omega) (by omega)
theorem mask64 (x m : Int64) (hm : 0 ≤ m.toInt) : 0 ≤ (x &&& m).toInt ∧ (x &&& m).toInt ≤ m.toInt := by
  have e : ∀ z : Int64, z.toInt = z.toBitVec.toInt := fun _ => rfl
  have hb : (x &&& m).toBitVec = x.toBitVec &&& m.toBitVec := rfl
  rw [e] at hm
  rw [e (x &&& m), e m, hb]
  have h1 : 2 * m.toBitVec.toNat < 2 ^ 64 := by
    rw [BitVec.toInt_eq_toNat_cond] at hm
    split at hm
    · assumption
    · have := m.toBitVec.isLt; omega
  have h2 : (x.toBitVec &&& m.toBitVec).toNat ≤ m.toBitVec.toNat := by
    rw [BitVec.toNat_and]; exact Nat.and_le_right
  rw [BitVec.toInt_eq_toNat_of_lt (x := m.toBitVec) h1, BitVec.toInt_eq_toNat_of_lt (x := x.toBitVec &&& m.toBitVec) (by omega)]
  omega
theorem maskmod64 (x m k : Int64) (hm : 0 ≤ m.toInt) (hk : 0 < k.toInt) : 0 ≤ ((x &&& m) - ((x &&& m) / k) * k).toInt ∧ ((x &&& m) - ((x &&& m) / k) * k).toInt < k.toInt := by
  rw [lremE, Int64.toInt_mod]
  exact ⟨Int.tmod_nonneg _ (mask64 x m hm).1, Int.tmod_lt_of_pos _ hk⟩
theorem narrowI (x : Int64) (h1 : 0 ≤ x.toInt) (h2 : x.toInt < 2147483648) : x.toInt32.toInt = x.toInt := by
  rw [Int64.toInt_toInt32]
  exact Int.bmod_eq_of_le_mul_two (by omega) (by omega)
theorem lmod5 (x : Int64) : 0 ≤ (((x &&& (9223372036854775807 : Int64)) - ((x &&& (9223372036854775807 : Int64)) / (5 : Int64)) * (5 : Int64)).toInt32).toInt ∧ (((x &&& (9223372036854775807 : Int64)) - ((x &&& (9223372036854775807 : Int64)) / (5 : Int64)) * (5 : Int64)).toInt32).toInt < 5 := by
  have h := maskmod64 x 9223372036854775807 5 (by decide) (by decide)
  have e5 : (5 : Int64).toInt = 5 := by decide
  rw [e5] at h
  rw [narrowI _ h.1 (by omega)]
  exact h
end Jvm.OwnNum
namespace Jvm.OwnNum
theorem b8 (x : Int32) : x.toInt8.toInt32.toInt8.toInt32 = x.toInt8.toInt32 := by simp
theorem c16 (x : Int32) : x.toUInt32.toUInt16.toUInt32.toInt32.toUInt32.toUInt16.toUInt32.toInt32 = x.toUInt32.toUInt16.toUInt32.toInt32 := by simp only [UInt32.toUInt32_toInt32, UInt16.toUInt16_toUInt32]
theorem le255 (x : Int32) : ¬ (255 : Int32) < x &&& 255 := by
  have h := mask x 255 (by decide)
  have e : (255 : Int32).toInt = 255 := by decide
  rw [Int32.lt_iff_toInt_lt]; omega
end Jvm.OwnNum
namespace Jvm.OwnGo
open Jvm Jvm.ClassFile Sem Op Lib Jvm.Free Jvm.Stand Jvm.LawKit Jvm.RoadKit
section Sheet
variable {args : Array Value} {s : State} {t : Term} {a : Addr}
theorem own_eqI {k : Int32} (h : (Jvm.Cond.eq t (.int k)).value args s none s [] = some true) : t.eval args s none [] s = some (.int k) := by
  simp only [Cond.value, Term.eval] at h
  cases ht : t.eval args s none [] s with
  | none => simp [ht] at h
  | some x => cases x <;> simp [ht] at h ⊢; exact h
theorem own_eqJ {k : Int64} (h : (Jvm.Cond.eq t (.long k)).value args s none s [] = some true) : t.eval args s none [] s = some (.long k) := by
  simp only [Cond.value, Term.eval] at h
  cases ht : t.eval args s none [] s with
  | none => simp [ht] at h
  | some x => cases x <;> simp [ht] at h ⊢; exact h
theorem own_eqR {u : Term} {b : Addr} (hu : u.eval args s none [] s = some (.ref b)) (h : (Jvm.Cond.eq t u).value args s none s [] = some true) : t.eval args s none [] s = some (.ref b) := by
  simp only [Cond.value, hu] at h
  cases ht : t.eval args s none [] s with
  | none => simp [ht] at h
  | some x => cases x <;> simp [ht] at h ⊢; exact h
theorem own_fld {C n d : String} {v : Value} (ht : t.eval args s none [] s = some (.ref a)) (h : (Term.field t C n d).eval args s none [] s = some v) : Jvm.RoadKit.Fld s s.heap a C n d v :=
  Fld.start (by rw [← fld_at (C := C) (n := n) (dd := d) ht]; exact h)
theorem own_arr {ty : FieldType} {n : Int32} (ev : t.eval args s none [] s = some (.ref a)) (hx : (Jvm.Cond.arrayOf t ty).value args s none s [] = some true) (hl : (Term.length t).eval args s none [] s = some (.int n)) :
    ∃ c, Arr s s.heap a c ty ∧ c.slots.size < 2 ^ 31 ∧ c.slots.size.toInt32 = n := by
  obtain ⟨c, A⟩ := Arr.start ev hx
  have e := A.fin (Vm.Alike.refl _)
  refine ⟨c, A, ?_⟩
  simp only [Term.eval, ev, Option.bind_eq_bind, Option.bind_some, e] at hl
  split at hl
  · rename_i q; exact ⟨q, by simpa using hl⟩
  · cases hl
theorem own_elem {ty : FieldType} {j : Int32} {c : Cell} {v : Value} (ev : t.eval args s none [] s = some (.ref a)) (A : Arr s s.heap a c ty) (hj : ¬ j < 0) (h : (Term.elem t (.int j)).eval args s none [] s = some v) : c.slots[j.toNatClampNeg]? = some v := by
  rw [elem_f ev (Term.int_eval j) (A.fin (Vm.Alike.refl _)) hj] at h; exact h
end Sheet
end Jvm.OwnGo
namespace Jvm.OwnGo
open Jvm Jvm.ClassFile Sem Op Lib Jvm.Free Jvm.Stand Jvm.LawKit Jvm.RoadKit
theorem own_arvAny {s : State} {a : Addr} {c : Cell} {ty : FieldType} {n : Int32} {dv : Value} (hf : Fit s) (A : Arr s s.heap a c ty) (q : c.slots.size < 2 ^ 31) (e : c.slots.size.toInt32 = n) (hn : ¬ n < 0) : Jvm.RoadKit.Arv s s.heap a c.cls ty n c.slots.toList dv := by
  have S : c.slots.size = n.toNatClampNeg := by rw [← e]; simp only [Int32.toNatClampNeg, len_toInt q]; rfl
  have H : Has c c.slots.toList dv := fun k hk => by simp [List.getD_eq_getElem?_getD, hk]
  refine ⟨c, A, rfl, S, hn, H, fun j hj => ?_⟩
  have hi := idx_in hj q
  obtain ⟨v, h1, h2⟩ := elem_fit hf A hi
  have ej : (j.toInt32).toNatClampNeg = j := by
    simp only [Int32.toNatClampNeg, len_toInt (Nat.lt_trans hj q)]; rfl
  rw [ej, H j hj] at h1
  cases h1
  exact h2
end Jvm.OwnGo
namespace Jvm.OwnGo
open Jvm Jvm.ClassFile Sem Op Lib Jvm.Free Jvm.Stand Jvm.LawKit Jvm.RoadKit
theorem own_eqV {args : Array Value} {s : State} {t u : Term} {idx : List Nat} {k : Int32} (hu : u.eval args s none idx s = some (.int k)) (h : (Jvm.Cond.eq t u).value args s none s idx = some true) : t.eval args s none idx s = some (.int k) := by
  simp only [Cond.value, hu] at h
  cases ht : t.eval args s none idx s with
  | none => simp [ht] at h
  | some x => cases x <;> simp [ht] at h ⊢; exact h
theorem own_static_idx {args : Array Value} {s : State} {C n d : String} {v : Value} (h : (Term.static C n d).eval args s none [] s = some v) (idx : List Nat) : (Term.static C n d).eval args s none idx s = some v := by
  simp only [Term.eval] at h ⊢; exact h
theorem own_i128 (i : Int32) (h1 : ¬ i < -128) (h2 : ¬ 127 < i) : ¬ i + 128 < 0 ∧ i + 128 < 256 ∧ (i + 128).toNatClampNeg < 256 := by
  rw [Int32.lt_iff_toInt_lt] at h1 h2
  have e1 : (-128 : Int32).toInt = -128 := by decide
  have e2 : (127 : Int32).toInt = 127 := by decide
  have e3 : (128 : Int32).toInt = 128 := by decide
  rw [e1] at h1; rw [e2] at h2
  have e : (i + 128).toInt = i.toInt + 128 := by
    rw [Int32.toInt_add, e3]; exact Int.bmod_eq_of_le_mul_two (by omega) (by omega)
  refine ⟨?_, ?_, ?_⟩
  · rw [Int32.lt_iff_toInt_lt, e]; have : (0 : Int32).toInt = 0 := by decide
    omega
  · rw [Int32.lt_iff_toInt_lt, e]; have : (256 : Int32).toInt = 256 := by decide
    omega
  · simp only [Int32.toNatClampNeg, e]; omega
theorem own_cache {args : Array Value} {s : State} {a : Addr} {c : Cell} {ct : Term} (ev : ∀ idx, ct.eval args s none idx s = some (.ref a)) (A : Arr s s.heap a c (.object "java/lang/Integer")) (hsz : c.slots.size < 2 ^ 31) (hn : c.slots.size.toInt32 = 256)
    (hall : (Jvm.Cond.all ct (.and (.exactly (.elem ct (.index 0)) "java/lang/Integer") (.eq (.field (.elem ct (.index 0)) "java/lang/Integer" "value" "I") (.sub (.index 0) (.int 128))))).value args s none s [] = some true) :
    ∀ i : Int32, ¬ i < -128 → ¬ 127 < i → ∃ w, c.slots.toList.getD (i + 128).toNatClampNeg .null = .ref w ∧ Jvm.RoadKit.Exa s s.heap w "java/lang/Integer" ∧ Jvm.RoadKit.Fld s s.heap w "java/lang/Integer" "value" "I" (.int i) := by
  intro i h1 h2
  obtain ⟨b1, b2, b3⟩ := own_i128 i h1 h2
  have hat := A.fin (Vm.Alike.refl _)
  have S : c.slots.size = 256 := by
    have : c.slots.size = (256 : Int32).toNatClampNeg := by rw [← hn]; simp only [Int32.toNatClampNeg, len_toInt hsz]; rfl
    rw [this]; decide
  have q := Cond.all_elim (ev []) hat hall (i + 128).toNatClampNeg (by rw [S]; exact b3)
  obtain ⟨q1, q2⟩ := and_e q
  have ei : (Term.index 0).eval args s none [(i + 128).toNatClampNeg] s = some (.int (i + 128)) := idx_at b1
  obtain ⟨w, ew⟩ := exa_v q1
  have ew' := ew
  rw [elem_f (ev _) ei hat b1] at ew'
  have es : (Term.sub (.index 0) (.int 128)).eval args s none [(i + 128).toNatClampNeg] s = some (.int i) := by
    have e0 : i + 128 - 128 = i := by
      rw [Int32.sub_eq_add_neg, Int32.add_assoc]; simp
    have e1 := (back32 b1).1
    simp [Term.eval, e1, e0]
  have ef := own_eqV es q2
  refine ⟨w, ?_, exa_at ew q1, Fld.start ?_⟩
  · rw [List.getD_eq_getElem?_getD, Array.getElem?_toList, ew']; rfl
  · rw [← fld_at (C := "java/lang/Integer") (n := "value") (dd := "I") ew]; exact ef
end Jvm.OwnGo
namespace Jvm.OwnGo
open Jvm Jvm.ClassFile Sem Op Lib Jvm.Free Jvm.Stand Jvm.LawKit Jvm.RoadKit
theorem own_nroot {Z : State} {a0 : Array Value} {O K : String} {n : Nat} (w : (Jvm.Cond.noSuperclass O).before a0 Z = true) (wk : (Jvm.Cond.instantiable K n).before a0 Z = true) (hn : O ≠ K) : NS Z O K := by
  obtain ⟨c, k, h1, h2, h3, -, -⟩ := Cond.noSuperclass_spec w
  obtain ⟨t, kt, g1, -⟩ := Cond.instantiable_spec wk
  have ne := ids_ne h1 g1 hn
  refine ⟨c, t, h1, g1, fun fuel => ?_⟩
  cases fuel with
  | zero => rfl
  | succ f => simp [Vm.isSubclassAux, ne, h2, h3]
theorem own_nno {Z : State} {a0 : Array Value} {C S K : String} {n : Nat} (w : (Jvm.Cond.superclass C S).before a0 Z = true) (wk : (Jvm.Cond.instantiable K n).before a0 Z = true) (nn : NS Z C K) (hn : C ≠ K) : ∃ c t, Z.vm.findClass C = some c ∧ Z.vm.findClass K = some t ∧ Z.vm.assignable c t = false := by
  obtain ⟨c, t, h0, g0, n3⟩ := nn
  obtain ⟨p, k, kp, h1, h2, h3, h4, h5, -, h7⟩ := Cond.superclass_spec h0 w
  obtain ⟨t', kt, g1, g2, g3, g4, -⟩ := Cond.instantiable_spec wk
  cases g0.symm.trans g1
  have gi : kt.isInterface = false := by
    cases q : kt.isInterface with
    | false => rfl
    | true => simp [q] at g4
  have ne := ids_ne h0 g0 hn
  refine ⟨c, t, h0, g0, ?_⟩
  show Z.vm.assignableAux (255 + 1) c t = false
  simp [Vm.assignableAux, ne, h2, g2, h5, g3, gi, Vm.isSubclass, n3]
end Jvm.OwnGo
namespace Jvm.Pilot.@@N@@
open Jvm Jvm.ClassFile Sem Op Lib Jvm.Free Jvm.Stand Jvm.LawKit Jvm.RoadKit Bundle Jvm.OwnGo Jvm.Pilot.@@N@@.Jvm.D
theorem ww {Z : State} {a0 : Array Value} (hw : ∀ d ∈ tables_1, d.before a0 Z = true) (i : Nat) {d : Jvm.Cond} (h : tables_1[i]? = some d) : d.before a0 Z = true := hw d (List.mem_of_getElem? h)
theorem nl {n m : Nat} (h : Nat.ble n m = true) : n ≤ m := Nat.le_of_ble_eq_true h
theorem own_and3 (x : Int32) : x &&& (3 : Int32) = (0 : Int32) ∨ x &&& (3 : Int32) = (1 : Int32) ∨ x &&& (3 : Int32) = (2 : Int32) ∨ x &&& (3 : Int32) = (3 : Int32) := by
  obtain ⟨h1, h2⟩ := OwnNum.mask x 3 (by decide)
  have e : (4 : Int32).toInt = 4 := by decide
  have e' : (3 : Int32).toInt = 3 := by decide
  generalize x &&& (3 : Int32) = z at h1 h2 ⊢
  have q : z.toInt = 0 ∨ z.toInt = 1 ∨ z.toInt = 2 ∨ z.toInt = 3 := by omega
  rcases q with q | q | q | q
  · exact Or.inl (OwnNum.eqI (q.trans (by decide)))
  · exact Or.inr (Or.inl (OwnNum.eqI (q.trans (by decide))))
  · exact Or.inr (Or.inr (Or.inl (OwnNum.eqI (q.trans (by decide)))))
  · exact Or.inr (Or.inr (Or.inr ((OwnNum.eqI (q.trans (by decide))))))
theorem d9_0 : decode jdk_22_method_1_code 0 = .ok (.aload_n 0, 1) := by decide +kernel
theorem d9_1 : decode jdk_22_method_1_code 1 = .ok (.invokespecial 1, 3) := by decide +kernel
theorem d9_4 : decode jdk_22_method_1_code 4 = .ok (.return_, 1) := by decide +kernel
theorem pd_0 : parseMethodDescriptor "()V" = some ⟨[], none⟩ := by decide +kernel
theorem pd_1 : parseMethodDescriptor "(II)I" = some ⟨[.int, .int], some .int⟩ := by decide +kernel
theorem pd_2 : parseMethodDescriptor "(I)[Ljava/lang/Object;" = some ⟨[.int], some (.array (.object "java/lang/Object"))⟩ := by decide +kernel
theorem pd_3 : parseMethodDescriptor "()[Ljava/lang/Object;" = some ⟨[], some (.array (.object "java/lang/Object"))⟩ := by decide +kernel
theorem pd_4 : parseMethodDescriptor "(Ljava/lang/Object;[Ljava/lang/Object;I)V" = some ⟨[(.object "java/lang/Object"), (.array (.object "java/lang/Object")), .int], none⟩ := by decide +kernel
theorem pd_5 : parseMethodDescriptor "(Ljava/lang/Object;)Ljava/lang/Object;" = some ⟨[(.object "java/lang/Object")], some (.object "java/lang/Object")⟩ := by decide +kernel
theorem pd_6 : parseMethodDescriptor "()Z" = some ⟨[], some .boolean⟩ := by decide +kernel
theorem pd_7 : parseMethodDescriptor "()Ljava/util/List;" = some ⟨[], some (.object "java/util/List")⟩ := by decide +kernel
theorem pd_8 : parseMethodDescriptor "(Ljava/util/Collection;)Ljava/util/List;" = some ⟨[(.object "java/util/Collection")], some (.object "java/util/List")⟩ := by decide +kernel
theorem pd_9 : parseMethodDescriptor "([Ljava/lang/Object;ILjava/lang/Class;)[Ljava/lang/Object;" = some ⟨[(.array (.object "java/lang/Object")), .int, (.object "java/lang/Class")], some (.array (.object "java/lang/Object"))⟩ := by decide +kernel
theorem pd_10 : parseMethodDescriptor "([Ljava/lang/Object;I)[Ljava/lang/Object;" = some ⟨[(.array (.object "java/lang/Object")), .int], some (.array (.object "java/lang/Object"))⟩ := by decide +kernel
theorem pd_11 : parseMethodDescriptor "(Ljava/lang/Object;)V" = some ⟨[(.object "java/lang/Object")], none⟩ := by decide +kernel
theorem pd_12 : parseMethodDescriptor "([Ljava/lang/Object;)Ljava/util/List;" = some ⟨[(.array (.object "java/lang/Object"))], some (.object "java/util/List")⟩ := by decide +kernel
theorem pd_13 : parseMethodDescriptor "(Ljava/lang/Object;Ljava/lang/Object;)V" = some ⟨[(.object "java/lang/Object"), (.object "java/lang/Object")], none⟩ := by decide +kernel
theorem pd_14 : parseMethodDescriptor "([Ljava/lang/Object;Z)V" = some ⟨[(.array (.object "java/lang/Object")), .boolean], none⟩ := by decide +kernel
theorem pn_0 : plainName "java/util/AbstractCollection" = true := by first | (simp [plainName, overriddenIn]; done) | decide +kernel
set_option maxRecDepth 65536 in
set_option maxHeartbeats 4000000 in
theorem c_acInit (l : Launch) (Z : State) (a0 : Array Value) (hw : ∀ d ∈ tables_1, d.before a0 Z = true) {n0 : Nat} (h : Heap) (a : Addr) :
    Con l (⟨"java/util/AbstractCollection", "<init>", "()V"⟩ : MethodName) jdk_22_method_1_code 1 none ({ frames := 1, cells := 0, slots := 0, locals := 12 } : Room) Z n0 #[(.ref a)] h (fun v h' => v = none ∧ h = h') := by
  refine Con.of_go (plainFor_of_name pn_0) (Ls := #[.val (.ref a)]) (fun m => by first | (simp [entryFrame, mkF, argsToLocals, Value.category]; done) | rfl) ?_
  refine Go.aloadN (pc' := 1) d9_0 rfl rfl rfl ?_
  refine Go.initO (pc' := 4) (ww hw 48 rfl) (ww hw 20 rfl) (ww hw 21 rfl) d9_1 rfl (nl rfl) (nl rfl) rfl ?_
  exact Go.retV rfl d9_4 ⟨rfl, rfl⟩ (by decide) (by decide)
theorem d8_0 : decode jdk_39_method_1_code 0 = .ok (.aload_n 0, 1) := by decide +kernel
theorem d8_1 : decode jdk_39_method_1_code 1 = .ok (.invokespecial 1, 3) := by decide +kernel
theorem d8_4 : decode jdk_39_method_1_code 4 = .ok (.aload_n 0, 1) := by decide +kernel
theorem d8_5 : decode jdk_39_method_1_code 5 = .ok (.iconst 0, 1) := by decide +kernel
theorem d8_6 : decode jdk_39_method_1_code 6 = .ok (.putfield 7, 3) := by decide +kernel
theorem d8_9 : decode jdk_39_method_1_code 9 = .ok (.return_, 1) := by decide +kernel
theorem pn_1 : plainName "java/util/AbstractList" = true := by first | (simp [plainName, overriddenIn]; done) | decide +kernel
set_option maxRecDepth 65536 in
set_option maxHeartbeats 4000000 in
theorem c_alsInit (l : Launch) (Z : State) (a0 : Array Value) (hw : ∀ d ∈ tables_1, d.before a0 Z = true) {n0 : Nat} (h : Heap) (a : Addr) (ge_a : n0 ≤ a) (e : Exa Z h a "java/util/ArrayList") (pf0 : Fld Z h a "java/util/ArrayList" "elementData" "[Ljava/lang/Object;" .null) (pf1 : Fld Z h a "java/util/ArrayList" "size" "I" (.int (0 : Int32))) (pf2 : Fld Z h a "java/util/AbstractList" "modCount" "I" (.int (0 : Int32))) :
    Con l (⟨"java/util/AbstractList", "<init>", "()V"⟩ : MethodName) jdk_39_method_1_code 1 none ({ frames := 2, cells := 0, slots := 0, locals := 24 } : Room) Z n0 #[(.ref a)] h (fun v h' => v = none ∧ Keep h h' [a] ∧ Fld Z h' a "java/util/ArrayList" "elementData" "[Ljava/lang/Object;" .null ∧ Fld Z h' a "java/util/ArrayList" "size" "I" (.int (0 : Int32)) ∧ Fld Z h' a "java/util/AbstractList" "modCount" "I" (.int (0 : Int32))) := by
  refine Con.of_go (plainFor_of_name pn_1) (Ls := #[.val (.ref a)]) (fun m => by first | (simp [entryFrame, mkF, argsToLocals, Value.category]; done) | rfl) ?_
  refine Go.aloadN (pc' := 1) d8_0 rfl rfl rfl ?_
  refine Go.callC (cells' := 0) (slots' := 0) (pc' := 4) [] [] (a := a) rfl rfl (ww hw 42 rfl) (ww hw 43 rfl) (ww hw 46 rfl) (ww hw 47 rfl) (by decide) (c_acInit l Z a0 hw h a) pd_0 rfl rfl rfl rfl rfl (nl rfl) (nl rfl) (nl rfl) (nl rfl) d8_1 rfl ?_
  rintro _ _ ⟨rfl, rfl⟩
  show Go _ _ _ _ _ _ _ _ _ _ _ _ 4 #[.val (.ref a)] []
  refine Go.aloadN (pc' := 5) d8_4 rfl rfl rfl ?_
  refine Go.iconst (pc' := 6) (v := (0 : Int32)) d8_5 rfl rfl ?_
  refine Go.putfield (pc' := 9) (host := "") (Or.inl (ww hw 49 rfl)) Via.refl pf2 e (Or.inl (ww hw 50 rfl)) (ww hw 31 rfl) (ty := .int) (by decide) rfl rfl ge_a d8_6 rfl ?_
  intro h2 W3
  have K4 : Keep h h2 [a] := (Keep.refl h [a]).wr W3 (Or.inl (List.mem_of_getElem? (i := 0) rfl))
  have f5 := pf2.same W3
  have f6 : Fld Z h2 a "java/util/ArrayList" "elementData" "[Ljava/lang/Object;" .null := (pf0.other W3 (Or.inr (slot_ne (Or.inl (ww hw 53 rfl)) (Or.inl (ww hw 50 rfl)) (by decide) (t := (.array (.object "java/lang/Object"))) (t' := .int) (by decide) (by decide))))
  have f7 : Fld Z h2 a "java/util/ArrayList" "size" "I" (.int (0 : Int32)) := (pf1.other W3 (Or.inr (slot_ne (Or.inl (ww hw 62 rfl)) (Or.inl (ww hw 50 rfl)) (by decide) (t := .int) (t' := .int) (by decide) (by decide))))
  exact Go.retV rfl d8_9 ⟨rfl, K4, f6, f7, f5⟩ (by decide) (by decide)
theorem d7_0 : decode jdk_38_method_2_code 0 = .ok (.aload_n 0, 1) := by decide +kernel
theorem d7_1 : decode jdk_38_method_2_code 1 = .ok (.invokespecial 1, 3) := by decide +kernel
theorem d7_4 : decode jdk_38_method_2_code 4 = .ok (.aload_n 0, 1) := by decide +kernel
theorem d7_5 : decode jdk_38_method_2_code 5 = .ok (.getstatic 39, 3) := by decide +kernel
theorem d7_8 : decode jdk_38_method_2_code 8 = .ok (.putfield 9, 3) := by decide +kernel
theorem d7_11 : decode jdk_38_method_2_code 11 = .ok (.return_, 1) := by decide +kernel
theorem pn_2 : plainName "java/util/ArrayList" = true := by first | (simp [plainName, overriddenIn]; done) | decide +kernel
set_option maxRecDepth 65536 in
set_option maxHeartbeats 4000000 in
theorem c_alInit (l : Launch) (Z : State) (a0 : Array Value) (hw : ∀ d ∈ tables_1, d.before a0 Z = true) {n0 : Nat} (h : Heap) (a : Addr) (wd : Addr) (kd : ClassId) (vsd : List Value) (sd : Sta Z Z.heap "java/util/ArrayList" "DEFAULTCAPACITY_EMPTY_ELEMENTDATA" "[Ljava/lang/Object;" (.ref wd)) (vd : Arv Z Z.heap wd kd (.object "java/lang/Object") (0 : Int32) vsd .null) (xd : Exa Z Z.heap wd "[Ljava/lang/Object;") (ge_a : n0 ≤ a) (e : Exa Z h a "java/util/ArrayList") (pf0 : Fld Z h a "java/util/ArrayList" "elementData" "[Ljava/lang/Object;" .null) (pf1 : Fld Z h a "java/util/ArrayList" "size" "I" (.int (0 : Int32))) (pf2 : Fld Z h a "java/util/AbstractList" "modCount" "I" (.int (0 : Int32))) :
    Con l (⟨"java/util/ArrayList", "<init>", "()V"⟩ : MethodName) jdk_38_method_2_code 1 none ({ frames := 3, cells := 0, slots := 0, locals := 36 } : Room) Z n0 #[(.ref a)] h (fun v h' => v = none ∧ Keep h h' [a] ∧ Fld Z h' a "java/util/ArrayList" "elementData" "[Ljava/lang/Object;" (.ref wd) ∧ Fld Z h' a "java/util/ArrayList" "size" "I" (.int (0 : Int32)) ∧ Fld Z h' a "java/util/AbstractList" "modCount" "I" (.int (0 : Int32))) := by
  refine Con.of_go (plainFor_of_name pn_2) (Ls := #[.val (.ref a)]) (fun m => by first | (simp [entryFrame, mkF, argsToLocals, Value.category]; done) | rfl) ?_
  refine Go.aloadN (pc' := 1) d7_0 rfl rfl rfl ?_
  refine Go.callC (cells' := 0) (slots' := 0) (pc' := 4) [] [] (a := a) rfl rfl (ww hw 36 rfl) (ww hw 37 rfl) (ww hw 40 rfl) (ww hw 41 rfl) (by decide) (c_alsInit l Z a0 hw h a ge_a e pf0 pf1 pf2) pd_0 rfl rfl rfl rfl rfl (nl rfl) (nl rfl) (nl rfl) (nl rfl) d7_1 rfl ?_
  rintro _ h1 ⟨rfl, K1, F1_0, F1_1, F1_2⟩
  have K2 : Keep h h1 [a] := (Keep.refl h [a]).trans K1 (allS (Or.inl (List.mem_of_getElem? (i := 0) rfl)) all0)
  show Go _ _ _ _ _ _ _ _ _ _ _ _ 4 #[.val (.ref a)] []
  refine Go.aloadN (pc' := 5) d7_4 rfl rfl rfl ?_
  refine Go.old (fun old3 => ?_)
  refine Go.getstatic (pc' := 8) (host := "") (Or.inl (ww hw 51 rfl)) Via.refl (sd.ext old3.2) d7_5 rfl ?_
  refine Go.putfield (pc' := 11) (host := "") (Or.inl (ww hw 52 rfl)) Via.refl F1_0 (e.keep K1) (Or.inl (ww hw 53 rfl)) (ww hw 31 rfl) (ty := (.array (.object "java/lang/Object"))) (by decide) rfl rfl ge_a d7_8 rfl ?_
  intro h4 W5
  have K6 : Keep h h4 [a] := K2.wr W5 (Or.inl (List.mem_of_getElem? (i := 0) rfl))
  have f7 := F1_0.same W5
  have f8 : Fld Z h4 a "java/util/ArrayList" "size" "I" (.int (0 : Int32)) := (F1_1.other W5 (Or.inr (slot_ne (Or.inl (ww hw 62 rfl)) (Or.inl (ww hw 53 rfl)) (by decide) (t := .int) (t' := (.array (.object "java/lang/Object"))) (by decide) (by decide))))
  have f9 : Fld Z h4 a "java/util/AbstractList" "modCount" "I" (.int (0 : Int32)) := (F1_2.other W5 (Or.inr (slot_ne (Or.inl (ww hw 50 rfl)) (Or.inl (ww hw 53 rfl)) (by decide) (t := .int) (t' := (.array (.object "java/lang/Object"))) (by decide) (by decide))))
  exact Go.retV rfl d7_11 ⟨rfl, K6, f7, f8, f9⟩ (by decide) (by decide)
theorem d14_0 : decode jdk_29_method_65_code 0 = .ok (.iload_n 0, 1) := by decide +kernel
theorem d14_1 : decode jdk_29_method_65_code 1 = .ok (.iload_n 1, 1) := by decide +kernel
theorem d14_2 : decode jdk_29_method_65_code 2 = .ok (.if_icmp .lt 7, 3) := by decide +kernel
theorem d14_5 : decode jdk_29_method_65_code 5 = .ok (.iload_n 0, 1) := by decide +kernel
theorem d14_6 : decode jdk_29_method_65_code 6 = .ok (.goto 4, 3) := by decide +kernel
theorem d14_10 : decode jdk_29_method_65_code 10 = .ok (.ireturn, 1) := by decide +kernel
set_option maxRecDepth 65536 in
set_option maxHeartbeats 4000000 in
theorem c_max10 (l : Launch) (Z : State) (a0 : Array Value) (hw : ∀ d ∈ tables_1, d.before a0 Z = true) {n0 : Nat} (h : Heap) :
    Con l (⟨"java/lang/Math", "max", "(II)I"⟩ : MethodName) jdk_29_method_65_code 2 (some .int) ({ frames := 0, cells := 0, slots := 0, locals := 0 } : Room) Z n0 #[(.int (10 : Int32)), (.int (1 : Int32))] h (fun v h' => v = some (.int (10 : Int32)) ∧ h = h') := by
  refine Con.of_go (Jvm.Free.JP.mathPlain rfl (by decide +kernel)) (Ls := #[.val (.int (10 : Int32)), .val (.int (1 : Int32))]) (fun m => by first | (simp [entryFrame, mkF, argsToLocals, Value.category]; done) | rfl) ?_
  refine Go.iloadN (pc' := 1) d14_0 rfl rfl ?_
  refine Go.iloadN (pc' := 2) d14_1 rfl rfl ?_
  refine Go.icmpNo (pc' := 5) d14_2 (XT.ii_lt_f (by decide)) rfl ?_
  refine Go.iloadN (pc' := 6) d14_5 rfl rfl ?_
  refine Go.goto (pc' := 10) d14_6 (by decide) (by decide) ?_
  exact Go.retI rfl d14_10 ⟨rfl, rfl⟩ (by decide) (by decide)
theorem d13_0 : decode jdk_38_method_6_code 0 = .ok (.aload_n 0, 1) := by decide +kernel
theorem d13_1 : decode jdk_38_method_6_code 1 = .ok (.getfield 9, 3) := by decide +kernel
theorem d13_4 : decode jdk_38_method_6_code 4 = .ok (.arraylength, 1) := by decide +kernel
theorem d13_5 : decode jdk_38_method_6_code 5 = .ok (.istore_n 2, 1) := by decide +kernel
theorem d13_6 : decode jdk_38_method_6_code 6 = .ok (.iload_n 2, 1) := by decide +kernel
theorem d13_7 : decode jdk_38_method_6_code 7 = .ok (.ifCond .gt 13, 3) := by decide +kernel
theorem d13_10 : decode jdk_38_method_6_code 10 = .ok (.aload_n 0, 1) := by decide +kernel
theorem d13_11 : decode jdk_38_method_6_code 11 = .ok (.getfield 9, 3) := by decide +kernel
theorem d13_14 : decode jdk_38_method_6_code 14 = .ok (.getstatic 39, 3) := by decide +kernel
theorem d13_17 : decode jdk_38_method_6_code 17 = .ok (.if_acmp .eq 28, 3) := by decide +kernel
theorem d13_45 : decode jdk_38_method_6_code 45 = .ok (.aload_n 0, 1) := by decide +kernel
theorem d13_46 : decode jdk_38_method_6_code 46 = .ok (.bipush 10, 2) := by decide +kernel
theorem d13_48 : decode jdk_38_method_6_code 48 = .ok (.iload_n 1, 1) := by decide +kernel
theorem d13_49 : decode jdk_38_method_6_code 49 = .ok (.invokestatic 79, 3) := by decide +kernel
theorem d13_52 : decode jdk_38_method_6_code 52 = .ok (.anewarray 7, 3) := by decide +kernel
theorem d13_55 : decode jdk_38_method_6_code 55 = .ok (.dup_x1, 1) := by decide +kernel
theorem d13_56 : decode jdk_38_method_6_code 56 = .ok (.putfield 9, 3) := by decide +kernel
theorem d13_59 : decode jdk_38_method_6_code 59 = .ok (.areturn, 1) := by decide +kernel
set_option maxRecDepth 65536 in
set_option maxHeartbeats 4000000 in
theorem c_growI (l : Launch) (Z : State) (a0 : Array Value) (hw : ∀ d ∈ tables_1, d.before a0 Z = true) {n0 : Nat} (h : Heap) (a : Addr) (wd : Addr) (kd : ClassId) (vsd : List Value) (sd : Sta Z Z.heap "java/util/ArrayList" "DEFAULTCAPACITY_EMPTY_ELEMENTDATA" "[Ljava/lang/Object;" (.ref wd)) (vd : Arv Z Z.heap wd kd (.object "java/lang/Object") (0 : Int32) vsd .null) (xd : Exa Z Z.heap wd "[Ljava/lang/Object;") (ge_a : n0 ≤ a) (e : Exa Z h a "java/util/ArrayList") (pf0 : Fld Z h a "java/util/ArrayList" "elementData" "[Ljava/lang/Object;" (.ref wd)) (pf1 : Fld Z h a "java/util/ArrayList" "size" "I" (.int (0 : Int32))) (pf2 : Fld Z h a "java/util/AbstractList" "modCount" "I" (.int (1 : Int32))) :
    Con l (⟨"java/util/ArrayList", "grow", "(I)[Ljava/lang/Object;"⟩ : MethodName) jdk_38_method_6_code 4 (some (.array (.object "java/lang/Object"))) ({ frames := 1, cells := 1, slots := 10, locals := 14 } : Room) Z n0 #[(.ref a), (.int (1 : Int32))] h (fun v h' => ∃ b : Addr, ∃ kb : ClassId, v = some (.ref b) ∧ Keep h h' [a] ∧ n0 ≤ b ∧ h.size ≤ b ∧ Fld Z h' a "java/util/ArrayList" "elementData" "[Ljava/lang/Object;" (.ref b) ∧ Fld Z h' a "java/util/ArrayList" "size" "I" (.int (0 : Int32)) ∧ Fld Z h' a "java/util/AbstractList" "modCount" "I" (.int (1 : Int32)) ∧ Arv Z h' b kb (.object "java/lang/Object") (10 : Int32) [.null, .null, .null, .null, .null, .null, .null, .null, .null, .null] .null ∧ Exa Z h' b "[Ljava/lang/Object;" ∧ Ovr Z kb "java/lang/Object") := by
  refine Con.of_go (plainFor_of_name pn_2) (Ls := #[.val (.ref a), .val (.int (1 : Int32)), .unset, .unset]) (fun m => by first | (simp [entryFrame, mkF, argsToLocals, Value.category]; done) | rfl) ?_
  refine Go.aloadN (pc' := 1) d13_0 rfl rfl rfl ?_
  refine Go.getfield (pc' := 4) (host := "") (Or.inl (ww hw 52 rfl)) Via.refl pf0 d13_1 rfl ?_
  refine Go.old (fun old1 => ?_)
  refine Go.arraylength (pc' := 5) (vd.ext old1.2) d13_4 rfl ?_
  refine Go.istoreN (pc' := 6) (Ls' := #[.val (.ref a), .val (.int (1 : Int32)), .val (.int (0 : Int32)), .unset]) d13_5 rfl rfl ?_
  refine Go.iloadN (pc' := 7) d13_6 rfl rfl ?_
  refine Go.ifNo (pc' := 10) d13_7 (XT.i0_gt_f (by decide)) rfl ?_
  refine Go.aloadN (pc' := 11) d13_10 rfl rfl rfl ?_
  refine Go.getfield (pc' := 14) (host := "") (Or.inl (ww hw 52 rfl)) Via.refl pf0 d13_11 rfl ?_
  refine Go.getstatic (pc' := 17) (host := "") (Or.inl (ww hw 51 rfl)) Via.refl (sd.ext old1.2) d13_14 rfl ?_
  refine Go.acmpYes (pc' := 45) d13_17 rfl rfl (XT.aa_eq_t rfl) (by decide) (by decide) ?_
  refine Go.aloadN (pc' := 46) d13_45 rfl rfl rfl ?_
  refine Go.bipush (pc' := 48) (v := (10 : Int32)) d13_46 rfl rfl ?_
  refine Go.iloadN (pc' := 49) d13_48 rfl rfl ?_
  refine Go.callS (cells' := 0) (slots' := 0) (pc' := 52) [(.int (10 : Int32)), (.int (1 : Int32))] [(.ref a)] (ww hw 78 rfl) (ww hw 79 rfl) (ww hw 80 rfl) (ww hw 81 rfl) (by decide) (c_max10 l Z a0 hw h) pd_1 rfl rfl rfl rfl rfl (nl rfl) (nl rfl) (nl rfl) (nl rfl) d13_49 rfl ?_
  rintro _ _ ⟨rfl, rfl⟩
  show Go _ _ _ _ _ _ _ _ _ _ _ _ 52 #[.val (.ref a), .val (.int (1 : Int32)), .val (.int (0 : Int32)), .unset] [(.int (10 : Int32)), (.ref a)]
  refine Go.anewarray (pc' := 55) (cells' := 1) (slots' := 10) (cap := 10) (ww hw 82 rfl) (ww hw 83 rfl) d13_52 (ad := "[Ljava/lang/Object;") (by decide) (by decide) (by decide) rfl rfl (by decide) (by decide) (by decide) rfl ?_
  intro h3 b3 g3 E3 ge3 kA3 A3 X3 O3
  have sz4 : h.size ≤ b3 := Nat.le_trans (Keep.refl h [a]).1 (Nat.le_of_eq g3.symm)
  have K5 : Keep h h3 [a] := (Keep.refl h [a]).ext E3
  have V3 : Arv Z h3 b3 kA3 (.object "java/lang/Object") (10 : Int32) [.null, .null, .null, .null, .null, .null, .null, .null, .null, .null] .null := Arv.pad A3 (pad_rep [] .null 10)
  refine Go.dupX1 (pc' := 56) d13_55 rfl rfl rfl ?_
  refine Go.putfield (pc' := 59) (host := "") (Or.inl (ww hw 52 rfl)) Via.refl (pf0.ext E3) (e.ext E3) (Or.inl (ww hw 53 rfl)) (ww hw 31 rfl) (ty := (.array (.object "java/lang/Object"))) (by decide) rfl rfl ge_a d13_56 rfl ?_
  intro h6 W7
  have K8 : Keep h h6 [a] := K5.wr W7 (Or.inl (List.mem_of_getElem? (i := 0) rfl))
  have f9 := (pf0.ext E3).same W7
  have f10 : Fld Z h6 a "java/util/ArrayList" "size" "I" (.int (0 : Int32)) := ((pf1.ext E3).other W7 (Or.inr (slot_ne (Or.inl (ww hw 62 rfl)) (Or.inl (ww hw 53 rfl)) (by decide) (t := .int) (t' := (.array (.object "java/lang/Object"))) (by decide) (by decide))))
  have f11 : Fld Z h6 a "java/util/AbstractList" "modCount" "I" (.int (1 : Int32)) := ((pf2.ext E3).other W7 (Or.inr (slot_ne (Or.inl (ww hw 50 rfl)) (Or.inl (ww hw 53 rfl)) (by decide) (t := .int) (t' := (.array (.object "java/lang/Object"))) (by decide) (by decide))))
  have ne12 : a ≠ b3 := (Nat.ne_of_lt (Nat.lt_of_lt_of_le pf2.lt (Nat.le_of_eq g3.symm)))
  exact Go.retR rfl rfl rfl rfl d13_59 ⟨b3, kA3, rfl, K8, ge3, sz4, f9, f10, f11, (V3.other W7 (Ne.symm ne12)), (X3.wr W7), O3⟩ (by decide) (by decide)
theorem d12_0 : decode jdk_38_method_7_code 0 = .ok (.aload_n 0, 1) := by decide +kernel
theorem d12_1 : decode jdk_38_method_7_code 1 = .ok (.aload_n 0, 1) := by decide +kernel
theorem d12_2 : decode jdk_38_method_7_code 2 = .ok (.getfield 48, 3) := by decide +kernel
theorem d12_5 : decode jdk_38_method_7_code 5 = .ok (.iconst 1, 1) := by decide +kernel
theorem d12_6 : decode jdk_38_method_7_code 6 = .ok (.iadd, 1) := by decide +kernel
theorem d12_7 : decode jdk_38_method_7_code 7 = .ok (.invokevirtual 69, 3) := by decide +kernel
theorem d12_10 : decode jdk_38_method_7_code 10 = .ok (.areturn, 1) := by decide +kernel
set_option maxRecDepth 65536 in
set_option maxHeartbeats 4000000 in
theorem c_grow (l : Launch) (Z : State) (a0 : Array Value) (hw : ∀ d ∈ tables_1, d.before a0 Z = true) {n0 : Nat} (h : Heap) (a : Addr) (wd : Addr) (kd : ClassId) (vsd : List Value) (sd : Sta Z Z.heap "java/util/ArrayList" "DEFAULTCAPACITY_EMPTY_ELEMENTDATA" "[Ljava/lang/Object;" (.ref wd)) (vd : Arv Z Z.heap wd kd (.object "java/lang/Object") (0 : Int32) vsd .null) (xd : Exa Z Z.heap wd "[Ljava/lang/Object;") (ge_a : n0 ≤ a) (e : Exa Z h a "java/util/ArrayList") (pf0 : Fld Z h a "java/util/ArrayList" "elementData" "[Ljava/lang/Object;" (.ref wd)) (pf1 : Fld Z h a "java/util/ArrayList" "size" "I" (.int (0 : Int32))) (pf2 : Fld Z h a "java/util/AbstractList" "modCount" "I" (.int (1 : Int32))) :
    Con l (⟨"java/util/ArrayList", "grow", "()[Ljava/lang/Object;"⟩ : MethodName) jdk_38_method_7_code 1 (some (.array (.object "java/lang/Object"))) ({ frames := 2, cells := 1, slots := 10, locals := 29 } : Room) Z n0 #[(.ref a)] h (fun v h' => ∃ b : Addr, ∃ kb : ClassId, v = some (.ref b) ∧ Keep h h' [a] ∧ n0 ≤ b ∧ h.size ≤ b ∧ Fld Z h' a "java/util/ArrayList" "elementData" "[Ljava/lang/Object;" (.ref b) ∧ Fld Z h' a "java/util/ArrayList" "size" "I" (.int (0 : Int32)) ∧ Fld Z h' a "java/util/AbstractList" "modCount" "I" (.int (1 : Int32)) ∧ Arv Z h' b kb (.object "java/lang/Object") (10 : Int32) [.null, .null, .null, .null, .null, .null, .null, .null, .null, .null] .null ∧ Exa Z h' b "[Ljava/lang/Object;" ∧ Ovr Z kb "java/lang/Object") := by
  refine Con.of_go (plainFor_of_name pn_2) (Ls := #[.val (.ref a)]) (fun m => by first | (simp [entryFrame, mkF, argsToLocals, Value.category]; done) | rfl) ?_
  refine Go.aloadN (pc' := 1) d12_0 rfl rfl rfl ?_
  refine Go.aloadN (pc' := 2) d12_1 rfl rfl rfl ?_
  refine Go.getfield (pc' := 5) (host := "") (Or.inl (ww hw 61 rfl)) Via.refl pf1 d12_2 rfl ?_
  refine Go.iconst (pc' := 6) (v := (1 : Int32)) d12_5 rfl rfl ?_
  refine Go.iadd (pc' := 7) d12_6 rfl ?_
  show Go _ _ _ _ _ _ _ _ _ _ _ _ 7 #[.val (.ref a)] [(.int (1 : Int32)), (.ref a)]
  refine Go.callP (cells' := 1) (slots' := 10) (pc' := 10) [(.int (1 : Int32))] [] e (ww hw 73 rfl) (ww hw 74 rfl) (ww hw 76 rfl) (ww hw 75 rfl) (ww hw 32 rfl) (ww hw 77 rfl) (by decide) (c_growI l Z a0 hw h a wd kd vsd sd vd xd ge_a e pf0 pf1 pf2) pd_2 rfl rfl rfl rfl rfl (nl rfl) (nl rfl) (nl rfl) (nl rfl) d12_7 rfl ?_
  rintro _ h1 ⟨b_1, kb_1, rfl, K1, ge_b_1, sz_b_1, F1_0, F1_1, F1_2, F1_3, F1_4, F1_5⟩
  have sz2 : h.size ≤ b_1 := Nat.le_trans (Keep.refl h [a]).1 sz_b_1
  have K3 : Keep h h1 [a] := (Keep.refl h [a]).trans K1 (allS (Or.inl (List.mem_of_getElem? (i := 0) rfl)) all0)
  show Go _ _ _ _ _ _ _ _ _ _ _ _ 10 #[.val (.ref a)] [(.ref b_1)]
  exact Go.retR rfl rfl rfl rfl d12_10 ⟨b_1, kb_1, rfl, K3, ge_b_1, sz2, F1_0, F1_1, F1_2, F1_3, F1_4, F1_5⟩ (by decide) (by decide)
theorem d11_0 : decode jdk_38_method_24_code 0 = .ok (.iload_n 3, 1) := by decide +kernel
theorem d11_1 : decode jdk_38_method_24_code 1 = .ok (.aload_n 2, 1) := by decide +kernel
theorem d11_2 : decode jdk_38_method_24_code 2 = .ok (.arraylength, 1) := by decide +kernel
theorem d11_3 : decode jdk_38_method_24_code 3 = .ok (.if_icmp .ne 8, 3) := by decide +kernel
theorem d11_6 : decode jdk_38_method_24_code 6 = .ok (.aload_n 0, 1) := by decide +kernel
theorem d11_7 : decode jdk_38_method_24_code 7 = .ok (.invokevirtual 129, 3) := by decide +kernel
theorem d11_10 : decode jdk_38_method_24_code 10 = .ok (.astore_n 2, 1) := by decide +kernel
theorem d11_11 : decode jdk_38_method_24_code 11 = .ok (.aload_n 2, 1) := by decide +kernel
theorem d11_12 : decode jdk_38_method_24_code 12 = .ok (.iload_n 3, 1) := by decide +kernel
theorem d11_13 : decode jdk_38_method_24_code 13 = .ok (.aload_n 1, 1) := by decide +kernel
theorem d11_14 : decode jdk_38_method_24_code 14 = .ok (.aastore, 1) := by decide +kernel
theorem d11_15 : decode jdk_38_method_24_code 15 = .ok (.aload_n 0, 1) := by decide +kernel
theorem d11_16 : decode jdk_38_method_24_code 16 = .ok (.iload_n 3, 1) := by decide +kernel
theorem d11_17 : decode jdk_38_method_24_code 17 = .ok (.iconst 1, 1) := by decide +kernel
theorem d11_18 : decode jdk_38_method_24_code 18 = .ok (.iadd, 1) := by decide +kernel
theorem d11_19 : decode jdk_38_method_24_code 19 = .ok (.putfield 48, 3) := by decide +kernel
theorem d11_22 : decode jdk_38_method_24_code 22 = .ok (.return_, 1) := by decide +kernel
set_option maxRecDepth 65536 in
set_option maxHeartbeats 4000000 in
theorem c_addP0 (l : Launch) (Z : State) (a0 : Array Value) (hw : ∀ d ∈ tables_1, d.before a0 Z = true) {n0 : Nat} (h : Heap) (a : Addr) (e : Addr) (wd : Addr) (kd : ClassId) (vsd : List Value) (sd : Sta Z Z.heap "java/util/ArrayList" "DEFAULTCAPACITY_EMPTY_ELEMENTDATA" "[Ljava/lang/Object;" (.ref wd)) (vd : Arv Z Z.heap wd kd (.object "java/lang/Object") (0 : Int32) vsd .null) (xd : Exa Z Z.heap wd "[Ljava/lang/Object;") (ge_a : n0 ≤ a) (xa : Exa Z h a "java/util/ArrayList") (xe : Exa Z h e "java/lang/String") (pf0 : Fld Z h a "java/util/ArrayList" "elementData" "[Ljava/lang/Object;" (.ref wd)) (pf1 : Fld Z h a "java/util/ArrayList" "size" "I" (.int (0 : Int32))) (pf2 : Fld Z h a "java/util/AbstractList" "modCount" "I" (.int (1 : Int32))) :
    Con l (⟨"java/util/ArrayList", "add", "(Ljava/lang/Object;[Ljava/lang/Object;I)V"⟩ : MethodName) jdk_38_method_24_code 4 none ({ frames := 3, cells := 1, slots := 10, locals := 41 } : Room) Z n0 #[(.ref a), (.ref e), (.ref wd), (.int (0 : Int32))] h (fun v h' => ∃ b : Addr, ∃ kb : ClassId, v = none ∧ Keep h h' [a] ∧ n0 ≤ b ∧ h.size ≤ b ∧ Fld Z h' a "java/util/ArrayList" "elementData" "[Ljava/lang/Object;" (.ref b) ∧ Fld Z h' a "java/util/ArrayList" "size" "I" (.int (1 : Int32)) ∧ Fld Z h' a "java/util/AbstractList" "modCount" "I" (.int (1 : Int32)) ∧ Arv Z h' b kb (.object "java/lang/Object") (10 : Int32) [(.ref e), .null, .null, .null, .null, .null, .null, .null, .null, .null] .null ∧ Exa Z h' b "[Ljava/lang/Object;" ∧ Ovr Z kb "java/lang/Object") := by
  refine Con.of_go (plainFor_of_name pn_2) (Ls := #[.val (.ref a), .val (.ref e), .val (.ref wd), .val (.int (0 : Int32))]) (fun m => by first | (simp [entryFrame, mkF, argsToLocals, Value.category]; done) | rfl) ?_
  refine Go.iloadN (pc' := 1) d11_0 rfl rfl ?_
  refine Go.aloadN (pc' := 2) d11_1 rfl rfl rfl ?_
  refine Go.old (fun old1 => ?_)
  refine Go.arraylength (pc' := 3) (vd.ext old1.2) d11_2 rfl ?_
  refine Go.icmpNo (pc' := 6) d11_3 (XT.ii_ne_f (by decide)) rfl ?_
  refine Go.aloadN (pc' := 7) d11_6 rfl rfl rfl ?_
  refine Go.callP (cells' := 1) (slots' := 10) (pc' := 10) [] [] xa (ww hw 68 rfl) (ww hw 69 rfl) (ww hw 71 rfl) (ww hw 70 rfl) (ww hw 32 rfl) (ww hw 72 rfl) (by decide) (c_grow l Z a0 hw h a wd kd vsd sd vd xd ge_a xa pf0 pf1 pf2) pd_3 rfl rfl rfl rfl rfl (nl rfl) (nl rfl) (nl rfl) (nl rfl) d11_7 rfl ?_
  rintro _ h2 ⟨b_2, kb_2, rfl, K2, ge_b_2, sz_b_2, F2_0, F2_1, F2_2, F2_3, F2_4, F2_5⟩
  have sz3 : h.size ≤ b_2 := Nat.le_trans (Keep.refl h [a]).1 sz_b_2
  have K4 : Keep h h2 [a] := (Keep.refl h [a]).trans K2 (allS (Or.inl (List.mem_of_getElem? (i := 0) rfl)) all0)
  show Go _ _ _ _ _ _ _ _ _ _ _ _ 10 #[.val (.ref a), .val (.ref e), .val (.ref wd), .val (.int (0 : Int32))] [(.ref b_2)]
  refine Go.astoreN (pc' := 11) (Ls' := #[.val (.ref a), .val (.ref e), .val (.ref b_2), .val (.int (0 : Int32))]) d11_10 rfl rfl rfl ?_
  refine Go.aloadN (pc' := 12) d11_11 rfl rfl rfl ?_
  refine Go.iloadN (pc' := 13) d11_12 rfl rfl ?_
  refine Go.aloadN (pc' := 14) d11_13 rfl rfl rfl ?_
  refine Go.aastore (pc' := 15) F2_3 ge_b_2 rfl rfl (own_sto F2_3 F2_5 (Ins.of_exa (xe.keep K2) (ww hw 84 rfl))) d11_14 (by decide) (by decide) (i := 0) rfl (nl rfl) rfl ?_
  intro h5 W6 V7
  have K8 : Keep h h5 [a] := K4.wr W6 (Or.inr sz3)
  replace V7 : Arv Z h5 b_2 kb_2 (.object "java/lang/Object") (10 : Int32) [(.ref e), .null, .null, .null, .null, .null, .null, .null, .null, .null] .null := V7
  refine Go.aloadN (pc' := 16) d11_15 rfl rfl rfl ?_
  refine Go.iloadN (pc' := 17) d11_16 rfl rfl ?_
  refine Go.iconst (pc' := 18) (v := (1 : Int32)) d11_17 rfl rfl ?_
  refine Go.iadd (pc' := 19) d11_18 rfl ?_
  show Go _ _ _ _ _ _ _ _ _ _ _ _ 19 #[.val (.ref a), .val (.ref e), .val (.ref b_2), .val (.int (0 : Int32))] [(.int (1 : Int32)), (.ref a)]
  have ne9 : a ≠ b_2 := (Nat.ne_of_lt (Nat.lt_of_lt_of_le xa.lt sz_b_2))
  refine Go.putfield (pc' := 22) (host := "") (Or.inl (ww hw 61 rfl)) Via.refl (F2_1.other W6 (Or.inl ne9)) ((xa.keep K2).wr W6) (Or.inl (ww hw 62 rfl)) (ww hw 31 rfl) (ty := .int) (by decide) rfl rfl ge_a d11_19 rfl ?_
  intro h10 W11
  have K12 : Keep h h10 [a] := K8.wr W11 (Or.inl (List.mem_of_getElem? (i := 0) rfl))
  have f13 := (F2_1.other W6 (Or.inl ne9)).same W11
  have f14 : Fld Z h10 a "java/util/ArrayList" "elementData" "[Ljava/lang/Object;" (.ref b_2) := ((F2_0.other W6 (Or.inl ne9)).other W11 (Or.inr (slot_ne (Or.inl (ww hw 53 rfl)) (Or.inl (ww hw 62 rfl)) (by decide) (t := (.array (.object "java/lang/Object"))) (t' := .int) (by decide) (by decide))))
  have f15 : Fld Z h10 a "java/util/AbstractList" "modCount" "I" (.int (1 : Int32)) := ((F2_2.other W6 (Or.inl ne9)).other W11 (Or.inr (slot_ne (Or.inl (ww hw 50 rfl)) (Or.inl (ww hw 62 rfl)) (by decide) (t := .int) (t' := .int) (by decide) (by decide))))
  exact Go.retV rfl d11_22 ⟨b_2, kb_2, rfl, K12, ge_b_2, sz3, f14, f13, f15, (V7.other W11 (Ne.symm ne9)), ((F2_4.wr W6).wr W11), F2_5⟩ (by decide) (by decide)
theorem d10_0 : decode jdk_38_method_25_code 0 = .ok (.aload_n 0, 1) := by decide +kernel
theorem d10_1 : decode jdk_38_method_25_code 1 = .ok (.dup, 1) := by decide +kernel
theorem d10_2 : decode jdk_38_method_25_code 2 = .ok (.getfield 63, 3) := by decide +kernel
theorem d10_5 : decode jdk_38_method_25_code 5 = .ok (.iconst 1, 1) := by decide +kernel
theorem d10_6 : decode jdk_38_method_25_code 6 = .ok (.iadd, 1) := by decide +kernel
theorem d10_7 : decode jdk_38_method_25_code 7 = .ok (.putfield 63, 3) := by decide +kernel
theorem d10_10 : decode jdk_38_method_25_code 10 = .ok (.aload_n 0, 1) := by decide +kernel
theorem d10_11 : decode jdk_38_method_25_code 11 = .ok (.aload_n 1, 1) := by decide +kernel
theorem d10_12 : decode jdk_38_method_25_code 12 = .ok (.aload_n 0, 1) := by decide +kernel
theorem d10_13 : decode jdk_38_method_25_code 13 = .ok (.getfield 9, 3) := by decide +kernel
theorem d10_16 : decode jdk_38_method_25_code 16 = .ok (.aload_n 0, 1) := by decide +kernel
theorem d10_17 : decode jdk_38_method_25_code 17 = .ok (.getfield 48, 3) := by decide +kernel
theorem d10_20 : decode jdk_38_method_25_code 20 = .ok (.invokevirtual 131, 3) := by decide +kernel
theorem d10_23 : decode jdk_38_method_25_code 23 = .ok (.iconst 1, 1) := by decide +kernel
theorem d10_24 : decode jdk_38_method_25_code 24 = .ok (.ireturn, 1) := by decide +kernel
set_option maxRecDepth 65536 in
set_option maxHeartbeats 4000000 in
theorem c_add0 (l : Launch) (Z : State) (a0 : Array Value) (hw : ∀ d ∈ tables_1, d.before a0 Z = true) {n0 : Nat} (h : Heap) (a : Addr) (e : Addr) (wd : Addr) (kd : ClassId) (vsd : List Value) (sd : Sta Z Z.heap "java/util/ArrayList" "DEFAULTCAPACITY_EMPTY_ELEMENTDATA" "[Ljava/lang/Object;" (.ref wd)) (vd : Arv Z Z.heap wd kd (.object "java/lang/Object") (0 : Int32) vsd .null) (xd : Exa Z Z.heap wd "[Ljava/lang/Object;") (ge_a : n0 ≤ a) (xa : Exa Z h a "java/util/ArrayList") (xe : Exa Z h e "java/lang/String") (pf0 : Fld Z h a "java/util/ArrayList" "elementData" "[Ljava/lang/Object;" (.ref wd)) (pf1 : Fld Z h a "java/util/ArrayList" "size" "I" (.int (0 : Int32))) (pf2 : Fld Z h a "java/util/AbstractList" "modCount" "I" (.int (0 : Int32))) :
    Con l (⟨"java/util/ArrayList", "add", "(Ljava/lang/Object;)Z"⟩ : MethodName) jdk_38_method_25_code 2 (some .boolean) ({ frames := 4, cells := 1, slots := 10, locals := 56 } : Room) Z n0 #[(.ref a), (.ref e)] h (fun v h' => ∃ b : Addr, ∃ kb : ClassId, v = some (.int (1 : Int32)) ∧ Keep h h' [a] ∧ n0 ≤ b ∧ h.size ≤ b ∧ Fld Z h' a "java/util/ArrayList" "elementData" "[Ljava/lang/Object;" (.ref b) ∧ Fld Z h' a "java/util/ArrayList" "size" "I" (.int (1 : Int32)) ∧ Fld Z h' a "java/util/AbstractList" "modCount" "I" (.int (1 : Int32)) ∧ Arv Z h' b kb (.object "java/lang/Object") (10 : Int32) [(.ref e), .null, .null, .null, .null, .null, .null, .null, .null, .null] .null ∧ Exa Z h' b "[Ljava/lang/Object;" ∧ Ovr Z kb "java/lang/Object") := by
  refine Con.of_go (plainFor_of_name pn_2) (Ls := #[.val (.ref a), .val (.ref e)]) (fun m => by first | (simp [entryFrame, mkF, argsToLocals, Value.category]; done) | rfl) ?_
  refine Go.aloadN (pc' := 1) d10_0 rfl rfl rfl ?_
  refine Go.dup (pc' := 2) d10_1 rfl rfl ?_
  refine Go.getfield (pc' := 5) (host := "") (Or.inl (ww hw 59 rfl)) (Via.of (ww hw 60 rfl)) pf2 d10_2 rfl ?_
  refine Go.iconst (pc' := 6) (v := (1 : Int32)) d10_5 rfl rfl ?_
  refine Go.iadd (pc' := 7) d10_6 rfl ?_
  show Go _ _ _ _ _ _ _ _ _ _ _ _ 7 #[.val (.ref a), .val (.ref e)] [(.int (1 : Int32)), (.ref a)]
  refine Go.putfield (pc' := 10) (host := "") (Or.inl (ww hw 59 rfl)) (Via.of (ww hw 60 rfl)) pf2 xa (Or.inl (ww hw 50 rfl)) (ww hw 31 rfl) (ty := .int) (by decide) rfl rfl ge_a d10_7 rfl ?_
  intro h1 W2
  have K3 : Keep h h1 [a] := (Keep.refl h [a]).wr W2 (Or.inl (List.mem_of_getElem? (i := 0) rfl))
  have f4 := pf2.same W2
  refine Go.aloadN (pc' := 11) d10_10 rfl rfl rfl ?_
  refine Go.aloadN (pc' := 12) d10_11 rfl rfl rfl ?_
  refine Go.aloadN (pc' := 13) d10_12 rfl rfl rfl ?_
  have f5 : Fld Z h1 a "java/util/ArrayList" "elementData" "[Ljava/lang/Object;" (.ref wd) := (pf0.other W2 (Or.inr (slot_ne (Or.inl (ww hw 53 rfl)) (Or.inl (ww hw 50 rfl)) (by decide) (t := (.array (.object "java/lang/Object"))) (t' := .int) (by decide) (by decide))))
  refine Go.getfield (pc' := 16) (host := "") (Or.inl (ww hw 52 rfl)) Via.refl f5 d10_13 rfl ?_
  refine Go.aloadN (pc' := 17) d10_16 rfl rfl rfl ?_
  have f6 : Fld Z h1 a "java/util/ArrayList" "size" "I" (.int (0 : Int32)) := (pf1.other W2 (Or.inr (slot_ne (Or.inl (ww hw 62 rfl)) (Or.inl (ww hw 50 rfl)) (by decide) (t := .int) (t' := .int) (by decide) (by decide))))
  refine Go.getfield (pc' := 20) (host := "") (Or.inl (ww hw 61 rfl)) Via.refl f6 d10_17 rfl ?_
  refine Go.callP (cells' := 1) (slots' := 10) (pc' := 23) [(.ref e), (.ref wd), (.int (0 : Int32))] [] (xa.wr W2) (ww hw 63 rfl) (ww hw 64 rfl) (ww hw 66 rfl) (ww hw 65 rfl) (ww hw 32 rfl) (ww hw 67 rfl) (by decide) (c_addP0 l Z a0 hw h1 a e wd kd vsd sd vd xd ge_a (xa.wr W2) (xe.wr W2) f5 f6 f4) pd_4 rfl rfl rfl rfl rfl (nl rfl) (nl rfl) (nl rfl) (nl rfl) d10_20 rfl ?_
  rintro _ h7 ⟨b_7, kb_7, rfl, K7, ge_b_7, sz_b_7, F7_0, F7_1, F7_2, F7_3, F7_4, F7_5⟩
  have sz8 : h.size ≤ b_7 := Nat.le_trans K3.1 sz_b_7
  have K9 : Keep h h7 [a] := K3.trans K7 (allS (Or.inl (List.mem_of_getElem? (i := 0) rfl)) all0)
  show Go _ _ _ _ _ _ _ _ _ _ _ _ 23 #[.val (.ref a), .val (.ref e)] []
  refine Go.iconst (pc' := 24) (v := (1 : Int32)) d10_23 rfl rfl ?_
  exact Go.retN (t := .boolean) rfl (by simp) d10_24 ⟨b_7, kb_7, rfl, K9, ge_b_7, sz8, F7_0, F7_1, F7_2, F7_3, F7_4, F7_5⟩ (by decide) (by decide)
set_option maxRecDepth 65536 in
set_option maxHeartbeats 4000000 in
theorem c_addP1 (l : Launch) (Z : State) (a0 : Array Value) (hw : ∀ d ∈ tables_1, d.before a0 Z = true) {n0 : Nat} (h : Heap) (a : Addr) (e : Addr) (b : Addr) (kb : ClassId) (e0 : Addr) (ge_a : n0 ≤ a) (ge_b : n0 ≤ b) (ne_a_b : a ≠ b) (xa : Exa Z h a "java/util/ArrayList") (xe : Exa Z h e "java/lang/String") (pf0 : Fld Z h a "java/util/ArrayList" "elementData" "[Ljava/lang/Object;" (.ref b)) (pf1 : Fld Z h a "java/util/ArrayList" "size" "I" (.int (1 : Int32))) (pf2 : Fld Z h a "java/util/AbstractList" "modCount" "I" (.int (2 : Int32))) (vb : Arv Z h b kb (.object "java/lang/Object") (10 : Int32) [(.ref e0), .null, .null, .null, .null, .null, .null, .null, .null, .null] .null) (xb : Exa Z h b "[Ljava/lang/Object;") (ob : Ovr Z kb "java/lang/Object") :
    Con l (⟨"java/util/ArrayList", "add", "(Ljava/lang/Object;[Ljava/lang/Object;I)V"⟩ : MethodName) jdk_38_method_24_code 4 none ({ frames := 0, cells := 0, slots := 0, locals := 0 } : Room) Z n0 #[(.ref a), (.ref e), (.ref b), (.int (1 : Int32))] h (fun v h' => v = none ∧ Keep h h' [a, b] ∧ Fld Z h' a "java/util/ArrayList" "elementData" "[Ljava/lang/Object;" (.ref b) ∧ Fld Z h' a "java/util/ArrayList" "size" "I" (.int (2 : Int32)) ∧ Fld Z h' a "java/util/AbstractList" "modCount" "I" (.int (2 : Int32)) ∧ Arv Z h' b kb (.object "java/lang/Object") (10 : Int32) [(.ref e0), (.ref e), .null, .null, .null, .null, .null, .null, .null, .null] .null) := by
  refine Con.of_go (plainFor_of_name pn_2) (Ls := #[.val (.ref a), .val (.ref e), .val (.ref b), .val (.int (1 : Int32))]) (fun m => by first | (simp [entryFrame, mkF, argsToLocals, Value.category]; done) | rfl) ?_
  refine Go.iloadN (pc' := 1) d11_0 rfl rfl ?_
  refine Go.aloadN (pc' := 2) d11_1 rfl rfl rfl ?_
  refine Go.arraylength (pc' := 3) vb d11_2 rfl ?_
  refine Go.icmpYes (pc' := 11) d11_3 (XT.ii_ne_t (by decide)) (by decide) (by decide) ?_
  refine Go.aloadN (pc' := 12) d11_11 rfl rfl rfl ?_
  refine Go.iloadN (pc' := 13) d11_12 rfl rfl ?_
  refine Go.aloadN (pc' := 14) d11_13 rfl rfl rfl ?_
  refine Go.aastore (pc' := 15) vb ge_b rfl rfl (own_sto vb ob (Ins.of_exa xe (ww hw 84 rfl))) d11_14 (by decide) (by decide) (i := 1) rfl (nl rfl) rfl ?_
  intro h1 W2 V3
  have K4 : Keep h h1 [a, b] := (Keep.refl h [a, b]).wr W2 (Or.inl (List.mem_of_getElem? (i := 1) rfl))
  replace V3 : Arv Z h1 b kb (.object "java/lang/Object") (10 : Int32) [(.ref e0), (.ref e), .null, .null, .null, .null, .null, .null, .null, .null] .null := V3
  refine Go.aloadN (pc' := 16) d11_15 rfl rfl rfl ?_
  refine Go.iloadN (pc' := 17) d11_16 rfl rfl ?_
  refine Go.iconst (pc' := 18) (v := (1 : Int32)) d11_17 rfl rfl ?_
  refine Go.iadd (pc' := 19) d11_18 rfl ?_
  show Go _ _ _ _ _ _ _ _ _ _ _ _ 19 #[.val (.ref a), .val (.ref e), .val (.ref b), .val (.int (1 : Int32))] [(.int (2 : Int32)), (.ref a)]
  refine Go.putfield (pc' := 22) (host := "") (Or.inl (ww hw 61 rfl)) Via.refl (pf1.other W2 (Or.inl ne_a_b)) (xa.wr W2) (Or.inl (ww hw 62 rfl)) (ww hw 31 rfl) (ty := .int) (by decide) rfl rfl ge_a d11_19 rfl ?_
  intro h5 W6
  have K7 : Keep h h5 [a, b] := K4.wr W6 (Or.inl (List.mem_of_getElem? (i := 0) rfl))
  have f8 := (pf1.other W2 (Or.inl ne_a_b)).same W6
  have f9 : Fld Z h5 a "java/util/ArrayList" "elementData" "[Ljava/lang/Object;" (.ref b) := ((pf0.other W2 (Or.inl ne_a_b)).other W6 (Or.inr (slot_ne (Or.inl (ww hw 53 rfl)) (Or.inl (ww hw 62 rfl)) (by decide) (t := (.array (.object "java/lang/Object"))) (t' := .int) (by decide) (by decide))))
  have f10 : Fld Z h5 a "java/util/AbstractList" "modCount" "I" (.int (2 : Int32)) := ((pf2.other W2 (Or.inl ne_a_b)).other W6 (Or.inr (slot_ne (Or.inl (ww hw 50 rfl)) (Or.inl (ww hw 62 rfl)) (by decide) (t := .int) (t' := .int) (by decide) (by decide))))
  exact Go.retV rfl d11_22 ⟨rfl, K7, f9, f8, f10, (V3.other W6 (Ne.symm ne_a_b))⟩ (by decide) (by decide)
set_option maxRecDepth 65536 in
set_option maxHeartbeats 4000000 in
theorem c_add1 (l : Launch) (Z : State) (a0 : Array Value) (hw : ∀ d ∈ tables_1, d.before a0 Z = true) {n0 : Nat} (h : Heap) (a : Addr) (e : Addr) (b : Addr) (kb : ClassId) (e0 : Addr) (ge_a : n0 ≤ a) (ge_b : n0 ≤ b) (ne_a_b : a ≠ b) (xa : Exa Z h a "java/util/ArrayList") (xe : Exa Z h e "java/lang/String") (pf0 : Fld Z h a "java/util/ArrayList" "elementData" "[Ljava/lang/Object;" (.ref b)) (pf1 : Fld Z h a "java/util/ArrayList" "size" "I" (.int (1 : Int32))) (pf2 : Fld Z h a "java/util/AbstractList" "modCount" "I" (.int (1 : Int32))) (vb : Arv Z h b kb (.object "java/lang/Object") (10 : Int32) [(.ref e0), .null, .null, .null, .null, .null, .null, .null, .null, .null] .null) (xb : Exa Z h b "[Ljava/lang/Object;") (ob : Ovr Z kb "java/lang/Object") :
    Con l (⟨"java/util/ArrayList", "add", "(Ljava/lang/Object;)Z"⟩ : MethodName) jdk_38_method_25_code 2 (some .boolean) ({ frames := 4, cells := 1, slots := 10, locals := 56 } : Room) Z n0 #[(.ref a), (.ref e)] h (fun v h' => v = some (.int (1 : Int32)) ∧ Keep h h' [a, b] ∧ Fld Z h' a "java/util/ArrayList" "elementData" "[Ljava/lang/Object;" (.ref b) ∧ Fld Z h' a "java/util/ArrayList" "size" "I" (.int (2 : Int32)) ∧ Fld Z h' a "java/util/AbstractList" "modCount" "I" (.int (2 : Int32)) ∧ Arv Z h' b kb (.object "java/lang/Object") (10 : Int32) [(.ref e0), (.ref e), .null, .null, .null, .null, .null, .null, .null, .null] .null) := by
  refine Con.of_go (plainFor_of_name pn_2) (Ls := #[.val (.ref a), .val (.ref e)]) (fun m => by first | (simp [entryFrame, mkF, argsToLocals, Value.category]; done) | rfl) ?_
  refine Go.aloadN (pc' := 1) d10_0 rfl rfl rfl ?_
  refine Go.dup (pc' := 2) d10_1 rfl rfl ?_
  refine Go.getfield (pc' := 5) (host := "") (Or.inl (ww hw 59 rfl)) (Via.of (ww hw 60 rfl)) pf2 d10_2 rfl ?_
  refine Go.iconst (pc' := 6) (v := (1 : Int32)) d10_5 rfl rfl ?_
  refine Go.iadd (pc' := 7) d10_6 rfl ?_
  show Go _ _ _ _ _ _ _ _ _ _ _ _ 7 #[.val (.ref a), .val (.ref e)] [(.int (2 : Int32)), (.ref a)]
  refine Go.putfield (pc' := 10) (host := "") (Or.inl (ww hw 59 rfl)) (Via.of (ww hw 60 rfl)) pf2 xa (Or.inl (ww hw 50 rfl)) (ww hw 31 rfl) (ty := .int) (by decide) rfl rfl ge_a d10_7 rfl ?_
  intro h1 W2
  have K3 : Keep h h1 [a, b] := (Keep.refl h [a, b]).wr W2 (Or.inl (List.mem_of_getElem? (i := 0) rfl))
  have f4 := pf2.same W2
  refine Go.aloadN (pc' := 11) d10_10 rfl rfl rfl ?_
  refine Go.aloadN (pc' := 12) d10_11 rfl rfl rfl ?_
  refine Go.aloadN (pc' := 13) d10_12 rfl rfl rfl ?_
  have f5 : Fld Z h1 a "java/util/ArrayList" "elementData" "[Ljava/lang/Object;" (.ref b) := (pf0.other W2 (Or.inr (slot_ne (Or.inl (ww hw 53 rfl)) (Or.inl (ww hw 50 rfl)) (by decide) (t := (.array (.object "java/lang/Object"))) (t' := .int) (by decide) (by decide))))
  refine Go.getfield (pc' := 16) (host := "") (Or.inl (ww hw 52 rfl)) Via.refl f5 d10_13 rfl ?_
  refine Go.aloadN (pc' := 17) d10_16 rfl rfl rfl ?_
  have f6 : Fld Z h1 a "java/util/ArrayList" "size" "I" (.int (1 : Int32)) := (pf1.other W2 (Or.inr (slot_ne (Or.inl (ww hw 62 rfl)) (Or.inl (ww hw 50 rfl)) (by decide) (t := .int) (t' := .int) (by decide) (by decide))))
  refine Go.getfield (pc' := 20) (host := "") (Or.inl (ww hw 61 rfl)) Via.refl f6 d10_17 rfl ?_
  refine Go.callP (cells' := 0) (slots' := 0) (pc' := 23) [(.ref e), (.ref b), (.int (1 : Int32))] [] (xa.wr W2) (ww hw 63 rfl) (ww hw 64 rfl) (ww hw 66 rfl) (ww hw 65 rfl) (ww hw 32 rfl) (ww hw 67 rfl) (by decide) (c_addP1 l Z a0 hw h1 a e b kb e0 ge_a ge_b ne_a_b (xa.wr W2) (xe.wr W2) f5 f6 f4 ((vb.other W2 (Ne.symm ne_a_b))) (xb.wr W2) ob) pd_4 rfl rfl rfl rfl rfl (nl rfl) (nl rfl) (nl rfl) (nl rfl) d10_20 rfl ?_
  rintro _ h7 ⟨rfl, K7, F7_0, F7_1, F7_2, F7_3⟩
  have K8 : Keep h h7 [a, b] := K3.trans K7 (allS (Or.inl (List.mem_of_getElem? (i := 0) rfl)) (allS (Or.inl (List.mem_of_getElem? (i := 1) rfl)) all0))
  show Go _ _ _ _ _ _ _ _ _ _ _ _ 23 #[.val (.ref a), .val (.ref e)] []
  refine Go.iconst (pc' := 24) (v := (1 : Int32)) d10_23 rfl rfl ?_
  exact Go.retN (t := .boolean) rfl (by simp) d10_24 ⟨rfl, K8, F7_0, F7_1, F7_2, F7_3⟩ (by decide) (by decide)
set_option maxRecDepth 65536 in
set_option maxHeartbeats 4000000 in
theorem c_addP2 (l : Launch) (Z : State) (a0 : Array Value) (hw : ∀ d ∈ tables_1, d.before a0 Z = true) {n0 : Nat} (h : Heap) (a : Addr) (e : Addr) (b : Addr) (kb : ClassId) (e0 : Addr) (e1 : Addr) (ge_a : n0 ≤ a) (ge_b : n0 ≤ b) (ne_a_b : a ≠ b) (xa : Exa Z h a "java/util/ArrayList") (xe : Exa Z h e "java/lang/String") (pf0 : Fld Z h a "java/util/ArrayList" "elementData" "[Ljava/lang/Object;" (.ref b)) (pf1 : Fld Z h a "java/util/ArrayList" "size" "I" (.int (2 : Int32))) (pf2 : Fld Z h a "java/util/AbstractList" "modCount" "I" (.int (3 : Int32))) (vb : Arv Z h b kb (.object "java/lang/Object") (10 : Int32) [(.ref e0), (.ref e1), .null, .null, .null, .null, .null, .null, .null, .null] .null) (xb : Exa Z h b "[Ljava/lang/Object;") (ob : Ovr Z kb "java/lang/Object") :
    Con l (⟨"java/util/ArrayList", "add", "(Ljava/lang/Object;[Ljava/lang/Object;I)V"⟩ : MethodName) jdk_38_method_24_code 4 none ({ frames := 0, cells := 0, slots := 0, locals := 0 } : Room) Z n0 #[(.ref a), (.ref e), (.ref b), (.int (2 : Int32))] h (fun v h' => v = none ∧ Keep h h' [a, b] ∧ Fld Z h' a "java/util/ArrayList" "elementData" "[Ljava/lang/Object;" (.ref b) ∧ Fld Z h' a "java/util/ArrayList" "size" "I" (.int (3 : Int32)) ∧ Fld Z h' a "java/util/AbstractList" "modCount" "I" (.int (3 : Int32)) ∧ Arv Z h' b kb (.object "java/lang/Object") (10 : Int32) [(.ref e0), (.ref e1), (.ref e), .null, .null, .null, .null, .null, .null, .null] .null) := by
  refine Con.of_go (plainFor_of_name pn_2) (Ls := #[.val (.ref a), .val (.ref e), .val (.ref b), .val (.int (2 : Int32))]) (fun m => by first | (simp [entryFrame, mkF, argsToLocals, Value.category]; done) | rfl) ?_
  refine Go.iloadN (pc' := 1) d11_0 rfl rfl ?_
  refine Go.aloadN (pc' := 2) d11_1 rfl rfl rfl ?_
  refine Go.arraylength (pc' := 3) vb d11_2 rfl ?_
  refine Go.icmpYes (pc' := 11) d11_3 (XT.ii_ne_t (by decide)) (by decide) (by decide) ?_
  refine Go.aloadN (pc' := 12) d11_11 rfl rfl rfl ?_
  refine Go.iloadN (pc' := 13) d11_12 rfl rfl ?_
  refine Go.aloadN (pc' := 14) d11_13 rfl rfl rfl ?_
  refine Go.aastore (pc' := 15) vb ge_b rfl rfl (own_sto vb ob (Ins.of_exa xe (ww hw 84 rfl))) d11_14 (by decide) (by decide) (i := 2) rfl (nl rfl) rfl ?_
  intro h1 W2 V3
  have K4 : Keep h h1 [a, b] := (Keep.refl h [a, b]).wr W2 (Or.inl (List.mem_of_getElem? (i := 1) rfl))
  replace V3 : Arv Z h1 b kb (.object "java/lang/Object") (10 : Int32) [(.ref e0), (.ref e1), (.ref e), .null, .null, .null, .null, .null, .null, .null] .null := V3
  refine Go.aloadN (pc' := 16) d11_15 rfl rfl rfl ?_
  refine Go.iloadN (pc' := 17) d11_16 rfl rfl ?_
  refine Go.iconst (pc' := 18) (v := (1 : Int32)) d11_17 rfl rfl ?_
  refine Go.iadd (pc' := 19) d11_18 rfl ?_
  show Go _ _ _ _ _ _ _ _ _ _ _ _ 19 #[.val (.ref a), .val (.ref e), .val (.ref b), .val (.int (2 : Int32))] [(.int (3 : Int32)), (.ref a)]
  refine Go.putfield (pc' := 22) (host := "") (Or.inl (ww hw 61 rfl)) Via.refl (pf1.other W2 (Or.inl ne_a_b)) (xa.wr W2) (Or.inl (ww hw 62 rfl)) (ww hw 31 rfl) (ty := .int) (by decide) rfl rfl ge_a d11_19 rfl ?_
  intro h5 W6
  have K7 : Keep h h5 [a, b] := K4.wr W6 (Or.inl (List.mem_of_getElem? (i := 0) rfl))
  have f8 := (pf1.other W2 (Or.inl ne_a_b)).same W6
  have f9 : Fld Z h5 a "java/util/ArrayList" "elementData" "[Ljava/lang/Object;" (.ref b) := ((pf0.other W2 (Or.inl ne_a_b)).other W6 (Or.inr (slot_ne (Or.inl (ww hw 53 rfl)) (Or.inl (ww hw 62 rfl)) (by decide) (t := (.array (.object "java/lang/Object"))) (t' := .int) (by decide) (by decide))))
  have f10 : Fld Z h5 a "java/util/AbstractList" "modCount" "I" (.int (3 : Int32)) := ((pf2.other W2 (Or.inl ne_a_b)).other W6 (Or.inr (slot_ne (Or.inl (ww hw 50 rfl)) (Or.inl (ww hw 62 rfl)) (by decide) (t := .int) (t' := .int) (by decide) (by decide))))
  exact Go.retV rfl d11_22 ⟨rfl, K7, f9, f8, f10, (V3.other W6 (Ne.symm ne_a_b))⟩ (by decide) (by decide)
set_option maxRecDepth 65536 in
set_option maxHeartbeats 4000000 in
theorem c_add2 (l : Launch) (Z : State) (a0 : Array Value) (hw : ∀ d ∈ tables_1, d.before a0 Z = true) {n0 : Nat} (h : Heap) (a : Addr) (e : Addr) (b : Addr) (kb : ClassId) (e0 : Addr) (e1 : Addr) (ge_a : n0 ≤ a) (ge_b : n0 ≤ b) (ne_a_b : a ≠ b) (xa : Exa Z h a "java/util/ArrayList") (xe : Exa Z h e "java/lang/String") (pf0 : Fld Z h a "java/util/ArrayList" "elementData" "[Ljava/lang/Object;" (.ref b)) (pf1 : Fld Z h a "java/util/ArrayList" "size" "I" (.int (2 : Int32))) (pf2 : Fld Z h a "java/util/AbstractList" "modCount" "I" (.int (2 : Int32))) (vb : Arv Z h b kb (.object "java/lang/Object") (10 : Int32) [(.ref e0), (.ref e1), .null, .null, .null, .null, .null, .null, .null, .null] .null) (xb : Exa Z h b "[Ljava/lang/Object;") (ob : Ovr Z kb "java/lang/Object") :
    Con l (⟨"java/util/ArrayList", "add", "(Ljava/lang/Object;)Z"⟩ : MethodName) jdk_38_method_25_code 2 (some .boolean) ({ frames := 4, cells := 1, slots := 10, locals := 56 } : Room) Z n0 #[(.ref a), (.ref e)] h (fun v h' => v = some (.int (1 : Int32)) ∧ Keep h h' [a, b] ∧ Fld Z h' a "java/util/ArrayList" "elementData" "[Ljava/lang/Object;" (.ref b) ∧ Fld Z h' a "java/util/ArrayList" "size" "I" (.int (3 : Int32)) ∧ Fld Z h' a "java/util/AbstractList" "modCount" "I" (.int (3 : Int32)) ∧ Arv Z h' b kb (.object "java/lang/Object") (10 : Int32) [(.ref e0), (.ref e1), (.ref e), .null, .null, .null, .null, .null, .null, .null] .null) := by
  refine Con.of_go (plainFor_of_name pn_2) (Ls := #[.val (.ref a), .val (.ref e)]) (fun m => by first | (simp [entryFrame, mkF, argsToLocals, Value.category]; done) | rfl) ?_
  refine Go.aloadN (pc' := 1) d10_0 rfl rfl rfl ?_
  refine Go.dup (pc' := 2) d10_1 rfl rfl ?_
  refine Go.getfield (pc' := 5) (host := "") (Or.inl (ww hw 59 rfl)) (Via.of (ww hw 60 rfl)) pf2 d10_2 rfl ?_
  refine Go.iconst (pc' := 6) (v := (1 : Int32)) d10_5 rfl rfl ?_
  refine Go.iadd (pc' := 7) d10_6 rfl ?_
  show Go _ _ _ _ _ _ _ _ _ _ _ _ 7 #[.val (.ref a), .val (.ref e)] [(.int (3 : Int32)), (.ref a)]
  refine Go.putfield (pc' := 10) (host := "") (Or.inl (ww hw 59 rfl)) (Via.of (ww hw 60 rfl)) pf2 xa (Or.inl (ww hw 50 rfl)) (ww hw 31 rfl) (ty := .int) (by decide) rfl rfl ge_a d10_7 rfl ?_
  intro h1 W2
  have K3 : Keep h h1 [a, b] := (Keep.refl h [a, b]).wr W2 (Or.inl (List.mem_of_getElem? (i := 0) rfl))
  have f4 := pf2.same W2
  refine Go.aloadN (pc' := 11) d10_10 rfl rfl rfl ?_
  refine Go.aloadN (pc' := 12) d10_11 rfl rfl rfl ?_
  refine Go.aloadN (pc' := 13) d10_12 rfl rfl rfl ?_
  have f5 : Fld Z h1 a "java/util/ArrayList" "elementData" "[Ljava/lang/Object;" (.ref b) := (pf0.other W2 (Or.inr (slot_ne (Or.inl (ww hw 53 rfl)) (Or.inl (ww hw 50 rfl)) (by decide) (t := (.array (.object "java/lang/Object"))) (t' := .int) (by decide) (by decide))))
  refine Go.getfield (pc' := 16) (host := "") (Or.inl (ww hw 52 rfl)) Via.refl f5 d10_13 rfl ?_
  refine Go.aloadN (pc' := 17) d10_16 rfl rfl rfl ?_
  have f6 : Fld Z h1 a "java/util/ArrayList" "size" "I" (.int (2 : Int32)) := (pf1.other W2 (Or.inr (slot_ne (Or.inl (ww hw 62 rfl)) (Or.inl (ww hw 50 rfl)) (by decide) (t := .int) (t' := .int) (by decide) (by decide))))
  refine Go.getfield (pc' := 20) (host := "") (Or.inl (ww hw 61 rfl)) Via.refl f6 d10_17 rfl ?_
  refine Go.callP (cells' := 0) (slots' := 0) (pc' := 23) [(.ref e), (.ref b), (.int (2 : Int32))] [] (xa.wr W2) (ww hw 63 rfl) (ww hw 64 rfl) (ww hw 66 rfl) (ww hw 65 rfl) (ww hw 32 rfl) (ww hw 67 rfl) (by decide) (c_addP2 l Z a0 hw h1 a e b kb e0 e1 ge_a ge_b ne_a_b (xa.wr W2) (xe.wr W2) f5 f6 f4 ((vb.other W2 (Ne.symm ne_a_b))) (xb.wr W2) ob) pd_4 rfl rfl rfl rfl rfl (nl rfl) (nl rfl) (nl rfl) (nl rfl) d10_20 rfl ?_
  rintro _ h7 ⟨rfl, K7, F7_0, F7_1, F7_2, F7_3⟩
  have K8 : Keep h h7 [a, b] := K3.trans K7 (allS (Or.inl (List.mem_of_getElem? (i := 0) rfl)) (allS (Or.inl (List.mem_of_getElem? (i := 1) rfl)) all0))
  show Go _ _ _ _ _ _ _ _ _ _ _ _ 23 #[.val (.ref a), .val (.ref e)] []
  refine Go.iconst (pc' := 24) (v := (1 : Int32)) d10_23 rfl rfl ?_
  exact Go.retN (t := .boolean) rfl (by simp) d10_24 ⟨rfl, K8, F7_0, F7_1, F7_2, F7_3⟩ (by decide) (by decide)
set_option maxRecDepth 65536 in
set_option maxHeartbeats 4000000 in
theorem c_addP3 (l : Launch) (Z : State) (a0 : Array Value) (hw : ∀ d ∈ tables_1, d.before a0 Z = true) {n0 : Nat} (h : Heap) (a : Addr) (e : Addr) (b : Addr) (kb : ClassId) (e0 : Addr) (e1 : Addr) (e2 : Addr) (ge_a : n0 ≤ a) (ge_b : n0 ≤ b) (ne_a_b : a ≠ b) (xa : Exa Z h a "java/util/ArrayList") (xe : Exa Z h e "java/lang/String") (pf0 : Fld Z h a "java/util/ArrayList" "elementData" "[Ljava/lang/Object;" (.ref b)) (pf1 : Fld Z h a "java/util/ArrayList" "size" "I" (.int (3 : Int32))) (pf2 : Fld Z h a "java/util/AbstractList" "modCount" "I" (.int (4 : Int32))) (vb : Arv Z h b kb (.object "java/lang/Object") (10 : Int32) [(.ref e0), (.ref e1), (.ref e2), .null, .null, .null, .null, .null, .null, .null] .null) (xb : Exa Z h b "[Ljava/lang/Object;") (ob : Ovr Z kb "java/lang/Object") :
    Con l (⟨"java/util/ArrayList", "add", "(Ljava/lang/Object;[Ljava/lang/Object;I)V"⟩ : MethodName) jdk_38_method_24_code 4 none ({ frames := 0, cells := 0, slots := 0, locals := 0 } : Room) Z n0 #[(.ref a), (.ref e), (.ref b), (.int (3 : Int32))] h (fun v h' => v = none ∧ Keep h h' [a, b] ∧ Fld Z h' a "java/util/ArrayList" "elementData" "[Ljava/lang/Object;" (.ref b) ∧ Fld Z h' a "java/util/ArrayList" "size" "I" (.int (4 : Int32)) ∧ Fld Z h' a "java/util/AbstractList" "modCount" "I" (.int (4 : Int32)) ∧ Arv Z h' b kb (.object "java/lang/Object") (10 : Int32) [(.ref e0), (.ref e1), (.ref e2), (.ref e), .null, .null, .null, .null, .null, .null] .null) := by
  refine Con.of_go (plainFor_of_name pn_2) (Ls := #[.val (.ref a), .val (.ref e), .val (.ref b), .val (.int (3 : Int32))]) (fun m => by first | (simp [entryFrame, mkF, argsToLocals, Value.category]; done) | rfl) ?_
  refine Go.iloadN (pc' := 1) d11_0 rfl rfl ?_
  refine Go.aloadN (pc' := 2) d11_1 rfl rfl rfl ?_
  refine Go.arraylength (pc' := 3) vb d11_2 rfl ?_
  refine Go.icmpYes (pc' := 11) d11_3 (XT.ii_ne_t (by decide)) (by decide) (by decide) ?_
  refine Go.aloadN (pc' := 12) d11_11 rfl rfl rfl ?_
  refine Go.iloadN (pc' := 13) d11_12 rfl rfl ?_
  refine Go.aloadN (pc' := 14) d11_13 rfl rfl rfl ?_
  refine Go.aastore (pc' := 15) vb ge_b rfl rfl (own_sto vb ob (Ins.of_exa xe (ww hw 84 rfl))) d11_14 (by decide) (by decide) (i := 3) rfl (nl rfl) rfl ?_
  intro h1 W2 V3
  have K4 : Keep h h1 [a, b] := (Keep.refl h [a, b]).wr W2 (Or.inl (List.mem_of_getElem? (i := 1) rfl))
  replace V3 : Arv Z h1 b kb (.object "java/lang/Object") (10 : Int32) [(.ref e0), (.ref e1), (.ref e2), (.ref e), .null, .null, .null, .null, .null, .null] .null := V3
  refine Go.aloadN (pc' := 16) d11_15 rfl rfl rfl ?_
  refine Go.iloadN (pc' := 17) d11_16 rfl rfl ?_
  refine Go.iconst (pc' := 18) (v := (1 : Int32)) d11_17 rfl rfl ?_
  refine Go.iadd (pc' := 19) d11_18 rfl ?_
  show Go _ _ _ _ _ _ _ _ _ _ _ _ 19 #[.val (.ref a), .val (.ref e), .val (.ref b), .val (.int (3 : Int32))] [(.int (4 : Int32)), (.ref a)]
  refine Go.putfield (pc' := 22) (host := "") (Or.inl (ww hw 61 rfl)) Via.refl (pf1.other W2 (Or.inl ne_a_b)) (xa.wr W2) (Or.inl (ww hw 62 rfl)) (ww hw 31 rfl) (ty := .int) (by decide) rfl rfl ge_a d11_19 rfl ?_
  intro h5 W6
  have K7 : Keep h h5 [a, b] := K4.wr W6 (Or.inl (List.mem_of_getElem? (i := 0) rfl))
  have f8 := (pf1.other W2 (Or.inl ne_a_b)).same W6
  have f9 : Fld Z h5 a "java/util/ArrayList" "elementData" "[Ljava/lang/Object;" (.ref b) := ((pf0.other W2 (Or.inl ne_a_b)).other W6 (Or.inr (slot_ne (Or.inl (ww hw 53 rfl)) (Or.inl (ww hw 62 rfl)) (by decide) (t := (.array (.object "java/lang/Object"))) (t' := .int) (by decide) (by decide))))
  have f10 : Fld Z h5 a "java/util/AbstractList" "modCount" "I" (.int (4 : Int32)) := ((pf2.other W2 (Or.inl ne_a_b)).other W6 (Or.inr (slot_ne (Or.inl (ww hw 50 rfl)) (Or.inl (ww hw 62 rfl)) (by decide) (t := .int) (t' := .int) (by decide) (by decide))))
  exact Go.retV rfl d11_22 ⟨rfl, K7, f9, f8, f10, (V3.other W6 (Ne.symm ne_a_b))⟩ (by decide) (by decide)
set_option maxRecDepth 65536 in
set_option maxHeartbeats 4000000 in
theorem c_add3 (l : Launch) (Z : State) (a0 : Array Value) (hw : ∀ d ∈ tables_1, d.before a0 Z = true) {n0 : Nat} (h : Heap) (a : Addr) (e : Addr) (b : Addr) (kb : ClassId) (e0 : Addr) (e1 : Addr) (e2 : Addr) (ge_a : n0 ≤ a) (ge_b : n0 ≤ b) (ne_a_b : a ≠ b) (xa : Exa Z h a "java/util/ArrayList") (xe : Exa Z h e "java/lang/String") (pf0 : Fld Z h a "java/util/ArrayList" "elementData" "[Ljava/lang/Object;" (.ref b)) (pf1 : Fld Z h a "java/util/ArrayList" "size" "I" (.int (3 : Int32))) (pf2 : Fld Z h a "java/util/AbstractList" "modCount" "I" (.int (3 : Int32))) (vb : Arv Z h b kb (.object "java/lang/Object") (10 : Int32) [(.ref e0), (.ref e1), (.ref e2), .null, .null, .null, .null, .null, .null, .null] .null) (xb : Exa Z h b "[Ljava/lang/Object;") (ob : Ovr Z kb "java/lang/Object") :
    Con l (⟨"java/util/ArrayList", "add", "(Ljava/lang/Object;)Z"⟩ : MethodName) jdk_38_method_25_code 2 (some .boolean) ({ frames := 4, cells := 1, slots := 10, locals := 56 } : Room) Z n0 #[(.ref a), (.ref e)] h (fun v h' => v = some (.int (1 : Int32)) ∧ Keep h h' [a, b] ∧ Fld Z h' a "java/util/ArrayList" "elementData" "[Ljava/lang/Object;" (.ref b) ∧ Fld Z h' a "java/util/ArrayList" "size" "I" (.int (4 : Int32)) ∧ Fld Z h' a "java/util/AbstractList" "modCount" "I" (.int (4 : Int32)) ∧ Arv Z h' b kb (.object "java/lang/Object") (10 : Int32) [(.ref e0), (.ref e1), (.ref e2), (.ref e), .null, .null, .null, .null, .null, .null] .null) := by
  refine Con.of_go (plainFor_of_name pn_2) (Ls := #[.val (.ref a), .val (.ref e)]) (fun m => by first | (simp [entryFrame, mkF, argsToLocals, Value.category]; done) | rfl) ?_
  refine Go.aloadN (pc' := 1) d10_0 rfl rfl rfl ?_
  refine Go.dup (pc' := 2) d10_1 rfl rfl ?_
  refine Go.getfield (pc' := 5) (host := "") (Or.inl (ww hw 59 rfl)) (Via.of (ww hw 60 rfl)) pf2 d10_2 rfl ?_
  refine Go.iconst (pc' := 6) (v := (1 : Int32)) d10_5 rfl rfl ?_
  refine Go.iadd (pc' := 7) d10_6 rfl ?_
  show Go _ _ _ _ _ _ _ _ _ _ _ _ 7 #[.val (.ref a), .val (.ref e)] [(.int (4 : Int32)), (.ref a)]
  refine Go.putfield (pc' := 10) (host := "") (Or.inl (ww hw 59 rfl)) (Via.of (ww hw 60 rfl)) pf2 xa (Or.inl (ww hw 50 rfl)) (ww hw 31 rfl) (ty := .int) (by decide) rfl rfl ge_a d10_7 rfl ?_
  intro h1 W2
  have K3 : Keep h h1 [a, b] := (Keep.refl h [a, b]).wr W2 (Or.inl (List.mem_of_getElem? (i := 0) rfl))
  have f4 := pf2.same W2
  refine Go.aloadN (pc' := 11) d10_10 rfl rfl rfl ?_
  refine Go.aloadN (pc' := 12) d10_11 rfl rfl rfl ?_
  refine Go.aloadN (pc' := 13) d10_12 rfl rfl rfl ?_
  have f5 : Fld Z h1 a "java/util/ArrayList" "elementData" "[Ljava/lang/Object;" (.ref b) := (pf0.other W2 (Or.inr (slot_ne (Or.inl (ww hw 53 rfl)) (Or.inl (ww hw 50 rfl)) (by decide) (t := (.array (.object "java/lang/Object"))) (t' := .int) (by decide) (by decide))))
  refine Go.getfield (pc' := 16) (host := "") (Or.inl (ww hw 52 rfl)) Via.refl f5 d10_13 rfl ?_
  refine Go.aloadN (pc' := 17) d10_16 rfl rfl rfl ?_
  have f6 : Fld Z h1 a "java/util/ArrayList" "size" "I" (.int (3 : Int32)) := (pf1.other W2 (Or.inr (slot_ne (Or.inl (ww hw 62 rfl)) (Or.inl (ww hw 50 rfl)) (by decide) (t := .int) (t' := .int) (by decide) (by decide))))
  refine Go.getfield (pc' := 20) (host := "") (Or.inl (ww hw 61 rfl)) Via.refl f6 d10_17 rfl ?_
  refine Go.callP (cells' := 0) (slots' := 0) (pc' := 23) [(.ref e), (.ref b), (.int (3 : Int32))] [] (xa.wr W2) (ww hw 63 rfl) (ww hw 64 rfl) (ww hw 66 rfl) (ww hw 65 rfl) (ww hw 32 rfl) (ww hw 67 rfl) (by decide) (c_addP3 l Z a0 hw h1 a e b kb e0 e1 e2 ge_a ge_b ne_a_b (xa.wr W2) (xe.wr W2) f5 f6 f4 ((vb.other W2 (Ne.symm ne_a_b))) (xb.wr W2) ob) pd_4 rfl rfl rfl rfl rfl (nl rfl) (nl rfl) (nl rfl) (nl rfl) d10_20 rfl ?_
  rintro _ h7 ⟨rfl, K7, F7_0, F7_1, F7_2, F7_3⟩
  have K8 : Keep h h7 [a, b] := K3.trans K7 (allS (Or.inl (List.mem_of_getElem? (i := 0) rfl)) (allS (Or.inl (List.mem_of_getElem? (i := 1) rfl)) all0))
  show Go _ _ _ _ _ _ _ _ _ _ _ _ 23 #[.val (.ref a), .val (.ref e)] []
  refine Go.iconst (pc' := 24) (v := (1 : Int32)) d10_23 rfl rfl ?_
  exact Go.retN (t := .boolean) rfl (by simp) d10_24 ⟨rfl, K8, F7_0, F7_1, F7_2, F7_3⟩ (by decide) (by decide)
theorem d19_0 : decode jdk_38_method_9_code 0 = .ok (.aload_n 0, 1) := by decide +kernel
theorem d19_1 : decode jdk_38_method_9_code 1 = .ok (.getfield 48, 3) := by decide +kernel
theorem d19_4 : decode jdk_38_method_9_code 4 = .ok (.ifCond .ne 7, 3) := by decide +kernel
theorem d19_7 : decode jdk_38_method_9_code 7 = .ok (.iconst 1, 1) := by decide +kernel
theorem d19_8 : decode jdk_38_method_9_code 8 = .ok (.goto 4, 3) := by decide +kernel
theorem d19_12 : decode jdk_38_method_9_code 12 = .ok (.ireturn, 1) := by decide +kernel
set_option maxRecDepth 65536 in
set_option maxHeartbeats 4000000 in
theorem c_alEmpty0 (l : Launch) (Z : State) (a0 : Array Value) (hw : ∀ d ∈ tables_1, d.before a0 Z = true) {n0 : Nat} (h : Heap) (a : Addr) (f : Fld Z h a "java/util/ArrayList" "size" "I" (.int (0 : Int32))) :
    Con l (⟨"java/util/ArrayList", "isEmpty", "()Z"⟩ : MethodName) jdk_38_method_9_code 1 (some .boolean) ({ frames := 0, cells := 0, slots := 0, locals := 0 } : Room) Z n0 #[(.ref a)] h (fun v h' => v = some (.int (1 : Int32)) ∧ h = h') := by
  refine Con.of_go (plainFor_of_name pn_2) (Ls := #[.val (.ref a)]) (fun m => by first | (simp [entryFrame, mkF, argsToLocals, Value.category]; done) | rfl) ?_
  refine Go.aloadN (pc' := 1) d19_0 rfl rfl rfl ?_
  refine Go.getfield (pc' := 4) (host := "") (Or.inl (ww hw 61 rfl)) Via.refl f d19_1 rfl ?_
  refine Go.ifNo (pc' := 7) d19_4 (XT.i0_ne_f (by decide)) rfl ?_
  refine Go.iconst (pc' := 8) (v := (1 : Int32)) d19_7 rfl rfl ?_
  refine Go.goto (pc' := 12) d19_8 (by decide) (by decide) ?_
  exact Go.retN (t := .boolean) rfl (by simp) d19_12 ⟨rfl, rfl⟩ (by decide) (by decide)
theorem d19_11 : decode jdk_38_method_9_code 11 = .ok (.iconst 0, 1) := by decide +kernel
set_option maxRecDepth 65536 in
set_option maxHeartbeats 4000000 in
theorem c_alEmptyN (l : Launch) (Z : State) (a0 : Array Value) (hw : ∀ d ∈ tables_1, d.before a0 Z = true) {n0 : Nat} (h : Heap) (a : Addr) (n : Int32) (hz : ¬ (n = (0 : Int32))) (f : Fld Z h a "java/util/ArrayList" "size" "I" (.int n)) :
    Con l (⟨"java/util/ArrayList", "isEmpty", "()Z"⟩ : MethodName) jdk_38_method_9_code 1 (some .boolean) ({ frames := 0, cells := 0, slots := 0, locals := 0 } : Room) Z n0 #[(.ref a)] h (fun v h' => v = some (.int (0 : Int32)) ∧ h = h') := by
  refine Con.of_go (plainFor_of_name pn_2) (Ls := #[.val (.ref a)]) (fun m => by first | (simp [entryFrame, mkF, argsToLocals, Value.category]; done) | rfl) ?_
  refine Go.aloadN (pc' := 1) d19_0 rfl rfl rfl ?_
  refine Go.getfield (pc' := 4) (host := "") (Or.inl (ww hw 61 rfl)) Via.refl f d19_1 rfl ?_
  refine Go.ifYes (pc' := 11) d19_4 (XT.i0_ne_t hz) (by decide) (by decide) ?_
  refine Go.iconst (pc' := 12) (v := (0 : Int32)) d19_11 rfl rfl ?_
  exact Go.retN (t := .boolean) rfl (by simp) d19_12 ⟨rfl, rfl⟩ (by decide) (by decide)
theorem d27_0 : decode jdk_31_method_10_code 0 = .ok (.aload_n 0, 1) := by decide +kernel
theorem d27_1 : decode jdk_31_method_10_code 1 = .ok (.ifnonnull 11, 3) := by decide +kernel
theorem d27_12 : decode jdk_31_method_10_code 12 = .ok (.aload_n 0, 1) := by decide +kernel
theorem d27_13 : decode jdk_31_method_10_code 13 = .ok (.areturn, 1) := by decide +kernel
theorem pn_3 : plainName "java/util/Objects" = true := by first | (simp [plainName, overriddenIn]; done) | decide +kernel
set_option maxRecDepth 65536 in
set_option maxHeartbeats 4000000 in
theorem c_rnn (l : Launch) (Z : State) (a0 : Array Value) (hw : ∀ d ∈ tables_1, d.before a0 Z = true) {n0 : Nat} (h : Heap) (a : Addr) :
    Con l (⟨"java/util/Objects", "requireNonNull", "(Ljava/lang/Object;)Ljava/lang/Object;"⟩ : MethodName) jdk_31_method_10_code 1 (some (.object "java/lang/Object")) ({ frames := 0, cells := 0, slots := 0, locals := 0 } : Room) Z n0 #[(.ref a)] h (fun v h' => v = some (.ref a) ∧ h = h') := by
  refine Con.of_go (plainFor_of_name pn_3) (Ls := #[.val (.ref a)]) (fun m => by first | (simp [entryFrame, mkF, argsToLocals, Value.category]; done) | rfl) ?_
  refine Go.aloadN (pc' := 1) d27_0 rfl rfl rfl ?_
  refine Go.nonnullYes (pc' := 12) d27_1 rfl nofun (by decide) (by decide) ?_
  refine Go.aloadN (pc' := 13) d27_12 rfl rfl rfl ?_
  exact Go.retR rfl rfl rfl rfl d27_13 ⟨rfl, rfl⟩ (by decide) (by decide)
theorem d30_0 : decode jdk_47_method_1_code 0 = .ok (.aload_n 0, 1) := by decide +kernel
theorem d30_1 : decode jdk_47_method_1_code 1 = .ok (.invokespecial 1, 3) := by decide +kernel
theorem d30_4 : decode jdk_47_method_1_code 4 = .ok (.return_, 1) := by decide +kernel
theorem pn_4 : plainName "java/util/ImmutableCollections$AbstractImmutableCollection" = true := by first | (simp [plainName, overriddenIn]; done) | decide +kernel
set_option maxRecDepth 65536 in
set_option maxHeartbeats 4000000 in
theorem c_aic (l : Launch) (Z : State) (a0 : Array Value) (hw : ∀ d ∈ tables_1, d.before a0 Z = true) {n0 : Nat} (h : Heap) (a : Addr) :
    Con l (⟨"java/util/ImmutableCollections$AbstractImmutableCollection", "<init>", "()V"⟩ : MethodName) jdk_47_method_1_code 1 none ({ frames := 2, cells := 0, slots := 0, locals := 24 } : Room) Z n0 #[(.ref a)] h (fun v h' => v = none ∧ h = h') := by
  refine Con.of_go (plainFor_of_name pn_4) (Ls := #[.val (.ref a)]) (fun m => by first | (simp [entryFrame, mkF, argsToLocals, Value.category]; done) | rfl) ?_
  refine Go.aloadN (pc' := 1) d30_0 rfl rfl rfl ?_
  refine Go.callC (cells' := 0) (slots' := 0) (pc' := 4) [] [] (a := a) rfl rfl (ww hw 183 rfl) (ww hw 43 rfl) (ww hw 46 rfl) (ww hw 47 rfl) (by decide) (c_acInit l Z a0 hw h a) pd_0 rfl rfl rfl rfl rfl (nl rfl) (nl rfl) (nl rfl) (nl rfl) d30_1 rfl ?_
  rintro _ _ ⟨rfl, rfl⟩
  show Go _ _ _ _ _ _ _ _ _ _ _ _ 4 #[.val (.ref a)] []
  exact Go.retV rfl d30_4 ⟨rfl, rfl⟩ (by decide) (by decide)
theorem d29_0 : decode jdk_46_method_1_code 0 = .ok (.aload_n 0, 1) := by decide +kernel
theorem d29_1 : decode jdk_46_method_1_code 1 = .ok (.invokespecial 1, 3) := by decide +kernel
theorem d29_4 : decode jdk_46_method_1_code 4 = .ok (.return_, 1) := by decide +kernel
theorem pn_5 : plainName "java/util/ImmutableCollections$AbstractImmutableList" = true := by first | (simp [plainName, overriddenIn]; done) | decide +kernel
set_option maxRecDepth 65536 in
set_option maxHeartbeats 4000000 in
theorem c_ail (l : Launch) (Z : State) (a0 : Array Value) (hw : ∀ d ∈ tables_1, d.before a0 Z = true) {n0 : Nat} (h : Heap) (a : Addr) :
    Con l (⟨"java/util/ImmutableCollections$AbstractImmutableList", "<init>", "()V"⟩ : MethodName) jdk_46_method_1_code 1 none ({ frames := 3, cells := 0, slots := 0, locals := 36 } : Room) Z n0 #[(.ref a)] h (fun v h' => v = none ∧ h = h') := by
  refine Con.of_go (plainFor_of_name pn_5) (Ls := #[.val (.ref a)]) (fun m => by first | (simp [entryFrame, mkF, argsToLocals, Value.category]; done) | rfl) ?_
  refine Go.aloadN (pc' := 1) d29_0 rfl rfl rfl ?_
  refine Go.callC (cells' := 0) (slots' := 0) (pc' := 4) [] [] (a := a) rfl rfl (ww hw 177 rfl) (ww hw 178 rfl) (ww hw 181 rfl) (ww hw 182 rfl) (by decide) (c_aic l Z a0 hw h a) pd_0 rfl rfl rfl rfl rfl (nl rfl) (nl rfl) (nl rfl) (nl rfl) d29_1 rfl ?_
  rintro _ _ ⟨rfl, rfl⟩
  show Go _ _ _ _ _ _ _ _ _ _ _ _ 4 #[.val (.ref a)] []
  exact Go.retV rfl d29_4 ⟨rfl, rfl⟩ (by decide) (by decide)
theorem d35_0 : decode jdk_44_method_1_code 0 = .ok (.aload_n 0, 1) := by decide +kernel
theorem d35_1 : decode jdk_44_method_1_code 1 = .ok (.invokespecial 1, 3) := by decide +kernel
theorem d35_4 : decode jdk_44_method_1_code 4 = .ok (.aload_n 0, 1) := by decide +kernel
theorem d35_5 : decode jdk_44_method_1_code 5 = .ok (.aload_n 1, 1) := by decide +kernel
theorem d35_6 : decode jdk_44_method_1_code 6 = .ok (.invokestatic 7, 3) := by decide +kernel
theorem d35_9 : decode jdk_44_method_1_code 9 = .ok (.putfield 13, 3) := by decide +kernel
theorem d35_12 : decode jdk_44_method_1_code 12 = .ok (.aload_n 0, 1) := by decide +kernel
theorem d35_13 : decode jdk_44_method_1_code 13 = .ok (.getstatic 19, 3) := by decide +kernel
theorem d35_16 : decode jdk_44_method_1_code 16 = .ok (.putfield 24, 3) := by decide +kernel
theorem d35_19 : decode jdk_44_method_1_code 19 = .ok (.return_, 1) := by decide +kernel
theorem pn_6 : plainName "java/util/ImmutableCollections$List12" = true := by first | (simp [plainName, overriddenIn]; done) | decide +kernel
set_option maxRecDepth 65536 in
set_option maxHeartbeats 4000000 in
theorem c_l1Init (l : Launch) (Z : State) (a0 : Array Value) (hw : ∀ d ∈ tables_1, d.before a0 Z = true) {n0 : Nat} (h : Heap) (a : Addr) (e : Addr) (wE : Addr) (se : Sta Z Z.heap "java/util/ImmutableCollections" "EMPTY" "Ljava/lang/Object;" (.ref wE)) (xE : Exa Z Z.heap wE "java/lang/Object") (ge_a : n0 ≤ a) (x : Exa Z h a "java/util/ImmutableCollections$List12") (f0 : Fld Z h a "java/util/ImmutableCollections$List12" "e0" "Ljava/lang/Object;" .null) (f1 : Fld Z h a "java/util/ImmutableCollections$List12" "e1" "Ljava/lang/Object;" .null) :
    Con l (⟨"java/util/ImmutableCollections$List12", "<init>", "(Ljava/lang/Object;)V"⟩ : MethodName) jdk_44_method_1_code 2 none ({ frames := 4, cells := 0, slots := 0, locals := 48 } : Room) Z n0 #[(.ref a), (.ref e)] h (fun v h' => v = none ∧ Keep h h' [a] ∧ Fld Z h' a "java/util/ImmutableCollections$List12" "e0" "Ljava/lang/Object;" (.ref e) ∧ Fld Z h' a "java/util/ImmutableCollections$List12" "e1" "Ljava/lang/Object;" (.ref wE)) := by
  refine Con.of_go (plainFor_of_name pn_6) (Ls := #[.val (.ref a), .val (.ref e)]) (fun m => by first | (simp [entryFrame, mkF, argsToLocals, Value.category]; done) | rfl) ?_
  refine Go.aloadN (pc' := 1) d35_0 rfl rfl rfl ?_
  refine Go.callC (cells' := 0) (slots' := 0) (pc' := 4) [] [] (a := a) rfl rfl (ww hw 196 rfl) (ww hw 172 rfl) (ww hw 175 rfl) (ww hw 176 rfl) (by decide) (c_ail l Z a0 hw h a) pd_0 rfl rfl rfl rfl rfl (nl rfl) (nl rfl) (nl rfl) (nl rfl) d35_1 rfl ?_
  rintro _ _ ⟨rfl, rfl⟩
  show Go _ _ _ _ _ _ _ _ _ _ _ _ 4 #[.val (.ref a), .val (.ref e)] []
  refine Go.aloadN (pc' := 5) d35_4 rfl rfl rfl ?_
  refine Go.aloadN (pc' := 6) d35_5 rfl rfl rfl ?_
  refine Go.callS (cells' := 0) (slots' := 0) (pc' := 9) [(.ref e)] [(.ref a)] (ww hw 200 rfl) (ww hw 162 rfl) (ww hw 163 rfl) (ww hw 164 rfl) (by decide) (c_rnn l Z a0 hw h e) pd_5 rfl rfl rfl rfl rfl (nl rfl) (nl rfl) (nl rfl) (nl rfl) d35_6 rfl ?_
  rintro _ _ ⟨rfl, rfl⟩
  show Go _ _ _ _ _ _ _ _ _ _ _ _ 9 #[.val (.ref a), .val (.ref e)] [(.ref e), (.ref a)]
  refine Go.putfield (pc' := 12) (host := "") (Or.inl (ww hw 201 rfl)) Via.refl f0 x (Or.inr ⟨(ww hw 202 rfl), rfl, rfl⟩) (ww hw 190 rfl) (ty := (.object "java/lang/Object")) (by decide) rfl rfl ge_a d35_9 rfl ?_
  intro h3 W4
  have K5 : Keep h h3 [a] := (Keep.refl h [a]).wr W4 (Or.inl (List.mem_of_getElem? (i := 0) rfl))
  have f6 := f0.same W4
  refine Go.aloadN (pc' := 13) d35_12 rfl rfl rfl ?_
  refine Go.old (fun old7 => ?_)
  refine Go.getstatic (pc' := 16) (Or.inr (ww hw 234 rfl)) Via.refl (se.ext old7.2) d35_13 rfl ?_
  have f8 : Fld Z h3 a "java/util/ImmutableCollections$List12" "e1" "Ljava/lang/Object;" .null := (f1.other W4 (Or.inr (slot_ne (Or.inr (ww hw 204 rfl)) (Or.inr (ww hw 202 rfl)) (by decide) (t := (.object "java/lang/Object")) (t' := (.object "java/lang/Object")) (by decide) (by decide))))
  refine Go.putfield (pc' := 19) (host := "") (Or.inl (ww hw 203 rfl)) Via.refl f8 (x.wr W4) (Or.inr ⟨(ww hw 204 rfl), rfl, rfl⟩) (ww hw 190 rfl) (ty := (.object "java/lang/Object")) (by decide) rfl rfl ge_a d35_16 rfl ?_
  intro h9 W10
  have K11 : Keep h h9 [a] := K5.wr W10 (Or.inl (List.mem_of_getElem? (i := 0) rfl))
  have f12 := f8.same W10
  have f13 : Fld Z h9 a "java/util/ImmutableCollections$List12" "e0" "Ljava/lang/Object;" (.ref e) := (f6.other W10 (Or.inr (slot_ne (Or.inr (ww hw 202 rfl)) (Or.inr (ww hw 204 rfl)) (by decide) (t := (.object "java/lang/Object")) (t' := (.object "java/lang/Object")) (by decide) (by decide))))
  exact Go.retV rfl d35_19 ⟨rfl, K11, f13, f12⟩ (by decide) (by decide)
theorem d31_0 : decode jdk_44_method_2_code 0 = .ok (.aload_n 0, 1) := by decide +kernel
theorem d31_1 : decode jdk_44_method_2_code 1 = .ok (.invokespecial 1, 3) := by decide +kernel
theorem d31_4 : decode jdk_44_method_2_code 4 = .ok (.aload_n 0, 1) := by decide +kernel
theorem d31_5 : decode jdk_44_method_2_code 5 = .ok (.aload_n 1, 1) := by decide +kernel
theorem d31_6 : decode jdk_44_method_2_code 6 = .ok (.invokestatic 7, 3) := by decide +kernel
theorem d31_9 : decode jdk_44_method_2_code 9 = .ok (.putfield 13, 3) := by decide +kernel
theorem d31_12 : decode jdk_44_method_2_code 12 = .ok (.aload_n 0, 1) := by decide +kernel
theorem d31_13 : decode jdk_44_method_2_code 13 = .ok (.aload_n 2, 1) := by decide +kernel
theorem d31_14 : decode jdk_44_method_2_code 14 = .ok (.invokestatic 7, 3) := by decide +kernel
theorem d31_17 : decode jdk_44_method_2_code 17 = .ok (.putfield 24, 3) := by decide +kernel
theorem d31_20 : decode jdk_44_method_2_code 20 = .ok (.return_, 1) := by decide +kernel
set_option maxRecDepth 65536 in
set_option maxHeartbeats 4000000 in
theorem c_l2Init (l : Launch) (Z : State) (a0 : Array Value) (hw : ∀ d ∈ tables_1, d.before a0 Z = true) {n0 : Nat} (h : Heap) (a : Addr) (e : Addr) (d : Addr) (ge_a : n0 ≤ a) (x : Exa Z h a "java/util/ImmutableCollections$List12") (f0 : Fld Z h a "java/util/ImmutableCollections$List12" "e0" "Ljava/lang/Object;" .null) (f1 : Fld Z h a "java/util/ImmutableCollections$List12" "e1" "Ljava/lang/Object;" .null) :
    Con l (⟨"java/util/ImmutableCollections$List12", "<init>", "(Ljava/lang/Object;Ljava/lang/Object;)V"⟩ : MethodName) jdk_44_method_2_code 3 none ({ frames := 4, cells := 0, slots := 0, locals := 48 } : Room) Z n0 #[(.ref a), (.ref e), (.ref d)] h (fun v h' => v = none ∧ Keep h h' [a] ∧ Fld Z h' a "java/util/ImmutableCollections$List12" "e0" "Ljava/lang/Object;" (.ref e) ∧ Fld Z h' a "java/util/ImmutableCollections$List12" "e1" "Ljava/lang/Object;" (.ref d)) := by
  refine Con.of_go (plainFor_of_name pn_6) (Ls := #[.val (.ref a), .val (.ref e), .val (.ref d)]) (fun m => by first | (simp [entryFrame, mkF, argsToLocals, Value.category]; done) | rfl) ?_
  refine Go.aloadN (pc' := 1) d31_0 rfl rfl rfl ?_
  refine Go.callC (cells' := 0) (slots' := 0) (pc' := 4) [] [] (a := a) rfl rfl (ww hw 196 rfl) (ww hw 172 rfl) (ww hw 175 rfl) (ww hw 176 rfl) (by decide) (c_ail l Z a0 hw h a) pd_0 rfl rfl rfl rfl rfl (nl rfl) (nl rfl) (nl rfl) (nl rfl) d31_1 rfl ?_
  rintro _ _ ⟨rfl, rfl⟩
  show Go _ _ _ _ _ _ _ _ _ _ _ _ 4 #[.val (.ref a), .val (.ref e), .val (.ref d)] []
  refine Go.aloadN (pc' := 5) d31_4 rfl rfl rfl ?_
  refine Go.aloadN (pc' := 6) d31_5 rfl rfl rfl ?_
  refine Go.callS (cells' := 0) (slots' := 0) (pc' := 9) [(.ref e)] [(.ref a)] (ww hw 200 rfl) (ww hw 162 rfl) (ww hw 163 rfl) (ww hw 164 rfl) (by decide) (c_rnn l Z a0 hw h e) pd_5 rfl rfl rfl rfl rfl (nl rfl) (nl rfl) (nl rfl) (nl rfl) d31_6 rfl ?_
  rintro _ _ ⟨rfl, rfl⟩
  show Go _ _ _ _ _ _ _ _ _ _ _ _ 9 #[.val (.ref a), .val (.ref e), .val (.ref d)] [(.ref e), (.ref a)]
  refine Go.putfield (pc' := 12) (host := "") (Or.inl (ww hw 201 rfl)) Via.refl f0 x (Or.inr ⟨(ww hw 202 rfl), rfl, rfl⟩) (ww hw 190 rfl) (ty := (.object "java/lang/Object")) (by decide) rfl rfl ge_a d31_9 rfl ?_
  intro h3 W4
  have K5 : Keep h h3 [a] := (Keep.refl h [a]).wr W4 (Or.inl (List.mem_of_getElem? (i := 0) rfl))
  have f6 := f0.same W4
  refine Go.aloadN (pc' := 13) d31_12 rfl rfl rfl ?_
  refine Go.aloadN (pc' := 14) d31_13 rfl rfl rfl ?_
  refine Go.callS (cells' := 0) (slots' := 0) (pc' := 17) [(.ref d)] [(.ref a)] (ww hw 200 rfl) (ww hw 162 rfl) (ww hw 163 rfl) (ww hw 164 rfl) (by decide) (c_rnn l Z a0 hw h3 d) pd_5 rfl rfl rfl rfl rfl (nl rfl) (nl rfl) (nl rfl) (nl rfl) d31_14 rfl ?_
  rintro _ _ ⟨rfl, rfl⟩
  show Go _ _ _ _ _ _ _ _ _ _ _ _ 17 #[.val (.ref a), .val (.ref e), .val (.ref d)] [(.ref d), (.ref a)]
  have f8 : Fld Z h3 a "java/util/ImmutableCollections$List12" "e1" "Ljava/lang/Object;" .null := (f1.other W4 (Or.inr (slot_ne (Or.inr (ww hw 204 rfl)) (Or.inr (ww hw 202 rfl)) (by decide) (t := (.object "java/lang/Object")) (t' := (.object "java/lang/Object")) (by decide) (by decide))))
  refine Go.putfield (pc' := 20) (host := "") (Or.inl (ww hw 203 rfl)) Via.refl f8 (x.wr W4) (Or.inr ⟨(ww hw 204 rfl), rfl, rfl⟩) (ww hw 190 rfl) (ty := (.object "java/lang/Object")) (by decide) rfl rfl ge_a d31_17 rfl ?_
  intro h9 W10
  have K11 : Keep h h9 [a] := K5.wr W10 (Or.inl (List.mem_of_getElem? (i := 0) rfl))
  have f12 := f8.same W10
  have f13 : Fld Z h9 a "java/util/ImmutableCollections$List12" "e0" "Ljava/lang/Object;" (.ref e) := (f6.other W10 (Or.inr (slot_ne (Or.inr (ww hw 202 rfl)) (Or.inr (ww hw 204 rfl)) (by decide) (t := (.object "java/lang/Object")) (t' := (.object "java/lang/Object")) (by decide) (by decide))))
  exact Go.retV rfl d31_20 ⟨rfl, K11, f13, f12⟩ (by decide) (by decide)
theorem d28_0 : decode jdk_45_method_1_code 0 = .ok (.aload_n 0, 1) := by decide +kernel
theorem d28_1 : decode jdk_45_method_1_code 1 = .ok (.invokespecial 1, 3) := by decide +kernel
theorem d28_4 : decode jdk_45_method_1_code 4 = .ok (.aload_n 0, 1) := by decide +kernel
theorem d28_5 : decode jdk_45_method_1_code 5 = .ok (.aload_n 1, 1) := by decide +kernel
theorem d28_6 : decode jdk_45_method_1_code 6 = .ok (.putfield 7, 3) := by decide +kernel
theorem d28_9 : decode jdk_45_method_1_code 9 = .ok (.aload_n 0, 1) := by decide +kernel
theorem d28_10 : decode jdk_45_method_1_code 10 = .ok (.iload_n 2, 1) := by decide +kernel
theorem d28_11 : decode jdk_45_method_1_code 11 = .ok (.putfield 13, 3) := by decide +kernel
theorem d28_14 : decode jdk_45_method_1_code 14 = .ok (.return_, 1) := by decide +kernel
theorem pn_7 : plainName "java/util/ImmutableCollections$ListN" = true := by first | (simp [plainName, overriddenIn]; done) | decide +kernel
set_option maxRecDepth 65536 in
set_option maxHeartbeats 4000000 in
theorem c_lnInit (l : Launch) (Z : State) (a0 : Array Value) (hw : ∀ d ∈ tables_1, d.before a0 Z = true) {n0 : Nat} (h : Heap) (a : Addr) (b : Addr) (ge_a : n0 ≤ a) (x : Exa Z h a "java/util/ImmutableCollections$ListN") (f0 : Fld Z h a "java/util/ImmutableCollections$ListN" "elements" "[Ljava/lang/Object;" .null) (f1 : Fld Z h a "java/util/ImmutableCollections$ListN" "allowNulls" "Z" (.int (0 : Int32))) :
    Con l (⟨"java/util/ImmutableCollections$ListN", "<init>", "([Ljava/lang/Object;Z)V"⟩ : MethodName) jdk_45_method_1_code 3 none ({ frames := 4, cells := 0, slots := 0, locals := 48 } : Room) Z n0 #[(.ref a), (.ref b), (.int (0 : Int32))] h (fun v h' => v = none ∧ Keep h h' [a] ∧ Fld Z h' a "java/util/ImmutableCollections$ListN" "elements" "[Ljava/lang/Object;" (.ref b) ∧ Fld Z h' a "java/util/ImmutableCollections$ListN" "allowNulls" "Z" (.int (0 : Int32))) := by
  refine Con.of_go (plainFor_of_name pn_7) (Ls := #[.val (.ref a), .val (.ref b), .val (.int (0 : Int32))]) (fun m => by first | (simp [entryFrame, mkF, argsToLocals, Value.category]; done) | rfl) ?_
  refine Go.aloadN (pc' := 1) d28_0 rfl rfl rfl ?_
  refine Go.callC (cells' := 0) (slots' := 0) (pc' := 4) [] [] (a := a) rfl rfl (ww hw 171 rfl) (ww hw 172 rfl) (ww hw 175 rfl) (ww hw 176 rfl) (by decide) (c_ail l Z a0 hw h a) pd_0 rfl rfl rfl rfl rfl (nl rfl) (nl rfl) (nl rfl) (nl rfl) d28_1 rfl ?_
  rintro _ _ ⟨rfl, rfl⟩
  show Go _ _ _ _ _ _ _ _ _ _ _ _ 4 #[.val (.ref a), .val (.ref b), .val (.int (0 : Int32))] []
  refine Go.aloadN (pc' := 5) d28_4 rfl rfl rfl ?_
  refine Go.aloadN (pc' := 6) d28_5 rfl rfl rfl ?_
  refine Go.putfield (pc' := 9) (host := "") (Or.inl (ww hw 185 rfl)) Via.refl f0 x (Or.inr ⟨(ww hw 186 rfl), rfl, rfl⟩) (ww hw 165 rfl) (ty := (.array (.object "java/lang/Object"))) (by decide) rfl rfl ge_a d28_6 rfl ?_
  intro h2 W3
  have K4 : Keep h h2 [a] := (Keep.refl h [a]).wr W3 (Or.inl (List.mem_of_getElem? (i := 0) rfl))
  have f5 := f0.same W3
  refine Go.aloadN (pc' := 10) d28_9 rfl rfl rfl ?_
  refine Go.iloadN (pc' := 11) d28_10 rfl rfl ?_
  have f6 : Fld Z h2 a "java/util/ImmutableCollections$ListN" "allowNulls" "Z" (.int (0 : Int32)) := (f1.other W3 (Or.inr (slot_ne (Or.inr (ww hw 188 rfl)) (Or.inr (ww hw 186 rfl)) (by decide) (t := .boolean) (t' := (.array (.object "java/lang/Object"))) (by decide) (by decide))))
  refine Go.putfieldN (pc' := 14) (ww hw 187 rfl) Via.refl f6 (x.wr W3) (Or.inr ⟨(ww hw 188 rfl), rfl, rfl⟩) (ww hw 165 rfl) (ty := .boolean) (v' := (0 : Int32)) (by decide) (by first | rfl | decide) (by first | rfl | decide | exact fits_nar_bool _) ge_a d28_11 rfl ?_
  intro h7 W8
  have K9 : Keep h h7 [a] := K4.wr W8 (Or.inl (List.mem_of_getElem? (i := 0) rfl))
  have f10 := f6.same W8
  have f11 : Fld Z h7 a "java/util/ImmutableCollections$ListN" "elements" "[Ljava/lang/Object;" (.ref b) := (f5.other W8 (Or.inr (slot_ne (Or.inr (ww hw 186 rfl)) (Or.inr (ww hw 188 rfl)) (by decide) (t := (.array (.object "java/lang/Object"))) (t' := .boolean) (by decide) (by decide))))
  exact Go.retV rfl d28_14 ⟨rfl, K9, f11, f10⟩ (by decide) (by decide)
theorem d20_0 : decode jdk_40_method_36_code 0 = .ok (.getstatic 90, 3) := by decide +kernel
theorem d20_3 : decode jdk_40_method_36_code 3 = .ok (.areturn, 1) := by decide +kernel
theorem pn_8 : plainName "java/util/List" = true := by first | (simp [plainName, overriddenIn]; done) | decide +kernel
set_option maxRecDepth 65536 in
set_option maxHeartbeats 4000000 in
theorem c_listOf0 (l : Launch) (Z : State) (a0 : Array Value) (hw : ∀ d ∈ tables_1, d.before a0 Z = true) {n0 : Nat} (h : Heap) (wL : Addr) (wLe : Addr) (kLe : ClassId) (vsL : List Value) (sl : Sta Z Z.heap "java/util/ImmutableCollections" "EMPTY_LIST" "Ljava/util/ImmutableCollections$ListN;" (.ref wL)) (xL : Exa Z Z.heap wL "java/util/ImmutableCollections$ListN") (fL : Fld Z Z.heap wL "java/util/ImmutableCollections$ListN" "elements" "[Ljava/lang/Object;" (.ref wLe)) (vL : Arv Z Z.heap wLe kLe (.object "java/lang/Object") (0 : Int32) vsL .null) :
    Con l (⟨"java/util/List", "of", "()Ljava/util/List;"⟩ : MethodName) jdk_40_method_36_code 0 (some (.object "java/util/List")) ({ frames := 0, cells := 0, slots := 0, locals := 0 } : Room) Z n0 #[] h (fun v h' => v = some (.ref wL) ∧ h = h') := by
  refine Con.of_go (plainFor_of_name pn_8) (Ls := #[]) (fun m => by first | (simp [entryFrame, mkF, argsToLocals, Value.category]; done) | rfl) ?_
  refine Go.old (fun old1 => ?_)
  refine Go.getstatic (pc' := 3) (host := "") (Or.inl (ww hw 123 rfl)) Via.refl (sl.ext old1.2) d20_0 rfl ?_
  exact Go.retR rfl rfl rfl rfl d20_3 ⟨rfl, rfl⟩ (by decide) (by decide)
theorem d18_0 : decode jdk_56_method_3_code 0 = .ok (.aload_n 0, 1) := by decide +kernel
theorem d18_1 : decode jdk_56_method_3_code 1 = .ok (.instanceof 10, 3) := by decide +kernel
theorem d18_4 : decode jdk_56_method_3_code 4 = .ok (.ifCond .ne 22, 3) := by decide +kernel
theorem d18_7 : decode jdk_56_method_3_code 7 = .ok (.aload_n 0, 1) := by decide +kernel
theorem d18_8 : decode jdk_56_method_3_code 8 = .ok (.instanceof 12, 3) := by decide +kernel
theorem d18_11 : decode jdk_56_method_3_code 11 = .ok (.ifCond .eq 20, 3) := by decide +kernel
theorem d18_31 : decode jdk_56_method_3_code 31 = .ok (.aload_n 0, 1) := by decide +kernel
theorem d18_32 : decode jdk_56_method_3_code 32 = .ok (.invokeinterface 20 1, 5) := by decide +kernel
theorem d18_37 : decode jdk_56_method_3_code 37 = .ok (.ifCond .eq 7, 3) := by decide +kernel
theorem d18_40 : decode jdk_56_method_3_code 40 = .ok (.invokestatic 26, 3) := by decide +kernel
theorem d18_43 : decode jdk_56_method_3_code 43 = .ok (.areturn, 1) := by decide +kernel
theorem pn_9 : plainName "java/util/ImmutableCollections" = true := by first | (simp [plainName, overriddenIn]; done) | decide +kernel
set_option maxRecDepth 65536 in
set_option maxHeartbeats 4000000 in
theorem c_listCopy0 (l : Launch) (Z : State) (a0 : Array Value) (hw : ∀ d ∈ tables_1, d.before a0 Z = true) {n0 : Nat} (h : Heap) (a : Addr) (wL : Addr) (wLe : Addr) (kLe : ClassId) (vsL : List Value) (sl : Sta Z Z.heap "java/util/ImmutableCollections" "EMPTY_LIST" "Ljava/util/ImmutableCollections$ListN;" (.ref wL)) (xL : Exa Z Z.heap wL "java/util/ImmutableCollections$ListN") (fL : Fld Z Z.heap wL "java/util/ImmutableCollections$ListN" "elements" "[Ljava/lang/Object;" (.ref wLe)) (vL : Arv Z Z.heap wLe kLe (.object "java/lang/Object") (0 : Int32) vsL .null) (xa : Exa Z h a "java/util/ArrayList") (f : Fld Z h a "java/util/ArrayList" "size" "I" (.int (0 : Int32))) :
    Con l (⟨"java/util/ImmutableCollections", "listCopy", "(Ljava/util/Collection;)Ljava/util/List;"⟩ : MethodName) jdk_56_method_3_code 2 (some (.object "java/util/List")) ({ frames := 1, cells := 0, slots := 0, locals := 12 } : Room) Z n0 #[(.ref a)] h (fun v h' => v = some (.ref wL) ∧ h = h') := by
  refine Con.of_go (plainFor_of_name pn_9) (Ls := #[.val (.ref a), .unset]) (fun m => by first | (simp [entryFrame, mkF, argsToLocals, Value.category]; done) | rfl) ?_
  refine Go.aloadN (pc' := 1) d18_0 rfl rfl rfl ?_
  refine Go.instNo (pc' := 4) (ww hw 105 rfl) xa (own_nno (ww hw 106 rfl) (ww hw 190 rfl) (NS.step (ww hw 106 rfl) (NS.step (ww hw 107 rfl) (NS.step (ww hw 108 rfl) (own_nroot (ww hw 109 rfl) (ww hw 190 rfl) (by decide)) (by decide)) (by decide)) (by decide)) (by decide)) d18_1 rfl ?_
  refine Go.ifNo (pc' := 7) d18_4 (XT.i0_ne_f (by decide)) rfl ?_
  refine Go.aloadN (pc' := 8) d18_7 rfl rfl rfl ?_
  refine Go.instNo (pc' := 11) (ww hw 110 rfl) xa (own_nno (ww hw 106 rfl) (ww hw 165 rfl) (NS.step (ww hw 106 rfl) (NS.step (ww hw 107 rfl) (NS.step (ww hw 108 rfl) (own_nroot (ww hw 109 rfl) (ww hw 165 rfl) (by decide)) (by decide)) (by decide)) (by decide)) (by decide)) d18_8 rfl ?_
  refine Go.ifYes (pc' := 31) d18_11 (XT.i0_eq_t (by decide)) (by decide) (by decide) ?_
  refine Go.aloadN (pc' := 32) d18_31 rfl rfl rfl ?_
  refine Go.callI (cells' := 0) (slots' := 0) (pc' := 37) [] [] xa (ww hw 111 rfl) (ww hw 112 rfl) (ww hw 113 rfl) (ww hw 114 rfl) (ww hw 115 rfl) (ww hw 116 rfl) (ww hw 117 rfl) (ww hw 118 rfl) (ww hw 32 rfl) (ww hw 119 rfl) (by decide) (c_alEmpty0 l Z a0 hw h a f) pd_6 rfl rfl rfl rfl rfl (nl rfl) (nl rfl) (nl rfl) (nl rfl) d18_32 rfl ?_
  rintro _ _ ⟨rfl, rfl⟩
  show Go _ _ _ _ _ _ _ _ _ _ _ _ 37 #[.val (.ref a), .unset] [(.int (1 : Int32))]
  refine Go.ifNo (pc' := 40) d18_37 (XT.i0_eq_f (by decide)) rfl ?_
  refine Go.callS (cells' := 0) (slots' := 0) (pc' := 43) [] [] (ww hw 120 rfl) (ww hw 121 rfl) (ww hw 99 rfl) (ww hw 122 rfl) (by decide) (c_listOf0 l Z a0 hw h wL wLe kLe vsL sl xL fL vL) pd_7 rfl rfl rfl rfl rfl (nl rfl) (nl rfl) (nl rfl) (nl rfl) d18_40 rfl ?_
  rintro _ _ ⟨rfl, rfl⟩
  show Go _ _ _ _ _ _ _ _ _ _ _ _ 43 #[.val (.ref a), .unset] [(.ref wL)]
  exact Go.retR rfl rfl rfl rfl d18_43 ⟨rfl, rfl⟩ (by decide) (by decide)
theorem d17_0 : decode jdk_40_method_48_code 0 = .ok (.aload_n 0, 1) := by decide +kernel
theorem d17_1 : decode jdk_40_method_48_code 1 = .ok (.invokestatic 112, 3) := by decide +kernel
theorem d17_4 : decode jdk_40_method_48_code 4 = .ok (.areturn, 1) := by decide +kernel
set_option maxRecDepth 65536 in
set_option maxHeartbeats 4000000 in
theorem c_copy0 (l : Launch) (Z : State) (a0 : Array Value) (hw : ∀ d ∈ tables_1, d.before a0 Z = true) {n0 : Nat} (h : Heap) (a : Addr) (wL : Addr) (wLe : Addr) (kLe : ClassId) (vsL : List Value) (sl : Sta Z Z.heap "java/util/ImmutableCollections" "EMPTY_LIST" "Ljava/util/ImmutableCollections$ListN;" (.ref wL)) (xL : Exa Z Z.heap wL "java/util/ImmutableCollections$ListN") (fL : Fld Z Z.heap wL "java/util/ImmutableCollections$ListN" "elements" "[Ljava/lang/Object;" (.ref wLe)) (vL : Arv Z Z.heap wLe kLe (.object "java/lang/Object") (0 : Int32) vsL .null) (xa : Exa Z h a "java/util/ArrayList") (f : Fld Z h a "java/util/ArrayList" "size" "I" (.int (0 : Int32))) :
    Con l (⟨"java/util/List", "copyOf", "(Ljava/util/Collection;)Ljava/util/List;"⟩ : MethodName) jdk_40_method_48_code 1 (some (.object "java/util/List")) ({ frames := 8, cells := 3, slots := 8, locals := 103 } : Room) Z n0 #[(.ref a)] h (fun v h' => v = some (.ref wL) ∧ h = h') := by
  refine Con.of_go (plainFor_of_name pn_8) (Ls := #[.val (.ref a)]) (fun m => by first | (simp [entryFrame, mkF, argsToLocals, Value.category]; done) | rfl) ?_
  refine Go.aloadN (pc' := 1) d17_0 rfl rfl rfl ?_
  refine Go.callS (cells' := 0) (slots' := 0) (pc' := 4) [(.ref a)] [] (ww hw 101 rfl) (ww hw 102 rfl) (ww hw 103 rfl) (ww hw 104 rfl) (by decide) (c_listCopy0 l Z a0 hw h a wL wLe kLe vsL sl xL fL vL xa f) pd_8 rfl rfl rfl rfl rfl (nl rfl) (nl rfl) (nl rfl) (nl rfl) d17_1 rfl ?_
  rintro _ _ ⟨rfl, rfl⟩
  show Go _ _ _ _ _ _ _ _ _ _ _ _ 4 #[.val (.ref a)] [(.ref wL)]
  exact Go.retR rfl rfl rfl rfl d17_4 ⟨rfl, rfl⟩ (by decide) (by decide)
theorem d24_0 : decode jdk_29_method_69_code 0 = .ok (.iload_n 0, 1) := by decide +kernel
theorem d24_1 : decode jdk_29_method_69_code 1 = .ok (.iload_n 1, 1) := by decide +kernel
theorem d24_2 : decode jdk_29_method_69_code 2 = .ok (.if_icmp .gt 7, 3) := by decide +kernel
theorem d24_9 : decode jdk_29_method_69_code 9 = .ok (.iload_n 1, 1) := by decide +kernel
theorem d24_10 : decode jdk_29_method_69_code 10 = .ok (.ireturn, 1) := by decide +kernel
set_option maxRecDepth 65536 in
set_option maxHeartbeats 4000000 in
theorem c_min1 (l : Launch) (Z : State) (a0 : Array Value) (hw : ∀ d ∈ tables_1, d.before a0 Z = true) {n0 : Nat} (h : Heap) :
    Con l (⟨"java/lang/Math", "min", "(II)I"⟩ : MethodName) jdk_29_method_69_code 2 (some .int) ({ frames := 0, cells := 0, slots := 0, locals := 0 } : Room) Z n0 #[(.int (10 : Int32)), (.int (1 : Int32))] h (fun v h' => v = some (.int (1 : Int32)) ∧ h = h') := by
  refine Con.of_go (Jvm.Free.JP.mathPlain rfl (by decide +kernel)) (Ls := #[.val (.int (10 : Int32)), .val (.int (1 : Int32))]) (fun m => by first | (simp [entryFrame, mkF, argsToLocals, Value.category]; done) | rfl) ?_
  refine Go.iloadN (pc' := 1) d24_0 rfl rfl ?_
  refine Go.iloadN (pc' := 2) d24_1 rfl rfl ?_
  refine Go.icmpYes (pc' := 9) d24_2 (XT.ii_gt_t (by decide)) (by decide) (by decide) ?_
  refine Go.iloadN (pc' := 10) d24_9 rfl rfl ?_
  exact Go.retI rfl d24_10 ⟨rfl, rfl⟩ (by decide) (by decide)
theorem d23_0 : decode jdk_65_method_120_code 0 = .ok (.aload_n 2, 1) := by decide +kernel
theorem d23_1 : decode jdk_65_method_120_code 1 = .ok (.ldc 110, 2) := by decide +kernel
theorem d23_3 : decode jdk_65_method_120_code 3 = .ok (.if_acmp .ne 10, 3) := by decide +kernel
theorem d23_6 : decode jdk_65_method_120_code 6 = .ok (.iload_n 1, 1) := by decide +kernel
theorem d23_7 : decode jdk_65_method_120_code 7 = .ok (.anewarray 2, 3) := by decide +kernel
theorem d23_10 : decode jdk_65_method_120_code 10 = .ok (.goto 14, 3) := by decide +kernel
theorem d23_24 : decode jdk_65_method_120_code 24 = .ok (.astore_n 3, 1) := by decide +kernel
theorem d23_25 : decode jdk_65_method_120_code 25 = .ok (.aload_n 0, 1) := by decide +kernel
theorem d23_26 : decode jdk_65_method_120_code 26 = .ok (.iconst 0, 1) := by decide +kernel
theorem d23_27 : decode jdk_65_method_120_code 27 = .ok (.aload_n 3, 1) := by decide +kernel
theorem d23_28 : decode jdk_65_method_120_code 28 = .ok (.iconst 0, 1) := by decide +kernel
theorem d23_29 : decode jdk_65_method_120_code 29 = .ok (.aload_n 0, 1) := by decide +kernel
theorem d23_30 : decode jdk_65_method_120_code 30 = .ok (.arraylength, 1) := by decide +kernel
theorem d23_31 : decode jdk_65_method_120_code 31 = .ok (.iload_n 1, 1) := by decide +kernel
theorem d23_32 : decode jdk_65_method_120_code 32 = .ok (.invokestatic 304, 3) := by decide +kernel
theorem d23_35 : decode jdk_65_method_120_code 35 = .ok (.invokestatic 150, 3) := by decide +kernel
theorem d23_38 : decode jdk_65_method_120_code 38 = .ok (.aload_n 3, 1) := by decide +kernel
theorem d23_39 : decode jdk_65_method_120_code 39 = .ok (.areturn, 1) := by decide +kernel
theorem pn_10 : plainName "java/util/Arrays" = true := by first | (simp [plainName, overriddenIn]; done) | decide +kernel
set_option maxRecDepth 65536 in
set_option maxHeartbeats 4000000 in
theorem c_copyOfC1 (l : Launch) (Z : State) (a0 : Array Value) (hw : ∀ d ∈ tables_1, d.before a0 Z = true) {n0 : Nat} (h : Heap) (b : Addr) (kb : ClassId) (e0 : Addr) (mO : Addr) (mo : Mi Z "[Ljava/lang/Object;" mO) (v : Arv Z h b kb (.object "java/lang/Object") (10 : Int32) [(.ref e0), .null, .null, .null, .null, .null, .null, .null, .null, .null] .null) (xb : Exa Z h b "[Ljava/lang/Object;") (xe0 : Exa Z h e0 "java/lang/String") :
    Con l (⟨"java/util/Arrays", "copyOf", "([Ljava/lang/Object;ILjava/lang/Class;)[Ljava/lang/Object;"⟩ : MethodName) jdk_65_method_120_code 4 (some (.array (.object "java/lang/Object"))) ({ frames := 1, cells := 1, slots := 1, locals := 18 } : Room) Z n0 #[(.ref b), (.int (1 : Int32)), (.ref mO)] h (fun v h' => ∃ r : Addr, ∃ kr : ClassId, v = some (.ref r) ∧ Keep h h' [] ∧ n0 ≤ r ∧ h.size ≤ r ∧ Arv Z h' r kr (.object "java/lang/Object") (1 : Int32) [(.ref e0)] .null ∧ Exa Z h' r "[Ljava/lang/Object;" ∧ Ovr Z kr "java/lang/Object") := by
  refine Con.of_go (plainFor_of_name pn_10) (Ls := #[.val (.ref b), .val (.int (1 : Int32)), .val (.ref mO), .unset]) (fun m => by first | (simp [entryFrame, mkF, argsToLocals, Value.category]; done) | rfl) ?_
  refine Go.aloadN (pc' := 1) d23_0 rfl rfl rfl ?_
  refine Go.ldcMirror (pc' := 3) (ww hw 145 rfl) mo d23_1 rfl ?_
  refine Go.acmpNo (pc' := 6) d23_3 rfl rfl (XT.aa_ne_f rfl) rfl ?_
  refine Go.iloadN (pc' := 7) d23_6 rfl rfl ?_
  refine Go.anewarray (pc' := 10) (cells' := 1) (slots' := 1) (cap := 1) (ww hw 146 rfl) (ww hw 83 rfl) d23_7 (ad := "[Ljava/lang/Object;") (by decide) (by decide) (by decide) rfl rfl (by decide) (by decide) (by decide) rfl ?_
  intro h1 b1 g1 E1 ge1 kA1 A1 X1 O1
  have sz2 : h.size ≤ b1 := Nat.le_trans (Keep.refl h []).1 (Nat.le_of_eq g1.symm)
  have K3 : Keep h h1 [] := (Keep.refl h []).ext E1
  have V1 : Arv Z h1 b1 kA1 (.object "java/lang/Object") (1 : Int32) [.null] .null := Arv.pad A1 (pad_rep [] .null 1)
  refine Go.goto (pc' := 24) d23_10 (by decide) (by decide) ?_
  refine Go.astoreN (pc' := 25) (Ls' := #[.val (.ref b), .val (.int (1 : Int32)), .val (.ref mO), .val (.ref b1)]) d23_24 rfl rfl rfl ?_
  refine Go.aloadN (pc' := 26) d23_25 rfl rfl rfl ?_
  refine Go.iconst (pc' := 27) (v := (0 : Int32)) d23_26 rfl rfl ?_
  refine Go.aloadN (pc' := 28) d23_27 rfl rfl rfl ?_
  refine Go.iconst (pc' := 29) (v := (0 : Int32)) d23_28 rfl rfl ?_
  refine Go.aloadN (pc' := 30) d23_29 rfl rfl rfl ?_
  refine Go.arraylength (pc' := 31) (v.ext E1) d23_30 rfl ?_
  refine Go.iloadN (pc' := 32) d23_31 rfl rfl ?_
  refine Go.callS (cells' := 1) (slots' := 1) (pc' := 35) [(.int (10 : Int32)), (.int (1 : Int32))] [(.int (0 : Int32)), (.ref b1), (.int (0 : Int32)), (.ref b)] (ww hw 147 rfl) (ww hw 148 rfl) (ww hw 80 rfl) (ww hw 149 rfl) (by decide) (c_min1 l Z a0 hw h1) pd_1 rfl rfl rfl rfl rfl (nl rfl) (nl rfl) (nl rfl) (nl rfl) d23_32 rfl ?_
  rintro _ _ ⟨rfl, rfl⟩
  show Go _ _ _ _ _ _ _ _ _ _ _ _ 35 #[.val (.ref b), .val (.int (1 : Int32)), .val (.ref mO), .val (.ref b1)] [(.int (1 : Int32)), (.int (0 : Int32)), (.ref b1), (.int (0 : Int32)), (.ref b)]
  refine Go.arraycopy (pc' := 38) (us := [(.ref e0)]) (vd' := [(.ref e0)]) (ww hw 150 rfl) (ww hw 153 rfl) (ww hw 151 rfl) (ww hw 152 rfl) (v.ext E1) V1 (Or.inr ⟨rfl, rfl, ⟨(own_sto V1 O1 (Ins.of_exa (xe0.ext E1) (ww hw 84 rfl))), trivial⟩⟩) (by decide) (by decide) (by decide) (by decide) (by decide) rfl (nl rfl) rfl ge1 d23_35 rfl (nl rfl) (nl rfl) rfl ?_
  intro h5 K6 V7
  have K8 : Keep h h5 [] := K3.trans K6 (allS (Or.inr sz2) all0)
  refine Go.aloadN (pc' := 39) d23_38 rfl rfl rfl ?_
  exact Go.retR rfl rfl rfl rfl d23_39 ⟨b1, kA1, rfl, K8, ge1, sz2, V7, (X1.keep K6), O1⟩ (by decide) (by decide)
theorem d22_0 : decode jdk_65_method_119_code 0 = .ok (.aload_n 0, 1) := by decide +kernel
theorem d22_1 : decode jdk_65_method_119_code 1 = .ok (.iload_n 1, 1) := by decide +kernel
theorem d22_2 : decode jdk_65_method_119_code 2 = .ok (.aload_n 0, 1) := by decide +kernel
theorem d22_3 : decode jdk_65_method_119_code 3 = .ok (.invokevirtual 86, 3) := by decide +kernel
theorem d22_6 : decode jdk_65_method_119_code 6 = .ok (.invokestatic 300, 3) := by decide +kernel
theorem d22_9 : decode jdk_65_method_119_code 9 = .ok (.areturn, 1) := by decide +kernel
set_option maxRecDepth 65536 in
set_option maxHeartbeats 4000000 in
theorem c_copyOf1 (l : Launch) (Z : State) (a0 : Array Value) (hw : ∀ d ∈ tables_1, d.before a0 Z = true) {n0 : Nat} (h : Heap) (b : Addr) (kb : ClassId) (e0 : Addr) (mO : Addr) (mo : Mi Z "[Ljava/lang/Object;" mO) (v : Arv Z h b kb (.object "java/lang/Object") (10 : Int32) [(.ref e0), .null, .null, .null, .null, .null, .null, .null, .null, .null] .null) (xb : Exa Z h b "[Ljava/lang/Object;") (xe0 : Exa Z h e0 "java/lang/String") :
    Con l (⟨"java/util/Arrays", "copyOf", "([Ljava/lang/Object;I)[Ljava/lang/Object;"⟩ : MethodName) jdk_65_method_119_code 2 (some (.array (.object "java/lang/Object"))) ({ frames := 2, cells := 1, slots := 1, locals := 33 } : Room) Z n0 #[(.ref b), (.int (1 : Int32))] h (fun v h' => ∃ r : Addr, ∃ kr : ClassId, v = some (.ref r) ∧ Keep h h' [] ∧ n0 ≤ r ∧ h.size ≤ r ∧ Arv Z h' r kr (.object "java/lang/Object") (1 : Int32) [(.ref e0)] .null ∧ Exa Z h' r "[Ljava/lang/Object;" ∧ Ovr Z kr "java/lang/Object") := by
  refine Con.of_go (plainFor_of_name pn_10) (Ls := #[.val (.ref b), .val (.int (1 : Int32))]) (fun m => by first | (simp [entryFrame, mkF, argsToLocals, Value.category]; done) | rfl) ?_
  refine Go.aloadN (pc' := 1) d22_0 rfl rfl rfl ?_
  refine Go.iloadN (pc' := 2) d22_1 rfl rfl ?_
  refine Go.aloadN (pc' := 3) d22_2 rfl rfl rfl ?_
  refine Go.getClass (pc' := 6) (ww hw 136 rfl) (ww hw 137 rfl) (ww hw 109 rfl) (ww hw 139 rfl) (ww hw 138 rfl) (ww hw 140 rfl) xb mo d22_3 rfl (nl rfl) (nl rfl) rfl ?_
  refine Go.callS (cells' := 1) (slots' := 1) (pc' := 9) [(.ref b), (.int (1 : Int32)), (.ref mO)] [] (ww hw 142 rfl) (ww hw 143 rfl) (ww hw 134 rfl) (ww hw 144 rfl) (by decide) (c_copyOfC1 l Z a0 hw h b kb e0 mO mo v xb xe0) pd_9 rfl rfl rfl rfl rfl (nl rfl) (nl rfl) (nl rfl) (nl rfl) d22_6 rfl ?_
  rintro _ h1 ⟨r_1, kr_1, rfl, K1, ge_r_1, sz_r_1, F1_0, F1_1, F1_2⟩
  have sz2 : h.size ≤ r_1 := Nat.le_trans (Keep.refl h []).1 sz_r_1
  have K3 : Keep h h1 [] := (Keep.refl h []).trans K1 all0
  show Go _ _ _ _ _ _ _ _ _ _ _ _ 9 #[.val (.ref b), .val (.int (1 : Int32))] [(.ref r_1)]
  exact Go.retR rfl rfl rfl rfl d22_9 ⟨r_1, kr_1, rfl, K3, ge_r_1, sz2, F1_0, F1_1, F1_2⟩ (by decide) (by decide)
theorem d21_0 : decode jdk_38_method_16_code 0 = .ok (.aload_n 0, 1) := by decide +kernel
theorem d21_1 : decode jdk_38_method_16_code 1 = .ok (.getfield 9, 3) := by decide +kernel
theorem d21_4 : decode jdk_38_method_16_code 4 = .ok (.aload_n 0, 1) := by decide +kernel
theorem d21_5 : decode jdk_38_method_16_code 5 = .ok (.getfield 48, 3) := by decide +kernel
theorem d21_8 : decode jdk_38_method_16_code 8 = .ok (.invokestatic 66, 3) := by decide +kernel
theorem d21_11 : decode jdk_38_method_16_code 11 = .ok (.areturn, 1) := by decide +kernel
set_option maxRecDepth 65536 in
set_option maxHeartbeats 4000000 in
theorem c_toArray1 (l : Launch) (Z : State) (a0 : Array Value) (hw : ∀ d ∈ tables_1, d.before a0 Z = true) {n0 : Nat} (h : Heap) (a : Addr) (b : Addr) (kb : ClassId) (e0 : Addr) (mO : Addr) (mo : Mi Z "[Ljava/lang/Object;" mO) (pf0 : Fld Z h a "java/util/ArrayList" "elementData" "[Ljava/lang/Object;" (.ref b)) (pf1 : Fld Z h a "java/util/ArrayList" "size" "I" (.int (1 : Int32))) (v : Arv Z h b kb (.object "java/lang/Object") (10 : Int32) [(.ref e0), .null, .null, .null, .null, .null, .null, .null, .null, .null] .null) (xb : Exa Z h b "[Ljava/lang/Object;") (xe0 : Exa Z h e0 "java/lang/String") :
    Con l (⟨"java/util/ArrayList", "toArray", "()[Ljava/lang/Object;"⟩ : MethodName) jdk_38_method_16_code 1 (some (.array (.object "java/lang/Object"))) ({ frames := 3, cells := 1, slots := 1, locals := 46 } : Room) Z n0 #[(.ref a)] h (fun v h' => ∃ r : Addr, ∃ kr : ClassId, v = some (.ref r) ∧ Keep h h' [] ∧ n0 ≤ r ∧ h.size ≤ r ∧ Arv Z h' r kr (.object "java/lang/Object") (1 : Int32) [(.ref e0)] .null ∧ Exa Z h' r "[Ljava/lang/Object;" ∧ Ovr Z kr "java/lang/Object") := by
  refine Con.of_go (plainFor_of_name pn_2) (Ls := #[.val (.ref a)]) (fun m => by first | (simp [entryFrame, mkF, argsToLocals, Value.category]; done) | rfl) ?_
  refine Go.aloadN (pc' := 1) d21_0 rfl rfl rfl ?_
  refine Go.getfield (pc' := 4) (host := "") (Or.inl (ww hw 52 rfl)) Via.refl pf0 d21_1 rfl ?_
  refine Go.aloadN (pc' := 5) d21_4 rfl rfl rfl ?_
  refine Go.getfield (pc' := 8) (host := "") (Or.inl (ww hw 61 rfl)) Via.refl pf1 d21_5 rfl ?_
  refine Go.callS (cells' := 1) (slots' := 1) (pc' := 11) [(.ref b), (.int (1 : Int32))] [] (ww hw 132 rfl) (ww hw 133 rfl) (ww hw 134 rfl) (ww hw 135 rfl) (by decide) (c_copyOf1 l Z a0 hw h b kb e0 mO mo v xb xe0) pd_10 rfl rfl rfl rfl rfl (nl rfl) (nl rfl) (nl rfl) (nl rfl) d21_8 rfl ?_
  rintro _ h1 ⟨r_1, kr_1, rfl, K1, ge_r_1, sz_r_1, F1_0, F1_1, F1_2⟩
  have sz2 : h.size ≤ r_1 := Nat.le_trans (Keep.refl h []).1 sz_r_1
  have K3 : Keep h h1 [] := (Keep.refl h []).trans K1 all0
  show Go _ _ _ _ _ _ _ _ _ _ _ _ 11 #[.val (.ref a)] [(.ref r_1)]
  exact Go.retR rfl rfl rfl rfl d21_11 ⟨r_1, kr_1, rfl, K3, ge_r_1, sz2, F1_0, F1_1, F1_2⟩ (by decide) (by decide)
theorem d25_0 : decode jdk_40_method_47_code 0 = .ok (.aload_n 0, 1) := by decide +kernel
theorem d25_1 : decode jdk_40_method_47_code 1 = .ok (.arraylength, 1) := by decide +kernel
theorem d25_2 : decode jdk_40_method_47_code 2 = .ok (.tableswitch 57 0 2 #[26, 32, 43], 26) := by decide +kernel
theorem d25_34 : decode jdk_40_method_47_code 34 = .ok (.new 96, 3) := by decide +kernel
theorem d25_37 : decode jdk_40_method_47_code 37 = .ok (.dup, 1) := by decide +kernel
theorem d25_38 : decode jdk_40_method_47_code 38 = .ok (.aload_n 0, 1) := by decide +kernel
theorem d25_39 : decode jdk_40_method_47_code 39 = .ok (.iconst 0, 1) := by decide +kernel
theorem d25_40 : decode jdk_40_method_47_code 40 = .ok (.aaload, 1) := by decide +kernel
theorem d25_41 : decode jdk_40_method_47_code 41 = .ok (.invokespecial 98, 3) := by decide +kernel
theorem d25_44 : decode jdk_40_method_47_code 44 = .ok (.areturn, 1) := by decide +kernel
set_option maxRecDepth 65536 in
set_option maxHeartbeats 4000000 in
theorem c_ofA1 (l : Launch) (Z : State) (a0 : Array Value) (hw : ∀ d ∈ tables_1, d.before a0 Z = true) {n0 : Nat} (h : Heap) (b : Addr) (kb : ClassId) (e0 : Addr) (wE : Addr) (se : Sta Z Z.heap "java/util/ImmutableCollections" "EMPTY" "Ljava/lang/Object;" (.ref wE)) (xE : Exa Z Z.heap wE "java/lang/Object") (v : Arv Z h b kb (.object "java/lang/Object") (1 : Int32) [(.ref e0)] .null) (xe0 : Exa Z h e0 "java/lang/String") :
    Con l (⟨"java/util/List", "of", "([Ljava/lang/Object;)Ljava/util/List;"⟩ : MethodName) jdk_40_method_47_code 2 (some (.object "java/util/List")) ({ frames := 5, cells := 1, slots := 2, locals := 62 } : Room) Z n0 #[(.ref b)] h (fun v h' => ∃ r : Addr, v = some (.ref r) ∧ Keep h h' [] ∧ n0 ≤ r ∧ h.size ≤ r ∧ Exa Z h' r "java/util/ImmutableCollections$List12" ∧ Fld Z h' r "java/util/ImmutableCollections$List12" "e0" "Ljava/lang/Object;" (.ref e0) ∧ Fld Z h' r "java/util/ImmutableCollections$List12" "e1" "Ljava/lang/Object;" (.ref wE)) := by
  refine Con.of_go (plainFor_of_name pn_8) (Ls := #[.val (.ref b), .unset]) (fun m => by first | (simp [entryFrame, mkF, argsToLocals, Value.category]; done) | rfl) ?_
  refine Go.aloadN (pc' := 1) d25_0 rfl rfl rfl ?_
  refine Go.arraylength (pc' := 2) v d25_1 rfl ?_
  refine Go.tsw (pc' := 34) (o := 32) d25_2 (by decide) (by decide) (by decide) (by decide) ?_
  refine Go.new (pc' := 37) (cells' := 1) (slots' := 2) (ww hw 189 rfl) (ww hw 190 rfl) (ww hw 191 rfl) d25_34 rfl rfl (by decide) (by decide) rfl ?_
  intro h1 b1 g1 E1 ge1 A1 D1
  have sz2 : h.size ≤ b1 := Nat.le_trans (Keep.refl h []).1 (Nat.le_of_eq g1.symm)
  have K3 : Keep h h1 [] := (Keep.refl h []).ext E1
  refine Go.dup (pc' := 38) d25_37 rfl rfl ?_
  refine Go.aloadN (pc' := 39) d25_38 rfl rfl rfl ?_
  refine Go.iconst (pc' := 40) (v := (0 : Int32)) d25_39 rfl rfl ?_
  refine Go.aaload (pc' := 41) (v := (.ref e0)) (v.ext E1) rfl d25_40 (by decide) (by decide) rfl rfl ?_
  refine Go.callC (cells' := 1) (slots' := 2) (pc' := 44) [(.ref e0)] [(.ref b1)] (a := b1) rfl rfl (ww hw 231 rfl) (ww hw 232 rfl) (ww hw 191 rfl) (ww hw 233 rfl) (by decide) (c_l1Init l Z a0 hw h1 b1 e0 wE se xE ge1 A1 ((D1 (Or.inr (ww hw 202 rfl)) (ty := (.object "java/lang/Object")) (by decide) : Fld Z h1 b1 "java/util/ImmutableCollections$List12" "e0" "Ljava/lang/Object;" .null)) ((D1 (Or.inr (ww hw 204 rfl)) (ty := (.object "java/lang/Object")) (by decide) : Fld Z h1 b1 "java/util/ImmutableCollections$List12" "e1" "Ljava/lang/Object;" .null))) pd_11 rfl rfl rfl rfl rfl (nl rfl) (nl rfl) (nl rfl) (nl rfl) d25_41 rfl ?_
  rintro _ h4 ⟨rfl, K4, F4_0, F4_1⟩
  have K5 : Keep h h4 [] := K3.trans K4 (allS (Or.inr sz2) all0)
  show Go _ _ _ _ _ _ _ _ _ _ _ _ 44 #[.val (.ref b), .unset] [(.ref b1)]
  exact Go.retR rfl rfl rfl rfl d25_44 ⟨b1, rfl, K5, ge1, sz2, (A1.keep K4), F4_0, F4_1⟩ (by decide) (by decide)
theorem d18_44 : decode jdk_56_method_3_code 44 = .ok (.aload_n 0, 1) := by decide +kernel
theorem d18_45 : decode jdk_56_method_3_code 45 = .ok (.invokeinterface 30 1, 5) := by decide +kernel
theorem d18_50 : decode jdk_56_method_3_code 50 = .ok (.invokestatic 34, 3) := by decide +kernel
theorem d18_53 : decode jdk_56_method_3_code 53 = .ok (.areturn, 1) := by decide +kernel
set_option maxRecDepth 65536 in
set_option maxHeartbeats 4000000 in
theorem c_listCopy1 (l : Launch) (Z : State) (a0 : Array Value) (hw : ∀ d ∈ tables_1, d.before a0 Z = true) {n0 : Nat} (h : Heap) (a : Addr) (b : Addr) (kb : ClassId) (e0 : Addr) (wE : Addr) (mO : Addr) (se : Sta Z Z.heap "java/util/ImmutableCollections" "EMPTY" "Ljava/lang/Object;" (.ref wE)) (xE : Exa Z Z.heap wE "java/lang/Object") (mo : Mi Z "[Ljava/lang/Object;" mO) (xa : Exa Z h a "java/util/ArrayList") (pf0 : Fld Z h a "java/util/ArrayList" "elementData" "[Ljava/lang/Object;" (.ref b)) (pf1 : Fld Z h a "java/util/ArrayList" "size" "I" (.int (1 : Int32))) (v : Arv Z h b kb (.object "java/lang/Object") (10 : Int32) [(.ref e0), .null, .null, .null, .null, .null, .null, .null, .null, .null] .null) (xb : Exa Z h b "[Ljava/lang/Object;") (xe0 : Exa Z h e0 "java/lang/String") :
    Con l (⟨"java/util/ImmutableCollections", "listCopy", "(Ljava/util/Collection;)Ljava/util/List;"⟩ : MethodName) jdk_56_method_3_code 2 (some (.object "java/util/List")) ({ frames := 6, cells := 2, slots := 3, locals := 75 } : Room) Z n0 #[(.ref a)] h (fun v h' => ∃ r : Addr, v = some (.ref r) ∧ Keep h h' [] ∧ n0 ≤ r ∧ h.size ≤ r ∧ Exa Z h' r "java/util/ImmutableCollections$List12" ∧ Fld Z h' r "java/util/ImmutableCollections$List12" "e0" "Ljava/lang/Object;" (.ref e0) ∧ Fld Z h' r "java/util/ImmutableCollections$List12" "e1" "Ljava/lang/Object;" (.ref wE)) := by
  refine Con.of_go (plainFor_of_name pn_9) (Ls := #[.val (.ref a), .unset]) (fun m => by first | (simp [entryFrame, mkF, argsToLocals, Value.category]; done) | rfl) ?_
  refine Go.aloadN (pc' := 1) d18_0 rfl rfl rfl ?_
  refine Go.instNo (pc' := 4) (ww hw 105 rfl) xa (own_nno (ww hw 106 rfl) (ww hw 190 rfl) (NS.step (ww hw 106 rfl) (NS.step (ww hw 107 rfl) (NS.step (ww hw 108 rfl) (own_nroot (ww hw 109 rfl) (ww hw 190 rfl) (by decide)) (by decide)) (by decide)) (by decide)) (by decide)) d18_1 rfl ?_
  refine Go.ifNo (pc' := 7) d18_4 (XT.i0_ne_f (by decide)) rfl ?_
  refine Go.aloadN (pc' := 8) d18_7 rfl rfl rfl ?_
  refine Go.instNo (pc' := 11) (ww hw 110 rfl) xa (own_nno (ww hw 106 rfl) (ww hw 165 rfl) (NS.step (ww hw 106 rfl) (NS.step (ww hw 107 rfl) (NS.step (ww hw 108 rfl) (own_nroot (ww hw 109 rfl) (ww hw 165 rfl) (by decide)) (by decide)) (by decide)) (by decide)) (by decide)) d18_8 rfl ?_
  refine Go.ifYes (pc' := 31) d18_11 (XT.i0_eq_t (by decide)) (by decide) (by decide) ?_
  refine Go.aloadN (pc' := 32) d18_31 rfl rfl rfl ?_
  refine Go.callI (cells' := 0) (slots' := 0) (pc' := 37) [] [] xa (ww hw 111 rfl) (ww hw 112 rfl) (ww hw 113 rfl) (ww hw 114 rfl) (ww hw 115 rfl) (ww hw 116 rfl) (ww hw 117 rfl) (ww hw 118 rfl) (ww hw 32 rfl) (ww hw 119 rfl) (by decide) (c_alEmptyN l Z a0 hw h a (1 : Int32) (by decide) pf1) pd_6 rfl rfl rfl rfl rfl (nl rfl) (nl rfl) (nl rfl) (nl rfl) d18_32 rfl ?_
  rintro _ _ ⟨rfl, rfl⟩
  show Go _ _ _ _ _ _ _ _ _ _ _ _ 37 #[.val (.ref a), .unset] [(.int (0 : Int32))]
  refine Go.ifYes (pc' := 44) d18_37 (XT.i0_eq_t (by decide)) (by decide) (by decide) ?_
  refine Go.aloadN (pc' := 45) d18_44 rfl rfl rfl ?_
  refine Go.callI (cells' := 1) (slots' := 1) (pc' := 50) [] [] xa (ww hw 124 rfl) (ww hw 125 rfl) (ww hw 126 rfl) (ww hw 127 rfl) (ww hw 128 rfl) (ww hw 129 rfl) (ww hw 130 rfl) (ww hw 118 rfl) (ww hw 32 rfl) (ww hw 131 rfl) (by decide) (c_toArray1 l Z a0 hw h a b kb e0 mO mo pf0 pf1 v xb xe0) pd_3 rfl rfl rfl rfl rfl (nl rfl) (nl rfl) (nl rfl) (nl rfl) d18_45 rfl ?_
  rintro _ h2 ⟨r_2, kr_2, rfl, K2, ge_r_2, sz_r_2, F2_0, F2_1, F2_2⟩
  have sz3 : h.size ≤ r_2 := Nat.le_trans (Keep.refl h []).1 sz_r_2
  have K4 : Keep h h2 [] := (Keep.refl h []).trans K2 all0
  show Go _ _ _ _ _ _ _ _ _ _ _ _ 50 #[.val (.ref a), .unset] [(.ref r_2)]
  refine Go.callS (cells' := 2) (slots' := 3) (pc' := 53) [(.ref r_2)] [] (ww hw 154 rfl) (ww hw 155 rfl) (ww hw 99 rfl) (ww hw 156 rfl) (by decide) (c_ofA1 l Z a0 hw h2 r_2 kr_2 e0 wE se xE F2_0 (xe0.keep K2)) pd_12 rfl rfl rfl rfl rfl (nl rfl) (nl rfl) (nl rfl) (nl rfl) d18_50 rfl ?_
  rintro _ h5 ⟨r_5, rfl, K5, ge_r_5, sz_r_5, F5_0, F5_1, F5_2⟩
  have sz6 : h.size ≤ r_5 := Nat.le_trans K4.1 sz_r_5
  have K7 : Keep h h5 [] := K4.trans K5 all0
  show Go _ _ _ _ _ _ _ _ _ _ _ _ 53 #[.val (.ref a), .unset] [(.ref r_5)]
  exact Go.retR rfl rfl rfl rfl d18_53 ⟨r_5, rfl, K7, ge_r_5, sz6, F5_0, F5_1, F5_2⟩ (by decide) (by decide)
set_option maxRecDepth 65536 in
set_option maxHeartbeats 4000000 in
theorem c_copy1 (l : Launch) (Z : State) (a0 : Array Value) (hw : ∀ d ∈ tables_1, d.before a0 Z = true) {n0 : Nat} (h : Heap) (a : Addr) (b : Addr) (kb : ClassId) (e0 : Addr) (wE : Addr) (mO : Addr) (se : Sta Z Z.heap "java/util/ImmutableCollections" "EMPTY" "Ljava/lang/Object;" (.ref wE)) (xE : Exa Z Z.heap wE "java/lang/Object") (mo : Mi Z "[Ljava/lang/Object;" mO) (xa : Exa Z h a "java/util/ArrayList") (pf0 : Fld Z h a "java/util/ArrayList" "elementData" "[Ljava/lang/Object;" (.ref b)) (pf1 : Fld Z h a "java/util/ArrayList" "size" "I" (.int (1 : Int32))) (v : Arv Z h b kb (.object "java/lang/Object") (10 : Int32) [(.ref e0), .null, .null, .null, .null, .null, .null, .null, .null, .null] .null) (xb : Exa Z h b "[Ljava/lang/Object;") (xe0 : Exa Z h e0 "java/lang/String") :
    Con l (⟨"java/util/List", "copyOf", "(Ljava/util/Collection;)Ljava/util/List;"⟩ : MethodName) jdk_40_method_48_code 1 (some (.object "java/util/List")) ({ frames := 8, cells := 3, slots := 8, locals := 103 } : Room) Z n0 #[(.ref a)] h (fun v h' => ∃ r : Addr, v = some (.ref r) ∧ Keep h h' [] ∧ n0 ≤ r ∧ h.size ≤ r ∧ Exa Z h' r "java/util/ImmutableCollections$List12" ∧ Fld Z h' r "java/util/ImmutableCollections$List12" "e0" "Ljava/lang/Object;" (.ref e0) ∧ Fld Z h' r "java/util/ImmutableCollections$List12" "e1" "Ljava/lang/Object;" (.ref wE)) := by
  refine Con.of_go (plainFor_of_name pn_8) (Ls := #[.val (.ref a)]) (fun m => by first | (simp [entryFrame, mkF, argsToLocals, Value.category]; done) | rfl) ?_
  refine Go.aloadN (pc' := 1) d17_0 rfl rfl rfl ?_
  refine Go.callS (cells' := 2) (slots' := 3) (pc' := 4) [(.ref a)] [] (ww hw 101 rfl) (ww hw 102 rfl) (ww hw 103 rfl) (ww hw 104 rfl) (by decide) (c_listCopy1 l Z a0 hw h a b kb e0 wE mO se xE mo xa pf0 pf1 v xb xe0) pd_8 rfl rfl rfl rfl rfl (nl rfl) (nl rfl) (nl rfl) (nl rfl) d17_1 rfl ?_
  rintro _ h1 ⟨r_1, rfl, K1, ge_r_1, sz_r_1, F1_0, F1_1, F1_2⟩
  have sz2 : h.size ≤ r_1 := Nat.le_trans (Keep.refl h []).1 sz_r_1
  have K3 : Keep h h1 [] := (Keep.refl h []).trans K1 all0
  show Go _ _ _ _ _ _ _ _ _ _ _ _ 4 #[.val (.ref a)] [(.ref r_1)]
  exact Go.retR rfl rfl rfl rfl d17_4 ⟨r_1, rfl, K3, ge_r_1, sz2, F1_0, F1_1, F1_2⟩ (by decide) (by decide)
set_option maxRecDepth 65536 in
set_option maxHeartbeats 4000000 in
theorem c_min2 (l : Launch) (Z : State) (a0 : Array Value) (hw : ∀ d ∈ tables_1, d.before a0 Z = true) {n0 : Nat} (h : Heap) :
    Con l (⟨"java/lang/Math", "min", "(II)I"⟩ : MethodName) jdk_29_method_69_code 2 (some .int) ({ frames := 0, cells := 0, slots := 0, locals := 0 } : Room) Z n0 #[(.int (10 : Int32)), (.int (2 : Int32))] h (fun v h' => v = some (.int (2 : Int32)) ∧ h = h') := by
  refine Con.of_go (Jvm.Free.JP.mathPlain rfl (by decide +kernel)) (Ls := #[.val (.int (10 : Int32)), .val (.int (2 : Int32))]) (fun m => by first | (simp [entryFrame, mkF, argsToLocals, Value.category]; done) | rfl) ?_
  refine Go.iloadN (pc' := 1) d24_0 rfl rfl ?_
  refine Go.iloadN (pc' := 2) d24_1 rfl rfl ?_
  refine Go.icmpYes (pc' := 9) d24_2 (XT.ii_gt_t (by decide)) (by decide) (by decide) ?_
  refine Go.iloadN (pc' := 10) d24_9 rfl rfl ?_
  exact Go.retI rfl d24_10 ⟨rfl, rfl⟩ (by decide) (by decide)
set_option maxRecDepth 65536 in
set_option maxHeartbeats 4000000 in
theorem c_copyOfC2 (l : Launch) (Z : State) (a0 : Array Value) (hw : ∀ d ∈ tables_1, d.before a0 Z = true) {n0 : Nat} (h : Heap) (b : Addr) (kb : ClassId) (e0 : Addr) (e1 : Addr) (mO : Addr) (mo : Mi Z "[Ljava/lang/Object;" mO) (v : Arv Z h b kb (.object "java/lang/Object") (10 : Int32) [(.ref e0), (.ref e1), .null, .null, .null, .null, .null, .null, .null, .null] .null) (xb : Exa Z h b "[Ljava/lang/Object;") (xe0 : Exa Z h e0 "java/lang/String") (xe1 : Exa Z h e1 "java/lang/String") :
    Con l (⟨"java/util/Arrays", "copyOf", "([Ljava/lang/Object;ILjava/lang/Class;)[Ljava/lang/Object;"⟩ : MethodName) jdk_65_method_120_code 4 (some (.array (.object "java/lang/Object"))) ({ frames := 1, cells := 1, slots := 2, locals := 18 } : Room) Z n0 #[(.ref b), (.int (2 : Int32)), (.ref mO)] h (fun v h' => ∃ r : Addr, ∃ kr : ClassId, v = some (.ref r) ∧ Keep h h' [] ∧ n0 ≤ r ∧ h.size ≤ r ∧ Arv Z h' r kr (.object "java/lang/Object") (2 : Int32) [(.ref e0), (.ref e1)] .null ∧ Exa Z h' r "[Ljava/lang/Object;" ∧ Ovr Z kr "java/lang/Object") := by
  refine Con.of_go (plainFor_of_name pn_10) (Ls := #[.val (.ref b), .val (.int (2 : Int32)), .val (.ref mO), .unset]) (fun m => by first | (simp [entryFrame, mkF, argsToLocals, Value.category]; done) | rfl) ?_
  refine Go.aloadN (pc' := 1) d23_0 rfl rfl rfl ?_
  refine Go.ldcMirror (pc' := 3) (ww hw 145 rfl) mo d23_1 rfl ?_
  refine Go.acmpNo (pc' := 6) d23_3 rfl rfl (XT.aa_ne_f rfl) rfl ?_
  refine Go.iloadN (pc' := 7) d23_6 rfl rfl ?_
  refine Go.anewarray (pc' := 10) (cells' := 1) (slots' := 2) (cap := 2) (ww hw 146 rfl) (ww hw 83 rfl) d23_7 (ad := "[Ljava/lang/Object;") (by decide) (by decide) (by decide) rfl rfl (by decide) (by decide) (by decide) rfl ?_
  intro h1 b1 g1 E1 ge1 kA1 A1 X1 O1
  have sz2 : h.size ≤ b1 := Nat.le_trans (Keep.refl h []).1 (Nat.le_of_eq g1.symm)
  have K3 : Keep h h1 [] := (Keep.refl h []).ext E1
  have V1 : Arv Z h1 b1 kA1 (.object "java/lang/Object") (2 : Int32) [.null, .null] .null := Arv.pad A1 (pad_rep [] .null 2)
  refine Go.goto (pc' := 24) d23_10 (by decide) (by decide) ?_
  refine Go.astoreN (pc' := 25) (Ls' := #[.val (.ref b), .val (.int (2 : Int32)), .val (.ref mO), .val (.ref b1)]) d23_24 rfl rfl rfl ?_
  refine Go.aloadN (pc' := 26) d23_25 rfl rfl rfl ?_
  refine Go.iconst (pc' := 27) (v := (0 : Int32)) d23_26 rfl rfl ?_
  refine Go.aloadN (pc' := 28) d23_27 rfl rfl rfl ?_
  refine Go.iconst (pc' := 29) (v := (0 : Int32)) d23_28 rfl rfl ?_
  refine Go.aloadN (pc' := 30) d23_29 rfl rfl rfl ?_
  refine Go.arraylength (pc' := 31) (v.ext E1) d23_30 rfl ?_
  refine Go.iloadN (pc' := 32) d23_31 rfl rfl ?_
  refine Go.callS (cells' := 1) (slots' := 2) (pc' := 35) [(.int (10 : Int32)), (.int (2 : Int32))] [(.int (0 : Int32)), (.ref b1), (.int (0 : Int32)), (.ref b)] (ww hw 147 rfl) (ww hw 148 rfl) (ww hw 80 rfl) (ww hw 149 rfl) (by decide) (c_min2 l Z a0 hw h1) pd_1 rfl rfl rfl rfl rfl (nl rfl) (nl rfl) (nl rfl) (nl rfl) d23_32 rfl ?_
  rintro _ _ ⟨rfl, rfl⟩
  show Go _ _ _ _ _ _ _ _ _ _ _ _ 35 #[.val (.ref b), .val (.int (2 : Int32)), .val (.ref mO), .val (.ref b1)] [(.int (2 : Int32)), (.int (0 : Int32)), (.ref b1), (.int (0 : Int32)), (.ref b)]
  refine Go.arraycopy (pc' := 38) (us := [(.ref e0), (.ref e1)]) (vd' := [(.ref e0), (.ref e1)]) (ww hw 150 rfl) (ww hw 153 rfl) (ww hw 151 rfl) (ww hw 152 rfl) (v.ext E1) V1 (Or.inr ⟨rfl, rfl, ⟨(own_sto V1 O1 (Ins.of_exa (xe0.ext E1) (ww hw 84 rfl))), ⟨(own_sto V1 O1 (Ins.of_exa (xe1.ext E1) (ww hw 84 rfl))), trivial⟩⟩⟩) (by decide) (by decide) (by decide) (by decide) (by decide) rfl (nl rfl) rfl ge1 d23_35 rfl (nl rfl) (nl rfl) rfl ?_
  intro h5 K6 V7
  have K8 : Keep h h5 [] := K3.trans K6 (allS (Or.inr sz2) all0)
  refine Go.aloadN (pc' := 39) d23_38 rfl rfl rfl ?_
  exact Go.retR rfl rfl rfl rfl d23_39 ⟨b1, kA1, rfl, K8, ge1, sz2, V7, (X1.keep K6), O1⟩ (by decide) (by decide)
set_option maxRecDepth 65536 in
set_option maxHeartbeats 4000000 in
theorem c_copyOf2 (l : Launch) (Z : State) (a0 : Array Value) (hw : ∀ d ∈ tables_1, d.before a0 Z = true) {n0 : Nat} (h : Heap) (b : Addr) (kb : ClassId) (e0 : Addr) (e1 : Addr) (mO : Addr) (mo : Mi Z "[Ljava/lang/Object;" mO) (v : Arv Z h b kb (.object "java/lang/Object") (10 : Int32) [(.ref e0), (.ref e1), .null, .null, .null, .null, .null, .null, .null, .null] .null) (xb : Exa Z h b "[Ljava/lang/Object;") (xe0 : Exa Z h e0 "java/lang/String") (xe1 : Exa Z h e1 "java/lang/String") :
    Con l (⟨"java/util/Arrays", "copyOf", "([Ljava/lang/Object;I)[Ljava/lang/Object;"⟩ : MethodName) jdk_65_method_119_code 2 (some (.array (.object "java/lang/Object"))) ({ frames := 2, cells := 1, slots := 2, locals := 33 } : Room) Z n0 #[(.ref b), (.int (2 : Int32))] h (fun v h' => ∃ r : Addr, ∃ kr : ClassId, v = some (.ref r) ∧ Keep h h' [] ∧ n0 ≤ r ∧ h.size ≤ r ∧ Arv Z h' r kr (.object "java/lang/Object") (2 : Int32) [(.ref e0), (.ref e1)] .null ∧ Exa Z h' r "[Ljava/lang/Object;" ∧ Ovr Z kr "java/lang/Object") := by
  refine Con.of_go (plainFor_of_name pn_10) (Ls := #[.val (.ref b), .val (.int (2 : Int32))]) (fun m => by first | (simp [entryFrame, mkF, argsToLocals, Value.category]; done) | rfl) ?_
  refine Go.aloadN (pc' := 1) d22_0 rfl rfl rfl ?_
  refine Go.iloadN (pc' := 2) d22_1 rfl rfl ?_
  refine Go.aloadN (pc' := 3) d22_2 rfl rfl rfl ?_
  refine Go.getClass (pc' := 6) (ww hw 136 rfl) (ww hw 137 rfl) (ww hw 109 rfl) (ww hw 139 rfl) (ww hw 138 rfl) (ww hw 140 rfl) xb mo d22_3 rfl (nl rfl) (nl rfl) rfl ?_
  refine Go.callS (cells' := 1) (slots' := 2) (pc' := 9) [(.ref b), (.int (2 : Int32)), (.ref mO)] [] (ww hw 142 rfl) (ww hw 143 rfl) (ww hw 134 rfl) (ww hw 144 rfl) (by decide) (c_copyOfC2 l Z a0 hw h b kb e0 e1 mO mo v xb xe0 xe1) pd_9 rfl rfl rfl rfl rfl (nl rfl) (nl rfl) (nl rfl) (nl rfl) d22_6 rfl ?_
  rintro _ h1 ⟨r_1, kr_1, rfl, K1, ge_r_1, sz_r_1, F1_0, F1_1, F1_2⟩
  have sz2 : h.size ≤ r_1 := Nat.le_trans (Keep.refl h []).1 sz_r_1
  have K3 : Keep h h1 [] := (Keep.refl h []).trans K1 all0
  show Go _ _ _ _ _ _ _ _ _ _ _ _ 9 #[.val (.ref b), .val (.int (2 : Int32))] [(.ref r_1)]
  exact Go.retR rfl rfl rfl rfl d22_9 ⟨r_1, kr_1, rfl, K3, ge_r_1, sz2, F1_0, F1_1, F1_2⟩ (by decide) (by decide)
set_option maxRecDepth 65536 in
set_option maxHeartbeats 4000000 in
theorem c_toArray2 (l : Launch) (Z : State) (a0 : Array Value) (hw : ∀ d ∈ tables_1, d.before a0 Z = true) {n0 : Nat} (h : Heap) (a : Addr) (b : Addr) (kb : ClassId) (e0 : Addr) (e1 : Addr) (mO : Addr) (mo : Mi Z "[Ljava/lang/Object;" mO) (pf0 : Fld Z h a "java/util/ArrayList" "elementData" "[Ljava/lang/Object;" (.ref b)) (pf1 : Fld Z h a "java/util/ArrayList" "size" "I" (.int (2 : Int32))) (v : Arv Z h b kb (.object "java/lang/Object") (10 : Int32) [(.ref e0), (.ref e1), .null, .null, .null, .null, .null, .null, .null, .null] .null) (xb : Exa Z h b "[Ljava/lang/Object;") (xe0 : Exa Z h e0 "java/lang/String") (xe1 : Exa Z h e1 "java/lang/String") :
    Con l (⟨"java/util/ArrayList", "toArray", "()[Ljava/lang/Object;"⟩ : MethodName) jdk_38_method_16_code 1 (some (.array (.object "java/lang/Object"))) ({ frames := 3, cells := 1, slots := 2, locals := 46 } : Room) Z n0 #[(.ref a)] h (fun v h' => ∃ r : Addr, ∃ kr : ClassId, v = some (.ref r) ∧ Keep h h' [] ∧ n0 ≤ r ∧ h.size ≤ r ∧ Arv Z h' r kr (.object "java/lang/Object") (2 : Int32) [(.ref e0), (.ref e1)] .null ∧ Exa Z h' r "[Ljava/lang/Object;" ∧ Ovr Z kr "java/lang/Object") := by
  refine Con.of_go (plainFor_of_name pn_2) (Ls := #[.val (.ref a)]) (fun m => by first | (simp [entryFrame, mkF, argsToLocals, Value.category]; done) | rfl) ?_
  refine Go.aloadN (pc' := 1) d21_0 rfl rfl rfl ?_
  refine Go.getfield (pc' := 4) (host := "") (Or.inl (ww hw 52 rfl)) Via.refl pf0 d21_1 rfl ?_
  refine Go.aloadN (pc' := 5) d21_4 rfl rfl rfl ?_
  refine Go.getfield (pc' := 8) (host := "") (Or.inl (ww hw 61 rfl)) Via.refl pf1 d21_5 rfl ?_
  refine Go.callS (cells' := 1) (slots' := 2) (pc' := 11) [(.ref b), (.int (2 : Int32))] [] (ww hw 132 rfl) (ww hw 133 rfl) (ww hw 134 rfl) (ww hw 135 rfl) (by decide) (c_copyOf2 l Z a0 hw h b kb e0 e1 mO mo v xb xe0 xe1) pd_10 rfl rfl rfl rfl rfl (nl rfl) (nl rfl) (nl rfl) (nl rfl) d21_8 rfl ?_
  rintro _ h1 ⟨r_1, kr_1, rfl, K1, ge_r_1, sz_r_1, F1_0, F1_1, F1_2⟩
  have sz2 : h.size ≤ r_1 := Nat.le_trans (Keep.refl h []).1 sz_r_1
  have K3 : Keep h h1 [] := (Keep.refl h []).trans K1 all0
  show Go _ _ _ _ _ _ _ _ _ _ _ _ 11 #[.val (.ref a)] [(.ref r_1)]
  exact Go.retR rfl rfl rfl rfl d21_11 ⟨r_1, kr_1, rfl, K3, ge_r_1, sz2, F1_0, F1_1, F1_2⟩ (by decide) (by decide)
theorem d25_45 : decode jdk_40_method_47_code 45 = .ok (.new 96, 3) := by decide +kernel
theorem d25_48 : decode jdk_40_method_47_code 48 = .ok (.dup, 1) := by decide +kernel
theorem d25_49 : decode jdk_40_method_47_code 49 = .ok (.aload_n 0, 1) := by decide +kernel
theorem d25_50 : decode jdk_40_method_47_code 50 = .ok (.iconst 0, 1) := by decide +kernel
theorem d25_51 : decode jdk_40_method_47_code 51 = .ok (.aaload, 1) := by decide +kernel
theorem d25_52 : decode jdk_40_method_47_code 52 = .ok (.aload_n 0, 1) := by decide +kernel
theorem d25_53 : decode jdk_40_method_47_code 53 = .ok (.iconst 1, 1) := by decide +kernel
theorem d25_54 : decode jdk_40_method_47_code 54 = .ok (.aaload, 1) := by decide +kernel
theorem d25_55 : decode jdk_40_method_47_code 55 = .ok (.invokespecial 100, 3) := by decide +kernel
theorem d25_58 : decode jdk_40_method_47_code 58 = .ok (.areturn, 1) := by decide +kernel
set_option maxRecDepth 65536 in
set_option maxHeartbeats 4000000 in
theorem c_ofA2 (l : Launch) (Z : State) (a0 : Array Value) (hw : ∀ d ∈ tables_1, d.before a0 Z = true) {n0 : Nat} (h : Heap) (b : Addr) (kb : ClassId) (e0 : Addr) (e1 : Addr) (v : Arv Z h b kb (.object "java/lang/Object") (2 : Int32) [(.ref e0), (.ref e1)] .null) (xe0 : Exa Z h e0 "java/lang/String") (xe1 : Exa Z h e1 "java/lang/String") :
    Con l (⟨"java/util/List", "of", "([Ljava/lang/Object;)Ljava/util/List;"⟩ : MethodName) jdk_40_method_47_code 2 (some (.object "java/util/List")) ({ frames := 5, cells := 1, slots := 2, locals := 63 } : Room) Z n0 #[(.ref b)] h (fun v h' => ∃ r : Addr, v = some (.ref r) ∧ Keep h h' [] ∧ n0 ≤ r ∧ h.size ≤ r ∧ Exa Z h' r "java/util/ImmutableCollections$List12" ∧ Fld Z h' r "java/util/ImmutableCollections$List12" "e0" "Ljava/lang/Object;" (.ref e0) ∧ Fld Z h' r "java/util/ImmutableCollections$List12" "e1" "Ljava/lang/Object;" (.ref e1)) := by
  refine Con.of_go (plainFor_of_name pn_8) (Ls := #[.val (.ref b), .unset]) (fun m => by first | (simp [entryFrame, mkF, argsToLocals, Value.category]; done) | rfl) ?_
  refine Go.aloadN (pc' := 1) d25_0 rfl rfl rfl ?_
  refine Go.arraylength (pc' := 2) v d25_1 rfl ?_
  refine Go.tsw (pc' := 45) (o := 43) d25_2 (by decide) (by decide) (by decide) (by decide) ?_
  refine Go.new (pc' := 48) (cells' := 1) (slots' := 2) (ww hw 189 rfl) (ww hw 190 rfl) (ww hw 191 rfl) d25_45 rfl rfl (by decide) (by decide) rfl ?_
  intro h1 b1 g1 E1 ge1 A1 D1
  have sz2 : h.size ≤ b1 := Nat.le_trans (Keep.refl h []).1 (Nat.le_of_eq g1.symm)
  have K3 : Keep h h1 [] := (Keep.refl h []).ext E1
  refine Go.dup (pc' := 49) d25_48 rfl rfl ?_
  refine Go.aloadN (pc' := 50) d25_49 rfl rfl rfl ?_
  refine Go.iconst (pc' := 51) (v := (0 : Int32)) d25_50 rfl rfl ?_
  refine Go.aaload (pc' := 52) (v := (.ref e0)) (v.ext E1) rfl d25_51 (by decide) (by decide) rfl rfl ?_
  refine Go.aloadN (pc' := 53) d25_52 rfl rfl rfl ?_
  refine Go.iconst (pc' := 54) (v := (1 : Int32)) d25_53 rfl rfl ?_
  refine Go.aaload (pc' := 55) (v := (.ref e1)) (v.ext E1) rfl d25_54 (by decide) (by decide) rfl rfl ?_
  refine Go.callC (cells' := 1) (slots' := 2) (pc' := 58) [(.ref e0), (.ref e1)] [(.ref b1)] (a := b1) rfl rfl (ww hw 192 rfl) (ww hw 193 rfl) (ww hw 191 rfl) (ww hw 195 rfl) (by decide) (c_l2Init l Z a0 hw h1 b1 e0 e1 ge1 A1 ((D1 (Or.inr (ww hw 202 rfl)) (ty := (.object "java/lang/Object")) (by decide) : Fld Z h1 b1 "java/util/ImmutableCollections$List12" "e0" "Ljava/lang/Object;" .null)) ((D1 (Or.inr (ww hw 204 rfl)) (ty := (.object "java/lang/Object")) (by decide) : Fld Z h1 b1 "java/util/ImmutableCollections$List12" "e1" "Ljava/lang/Object;" .null))) pd_13 rfl rfl rfl rfl rfl (nl rfl) (nl rfl) (nl rfl) (nl rfl) d25_55 rfl ?_
  rintro _ h4 ⟨rfl, K4, F4_0, F4_1⟩
  have K5 : Keep h h4 [] := K3.trans K4 (allS (Or.inr sz2) all0)
  show Go _ _ _ _ _ _ _ _ _ _ _ _ 58 #[.val (.ref b), .unset] [(.ref b1)]
  exact Go.retR rfl rfl rfl rfl d25_58 ⟨b1, rfl, K5, ge1, sz2, (A1.keep K4), F4_0, F4_1⟩ (by decide) (by decide)
set_option maxRecDepth 65536 in
set_option maxHeartbeats 4000000 in
theorem c_listCopy2 (l : Launch) (Z : State) (a0 : Array Value) (hw : ∀ d ∈ tables_1, d.before a0 Z = true) {n0 : Nat} (h : Heap) (a : Addr) (b : Addr) (kb : ClassId) (e0 : Addr) (e1 : Addr) (mO : Addr) (mo : Mi Z "[Ljava/lang/Object;" mO) (xa : Exa Z h a "java/util/ArrayList") (pf0 : Fld Z h a "java/util/ArrayList" "elementData" "[Ljava/lang/Object;" (.ref b)) (pf1 : Fld Z h a "java/util/ArrayList" "size" "I" (.int (2 : Int32))) (v : Arv Z h b kb (.object "java/lang/Object") (10 : Int32) [(.ref e0), (.ref e1), .null, .null, .null, .null, .null, .null, .null, .null] .null) (xb : Exa Z h b "[Ljava/lang/Object;") (xe0 : Exa Z h e0 "java/lang/String") (xe1 : Exa Z h e1 "java/lang/String") :
    Con l (⟨"java/util/ImmutableCollections", "listCopy", "(Ljava/util/Collection;)Ljava/util/List;"⟩ : MethodName) jdk_56_method_3_code 2 (some (.object "java/util/List")) ({ frames := 6, cells := 2, slots := 4, locals := 76 } : Room) Z n0 #[(.ref a)] h (fun v h' => ∃ r : Addr, v = some (.ref r) ∧ Keep h h' [] ∧ n0 ≤ r ∧ h.size ≤ r ∧ Exa Z h' r "java/util/ImmutableCollections$List12" ∧ Fld Z h' r "java/util/ImmutableCollections$List12" "e0" "Ljava/lang/Object;" (.ref e0) ∧ Fld Z h' r "java/util/ImmutableCollections$List12" "e1" "Ljava/lang/Object;" (.ref e1)) := by
  refine Con.of_go (plainFor_of_name pn_9) (Ls := #[.val (.ref a), .unset]) (fun m => by first | (simp [entryFrame, mkF, argsToLocals, Value.category]; done) | rfl) ?_
  refine Go.aloadN (pc' := 1) d18_0 rfl rfl rfl ?_
  refine Go.instNo (pc' := 4) (ww hw 105 rfl) xa (own_nno (ww hw 106 rfl) (ww hw 190 rfl) (NS.step (ww hw 106 rfl) (NS.step (ww hw 107 rfl) (NS.step (ww hw 108 rfl) (own_nroot (ww hw 109 rfl) (ww hw 190 rfl) (by decide)) (by decide)) (by decide)) (by decide)) (by decide)) d18_1 rfl ?_
  refine Go.ifNo (pc' := 7) d18_4 (XT.i0_ne_f (by decide)) rfl ?_
  refine Go.aloadN (pc' := 8) d18_7 rfl rfl rfl ?_
  refine Go.instNo (pc' := 11) (ww hw 110 rfl) xa (own_nno (ww hw 106 rfl) (ww hw 165 rfl) (NS.step (ww hw 106 rfl) (NS.step (ww hw 107 rfl) (NS.step (ww hw 108 rfl) (own_nroot (ww hw 109 rfl) (ww hw 165 rfl) (by decide)) (by decide)) (by decide)) (by decide)) (by decide)) d18_8 rfl ?_
  refine Go.ifYes (pc' := 31) d18_11 (XT.i0_eq_t (by decide)) (by decide) (by decide) ?_
  refine Go.aloadN (pc' := 32) d18_31 rfl rfl rfl ?_
  refine Go.callI (cells' := 0) (slots' := 0) (pc' := 37) [] [] xa (ww hw 111 rfl) (ww hw 112 rfl) (ww hw 113 rfl) (ww hw 114 rfl) (ww hw 115 rfl) (ww hw 116 rfl) (ww hw 117 rfl) (ww hw 118 rfl) (ww hw 32 rfl) (ww hw 119 rfl) (by decide) (c_alEmptyN l Z a0 hw h a (2 : Int32) (by decide) pf1) pd_6 rfl rfl rfl rfl rfl (nl rfl) (nl rfl) (nl rfl) (nl rfl) d18_32 rfl ?_
  rintro _ _ ⟨rfl, rfl⟩
  show Go _ _ _ _ _ _ _ _ _ _ _ _ 37 #[.val (.ref a), .unset] [(.int (0 : Int32))]
  refine Go.ifYes (pc' := 44) d18_37 (XT.i0_eq_t (by decide)) (by decide) (by decide) ?_
  refine Go.aloadN (pc' := 45) d18_44 rfl rfl rfl ?_
  refine Go.callI (cells' := 1) (slots' := 2) (pc' := 50) [] [] xa (ww hw 124 rfl) (ww hw 125 rfl) (ww hw 126 rfl) (ww hw 127 rfl) (ww hw 128 rfl) (ww hw 129 rfl) (ww hw 130 rfl) (ww hw 118 rfl) (ww hw 32 rfl) (ww hw 131 rfl) (by decide) (c_toArray2 l Z a0 hw h a b kb e0 e1 mO mo pf0 pf1 v xb xe0 xe1) pd_3 rfl rfl rfl rfl rfl (nl rfl) (nl rfl) (nl rfl) (nl rfl) d18_45 rfl ?_
  rintro _ h2 ⟨r_2, kr_2, rfl, K2, ge_r_2, sz_r_2, F2_0, F2_1, F2_2⟩
  have sz3 : h.size ≤ r_2 := Nat.le_trans (Keep.refl h []).1 sz_r_2
  have K4 : Keep h h2 [] := (Keep.refl h []).trans K2 all0
  show Go _ _ _ _ _ _ _ _ _ _ _ _ 50 #[.val (.ref a), .unset] [(.ref r_2)]
  refine Go.callS (cells' := 2) (slots' := 4) (pc' := 53) [(.ref r_2)] [] (ww hw 154 rfl) (ww hw 155 rfl) (ww hw 99 rfl) (ww hw 156 rfl) (by decide) (c_ofA2 l Z a0 hw h2 r_2 kr_2 e0 e1 F2_0 (xe0.keep K2) (xe1.keep K2)) pd_12 rfl rfl rfl rfl rfl (nl rfl) (nl rfl) (nl rfl) (nl rfl) d18_50 rfl ?_
  rintro _ h5 ⟨r_5, rfl, K5, ge_r_5, sz_r_5, F5_0, F5_1, F5_2⟩
  have sz6 : h.size ≤ r_5 := Nat.le_trans K4.1 sz_r_5
  have K7 : Keep h h5 [] := K4.trans K5 all0
  show Go _ _ _ _ _ _ _ _ _ _ _ _ 53 #[.val (.ref a), .unset] [(.ref r_5)]
  exact Go.retR rfl rfl rfl rfl d18_53 ⟨r_5, rfl, K7, ge_r_5, sz6, F5_0, F5_1, F5_2⟩ (by decide) (by decide)
set_option maxRecDepth 65536 in
set_option maxHeartbeats 4000000 in
theorem c_copy2 (l : Launch) (Z : State) (a0 : Array Value) (hw : ∀ d ∈ tables_1, d.before a0 Z = true) {n0 : Nat} (h : Heap) (a : Addr) (b : Addr) (kb : ClassId) (e0 : Addr) (e1 : Addr) (mO : Addr) (mo : Mi Z "[Ljava/lang/Object;" mO) (xa : Exa Z h a "java/util/ArrayList") (pf0 : Fld Z h a "java/util/ArrayList" "elementData" "[Ljava/lang/Object;" (.ref b)) (pf1 : Fld Z h a "java/util/ArrayList" "size" "I" (.int (2 : Int32))) (v : Arv Z h b kb (.object "java/lang/Object") (10 : Int32) [(.ref e0), (.ref e1), .null, .null, .null, .null, .null, .null, .null, .null] .null) (xb : Exa Z h b "[Ljava/lang/Object;") (xe0 : Exa Z h e0 "java/lang/String") (xe1 : Exa Z h e1 "java/lang/String") :
    Con l (⟨"java/util/List", "copyOf", "(Ljava/util/Collection;)Ljava/util/List;"⟩ : MethodName) jdk_40_method_48_code 1 (some (.object "java/util/List")) ({ frames := 8, cells := 3, slots := 8, locals := 103 } : Room) Z n0 #[(.ref a)] h (fun v h' => ∃ r : Addr, v = some (.ref r) ∧ Keep h h' [] ∧ n0 ≤ r ∧ h.size ≤ r ∧ Exa Z h' r "java/util/ImmutableCollections$List12" ∧ Fld Z h' r "java/util/ImmutableCollections$List12" "e0" "Ljava/lang/Object;" (.ref e0) ∧ Fld Z h' r "java/util/ImmutableCollections$List12" "e1" "Ljava/lang/Object;" (.ref e1)) := by
  refine Con.of_go (plainFor_of_name pn_8) (Ls := #[.val (.ref a)]) (fun m => by first | (simp [entryFrame, mkF, argsToLocals, Value.category]; done) | rfl) ?_
  refine Go.aloadN (pc' := 1) d17_0 rfl rfl rfl ?_
  refine Go.callS (cells' := 2) (slots' := 4) (pc' := 4) [(.ref a)] [] (ww hw 101 rfl) (ww hw 102 rfl) (ww hw 103 rfl) (ww hw 104 rfl) (by decide) (c_listCopy2 l Z a0 hw h a b kb e0 e1 mO mo xa pf0 pf1 v xb xe0 xe1) pd_8 rfl rfl rfl rfl rfl (nl rfl) (nl rfl) (nl rfl) (nl rfl) d17_1 rfl ?_
  rintro _ h1 ⟨r_1, rfl, K1, ge_r_1, sz_r_1, F1_0, F1_1, F1_2⟩
  have sz2 : h.size ≤ r_1 := Nat.le_trans (Keep.refl h []).1 sz_r_1
  have K3 : Keep h h1 [] := (Keep.refl h []).trans K1 all0
  show Go _ _ _ _ _ _ _ _ _ _ _ _ 4 #[.val (.ref a)] [(.ref r_1)]
  exact Go.retR rfl rfl rfl rfl d17_4 ⟨r_1, rfl, K3, ge_r_1, sz2, F1_0, F1_1, F1_2⟩ (by decide) (by decide)
set_option maxRecDepth 65536 in
set_option maxHeartbeats 4000000 in
theorem c_min3 (l : Launch) (Z : State) (a0 : Array Value) (hw : ∀ d ∈ tables_1, d.before a0 Z = true) {n0 : Nat} (h : Heap) :
    Con l (⟨"java/lang/Math", "min", "(II)I"⟩ : MethodName) jdk_29_method_69_code 2 (some .int) ({ frames := 0, cells := 0, slots := 0, locals := 0 } : Room) Z n0 #[(.int (10 : Int32)), (.int (3 : Int32))] h (fun v h' => v = some (.int (3 : Int32)) ∧ h = h') := by
  refine Con.of_go (Jvm.Free.JP.mathPlain rfl (by decide +kernel)) (Ls := #[.val (.int (10 : Int32)), .val (.int (3 : Int32))]) (fun m => by first | (simp [entryFrame, mkF, argsToLocals, Value.category]; done) | rfl) ?_
  refine Go.iloadN (pc' := 1) d24_0 rfl rfl ?_
  refine Go.iloadN (pc' := 2) d24_1 rfl rfl ?_
  refine Go.icmpYes (pc' := 9) d24_2 (XT.ii_gt_t (by decide)) (by decide) (by decide) ?_
  refine Go.iloadN (pc' := 10) d24_9 rfl rfl ?_
  exact Go.retI rfl d24_10 ⟨rfl, rfl⟩ (by decide) (by decide)
set_option maxRecDepth 65536 in
set_option maxHeartbeats 4000000 in
theorem c_copyOfC3 (l : Launch) (Z : State) (a0 : Array Value) (hw : ∀ d ∈ tables_1, d.before a0 Z = true) {n0 : Nat} (h : Heap) (b : Addr) (kb : ClassId) (e0 : Addr) (e1 : Addr) (e2 : Addr) (mO : Addr) (mo : Mi Z "[Ljava/lang/Object;" mO) (v : Arv Z h b kb (.object "java/lang/Object") (10 : Int32) [(.ref e0), (.ref e1), (.ref e2), .null, .null, .null, .null, .null, .null, .null] .null) (xb : Exa Z h b "[Ljava/lang/Object;") (xe0 : Exa Z h e0 "java/lang/String") (xe1 : Exa Z h e1 "java/lang/String") (xe2 : Exa Z h e2 "java/lang/String") :
    Con l (⟨"java/util/Arrays", "copyOf", "([Ljava/lang/Object;ILjava/lang/Class;)[Ljava/lang/Object;"⟩ : MethodName) jdk_65_method_120_code 4 (some (.array (.object "java/lang/Object"))) ({ frames := 1, cells := 1, slots := 3, locals := 18 } : Room) Z n0 #[(.ref b), (.int (3 : Int32)), (.ref mO)] h (fun v h' => ∃ r : Addr, ∃ kr : ClassId, v = some (.ref r) ∧ Keep h h' [] ∧ n0 ≤ r ∧ h.size ≤ r ∧ Arv Z h' r kr (.object "java/lang/Object") (3 : Int32) [(.ref e0), (.ref e1), (.ref e2)] .null ∧ Exa Z h' r "[Ljava/lang/Object;" ∧ Ovr Z kr "java/lang/Object") := by
  refine Con.of_go (plainFor_of_name pn_10) (Ls := #[.val (.ref b), .val (.int (3 : Int32)), .val (.ref mO), .unset]) (fun m => by first | (simp [entryFrame, mkF, argsToLocals, Value.category]; done) | rfl) ?_
  refine Go.aloadN (pc' := 1) d23_0 rfl rfl rfl ?_
  refine Go.ldcMirror (pc' := 3) (ww hw 145 rfl) mo d23_1 rfl ?_
  refine Go.acmpNo (pc' := 6) d23_3 rfl rfl (XT.aa_ne_f rfl) rfl ?_
  refine Go.iloadN (pc' := 7) d23_6 rfl rfl ?_
  refine Go.anewarray (pc' := 10) (cells' := 1) (slots' := 3) (cap := 3) (ww hw 146 rfl) (ww hw 83 rfl) d23_7 (ad := "[Ljava/lang/Object;") (by decide) (by decide) (by decide) rfl rfl (by decide) (by decide) (by decide) rfl ?_
  intro h1 b1 g1 E1 ge1 kA1 A1 X1 O1
  have sz2 : h.size ≤ b1 := Nat.le_trans (Keep.refl h []).1 (Nat.le_of_eq g1.symm)
  have K3 : Keep h h1 [] := (Keep.refl h []).ext E1
  have V1 : Arv Z h1 b1 kA1 (.object "java/lang/Object") (3 : Int32) [.null, .null, .null] .null := Arv.pad A1 (pad_rep [] .null 3)
  refine Go.goto (pc' := 24) d23_10 (by decide) (by decide) ?_
  refine Go.astoreN (pc' := 25) (Ls' := #[.val (.ref b), .val (.int (3 : Int32)), .val (.ref mO), .val (.ref b1)]) d23_24 rfl rfl rfl ?_
  refine Go.aloadN (pc' := 26) d23_25 rfl rfl rfl ?_
  refine Go.iconst (pc' := 27) (v := (0 : Int32)) d23_26 rfl rfl ?_
  refine Go.aloadN (pc' := 28) d23_27 rfl rfl rfl ?_
  refine Go.iconst (pc' := 29) (v := (0 : Int32)) d23_28 rfl rfl ?_
  refine Go.aloadN (pc' := 30) d23_29 rfl rfl rfl ?_
  refine Go.arraylength (pc' := 31) (v.ext E1) d23_30 rfl ?_
  refine Go.iloadN (pc' := 32) d23_31 rfl rfl ?_
  refine Go.callS (cells' := 1) (slots' := 3) (pc' := 35) [(.int (10 : Int32)), (.int (3 : Int32))] [(.int (0 : Int32)), (.ref b1), (.int (0 : Int32)), (.ref b)] (ww hw 147 rfl) (ww hw 148 rfl) (ww hw 80 rfl) (ww hw 149 rfl) (by decide) (c_min3 l Z a0 hw h1) pd_1 rfl rfl rfl rfl rfl (nl rfl) (nl rfl) (nl rfl) (nl rfl) d23_32 rfl ?_
  rintro _ _ ⟨rfl, rfl⟩
  show Go _ _ _ _ _ _ _ _ _ _ _ _ 35 #[.val (.ref b), .val (.int (3 : Int32)), .val (.ref mO), .val (.ref b1)] [(.int (3 : Int32)), (.int (0 : Int32)), (.ref b1), (.int (0 : Int32)), (.ref b)]
  refine Go.arraycopy (pc' := 38) (us := [(.ref e0), (.ref e1), (.ref e2)]) (vd' := [(.ref e0), (.ref e1), (.ref e2)]) (ww hw 150 rfl) (ww hw 153 rfl) (ww hw 151 rfl) (ww hw 152 rfl) (v.ext E1) V1 (Or.inr ⟨rfl, rfl, ⟨(own_sto V1 O1 (Ins.of_exa (xe0.ext E1) (ww hw 84 rfl))), ⟨(own_sto V1 O1 (Ins.of_exa (xe1.ext E1) (ww hw 84 rfl))), ⟨(own_sto V1 O1 (Ins.of_exa (xe2.ext E1) (ww hw 84 rfl))), trivial⟩⟩⟩⟩) (by decide) (by decide) (by decide) (by decide) (by decide) rfl (nl rfl) rfl ge1 d23_35 rfl (nl rfl) (nl rfl) rfl ?_
  intro h5 K6 V7
  have K8 : Keep h h5 [] := K3.trans K6 (allS (Or.inr sz2) all0)
  refine Go.aloadN (pc' := 39) d23_38 rfl rfl rfl ?_
  exact Go.retR rfl rfl rfl rfl d23_39 ⟨b1, kA1, rfl, K8, ge1, sz2, V7, (X1.keep K6), O1⟩ (by decide) (by decide)
set_option maxRecDepth 65536 in
set_option maxHeartbeats 4000000 in
theorem c_copyOf3 (l : Launch) (Z : State) (a0 : Array Value) (hw : ∀ d ∈ tables_1, d.before a0 Z = true) {n0 : Nat} (h : Heap) (b : Addr) (kb : ClassId) (e0 : Addr) (e1 : Addr) (e2 : Addr) (mO : Addr) (mo : Mi Z "[Ljava/lang/Object;" mO) (v : Arv Z h b kb (.object "java/lang/Object") (10 : Int32) [(.ref e0), (.ref e1), (.ref e2), .null, .null, .null, .null, .null, .null, .null] .null) (xb : Exa Z h b "[Ljava/lang/Object;") (xe0 : Exa Z h e0 "java/lang/String") (xe1 : Exa Z h e1 "java/lang/String") (xe2 : Exa Z h e2 "java/lang/String") :
    Con l (⟨"java/util/Arrays", "copyOf", "([Ljava/lang/Object;I)[Ljava/lang/Object;"⟩ : MethodName) jdk_65_method_119_code 2 (some (.array (.object "java/lang/Object"))) ({ frames := 2, cells := 1, slots := 3, locals := 33 } : Room) Z n0 #[(.ref b), (.int (3 : Int32))] h (fun v h' => ∃ r : Addr, ∃ kr : ClassId, v = some (.ref r) ∧ Keep h h' [] ∧ n0 ≤ r ∧ h.size ≤ r ∧ Arv Z h' r kr (.object "java/lang/Object") (3 : Int32) [(.ref e0), (.ref e1), (.ref e2)] .null ∧ Exa Z h' r "[Ljava/lang/Object;" ∧ Ovr Z kr "java/lang/Object") := by
  refine Con.of_go (plainFor_of_name pn_10) (Ls := #[.val (.ref b), .val (.int (3 : Int32))]) (fun m => by first | (simp [entryFrame, mkF, argsToLocals, Value.category]; done) | rfl) ?_
  refine Go.aloadN (pc' := 1) d22_0 rfl rfl rfl ?_
  refine Go.iloadN (pc' := 2) d22_1 rfl rfl ?_
  refine Go.aloadN (pc' := 3) d22_2 rfl rfl rfl ?_
  refine Go.getClass (pc' := 6) (ww hw 136 rfl) (ww hw 137 rfl) (ww hw 109 rfl) (ww hw 139 rfl) (ww hw 138 rfl) (ww hw 140 rfl) xb mo d22_3 rfl (nl rfl) (nl rfl) rfl ?_
  refine Go.callS (cells' := 1) (slots' := 3) (pc' := 9) [(.ref b), (.int (3 : Int32)), (.ref mO)] [] (ww hw 142 rfl) (ww hw 143 rfl) (ww hw 134 rfl) (ww hw 144 rfl) (by decide) (c_copyOfC3 l Z a0 hw h b kb e0 e1 e2 mO mo v xb xe0 xe1 xe2) pd_9 rfl rfl rfl rfl rfl (nl rfl) (nl rfl) (nl rfl) (nl rfl) d22_6 rfl ?_
  rintro _ h1 ⟨r_1, kr_1, rfl, K1, ge_r_1, sz_r_1, F1_0, F1_1, F1_2⟩
  have sz2 : h.size ≤ r_1 := Nat.le_trans (Keep.refl h []).1 sz_r_1
  have K3 : Keep h h1 [] := (Keep.refl h []).trans K1 all0
  show Go _ _ _ _ _ _ _ _ _ _ _ _ 9 #[.val (.ref b), .val (.int (3 : Int32))] [(.ref r_1)]
  exact Go.retR rfl rfl rfl rfl d22_9 ⟨r_1, kr_1, rfl, K3, ge_r_1, sz2, F1_0, F1_1, F1_2⟩ (by decide) (by decide)
set_option maxRecDepth 65536 in
set_option maxHeartbeats 4000000 in
theorem c_toArray3 (l : Launch) (Z : State) (a0 : Array Value) (hw : ∀ d ∈ tables_1, d.before a0 Z = true) {n0 : Nat} (h : Heap) (a : Addr) (b : Addr) (kb : ClassId) (e0 : Addr) (e1 : Addr) (e2 : Addr) (mO : Addr) (mo : Mi Z "[Ljava/lang/Object;" mO) (pf0 : Fld Z h a "java/util/ArrayList" "elementData" "[Ljava/lang/Object;" (.ref b)) (pf1 : Fld Z h a "java/util/ArrayList" "size" "I" (.int (3 : Int32))) (v : Arv Z h b kb (.object "java/lang/Object") (10 : Int32) [(.ref e0), (.ref e1), (.ref e2), .null, .null, .null, .null, .null, .null, .null] .null) (xb : Exa Z h b "[Ljava/lang/Object;") (xe0 : Exa Z h e0 "java/lang/String") (xe1 : Exa Z h e1 "java/lang/String") (xe2 : Exa Z h e2 "java/lang/String") :
    Con l (⟨"java/util/ArrayList", "toArray", "()[Ljava/lang/Object;"⟩ : MethodName) jdk_38_method_16_code 1 (some (.array (.object "java/lang/Object"))) ({ frames := 3, cells := 1, slots := 3, locals := 46 } : Room) Z n0 #[(.ref a)] h (fun v h' => ∃ r : Addr, ∃ kr : ClassId, v = some (.ref r) ∧ Keep h h' [] ∧ n0 ≤ r ∧ h.size ≤ r ∧ Arv Z h' r kr (.object "java/lang/Object") (3 : Int32) [(.ref e0), (.ref e1), (.ref e2)] .null ∧ Exa Z h' r "[Ljava/lang/Object;" ∧ Ovr Z kr "java/lang/Object") := by
  refine Con.of_go (plainFor_of_name pn_2) (Ls := #[.val (.ref a)]) (fun m => by first | (simp [entryFrame, mkF, argsToLocals, Value.category]; done) | rfl) ?_
  refine Go.aloadN (pc' := 1) d21_0 rfl rfl rfl ?_
  refine Go.getfield (pc' := 4) (host := "") (Or.inl (ww hw 52 rfl)) Via.refl pf0 d21_1 rfl ?_
  refine Go.aloadN (pc' := 5) d21_4 rfl rfl rfl ?_
  refine Go.getfield (pc' := 8) (host := "") (Or.inl (ww hw 61 rfl)) Via.refl pf1 d21_5 rfl ?_
  refine Go.callS (cells' := 1) (slots' := 3) (pc' := 11) [(.ref b), (.int (3 : Int32))] [] (ww hw 132 rfl) (ww hw 133 rfl) (ww hw 134 rfl) (ww hw 135 rfl) (by decide) (c_copyOf3 l Z a0 hw h b kb e0 e1 e2 mO mo v xb xe0 xe1 xe2) pd_10 rfl rfl rfl rfl rfl (nl rfl) (nl rfl) (nl rfl) (nl rfl) d21_8 rfl ?_
  rintro _ h1 ⟨r_1, kr_1, rfl, K1, ge_r_1, sz_r_1, F1_0, F1_1, F1_2⟩
  have sz2 : h.size ≤ r_1 := Nat.le_trans (Keep.refl h []).1 sz_r_1
  have K3 : Keep h h1 [] := (Keep.refl h []).trans K1 all0
  show Go _ _ _ _ _ _ _ _ _ _ _ _ 11 #[.val (.ref a)] [(.ref r_1)]
  exact Go.retR rfl rfl rfl rfl d21_11 ⟨r_1, kr_1, rfl, K3, ge_r_1, sz2, F1_0, F1_1, F1_2⟩ (by decide) (by decide)
theorem d26_0 : decode jdk_56_method_4_code 0 = .ok (.aload_n 0, 1) := by decide +kernel
theorem d26_1 : decode jdk_56_method_4_code 1 = .ok (.arraylength, 1) := by decide +kernel
theorem d26_2 : decode jdk_56_method_4_code 2 = .ok (.anewarray 2, 3) := by decide +kernel
theorem d26_5 : decode jdk_56_method_4_code 5 = .ok (.astore_n 1, 1) := by decide +kernel
theorem d26_6 : decode jdk_56_method_4_code 6 = .ok (.iconst 0, 1) := by decide +kernel
theorem d26_7 : decode jdk_56_method_4_code 7 = .ok (.istore_n 2, 1) := by decide +kernel
theorem d26_8 : decode jdk_56_method_4_code 8 = .ok (.iload_n 2, 1) := by decide +kernel
theorem d26_9 : decode jdk_56_method_4_code 9 = .ok (.aload_n 0, 1) := by decide +kernel
theorem d26_10 : decode jdk_56_method_4_code 10 = .ok (.arraylength, 1) := by decide +kernel
theorem d26_11 : decode jdk_56_method_4_code 11 = .ok (.if_icmp .ge 18, 3) := by decide +kernel
theorem d26_14 : decode jdk_56_method_4_code 14 = .ok (.aload_n 1, 1) := by decide +kernel
theorem d26_15 : decode jdk_56_method_4_code 15 = .ok (.iload_n 2, 1) := by decide +kernel
theorem d26_16 : decode jdk_56_method_4_code 16 = .ok (.aload_n 0, 1) := by decide +kernel
theorem d26_17 : decode jdk_56_method_4_code 17 = .ok (.iload_n 2, 1) := by decide +kernel
theorem d26_18 : decode jdk_56_method_4_code 18 = .ok (.aaload, 1) := by decide +kernel
theorem d26_19 : decode jdk_56_method_4_code 19 = .ok (.invokestatic 37, 3) := by decide +kernel
theorem d26_22 : decode jdk_56_method_4_code 22 = .ok (.aastore, 1) := by decide +kernel
theorem d26_23 : decode jdk_56_method_4_code 23 = .ok (.iinc 2 1, 3) := by decide +kernel
theorem d26_26 : decode jdk_56_method_4_code 26 = .ok (.goto (-18), 3) := by decide +kernel
theorem d26_29 : decode jdk_56_method_4_code 29 = .ok (.new 12, 3) := by decide +kernel
theorem d26_32 : decode jdk_56_method_4_code 32 = .ok (.dup, 1) := by decide +kernel
theorem d26_33 : decode jdk_56_method_4_code 33 = .ok (.aload_n 1, 1) := by decide +kernel
theorem d26_34 : decode jdk_56_method_4_code 34 = .ok (.iconst 0, 1) := by decide +kernel
theorem d26_35 : decode jdk_56_method_4_code 35 = .ok (.invokespecial 43, 3) := by decide +kernel
theorem d26_38 : decode jdk_56_method_4_code 38 = .ok (.areturn, 1) := by decide +kernel
set_option maxRecDepth 65536 in
set_option maxHeartbeats 4000000 in
theorem c_lfa3 (l : Launch) (Z : State) (a0 : Array Value) (hw : ∀ d ∈ tables_1, d.before a0 Z = true) {n0 : Nat} (h : Heap) (b : Addr) (kb : ClassId) (e0 : Addr) (e1 : Addr) (e2 : Addr) (v : Arv Z h b kb (.object "java/lang/Object") (3 : Int32) [(.ref e0), (.ref e1), (.ref e2)] .null) (xe0 : Exa Z h e0 "java/lang/String") (xe1 : Exa Z h e1 "java/lang/String") (xe2 : Exa Z h e2 "java/lang/String") :
    Con l (⟨"java/util/ImmutableCollections", "listFromArray", "([Ljava/lang/Object;)Ljava/util/List;"⟩ : MethodName) jdk_56_method_4_code 3 (some (.object "java/util/List")) ({ frames := 5, cells := 2, slots := 5, locals := 63 } : Room) Z n0 #[(.ref b)] h (fun v h' => ∃ r : Addr, ∃ c : Addr, ∃ kc2 : ClassId, v = some (.ref r) ∧ Keep h h' [] ∧ n0 ≤ r ∧ h.size ≤ r ∧ n0 ≤ c ∧ h.size ≤ c ∧ Exa Z h' r "java/util/ImmutableCollections$ListN" ∧ Fld Z h' r "java/util/ImmutableCollections$ListN" "elements" "[Ljava/lang/Object;" (.ref c) ∧ Arv Z h' c kc2 (.object "java/lang/Object") (3 : Int32) [(.ref e0), (.ref e1), (.ref e2)] .null) := by
  refine Con.of_go (plainFor_of_name pn_9) (Ls := #[.val (.ref b), .unset, .unset]) (fun m => by first | (simp [entryFrame, mkF, argsToLocals, Value.category]; done) | rfl) ?_
  refine Go.aloadN (pc' := 1) d26_0 rfl rfl rfl ?_
  refine Go.arraylength (pc' := 2) v d26_1 rfl ?_
  refine Go.anewarray (pc' := 5) (cells' := 1) (slots' := 3) (cap := 3) (ww hw 160 rfl) (ww hw 83 rfl) d26_2 (ad := "[Ljava/lang/Object;") (by decide) (by decide) (by decide) rfl rfl (by decide) (by decide) (by decide) rfl ?_
  intro h1 b1 g1 E1 ge1 kA1 A1 X1 O1
  have sz2 : h.size ≤ b1 := Nat.le_trans (Keep.refl h []).1 (Nat.le_of_eq g1.symm)
  have K3 : Keep h h1 [] := (Keep.refl h []).ext E1
  have V1 : Arv Z h1 b1 kA1 (.object "java/lang/Object") (3 : Int32) [.null, .null, .null] .null := Arv.pad A1 (pad_rep [] .null 3)
  refine Go.astoreN (pc' := 6) (Ls' := #[.val (.ref b), .val (.ref b1), .unset]) d26_5 rfl rfl rfl ?_
  refine Go.iconst (pc' := 7) (v := (0 : Int32)) d26_6 rfl rfl ?_
  refine Go.istoreN (pc' := 8) (Ls' := #[.val (.ref b), .val (.ref b1), .val (.int (0 : Int32))]) d26_7 rfl rfl ?_
  refine Go.iloadN (pc' := 9) d26_8 rfl rfl ?_
  refine Go.aloadN (pc' := 10) d26_9 rfl rfl rfl ?_
  refine Go.arraylength (pc' := 11) (v.ext E1) d26_10 rfl ?_
  refine Go.icmpNo (pc' := 14) d26_11 (XT.ii_ge_f (by decide)) rfl ?_
  refine Go.aloadN (pc' := 15) d26_14 rfl rfl rfl ?_
  refine Go.iloadN (pc' := 16) d26_15 rfl rfl ?_
  refine Go.aloadN (pc' := 17) d26_16 rfl rfl rfl ?_
  refine Go.iloadN (pc' := 18) d26_17 rfl rfl ?_
  refine Go.aaload (pc' := 19) (v := (.ref e0)) (v.ext E1) rfl d26_18 (by decide) (by decide) rfl rfl ?_
  refine Go.callS (cells' := 1) (slots' := 3) (pc' := 22) [(.ref e0)] [(.int (0 : Int32)), (.ref b1)] (ww hw 161 rfl) (ww hw 162 rfl) (ww hw 163 rfl) (ww hw 164 rfl) (by decide) (c_rnn l Z a0 hw h1 e0) pd_5 rfl rfl rfl rfl rfl (nl rfl) (nl rfl) (nl rfl) (nl rfl) d26_19 rfl ?_
  rintro _ _ ⟨rfl, rfl⟩
  show Go _ _ _ _ _ _ _ _ _ _ _ _ 22 #[.val (.ref b), .val (.ref b1), .val (.int (0 : Int32))] [(.ref e0), (.int (0 : Int32)), (.ref b1)]
  refine Go.aastore (pc' := 23) V1 ge1 rfl rfl (own_sto V1 O1 (Ins.of_exa (xe0.ext E1) (ww hw 84 rfl))) d26_22 (by decide) (by decide) (i := 0) rfl (nl rfl) rfl ?_
  intro h5 W6 V7
  have K8 : Keep h h5 [] := K3.wr W6 (Or.inr sz2)
  replace V7 : Arv Z h5 b1 kA1 (.object "java/lang/Object") (3 : Int32) [(.ref e0), .null, .null] .null := V7
  refine Go.iinc (pc' := 26) (Ls' := #[.val (.ref b), .val (.ref b1), .val (.int ((0 : Int32) + (1 : Int32)))]) (w := (1 : Int32)) d26_23 rfl rfl rfl rfl ?_
  show Go _ _ _ _ _ _ _ _ _ _ _ _ 26 #[.val (.ref b), .val (.ref b1), .val (.int (1 : Int32))] []
  refine Go.goto (pc' := 8) d26_26 (by decide) (by decide) ?_
  refine Go.iloadN (pc' := 9) d26_8 rfl rfl ?_
  refine Go.aloadN (pc' := 10) d26_9 rfl rfl rfl ?_
  have ne9 : b ≠ b1 := (Nat.ne_of_lt (Nat.lt_of_lt_of_le v.lt (Nat.le_of_eq g1.symm)))
  refine Go.arraylength (pc' := 11) ((v.ext E1).other W6 ne9) d26_10 rfl ?_
  refine Go.icmpNo (pc' := 14) d26_11 (XT.ii_ge_f (by decide)) rfl ?_
  refine Go.aloadN (pc' := 15) d26_14 rfl rfl rfl ?_
  refine Go.iloadN (pc' := 16) d26_15 rfl rfl ?_
  refine Go.aloadN (pc' := 17) d26_16 rfl rfl rfl ?_
  refine Go.iloadN (pc' := 18) d26_17 rfl rfl ?_
  refine Go.aaload (pc' := 19) (v := (.ref e1)) ((v.ext E1).other W6 ne9) rfl d26_18 (by decide) (by decide) rfl rfl ?_
  refine Go.callS (cells' := 1) (slots' := 3) (pc' := 22) [(.ref e1)] [(.int (1 : Int32)), (.ref b1)] (ww hw 161 rfl) (ww hw 162 rfl) (ww hw 163 rfl) (ww hw 164 rfl) (by decide) (c_rnn l Z a0 hw h5 e1) pd_5 rfl rfl rfl rfl rfl (nl rfl) (nl rfl) (nl rfl) (nl rfl) d26_19 rfl ?_
  rintro _ _ ⟨rfl, rfl⟩
  show Go _ _ _ _ _ _ _ _ _ _ _ _ 22 #[.val (.ref b), .val (.ref b1), .val (.int (1 : Int32))] [(.ref e1), (.int (1 : Int32)), (.ref b1)]
  refine Go.aastore (pc' := 23) V7 ge1 rfl rfl (own_sto V7 O1 (Ins.of_exa ((xe1.ext E1).wr W6) (ww hw 84 rfl))) d26_22 (by decide) (by decide) (i := 1) rfl (nl rfl) rfl ?_
  intro h11 W12 V13
  have K14 : Keep h h11 [] := K8.wr W12 (Or.inr sz2)
  replace V13 : Arv Z h11 b1 kA1 (.object "java/lang/Object") (3 : Int32) [(.ref e0), (.ref e1), .null] .null := V13
  refine Go.iinc (pc' := 26) (Ls' := #[.val (.ref b), .val (.ref b1), .val (.int ((1 : Int32) + (1 : Int32)))]) (w := (1 : Int32)) d26_23 rfl rfl rfl rfl ?_
  show Go _ _ _ _ _ _ _ _ _ _ _ _ 26 #[.val (.ref b), .val (.ref b1), .val (.int (2 : Int32))] []
  refine Go.goto (pc' := 8) d26_26 (by decide) (by decide) ?_
  refine Go.iloadN (pc' := 9) d26_8 rfl rfl ?_
  refine Go.aloadN (pc' := 10) d26_9 rfl rfl rfl ?_
  have f15 : Arv Z h11 b kb (.object "java/lang/Object") (3 : Int32) [(.ref e0), (.ref e1), (.ref e2)] .null := (((v.ext E1).other W6 ne9).other W12 ne9)
  refine Go.arraylength (pc' := 11) f15 d26_10 rfl ?_
  refine Go.icmpNo (pc' := 14) d26_11 (XT.ii_ge_f (by decide)) rfl ?_
  refine Go.aloadN (pc' := 15) d26_14 rfl rfl rfl ?_
  refine Go.iloadN (pc' := 16) d26_15 rfl rfl ?_
  refine Go.aloadN (pc' := 17) d26_16 rfl rfl rfl ?_
  refine Go.iloadN (pc' := 18) d26_17 rfl rfl ?_
  refine Go.aaload (pc' := 19) (v := (.ref e2)) f15 rfl d26_18 (by decide) (by decide) rfl rfl ?_
  refine Go.callS (cells' := 1) (slots' := 3) (pc' := 22) [(.ref e2)] [(.int (2 : Int32)), (.ref b1)] (ww hw 161 rfl) (ww hw 162 rfl) (ww hw 163 rfl) (ww hw 164 rfl) (by decide) (c_rnn l Z a0 hw h11 e2) pd_5 rfl rfl rfl rfl rfl (nl rfl) (nl rfl) (nl rfl) (nl rfl) d26_19 rfl ?_
  rintro _ _ ⟨rfl, rfl⟩
  show Go _ _ _ _ _ _ _ _ _ _ _ _ 22 #[.val (.ref b), .val (.ref b1), .val (.int (2 : Int32))] [(.ref e2), (.int (2 : Int32)), (.ref b1)]
  refine Go.aastore (pc' := 23) V13 ge1 rfl rfl (own_sto V13 O1 (Ins.of_exa (((xe2.ext E1).wr W6).wr W12) (ww hw 84 rfl))) d26_22 (by decide) (by decide) (i := 2) rfl (nl rfl) rfl ?_
  intro h17 W18 V19
  have K20 : Keep h h17 [] := K14.wr W18 (Or.inr sz2)
  replace V19 : Arv Z h17 b1 kA1 (.object "java/lang/Object") (3 : Int32) [(.ref e0), (.ref e1), (.ref e2)] .null := V19
  refine Go.iinc (pc' := 26) (Ls' := #[.val (.ref b), .val (.ref b1), .val (.int ((2 : Int32) + (1 : Int32)))]) (w := (1 : Int32)) d26_23 rfl rfl rfl rfl ?_
  show Go _ _ _ _ _ _ _ _ _ _ _ _ 26 #[.val (.ref b), .val (.ref b1), .val (.int (3 : Int32))] []
  refine Go.goto (pc' := 8) d26_26 (by decide) (by decide) ?_
  refine Go.iloadN (pc' := 9) d26_8 rfl rfl ?_
  refine Go.aloadN (pc' := 10) d26_9 rfl rfl rfl ?_
  refine Go.arraylength (pc' := 11) (f15.other W18 ne9) d26_10 rfl ?_
  refine Go.icmpYes (pc' := 29) d26_11 (XT.ii_ge_t (by decide)) (by decide) (by decide) ?_
  refine Go.new (pc' := 32) (cells' := 2) (slots' := 5) (ww hw 110 rfl) (ww hw 165 rfl) (ww hw 166 rfl) d26_29 rfl rfl (by decide) (by decide) rfl ?_
  intro h21 b21 g21 E21 ge21 A21 D21
  have sz22 : h.size ≤ b21 := Nat.le_trans K20.1 (Nat.le_of_eq g21.symm)
  have K23 : Keep h h21 [] := K20.ext E21
  refine Go.dup (pc' := 33) d26_32 rfl rfl ?_
  refine Go.aloadN (pc' := 34) d26_33 rfl rfl rfl ?_
  refine Go.iconst (pc' := 35) (v := (0 : Int32)) d26_34 rfl rfl ?_
  refine Go.callCN (cells' := 2) (slots' := 5) (pc' := 38) [(.ref b1), (.int (0 : Int32))] [(.ref b21)] (a := b21) rfl rfl (ww hw 167 rfl) (ww hw 168 rfl) (ww hw 166 rfl) (ww hw 170 rfl) (by decide) (c_lnInit l Z a0 hw h21 b21 b1 ge21 A21 ((D21 (Or.inr (ww hw 186 rfl)) (ty := (.array (.object "java/lang/Object"))) (by decide) : Fld Z h21 b21 "java/util/ImmutableCollections$ListN" "elements" "[Ljava/lang/Object;" .null)) ((D21 (Or.inr (ww hw 188 rfl)) (ty := .boolean) (by decide) : Fld Z h21 b21 "java/util/ImmutableCollections$ListN" "allowNulls" "Z" (.int (0 : Int32))))) pd_14 rfl rfl rfl rfl rfl (nl rfl) (nl rfl) (nl rfl) (nl rfl) d26_35 rfl ?_
  rintro _ h24 ⟨rfl, K24, F24_0, F24_1⟩
  have K25 : Keep h h24 [] := K23.trans K24 (allS (Or.inr sz22) all0)
  show Go _ _ _ _ _ _ _ _ _ _ _ _ 38 #[.val (.ref b), .val (.ref b1), .val (.int (3 : Int32))] [(.ref b21)]
  have ne26 : b1 ≠ b21 := (Nat.ne_of_lt (Nat.lt_of_lt_of_le (((X1.wr W6).wr W12).wr W18).lt (Nat.le_of_eq g21.symm)))
  have f27 : Arv Z h24 b1 kA1 (.object "java/lang/Object") (3 : Int32) [(.ref e0), (.ref e1), (.ref e2)] .null := ((V19.ext E21).keep K24 (ninS ne26 nin0))
  exact Go.retR rfl rfl rfl rfl d26_38 ⟨b21, b1, kA1, rfl, K25, ge21, sz22, ge1, sz2, (A21.keep K24), F24_0, f27⟩ (by decide) (by decide)
theorem d25_59 : decode jdk_40_method_47_code 59 = .ok (.aload_n 0, 1) := by decide +kernel
theorem d25_60 : decode jdk_40_method_47_code 60 = .ok (.invokestatic 109, 3) := by decide +kernel
theorem d25_63 : decode jdk_40_method_47_code 63 = .ok (.areturn, 1) := by decide +kernel
set_option maxRecDepth 65536 in
set_option maxHeartbeats 4000000 in
theorem c_ofA3 (l : Launch) (Z : State) (a0 : Array Value) (hw : ∀ d ∈ tables_1, d.before a0 Z = true) {n0 : Nat} (h : Heap) (b : Addr) (kb : ClassId) (e0 : Addr) (e1 : Addr) (e2 : Addr) (v : Arv Z h b kb (.object "java/lang/Object") (3 : Int32) [(.ref e0), (.ref e1), (.ref e2)] .null) (xe0 : Exa Z h e0 "java/lang/String") (xe1 : Exa Z h e1 "java/lang/String") (xe2 : Exa Z h e2 "java/lang/String") :
    Con l (⟨"java/util/List", "of", "([Ljava/lang/Object;)Ljava/util/List;"⟩ : MethodName) jdk_40_method_47_code 2 (some (.object "java/util/List")) ({ frames := 6, cells := 2, slots := 5, locals := 77 } : Room) Z n0 #[(.ref b)] h (fun v h' => ∃ r : Addr, ∃ c : Addr, ∃ kc2 : ClassId, v = some (.ref r) ∧ Keep h h' [] ∧ n0 ≤ r ∧ h.size ≤ r ∧ n0 ≤ c ∧ h.size ≤ c ∧ Exa Z h' r "java/util/ImmutableCollections$ListN" ∧ Fld Z h' r "java/util/ImmutableCollections$ListN" "elements" "[Ljava/lang/Object;" (.ref c) ∧ Arv Z h' c kc2 (.object "java/lang/Object") (3 : Int32) [(.ref e0), (.ref e1), (.ref e2)] .null) := by
  refine Con.of_go (plainFor_of_name pn_8) (Ls := #[.val (.ref b), .unset]) (fun m => by first | (simp [entryFrame, mkF, argsToLocals, Value.category]; done) | rfl) ?_
  refine Go.aloadN (pc' := 1) d25_0 rfl rfl rfl ?_
  refine Go.arraylength (pc' := 2) v d25_1 rfl ?_
  refine Go.tswOut (pc' := 59) d25_2 (by decide) (by decide) (by decide) ?_
  refine Go.aloadN (pc' := 60) d25_59 rfl rfl rfl ?_
  refine Go.callS (cells' := 2) (slots' := 5) (pc' := 63) [(.ref b)] [] (ww hw 157 rfl) (ww hw 158 rfl) (ww hw 103 rfl) (ww hw 159 rfl) (by decide) (c_lfa3 l Z a0 hw h b kb e0 e1 e2 v xe0 xe1 xe2) pd_12 rfl rfl rfl rfl rfl (nl rfl) (nl rfl) (nl rfl) (nl rfl) d25_60 rfl ?_
  rintro _ h1 ⟨r_1, c_1, kc2_1, rfl, K1, ge_r_1, sz_r_1, ge_c_1, sz_c_1, F1_0, F1_1, F1_2⟩
  have sz2 : h.size ≤ r_1 := Nat.le_trans (Keep.refl h []).1 sz_r_1
  have sz3 : h.size ≤ c_1 := Nat.le_trans (Keep.refl h []).1 sz_c_1
  have K4 : Keep h h1 [] := (Keep.refl h []).trans K1 all0
  show Go _ _ _ _ _ _ _ _ _ _ _ _ 63 #[.val (.ref b), .unset] [(.ref r_1)]
  exact Go.retR rfl rfl rfl rfl d25_63 ⟨r_1, c_1, kc2_1, rfl, K4, ge_r_1, sz2, ge_c_1, sz3, F1_0, F1_1, F1_2⟩ (by decide) (by decide)
set_option maxRecDepth 65536 in
set_option maxHeartbeats 4000000 in
theorem c_listCopy3 (l : Launch) (Z : State) (a0 : Array Value) (hw : ∀ d ∈ tables_1, d.before a0 Z = true) {n0 : Nat} (h : Heap) (a : Addr) (b : Addr) (kb : ClassId) (e0 : Addr) (e1 : Addr) (e2 : Addr) (mO : Addr) (mo : Mi Z "[Ljava/lang/Object;" mO) (xa : Exa Z h a "java/util/ArrayList") (pf0 : Fld Z h a "java/util/ArrayList" "elementData" "[Ljava/lang/Object;" (.ref b)) (pf1 : Fld Z h a "java/util/ArrayList" "size" "I" (.int (3 : Int32))) (v : Arv Z h b kb (.object "java/lang/Object") (10 : Int32) [(.ref e0), (.ref e1), (.ref e2), .null, .null, .null, .null, .null, .null, .null] .null) (xb : Exa Z h b "[Ljava/lang/Object;") (xe0 : Exa Z h e0 "java/lang/String") (xe1 : Exa Z h e1 "java/lang/String") (xe2 : Exa Z h e2 "java/lang/String") :
    Con l (⟨"java/util/ImmutableCollections", "listCopy", "(Ljava/util/Collection;)Ljava/util/List;"⟩ : MethodName) jdk_56_method_3_code 2 (some (.object "java/util/List")) ({ frames := 7, cells := 3, slots := 8, locals := 90 } : Room) Z n0 #[(.ref a)] h (fun v h' => ∃ r : Addr, ∃ c : Addr, ∃ kc2 : ClassId, v = some (.ref r) ∧ Keep h h' [] ∧ n0 ≤ r ∧ h.size ≤ r ∧ n0 ≤ c ∧ h.size ≤ c ∧ Exa Z h' r "java/util/ImmutableCollections$ListN" ∧ Fld Z h' r "java/util/ImmutableCollections$ListN" "elements" "[Ljava/lang/Object;" (.ref c) ∧ Arv Z h' c kc2 (.object "java/lang/Object") (3 : Int32) [(.ref e0), (.ref e1), (.ref e2)] .null) := by
  refine Con.of_go (plainFor_of_name pn_9) (Ls := #[.val (.ref a), .unset]) (fun m => by first | (simp [entryFrame, mkF, argsToLocals, Value.category]; done) | rfl) ?_
  refine Go.aloadN (pc' := 1) d18_0 rfl rfl rfl ?_
  refine Go.instNo (pc' := 4) (ww hw 105 rfl) xa (own_nno (ww hw 106 rfl) (ww hw 190 rfl) (NS.step (ww hw 106 rfl) (NS.step (ww hw 107 rfl) (NS.step (ww hw 108 rfl) (own_nroot (ww hw 109 rfl) (ww hw 190 rfl) (by decide)) (by decide)) (by decide)) (by decide)) (by decide)) d18_1 rfl ?_
  refine Go.ifNo (pc' := 7) d18_4 (XT.i0_ne_f (by decide)) rfl ?_
  refine Go.aloadN (pc' := 8) d18_7 rfl rfl rfl ?_
  refine Go.instNo (pc' := 11) (ww hw 110 rfl) xa (own_nno (ww hw 106 rfl) (ww hw 165 rfl) (NS.step (ww hw 106 rfl) (NS.step (ww hw 107 rfl) (NS.step (ww hw 108 rfl) (own_nroot (ww hw 109 rfl) (ww hw 165 rfl) (by decide)) (by decide)) (by decide)) (by decide)) (by decide)) d18_8 rfl ?_
  refine Go.ifYes (pc' := 31) d18_11 (XT.i0_eq_t (by decide)) (by decide) (by decide) ?_
  refine Go.aloadN (pc' := 32) d18_31 rfl rfl rfl ?_
  refine Go.callI (cells' := 0) (slots' := 0) (pc' := 37) [] [] xa (ww hw 111 rfl) (ww hw 112 rfl) (ww hw 113 rfl) (ww hw 114 rfl) (ww hw 115 rfl) (ww hw 116 rfl) (ww hw 117 rfl) (ww hw 118 rfl) (ww hw 32 rfl) (ww hw 119 rfl) (by decide) (c_alEmptyN l Z a0 hw h a (3 : Int32) (by decide) pf1) pd_6 rfl rfl rfl rfl rfl (nl rfl) (nl rfl) (nl rfl) (nl rfl) d18_32 rfl ?_
  rintro _ _ ⟨rfl, rfl⟩
  show Go _ _ _ _ _ _ _ _ _ _ _ _ 37 #[.val (.ref a), .unset] [(.int (0 : Int32))]
  refine Go.ifYes (pc' := 44) d18_37 (XT.i0_eq_t (by decide)) (by decide) (by decide) ?_
  refine Go.aloadN (pc' := 45) d18_44 rfl rfl rfl ?_
  refine Go.callI (cells' := 1) (slots' := 3) (pc' := 50) [] [] xa (ww hw 124 rfl) (ww hw 125 rfl) (ww hw 126 rfl) (ww hw 127 rfl) (ww hw 128 rfl) (ww hw 129 rfl) (ww hw 130 rfl) (ww hw 118 rfl) (ww hw 32 rfl) (ww hw 131 rfl) (by decide) (c_toArray3 l Z a0 hw h a b kb e0 e1 e2 mO mo pf0 pf1 v xb xe0 xe1 xe2) pd_3 rfl rfl rfl rfl rfl (nl rfl) (nl rfl) (nl rfl) (nl rfl) d18_45 rfl ?_
  rintro _ h2 ⟨r_2, kr_2, rfl, K2, ge_r_2, sz_r_2, F2_0, F2_1, F2_2⟩
  have sz3 : h.size ≤ r_2 := Nat.le_trans (Keep.refl h []).1 sz_r_2
  have K4 : Keep h h2 [] := (Keep.refl h []).trans K2 all0
  show Go _ _ _ _ _ _ _ _ _ _ _ _ 50 #[.val (.ref a), .unset] [(.ref r_2)]
  refine Go.callS (cells' := 3) (slots' := 8) (pc' := 53) [(.ref r_2)] [] (ww hw 154 rfl) (ww hw 155 rfl) (ww hw 99 rfl) (ww hw 156 rfl) (by decide) (c_ofA3 l Z a0 hw h2 r_2 kr_2 e0 e1 e2 F2_0 (xe0.keep K2) (xe1.keep K2) (xe2.keep K2)) pd_12 rfl rfl rfl rfl rfl (nl rfl) (nl rfl) (nl rfl) (nl rfl) d18_50 rfl ?_
  rintro _ h5 ⟨r_5, c_5, kc2_5, rfl, K5, ge_r_5, sz_r_5, ge_c_5, sz_c_5, F5_0, F5_1, F5_2⟩
  have sz6 : h.size ≤ r_5 := Nat.le_trans K4.1 sz_r_5
  have sz7 : h.size ≤ c_5 := Nat.le_trans K4.1 sz_c_5
  have K8 : Keep h h5 [] := K4.trans K5 all0
  show Go _ _ _ _ _ _ _ _ _ _ _ _ 53 #[.val (.ref a), .unset] [(.ref r_5)]
  exact Go.retR rfl rfl rfl rfl d18_53 ⟨r_5, c_5, kc2_5, rfl, K8, ge_r_5, sz6, ge_c_5, sz7, F5_0, F5_1, F5_2⟩ (by decide) (by decide)
set_option maxRecDepth 65536 in
set_option maxHeartbeats 4000000 in
theorem c_copy3 (l : Launch) (Z : State) (a0 : Array Value) (hw : ∀ d ∈ tables_1, d.before a0 Z = true) {n0 : Nat} (h : Heap) (a : Addr) (b : Addr) (kb : ClassId) (e0 : Addr) (e1 : Addr) (e2 : Addr) (mO : Addr) (mo : Mi Z "[Ljava/lang/Object;" mO) (xa : Exa Z h a "java/util/ArrayList") (pf0 : Fld Z h a "java/util/ArrayList" "elementData" "[Ljava/lang/Object;" (.ref b)) (pf1 : Fld Z h a "java/util/ArrayList" "size" "I" (.int (3 : Int32))) (v : Arv Z h b kb (.object "java/lang/Object") (10 : Int32) [(.ref e0), (.ref e1), (.ref e2), .null, .null, .null, .null, .null, .null, .null] .null) (xb : Exa Z h b "[Ljava/lang/Object;") (xe0 : Exa Z h e0 "java/lang/String") (xe1 : Exa Z h e1 "java/lang/String") (xe2 : Exa Z h e2 "java/lang/String") :
    Con l (⟨"java/util/List", "copyOf", "(Ljava/util/Collection;)Ljava/util/List;"⟩ : MethodName) jdk_40_method_48_code 1 (some (.object "java/util/List")) ({ frames := 8, cells := 3, slots := 8, locals := 103 } : Room) Z n0 #[(.ref a)] h (fun v h' => ∃ r : Addr, ∃ c : Addr, ∃ kc2 : ClassId, v = some (.ref r) ∧ Keep h h' [] ∧ n0 ≤ r ∧ h.size ≤ r ∧ n0 ≤ c ∧ h.size ≤ c ∧ Exa Z h' r "java/util/ImmutableCollections$ListN" ∧ Fld Z h' r "java/util/ImmutableCollections$ListN" "elements" "[Ljava/lang/Object;" (.ref c) ∧ Arv Z h' c kc2 (.object "java/lang/Object") (3 : Int32) [(.ref e0), (.ref e1), (.ref e2)] .null) := by
  refine Con.of_go (plainFor_of_name pn_8) (Ls := #[.val (.ref a)]) (fun m => by first | (simp [entryFrame, mkF, argsToLocals, Value.category]; done) | rfl) ?_
  refine Go.aloadN (pc' := 1) d17_0 rfl rfl rfl ?_
  refine Go.callS (cells' := 3) (slots' := 8) (pc' := 4) [(.ref a)] [] (ww hw 101 rfl) (ww hw 102 rfl) (ww hw 103 rfl) (ww hw 104 rfl) (by decide) (c_listCopy3 l Z a0 hw h a b kb e0 e1 e2 mO mo xa pf0 pf1 v xb xe0 xe1 xe2) pd_8 rfl rfl rfl rfl rfl (nl rfl) (nl rfl) (nl rfl) (nl rfl) d17_1 rfl ?_
  rintro _ h1 ⟨r_1, c_1, kc2_1, rfl, K1, ge_r_1, sz_r_1, ge_c_1, sz_c_1, F1_0, F1_1, F1_2⟩
  have sz2 : h.size ≤ r_1 := Nat.le_trans (Keep.refl h []).1 sz_r_1
  have sz3 : h.size ≤ c_1 := Nat.le_trans (Keep.refl h []).1 sz_c_1
  have K4 : Keep h h1 [] := (Keep.refl h []).trans K1 all0
  show Go _ _ _ _ _ _ _ _ _ _ _ _ 4 #[.val (.ref a)] [(.ref r_1)]
  exact Go.retR rfl rfl rfl rfl d17_4 ⟨r_1, c_1, kc2_1, rfl, K4, ge_r_1, sz2, ge_c_1, sz3, F1_0, F1_1, F1_2⟩ (by decide) (by decide)
def LSt (Z : State) (h : Heap) (a b : Addr) (kb : ClassId) (wd s : Addr) (n : Int32) : Prop := Exa Z h a "java/util/ArrayList" ∧ b < h.size ∧ ((n = 0 ∧ a = b ∧ Fld Z h a "java/util/ArrayList" "elementData" "[Ljava/lang/Object;" (.ref wd) ∧ Fld Z h a "java/util/ArrayList" "size" "I" (.int 0) ∧ Fld Z h a "java/util/AbstractList" "modCount" "I" (.int 0)) ∨ (n = 1 ∧ a ≠ b ∧ Fld Z h a "java/util/ArrayList" "elementData" "[Ljava/lang/Object;" (.ref b) ∧ Fld Z h a "java/util/ArrayList" "size" "I" (.int 1) ∧ Fld Z h a "java/util/AbstractList" "modCount" "I" (.int 1) ∧ Arv Z h b kb (.object "java/lang/Object") (10 : Int32) [(.ref s), .null, .null, .null, .null, .null, .null, .null, .null, .null] .null ∧ Exa Z h b "[Ljava/lang/Object;" ∧ Ovr Z kb "java/lang/Object") ∨ (n = 2 ∧ a ≠ b ∧ Fld Z h a "java/util/ArrayList" "elementData" "[Ljava/lang/Object;" (.ref b) ∧ Fld Z h a "java/util/ArrayList" "size" "I" (.int 2) ∧ Fld Z h a "java/util/AbstractList" "modCount" "I" (.int 2) ∧ Arv Z h b kb (.object "java/lang/Object") (10 : Int32) [(.ref s), (.ref s), .null, .null, .null, .null, .null, .null, .null, .null] .null ∧ Exa Z h b "[Ljava/lang/Object;" ∧ Ovr Z kb "java/lang/Object") ∨ (n = 3 ∧ a ≠ b ∧ Fld Z h a "java/util/ArrayList" "elementData" "[Ljava/lang/Object;" (.ref b) ∧ Fld Z h a "java/util/ArrayList" "size" "I" (.int 3) ∧ Fld Z h a "java/util/AbstractList" "modCount" "I" (.int 3) ∧ Arv Z h b kb (.object "java/lang/Object") (10 : Int32) [(.ref s), (.ref s), (.ref s), .null, .null, .null, .null, .null, .null, .null] .null ∧ Exa Z h b "[Ljava/lang/Object;" ∧ Ovr Z kb "java/lang/Object"))
theorem LSt.ext {Z : State} {h h' : Heap} {a b : Addr} {kb : ClassId} {wd s : Addr} {n : Int32} (F : LSt Z h a b kb wd s n) (E : Ext h h') : LSt Z h' a b kb wd s n := by
  obtain ⟨X, l, ⟨q, q', f1, f2, f3⟩ | ⟨q, q', f1, f2, f3, v, x, o⟩ | ⟨q, q', f1, f2, f3, v, x, o⟩ | ⟨q, q', f1, f2, f3, v, x, o⟩⟩ := F
  · exact ⟨X.ext E, Nat.lt_of_lt_of_le l E.1, Or.inl ⟨q, q', f1.ext E, f2.ext E, f3.ext E⟩⟩
  · exact ⟨X.ext E, Nat.lt_of_lt_of_le l E.1, Or.inr (Or.inl (⟨q, q', f1.ext E, f2.ext E, f3.ext E, v.ext E, x.ext E, o⟩))⟩
  · exact ⟨X.ext E, Nat.lt_of_lt_of_le l E.1, Or.inr (Or.inr (Or.inl (⟨q, q', f1.ext E, f2.ext E, f3.ext E, v.ext E, x.ext E, o⟩)))⟩
  · exact ⟨X.ext E, Nat.lt_of_lt_of_le l E.1, Or.inr (Or.inr (Or.inr ((⟨q, q', f1.ext E, f2.ext E, f3.ext E, v.ext E, x.ext E, o⟩))))⟩
theorem LSt.keep {Z : State} {h h' : Heap} {a b : Addr} {kb : ClassId} {wd s : Addr} {n : Int32} (F : LSt Z h a b kb wd s n) {ws : List Addr} (K : Keep h h' ws) (na : a ∉ ws) (nb : b ∉ ws) : LSt Z h' a b kb wd s n := by
  obtain ⟨X, l, ⟨q, q', f1, f2, f3⟩ | ⟨q, q', f1, f2, f3, v, x, o⟩ | ⟨q, q', f1, f2, f3, v, x, o⟩ | ⟨q, q', f1, f2, f3, v, x, o⟩⟩ := F
  · exact ⟨X.keep K, Nat.lt_of_lt_of_le l K.1, Or.inl ⟨q, q', f1.keep K na, f2.keep K na, f3.keep K na⟩⟩
  · exact ⟨X.keep K, Nat.lt_of_lt_of_le l K.1, Or.inr (Or.inl (⟨q, q', f1.keep K na, f2.keep K na, f3.keep K na, v.keep K nb, x.keep K, o⟩))⟩
  · exact ⟨X.keep K, Nat.lt_of_lt_of_le l K.1, Or.inr (Or.inr (Or.inl (⟨q, q', f1.keep K na, f2.keep K na, f3.keep K na, v.keep K nb, x.keep K, o⟩)))⟩
  · exact ⟨X.keep K, Nat.lt_of_lt_of_le l K.1, Or.inr (Or.inr (Or.inr ((⟨q, q', f1.keep K na, f2.keep K na, f3.keep K na, v.keep K nb, x.keep K, o⟩))))⟩
theorem LSt.other {Z : State} {h h' : Heap} {a b : Addr} {kb : ClassId} {wd s : Addr} {n : Int32} (F : LSt Z h a b kb wd s n) {x' : Addr} {sl : Nat} {u : Value} (W : Wr h h' x' sl u) (na : a ≠ x') (nb : b ≠ x') : LSt Z h' a b kb wd s n := by
  obtain ⟨X, l, ⟨q, q', f1, f2, f3⟩ | ⟨q, q', f1, f2, f3, v, x, o⟩ | ⟨q, q', f1, f2, f3, v, x, o⟩ | ⟨q, q', f1, f2, f3, v, x, o⟩⟩ := F
  · exact ⟨X.wr W, W.size ▸ l, Or.inl ⟨q, q', f1.other W (Or.inl na), f2.other W (Or.inl na), f3.other W (Or.inl na)⟩⟩
  · exact ⟨X.wr W, W.size ▸ l, Or.inr (Or.inl (⟨q, q', f1.other W (Or.inl na), f2.other W (Or.inl na), f3.other W (Or.inl na), v.other W nb, x.wr W, o⟩))⟩
  · exact ⟨X.wr W, W.size ▸ l, Or.inr (Or.inr (Or.inl (⟨q, q', f1.other W (Or.inl na), f2.other W (Or.inl na), f3.other W (Or.inl na), v.other W nb, x.wr W, o⟩)))⟩
  · exact ⟨X.wr W, W.size ▸ l, Or.inr (Or.inr (Or.inr ((⟨q, q', f1.other W (Or.inl na), f2.other W (Or.inl na), f3.other W (Or.inl na), v.other W nb, x.wr W, o⟩))))⟩
theorem LSt.lt0 {Z : State} {h : Heap} {a b : Addr} {kb : ClassId} {wd s : Addr} {n : Int32} (F : LSt Z h a b kb wd s n) : a < h.size := F.1.lt
theorem LSt.lt1 {Z : State} {h : Heap} {a b : Addr} {kb : ClassId} {wd s : Addr} {n : Int32} (F : LSt Z h a b kb wd s n) : b < h.size := F.2.1
theorem LSt.exa {Z : State} {h : Heap} {a b : Addr} {kb : ClassId} {wd s : Addr} {n : Int32} (F : LSt Z h a b kb wd s n) : Exa Z h a "java/util/ArrayList" := F.1
def IMl (Z : State) (h : Heap) (r c : Addr) (kc : ClassId) (m : Nat) (wL s : Addr) (n : Int32) : Prop := (n = 0 ∧ r = wL) ∨ (¬ n = 0 ∧ m ≤ r ∧ Exa Z h r "java/util/ImmutableCollections$List12") ∨ (¬ n = 0 ∧ m ≤ r ∧ m ≤ c ∧ Exa Z h r "java/util/ImmutableCollections$ListN" ∧ Fld Z h r "java/util/ImmutableCollections$ListN" "elements" "[Ljava/lang/Object;" (.ref c) ∧ Arv Z h c kc (.object "java/lang/Object") (3 : Int32) [(.ref s), (.ref s), (.ref s)] .null)
theorem IMl.ext {Z : State} {h h' : Heap} {r c : Addr} {kc : ClassId} {m : Nat} {wL s : Addr} {n : Int32} (F : IMl Z h r c kc m wL s n) (E : Ext h h') : IMl Z h' r c kc m wL s n := by
  obtain q | ⟨q, l, x⟩ | ⟨q, l, l', x, f, v⟩ := F
  · exact Or.inl q
  · exact Or.inr (Or.inl ⟨q, l, x.ext E⟩)
  · exact Or.inr (Or.inr ⟨q, l, l', x.ext E, f.ext E, v.ext E⟩)
theorem IMl.keep {Z : State} {h h' : Heap} {r c : Addr} {kc : ClassId} {m : Nat} {wL s : Addr} {n : Int32} (F : IMl Z h r c kc m wL s n) {ws : List Addr} (K : Keep h h' ws) (H : ∀ x ∈ ws, x < m) : IMl Z h' r c kc m wL s n := by
  obtain q | ⟨q, l, x⟩ | ⟨q, l, l', x, f, v⟩ := F
  · exact Or.inl q
  · exact Or.inr (Or.inl ⟨q, l, x.keep K⟩)
  · exact Or.inr (Or.inr ⟨q, l, l', x.keep K, f.keep K (fun z => Nat.not_lt.mpr l (H _ z)), v.keep K (fun z => Nat.not_lt.mpr l' (H _ z))⟩)
theorem IMl.wr {Z : State} {h h' : Heap} {r c : Addr} {kc : ClassId} {m : Nat} {wL s : Addr} {n : Int32} (F : IMl Z h r c kc m wL s n) {x' : Addr} {sl : Nat} {u : Value} (W : Wr h h' x' sl u) (H : x' < m) : IMl Z h' r c kc m wL s n := by
  obtain q | ⟨q, l, x⟩ | ⟨q, l, l', x, f, v⟩ := F
  · exact Or.inl q
  · exact Or.inr (Or.inl ⟨q, l, x.wr W⟩)
  · exact Or.inr (Or.inr ⟨q, l, l', x.wr W, f.other W (Or.inl fun z => Nat.not_lt.mpr l (z ▸ H)), v.other W (fun z => Nat.not_lt.mpr l' (z ▸ H))⟩)
theorem IMl.low {Z : State} {h : Heap} {r c : Addr} {kc : ClassId} {m : Nat} {wL s : Addr} {n : Int32} {m' : Nat} (F : IMl Z h r c kc m wL s n) (H : m' ≤ m) : IMl Z h r c kc m' wL s n := by
  obtain q | ⟨q, l, x⟩ | ⟨q, l, l', x, f, v⟩ := F
  · exact Or.inl q
  · exact Or.inr (Or.inl ⟨q, Nat.le_trans H l, x⟩)
  · exact Or.inr (Or.inr ⟨q, Nat.le_trans H l, Nat.le_trans H l', x, f, v⟩)
theorem own_kweak {h h' : Heap} {ws ws' : List Addr} (K : Keep h h' ws) (H : ∀ x ∈ ws, x ∈ ws') : Keep h h' ws' := ⟨K.1, fun x c hx hn => K.2.1 x c hx fun z => hn (H x z), K.2.2⟩
theorem d2_0 : decode jdk_43_method_3_code 0 = .ok (.iload_n 0, 1) := by decide +kernel
theorem d2_1 : decode jdk_43_method_3_code 1 = .ok (.sipush 255, 3) := by decide +kernel
theorem d2_4 : decode jdk_43_method_3_code 4 = .ok (.if_icmp .gt 7, 3) := by decide +kernel
theorem d2_7 : decode jdk_43_method_3_code 7 = .ok (.iconst 1, 1) := by decide +kernel
theorem d2_8 : decode jdk_43_method_3_code 8 = .ok (.goto 4, 3) := by decide +kernel
theorem d2_12 : decode jdk_43_method_3_code 12 = .ok (.ireturn, 1) := by decide +kernel
theorem pn_11 : plainName "java/lang/StringLatin1" = true := by first | (simp [plainName, overriddenIn]; done) | decide +kernel
set_option maxRecDepth 65536 in
set_option maxHeartbeats 4000000 in
theorem c_canEnc (l : Launch) (Z : State) (a0 : Array Value) (hw : ∀ d ∈ tables_1, d.before a0 Z = true) {n0 : Nat} (h : Heap) (k : Int32) (hk : ¬ ((255 : Int32) < k)) :
    Con l (⟨"java/lang/StringLatin1", "canEncode", "(C)Z"⟩ : MethodName) jdk_43_method_3_code 1 (some .boolean) ({ frames := 0, cells := 0, slots := 0, locals := 0 } : Room) Z n0 #[(.int k)] h (fun v h' => v = some (.int (1 : Int32)) ∧ h = h') := by
  refine Con.of_go (plainFor_of_name pn_11) (Ls := #[.val (.int k)]) (fun m => by first | (simp [entryFrame, mkF, argsToLocals, Value.category]; done) | rfl) ?_
  refine Go.iloadN (pc' := 1) d2_0 rfl rfl ?_
  refine Go.sipush (pc' := 4) (v := (255 : Int32)) d2_1 rfl rfl ?_
  refine Go.icmpNo (pc' := 7) d2_4 (XT.ii_gt_f hk) rfl ?_
  refine Go.iconst (pc' := 8) (v := (1 : Int32)) d2_7 rfl rfl ?_
  refine Go.goto (pc' := 12) d2_8 (by decide) (by decide) ?_
  exact Go.retN (t := .boolean) rfl (by simp) d2_12 ⟨rfl, rfl⟩ (by decide) (by decide)
theorem d3_0 : decode jdk_43_method_46_code 0 = .ok (.iconst 1, 1) := by decide +kernel
theorem d3_1 : decode jdk_43_method_46_code 1 = .ok (.newarray .byte, 2) := by decide +kernel
theorem d3_3 : decode jdk_43_method_46_code 3 = .ok (.dup, 1) := by decide +kernel
theorem d3_4 : decode jdk_43_method_46_code 4 = .ok (.iconst 0, 1) := by decide +kernel
theorem d3_5 : decode jdk_43_method_46_code 5 = .ok (.iload_n 0, 1) := by decide +kernel
theorem d3_6 : decode jdk_43_method_46_code 6 = .ok (.i2b, 1) := by decide +kernel
theorem d3_7 : decode jdk_43_method_46_code 7 = .ok (.bastore, 1) := by decide +kernel
theorem d3_8 : decode jdk_43_method_46_code 8 = .ok (.areturn, 1) := by decide +kernel
set_option maxRecDepth 65536 in
set_option maxHeartbeats 4000000 in
theorem c_toBytes (l : Launch) (Z : State) (a0 : Array Value) (hw : ∀ d ∈ tables_1, d.before a0 Z = true) {n0 : Nat} (h : Heap) (k : Int32) :
    Con l (⟨"java/lang/StringLatin1", "toBytes", "(C)[B"⟩ : MethodName) jdk_43_method_46_code 1 (some (.array .byte)) ({ frames := 0, cells := 1, slots := 1, locals := 0 } : Room) Z n0 #[(.int k)] h (fun v h' => ∃ b : Addr, ∃ kb : ClassId, v = some (.ref b) ∧ Keep h h' [] ∧ n0 ≤ b ∧ h.size ≤ b ∧ Arv Z h' b kb .byte (1 : Int32) [(.int k.toInt8.toInt32)] (.int 0)) := by
  refine Con.of_go (plainFor_of_name pn_11) (Ls := #[.val (.int k)]) (fun m => by first | (simp [entryFrame, mkF, argsToLocals, Value.category]; done) | rfl) ?_
  refine Go.iconst (pc' := 1) (v := (1 : Int32)) d3_0 rfl rfl ?_
  refine Go.newarray (pc' := 3) (cells' := 1) (slots' := 1) (cap := 1) (ww hw 14 rfl) d3_1 (ad := "[B") (by decide) (by decide) (by decide) rfl rfl (by decide) (by decide) (by decide) rfl ?_
  intro h1 b1 g1 E1 ge1 kA1 A1 X1
  have sz2 : h.size ≤ b1 := Nat.le_trans (Keep.refl h []).1 (Nat.le_of_eq g1.symm)
  have K3 : Keep h h1 [] := (Keep.refl h []).ext E1
  have V1 : Arv Z h1 b1 kA1 .byte (1 : Int32) [(.int 0)] (.int 0) := Arv.pad A1 (pad_rep [] (.int 0) 1)
  refine Go.dup (pc' := 4) d3_3 rfl rfl ?_
  refine Go.iconst (pc' := 5) (v := (0 : Int32)) d3_4 rfl rfl ?_
  refine Go.iloadN (pc' := 6) d3_5 rfl rfl ?_
  refine Go.i2b (pc' := 7) d3_6 rfl ?_
  refine Go.bastore (pc' := 8) V1 ge1 d3_7 (by decide) (by decide) (i := 0) rfl (nl rfl) rfl ?_
  intro h4 W5 V6
  have K7 : Keep h h4 [] := K3.wr W5 (Or.inr sz2)
  rw [OwnNum.b8] at V6
  replace V6 : Arv Z h4 b1 kA1 .byte (1 : Int32) [(.int k.toInt8.toInt32)] (.int 0) := V6
  exact Go.retR rfl rfl rfl rfl d3_8 ⟨b1, kA1, rfl, K7, ge1, sz2, V6⟩ (by decide) (by decide)
theorem d4_0 : decode jdk_42_method_151_code 0 = .ok (.aload_n 0, 1) := by decide +kernel
theorem d4_1 : decode jdk_42_method_151_code 1 = .ok (.invokespecial 1, 3) := by decide +kernel
theorem d4_4 : decode jdk_42_method_151_code 4 = .ok (.aload_n 0, 1) := by decide +kernel
theorem d4_5 : decode jdk_42_method_151_code 5 = .ok (.aload_n 1, 1) := by decide +kernel
theorem d4_6 : decode jdk_42_method_151_code 6 = .ok (.putfield 9, 3) := by decide +kernel
theorem d4_9 : decode jdk_42_method_151_code 9 = .ok (.aload_n 0, 1) := by decide +kernel
theorem d4_10 : decode jdk_42_method_151_code 10 = .ok (.iload_n 2, 1) := by decide +kernel
theorem d4_11 : decode jdk_42_method_151_code 11 = .ok (.putfield 15, 3) := by decide +kernel
theorem d4_14 : decode jdk_42_method_151_code 14 = .ok (.return_, 1) := by decide +kernel
theorem pn_12 : plainName "java/lang/String" = true := by first | (simp [plainName, overriddenIn]; done) | decide +kernel
set_option maxRecDepth 65536 in
set_option maxHeartbeats 4000000 in
theorem c_strB (l : Launch) (Z : State) (a0 : Array Value) (hw : ∀ d ∈ tables_1, d.before a0 Z = true) {n0 : Nat} (h : Heap) (a : Addr) (b : Addr) (ge_a : n0 ≤ a) (x : Exa Z h a "java/lang/String") (pf0 : Fld Z h a "java/lang/String" "value" "[B" .null) (pf1 : Fld Z h a "java/lang/String" "coder" "B" (.int (0 : Int32))) :
    Con l (⟨"java/lang/String", "<init>", "([BB)V"⟩ : MethodName) jdk_42_method_151_code 3 none ({ frames := 1, cells := 0, slots := 0, locals := 12 } : Room) Z n0 #[(.ref a), (.ref b), (.int (0 : Int32))] h (fun v h' => v = none ∧ Keep h h' [a] ∧ Fld Z h' a "java/lang/String" "value" "[B" (.ref b) ∧ Fld Z h' a "java/lang/String" "coder" "B" (.int (0 : Int32))) := by
  refine Con.of_go (plainFor_of_name pn_12) (Ls := #[.val (.ref a), .val (.ref b), .val (.int (0 : Int32))]) (fun m => by first | (simp [entryFrame, mkF, argsToLocals, Value.category]; done) | rfl) ?_
  refine Go.aloadN (pc' := 1) d4_0 rfl rfl rfl ?_
  refine Go.initO (pc' := 4) (ww hw 19 rfl) (ww hw 20 rfl) (ww hw 21 rfl) d4_1 rfl (nl rfl) (nl rfl) rfl ?_
  refine Go.aloadN (pc' := 5) d4_4 rfl rfl rfl ?_
  refine Go.aloadN (pc' := 6) d4_5 rfl rfl rfl ?_
  refine Go.putfield (pc' := 9) (host := "") (Or.inl (ww hw 22 rfl)) Via.refl pf0 x (Or.inr ⟨(ww hw 23 rfl), rfl, rfl⟩) (ww hw 10 rfl) (ty := (.array .byte)) (by decide) rfl rfl ge_a d4_6 rfl ?_
  intro h1 W2
  have K3 : Keep h h1 [a] := (Keep.refl h [a]).wr W2 (Or.inl (List.mem_of_getElem? (i := 0) rfl))
  have f4 := pf0.same W2
  refine Go.aloadN (pc' := 10) d4_9 rfl rfl rfl ?_
  refine Go.iloadN (pc' := 11) d4_10 rfl rfl ?_
  have f5 : Fld Z h1 a "java/lang/String" "coder" "B" (.int (0 : Int32)) := (pf1.other W2 (Or.inr (slot_ne (Or.inr (ww hw 25 rfl)) (Or.inr (ww hw 23 rfl)) (by decide) (t := .byte) (t' := (.array .byte)) (by decide) (by decide))))
  refine Go.putfieldN (pc' := 14) (ww hw 24 rfl) Via.refl f5 (x.wr W2) (Or.inr ⟨(ww hw 25 rfl), rfl, rfl⟩) (ww hw 10 rfl) (ty := .byte) (v' := (0 : Int32)) (by decide) (by first | rfl | decide) (by first | rfl | decide | exact fits_nar_byte _) ge_a d4_11 rfl ?_
  intro h6 W7
  have K8 : Keep h h6 [a] := K3.wr W7 (Or.inl (List.mem_of_getElem? (i := 0) rfl))
  have f9 := f5.same W7
  have f10 : Fld Z h6 a "java/lang/String" "value" "[B" (.ref b) := (f4.other W7 (Or.inr (slot_ne (Or.inr (ww hw 23 rfl)) (Or.inr (ww hw 25 rfl)) (by decide) (t := (.array .byte)) (t' := .byte) (by decide) (by decide))))
  exact Go.retV rfl d4_14 ⟨rfl, K8, f10, f9⟩ (by decide) (by decide)
theorem d1_0 : decode jdk_42_method_139_code 0 = .ok (.getstatic 38, 3) := by decide +kernel
theorem d1_3 : decode jdk_42_method_139_code 3 = .ok (.ifCond .eq 23, 3) := by decide +kernel
theorem d1_6 : decode jdk_42_method_139_code 6 = .ok (.iload_n 0, 1) := by decide +kernel
theorem d1_7 : decode jdk_42_method_139_code 7 = .ok (.invokestatic 1015, 3) := by decide +kernel
theorem d1_10 : decode jdk_42_method_139_code 10 = .ok (.ifCond .eq 16, 3) := by decide +kernel
theorem d1_13 : decode jdk_42_method_139_code 13 = .ok (.new 10, 3) := by decide +kernel
theorem d1_16 : decode jdk_42_method_139_code 16 = .ok (.dup, 1) := by decide +kernel
theorem d1_17 : decode jdk_42_method_139_code 17 = .ok (.iload_n 0, 1) := by decide +kernel
theorem d1_18 : decode jdk_42_method_139_code 18 = .ok (.invokestatic 1018, 3) := by decide +kernel
theorem d1_21 : decode jdk_42_method_139_code 21 = .ok (.iconst 0, 1) := by decide +kernel
theorem d1_22 : decode jdk_42_method_139_code 22 = .ok (.invokespecial 209, 3) := by decide +kernel
theorem d1_25 : decode jdk_42_method_139_code 25 = .ok (.areturn, 1) := by decide +kernel
theorem pd_15 : parseMethodDescriptor "(C)Z" = some ⟨[.char], some .boolean⟩ := by decide +kernel
theorem pd_16 : parseMethodDescriptor "(C)[B" = some ⟨[.char], some (.array .byte)⟩ := by decide +kernel
theorem pd_17 : parseMethodDescriptor "([BB)V" = some ⟨[(.array .byte), .byte], none⟩ := by decide +kernel
set_option maxRecDepth 65536 in
set_option maxHeartbeats 4000000 in
theorem c_valueOf (l : Launch) (Z : State) (a0 : Array Value) (hw : ∀ d ∈ tables_1, d.before a0 Z = true) {n0 : Nat} (h : Heap) (k : Int32) (cp : Int32) (hk : ¬ ((255 : Int32) < k)) (hcp : ¬ (cp = (0 : Int32))) (scp : Sta Z Z.heap "java/lang/String" "COMPACT_STRINGS" "Z" (.int cp)) :
    Con l (⟨"java/lang/String", "valueOf", "(C)Ljava/lang/String;"⟩ : MethodName) jdk_42_method_139_code 1 (some (.object "java/lang/String")) ({ frames := 2, cells := 2, slots := 5, locals := 27 } : Room) Z n0 #[(.int k)] h (fun v h' => ∃ r : Addr, v = some (.ref r) ∧ Keep h h' [] ∧ n0 ≤ r ∧ h.size ≤ r ∧ Exa Z h' r "java/lang/String") := by
  refine Con.of_go (plainFor_of_name pn_12) (Ls := #[.val (.int k)]) (fun m => by first | (simp [entryFrame, mkF, argsToLocals, Value.category]; done) | rfl) ?_
  refine Go.old (fun old1 => ?_)
  refine Go.getstatic (pc' := 3) (host := "") (Or.inl (ww hw 4 rfl)) Via.refl (scp.ext old1.2) d1_0 rfl ?_
  refine Go.ifNo (pc' := 6) d1_3 (XT.i0_eq_f hcp) rfl ?_
  refine Go.iloadN (pc' := 7) d1_6 rfl rfl ?_
  refine Go.callS (cells' := 0) (slots' := 0) (pc' := 10) [(.int k)] [] (ww hw 5 rfl) (ww hw 6 rfl) (ww hw 7 rfl) (ww hw 8 rfl) (by decide) (c_canEnc l Z a0 hw h k hk) pd_15 rfl rfl rfl rfl rfl (nl rfl) (nl rfl) (nl rfl) (nl rfl) d1_7 rfl ?_
  rintro _ _ ⟨rfl, rfl⟩
  show Go _ _ _ _ _ _ _ _ _ _ _ _ 10 #[.val (.int k)] [(.int (1 : Int32))]
  refine Go.ifNo (pc' := 13) d1_10 (XT.i0_eq_f (by decide)) rfl ?_
  refine Go.new (pc' := 16) (cells' := 1) (slots' := 4) (ww hw 9 rfl) (ww hw 10 rfl) (ww hw 2 rfl) d1_13 rfl rfl (by decide) (by decide) rfl ?_
  intro h3 b3 g3 E3 ge3 A3 D3
  have sz4 : h.size ≤ b3 := Nat.le_trans (Keep.refl h []).1 (Nat.le_of_eq g3.symm)
  have K5 : Keep h h3 [] := (Keep.refl h []).ext E3
  refine Go.dup (pc' := 17) d1_16 rfl rfl ?_
  refine Go.iloadN (pc' := 18) d1_17 rfl rfl ?_
  refine Go.callS (cells' := 2) (slots' := 5) (pc' := 21) [(.int k)] [(.ref b3), (.ref b3)] (ww hw 11 rfl) (ww hw 12 rfl) (ww hw 7 rfl) (ww hw 13 rfl) (by decide) (c_toBytes l Z a0 hw h3 k) pd_16 rfl rfl rfl rfl rfl (nl rfl) (nl rfl) (nl rfl) (nl rfl) d1_18 rfl ?_
  rintro _ h6 ⟨b_6, kb_6, rfl, K6, ge_b_6, sz_b_6, F6_0⟩
  have sz7 : h.size ≤ b_6 := Nat.le_trans K5.1 sz_b_6
  have K8 : Keep h h6 [] := K5.trans K6 all0
  show Go _ _ _ _ _ _ _ _ _ _ _ _ 21 #[.val (.int k)] [(.ref b_6), (.ref b3), (.ref b3)]
  refine Go.iconst (pc' := 22) (v := (0 : Int32)) d1_21 rfl rfl ?_
  have f9 : Fld Z h6 b3 "java/lang/String" "value" "[B" .null := ((D3 (Or.inr (ww hw 23 rfl)) (ty := (.array .byte)) (by decide) : Fld Z h3 b3 "java/lang/String" "value" "[B" .null).keep K6 nin0)
  have f10 : Fld Z h6 b3 "java/lang/String" "coder" "B" (.int (0 : Int32)) := ((D3 (Or.inr (ww hw 25 rfl)) (ty := .byte) (by decide) : Fld Z h3 b3 "java/lang/String" "coder" "B" (.int (0 : Int32))).keep K6 nin0)
  refine Go.callC (cells' := 2) (slots' := 5) (pc' := 25) [(.ref b_6), (.int (0 : Int32))] [(.ref b3)] (a := b3) rfl rfl (ww hw 15 rfl) (ww hw 16 rfl) (ww hw 2 rfl) (ww hw 18 rfl) (by decide) (c_strB l Z a0 hw h6 b3 b_6 ge3 (A3.keep K6) f9 f10) pd_17 rfl rfl rfl rfl rfl (nl rfl) (nl rfl) (nl rfl) (nl rfl) d1_22 rfl ?_
  rintro _ h11 ⟨rfl, K11, F11_0, F11_1⟩
  have K12 : Keep h h11 [] := K8.trans K11 (allS (Or.inr sz4) all0)
  show Go _ _ _ _ _ _ _ _ _ _ _ _ 25 #[.val (.int k)] [(.ref b3)]
  exact Go.retR rfl rfl rfl rfl d1_25 ⟨b3, rfl, K12, ge3, sz4, ((A3.keep K6).keep K11)⟩ (by decide) (by decide)
theorem d6_0 : decode method_3_code 0 = .ok (.new 25, 3) := by decide +kernel
theorem d6_3 : decode method_3_code 3 = .ok (.dup, 1) := by decide +kernel
theorem d6_4 : decode method_3_code 4 = .ok (.invokespecial 34, 3) := by decide +kernel
theorem d6_7 : decode method_3_code 7 = .ok (.astore_n 2, 1) := by decide +kernel
theorem d6_8 : decode method_3_code 8 = .ok (.iload_n 0, 1) := by decide +kernel
theorem d6_9 : decode method_3_code 9 = .ok (.ifCond .le 9, 3) := by decide +kernel
theorem d6_18 : decode method_3_code 18 = .ok (.iload_n 0, 1) := by decide +kernel
theorem d6_19 : decode method_3_code 19 = .ok (.iconst 1, 1) := by decide +kernel
theorem d6_20 : decode method_3_code 20 = .ok (.if_icmp .le 9, 3) := by decide +kernel
theorem d6_29 : decode method_3_code 29 = .ok (.iload_n 0, 1) := by decide +kernel
theorem d6_30 : decode method_3_code 30 = .ok (.iconst 2, 1) := by decide +kernel
theorem d6_31 : decode method_3_code 31 = .ok (.if_icmp .le 9, 3) := by decide +kernel
theorem d6_40 : decode method_3_code 40 = .ok (.aload_n 2, 1) := by decide +kernel
theorem d6_41 : decode method_3_code 41 = .ok (.areturn, 1) := by decide +kernel
theorem pd_18 : parseMethodDescriptor "(Ljava/lang/Object;)Z" = some ⟨[(.object "java/lang/Object")], some .boolean⟩ := by decide +kernel
theorem pn_13 : plainName "com/example/aligned_index/alignedindex/inspect/DifferencesNonePinLaw" = true := by first | (simp [plainName, overriddenIn]; done) | decide +kernel
set_option maxRecDepth 65536 in
set_option maxHeartbeats 4000000 in
theorem c_fill0 (l : Launch) (Z : State) (a0 : Array Value) (hw : ∀ d ∈ tables_1, d.before a0 Z = true) {n0 : Nat} (h : Heap) (s : Addr) (wd : Addr) (kd : ClassId) (vsd : List Value) (sd : Sta Z Z.heap "java/util/ArrayList" "DEFAULTCAPACITY_EMPTY_ELEMENTDATA" "[Ljava/lang/Object;" (.ref wd)) (vd : Arv Z Z.heap wd kd (.object "java/lang/Object") (0 : Int32) vsd .null) (xd : Exa Z Z.heap wd "[Ljava/lang/Object;") (xs : Exa Z h s "java/lang/String") :
    Con l (⟨"com/example/aligned_index/alignedindex/inspect/DifferencesNonePinLaw", "fill", "(ILjava/lang/String;)Ljava/util/ArrayList;"⟩ : MethodName) method_3_code 3 (some (.object "java/util/ArrayList")) ({ frames := 5, cells := 4, slots := 33, locals := 69 } : Room) Z n0 #[(.int (0 : Int32)), (.ref s)] h (fun v h' => ∃ a : Addr, v = some (.ref a) ∧ Keep h h' [] ∧ n0 ≤ a ∧ h.size ≤ a ∧ Exa Z h' a "java/util/ArrayList" ∧ Fld Z h' a "java/util/ArrayList" "elementData" "[Ljava/lang/Object;" (.ref wd) ∧ Fld Z h' a "java/util/ArrayList" "size" "I" (.int (0 : Int32)) ∧ Fld Z h' a "java/util/AbstractList" "modCount" "I" (.int (0 : Int32))) := by
  refine Con.of_go (plainFor_of_name pn_13) (Ls := #[.val (.int (0 : Int32)), .val (.ref s), .unset]) (fun m => by first | (simp [entryFrame, mkF, argsToLocals, Value.category]; done) | rfl) ?_
  refine Go.new (pc' := 3) (cells' := 1) (slots' := 3) (ww hw 30 rfl) (ww hw 31 rfl) (ww hw 32 rfl) d6_0 rfl rfl (by decide) (by decide) rfl ?_
  intro h1 b1 g1 E1 ge1 A1 D1
  have sz2 : h.size ≤ b1 := Nat.le_trans (Keep.refl h []).1 (Nat.le_of_eq g1.symm)
  have K3 : Keep h h1 [] := (Keep.refl h []).ext E1
  refine Go.dup (pc' := 4) d6_3 rfl rfl ?_
  refine Go.callC (cells' := 1) (slots' := 3) (pc' := 7) [] [(.ref b1)] (a := b1) rfl rfl (ww hw 33 rfl) (ww hw 34 rfl) (ww hw 32 rfl) (ww hw 35 rfl) (by decide) (c_alInit l Z a0 hw h1 b1 wd kd vsd sd vd xd ge1 A1 ((D1 (Or.inl (ww hw 53 rfl)) (ty := (.array (.object "java/lang/Object"))) (by decide) : Fld Z h1 b1 "java/util/ArrayList" "elementData" "[Ljava/lang/Object;" .null)) ((D1 (Or.inl (ww hw 62 rfl)) (ty := .int) (by decide) : Fld Z h1 b1 "java/util/ArrayList" "size" "I" (.int (0 : Int32)))) ((D1 (Or.inl (ww hw 50 rfl)) (ty := .int) (by decide) : Fld Z h1 b1 "java/util/AbstractList" "modCount" "I" (.int (0 : Int32))))) pd_0 rfl rfl rfl rfl rfl (nl rfl) (nl rfl) (nl rfl) (nl rfl) d6_4 rfl ?_
  rintro _ h4 ⟨rfl, K4, F4_0, F4_1, F4_2⟩
  have K5 : Keep h h4 [] := K3.trans K4 (allS (Or.inr sz2) all0)
  show Go _ _ _ _ _ _ _ _ _ _ _ _ 7 #[.val (.int (0 : Int32)), .val (.ref s), .unset] [(.ref b1)]
  refine Go.astoreN (pc' := 8) (Ls' := #[.val (.int (0 : Int32)), .val (.ref s), .val (.ref b1)]) d6_7 rfl rfl rfl ?_
  refine Go.iloadN (pc' := 9) d6_8 rfl rfl ?_
  refine Go.ifYes (pc' := 18) d6_9 (XT.i0_le_t (by decide)) (by decide) (by decide) ?_
  refine Go.iloadN (pc' := 19) d6_18 rfl rfl ?_
  refine Go.iconst (pc' := 20) (v := (1 : Int32)) d6_19 rfl rfl ?_
  refine Go.icmpYes (pc' := 29) d6_20 (XT.ii_le_t (by decide)) (by decide) (by decide) ?_
  refine Go.iloadN (pc' := 30) d6_29 rfl rfl ?_
  refine Go.iconst (pc' := 31) (v := (2 : Int32)) d6_30 rfl rfl ?_
  refine Go.icmpYes (pc' := 40) d6_31 (XT.ii_le_t (by decide)) (by decide) (by decide) ?_
  refine Go.aloadN (pc' := 41) d6_40 rfl rfl rfl ?_
  exact Go.retR rfl rfl rfl rfl d6_41 ⟨b1, rfl, K5, ge1, sz2, (A1.keep K4), F4_0, F4_1, F4_2⟩ (by decide) (by decide)
theorem d6_12 : decode method_3_code 12 = .ok (.aload_n 2, 1) := by decide +kernel
theorem d6_13 : decode method_3_code 13 = .ok (.aload_n 1, 1) := by decide +kernel
theorem d6_14 : decode method_3_code 14 = .ok (.invokevirtual 24, 3) := by decide +kernel
theorem d6_17 : decode method_3_code 17 = .ok (.pop, 1) := by decide +kernel
set_option maxRecDepth 65536 in
set_option maxHeartbeats 4000000 in
theorem c_fill1 (l : Launch) (Z : State) (a0 : Array Value) (hw : ∀ d ∈ tables_1, d.before a0 Z = true) {n0 : Nat} (h : Heap) (s : Addr) (wd : Addr) (kd : ClassId) (vsd : List Value) (sd : Sta Z Z.heap "java/util/ArrayList" "DEFAULTCAPACITY_EMPTY_ELEMENTDATA" "[Ljava/lang/Object;" (.ref wd)) (vd : Arv Z Z.heap wd kd (.object "java/lang/Object") (0 : Int32) vsd .null) (xd : Exa Z Z.heap wd "[Ljava/lang/Object;") (xs : Exa Z h s "java/lang/String") :
    Con l (⟨"com/example/aligned_index/alignedindex/inspect/DifferencesNonePinLaw", "fill", "(ILjava/lang/String;)Ljava/util/ArrayList;"⟩ : MethodName) method_3_code 3 (some (.object "java/util/ArrayList")) ({ frames := 5, cells := 4, slots := 33, locals := 69 } : Room) Z n0 #[(.int (1 : Int32)), (.ref s)] h (fun v h' => ∃ a : Addr, ∃ b : Addr, ∃ kb : ClassId, v = some (.ref a) ∧ Keep h h' [] ∧ n0 ≤ a ∧ h.size ≤ a ∧ n0 ≤ b ∧ h.size ≤ b ∧ a ≠ b ∧ Exa Z h' a "java/util/ArrayList" ∧ Fld Z h' a "java/util/ArrayList" "elementData" "[Ljava/lang/Object;" (.ref b) ∧ Fld Z h' a "java/util/ArrayList" "size" "I" (.int (1 : Int32)) ∧ Fld Z h' a "java/util/AbstractList" "modCount" "I" (.int (1 : Int32)) ∧ Arv Z h' b kb (.object "java/lang/Object") (10 : Int32) [(.ref s), .null, .null, .null, .null, .null, .null, .null, .null, .null] .null ∧ Exa Z h' b "[Ljava/lang/Object;" ∧ Ovr Z kb "java/lang/Object") := by
  refine Con.of_go (plainFor_of_name pn_13) (Ls := #[.val (.int (1 : Int32)), .val (.ref s), .unset]) (fun m => by first | (simp [entryFrame, mkF, argsToLocals, Value.category]; done) | rfl) ?_
  refine Go.new (pc' := 3) (cells' := 1) (slots' := 3) (ww hw 30 rfl) (ww hw 31 rfl) (ww hw 32 rfl) d6_0 rfl rfl (by decide) (by decide) rfl ?_
  intro h1 b1 g1 E1 ge1 A1 D1
  have sz2 : h.size ≤ b1 := Nat.le_trans (Keep.refl h []).1 (Nat.le_of_eq g1.symm)
  have K3 : Keep h h1 [] := (Keep.refl h []).ext E1
  refine Go.dup (pc' := 4) d6_3 rfl rfl ?_
  refine Go.callC (cells' := 1) (slots' := 3) (pc' := 7) [] [(.ref b1)] (a := b1) rfl rfl (ww hw 33 rfl) (ww hw 34 rfl) (ww hw 32 rfl) (ww hw 35 rfl) (by decide) (c_alInit l Z a0 hw h1 b1 wd kd vsd sd vd xd ge1 A1 ((D1 (Or.inl (ww hw 53 rfl)) (ty := (.array (.object "java/lang/Object"))) (by decide) : Fld Z h1 b1 "java/util/ArrayList" "elementData" "[Ljava/lang/Object;" .null)) ((D1 (Or.inl (ww hw 62 rfl)) (ty := .int) (by decide) : Fld Z h1 b1 "java/util/ArrayList" "size" "I" (.int (0 : Int32)))) ((D1 (Or.inl (ww hw 50 rfl)) (ty := .int) (by decide) : Fld Z h1 b1 "java/util/AbstractList" "modCount" "I" (.int (0 : Int32))))) pd_0 rfl rfl rfl rfl rfl (nl rfl) (nl rfl) (nl rfl) (nl rfl) d6_4 rfl ?_
  rintro _ h4 ⟨rfl, K4, F4_0, F4_1, F4_2⟩
  have K5 : Keep h h4 [] := K3.trans K4 (allS (Or.inr sz2) all0)
  show Go _ _ _ _ _ _ _ _ _ _ _ _ 7 #[.val (.int (1 : Int32)), .val (.ref s), .unset] [(.ref b1)]
  refine Go.astoreN (pc' := 8) (Ls' := #[.val (.int (1 : Int32)), .val (.ref s), .val (.ref b1)]) d6_7 rfl rfl rfl ?_
  refine Go.iloadN (pc' := 9) d6_8 rfl rfl ?_
  refine Go.ifNo (pc' := 12) d6_9 (XT.i0_le_f (by decide)) rfl ?_
  refine Go.aloadN (pc' := 13) d6_12 rfl rfl rfl ?_
  refine Go.aloadN (pc' := 14) d6_13 rfl rfl rfl ?_
  refine Go.callV (cells' := 2) (slots' := 13) (pc' := 17) [(.ref s)] [] (A1.keep K4) (ww hw 54 rfl) (ww hw 55 rfl) (fun s' hs' => notFace_of_selects (args := #[]) (mvT hs' (ww hw 57 rfl))) (ww hw 57 rfl) (ww hw 56 rfl) (ww hw 32 rfl) (ww hw 58 rfl) (by decide) (c_add0 l Z a0 hw h4 b1 s wd kd vsd sd vd xd ge1 (A1.keep K4) (((xs.ext E1).keep K4)) F4_0 F4_1 F4_2) pd_18 rfl rfl rfl rfl rfl (nl rfl) (nl rfl) (nl rfl) (nl rfl) d6_14 rfl ?_
  rintro _ h6 ⟨b_6, kb_6, rfl, K6, ge_b_6, sz_b_6, F6_0, F6_1, F6_2, F6_3, F6_4, F6_5⟩
  have sz7 : h.size ≤ b_6 := Nat.le_trans K5.1 sz_b_6
  have K8 : Keep h h6 [] := K5.trans K6 (allS (Or.inr sz2) all0)
  show Go _ _ _ _ _ _ _ _ _ _ _ _ 17 #[.val (.int (1 : Int32)), .val (.ref s), .val (.ref b1)] [(.int (1 : Int32))]
  refine Go.pop (pc' := 18) d6_17 rfl rfl ?_
  refine Go.iloadN (pc' := 19) d6_18 rfl rfl ?_
  refine Go.iconst (pc' := 20) (v := (1 : Int32)) d6_19 rfl rfl ?_
  refine Go.icmpYes (pc' := 29) d6_20 (XT.ii_le_t (by decide)) (by decide) (by decide) ?_
  refine Go.iloadN (pc' := 30) d6_29 rfl rfl ?_
  refine Go.iconst (pc' := 31) (v := (2 : Int32)) d6_30 rfl rfl ?_
  refine Go.icmpYes (pc' := 40) d6_31 (XT.ii_le_t (by decide)) (by decide) (by decide) ?_
  refine Go.aloadN (pc' := 41) d6_40 rfl rfl rfl ?_
  have ne9 : b1 ≠ b_6 := (Nat.ne_of_lt (Nat.lt_of_lt_of_le (A1.keep K4).lt sz_b_6))
  exact Go.retR rfl rfl rfl rfl d6_41 ⟨b1, b_6, kb_6, rfl, K8, ge1, sz2, ge_b_6, sz7, ne9, ((A1.keep K4).keep K6), F6_0, F6_1, F6_2, F6_3, F6_4, F6_5⟩ (by decide) (by decide)
theorem d6_23 : decode method_3_code 23 = .ok (.aload_n 2, 1) := by decide +kernel
theorem d6_24 : decode method_3_code 24 = .ok (.aload_n 1, 1) := by decide +kernel
theorem d6_25 : decode method_3_code 25 = .ok (.invokevirtual 24, 3) := by decide +kernel
theorem d6_28 : decode method_3_code 28 = .ok (.pop, 1) := by decide +kernel
set_option maxRecDepth 65536 in
set_option maxHeartbeats 4000000 in
theorem c_fill2 (l : Launch) (Z : State) (a0 : Array Value) (hw : ∀ d ∈ tables_1, d.before a0 Z = true) {n0 : Nat} (h : Heap) (s : Addr) (wd : Addr) (kd : ClassId) (vsd : List Value) (sd : Sta Z Z.heap "java/util/ArrayList" "DEFAULTCAPACITY_EMPTY_ELEMENTDATA" "[Ljava/lang/Object;" (.ref wd)) (vd : Arv Z Z.heap wd kd (.object "java/lang/Object") (0 : Int32) vsd .null) (xd : Exa Z Z.heap wd "[Ljava/lang/Object;") (xs : Exa Z h s "java/lang/String") :
    Con l (⟨"com/example/aligned_index/alignedindex/inspect/DifferencesNonePinLaw", "fill", "(ILjava/lang/String;)Ljava/util/ArrayList;"⟩ : MethodName) method_3_code 3 (some (.object "java/util/ArrayList")) ({ frames := 5, cells := 4, slots := 33, locals := 69 } : Room) Z n0 #[(.int (2 : Int32)), (.ref s)] h (fun v h' => ∃ a : Addr, ∃ b : Addr, ∃ kb : ClassId, v = some (.ref a) ∧ Keep h h' [] ∧ n0 ≤ a ∧ h.size ≤ a ∧ n0 ≤ b ∧ h.size ≤ b ∧ a ≠ b ∧ Exa Z h' a "java/util/ArrayList" ∧ Fld Z h' a "java/util/ArrayList" "elementData" "[Ljava/lang/Object;" (.ref b) ∧ Fld Z h' a "java/util/ArrayList" "size" "I" (.int (2 : Int32)) ∧ Fld Z h' a "java/util/AbstractList" "modCount" "I" (.int (2 : Int32)) ∧ Arv Z h' b kb (.object "java/lang/Object") (10 : Int32) [(.ref s), (.ref s), .null, .null, .null, .null, .null, .null, .null, .null] .null ∧ Exa Z h' b "[Ljava/lang/Object;" ∧ Ovr Z kb "java/lang/Object") := by
  refine Con.of_go (plainFor_of_name pn_13) (Ls := #[.val (.int (2 : Int32)), .val (.ref s), .unset]) (fun m => by first | (simp [entryFrame, mkF, argsToLocals, Value.category]; done) | rfl) ?_
  refine Go.new (pc' := 3) (cells' := 1) (slots' := 3) (ww hw 30 rfl) (ww hw 31 rfl) (ww hw 32 rfl) d6_0 rfl rfl (by decide) (by decide) rfl ?_
  intro h1 b1 g1 E1 ge1 A1 D1
  have sz2 : h.size ≤ b1 := Nat.le_trans (Keep.refl h []).1 (Nat.le_of_eq g1.symm)
  have K3 : Keep h h1 [] := (Keep.refl h []).ext E1
  refine Go.dup (pc' := 4) d6_3 rfl rfl ?_
  refine Go.callC (cells' := 1) (slots' := 3) (pc' := 7) [] [(.ref b1)] (a := b1) rfl rfl (ww hw 33 rfl) (ww hw 34 rfl) (ww hw 32 rfl) (ww hw 35 rfl) (by decide) (c_alInit l Z a0 hw h1 b1 wd kd vsd sd vd xd ge1 A1 ((D1 (Or.inl (ww hw 53 rfl)) (ty := (.array (.object "java/lang/Object"))) (by decide) : Fld Z h1 b1 "java/util/ArrayList" "elementData" "[Ljava/lang/Object;" .null)) ((D1 (Or.inl (ww hw 62 rfl)) (ty := .int) (by decide) : Fld Z h1 b1 "java/util/ArrayList" "size" "I" (.int (0 : Int32)))) ((D1 (Or.inl (ww hw 50 rfl)) (ty := .int) (by decide) : Fld Z h1 b1 "java/util/AbstractList" "modCount" "I" (.int (0 : Int32))))) pd_0 rfl rfl rfl rfl rfl (nl rfl) (nl rfl) (nl rfl) (nl rfl) d6_4 rfl ?_
  rintro _ h4 ⟨rfl, K4, F4_0, F4_1, F4_2⟩
  have K5 : Keep h h4 [] := K3.trans K4 (allS (Or.inr sz2) all0)
  show Go _ _ _ _ _ _ _ _ _ _ _ _ 7 #[.val (.int (2 : Int32)), .val (.ref s), .unset] [(.ref b1)]
  refine Go.astoreN (pc' := 8) (Ls' := #[.val (.int (2 : Int32)), .val (.ref s), .val (.ref b1)]) d6_7 rfl rfl rfl ?_
  refine Go.iloadN (pc' := 9) d6_8 rfl rfl ?_
  refine Go.ifNo (pc' := 12) d6_9 (XT.i0_le_f (by decide)) rfl ?_
  refine Go.aloadN (pc' := 13) d6_12 rfl rfl rfl ?_
  refine Go.aloadN (pc' := 14) d6_13 rfl rfl rfl ?_
  refine Go.callV (cells' := 2) (slots' := 13) (pc' := 17) [(.ref s)] [] (A1.keep K4) (ww hw 54 rfl) (ww hw 55 rfl) (fun s' hs' => notFace_of_selects (args := #[]) (mvT hs' (ww hw 57 rfl))) (ww hw 57 rfl) (ww hw 56 rfl) (ww hw 32 rfl) (ww hw 58 rfl) (by decide) (c_add0 l Z a0 hw h4 b1 s wd kd vsd sd vd xd ge1 (A1.keep K4) (((xs.ext E1).keep K4)) F4_0 F4_1 F4_2) pd_18 rfl rfl rfl rfl rfl (nl rfl) (nl rfl) (nl rfl) (nl rfl) d6_14 rfl ?_
  rintro _ h6 ⟨b_6, kb_6, rfl, K6, ge_b_6, sz_b_6, F6_0, F6_1, F6_2, F6_3, F6_4, F6_5⟩
  have sz7 : h.size ≤ b_6 := Nat.le_trans K5.1 sz_b_6
  have K8 : Keep h h6 [] := K5.trans K6 (allS (Or.inr sz2) all0)
  show Go _ _ _ _ _ _ _ _ _ _ _ _ 17 #[.val (.int (2 : Int32)), .val (.ref s), .val (.ref b1)] [(.int (1 : Int32))]
  refine Go.pop (pc' := 18) d6_17 rfl rfl ?_
  refine Go.iloadN (pc' := 19) d6_18 rfl rfl ?_
  refine Go.iconst (pc' := 20) (v := (1 : Int32)) d6_19 rfl rfl ?_
  refine Go.icmpNo (pc' := 23) d6_20 (XT.ii_le_f (by decide)) rfl ?_
  refine Go.aloadN (pc' := 24) d6_23 rfl rfl rfl ?_
  refine Go.aloadN (pc' := 25) d6_24 rfl rfl rfl ?_
  have ne9 : b1 ≠ b_6 := (Nat.ne_of_lt (Nat.lt_of_lt_of_le (A1.keep K4).lt sz_b_6))
  refine Go.callV (cells' := 3) (slots' := 23) (pc' := 28) [(.ref s)] [] ((A1.keep K4).keep K6) (ww hw 54 rfl) (ww hw 55 rfl) (fun s' hs' => notFace_of_selects (args := #[]) (mvT hs' (ww hw 57 rfl))) (ww hw 57 rfl) (ww hw 56 rfl) (ww hw 32 rfl) (ww hw 58 rfl) (by decide) (c_add1 l Z a0 hw h6 b1 s b_6 kb_6 s ge1 ge_b_6 ne9 (((A1.keep K4).keep K6)) ((((xs.ext E1).keep K4).keep K6)) F6_0 F6_1 F6_2 F6_3 F6_4 F6_5) pd_18 rfl rfl rfl rfl rfl (nl rfl) (nl rfl) (nl rfl) (nl rfl) d6_25 rfl ?_
  rintro _ h10 ⟨rfl, K10, F10_0, F10_1, F10_2, F10_3⟩
  have K11 : Keep h h10 [] := K8.trans K10 (allS (Or.inr sz2) (allS (Or.inr sz7) all0))
  show Go _ _ _ _ _ _ _ _ _ _ _ _ 28 #[.val (.int (2 : Int32)), .val (.ref s), .val (.ref b1)] [(.int (1 : Int32))]
  refine Go.pop (pc' := 29) d6_28 rfl rfl ?_
  refine Go.iloadN (pc' := 30) d6_29 rfl rfl ?_
  refine Go.iconst (pc' := 31) (v := (2 : Int32)) d6_30 rfl rfl ?_
  refine Go.icmpYes (pc' := 40) d6_31 (XT.ii_le_t (by decide)) (by decide) (by decide) ?_
  refine Go.aloadN (pc' := 41) d6_40 rfl rfl rfl ?_
  exact Go.retR rfl rfl rfl rfl d6_41 ⟨b1, b_6, kb_6, rfl, K11, ge1, sz2, ge_b_6, sz7, ne9, (((A1.keep K4).keep K6).keep K10), F10_0, F10_1, F10_2, F10_3, (F6_4.keep K10), F6_5⟩ (by decide) (by decide)
theorem d6_34 : decode method_3_code 34 = .ok (.aload_n 2, 1) := by decide +kernel
theorem d6_35 : decode method_3_code 35 = .ok (.aload_n 1, 1) := by decide +kernel
theorem d6_36 : decode method_3_code 36 = .ok (.invokevirtual 24, 3) := by decide +kernel
theorem d6_39 : decode method_3_code 39 = .ok (.pop, 1) := by decide +kernel
set_option maxRecDepth 65536 in
set_option maxHeartbeats 4000000 in
theorem c_fill3 (l : Launch) (Z : State) (a0 : Array Value) (hw : ∀ d ∈ tables_1, d.before a0 Z = true) {n0 : Nat} (h : Heap) (s : Addr) (wd : Addr) (kd : ClassId) (vsd : List Value) (sd : Sta Z Z.heap "java/util/ArrayList" "DEFAULTCAPACITY_EMPTY_ELEMENTDATA" "[Ljava/lang/Object;" (.ref wd)) (vd : Arv Z Z.heap wd kd (.object "java/lang/Object") (0 : Int32) vsd .null) (xd : Exa Z Z.heap wd "[Ljava/lang/Object;") (xs : Exa Z h s "java/lang/String") :
    Con l (⟨"com/example/aligned_index/alignedindex/inspect/DifferencesNonePinLaw", "fill", "(ILjava/lang/String;)Ljava/util/ArrayList;"⟩ : MethodName) method_3_code 3 (some (.object "java/util/ArrayList")) ({ frames := 5, cells := 4, slots := 33, locals := 69 } : Room) Z n0 #[(.int (3 : Int32)), (.ref s)] h (fun v h' => ∃ a : Addr, ∃ b : Addr, ∃ kb : ClassId, v = some (.ref a) ∧ Keep h h' [] ∧ n0 ≤ a ∧ h.size ≤ a ∧ n0 ≤ b ∧ h.size ≤ b ∧ a ≠ b ∧ Exa Z h' a "java/util/ArrayList" ∧ Fld Z h' a "java/util/ArrayList" "elementData" "[Ljava/lang/Object;" (.ref b) ∧ Fld Z h' a "java/util/ArrayList" "size" "I" (.int (3 : Int32)) ∧ Fld Z h' a "java/util/AbstractList" "modCount" "I" (.int (3 : Int32)) ∧ Arv Z h' b kb (.object "java/lang/Object") (10 : Int32) [(.ref s), (.ref s), (.ref s), .null, .null, .null, .null, .null, .null, .null] .null ∧ Exa Z h' b "[Ljava/lang/Object;" ∧ Ovr Z kb "java/lang/Object") := by
  refine Con.of_go (plainFor_of_name pn_13) (Ls := #[.val (.int (3 : Int32)), .val (.ref s), .unset]) (fun m => by first | (simp [entryFrame, mkF, argsToLocals, Value.category]; done) | rfl) ?_
  refine Go.new (pc' := 3) (cells' := 1) (slots' := 3) (ww hw 30 rfl) (ww hw 31 rfl) (ww hw 32 rfl) d6_0 rfl rfl (by decide) (by decide) rfl ?_
  intro h1 b1 g1 E1 ge1 A1 D1
  have sz2 : h.size ≤ b1 := Nat.le_trans (Keep.refl h []).1 (Nat.le_of_eq g1.symm)
  have K3 : Keep h h1 [] := (Keep.refl h []).ext E1
  refine Go.dup (pc' := 4) d6_3 rfl rfl ?_
  refine Go.callC (cells' := 1) (slots' := 3) (pc' := 7) [] [(.ref b1)] (a := b1) rfl rfl (ww hw 33 rfl) (ww hw 34 rfl) (ww hw 32 rfl) (ww hw 35 rfl) (by decide) (c_alInit l Z a0 hw h1 b1 wd kd vsd sd vd xd ge1 A1 ((D1 (Or.inl (ww hw 53 rfl)) (ty := (.array (.object "java/lang/Object"))) (by decide) : Fld Z h1 b1 "java/util/ArrayList" "elementData" "[Ljava/lang/Object;" .null)) ((D1 (Or.inl (ww hw 62 rfl)) (ty := .int) (by decide) : Fld Z h1 b1 "java/util/ArrayList" "size" "I" (.int (0 : Int32)))) ((D1 (Or.inl (ww hw 50 rfl)) (ty := .int) (by decide) : Fld Z h1 b1 "java/util/AbstractList" "modCount" "I" (.int (0 : Int32))))) pd_0 rfl rfl rfl rfl rfl (nl rfl) (nl rfl) (nl rfl) (nl rfl) d6_4 rfl ?_
  rintro _ h4 ⟨rfl, K4, F4_0, F4_1, F4_2⟩
  have K5 : Keep h h4 [] := K3.trans K4 (allS (Or.inr sz2) all0)
  show Go _ _ _ _ _ _ _ _ _ _ _ _ 7 #[.val (.int (3 : Int32)), .val (.ref s), .unset] [(.ref b1)]
  refine Go.astoreN (pc' := 8) (Ls' := #[.val (.int (3 : Int32)), .val (.ref s), .val (.ref b1)]) d6_7 rfl rfl rfl ?_
  refine Go.iloadN (pc' := 9) d6_8 rfl rfl ?_
  refine Go.ifNo (pc' := 12) d6_9 (XT.i0_le_f (by decide)) rfl ?_
  refine Go.aloadN (pc' := 13) d6_12 rfl rfl rfl ?_
  refine Go.aloadN (pc' := 14) d6_13 rfl rfl rfl ?_
  refine Go.callV (cells' := 2) (slots' := 13) (pc' := 17) [(.ref s)] [] (A1.keep K4) (ww hw 54 rfl) (ww hw 55 rfl) (fun s' hs' => notFace_of_selects (args := #[]) (mvT hs' (ww hw 57 rfl))) (ww hw 57 rfl) (ww hw 56 rfl) (ww hw 32 rfl) (ww hw 58 rfl) (by decide) (c_add0 l Z a0 hw h4 b1 s wd kd vsd sd vd xd ge1 (A1.keep K4) (((xs.ext E1).keep K4)) F4_0 F4_1 F4_2) pd_18 rfl rfl rfl rfl rfl (nl rfl) (nl rfl) (nl rfl) (nl rfl) d6_14 rfl ?_
  rintro _ h6 ⟨b_6, kb_6, rfl, K6, ge_b_6, sz_b_6, F6_0, F6_1, F6_2, F6_3, F6_4, F6_5⟩
  have sz7 : h.size ≤ b_6 := Nat.le_trans K5.1 sz_b_6
  have K8 : Keep h h6 [] := K5.trans K6 (allS (Or.inr sz2) all0)
  show Go _ _ _ _ _ _ _ _ _ _ _ _ 17 #[.val (.int (3 : Int32)), .val (.ref s), .val (.ref b1)] [(.int (1 : Int32))]
  refine Go.pop (pc' := 18) d6_17 rfl rfl ?_
  refine Go.iloadN (pc' := 19) d6_18 rfl rfl ?_
  refine Go.iconst (pc' := 20) (v := (1 : Int32)) d6_19 rfl rfl ?_
  refine Go.icmpNo (pc' := 23) d6_20 (XT.ii_le_f (by decide)) rfl ?_
  refine Go.aloadN (pc' := 24) d6_23 rfl rfl rfl ?_
  refine Go.aloadN (pc' := 25) d6_24 rfl rfl rfl ?_
  have ne9 : b1 ≠ b_6 := (Nat.ne_of_lt (Nat.lt_of_lt_of_le (A1.keep K4).lt sz_b_6))
  refine Go.callV (cells' := 3) (slots' := 23) (pc' := 28) [(.ref s)] [] ((A1.keep K4).keep K6) (ww hw 54 rfl) (ww hw 55 rfl) (fun s' hs' => notFace_of_selects (args := #[]) (mvT hs' (ww hw 57 rfl))) (ww hw 57 rfl) (ww hw 56 rfl) (ww hw 32 rfl) (ww hw 58 rfl) (by decide) (c_add1 l Z a0 hw h6 b1 s b_6 kb_6 s ge1 ge_b_6 ne9 (((A1.keep K4).keep K6)) ((((xs.ext E1).keep K4).keep K6)) F6_0 F6_1 F6_2 F6_3 F6_4 F6_5) pd_18 rfl rfl rfl rfl rfl (nl rfl) (nl rfl) (nl rfl) (nl rfl) d6_25 rfl ?_
  rintro _ h10 ⟨rfl, K10, F10_0, F10_1, F10_2, F10_3⟩
  have K11 : Keep h h10 [] := K8.trans K10 (allS (Or.inr sz2) (allS (Or.inr sz7) all0))
  show Go _ _ _ _ _ _ _ _ _ _ _ _ 28 #[.val (.int (3 : Int32)), .val (.ref s), .val (.ref b1)] [(.int (1 : Int32))]
  refine Go.pop (pc' := 29) d6_28 rfl rfl ?_
  refine Go.iloadN (pc' := 30) d6_29 rfl rfl ?_
  refine Go.iconst (pc' := 31) (v := (2 : Int32)) d6_30 rfl rfl ?_
  refine Go.icmpNo (pc' := 34) d6_31 (XT.ii_le_f (by decide)) rfl ?_
  refine Go.aloadN (pc' := 35) d6_34 rfl rfl rfl ?_
  refine Go.aloadN (pc' := 36) d6_35 rfl rfl rfl ?_
  have f12 : Exa Z h10 s "java/lang/String" := ((((xs.ext E1).keep K4).keep K6).keep K10)
  refine Go.callV (cells' := 4) (slots' := 33) (pc' := 39) [(.ref s)] [] (((A1.keep K4).keep K6).keep K10) (ww hw 54 rfl) (ww hw 55 rfl) (fun s' hs' => notFace_of_selects (args := #[]) (mvT hs' (ww hw 57 rfl))) (ww hw 57 rfl) (ww hw 56 rfl) (ww hw 32 rfl) (ww hw 58 rfl) (by decide) (c_add2 l Z a0 hw h10 b1 s b_6 kb_6 s s ge1 ge_b_6 ne9 ((((A1.keep K4).keep K6).keep K10)) f12 F10_0 F10_1 F10_2 F10_3 (F6_4.keep K10) F6_5) pd_18 rfl rfl rfl rfl rfl (nl rfl) (nl rfl) (nl rfl) (nl rfl) d6_36 rfl ?_
  rintro _ h13 ⟨rfl, K13, F13_0, F13_1, F13_2, F13_3⟩
  have K14 : Keep h h13 [] := K11.trans K13 (allS (Or.inr sz2) (allS (Or.inr sz7) all0))
  show Go _ _ _ _ _ _ _ _ _ _ _ _ 39 #[.val (.int (3 : Int32)), .val (.ref s), .val (.ref b1)] [(.int (1 : Int32))]
  refine Go.pop (pc' := 40) d6_39 rfl rfl ?_
  refine Go.aloadN (pc' := 41) d6_40 rfl rfl rfl ?_
  have f15 : Exa Z h13 b1 "java/util/ArrayList" := ((((A1.keep K4).keep K6).keep K10).keep K13)
  exact Go.retR rfl rfl rfl rfl d6_41 ⟨b1, b_6, kb_6, rfl, K14, ge1, sz2, ge_b_6, sz7, ne9, f15, F13_0, F13_1, F13_2, F13_3, ((F6_4.keep K10).keep K13), F6_5⟩ (by decide) (by decide)
set_option maxRecDepth 65536 in
theorem c_fillU (l : Launch) (Z : State) (a0 : Array Value) (hw : ∀ d ∈ tables_1, d.before a0 Z = true) {n0 : Nat} (h : Heap) (n : Int32) (s : Addr) (wd : Addr) (kd : ClassId) (vsd : List Value) (hn : n = (0 : Int32) ∨ n = (1 : Int32) ∨ n = (2 : Int32) ∨ n = (3 : Int32)) (sd : Sta Z Z.heap "java/util/ArrayList" "DEFAULTCAPACITY_EMPTY_ELEMENTDATA" "[Ljava/lang/Object;" (.ref wd)) (vd : Arv Z Z.heap wd kd (.object "java/lang/Object") (0 : Int32) vsd .null) (xd : Exa Z Z.heap wd "[Ljava/lang/Object;") (xs : Exa Z h s "java/lang/String") :
    Con l (⟨"com/example/aligned_index/alignedindex/inspect/DifferencesNonePinLaw", "fill", "(ILjava/lang/String;)Ljava/util/ArrayList;"⟩ : MethodName) method_3_code 3 (some (.object "java/util/ArrayList")) ({ frames := 5, cells := 4, slots := 33, locals := 69 } : Room) Z n0 #[(.int n), (.ref s)] h (fun v h' => ∃ a : Addr, ∃ b : Addr, ∃ kb : ClassId, v = some (.ref a) ∧ Keep h h' [] ∧ n0 ≤ a ∧ h.size ≤ a ∧ n0 ≤ b ∧ h.size ≤ b ∧ Exa Z h' a "java/util/ArrayList" ∧ LSt Z h' a b kb wd s n) := by
  obtain rfl | rfl | rfl | rfl := hn
  · refine (c_fill0 l Z a0 hw h s wd kd vsd sd vd xd xs).mono ?_
    rintro v h' ⟨a, e, K, g1, g2, x, f1, f2, f3⟩
    exact ⟨a, a, kd, e, K, g1, g2, g1, g2, x, x, x.lt, Or.inl ⟨rfl, rfl, f1, f2, f3⟩⟩
  · refine (c_fill1 l Z a0 hw h s wd kd vsd sd vd xd xs).mono ?_
    rintro v h' ⟨a, b, kb, e, K, g1, g2, g3, g4, ne, x, f1, f2, f3, v1, x1, o1⟩
    exact ⟨a, b, kb, e, K, g1, g2, g3, g4, x, x, v1.lt, Or.inr (Or.inl (⟨rfl, ne, f1, f2, f3, v1, x1, o1⟩))⟩
  · refine (c_fill2 l Z a0 hw h s wd kd vsd sd vd xd xs).mono ?_
    rintro v h' ⟨a, b, kb, e, K, g1, g2, g3, g4, ne, x, f1, f2, f3, v1, x1, o1⟩
    exact ⟨a, b, kb, e, K, g1, g2, g3, g4, x, x, v1.lt, Or.inr (Or.inr (Or.inl (⟨rfl, ne, f1, f2, f3, v1, x1, o1⟩)))⟩
  · refine (c_fill3 l Z a0 hw h s wd kd vsd sd vd xd xs).mono ?_
    rintro v h' ⟨a, b, kb, e, K, g1, g2, g3, g4, ne, x, f1, f2, f3, v1, x1, o1⟩
    exact ⟨a, b, kb, e, K, g1, g2, g3, g4, x, x, v1.lt, Or.inr (Or.inr (Or.inr ((⟨rfl, ne, f1, f2, f3, v1, x1, o1⟩))))⟩
set_option maxRecDepth 65536 in
theorem c_addU (l : Launch) (Z : State) (a0 : Array Value) (hw : ∀ d ∈ tables_1, d.before a0 Z = true) {n0 : Nat} (h : Heap) (a : Addr) (s : Addr) (b : Addr) (kb : ClassId) (n : Int32) (wd : Addr) (kd : ClassId) (vsd : List Value) (sd : Sta Z Z.heap "java/util/ArrayList" "DEFAULTCAPACITY_EMPTY_ELEMENTDATA" "[Ljava/lang/Object;" (.ref wd)) (vd : Arv Z Z.heap wd kd (.object "java/lang/Object") (0 : Int32) vsd .null) (xd : Exa Z Z.heap wd "[Ljava/lang/Object;") (ge_a : n0 ≤ a) (ge_b : n0 ≤ b) (F : LSt Z h a b kb wd s n) (xs : Exa Z h s "java/lang/String") :
    Con l (⟨"java/util/ArrayList", "add", "(Ljava/lang/Object;)Z"⟩ : MethodName) jdk_38_method_25_code 2 (some .boolean) ({ frames := 4, cells := 1, slots := 10, locals := 56 } : Room) Z n0 #[(.ref a), (.ref s)] h (fun v h' => v = some (.int (1 : Int32)) ∧ Keep h h' [a, b]) := by
  obtain ⟨X, lb, ⟨q, q', f1, f2, f3⟩ | ⟨q, q', f1, f2, f3, v, x, o⟩ | ⟨q, q', f1, f2, f3, v, x, o⟩ | ⟨q, q', f1, f2, f3, v, x, o⟩⟩ := F
  · refine (c_add0 l Z a0 hw h a s wd kd vsd sd vd xd ge_a X xs f1 f2 f3).mono ?_
    rintro v h' ⟨b', kb', e, K, -⟩
    exact ⟨e, own_kweak K (fun x hx => List.mem_of_getElem? (i := 0) (by simp at hx; rw [hx]; rfl))⟩
  · refine (c_add1 l Z a0 hw h a s b kb s ge_a ge_b q' X xs f1 f2 f3 v x o).mono ?_
    rintro v h' ⟨e, K, -⟩
    exact ⟨e, K⟩
  · refine (c_add2 l Z a0 hw h a s b kb s s ge_a ge_b q' X xs f1 f2 f3 v x o).mono ?_
    rintro v h' ⟨e, K, -⟩
    exact ⟨e, K⟩
  · refine (c_add3 l Z a0 hw h a s b kb s s s ge_a ge_b q' X xs f1 f2 f3 v x o).mono ?_
    rintro v h' ⟨e, K, -⟩
    exact ⟨e, K⟩
set_option maxRecDepth 65536 in
theorem c_copyU (l : Launch) (Z : State) (a0 : Array Value) (hw : ∀ d ∈ tables_1, d.before a0 Z = true) {n0 : Nat} (h : Heap) (a : Addr) (b : Addr) (kb : ClassId) (s : Addr) (n : Int32) (wd : Addr) (wE : Addr) (wL : Addr) (wLe : Addr) (kLe : ClassId) (vsL : List Value) (mO : Addr) (se : Sta Z Z.heap "java/util/ImmutableCollections" "EMPTY" "Ljava/lang/Object;" (.ref wE)) (xE : Exa Z Z.heap wE "java/lang/Object") (sl : Sta Z Z.heap "java/util/ImmutableCollections" "EMPTY_LIST" "Ljava/util/ImmutableCollections$ListN;" (.ref wL)) (xL : Exa Z Z.heap wL "java/util/ImmutableCollections$ListN") (fL : Fld Z Z.heap wL "java/util/ImmutableCollections$ListN" "elements" "[Ljava/lang/Object;" (.ref wLe)) (vL : Arv Z Z.heap wLe kLe (.object "java/lang/Object") (0 : Int32) vsL .null) (mo : Mi Z "[Ljava/lang/Object;" mO) (F : LSt Z h a b kb wd s n) (xs : Exa Z h s "java/lang/String") :
    Con l (⟨"java/util/List", "copyOf", "(Ljava/util/Collection;)Ljava/util/List;"⟩ : MethodName) jdk_40_method_48_code 1 (some (.object "java/util/List")) ({ frames := 8, cells := 3, slots := 8, locals := 103 } : Room) Z n0 #[(.ref a)] h (fun v h' => ∃ r : Addr, ∃ c : Addr, ∃ kc : ClassId, v = some (.ref r) ∧ Keep h h' [] ∧ IMl Z h' r c kc h.size wL s n) := by
  obtain ⟨X, lb, ⟨q, q', f1, f2, f3⟩ | ⟨q, q', f1, f2, f3, v, x, o⟩ | ⟨q, q', f1, f2, f3, v, x, o⟩ | ⟨q, q', f1, f2, f3, v, x, o⟩⟩ := F
  · refine (c_copy0 l Z a0 hw h a wL wLe kLe vsL sl xL fL vL X f2).mono ?_
    rintro v h' ⟨e, rfl⟩
    exact ⟨wL, wL, kLe, e, Keep.refl _ _, Or.inl ⟨q, rfl⟩⟩
  · refine (c_copy1 l Z a0 hw h a b kb s wE mO se xE mo X f1 f2 v x xs).mono ?_
    rintro v h' ⟨r, e, K, g1, g2, x1, -⟩
    exact ⟨r, r, kLe, e, K, Or.inr (Or.inl ⟨(by rw [q]; decide), g2, x1⟩)⟩
  · refine (c_copy2 l Z a0 hw h a b kb s s mO mo X f1 f2 v x xs xs).mono ?_
    rintro v h' ⟨r, e, K, g1, g2, x1, -⟩
    exact ⟨r, r, kLe, e, K, Or.inr (Or.inl ⟨(by rw [q]; decide), g2, x1⟩)⟩
  · refine (c_copy3 l Z a0 hw h a b kb s s s mO mo X f1 f2 v x xs xs xs).mono ?_
    rintro v h' ⟨r, c, kc, e, K, g1, g2, g3, g4, x1, f4, v4⟩
    exact ⟨r, c, kc, e, K, Or.inr (Or.inr ⟨(by rw [q]; decide), g2, g4, x1, f4, v4⟩)⟩
theorem d16_0 : decode jdk_30_method_1_code 0 = .ok (.aload_n 0, 1) := by decide +kernel
theorem d16_1 : decode jdk_30_method_1_code 1 = .ok (.invokespecial 1, 3) := by decide +kernel
theorem d16_4 : decode jdk_30_method_1_code 4 = .ok (.return_, 1) := by decide +kernel
theorem pn_14 : plainName "java/lang/Record" = true := by first | (simp [plainName, overriddenIn]; done) | decide +kernel
set_option maxRecDepth 65536 in
set_option maxHeartbeats 4000000 in
theorem c_record (l : Launch) (Z : State) (a0 : Array Value) (hw : ∀ d ∈ tables_1, d.before a0 Z = true) {n0 : Nat} (h : Heap) (a : Addr) :
    Con l (⟨"java/lang/Record", "<init>", "()V"⟩ : MethodName) jdk_30_method_1_code 1 none ({ frames := 1, cells := 0, slots := 0, locals := 12 } : Room) Z n0 #[(.ref a)] h (fun v h' => v = none ∧ h = h') := by
  refine Con.of_go (plainFor_of_name pn_14) (Ls := #[.val (.ref a)]) (fun m => by first | (simp [entryFrame, mkF, argsToLocals, Value.category]; done) | rfl) ?_
  refine Go.aloadN (pc' := 1) d16_0 rfl rfl rfl ?_
  refine Go.initO (pc' := 4) (ww hw 96 rfl) (ww hw 20 rfl) (ww hw 21 rfl) d16_1 rfl (nl rfl) (nl rfl) rfl ?_
  exact Go.retV rfl d16_4 ⟨rfl, rfl⟩ (by decide) (by decide)
theorem d15_0 : decode prog_21_method_1_code 0 = .ok (.aload_n 0, 1) := by decide +kernel
theorem d15_1 : decode prog_21_method_1_code 1 = .ok (.invokespecial 1, 3) := by decide +kernel
theorem d15_4 : decode prog_21_method_1_code 4 = .ok (.aload_n 1, 1) := by decide +kernel
theorem d15_5 : decode prog_21_method_1_code 5 = .ok (.invokestatic 7, 3) := by decide +kernel
theorem d15_8 : decode prog_21_method_1_code 8 = .ok (.astore_n 1, 1) := by decide +kernel
theorem d15_9 : decode prog_21_method_1_code 9 = .ok (.aload_n 2, 1) := by decide +kernel
theorem d15_10 : decode prog_21_method_1_code 10 = .ok (.invokestatic 7, 3) := by decide +kernel
theorem d15_13 : decode prog_21_method_1_code 13 = .ok (.astore_n 2, 1) := by decide +kernel
theorem d15_14 : decode prog_21_method_1_code 14 = .ok (.aload_n 3, 1) := by decide +kernel
theorem d15_15 : decode prog_21_method_1_code 15 = .ok (.invokestatic 7, 3) := by decide +kernel
theorem d15_18 : decode prog_21_method_1_code 18 = .ok (.astore_n 3, 1) := by decide +kernel
theorem d15_19 : decode prog_21_method_1_code 19 = .ok (.aload_n 0, 1) := by decide +kernel
theorem d15_20 : decode prog_21_method_1_code 20 = .ok (.aload_n 1, 1) := by decide +kernel
theorem d15_21 : decode prog_21_method_1_code 21 = .ok (.putfield 13, 3) := by decide +kernel
theorem d15_24 : decode prog_21_method_1_code 24 = .ok (.aload_n 0, 1) := by decide +kernel
theorem d15_25 : decode prog_21_method_1_code 25 = .ok (.aload_n 2, 1) := by decide +kernel
theorem d15_26 : decode prog_21_method_1_code 26 = .ok (.putfield 19, 3) := by decide +kernel
theorem d15_29 : decode prog_21_method_1_code 29 = .ok (.aload_n 0, 1) := by decide +kernel
theorem d15_30 : decode prog_21_method_1_code 30 = .ok (.aload_n 3, 1) := by decide +kernel
theorem d15_31 : decode prog_21_method_1_code 31 = .ok (.putfield 22, 3) := by decide +kernel
theorem d15_34 : decode prog_21_method_1_code 34 = .ok (.return_, 1) := by decide +kernel
theorem pn_15 : plainName "com/example/aligned_index/alignedindex/inspect/Differences" = true := by first | (simp [plainName, overriddenIn]; done) | decide +kernel
set_option maxRecDepth 65536 in
set_option maxHeartbeats 4000000 in
theorem c_diffInit (l : Launch) (Z : State) (a0 : Array Value) (hw : ∀ d ∈ tables_1, d.before a0 Z = true) {n0 : Nat} (h : Heap) (d : Addr) (a1 : Addr) (b1 : Addr) (kb1 : ClassId) (n1 : Int32) (a2 : Addr) (b2 : Addr) (kb2 : ClassId) (n2 : Int32) (a3 : Addr) (b3 : Addr) (kb3 : ClassId) (n3 : Int32) (s : Addr) (wd : Addr) (wE : Addr) (wL : Addr) (wLe : Addr) (kLe : ClassId) (vsL : List Value) (mO : Addr) (se : Sta Z Z.heap "java/util/ImmutableCollections" "EMPTY" "Ljava/lang/Object;" (.ref wE)) (xE : Exa Z Z.heap wE "java/lang/Object") (sl : Sta Z Z.heap "java/util/ImmutableCollections" "EMPTY_LIST" "Ljava/util/ImmutableCollections$ListN;" (.ref wL)) (xL : Exa Z Z.heap wL "java/util/ImmutableCollections$ListN") (fL : Fld Z Z.heap wL "java/util/ImmutableCollections$ListN" "elements" "[Ljava/lang/Object;" (.ref wLe)) (vL : Arv Z Z.heap wLe kLe (.object "java/lang/Object") (0 : Int32) vsL .null) (mo : Mi Z "[Ljava/lang/Object;" mO) (ge_d : n0 ≤ d) (xd' : Exa Z h d "com/example/aligned_index/alignedindex/inspect/Differences") (fd0 : Fld Z h d "com/example/aligned_index/alignedindex/inspect/Differences" "missing" "Ljava/util/List;" .null) (fd1 : Fld Z h d "com/example/aligned_index/alignedindex/inspect/Differences" "extra" "Ljava/util/List;" .null) (fd2 : Fld Z h d "com/example/aligned_index/alignedindex/inspect/Differences" "stale" "Ljava/util/List;" .null) (F1 : LSt Z h a1 b1 kb1 wd s n1) (F2 : LSt Z h a2 b2 kb2 wd s n2) (F3 : LSt Z h a3 b3 kb3 wd s n3) (xs : Exa Z h s "java/lang/String") :
    Con l (⟨"com/example/aligned_index/alignedindex/inspect/Differences", "<init>", "(Ljava/util/List;Ljava/util/List;Ljava/util/List;)V"⟩ : MethodName) prog_21_method_1_code 4 none ({ frames := 9, cells := 9, slots := 24, locals := 115 } : Room) Z n0 #[(.ref d), (.ref a1), (.ref a2), (.ref a3)] h (fun v h' => ∃ r1 : Addr, ∃ c1 : Addr, ∃ kc1 : ClassId, ∃ r2 : Addr, ∃ c2 : Addr, ∃ kc2 : ClassId, ∃ r3 : Addr, ∃ c3 : Addr, ∃ kc3 : ClassId, v = none ∧ Keep h h' [d] ∧ Fld Z h' d "com/example/aligned_index/alignedindex/inspect/Differences" "missing" "Ljava/util/List;" (.ref r1) ∧ Fld Z h' d "com/example/aligned_index/alignedindex/inspect/Differences" "extra" "Ljava/util/List;" (.ref r2) ∧ Fld Z h' d "com/example/aligned_index/alignedindex/inspect/Differences" "stale" "Ljava/util/List;" (.ref r3) ∧ IMl Z h' r1 c1 kc1 h.size wL s n1 ∧ IMl Z h' r2 c2 kc2 h.size wL s n2 ∧ IMl Z h' r3 c3 kc3 h.size wL s n3) := by
  refine Con.of_go (plainFor_of_name pn_15) (Ls := #[.val (.ref d), .val (.ref a1), .val (.ref a2), .val (.ref a3)]) (fun m => by first | (simp [entryFrame, mkF, argsToLocals, Value.category]; done) | rfl) ?_
  refine Go.aloadN (pc' := 1) d15_0 rfl rfl rfl ?_
  refine Go.callC (cells' := 0) (slots' := 0) (pc' := 4) [] [] (a := d) rfl rfl (ww hw 91 rfl) (ww hw 92 rfl) (ww hw 94 rfl) (ww hw 95 rfl) (by decide) (c_record l Z a0 hw h d) pd_0 rfl rfl rfl rfl rfl (nl rfl) (nl rfl) (nl rfl) (nl rfl) d15_1 rfl ?_
  rintro _ _ ⟨rfl, rfl⟩
  show Go _ _ _ _ _ _ _ _ _ _ _ _ 4 #[.val (.ref d), .val (.ref a1), .val (.ref a2), .val (.ref a3)] []
  refine Go.aloadN (pc' := 5) d15_4 rfl rfl rfl ?_
  refine Go.callS (cells' := 3) (slots' := 8) (pc' := 8) [(.ref a1)] [] (ww hw 97 rfl) (ww hw 98 rfl) (ww hw 99 rfl) (ww hw 100 rfl) (by decide) (c_copyU l Z a0 hw h a1 b1 kb1 s n1 wd wE wL wLe kLe vsL mO se xE sl xL fL vL mo F1 xs) pd_8 rfl rfl rfl rfl rfl (nl rfl) (nl rfl) (nl rfl) (nl rfl) d15_5 rfl ?_
  rintro _ h2 ⟨r_2, c_2, kc_2, rfl, K2, F2_0⟩
  have K3 : Keep h h2 [d] := (Keep.refl h [d]).trans K2 all0
  have pl4 : IMl Z h2 r_2 c_2 kc_2 h.size wL s n1 := F2_0.low (Keep.refl h [d]).1
  show Go _ _ _ _ _ _ _ _ _ _ _ _ 8 #[.val (.ref d), .val (.ref a1), .val (.ref a2), .val (.ref a3)] [(.ref r_2)]
  refine Go.astoreN (pc' := 9) (Ls' := #[.val (.ref d), .val (.ref r_2), .val (.ref a2), .val (.ref a3)]) d15_8 rfl rfl rfl ?_
  refine Go.aloadN (pc' := 10) d15_9 rfl rfl rfl ?_
  refine Go.callS (cells' := 6) (slots' := 16) (pc' := 13) [(.ref a2)] [] (ww hw 97 rfl) (ww hw 98 rfl) (ww hw 99 rfl) (ww hw 100 rfl) (by decide) (c_copyU l Z a0 hw h2 a2 b2 kb2 s n2 wd wE wL wLe kLe vsL mO se xE sl xL fL vL mo (F2.keep K2 nin0 nin0) (xs.keep K2)) pd_8 rfl rfl rfl rfl rfl (nl rfl) (nl rfl) (nl rfl) (nl rfl) d15_10 rfl ?_
  rintro _ h5 ⟨r_5, c_5, kc_5, rfl, K5, F5_0⟩
  have K6 : Keep h h5 [d] := K3.trans K5 all0
  have pl7 : IMl Z h5 r_5 c_5 kc_5 h.size wL s n2 := F5_0.low K3.1
  show Go _ _ _ _ _ _ _ _ _ _ _ _ 13 #[.val (.ref d), .val (.ref r_2), .val (.ref a2), .val (.ref a3)] [(.ref r_5)]
  refine Go.astoreN (pc' := 14) (Ls' := #[.val (.ref d), .val (.ref r_2), .val (.ref r_5), .val (.ref a3)]) d15_13 rfl rfl rfl ?_
  refine Go.aloadN (pc' := 15) d15_14 rfl rfl rfl ?_
  have f8 : LSt Z h5 a3 b3 kb3 wd s n3 := ((F3.keep K2 nin0 nin0).keep K5 nin0 nin0)
  refine Go.callS (cells' := 9) (slots' := 24) (pc' := 18) [(.ref a3)] [] (ww hw 97 rfl) (ww hw 98 rfl) (ww hw 99 rfl) (ww hw 100 rfl) (by decide) (c_copyU l Z a0 hw h5 a3 b3 kb3 s n3 wd wE wL wLe kLe vsL mO se xE sl xL fL vL mo f8 (((xs.keep K2).keep K5))) pd_8 rfl rfl rfl rfl rfl (nl rfl) (nl rfl) (nl rfl) (nl rfl) d15_15 rfl ?_
  rintro _ h9 ⟨r_9, c_9, kc_9, rfl, K9, F9_0⟩
  have K10 : Keep h h9 [d] := K6.trans K9 all0
  have pl11 : IMl Z h9 r_9 c_9 kc_9 h.size wL s n3 := F9_0.low K6.1
  show Go _ _ _ _ _ _ _ _ _ _ _ _ 18 #[.val (.ref d), .val (.ref r_2), .val (.ref r_5), .val (.ref a3)] [(.ref r_9)]
  refine Go.astoreN (pc' := 19) (Ls' := #[.val (.ref d), .val (.ref r_2), .val (.ref r_5), .val (.ref r_9)]) d15_18 rfl rfl rfl ?_
  refine Go.aloadN (pc' := 20) d15_19 rfl rfl rfl ?_
  refine Go.aloadN (pc' := 21) d15_20 rfl rfl rfl ?_
  have f12 : Fld Z h9 d "com/example/aligned_index/alignedindex/inspect/Differences" "missing" "Ljava/util/List;" .null := (((fd0.keep K2 nin0).keep K5 nin0).keep K9 nin0)
  refine Go.putfield (pc' := 24) (host := "") (Or.inl (ww hw 205 rfl)) Via.refl f12 (((xd'.keep K2).keep K5).keep K9) (Or.inr ⟨(ww hw 206 rfl), rfl, rfl⟩) (ww hw 86 rfl) (ty := (.object "java/util/List")) (by decide) rfl rfl ge_d d15_21 rfl ?_
  intro h13 W14
  have K15 : Keep h h13 [d] := K10.wr W14 (Or.inl (List.mem_of_getElem? (i := 0) rfl))
  have f16 := f12.same W14
  refine Go.aloadN (pc' := 25) d15_24 rfl rfl rfl ?_
  refine Go.aloadN (pc' := 26) d15_25 rfl rfl rfl ?_
  have f17 : Fld Z h13 d "com/example/aligned_index/alignedindex/inspect/Differences" "extra" "Ljava/util/List;" .null := ((((fd1.keep K2 nin0).keep K5 nin0).keep K9 nin0).other W14 (Or.inr (slot_ne (Or.inr (ww hw 208 rfl)) (Or.inr (ww hw 206 rfl)) (by decide) (t := (.object "java/util/List")) (t' := (.object "java/util/List")) (by decide) (by decide))))
  have f18 : Exa Z h13 d "com/example/aligned_index/alignedindex/inspect/Differences" := ((((xd'.keep K2).keep K5).keep K9).wr W14)
  refine Go.putfield (pc' := 29) (host := "") (Or.inl (ww hw 207 rfl)) Via.refl f17 f18 (Or.inr ⟨(ww hw 208 rfl), rfl, rfl⟩) (ww hw 86 rfl) (ty := (.object "java/util/List")) (by decide) rfl rfl ge_d d15_26 rfl ?_
  intro h19 W20
  have K21 : Keep h h19 [d] := K15.wr W20 (Or.inl (List.mem_of_getElem? (i := 0) rfl))
  have f22 := f17.same W20
  refine Go.aloadN (pc' := 30) d15_29 rfl rfl rfl ?_
  refine Go.aloadN (pc' := 31) d15_30 rfl rfl rfl ?_
  have f23 : Fld Z h19 d "com/example/aligned_index/alignedindex/inspect/Differences" "stale" "Ljava/util/List;" .null := (((((fd2.keep K2 nin0).keep K5 nin0).keep K9 nin0).other W14 (Or.inr (slot_ne (Or.inr (ww hw 210 rfl)) (Or.inr (ww hw 206 rfl)) (by decide) (t := (.object "java/util/List")) (t' := (.object "java/util/List")) (by decide) (by decide)))).other W20 (Or.inr (slot_ne (Or.inr (ww hw 210 rfl)) (Or.inr (ww hw 208 rfl)) (by decide) (t := (.object "java/util/List")) (t' := (.object "java/util/List")) (by decide) (by decide))))
  refine Go.putfield (pc' := 34) (host := "") (Or.inl (ww hw 209 rfl)) Via.refl f23 (f18.wr W20) (Or.inr ⟨(ww hw 210 rfl), rfl, rfl⟩) (ww hw 86 rfl) (ty := (.object "java/util/List")) (by decide) rfl rfl ge_d d15_31 rfl ?_
  intro h24 W25
  have K26 : Keep h h24 [d] := K21.wr W25 (Or.inl (List.mem_of_getElem? (i := 0) rfl))
  have f27 := f23.same W25
  have f28 : Fld Z h24 d "com/example/aligned_index/alignedindex/inspect/Differences" "missing" "Ljava/util/List;" (.ref r_2) := ((f16.other W20 (Or.inr (slot_ne (Or.inr (ww hw 206 rfl)) (Or.inr (ww hw 208 rfl)) (by decide) (t := (.object "java/util/List")) (t' := (.object "java/util/List")) (by decide) (by decide)))).other W25 (Or.inr (slot_ne (Or.inr (ww hw 206 rfl)) (Or.inr (ww hw 210 rfl)) (by decide) (t := (.object "java/util/List")) (t' := (.object "java/util/List")) (by decide) (by decide))))
  have f29 : Fld Z h24 d "com/example/aligned_index/alignedindex/inspect/Differences" "extra" "Ljava/util/List;" (.ref r_5) := (f22.other W25 (Or.inr (slot_ne (Or.inr (ww hw 208 rfl)) (Or.inr (ww hw 210 rfl)) (by decide) (t := (.object "java/util/List")) (t' := (.object "java/util/List")) (by decide) (by decide))))
  have f30 : IMl Z h24 r_2 c_2 kc_2 h.size wL s n1 := (((((pl4.keep K5 all0).keep K9 all0).wr W14 fd2.lt).wr W20 fd2.lt).wr W25 fd2.lt)
  have f31 : IMl Z h24 r_5 c_5 kc_5 h.size wL s n2 := ((((pl7.keep K9 all0).wr W14 fd2.lt).wr W20 fd2.lt).wr W25 fd2.lt)
  have f32 : IMl Z h24 r_9 c_9 kc_9 h.size wL s n3 := (((pl11.wr W14 fd2.lt).wr W20 fd2.lt).wr W25 fd2.lt)
  exact Go.retV rfl d15_34 ⟨r_2, c_2, kc_2, r_5, c_5, kc_5, r_9, c_9, kc_9, rfl, K26, f28, f29, f27, f30, f31, f32⟩ (by decide) (by decide)
theorem d34_0 : decode jdk_44_method_4_code 0 = .ok (.iconst 0, 1) := by decide +kernel
theorem d34_1 : decode jdk_44_method_4_code 1 = .ok (.ireturn, 1) := by decide +kernel
set_option maxRecDepth 65536 in
set_option maxHeartbeats 4000000 in
theorem c_l12Empty (l : Launch) (Z : State) (a0 : Array Value) (hw : ∀ d ∈ tables_1, d.before a0 Z = true) {n0 : Nat} (h : Heap) (a : Addr) :
    Con l (⟨"java/util/ImmutableCollections$List12", "isEmpty", "()Z"⟩ : MethodName) jdk_44_method_4_code 1 (some .boolean) ({ frames := 0, cells := 0, slots := 0, locals := 0 } : Room) Z n0 #[(.ref a)] h (fun v h' => v = some (.int (0 : Int32)) ∧ h = h') := by
  refine Con.of_go (plainFor_of_name pn_6) (Ls := #[.val (.ref a)]) (fun m => by first | (simp [entryFrame, mkF, argsToLocals, Value.category]; done) | rfl) ?_
  refine Go.iconst (pc' := 1) (v := (0 : Int32)) d34_0 rfl rfl ?_
  exact Go.retN (t := .boolean) rfl (by simp) d34_1 ⟨rfl, rfl⟩ (by decide) (by decide)
theorem d33_0 : decode jdk_45_method_2_code 0 = .ok (.aload_n 0, 1) := by decide +kernel
theorem d33_1 : decode jdk_45_method_2_code 1 = .ok (.getfield 7, 3) := by decide +kernel
theorem d33_4 : decode jdk_45_method_2_code 4 = .ok (.arraylength, 1) := by decide +kernel
theorem d33_5 : decode jdk_45_method_2_code 5 = .ok (.ifCond .ne 7, 3) := by decide +kernel
theorem d33_8 : decode jdk_45_method_2_code 8 = .ok (.iconst 1, 1) := by decide +kernel
theorem d33_9 : decode jdk_45_method_2_code 9 = .ok (.goto 4, 3) := by decide +kernel
theorem d33_13 : decode jdk_45_method_2_code 13 = .ok (.ireturn, 1) := by decide +kernel
set_option maxRecDepth 65536 in
set_option maxHeartbeats 4000000 in
theorem c_lnEmpty0 (l : Launch) (Z : State) (a0 : Array Value) (hw : ∀ d ∈ tables_1, d.before a0 Z = true) {n0 : Nat} (h : Heap) (a : Addr) (b : Addr) (kb : ClassId) (vs : List Value) (f : Fld Z h a "java/util/ImmutableCollections$ListN" "elements" "[Ljava/lang/Object;" (.ref b)) (v : Arv Z h b kb (.object "java/lang/Object") (0 : Int32) vs .null) :
    Con l (⟨"java/util/ImmutableCollections$ListN", "isEmpty", "()Z"⟩ : MethodName) jdk_45_method_2_code 1 (some .boolean) ({ frames := 0, cells := 0, slots := 0, locals := 0 } : Room) Z n0 #[(.ref a)] h (fun v h' => v = some (.int (1 : Int32)) ∧ h = h') := by
  refine Con.of_go (plainFor_of_name pn_7) (Ls := #[.val (.ref a)]) (fun m => by first | (simp [entryFrame, mkF, argsToLocals, Value.category]; done) | rfl) ?_
  refine Go.aloadN (pc' := 1) d33_0 rfl rfl rfl ?_
  refine Go.getfield (pc' := 4) (host := "") (Or.inl (ww hw 185 rfl)) Via.refl f d33_1 rfl ?_
  refine Go.arraylength (pc' := 5) v d33_4 rfl ?_
  refine Go.ifNo (pc' := 8) d33_5 (XT.i0_ne_f (by decide)) rfl ?_
  refine Go.iconst (pc' := 9) (v := (1 : Int32)) d33_8 rfl rfl ?_
  refine Go.goto (pc' := 13) d33_9 (by decide) (by decide) ?_
  exact Go.retN (t := .boolean) rfl (by simp) d33_13 ⟨rfl, rfl⟩ (by decide) (by decide)
theorem d33_12 : decode jdk_45_method_2_code 12 = .ok (.iconst 0, 1) := by decide +kernel
set_option maxRecDepth 65536 in
set_option maxHeartbeats 4000000 in
theorem c_lnEmpty3 (l : Launch) (Z : State) (a0 : Array Value) (hw : ∀ d ∈ tables_1, d.before a0 Z = true) {n0 : Nat} (h : Heap) (a : Addr) (b : Addr) (kb : ClassId) (s : Addr) (f : Fld Z h a "java/util/ImmutableCollections$ListN" "elements" "[Ljava/lang/Object;" (.ref b)) (v : Arv Z h b kb (.object "java/lang/Object") (3 : Int32) [(.ref s), (.ref s), (.ref s)] .null) :
    Con l (⟨"java/util/ImmutableCollections$ListN", "isEmpty", "()Z"⟩ : MethodName) jdk_45_method_2_code 1 (some .boolean) ({ frames := 0, cells := 0, slots := 0, locals := 0 } : Room) Z n0 #[(.ref a)] h (fun v h' => v = some (.int (0 : Int32)) ∧ h = h') := by
  refine Con.of_go (plainFor_of_name pn_7) (Ls := #[.val (.ref a)]) (fun m => by first | (simp [entryFrame, mkF, argsToLocals, Value.category]; done) | rfl) ?_
  refine Go.aloadN (pc' := 1) d33_0 rfl rfl rfl ?_
  refine Go.getfield (pc' := 4) (host := "") (Or.inl (ww hw 185 rfl)) Via.refl f d33_1 rfl ?_
  refine Go.arraylength (pc' := 5) v d33_4 rfl ?_
  refine Go.ifYes (pc' := 12) d33_5 (XT.i0_ne_t (by decide)) (by decide) (by decide) ?_
  refine Go.iconst (pc' := 13) (v := (0 : Int32)) d33_12 rfl rfl ?_
  exact Go.retN (t := .boolean) rfl (by simp) d33_13 ⟨rfl, rfl⟩ (by decide) (by decide)
theorem d32_0 : decode prog_21_method_2_code 0 = .ok (.aload_n 0, 1) := by decide +kernel
theorem d32_1 : decode prog_21_method_2_code 1 = .ok (.getfield 13, 3) := by decide +kernel
theorem d32_4 : decode prog_21_method_2_code 4 = .ok (.invokeinterface 25 1, 5) := by decide +kernel
theorem d32_9 : decode prog_21_method_2_code 9 = .ok (.ifCond .eq 31, 3) := by decide +kernel
theorem d32_12 : decode prog_21_method_2_code 12 = .ok (.aload_n 0, 1) := by decide +kernel
theorem d32_13 : decode prog_21_method_2_code 13 = .ok (.getfield 19, 3) := by decide +kernel
theorem d32_16 : decode prog_21_method_2_code 16 = .ok (.invokeinterface 25 1, 5) := by decide +kernel
theorem d32_21 : decode prog_21_method_2_code 21 = .ok (.ifCond .eq 19, 3) := by decide +kernel
theorem d32_24 : decode prog_21_method_2_code 24 = .ok (.aload_n 0, 1) := by decide +kernel
theorem d32_25 : decode prog_21_method_2_code 25 = .ok (.getfield 22, 3) := by decide +kernel
theorem d32_28 : decode prog_21_method_2_code 28 = .ok (.invokeinterface 25 1, 5) := by decide +kernel
theorem d32_33 : decode prog_21_method_2_code 33 = .ok (.ifCond .eq 7, 3) := by decide +kernel
theorem d32_36 : decode prog_21_method_2_code 36 = .ok (.iconst 1, 1) := by decide +kernel
theorem d32_37 : decode prog_21_method_2_code 37 = .ok (.goto 4, 3) := by decide +kernel
theorem d32_40 : decode prog_21_method_2_code 40 = .ok (.iconst 0, 1) := by decide +kernel
theorem d32_41 : decode prog_21_method_2_code 41 = .ok (.ireturn, 1) := by decide +kernel
set_option maxRecDepth 65536 in
set_option maxHeartbeats 4000000 in
theorem c_none (l : Launch) (Z : State) (a0 : Array Value) (hw : ∀ d ∈ tables_1, d.before a0 Z = true) {n0 : Nat} (h : Heap) (d : Addr) (r1 : Addr) (c1 : Addr) (kc1 : ClassId) (m1 : Nat) (n1 : Int32) (r2 : Addr) (c2 : Addr) (kc2 : ClassId) (m2 : Nat) (n2 : Int32) (r3 : Addr) (c3 : Addr) (kc3 : ClassId) (m3 : Nat) (n3 : Int32) (s : Addr) (wL : Addr) (wLe : Addr) (kLe : ClassId) (vsL : List Value) (sl : Sta Z Z.heap "java/util/ImmutableCollections" "EMPTY_LIST" "Ljava/util/ImmutableCollections$ListN;" (.ref wL)) (xL : Exa Z Z.heap wL "java/util/ImmutableCollections$ListN") (fL : Fld Z Z.heap wL "java/util/ImmutableCollections$ListN" "elements" "[Ljava/lang/Object;" (.ref wLe)) (vL : Arv Z Z.heap wLe kLe (.object "java/lang/Object") (0 : Int32) vsL .null) (fd0 : Fld Z h d "com/example/aligned_index/alignedindex/inspect/Differences" "missing" "Ljava/util/List;" (.ref r1)) (fd1 : Fld Z h d "com/example/aligned_index/alignedindex/inspect/Differences" "extra" "Ljava/util/List;" (.ref r2)) (fd2 : Fld Z h d "com/example/aligned_index/alignedindex/inspect/Differences" "stale" "Ljava/util/List;" (.ref r3)) (F1 : IMl Z h r1 c1 kc1 m1 wL s n1) (F2 : IMl Z h r2 c2 kc2 m2 wL s n2) (F3 : IMl Z h r3 c3 kc3 m3 wL s n3) :
    Con l (⟨"com/example/aligned_index/alignedindex/inspect/Differences", "none", "()Z"⟩ : MethodName) prog_21_method_2_code 1 (some .boolean) ({ frames := 1, cells := 0, slots := 0, locals := 12 } : Room) Z n0 #[(.ref d)] h (fun v h' => v = some (.int (if n1 = (0 : Int32) ∧ n2 = (0 : Int32) ∧ n3 = (0 : Int32) then (1 : Int32) else 0)) ∧ h = h') := by
  refine Con.of_go (plainFor_of_name pn_15) (Ls := #[.val (.ref d)]) (fun m => by first | (simp [entryFrame, mkF, argsToLocals, Value.category]; done) | rfl) ?_
  refine Go.aloadN (pc' := 1) d32_0 rfl rfl rfl ?_
  refine Go.getfield (pc' := 4) (host := "") (Or.inl (ww hw 205 rfl)) Via.refl fd0 d32_1 rfl ?_
  obtain ⟨q1, lq1⟩ | ⟨q1, lq1, xq1⟩ | ⟨q1, lq1, lr1, xq1, fq1, vq1⟩ := F1
  ·
    rw [lq1]
    refine Go.old (fun old2 => ?_)
    refine Go.callI (cells' := 0) (slots' := 0) (pc' := 9) [] [] (xL.ext old2.2) (ww hw 216 rfl) (ww hw 217 rfl) (ww hw 218 rfl) (ww hw 219 rfl) (ww hw 220 rfl) (ww hw 221 rfl) (ww hw 222 rfl) (ww hw 223 rfl) (ww hw 166 rfl) (ww hw 224 rfl) (by decide) (c_lnEmpty0 l Z a0 hw h wL wLe kLe vsL (fL.ext old2.2) (vL.ext old2.2)) pd_6 rfl rfl rfl rfl rfl (nl rfl) (nl rfl) (nl rfl) (nl rfl) d32_4 rfl ?_
    rintro _ _ ⟨rfl, rfl⟩
    show Go _ _ _ _ _ _ _ _ _ _ _ _ 9 #[.val (.ref d)] [(.int (1 : Int32))]
    refine Go.ifNo (pc' := 12) d32_9 (XT.i0_eq_f (by decide)) rfl ?_
    refine Go.aloadN (pc' := 13) d32_12 rfl rfl rfl ?_
    refine Go.getfield (pc' := 16) (host := "") (Or.inl (ww hw 207 rfl)) Via.refl fd1 d32_13 rfl ?_
    obtain ⟨q4, lq4⟩ | ⟨q4, lq4, xq4⟩ | ⟨q4, lq4, lr4, xq4, fq4, vq4⟩ := F2
    ·
      rw [lq4]
      refine Go.callI (cells' := 0) (slots' := 0) (pc' := 21) [] [] (xL.ext old2.2) (ww hw 216 rfl) (ww hw 217 rfl) (ww hw 218 rfl) (ww hw 219 rfl) (ww hw 220 rfl) (ww hw 221 rfl) (ww hw 222 rfl) (ww hw 223 rfl) (ww hw 166 rfl) (ww hw 224 rfl) (by decide) (c_lnEmpty0 l Z a0 hw h wL wLe kLe vsL (fL.ext old2.2) (vL.ext old2.2)) pd_6 rfl rfl rfl rfl rfl (nl rfl) (nl rfl) (nl rfl) (nl rfl) d32_16 rfl ?_
      rintro _ _ ⟨rfl, rfl⟩
      show Go _ _ _ _ _ _ _ _ _ _ _ _ 21 #[.val (.ref d)] [(.int (1 : Int32))]
      refine Go.ifNo (pc' := 24) d32_21 (XT.i0_eq_f (by decide)) rfl ?_
      refine Go.aloadN (pc' := 25) d32_24 rfl rfl rfl ?_
      refine Go.getfield (pc' := 28) (host := "") (Or.inl (ww hw 209 rfl)) Via.refl fd2 d32_25 rfl ?_
      obtain ⟨q6, lq6⟩ | ⟨q6, lq6, xq6⟩ | ⟨q6, lq6, lr6, xq6, fq6, vq6⟩ := F3
      ·
        rw [lq6]
        refine Go.callI (cells' := 0) (slots' := 0) (pc' := 33) [] [] (xL.ext old2.2) (ww hw 216 rfl) (ww hw 217 rfl) (ww hw 218 rfl) (ww hw 219 rfl) (ww hw 220 rfl) (ww hw 221 rfl) (ww hw 222 rfl) (ww hw 223 rfl) (ww hw 166 rfl) (ww hw 224 rfl) (by decide) (c_lnEmpty0 l Z a0 hw h wL wLe kLe vsL (fL.ext old2.2) (vL.ext old2.2)) pd_6 rfl rfl rfl rfl rfl (nl rfl) (nl rfl) (nl rfl) (nl rfl) d32_28 rfl ?_
        rintro _ _ ⟨rfl, rfl⟩
        show Go _ _ _ _ _ _ _ _ _ _ _ _ 33 #[.val (.ref d)] [(.int (1 : Int32))]
        refine Go.ifNo (pc' := 36) d32_33 (XT.i0_eq_f (by decide)) rfl ?_
        refine Go.iconst (pc' := 37) (v := (1 : Int32)) d32_36 rfl rfl ?_
        refine Go.goto (pc' := 41) d32_37 (by decide) (by decide) ?_
        exact Go.retN (t := .boolean) rfl (by simp) d32_41 ⟨(by rw [if_pos ⟨q1, q4, q6⟩]; rfl), rfl⟩ (by decide) (by decide)
      ·
        refine Go.callI (cells' := 0) (slots' := 0) (pc' := 33) [] [] xq6 (ww hw 216 rfl) (ww hw 217 rfl) (ww hw 218 rfl) (ww hw 225 rfl) (ww hw 226 rfl) (ww hw 227 rfl) (ww hw 228 rfl) (ww hw 229 rfl) (ww hw 191 rfl) (ww hw 230 rfl) (by decide) (c_l12Empty l Z a0 hw h r3) pd_6 rfl rfl rfl rfl rfl (nl rfl) (nl rfl) (nl rfl) (nl rfl) d32_28 rfl ?_
        rintro _ _ ⟨rfl, rfl⟩
        show Go _ _ _ _ _ _ _ _ _ _ _ _ 33 #[.val (.ref d)] [(.int (0 : Int32))]
        refine Go.ifYes (pc' := 40) d32_33 (XT.i0_eq_t (by decide)) (by decide) (by decide) ?_
        refine Go.iconst (pc' := 41) (v := (0 : Int32)) d32_40 rfl rfl ?_
        exact Go.retN (t := .boolean) rfl (by simp) d32_41 ⟨(by rw [if_neg (fun z => q6 z.2.2)]; rfl), rfl⟩ (by decide) (by decide)
      ·
        refine Go.callI (cells' := 0) (slots' := 0) (pc' := 33) [] [] xq6 (ww hw 216 rfl) (ww hw 217 rfl) (ww hw 218 rfl) (ww hw 219 rfl) (ww hw 220 rfl) (ww hw 221 rfl) (ww hw 222 rfl) (ww hw 223 rfl) (ww hw 166 rfl) (ww hw 224 rfl) (by decide) (c_lnEmpty3 l Z a0 hw h r3 c3 kc3 s fq6 vq6) pd_6 rfl rfl rfl rfl rfl (nl rfl) (nl rfl) (nl rfl) (nl rfl) d32_28 rfl ?_
        rintro _ _ ⟨rfl, rfl⟩
        show Go _ _ _ _ _ _ _ _ _ _ _ _ 33 #[.val (.ref d)] [(.int (0 : Int32))]
        refine Go.ifYes (pc' := 40) d32_33 (XT.i0_eq_t (by decide)) (by decide) (by decide) ?_
        refine Go.iconst (pc' := 41) (v := (0 : Int32)) d32_40 rfl rfl ?_
        exact Go.retN (t := .boolean) rfl (by simp) d32_41 ⟨(by rw [if_neg (fun z => q6 z.2.2)]; rfl), rfl⟩ (by decide) (by decide)
    ·
      refine Go.callI (cells' := 0) (slots' := 0) (pc' := 21) [] [] xq4 (ww hw 216 rfl) (ww hw 217 rfl) (ww hw 218 rfl) (ww hw 225 rfl) (ww hw 226 rfl) (ww hw 227 rfl) (ww hw 228 rfl) (ww hw 229 rfl) (ww hw 191 rfl) (ww hw 230 rfl) (by decide) (c_l12Empty l Z a0 hw h r2) pd_6 rfl rfl rfl rfl rfl (nl rfl) (nl rfl) (nl rfl) (nl rfl) d32_16 rfl ?_
      rintro _ _ ⟨rfl, rfl⟩
      show Go _ _ _ _ _ _ _ _ _ _ _ _ 21 #[.val (.ref d)] [(.int (0 : Int32))]
      refine Go.ifYes (pc' := 40) d32_21 (XT.i0_eq_t (by decide)) (by decide) (by decide) ?_
      refine Go.iconst (pc' := 41) (v := (0 : Int32)) d32_40 rfl rfl ?_
      exact Go.retN (t := .boolean) rfl (by simp) d32_41 ⟨(by rw [if_neg (fun z => q4 z.2.1)]; rfl), rfl⟩ (by decide) (by decide)
    ·
      refine Go.callI (cells' := 0) (slots' := 0) (pc' := 21) [] [] xq4 (ww hw 216 rfl) (ww hw 217 rfl) (ww hw 218 rfl) (ww hw 219 rfl) (ww hw 220 rfl) (ww hw 221 rfl) (ww hw 222 rfl) (ww hw 223 rfl) (ww hw 166 rfl) (ww hw 224 rfl) (by decide) (c_lnEmpty3 l Z a0 hw h r2 c2 kc2 s fq4 vq4) pd_6 rfl rfl rfl rfl rfl (nl rfl) (nl rfl) (nl rfl) (nl rfl) d32_16 rfl ?_
      rintro _ _ ⟨rfl, rfl⟩
      show Go _ _ _ _ _ _ _ _ _ _ _ _ 21 #[.val (.ref d)] [(.int (0 : Int32))]
      refine Go.ifYes (pc' := 40) d32_21 (XT.i0_eq_t (by decide)) (by decide) (by decide) ?_
      refine Go.iconst (pc' := 41) (v := (0 : Int32)) d32_40 rfl rfl ?_
      exact Go.retN (t := .boolean) rfl (by simp) d32_41 ⟨(by rw [if_neg (fun z => q4 z.2.1)]; rfl), rfl⟩ (by decide) (by decide)
  ·
    refine Go.callI (cells' := 0) (slots' := 0) (pc' := 9) [] [] xq1 (ww hw 216 rfl) (ww hw 217 rfl) (ww hw 218 rfl) (ww hw 225 rfl) (ww hw 226 rfl) (ww hw 227 rfl) (ww hw 228 rfl) (ww hw 229 rfl) (ww hw 191 rfl) (ww hw 230 rfl) (by decide) (c_l12Empty l Z a0 hw h r1) pd_6 rfl rfl rfl rfl rfl (nl rfl) (nl rfl) (nl rfl) (nl rfl) d32_4 rfl ?_
    rintro _ _ ⟨rfl, rfl⟩
    show Go _ _ _ _ _ _ _ _ _ _ _ _ 9 #[.val (.ref d)] [(.int (0 : Int32))]
    refine Go.ifYes (pc' := 40) d32_9 (XT.i0_eq_t (by decide)) (by decide) (by decide) ?_
    refine Go.iconst (pc' := 41) (v := (0 : Int32)) d32_40 rfl rfl ?_
    exact Go.retN (t := .boolean) rfl (by simp) d32_41 ⟨(by rw [if_neg (fun z => q1 z.1)]; rfl), rfl⟩ (by decide) (by decide)
  ·
    refine Go.callI (cells' := 0) (slots' := 0) (pc' := 9) [] [] xq1 (ww hw 216 rfl) (ww hw 217 rfl) (ww hw 218 rfl) (ww hw 219 rfl) (ww hw 220 rfl) (ww hw 221 rfl) (ww hw 222 rfl) (ww hw 223 rfl) (ww hw 166 rfl) (ww hw 224 rfl) (by decide) (c_lnEmpty3 l Z a0 hw h r1 c1 kc1 s fq1 vq1) pd_6 rfl rfl rfl rfl rfl (nl rfl) (nl rfl) (nl rfl) (nl rfl) d32_4 rfl ?_
    rintro _ _ ⟨rfl, rfl⟩
    show Go _ _ _ _ _ _ _ _ _ _ _ _ 9 #[.val (.ref d)] [(.int (0 : Int32))]
    refine Go.ifYes (pc' := 40) d32_9 (XT.i0_eq_t (by decide)) (by decide) (by decide) ?_
    refine Go.iconst (pc' := 41) (v := (0 : Int32)) d32_40 rfl rfl ?_
    exact Go.retN (t := .boolean) rfl (by simp) d32_41 ⟨(by rw [if_neg (fun z => q1 z.1)]; rfl), rfl⟩ (by decide) (by decide)
theorem pd_19 : parseMethodDescriptor "(C)Ljava/lang/String;" = some ⟨[.char], some (.object "java/lang/String")⟩ := by decide +kernel
theorem pd_20 : parseMethodDescriptor "(ILjava/lang/String;)Ljava/util/ArrayList;" = some ⟨[.int, (.object "java/lang/String")], some (.object "java/util/ArrayList")⟩ := by decide +kernel
theorem pd_21 : parseMethodDescriptor "(Ljava/util/List;Ljava/util/List;Ljava/util/List;)V" = some ⟨[(.object "java/util/List"), (.object "java/util/List"), (.object "java/util/List")], none⟩ := by decide +kernel
set_option maxRecDepth 65536 in
set_option maxHeartbeats 4000000 in
theorem c_law (l : Launch) (Z : State) (a0 : Array Value) (hw : ∀ d ∈ tables_1, d.before a0 Z = true) {n0 : Nat} (h : Heap) (p0 : Int32) (p1 : Int32) (p2 : Int32) (p3 : Int32) (wd : Addr) (kd : ClassId) (vsd : List Value) (wE : Addr) (wL : Addr) (wLe : Addr) (kLe : ClassId) (vsL : List Value) (mO : Addr) (cp : Int32) (hcp : ¬ (cp = (0 : Int32))) (sd : Sta Z Z.heap "java/util/ArrayList" "DEFAULTCAPACITY_EMPTY_ELEMENTDATA" "[Ljava/lang/Object;" (.ref wd)) (vd : Arv Z Z.heap wd kd (.object "java/lang/Object") (0 : Int32) vsd .null) (xd : Exa Z Z.heap wd "[Ljava/lang/Object;") (se : Sta Z Z.heap "java/util/ImmutableCollections" "EMPTY" "Ljava/lang/Object;" (.ref wE)) (xE : Exa Z Z.heap wE "java/lang/Object") (sl : Sta Z Z.heap "java/util/ImmutableCollections" "EMPTY_LIST" "Ljava/util/ImmutableCollections$ListN;" (.ref wL)) (xL : Exa Z Z.heap wL "java/util/ImmutableCollections$ListN") (fL : Fld Z Z.heap wL "java/util/ImmutableCollections$ListN" "elements" "[Ljava/lang/Object;" (.ref wLe)) (vL : Arv Z Z.heap wLe kLe (.object "java/lang/Object") (0 : Int32) vsL .null) (mo : Mi Z "[Ljava/lang/Object;" mO) (scp : Sta Z Z.heap "java/lang/String" "COMPACT_STRINGS" "Z" (.int cp)) :
    Con l x code maxLocals ret room_1 Z n0 #[(.int p0), (.int p1), (.int p2), (.int p3)] h (fun v h' => v = some (.int (1 : Int32)) ∧ Keep h h' []) := by
  refine Con.of_go (plainFor_of_name pn_13) (Ls := #[.val (.int p0), .val (.int p1), .val (.int p2), .val (.int p3), .unset, .unset, .unset, .unset, .unset, .unset, .unset, .unset, .unset]) (fun m => by first | (simp [entryFrame, mkF, argsToLocals, Value.category, maxLocals]; done) | rfl) ?_
  refine Go.iloadN (pc' := 1) at_0 rfl rfl ?_
  refine Go.iconst (pc' := 2) (v := (3 : Int32)) at_1 rfl rfl ?_
  refine Go.iand (pc' := 3) at_2 rfl ?_
  refine Go.istore (pc' := 5) (Ls' := #[.val (.int p0), .val (.int p1), .val (.int p2), .val (.int p3), .val (.int (p0 &&& (3 : Int32))), .unset, .unset, .unset, .unset, .unset, .unset, .unset, .unset]) at_3 rfl rfl ?_
  refine Go.iloadN (pc' := 6) at_5 rfl rfl ?_
  refine Go.iconst (pc' := 7) (v := (3 : Int32)) at_6 rfl rfl ?_
  refine Go.iand (pc' := 8) at_7 rfl ?_
  refine Go.istore (pc' := 10) (Ls' := #[.val (.int p0), .val (.int p1), .val (.int p2), .val (.int p3), .val (.int (p0 &&& (3 : Int32))), .val (.int (p1 &&& (3 : Int32))), .unset, .unset, .unset, .unset, .unset, .unset, .unset]) at_8 rfl rfl ?_
  refine Go.iloadN (pc' := 11) at_10 rfl rfl ?_
  refine Go.iconst (pc' := 12) (v := (3 : Int32)) at_11 rfl rfl ?_
  refine Go.iand (pc' := 13) at_12 rfl ?_
  refine Go.istore (pc' := 15) (Ls' := #[.val (.int p0), .val (.int p1), .val (.int p2), .val (.int p3), .val (.int (p0 &&& (3 : Int32))), .val (.int (p1 &&& (3 : Int32))), .val (.int (p2 &&& (3 : Int32))), .unset, .unset, .unset, .unset, .unset, .unset]) at_13 rfl rfl ?_
  refine Go.iloadN (pc' := 16) at_15 rfl rfl ?_
  refine Go.sipush (pc' := 19) (v := (255 : Int32)) at_16 rfl rfl ?_
  refine Go.iand (pc' := 20) at_19 rfl ?_
  refine Go.i2c (pc' := 21) at_20 rfl ?_
  rw [i2c_mask]
  refine Go.callS (cells' := 2) (slots' := 5) (pc' := 24) [(.int (p3 &&& (255 : Int32)))] [] (ww hw 0 rfl) (ww hw 1 rfl) (ww hw 2 rfl) (ww hw 3 rfl) (by decide) (c_valueOf l Z a0 hw h ((p3 &&& (255 : Int32))) cp (OwnNum.le255 p3) hcp scp) pd_19 rfl rfl rfl rfl rfl (nl rfl) (nl rfl) (nl rfl) (nl rfl) at_21 rfl ?_
  rintro _ h1 ⟨r_1, rfl, K1, ge_r_1, sz_r_1, F1_0⟩
  have sz2 : h.size ≤ r_1 := Nat.le_trans (Keep.refl h []).1 sz_r_1
  have K3 : Keep h h1 [] := (Keep.refl h []).trans K1 all0
  show Go _ _ _ _ _ _ _ _ _ _ _ _ 24 #[.val (.int p0), .val (.int p1), .val (.int p2), .val (.int p3), .val (.int (p0 &&& (3 : Int32))), .val (.int (p1 &&& (3 : Int32))), .val (.int (p2 &&& (3 : Int32))), .unset, .unset, .unset, .unset, .unset, .unset] [(.ref r_1)]
  refine Go.astore (pc' := 26) (Ls' := #[.val (.int p0), .val (.int p1), .val (.int p2), .val (.int p3), .val (.int (p0 &&& (3 : Int32))), .val (.int (p1 &&& (3 : Int32))), .val (.int (p2 &&& (3 : Int32))), .val (.ref r_1), .unset, .unset, .unset, .unset, .unset]) at_24 rfl rfl rfl ?_
  refine Go.iload (pc' := 28) at_26 rfl rfl ?_
  refine Go.aload (pc' := 30) at_28 rfl rfl rfl ?_
  refine Go.callS (cells' := 6) (slots' := 38) (pc' := 33) [(.int (p0 &&& (3 : Int32))), (.ref r_1)] [] (ww hw 26 rfl) (ww hw 27 rfl) (ww hw 28 rfl) (ww hw 29 rfl) (by decide) (c_fillU l Z a0 hw h1 ((p0 &&& (3 : Int32))) r_1 wd kd vsd (own_and3 p0) sd vd xd F1_0) pd_20 rfl rfl rfl rfl rfl (nl rfl) (nl rfl) (nl rfl) (nl rfl) at_30 rfl ?_
  rintro _ h4 ⟨a_4, b_4, kb_4, rfl, K4, ge_a_4, sz_a_4, ge_b_4, sz_b_4, F4_0, F4_1⟩
  have sz5 : h.size ≤ a_4 := Nat.le_trans K3.1 sz_a_4
  have sz6 : h.size ≤ b_4 := Nat.le_trans K3.1 sz_b_4
  have K7 : Keep h h4 [] := K3.trans K4 all0
  show Go _ _ _ _ _ _ _ _ _ _ _ _ 33 #[.val (.int p0), .val (.int p1), .val (.int p2), .val (.int p3), .val (.int (p0 &&& (3 : Int32))), .val (.int (p1 &&& (3 : Int32))), .val (.int (p2 &&& (3 : Int32))), .val (.ref r_1), .unset, .unset, .unset, .unset, .unset] [(.ref a_4)]
  refine Go.astore (pc' := 35) (Ls' := #[.val (.int p0), .val (.int p1), .val (.int p2), .val (.int p3), .val (.int (p0 &&& (3 : Int32))), .val (.int (p1 &&& (3 : Int32))), .val (.int (p2 &&& (3 : Int32))), .val (.ref r_1), .val (.ref a_4), .unset, .unset, .unset, .unset]) at_33 rfl rfl rfl ?_
  refine Go.iload (pc' := 37) at_35 rfl rfl ?_
  refine Go.aload (pc' := 39) at_37 rfl rfl rfl ?_
  refine Go.callS (cells' := 10) (slots' := 71) (pc' := 42) [(.int (p1 &&& (3 : Int32))), (.ref r_1)] [] (ww hw 26 rfl) (ww hw 27 rfl) (ww hw 28 rfl) (ww hw 29 rfl) (by decide) (c_fillU l Z a0 hw h4 ((p1 &&& (3 : Int32))) r_1 wd kd vsd (own_and3 p1) sd vd xd (F1_0.keep K4)) pd_20 rfl rfl rfl rfl rfl (nl rfl) (nl rfl) (nl rfl) (nl rfl) at_39 rfl ?_
  rintro _ h8 ⟨a_8, b_8, kb_8, rfl, K8, ge_a_8, sz_a_8, ge_b_8, sz_b_8, F8_0, F8_1⟩
  have sz9 : h.size ≤ a_8 := Nat.le_trans K7.1 sz_a_8
  have sz10 : h.size ≤ b_8 := Nat.le_trans K7.1 sz_b_8
  have K11 : Keep h h8 [] := K7.trans K8 all0
  show Go _ _ _ _ _ _ _ _ _ _ _ _ 42 #[.val (.int p0), .val (.int p1), .val (.int p2), .val (.int p3), .val (.int (p0 &&& (3 : Int32))), .val (.int (p1 &&& (3 : Int32))), .val (.int (p2 &&& (3 : Int32))), .val (.ref r_1), .val (.ref a_4), .unset, .unset, .unset, .unset] [(.ref a_8)]
  refine Go.astore (pc' := 44) (Ls' := #[.val (.int p0), .val (.int p1), .val (.int p2), .val (.int p3), .val (.int (p0 &&& (3 : Int32))), .val (.int (p1 &&& (3 : Int32))), .val (.int (p2 &&& (3 : Int32))), .val (.ref r_1), .val (.ref a_4), .val (.ref a_8), .unset, .unset, .unset]) at_42 rfl rfl rfl ?_
  refine Go.iload (pc' := 46) at_44 rfl rfl ?_
  refine Go.aload (pc' := 48) at_46 rfl rfl rfl ?_
  refine Go.callS (cells' := 14) (slots' := 104) (pc' := 51) [(.int (p2 &&& (3 : Int32))), (.ref r_1)] [] (ww hw 26 rfl) (ww hw 27 rfl) (ww hw 28 rfl) (ww hw 29 rfl) (by decide) (c_fillU l Z a0 hw h8 ((p2 &&& (3 : Int32))) r_1 wd kd vsd (own_and3 p2) sd vd xd (((F1_0.keep K4).keep K8))) pd_20 rfl rfl rfl rfl rfl (nl rfl) (nl rfl) (nl rfl) (nl rfl) at_48 rfl ?_
  rintro _ h12 ⟨a_12, b_12, kb_12, rfl, K12, ge_a_12, sz_a_12, ge_b_12, sz_b_12, F12_0, F12_1⟩
  have sz13 : h.size ≤ a_12 := Nat.le_trans K11.1 sz_a_12
  have sz14 : h.size ≤ b_12 := Nat.le_trans K11.1 sz_b_12
  have K15 : Keep h h12 [] := K11.trans K12 all0
  show Go _ _ _ _ _ _ _ _ _ _ _ _ 51 #[.val (.int p0), .val (.int p1), .val (.int p2), .val (.int p3), .val (.int (p0 &&& (3 : Int32))), .val (.int (p1 &&& (3 : Int32))), .val (.int (p2 &&& (3 : Int32))), .val (.ref r_1), .val (.ref a_4), .val (.ref a_8), .unset, .unset, .unset] [(.ref a_12)]
  refine Go.astore (pc' := 53) (Ls' := #[.val (.int p0), .val (.int p1), .val (.int p2), .val (.int p3), .val (.int (p0 &&& (3 : Int32))), .val (.int (p1 &&& (3 : Int32))), .val (.int (p2 &&& (3 : Int32))), .val (.ref r_1), .val (.ref a_4), .val (.ref a_8), .val (.ref a_12), .unset, .unset]) at_51 rfl rfl rfl ?_
  refine Go.new (pc' := 56) (cells' := 15) (slots' := 107) (ww hw 85 rfl) (ww hw 86 rfl) (ww hw 87 rfl) at_53 rfl rfl (by decide) (by decide) rfl ?_
  intro h16 b16 g16 E16 ge16 A16 D16
  have sz17 : h.size ≤ b16 := Nat.le_trans K15.1 (Nat.le_of_eq g16.symm)
  have K18 : Keep h h16 [] := K15.ext E16
  refine Go.dup (pc' := 57) at_56 rfl rfl ?_
  refine Go.aload (pc' := 59) at_57 rfl rfl rfl ?_
  refine Go.aload (pc' := 61) at_59 rfl rfl rfl ?_
  refine Go.aload (pc' := 63) at_61 rfl rfl rfl ?_
  have f19 : LSt Z h16 a_4 b_4 kb_4 wd r_1 (p0 &&& (3 : Int32)) := (((F4_1.keep K8 nin0 nin0).keep K12 nin0 nin0).ext E16)
  have f20 : Exa Z h16 r_1 "java/lang/String" := ((((F1_0.keep K4).keep K8).keep K12).ext E16)
  refine Go.callC (cells' := 24) (slots' := 131) (pc' := 66) [(.ref a_4), (.ref a_8), (.ref a_12)] [(.ref b16)] (a := b16) rfl rfl (ww hw 88 rfl) (ww hw 89 rfl) (ww hw 87 rfl) (ww hw 90 rfl) (by decide) (c_diffInit l Z a0 hw h16 b16 a_4 b_4 kb_4 ((p0 &&& (3 : Int32))) a_8 b_8 kb_8 ((p1 &&& (3 : Int32))) a_12 b_12 kb_12 ((p2 &&& (3 : Int32))) r_1 wd wE wL wLe kLe vsL mO se xE sl xL fL vL mo ge16 A16 ((D16 (Or.inr (ww hw 206 rfl)) (ty := (.object "java/util/List")) (by decide) : Fld Z h16 b16 "com/example/aligned_index/alignedindex/inspect/Differences" "missing" "Ljava/util/List;" .null)) ((D16 (Or.inr (ww hw 208 rfl)) (ty := (.object "java/util/List")) (by decide) : Fld Z h16 b16 "com/example/aligned_index/alignedindex/inspect/Differences" "extra" "Ljava/util/List;" .null)) ((D16 (Or.inr (ww hw 210 rfl)) (ty := (.object "java/util/List")) (by decide) : Fld Z h16 b16 "com/example/aligned_index/alignedindex/inspect/Differences" "stale" "Ljava/util/List;" .null)) f19 (((F8_1.keep K12 nin0 nin0).ext E16)) (F12_1.ext E16) f20) pd_21 rfl rfl rfl rfl rfl (nl rfl) (nl rfl) (nl rfl) (nl rfl) at_63 rfl ?_
  rintro _ h21 ⟨r1_21, c1_21, kc1_21, r2_21, c2_21, kc2_21, r3_21, c3_21, kc3_21, rfl, K21, F21_0, F21_1, F21_2, F21_3, F21_4, F21_5⟩
  have K22 : Keep h h21 [] := K18.trans K21 (allS (Or.inr sz17) all0)
  show Go _ _ _ _ _ _ _ _ _ _ _ _ 66 #[.val (.int p0), .val (.int p1), .val (.int p2), .val (.int p3), .val (.int (p0 &&& (3 : Int32))), .val (.int (p1 &&& (3 : Int32))), .val (.int (p2 &&& (3 : Int32))), .val (.ref r_1), .val (.ref a_4), .val (.ref a_8), .val (.ref a_12), .unset, .unset] [(.ref b16)]
  refine Go.astore (pc' := 68) (Ls' := #[.val (.int p0), .val (.int p1), .val (.int p2), .val (.int p3), .val (.int (p0 &&& (3 : Int32))), .val (.int (p1 &&& (3 : Int32))), .val (.int (p2 &&& (3 : Int32))), .val (.ref r_1), .val (.ref a_4), .val (.ref a_8), .val (.ref a_12), .val (.ref b16), .unset]) at_66 rfl rfl rfl ?_
  refine Go.iloadN (pc' := 69) at_68 rfl rfl ?_
  refine Go.bipush (pc' := 71) (v := (8 : Int32)) at_69 rfl rfl ?_
  refine Go.iushr (pc' := 72) at_71 rfl ?_
  refine Go.iconst (pc' := 73) (v := (1 : Int32)) at_72 rfl rfl ?_
  refine Go.iand (pc' := 74) at_73 rfl ?_
  by_cases hc23 : ((XT.ushr p3 (8 : Int32)) &&& (1 : Int32)) = (0 : Int32)
  ·
    refine Go.ifYes (pc' := 101) at_74 (XT.i0_eq_t hc23) (by decide) (by decide) ?_
    refine Go.iload (pc' := 103) at_101 rfl rfl ?_
    by_cases hc24 : (p0 &&& (3 : Int32)) = (0 : Int32)
    ·
      refine Go.ifNo (pc' := 106) at_103 (XT.i0_ne_f hc24) rfl ?_
      refine Go.iload (pc' := 108) at_106 rfl rfl ?_
      by_cases hc25 : (p1 &&& (3 : Int32)) = (0 : Int32)
      ·
        refine Go.ifNo (pc' := 111) at_108 (XT.i0_ne_f hc25) rfl ?_
        refine Go.iload (pc' := 113) at_111 rfl rfl ?_
        by_cases hc26 : (p2 &&& (3 : Int32)) = (0 : Int32)
        ·
          refine Go.ifNo (pc' := 116) at_113 (XT.i0_ne_f hc26) rfl ?_
          refine Go.iconst (pc' := 117) (v := (1 : Int32)) at_116 rfl rfl ?_
          refine Go.goto (pc' := 121) at_117 (by decide) (by decide) ?_
          refine Go.istore (pc' := 123) (Ls' := #[.val (.int p0), .val (.int p1), .val (.int p2), .val (.int p3), .val (.int (p0 &&& (3 : Int32))), .val (.int (p1 &&& (3 : Int32))), .val (.int (p2 &&& (3 : Int32))), .val (.ref r_1), .val (.ref a_4), .val (.ref a_8), .val (.ref a_12), .val (.ref b16), .val (.int (1 : Int32))]) at_121 rfl rfl ?_
          refine Go.aload (pc' := 125) at_123 rfl rfl rfl ?_
          refine Go.callV (cells' := 24) (slots' := 131) (pc' := 128) [] [] (A16.keep K21) (ww hw 211 rfl) (ww hw 212 rfl) (fun s' hs' => notFace_of_selects (args := #[]) (mvT hs' (ww hw 214 rfl))) (ww hw 214 rfl) (ww hw 213 rfl) (ww hw 87 rfl) (ww hw 215 rfl) (by decide) (c_none l Z a0 hw h21 b16 r1_21 c1_21 kc1_21 h16.size ((p0 &&& (3 : Int32))) r2_21 c2_21 kc2_21 h16.size ((p1 &&& (3 : Int32))) r3_21 c3_21 kc3_21 h16.size ((p2 &&& (3 : Int32))) r_1 wL wLe kLe vsL sl xL fL vL F21_0 F21_1 F21_2 F21_3 F21_4 F21_5) pd_6 rfl rfl rfl rfl rfl (nl rfl) (nl rfl) (nl rfl) (nl rfl) at_125 rfl ?_
          rintro _ _ ⟨rfl, rfl⟩
          show Go _ _ _ _ _ _ _ _ _ _ _ _ 128 #[.val (.int p0), .val (.int p1), .val (.int p2), .val (.int p3), .val (.int (p0 &&& (3 : Int32))), .val (.int (p1 &&& (3 : Int32))), .val (.int (p2 &&& (3 : Int32))), .val (.ref r_1), .val (.ref a_4), .val (.ref a_8), .val (.ref a_12), .val (.ref b16), .val (.int (1 : Int32))] [(.int (if (p0 &&& (3 : Int32)) = (0 : Int32) ∧ (p1 &&& (3 : Int32)) = (0 : Int32) ∧ (p2 &&& (3 : Int32)) = (0 : Int32) then (1 : Int32) else 0))]
          refine Go.iload (pc' := 130) at_128 rfl rfl ?_
          refine Go.icmpNo (pc' := 133) at_130 (XT.ii_ne_f (by rw [if_pos ⟨hc24, hc25, hc26⟩] : (if (p0 &&& (3 : Int32)) = (0 : Int32) ∧ (p1 &&& (3 : Int32)) = (0 : Int32) ∧ (p2 &&& (3 : Int32)) = (0 : Int32) then (1 : Int32) else 0) = (1 : Int32))) rfl ?_
          refine Go.iconst (pc' := 134) (v := (1 : Int32)) at_133 rfl rfl ?_
          refine Go.goto (pc' := 138) at_134 (by decide) (by decide) ?_
          exact Go.retN (t := .boolean) rfl (by simp) at_138 ⟨rfl, K22⟩ (by decide) (by decide)
        ·
          refine Go.ifYes (pc' := 120) at_113 (XT.i0_ne_t hc26) (by decide) (by decide) ?_
          refine Go.iconst (pc' := 121) (v := (0 : Int32)) at_120 rfl rfl ?_
          refine Go.istore (pc' := 123) (Ls' := #[.val (.int p0), .val (.int p1), .val (.int p2), .val (.int p3), .val (.int (p0 &&& (3 : Int32))), .val (.int (p1 &&& (3 : Int32))), .val (.int (p2 &&& (3 : Int32))), .val (.ref r_1), .val (.ref a_4), .val (.ref a_8), .val (.ref a_12), .val (.ref b16), .val (.int (0 : Int32))]) at_121 rfl rfl ?_
          refine Go.aload (pc' := 125) at_123 rfl rfl rfl ?_
          refine Go.callV (cells' := 24) (slots' := 131) (pc' := 128) [] [] (A16.keep K21) (ww hw 211 rfl) (ww hw 212 rfl) (fun s' hs' => notFace_of_selects (args := #[]) (mvT hs' (ww hw 214 rfl))) (ww hw 214 rfl) (ww hw 213 rfl) (ww hw 87 rfl) (ww hw 215 rfl) (by decide) (c_none l Z a0 hw h21 b16 r1_21 c1_21 kc1_21 h16.size ((p0 &&& (3 : Int32))) r2_21 c2_21 kc2_21 h16.size ((p1 &&& (3 : Int32))) r3_21 c3_21 kc3_21 h16.size ((p2 &&& (3 : Int32))) r_1 wL wLe kLe vsL sl xL fL vL F21_0 F21_1 F21_2 F21_3 F21_4 F21_5) pd_6 rfl rfl rfl rfl rfl (nl rfl) (nl rfl) (nl rfl) (nl rfl) at_125 rfl ?_
          rintro _ _ ⟨rfl, rfl⟩
          show Go _ _ _ _ _ _ _ _ _ _ _ _ 128 #[.val (.int p0), .val (.int p1), .val (.int p2), .val (.int p3), .val (.int (p0 &&& (3 : Int32))), .val (.int (p1 &&& (3 : Int32))), .val (.int (p2 &&& (3 : Int32))), .val (.ref r_1), .val (.ref a_4), .val (.ref a_8), .val (.ref a_12), .val (.ref b16), .val (.int (0 : Int32))] [(.int (if (p0 &&& (3 : Int32)) = (0 : Int32) ∧ (p1 &&& (3 : Int32)) = (0 : Int32) ∧ (p2 &&& (3 : Int32)) = (0 : Int32) then (1 : Int32) else 0))]
          refine Go.iload (pc' := 130) at_128 rfl rfl ?_
          refine Go.icmpNo (pc' := 133) at_130 (XT.ii_ne_f (by rw [if_neg (fun z => hc26 z.2.2)] : (if (p0 &&& (3 : Int32)) = (0 : Int32) ∧ (p1 &&& (3 : Int32)) = (0 : Int32) ∧ (p2 &&& (3 : Int32)) = (0 : Int32) then (1 : Int32) else 0) = (0 : Int32))) rfl ?_
          refine Go.iconst (pc' := 134) (v := (1 : Int32)) at_133 rfl rfl ?_
          refine Go.goto (pc' := 138) at_134 (by decide) (by decide) ?_
          exact Go.retN (t := .boolean) rfl (by simp) at_138 ⟨rfl, K22⟩ (by decide) (by decide)
      ·
        refine Go.ifYes (pc' := 120) at_108 (XT.i0_ne_t hc25) (by decide) (by decide) ?_
        refine Go.iconst (pc' := 121) (v := (0 : Int32)) at_120 rfl rfl ?_
        refine Go.istore (pc' := 123) (Ls' := #[.val (.int p0), .val (.int p1), .val (.int p2), .val (.int p3), .val (.int (p0 &&& (3 : Int32))), .val (.int (p1 &&& (3 : Int32))), .val (.int (p2 &&& (3 : Int32))), .val (.ref r_1), .val (.ref a_4), .val (.ref a_8), .val (.ref a_12), .val (.ref b16), .val (.int (0 : Int32))]) at_121 rfl rfl ?_
        refine Go.aload (pc' := 125) at_123 rfl rfl rfl ?_
        refine Go.callV (cells' := 24) (slots' := 131) (pc' := 128) [] [] (A16.keep K21) (ww hw 211 rfl) (ww hw 212 rfl) (fun s' hs' => notFace_of_selects (args := #[]) (mvT hs' (ww hw 214 rfl))) (ww hw 214 rfl) (ww hw 213 rfl) (ww hw 87 rfl) (ww hw 215 rfl) (by decide) (c_none l Z a0 hw h21 b16 r1_21 c1_21 kc1_21 h16.size ((p0 &&& (3 : Int32))) r2_21 c2_21 kc2_21 h16.size ((p1 &&& (3 : Int32))) r3_21 c3_21 kc3_21 h16.size ((p2 &&& (3 : Int32))) r_1 wL wLe kLe vsL sl xL fL vL F21_0 F21_1 F21_2 F21_3 F21_4 F21_5) pd_6 rfl rfl rfl rfl rfl (nl rfl) (nl rfl) (nl rfl) (nl rfl) at_125 rfl ?_
        rintro _ _ ⟨rfl, rfl⟩
        show Go _ _ _ _ _ _ _ _ _ _ _ _ 128 #[.val (.int p0), .val (.int p1), .val (.int p2), .val (.int p3), .val (.int (p0 &&& (3 : Int32))), .val (.int (p1 &&& (3 : Int32))), .val (.int (p2 &&& (3 : Int32))), .val (.ref r_1), .val (.ref a_4), .val (.ref a_8), .val (.ref a_12), .val (.ref b16), .val (.int (0 : Int32))] [(.int (if (p0 &&& (3 : Int32)) = (0 : Int32) ∧ (p1 &&& (3 : Int32)) = (0 : Int32) ∧ (p2 &&& (3 : Int32)) = (0 : Int32) then (1 : Int32) else 0))]
        refine Go.iload (pc' := 130) at_128 rfl rfl ?_
        refine Go.icmpNo (pc' := 133) at_130 (XT.ii_ne_f (by rw [if_neg (fun z => hc25 z.2.1)] : (if (p0 &&& (3 : Int32)) = (0 : Int32) ∧ (p1 &&& (3 : Int32)) = (0 : Int32) ∧ (p2 &&& (3 : Int32)) = (0 : Int32) then (1 : Int32) else 0) = (0 : Int32))) rfl ?_
        refine Go.iconst (pc' := 134) (v := (1 : Int32)) at_133 rfl rfl ?_
        refine Go.goto (pc' := 138) at_134 (by decide) (by decide) ?_
        exact Go.retN (t := .boolean) rfl (by simp) at_138 ⟨rfl, K22⟩ (by decide) (by decide)
    ·
      refine Go.ifYes (pc' := 120) at_103 (XT.i0_ne_t hc24) (by decide) (by decide) ?_
      refine Go.iconst (pc' := 121) (v := (0 : Int32)) at_120 rfl rfl ?_
      refine Go.istore (pc' := 123) (Ls' := #[.val (.int p0), .val (.int p1), .val (.int p2), .val (.int p3), .val (.int (p0 &&& (3 : Int32))), .val (.int (p1 &&& (3 : Int32))), .val (.int (p2 &&& (3 : Int32))), .val (.ref r_1), .val (.ref a_4), .val (.ref a_8), .val (.ref a_12), .val (.ref b16), .val (.int (0 : Int32))]) at_121 rfl rfl ?_
      refine Go.aload (pc' := 125) at_123 rfl rfl rfl ?_
      refine Go.callV (cells' := 24) (slots' := 131) (pc' := 128) [] [] (A16.keep K21) (ww hw 211 rfl) (ww hw 212 rfl) (fun s' hs' => notFace_of_selects (args := #[]) (mvT hs' (ww hw 214 rfl))) (ww hw 214 rfl) (ww hw 213 rfl) (ww hw 87 rfl) (ww hw 215 rfl) (by decide) (c_none l Z a0 hw h21 b16 r1_21 c1_21 kc1_21 h16.size ((p0 &&& (3 : Int32))) r2_21 c2_21 kc2_21 h16.size ((p1 &&& (3 : Int32))) r3_21 c3_21 kc3_21 h16.size ((p2 &&& (3 : Int32))) r_1 wL wLe kLe vsL sl xL fL vL F21_0 F21_1 F21_2 F21_3 F21_4 F21_5) pd_6 rfl rfl rfl rfl rfl (nl rfl) (nl rfl) (nl rfl) (nl rfl) at_125 rfl ?_
      rintro _ _ ⟨rfl, rfl⟩
      show Go _ _ _ _ _ _ _ _ _ _ _ _ 128 #[.val (.int p0), .val (.int p1), .val (.int p2), .val (.int p3), .val (.int (p0 &&& (3 : Int32))), .val (.int (p1 &&& (3 : Int32))), .val (.int (p2 &&& (3 : Int32))), .val (.ref r_1), .val (.ref a_4), .val (.ref a_8), .val (.ref a_12), .val (.ref b16), .val (.int (0 : Int32))] [(.int (if (p0 &&& (3 : Int32)) = (0 : Int32) ∧ (p1 &&& (3 : Int32)) = (0 : Int32) ∧ (p2 &&& (3 : Int32)) = (0 : Int32) then (1 : Int32) else 0))]
      refine Go.iload (pc' := 130) at_128 rfl rfl ?_
      refine Go.icmpNo (pc' := 133) at_130 (XT.ii_ne_f (by rw [if_neg (fun z => hc24 z.1)] : (if (p0 &&& (3 : Int32)) = (0 : Int32) ∧ (p1 &&& (3 : Int32)) = (0 : Int32) ∧ (p2 &&& (3 : Int32)) = (0 : Int32) then (1 : Int32) else 0) = (0 : Int32))) rfl ?_
      refine Go.iconst (pc' := 134) (v := (1 : Int32)) at_133 rfl rfl ?_
      refine Go.goto (pc' := 138) at_134 (by decide) (by decide) ?_
      exact Go.retN (t := .boolean) rfl (by simp) at_138 ⟨rfl, K22⟩ (by decide) (by decide)
  ·
    refine Go.ifNo (pc' := 77) at_74 (XT.i0_eq_f hc23) rfl ?_
    refine Go.aload (pc' := 79) at_77 rfl rfl rfl ?_
    refine Go.aload (pc' := 81) at_79 rfl rfl rfl ?_
    have ne31 : a_4 ≠ b16 := (Nat.ne_of_lt (Nat.lt_of_lt_of_le ((F4_0.keep K8).keep K12).lt (Nat.le_of_eq g16.symm)))
    have ne32 : b_4 ≠ b16 := (Nat.ne_of_lt (Nat.lt_of_lt_of_le ((F4_1.keep K8 nin0 nin0).keep K12 nin0 nin0).lt1 (Nat.le_of_eq g16.symm)))
    have f33 : LSt Z h21 a_4 b_4 kb_4 wd r_1 (p0 &&& (3 : Int32)) := (f19.keep K21 (ninS ne31 nin0) (ninS ne32 nin0))
    have f34 : Exa Z h21 a_4 "java/util/ArrayList" := ((((F4_0.keep K8).keep K12).ext E16).keep K21)
    refine Go.callV (cells' := 25) (slots' := 141) (pc' := 84) [(.ref r_1)] [] f34 (ww hw 54 rfl) (ww hw 55 rfl) (fun s' hs' => notFace_of_selects (args := #[]) (mvT hs' (ww hw 57 rfl))) (ww hw 57 rfl) (ww hw 56 rfl) (ww hw 32 rfl) (ww hw 58 rfl) (by decide) (c_addU l Z a0 hw h21 a_4 r_1 b_4 kb_4 ((p0 &&& (3 : Int32))) wd kd vsd sd vd xd ge_a_4 ge_b_4 f33 (f20.keep K21)) pd_18 rfl rfl rfl rfl rfl (nl rfl) (nl rfl) (nl rfl) (nl rfl) at_81 rfl ?_
    rintro _ h35 ⟨rfl, K35⟩
    have K36 : Keep h h35 [] := K22.trans K35 (allS (Or.inr sz5) (allS (Or.inr sz6) all0))
    show Go _ _ _ _ _ _ _ _ _ _ _ _ 84 #[.val (.int p0), .val (.int p1), .val (.int p2), .val (.int p3), .val (.int (p0 &&& (3 : Int32))), .val (.int (p1 &&& (3 : Int32))), .val (.int (p2 &&& (3 : Int32))), .val (.ref r_1), .val (.ref a_4), .val (.ref a_8), .val (.ref a_12), .val (.ref b16), .unset] [(.int (1 : Int32))]
    refine Go.pop (pc' := 85) at_84 rfl rfl ?_
    refine Go.aload (pc' := 87) at_85 rfl rfl rfl ?_
    refine Go.aload (pc' := 89) at_87 rfl rfl rfl ?_
    have ne37 : a_8 ≠ b16 := (Nat.ne_of_lt (Nat.lt_of_lt_of_le (F8_0.keep K12).lt (Nat.le_of_eq g16.symm)))
    have ne38 : b_8 ≠ b16 := (Nat.ne_of_lt (Nat.lt_of_lt_of_le (F8_1.keep K12 nin0 nin0).lt1 (Nat.le_of_eq g16.symm)))
    have ne39 : b_4 ≠ a_8 := (Nat.ne_of_lt (Nat.lt_of_lt_of_le F4_1.lt1 sz_a_8))
    have ne40 : a_4 ≠ a_8 := (Nat.ne_of_lt (Nat.lt_of_lt_of_le F4_0.lt sz_a_8))
    have ne41 : b_4 ≠ b_8 := (Nat.ne_of_lt (Nat.lt_of_lt_of_le F4_1.lt1 sz_b_8))
    have ne42 : a_4 ≠ b_8 := (Nat.ne_of_lt (Nat.lt_of_lt_of_le F4_0.lt sz_b_8))
    have f43 : LSt Z h35 a_8 b_8 kb_8 wd r_1 (p1 &&& (3 : Int32)) := ((((F8_1.keep K12 nin0 nin0).ext E16).keep K21 (ninS ne37 nin0) (ninS ne38 nin0)).keep K35 (ninS (Ne.symm ne40) (ninS (Ne.symm ne39) nin0)) (ninS (Ne.symm ne42) (ninS (Ne.symm ne41) nin0)))
    have f44 : Exa Z h35 a_8 "java/util/ArrayList" := ((((F8_0.keep K12).ext E16).keep K21).keep K35)
    refine Go.callV (cells' := 26) (slots' := 151) (pc' := 92) [(.ref r_1)] [] f44 (ww hw 54 rfl) (ww hw 55 rfl) (fun s' hs' => notFace_of_selects (args := #[]) (mvT hs' (ww hw 57 rfl))) (ww hw 57 rfl) (ww hw 56 rfl) (ww hw 32 rfl) (ww hw 58 rfl) (by decide) (c_addU l Z a0 hw h35 a_8 r_1 b_8 kb_8 ((p1 &&& (3 : Int32))) wd kd vsd sd vd xd ge_a_8 ge_b_8 f43 (((f20.keep K21).keep K35))) pd_18 rfl rfl rfl rfl rfl (nl rfl) (nl rfl) (nl rfl) (nl rfl) at_89 rfl ?_
    rintro _ h45 ⟨rfl, K45⟩
    have K46 : Keep h h45 [] := K36.trans K45 (allS (Or.inr sz9) (allS (Or.inr sz10) all0))
    show Go _ _ _ _ _ _ _ _ _ _ _ _ 92 #[.val (.int p0), .val (.int p1), .val (.int p2), .val (.int p3), .val (.int (p0 &&& (3 : Int32))), .val (.int (p1 &&& (3 : Int32))), .val (.int (p2 &&& (3 : Int32))), .val (.ref r_1), .val (.ref a_4), .val (.ref a_8), .val (.ref a_12), .val (.ref b16), .unset] [(.int (1 : Int32))]
    refine Go.pop (pc' := 93) at_92 rfl rfl ?_
    refine Go.aload (pc' := 95) at_93 rfl rfl rfl ?_
    refine Go.aload (pc' := 97) at_95 rfl rfl rfl ?_
    have ne47 : a_12 ≠ b16 := (Nat.ne_of_lt (Nat.lt_of_lt_of_le F12_0.lt (Nat.le_of_eq g16.symm)))
    have ne48 : b_12 ≠ b16 := (Nat.ne_of_lt (Nat.lt_of_lt_of_le F12_1.lt1 (Nat.le_of_eq g16.symm)))
    have ne49 : b_4 ≠ a_12 := (Nat.ne_of_lt (Nat.lt_of_lt_of_le (F4_1.keep K8 nin0 nin0).lt1 sz_a_12))
    have ne50 : a_4 ≠ a_12 := (Nat.ne_of_lt (Nat.lt_of_lt_of_le (F4_0.keep K8).lt sz_a_12))
    have ne51 : b_4 ≠ b_12 := (Nat.ne_of_lt (Nat.lt_of_lt_of_le (F4_1.keep K8 nin0 nin0).lt1 sz_b_12))
    have ne52 : a_4 ≠ b_12 := (Nat.ne_of_lt (Nat.lt_of_lt_of_le (F4_0.keep K8).lt sz_b_12))
    have ne53 : b_8 ≠ a_12 := (Nat.ne_of_lt (Nat.lt_of_lt_of_le F8_1.lt1 sz_a_12))
    have ne54 : a_8 ≠ a_12 := (Nat.ne_of_lt (Nat.lt_of_lt_of_le F8_0.lt sz_a_12))
    have ne55 : b_8 ≠ b_12 := (Nat.ne_of_lt (Nat.lt_of_lt_of_le F8_1.lt1 sz_b_12))
    have ne56 : a_8 ≠ b_12 := (Nat.ne_of_lt (Nat.lt_of_lt_of_le F8_0.lt sz_b_12))
    have f57 : LSt Z h45 a_12 b_12 kb_12 wd r_1 (p2 &&& (3 : Int32)) := ((((F12_1.ext E16).keep K21 (ninS ne47 nin0) (ninS ne48 nin0)).keep K35 (ninS (Ne.symm ne50) (ninS (Ne.symm ne49) nin0)) (ninS (Ne.symm ne52) (ninS (Ne.symm ne51) nin0))).keep K45 (ninS (Ne.symm ne54) (ninS (Ne.symm ne53) nin0)) (ninS (Ne.symm ne56) (ninS (Ne.symm ne55) nin0)))
    have f58 : Exa Z h45 a_12 "java/util/ArrayList" := ((((F12_0.ext E16).keep K21).keep K35).keep K45)
    refine Go.callV (cells' := 27) (slots' := 161) (pc' := 100) [(.ref r_1)] [] f58 (ww hw 54 rfl) (ww hw 55 rfl) (fun s' hs' => notFace_of_selects (args := #[]) (mvT hs' (ww hw 57 rfl))) (ww hw 57 rfl) (ww hw 56 rfl) (ww hw 32 rfl) (ww hw 58 rfl) (by decide) (c_addU l Z a0 hw h45 a_12 r_1 b_12 kb_12 ((p2 &&& (3 : Int32))) wd kd vsd sd vd xd ge_a_12 ge_b_12 f57 ((((f20.keep K21).keep K35).keep K45))) pd_18 rfl rfl rfl rfl rfl (nl rfl) (nl rfl) (nl rfl) (nl rfl) at_97 rfl ?_
    rintro _ h59 ⟨rfl, K59⟩
    have K60 : Keep h h59 [] := K46.trans K59 (allS (Or.inr sz13) (allS (Or.inr sz14) all0))
    show Go _ _ _ _ _ _ _ _ _ _ _ _ 100 #[.val (.int p0), .val (.int p1), .val (.int p2), .val (.int p3), .val (.int (p0 &&& (3 : Int32))), .val (.int (p1 &&& (3 : Int32))), .val (.int (p2 &&& (3 : Int32))), .val (.ref r_1), .val (.ref a_4), .val (.ref a_8), .val (.ref a_12), .val (.ref b16), .unset] [(.int (1 : Int32))]
    refine Go.pop (pc' := 101) at_100 rfl rfl ?_
    refine Go.iload (pc' := 103) at_101 rfl rfl ?_
    by_cases hc61 : (p0 &&& (3 : Int32)) = (0 : Int32)
    ·
      refine Go.ifNo (pc' := 106) at_103 (XT.i0_ne_f hc61) rfl ?_
      refine Go.iload (pc' := 108) at_106 rfl rfl ?_
      by_cases hc62 : (p1 &&& (3 : Int32)) = (0 : Int32)
      ·
        refine Go.ifNo (pc' := 111) at_108 (XT.i0_ne_f hc62) rfl ?_
        refine Go.iload (pc' := 113) at_111 rfl rfl ?_
        by_cases hc63 : (p2 &&& (3 : Int32)) = (0 : Int32)
        ·
          refine Go.ifNo (pc' := 116) at_113 (XT.i0_ne_f hc63) rfl ?_
          refine Go.iconst (pc' := 117) (v := (1 : Int32)) at_116 rfl rfl ?_
          refine Go.goto (pc' := 121) at_117 (by decide) (by decide) ?_
          refine Go.istore (pc' := 123) (Ls' := #[.val (.int p0), .val (.int p1), .val (.int p2), .val (.int p3), .val (.int (p0 &&& (3 : Int32))), .val (.int (p1 &&& (3 : Int32))), .val (.int (p2 &&& (3 : Int32))), .val (.ref r_1), .val (.ref a_4), .val (.ref a_8), .val (.ref a_12), .val (.ref b16), .val (.int (1 : Int32))]) at_121 rfl rfl ?_
          refine Go.aload (pc' := 125) at_123 rfl rfl rfl ?_
          have f64 : Fld Z h59 b16 "com/example/aligned_index/alignedindex/inspect/Differences" "missing" "Ljava/util/List;" (.ref r1_21) := (((F21_0.keep K35 (ninS (Ne.symm ne31) (ninS (Ne.symm ne32) nin0))).keep K45 (ninS (Ne.symm ne37) (ninS (Ne.symm ne38) nin0))).keep K59 (ninS (Ne.symm ne47) (ninS (Ne.symm ne48) nin0)))
          have f65 : Fld Z h59 b16 "com/example/aligned_index/alignedindex/inspect/Differences" "extra" "Ljava/util/List;" (.ref r2_21) := (((F21_1.keep K35 (ninS (Ne.symm ne31) (ninS (Ne.symm ne32) nin0))).keep K45 (ninS (Ne.symm ne37) (ninS (Ne.symm ne38) nin0))).keep K59 (ninS (Ne.symm ne47) (ninS (Ne.symm ne48) nin0)))
          have f66 : Fld Z h59 b16 "com/example/aligned_index/alignedindex/inspect/Differences" "stale" "Ljava/util/List;" (.ref r3_21) := (((F21_2.keep K35 (ninS (Ne.symm ne31) (ninS (Ne.symm ne32) nin0))).keep K45 (ninS (Ne.symm ne37) (ninS (Ne.symm ne38) nin0))).keep K59 (ninS (Ne.symm ne47) (ninS (Ne.symm ne48) nin0)))
          have f67 : IMl Z h59 r1_21 c1_21 kc1_21 h16.size wL r_1 (p0 &&& (3 : Int32)) := (((F21_3.keep K35 (allS (((F4_0.keep K8).keep K12).ext E16).lt (allS f19.lt1 all0))).keep K45 (allS ((F8_0.keep K12).ext E16).lt (allS ((F8_1.keep K12 nin0 nin0).ext E16).lt1 all0))).keep K59 (allS (F12_0.ext E16).lt (allS (F12_1.ext E16).lt1 all0)))
          have f68 : IMl Z h59 r2_21 c2_21 kc2_21 h16.size wL r_1 (p1 &&& (3 : Int32)) := (((F21_4.keep K35 (allS (((F4_0.keep K8).keep K12).ext E16).lt (allS f19.lt1 all0))).keep K45 (allS ((F8_0.keep K12).ext E16).lt (allS ((F8_1.keep K12 nin0 nin0).ext E16).lt1 all0))).keep K59 (allS (F12_0.ext E16).lt (allS (F12_1.ext E16).lt1 all0)))
          have f69 : IMl Z h59 r3_21 c3_21 kc3_21 h16.size wL r_1 (p2 &&& (3 : Int32)) := (((F21_5.keep K35 (allS (((F4_0.keep K8).keep K12).ext E16).lt (allS f19.lt1 all0))).keep K45 (allS ((F8_0.keep K12).ext E16).lt (allS ((F8_1.keep K12 nin0 nin0).ext E16).lt1 all0))).keep K59 (allS (F12_0.ext E16).lt (allS (F12_1.ext E16).lt1 all0)))
          have f70 : Exa Z h59 b16 "com/example/aligned_index/alignedindex/inspect/Differences" := ((((A16.keep K21).keep K35).keep K45).keep K59)
          refine Go.callV (cells' := 27) (slots' := 161) (pc' := 128) [] [] f70 (ww hw 211 rfl) (ww hw 212 rfl) (fun s' hs' => notFace_of_selects (args := #[]) (mvT hs' (ww hw 214 rfl))) (ww hw 214 rfl) (ww hw 213 rfl) (ww hw 87 rfl) (ww hw 215 rfl) (by decide) (c_none l Z a0 hw h59 b16 r1_21 c1_21 kc1_21 h16.size ((p0 &&& (3 : Int32))) r2_21 c2_21 kc2_21 h16.size ((p1 &&& (3 : Int32))) r3_21 c3_21 kc3_21 h16.size ((p2 &&& (3 : Int32))) r_1 wL wLe kLe vsL sl xL fL vL f64 f65 f66 f67 f68 f69) pd_6 rfl rfl rfl rfl rfl (nl rfl) (nl rfl) (nl rfl) (nl rfl) at_125 rfl ?_
          rintro _ _ ⟨rfl, rfl⟩
          show Go _ _ _ _ _ _ _ _ _ _ _ _ 128 #[.val (.int p0), .val (.int p1), .val (.int p2), .val (.int p3), .val (.int (p0 &&& (3 : Int32))), .val (.int (p1 &&& (3 : Int32))), .val (.int (p2 &&& (3 : Int32))), .val (.ref r_1), .val (.ref a_4), .val (.ref a_8), .val (.ref a_12), .val (.ref b16), .val (.int (1 : Int32))] [(.int (if (p0 &&& (3 : Int32)) = (0 : Int32) ∧ (p1 &&& (3 : Int32)) = (0 : Int32) ∧ (p2 &&& (3 : Int32)) = (0 : Int32) then (1 : Int32) else 0))]
          refine Go.iload (pc' := 130) at_128 rfl rfl ?_
          refine Go.icmpNo (pc' := 133) at_130 (XT.ii_ne_f (by rw [if_pos ⟨hc61, hc62, hc63⟩] : (if (p0 &&& (3 : Int32)) = (0 : Int32) ∧ (p1 &&& (3 : Int32)) = (0 : Int32) ∧ (p2 &&& (3 : Int32)) = (0 : Int32) then (1 : Int32) else 0) = (1 : Int32))) rfl ?_
          refine Go.iconst (pc' := 134) (v := (1 : Int32)) at_133 rfl rfl ?_
          refine Go.goto (pc' := 138) at_134 (by decide) (by decide) ?_
          exact Go.retN (t := .boolean) rfl (by simp) at_138 ⟨rfl, K60⟩ (by decide) (by decide)
        ·
          refine Go.ifYes (pc' := 120) at_113 (XT.i0_ne_t hc63) (by decide) (by decide) ?_
          refine Go.iconst (pc' := 121) (v := (0 : Int32)) at_120 rfl rfl ?_
          refine Go.istore (pc' := 123) (Ls' := #[.val (.int p0), .val (.int p1), .val (.int p2), .val (.int p3), .val (.int (p0 &&& (3 : Int32))), .val (.int (p1 &&& (3 : Int32))), .val (.int (p2 &&& (3 : Int32))), .val (.ref r_1), .val (.ref a_4), .val (.ref a_8), .val (.ref a_12), .val (.ref b16), .val (.int (0 : Int32))]) at_121 rfl rfl ?_
          refine Go.aload (pc' := 125) at_123 rfl rfl rfl ?_
          have f72 : Fld Z h59 b16 "com/example/aligned_index/alignedindex/inspect/Differences" "missing" "Ljava/util/List;" (.ref r1_21) := (((F21_0.keep K35 (ninS (Ne.symm ne31) (ninS (Ne.symm ne32) nin0))).keep K45 (ninS (Ne.symm ne37) (ninS (Ne.symm ne38) nin0))).keep K59 (ninS (Ne.symm ne47) (ninS (Ne.symm ne48) nin0)))
          have f73 : Fld Z h59 b16 "com/example/aligned_index/alignedindex/inspect/Differences" "extra" "Ljava/util/List;" (.ref r2_21) := (((F21_1.keep K35 (ninS (Ne.symm ne31) (ninS (Ne.symm ne32) nin0))).keep K45 (ninS (Ne.symm ne37) (ninS (Ne.symm ne38) nin0))).keep K59 (ninS (Ne.symm ne47) (ninS (Ne.symm ne48) nin0)))
          have f74 : Fld Z h59 b16 "com/example/aligned_index/alignedindex/inspect/Differences" "stale" "Ljava/util/List;" (.ref r3_21) := (((F21_2.keep K35 (ninS (Ne.symm ne31) (ninS (Ne.symm ne32) nin0))).keep K45 (ninS (Ne.symm ne37) (ninS (Ne.symm ne38) nin0))).keep K59 (ninS (Ne.symm ne47) (ninS (Ne.symm ne48) nin0)))
          have f75 : IMl Z h59 r1_21 c1_21 kc1_21 h16.size wL r_1 (p0 &&& (3 : Int32)) := (((F21_3.keep K35 (allS (((F4_0.keep K8).keep K12).ext E16).lt (allS f19.lt1 all0))).keep K45 (allS ((F8_0.keep K12).ext E16).lt (allS ((F8_1.keep K12 nin0 nin0).ext E16).lt1 all0))).keep K59 (allS (F12_0.ext E16).lt (allS (F12_1.ext E16).lt1 all0)))
          have f76 : IMl Z h59 r2_21 c2_21 kc2_21 h16.size wL r_1 (p1 &&& (3 : Int32)) := (((F21_4.keep K35 (allS (((F4_0.keep K8).keep K12).ext E16).lt (allS f19.lt1 all0))).keep K45 (allS ((F8_0.keep K12).ext E16).lt (allS ((F8_1.keep K12 nin0 nin0).ext E16).lt1 all0))).keep K59 (allS (F12_0.ext E16).lt (allS (F12_1.ext E16).lt1 all0)))
          have f77 : IMl Z h59 r3_21 c3_21 kc3_21 h16.size wL r_1 (p2 &&& (3 : Int32)) := (((F21_5.keep K35 (allS (((F4_0.keep K8).keep K12).ext E16).lt (allS f19.lt1 all0))).keep K45 (allS ((F8_0.keep K12).ext E16).lt (allS ((F8_1.keep K12 nin0 nin0).ext E16).lt1 all0))).keep K59 (allS (F12_0.ext E16).lt (allS (F12_1.ext E16).lt1 all0)))
          have f78 : Exa Z h59 b16 "com/example/aligned_index/alignedindex/inspect/Differences" := ((((A16.keep K21).keep K35).keep K45).keep K59)
          refine Go.callV (cells' := 27) (slots' := 161) (pc' := 128) [] [] f78 (ww hw 211 rfl) (ww hw 212 rfl) (fun s' hs' => notFace_of_selects (args := #[]) (mvT hs' (ww hw 214 rfl))) (ww hw 214 rfl) (ww hw 213 rfl) (ww hw 87 rfl) (ww hw 215 rfl) (by decide) (c_none l Z a0 hw h59 b16 r1_21 c1_21 kc1_21 h16.size ((p0 &&& (3 : Int32))) r2_21 c2_21 kc2_21 h16.size ((p1 &&& (3 : Int32))) r3_21 c3_21 kc3_21 h16.size ((p2 &&& (3 : Int32))) r_1 wL wLe kLe vsL sl xL fL vL f72 f73 f74 f75 f76 f77) pd_6 rfl rfl rfl rfl rfl (nl rfl) (nl rfl) (nl rfl) (nl rfl) at_125 rfl ?_
          rintro _ _ ⟨rfl, rfl⟩
          show Go _ _ _ _ _ _ _ _ _ _ _ _ 128 #[.val (.int p0), .val (.int p1), .val (.int p2), .val (.int p3), .val (.int (p0 &&& (3 : Int32))), .val (.int (p1 &&& (3 : Int32))), .val (.int (p2 &&& (3 : Int32))), .val (.ref r_1), .val (.ref a_4), .val (.ref a_8), .val (.ref a_12), .val (.ref b16), .val (.int (0 : Int32))] [(.int (if (p0 &&& (3 : Int32)) = (0 : Int32) ∧ (p1 &&& (3 : Int32)) = (0 : Int32) ∧ (p2 &&& (3 : Int32)) = (0 : Int32) then (1 : Int32) else 0))]
          refine Go.iload (pc' := 130) at_128 rfl rfl ?_
          refine Go.icmpNo (pc' := 133) at_130 (XT.ii_ne_f (by rw [if_neg (fun z => hc63 z.2.2)] : (if (p0 &&& (3 : Int32)) = (0 : Int32) ∧ (p1 &&& (3 : Int32)) = (0 : Int32) ∧ (p2 &&& (3 : Int32)) = (0 : Int32) then (1 : Int32) else 0) = (0 : Int32))) rfl ?_
          refine Go.iconst (pc' := 134) (v := (1 : Int32)) at_133 rfl rfl ?_
          refine Go.goto (pc' := 138) at_134 (by decide) (by decide) ?_
          exact Go.retN (t := .boolean) rfl (by simp) at_138 ⟨rfl, K60⟩ (by decide) (by decide)
      ·
        refine Go.ifYes (pc' := 120) at_108 (XT.i0_ne_t hc62) (by decide) (by decide) ?_
        refine Go.iconst (pc' := 121) (v := (0 : Int32)) at_120 rfl rfl ?_
        refine Go.istore (pc' := 123) (Ls' := #[.val (.int p0), .val (.int p1), .val (.int p2), .val (.int p3), .val (.int (p0 &&& (3 : Int32))), .val (.int (p1 &&& (3 : Int32))), .val (.int (p2 &&& (3 : Int32))), .val (.ref r_1), .val (.ref a_4), .val (.ref a_8), .val (.ref a_12), .val (.ref b16), .val (.int (0 : Int32))]) at_121 rfl rfl ?_
        refine Go.aload (pc' := 125) at_123 rfl rfl rfl ?_
        have f80 : Fld Z h59 b16 "com/example/aligned_index/alignedindex/inspect/Differences" "missing" "Ljava/util/List;" (.ref r1_21) := (((F21_0.keep K35 (ninS (Ne.symm ne31) (ninS (Ne.symm ne32) nin0))).keep K45 (ninS (Ne.symm ne37) (ninS (Ne.symm ne38) nin0))).keep K59 (ninS (Ne.symm ne47) (ninS (Ne.symm ne48) nin0)))
        have f81 : Fld Z h59 b16 "com/example/aligned_index/alignedindex/inspect/Differences" "extra" "Ljava/util/List;" (.ref r2_21) := (((F21_1.keep K35 (ninS (Ne.symm ne31) (ninS (Ne.symm ne32) nin0))).keep K45 (ninS (Ne.symm ne37) (ninS (Ne.symm ne38) nin0))).keep K59 (ninS (Ne.symm ne47) (ninS (Ne.symm ne48) nin0)))
        have f82 : Fld Z h59 b16 "com/example/aligned_index/alignedindex/inspect/Differences" "stale" "Ljava/util/List;" (.ref r3_21) := (((F21_2.keep K35 (ninS (Ne.symm ne31) (ninS (Ne.symm ne32) nin0))).keep K45 (ninS (Ne.symm ne37) (ninS (Ne.symm ne38) nin0))).keep K59 (ninS (Ne.symm ne47) (ninS (Ne.symm ne48) nin0)))
        have f83 : IMl Z h59 r1_21 c1_21 kc1_21 h16.size wL r_1 (p0 &&& (3 : Int32)) := (((F21_3.keep K35 (allS (((F4_0.keep K8).keep K12).ext E16).lt (allS f19.lt1 all0))).keep K45 (allS ((F8_0.keep K12).ext E16).lt (allS ((F8_1.keep K12 nin0 nin0).ext E16).lt1 all0))).keep K59 (allS (F12_0.ext E16).lt (allS (F12_1.ext E16).lt1 all0)))
        have f84 : IMl Z h59 r2_21 c2_21 kc2_21 h16.size wL r_1 (p1 &&& (3 : Int32)) := (((F21_4.keep K35 (allS (((F4_0.keep K8).keep K12).ext E16).lt (allS f19.lt1 all0))).keep K45 (allS ((F8_0.keep K12).ext E16).lt (allS ((F8_1.keep K12 nin0 nin0).ext E16).lt1 all0))).keep K59 (allS (F12_0.ext E16).lt (allS (F12_1.ext E16).lt1 all0)))
        have f85 : IMl Z h59 r3_21 c3_21 kc3_21 h16.size wL r_1 (p2 &&& (3 : Int32)) := (((F21_5.keep K35 (allS (((F4_0.keep K8).keep K12).ext E16).lt (allS f19.lt1 all0))).keep K45 (allS ((F8_0.keep K12).ext E16).lt (allS ((F8_1.keep K12 nin0 nin0).ext E16).lt1 all0))).keep K59 (allS (F12_0.ext E16).lt (allS (F12_1.ext E16).lt1 all0)))
        have f86 : Exa Z h59 b16 "com/example/aligned_index/alignedindex/inspect/Differences" := ((((A16.keep K21).keep K35).keep K45).keep K59)
        refine Go.callV (cells' := 27) (slots' := 161) (pc' := 128) [] [] f86 (ww hw 211 rfl) (ww hw 212 rfl) (fun s' hs' => notFace_of_selects (args := #[]) (mvT hs' (ww hw 214 rfl))) (ww hw 214 rfl) (ww hw 213 rfl) (ww hw 87 rfl) (ww hw 215 rfl) (by decide) (c_none l Z a0 hw h59 b16 r1_21 c1_21 kc1_21 h16.size ((p0 &&& (3 : Int32))) r2_21 c2_21 kc2_21 h16.size ((p1 &&& (3 : Int32))) r3_21 c3_21 kc3_21 h16.size ((p2 &&& (3 : Int32))) r_1 wL wLe kLe vsL sl xL fL vL f80 f81 f82 f83 f84 f85) pd_6 rfl rfl rfl rfl rfl (nl rfl) (nl rfl) (nl rfl) (nl rfl) at_125 rfl ?_
        rintro _ _ ⟨rfl, rfl⟩
        show Go _ _ _ _ _ _ _ _ _ _ _ _ 128 #[.val (.int p0), .val (.int p1), .val (.int p2), .val (.int p3), .val (.int (p0 &&& (3 : Int32))), .val (.int (p1 &&& (3 : Int32))), .val (.int (p2 &&& (3 : Int32))), .val (.ref r_1), .val (.ref a_4), .val (.ref a_8), .val (.ref a_12), .val (.ref b16), .val (.int (0 : Int32))] [(.int (if (p0 &&& (3 : Int32)) = (0 : Int32) ∧ (p1 &&& (3 : Int32)) = (0 : Int32) ∧ (p2 &&& (3 : Int32)) = (0 : Int32) then (1 : Int32) else 0))]
        refine Go.iload (pc' := 130) at_128 rfl rfl ?_
        refine Go.icmpNo (pc' := 133) at_130 (XT.ii_ne_f (by rw [if_neg (fun z => hc62 z.2.1)] : (if (p0 &&& (3 : Int32)) = (0 : Int32) ∧ (p1 &&& (3 : Int32)) = (0 : Int32) ∧ (p2 &&& (3 : Int32)) = (0 : Int32) then (1 : Int32) else 0) = (0 : Int32))) rfl ?_
        refine Go.iconst (pc' := 134) (v := (1 : Int32)) at_133 rfl rfl ?_
        refine Go.goto (pc' := 138) at_134 (by decide) (by decide) ?_
        exact Go.retN (t := .boolean) rfl (by simp) at_138 ⟨rfl, K60⟩ (by decide) (by decide)
    ·
      refine Go.ifYes (pc' := 120) at_103 (XT.i0_ne_t hc61) (by decide) (by decide) ?_
      refine Go.iconst (pc' := 121) (v := (0 : Int32)) at_120 rfl rfl ?_
      refine Go.istore (pc' := 123) (Ls' := #[.val (.int p0), .val (.int p1), .val (.int p2), .val (.int p3), .val (.int (p0 &&& (3 : Int32))), .val (.int (p1 &&& (3 : Int32))), .val (.int (p2 &&& (3 : Int32))), .val (.ref r_1), .val (.ref a_4), .val (.ref a_8), .val (.ref a_12), .val (.ref b16), .val (.int (0 : Int32))]) at_121 rfl rfl ?_
      refine Go.aload (pc' := 125) at_123 rfl rfl rfl ?_
      have f88 : Fld Z h59 b16 "com/example/aligned_index/alignedindex/inspect/Differences" "missing" "Ljava/util/List;" (.ref r1_21) := (((F21_0.keep K35 (ninS (Ne.symm ne31) (ninS (Ne.symm ne32) nin0))).keep K45 (ninS (Ne.symm ne37) (ninS (Ne.symm ne38) nin0))).keep K59 (ninS (Ne.symm ne47) (ninS (Ne.symm ne48) nin0)))
      have f89 : Fld Z h59 b16 "com/example/aligned_index/alignedindex/inspect/Differences" "extra" "Ljava/util/List;" (.ref r2_21) := (((F21_1.keep K35 (ninS (Ne.symm ne31) (ninS (Ne.symm ne32) nin0))).keep K45 (ninS (Ne.symm ne37) (ninS (Ne.symm ne38) nin0))).keep K59 (ninS (Ne.symm ne47) (ninS (Ne.symm ne48) nin0)))
      have f90 : Fld Z h59 b16 "com/example/aligned_index/alignedindex/inspect/Differences" "stale" "Ljava/util/List;" (.ref r3_21) := (((F21_2.keep K35 (ninS (Ne.symm ne31) (ninS (Ne.symm ne32) nin0))).keep K45 (ninS (Ne.symm ne37) (ninS (Ne.symm ne38) nin0))).keep K59 (ninS (Ne.symm ne47) (ninS (Ne.symm ne48) nin0)))
      have f91 : IMl Z h59 r1_21 c1_21 kc1_21 h16.size wL r_1 (p0 &&& (3 : Int32)) := (((F21_3.keep K35 (allS (((F4_0.keep K8).keep K12).ext E16).lt (allS f19.lt1 all0))).keep K45 (allS ((F8_0.keep K12).ext E16).lt (allS ((F8_1.keep K12 nin0 nin0).ext E16).lt1 all0))).keep K59 (allS (F12_0.ext E16).lt (allS (F12_1.ext E16).lt1 all0)))
      have f92 : IMl Z h59 r2_21 c2_21 kc2_21 h16.size wL r_1 (p1 &&& (3 : Int32)) := (((F21_4.keep K35 (allS (((F4_0.keep K8).keep K12).ext E16).lt (allS f19.lt1 all0))).keep K45 (allS ((F8_0.keep K12).ext E16).lt (allS ((F8_1.keep K12 nin0 nin0).ext E16).lt1 all0))).keep K59 (allS (F12_0.ext E16).lt (allS (F12_1.ext E16).lt1 all0)))
      have f93 : IMl Z h59 r3_21 c3_21 kc3_21 h16.size wL r_1 (p2 &&& (3 : Int32)) := (((F21_5.keep K35 (allS (((F4_0.keep K8).keep K12).ext E16).lt (allS f19.lt1 all0))).keep K45 (allS ((F8_0.keep K12).ext E16).lt (allS ((F8_1.keep K12 nin0 nin0).ext E16).lt1 all0))).keep K59 (allS (F12_0.ext E16).lt (allS (F12_1.ext E16).lt1 all0)))
      have f94 : Exa Z h59 b16 "com/example/aligned_index/alignedindex/inspect/Differences" := ((((A16.keep K21).keep K35).keep K45).keep K59)
      refine Go.callV (cells' := 27) (slots' := 161) (pc' := 128) [] [] f94 (ww hw 211 rfl) (ww hw 212 rfl) (fun s' hs' => notFace_of_selects (args := #[]) (mvT hs' (ww hw 214 rfl))) (ww hw 214 rfl) (ww hw 213 rfl) (ww hw 87 rfl) (ww hw 215 rfl) (by decide) (c_none l Z a0 hw h59 b16 r1_21 c1_21 kc1_21 h16.size ((p0 &&& (3 : Int32))) r2_21 c2_21 kc2_21 h16.size ((p1 &&& (3 : Int32))) r3_21 c3_21 kc3_21 h16.size ((p2 &&& (3 : Int32))) r_1 wL wLe kLe vsL sl xL fL vL f88 f89 f90 f91 f92 f93) pd_6 rfl rfl rfl rfl rfl (nl rfl) (nl rfl) (nl rfl) (nl rfl) at_125 rfl ?_
      rintro _ _ ⟨rfl, rfl⟩
      show Go _ _ _ _ _ _ _ _ _ _ _ _ 128 #[.val (.int p0), .val (.int p1), .val (.int p2), .val (.int p3), .val (.int (p0 &&& (3 : Int32))), .val (.int (p1 &&& (3 : Int32))), .val (.int (p2 &&& (3 : Int32))), .val (.ref r_1), .val (.ref a_4), .val (.ref a_8), .val (.ref a_12), .val (.ref b16), .val (.int (0 : Int32))] [(.int (if (p0 &&& (3 : Int32)) = (0 : Int32) ∧ (p1 &&& (3 : Int32)) = (0 : Int32) ∧ (p2 &&& (3 : Int32)) = (0 : Int32) then (1 : Int32) else 0))]
      refine Go.iload (pc' := 130) at_128 rfl rfl ?_
      refine Go.icmpNo (pc' := 133) at_130 (XT.ii_ne_f (by rw [if_neg (fun z => hc61 z.1)] : (if (p0 &&& (3 : Int32)) = (0 : Int32) ∧ (p1 &&& (3 : Int32)) = (0 : Int32) ∧ (p2 &&& (3 : Int32)) = (0 : Int32) then (1 : Int32) else 0) = (0 : Int32))) rfl ?_
      refine Go.iconst (pc' := 134) (v := (1 : Int32)) at_133 rfl rfl ?_
      refine Go.goto (pc' := 138) at_134 (by decide) (by decide) ?_
      exact Go.retN (t := .boolean) rfl (by simp) at_138 ⟨rfl, K60⟩ (by decide) (by decide)
set_option maxRecDepth 65536 in
set_option maxHeartbeats 4000000 in
theorem comes_1 {Post : Tables → Env → Array Value → State → Outcome → State → Prop} (hpost : ∀ tb e args s v u, (limb_1_1.after args s (.returned v) u = true ∧ limb_1_2.after args s (.returned v) u = true ∧ True) → FrameEnd s (.returned v) u (Jvm.fieldLocs frame_1_writes args s ++ Jvm.arrayLocs frame_1_arrays args s ++ Jvm.staticLocs frame_1_statics s) 48 256 → Post tb e args s (.returned v) u) :
    ArmFor flags0 classFile x code maxLocals ret World_1 tables_1 room_1 Calls_1 rest_1 Pre_1 Post := by
  intro l hfl _ _ p e ha hc hk s m args below hf hA hF happ hP
  obtain ⟨hcalls, hrest, hpre⟩ := hP
  obtain ⟨-, -, -, hnamed, -, -, -, hat⟩ := (Spec.applies_iff hf).mp happ
  obtain ⟨hg, hn⟩ := and_e (Cond.before_iff.mp (show (Jvm.Cond.and given_1 narrow_1).before args s = true from hpre))
  obtain ⟨g1, g2⟩ := and_e hg
  obtain ⟨g3, g4⟩ := and_e g2
  obtain ⟨g5, g6⟩ := and_e g4
  obtain ⟨g7, g8⟩ := and_e g6
  obtain ⟨w0, w1, w2, w3, rfl⟩ : ∃ w0 w1 w2 w3 : Value, args = #[w0, w1, w2, w3] := by
    have hs : args.size = 4 := by simpa [Cond.value, given_1] using g1
    obtain ⟨L⟩ := args
    match L, hs with
    | [w0, w1, w2, w3], _ => exact ⟨w0, w1, w2, w3, rfl⟩
  have hw := fun d (hd : d ∈ tables_1) => atoms_spec (ws := Jvm.Cond.code x code maxLocals ret :: tables_1) hat d (List.mem_cons_of_mem _ hd)
  have hfit : Fit s := fun {y c} hc i hi => by
    obtain ⟨ha, rfl⟩ := Array.getElem?_eq_some_iff.mp hc
    have q := List.all_eq_true.mp ((Array.all_eq_true_iff_forall_mem.mp hF) _ (Array.getElem_mem ha)) i (List.mem_range.mpr hi)
    simpa [Array.getElem?_eq_getElem hi] using q
  obtain ⟨hsets, hown0⟩ := atoms_of _ (rest_1_c_eq ▸ (show rest_1_c.before _ s = true from hrest))
  have hr0 := Cond.before_iff.mp hown0
  obtain ⟨i0, ei0⟩ := is_v g3
  obtain rfl : w0 = (.int i0) := Option.some.inj ei0
  obtain ⟨i1, ei1⟩ := is_v g5
  obtain rfl : w1 = (.int i1) := Option.some.inj ei1
  obtain ⟨i2, ei2⟩ := is_v g7
  obtain rfl : w2 = (.int i2) := Option.some.inj ei2
  obtain ⟨i3, ei3⟩ := is_v g8
  obtain rfl : w3 = (.int i3) := Option.some.inj ei3
  obtain ⟨wd, ev_wd⟩ := arr_v (Cond.before_iff.mp (hsets _ (List.mem_of_getElem? (i := 15) rfl)))
  obtain ⟨cd, A_wd, hs1_wd, hs2_wd⟩ := own_arr ev_wd (Cond.before_iff.mp (hsets _ (List.mem_of_getElem? (i := 15) rfl))) (own_eqI (Cond.before_iff.mp (hsets _ (List.mem_of_getElem? (i := 17) rfl))))
  have sta_wd := Sta.start ev_wd (Or.inr ⟨(ww hw 32 rfl), (hsets _ (List.mem_of_getElem? (i := 11) rfl))⟩)
  have arv_wd := own_arvAny (dv := .null) hfit A_wd hs1_wd hs2_wd (by decide)
  have exa_wd := Exa.start ev_wd (Cond.before_iff.mp (hsets _ (List.mem_of_getElem? (i := 16) rfl)))
  obtain ⟨wE, ev_wE⟩ := exa_v (Cond.before_iff.mp (hsets _ (List.mem_of_getElem? (i := 27) rfl)))
  have exa_wE := Exa.start ev_wE (Cond.before_iff.mp (hsets _ (List.mem_of_getElem? (i := 27) rfl)))
  have sta_wE := Sta.start ev_wE (Or.inl (hsets _ (List.mem_of_getElem? (i := 26) rfl)))
  obtain ⟨wL, ev_wL⟩ := exa_v (Cond.before_iff.mp (hsets _ (List.mem_of_getElem? (i := 20) rfl)))
  have exa_wL := Exa.start ev_wL (Cond.before_iff.mp (hsets _ (List.mem_of_getElem? (i := 20) rfl)))
  have sta_wL := Sta.start ev_wL (Or.inl (hsets _ (List.mem_of_getElem? (i := 19) rfl)))
  obtain ⟨wLe, ev_wLe⟩ := arr_v (Cond.before_iff.mp (hsets _ (List.mem_of_getElem? (i := 21) rfl)))
  have fld_wL := own_fld ev_wL ev_wLe
  obtain ⟨cLe, A_wLe, hs1_wLe, hs2_wLe⟩ := own_arr ev_wLe (Cond.before_iff.mp (hsets _ (List.mem_of_getElem? (i := 21) rfl))) (own_eqI (Cond.before_iff.mp (hsets _ (List.mem_of_getElem? (i := 23) rfl))))
  have arv_wLe := own_arvAny (dv := .null) hfit A_wLe hs1_wLe hs2_wLe (by decide)
  obtain ⟨cp, ev_cp⟩ := is_v (Cond.before_iff.mp (hsets _ (List.mem_of_getElem? (i := 1) rfl)))
  have sta_cp := Sta.start ev_cp (Or.inl (hsets _ (List.mem_of_getElem? (i := 0) rfl)))
  have hcp : ¬ (cp = (0 : Int32)) := fun q => by
    have w := not_v (Cond.before_iff.mp (hsets _ (List.mem_of_getElem? (i := 2) rfl)))
    rw [eq_i ev_cp (Term.int_eval 0) (by rw [q])] at w
    cases w
  obtain ⟨mO, mirO⟩ : ∃ mO, Mi s "[Ljava/lang/Object;" mO := by
    obtain ⟨c, k, m, h1, h2, h3, -⟩ := hcalls.1
    exact ⟨m, c, k, h1, h2, h3⟩
  obtain ⟨n, o, h1, h2, h3, _, L, rfl, ⟨hQ, N⟩, hq⟩ := c_law l s _ hw s.heap i0 i1 i2 i3 wd cd.cls cd.slots.toList wE wL wLe cLe.cls cLe.slots.toList mO cp hcp sta_wd arv_wd exa_wd sta_wE exa_wE sta_wL exa_wL fld_wL arv_wLe mirO sta_cp (Old.start s) tables_1 p e ha hc hk s m _ below hf ((Spec.applies_iff_loose hf).mp happ).1 ⟨rfl, State.Warmed39.refl s, rfl⟩ trivial
  obtain rfl := hQ.1
  refine ⟨n, _, h1, h2, h3, hpost _ _ _ _ _ _ ⟨Cond.after_iff.mpr rfl, Cond.after_iff.mpr (eq_i res_at (Term.int_eval (1)) rfl), trivial⟩ ⟨hq.1, hq.2.1, (hq.2.2.sift fun y hy => Or.inr (N y hy)).mono (by decide) (by decide)⟩⟩
theorem main_1_1 : Claimed_1_1 := comes_1 fun _ _ _ _ _ _ h hF => ⟨h.1, hF⟩
theorem main_1_2 : Claimed_1_2 := comes_1 fun _ _ _ _ _ _ h hF => ⟨h.2.1, hF⟩

end Jvm.Pilot.@@N@@
namespace Jvm.Pilot.@@N@@
open Jvm Jvm.ClassFile Sem Op Lib Jvm.Free Jvm.Stand Jvm.Pilot.@@N@@.Jvm.D
/-! MADE BY PROGRAM (witnessworld.py) out of the Statement's table words and the real class files: 37 classes; the members and pool entries that the words name. The judged class is class 1, her method 1. -/
namespace start1
open Jvm.ClassFile
def u (s : String) : CpInfo := .utf8 (stringToUtf16 s)
/-- a pool by its gaps: so many unusable entries, then the entry; so many at the end -/
def gap : Nat → List CpInfo → List CpInfo
  | 0, r => r
  | n + 1, r => .unusable :: gap n r
def poolList (es : List (Nat × CpInfo)) (last : Nat) : List CpInfo := es.foldr (fun e r => gap e.1 (e.2 :: r)) (gap last [])
def pool (es : List (Nat × CpInfo)) (last : Nat) : Array CpInfo := ⟨poolList es last⟩
def fileOf (pool : Array CpInfo) (this : Nat) (attrs : Array Attribute := #[]) (ms : Array MethodInfo := #[]) (fl : Nat := 33) (sup : Nat := 0) (ifs : Array Nat := #[]) (fds : Array FieldInfo := #[]) : ClassFile where
  minorVersion := 0
  majorVersion := 65
  constantPool := pool
  accessFlags := fl
  thisClass := this
  superClass := sup
  interfaces := ifs
  fields := fds
  methods := ms
  attributes := attrs
def plain (name : String) (sup : Option ClassId) : Class where
  name := name
  kind := .ordinary
  loader := none
  accessFlags := 33
  super := sup
  interfaces := #[]
  cf := none
  fields := #[]
  methods := #[]
  instanceTypes := #[]
  staticTypes := #[]
  resolved := #[]
  callSites := []
  init := .initialized
  statics := none
  mirror := none

def pool0 : Array CpInfo := pool [(5, u "<init>"), (0, u "()V"), (1, .class_ 10), (1, u "java/lang/Object"), (0, u "getClass"), (0, u "()Ljava/lang/Class;")] 111

def k0c0 : Code := { maxStack := 0, maxLocals := 1, code := object_method_1_code, exceptionTable := #[], attributes := #[] }
def k0m0 : Method := { name := "<init>", desc := "()V", sig := { parameters := [], returnType := none }, accessFlags := 1, code := some k0c0 }
def k0m1 : Method := { name := "getClass", desc := "()Ljava/lang/Class;", sig := { parameters := [], returnType := some (.object "java/lang/Class") }, accessFlags := 273, code := none }
/-- java/lang/Object -/
def k0 : Class := { plain "java/lang/Object" none with
  accessFlags := 33
  interfaces := #[]
  cf := some (fileOf pool0 8 #[] #[{ accessFlags := 1, nameIndex := 5, descriptorIndex := 6, attributes := #[] }, { accessFlags := 273, nameIndex := 11, descriptorIndex := 12, attributes := #[] }] 33 0 #[] #[])
  fields := #[]
  methods := #[k0m0, k0m1]
  instanceTypes := #[]
  staticTypes := #[]
  resolved := Array.replicate 124 none
  statics := none }

def pool1 : Array CpInfo := pool [(2, .class_ 4), (0, .nameAndType 5 6), (0, u "java/lang/Object"), (0, u "<init>"), (0, u "()V"), (0, .methodref 8 9), (0, .class_ 10), (0, .nameAndType 11 12), (0, u "java/lang/String"), (0, u "valueOf"), (0, u "(C)Ljava/lang/String;"), (0, .methodref 14 15), (0, .class_ 16), (0, .nameAndType 17 18), (0, u "com/example/aligned_index/alignedindex/inspect/DifferencesNonePinLaw"), (0, u "fill"), (0, u "(ILjava/lang/String;)Ljava/util/ArrayList;"), (0, .class_ 20), (0, u "com/example/aligned_index/alignedindex/inspect/Differences"), (0, .methodref 19 22), (0, .nameAndType 5 23), (0, u "(Ljava/util/List;Ljava/util/List;Ljava/util/List;)V"), (0, .methodref 25 26), (0, .class_ 27), (0, .nameAndType 28 29), (0, u "java/util/ArrayList"), (0, u "add"), (0, u "(Ljava/lang/Object;)Z"), (0, .methodref 19 31), (0, .nameAndType 32 33), (0, u "none"), (0, u "()Z"), (0, .methodref 25 3), (2, u "law"), (0, u "(IIII)Z")] 5

def k1m0 : Method := { name := "<init>", desc := "()V", sig := { parameters := [], returnType := none }, accessFlags := 1, code := none }
def k1c1 : Code := { maxStack := 5, maxLocals := 13, code := code, exceptionTable := #[], attributes := #[] }
def k1m1 : Method := { name := "law", desc := "(IIII)Z", sig := { parameters := [.int, .int, .int, .int], returnType := some .boolean }, accessFlags := 9, code := some k1c1 }
def k1c2 : Code := { maxStack := 2, maxLocals := 3, code := method_3_code, exceptionTable := #[], attributes := #[] }
def k1m2 : Method := { name := "fill", desc := "(ILjava/lang/String;)Ljava/util/ArrayList;", sig := { parameters := [.int, (.object "java/lang/String")], returnType := some (.object "java/util/ArrayList") }, accessFlags := 10, code := some k1c2 }
/-- com/example/aligned_index/alignedindex/inspect/DifferencesNonePinLaw -/
def k1 : Class := { plain "com/example/aligned_index/alignedindex/inspect/DifferencesNonePinLaw" (some 0) with
  accessFlags := 49
  interfaces := #[]
  cf := some (fileOf pool1 14 #[] #[{ accessFlags := 1, nameIndex := 5, descriptorIndex := 6, attributes := #[] }, { accessFlags := 9, nameIndex := 37, descriptorIndex := 38, attributes := #[] }, { accessFlags := 10, nameIndex := 17, descriptorIndex := 18, attributes := #[] }] 49 2 #[] #[])
  fields := #[]
  methods := #[k1m0, k1m1, k1m2]
  instanceTypes := #[]
  staticTypes := #[]
  resolved := Array.replicate 44 none
  statics := none }

def pool2 : Array CpInfo := pool [(1, .class_ 2), (0, u "java/io/Serializable"), (0, .class_ 4), (0, u "java/lang/Object")] 2

/-- java/io/Serializable -/
def k2 : Class := { plain "java/io/Serializable" (some 0) with
  accessFlags := 1537
  interfaces := #[]
  cf := some (fileOf pool2 1 #[] #[] 1537 3 #[] #[])
  fields := #[]
  methods := #[]
  instanceTypes := #[]
  staticTypes := #[]
  resolved := Array.replicate 7 none
  statics := none }

def pool3 : Array CpInfo := pool [(1, .class_ 2), (0, u "java/lang/Comparable"), (0, .class_ 4), (0, u "java/lang/Object")] 7

/-- java/lang/Comparable -/
def k3 : Class := { plain "java/lang/Comparable" (some 0) with
  accessFlags := 1537
  interfaces := #[]
  cf := some (fileOf pool3 1 #[] #[] 1537 3 #[] #[])
  fields := #[]
  methods := #[]
  instanceTypes := #[]
  staticTypes := #[]
  resolved := Array.replicate 12 none
  statics := none }

def pool4 : Array CpInfo := pool [(2, .class_ 4), (1, u "java/lang/CharSequence"), (42, .class_ 48), (0, u "java/lang/CharSequence$1CodePointIterator"), (10, .class_ 60), (0, u "java/lang/CharSequence$1CharIterator"), (5, .class_ 67), (0, u "java/lang/Object")] 63

/-- java/lang/CharSequence -/
def k4 : Class := { plain "java/lang/CharSequence" (some 0) with
  accessFlags := 1537
  interfaces := #[]
  cf := some (fileOf pool4 2 #[.nestMembers #[47, 59]] #[] 1537 66 #[] #[])
  fields := #[]
  methods := #[]
  instanceTypes := #[]
  staticTypes := #[]
  resolved := Array.replicate 131 none
  statics := none }

def pool5 : Array CpInfo := pool [(1, .class_ 2), (0, u "java/lang/constant/Constable"), (0, .class_ 4), (0, u "java/lang/Object")] 6

/-- java/lang/constant/Constable -/
def k5 : Class := { plain "java/lang/constant/Constable" (some 0) with
  accessFlags := 1537
  interfaces := #[]
  cf := some (fileOf pool5 1 #[] #[] 1537 3 #[] #[])
  fields := #[]
  methods := #[]
  instanceTypes := #[]
  staticTypes := #[]
  resolved := Array.replicate 11 none
  statics := none }

def pool6 : Array CpInfo := pool [(1, .class_ 2), (0, u "java/lang/constant/ConstantDesc"), (0, .class_ 4), (0, u "java/lang/Object")] 32

/-- java/lang/constant/ConstantDesc -/
def k6 : Class := { plain "java/lang/constant/ConstantDesc" (some 0) with
  accessFlags := 1537
  interfaces := #[]
  cf := some (fileOf pool6 1 #[] #[] 1537 3 #[] #[])
  fields := #[]
  methods := #[]
  instanceTypes := #[]
  staticTypes := #[]
  resolved := Array.replicate 37 none
  statics := none }

def pool7 : Array CpInfo := pool [(1, .methodref 2 3), (0, .class_ 4), (0, .nameAndType 5 6), (0, u "java/lang/Object"), (0, u "<init>"), (0, u "()V"), (2, .fieldref 10 11), (0, .class_ 12), (0, .nameAndType 13 14), (0, u "java/lang/String"), (0, u "value"), (0, u "[B"), (0, .fieldref 10 16), (0, .nameAndType 17 18), (0, u "coder"), (0, u "B"), (2, u "hash"), (0, u "I"), (2, u "hashIsZero"), (0, u "Z"), (11, .fieldref 10 39), (0, .nameAndType 40 26), (0, u "COMPACT_STRINGS"), (12, u "toBytes"), (53, .class_ 109), (1, u "java/lang/StringLatin1"), (99, .methodref 10 210), (0, .nameAndType 5 211), (0, u "([BB)V"), (157, u "(C)Z"), (205, .class_ 576), (0, u "java/lang/CharSequence"), (22, u "CASE_INSENSITIVE_ORDER"), (0, u "Ljava/util/Comparator;"), (181, u "valueOf"), (0, u "(C)Ljava/lang/String;"), (231, .methodref 107 1016), (0, .nameAndType 1017 369), (0, u "canEncode"), (0, .methodref 107 1019), (0, .nameAndType 53 1020), (0, u "(C)[B"), (80, u "serialPersistentFields"), (0, u "[Ljava/io/ObjectStreamField;"), (0, .class_ 1104), (0, u "java/lang/String$CaseInsensitiveComparator"), (1, .class_ 1107), (0, u "java/io/Serializable"), (0, .class_ 1109), (0, u "java/lang/Comparable"), (0, .class_ 1111), (0, u "java/lang/constant/Constable"), (0, .class_ 1113), (0, u "java/lang/constant/ConstantDesc"), (2, u "serialVersionUID"), (0, u "J"), (3, u "REPL"), (0, u "C"), (2, u "LATIN1"), (1, u "UTF16")] 323

def k7m0 : Method := { name := "<init>", desc := "()V", sig := { parameters := [], returnType := none }, accessFlags := 1, code := none }
def k7c1 : Code := { maxStack := 4, maxLocals := 1, code := jdk_42_method_139_code, exceptionTable := #[], attributes := #[] }
def k7m1 : Method := { name := "valueOf", desc := "(C)Ljava/lang/String;", sig := { parameters := [.char], returnType := some (.object "java/lang/String") }, accessFlags := 9, code := some k7c1 }
def k7c2 : Code := { maxStack := 2, maxLocals := 3, code := jdk_42_method_151_code, exceptionTable := #[], attributes := #[] }
def k7m2 : Method := { name := "<init>", desc := "([BB)V", sig := { parameters := [(.array .byte), .byte], returnType := none }, accessFlags := 0, code := some k7c2 }
/-- java/lang/String -/
def k7 : Class := { plain "java/lang/String" (some 0) with
  accessFlags := 49
  interfaces := #[2, 3, 4, 5, 6]
  cf := some (fileOf pool7 10 #[.nestMembers #[1103]] #[{ accessFlags := 1, nameIndex := 5, descriptorIndex := 6, attributes := #[] }, { accessFlags := 9, nameIndex := 782, descriptorIndex := 783, attributes := #[] }, { accessFlags := 0, nameIndex := 5, descriptorIndex := 211, attributes := #[] }] 49 2 #[1106, 1108, 575, 1110, 1112] #[{ accessFlags := 18, nameIndex := 13, descriptorIndex := 14, attributes := #[] }, { accessFlags := 18, nameIndex := 17, descriptorIndex := 18, attributes := #[] }, { accessFlags := 2, nameIndex := 21, descriptorIndex := 22, attributes := #[] }, { accessFlags := 2, nameIndex := 25, descriptorIndex := 26, attributes := #[] }, { accessFlags := 26, nameIndex := 1116, descriptorIndex := 1117, attributes := #[] }, { accessFlags := 24, nameIndex := 40, descriptorIndex := 26, attributes := #[] }, { accessFlags := 26, nameIndex := 1101, descriptorIndex := 1102, attributes := #[] }, { accessFlags := 26, nameIndex := 1121, descriptorIndex := 1122, attributes := #[] }, { accessFlags := 25, nameIndex := 599, descriptorIndex := 600, attributes := #[] }, { accessFlags := 24, nameIndex := 1125, descriptorIndex := 18, attributes := #[] }, { accessFlags := 24, nameIndex := 1127, descriptorIndex := 18, attributes := #[] }])
  fields := #[{ name := "value", type := (.array .byte), accessFlags := 18, slot := 0, constantValue := 0 }, { name := "coder", type := .byte, accessFlags := 18, slot := 1, constantValue := 0 }, { name := "hash", type := .int, accessFlags := 2, slot := 2, constantValue := 0 }, { name := "hashIsZero", type := .boolean, accessFlags := 2, slot := 3, constantValue := 0 }, { name := "serialVersionUID", type := .long, accessFlags := 26, slot := 0, constantValue := 0 }, { name := "COMPACT_STRINGS", type := .boolean, accessFlags := 24, slot := 1, constantValue := 0 }, { name := "serialPersistentFields", type := (.array (.object "java/io/ObjectStreamField")), accessFlags := 26, slot := 2, constantValue := 0 }, { name := "REPL", type := .char, accessFlags := 26, slot := 3, constantValue := 0 }, { name := "CASE_INSENSITIVE_ORDER", type := (.object "java/util/Comparator"), accessFlags := 25, slot := 4, constantValue := 0 }, { name := "LATIN1", type := .byte, accessFlags := 24, slot := 5, constantValue := 0 }, { name := "UTF16", type := .byte, accessFlags := 24, slot := 6, constantValue := 0 }]
  methods := #[k7m0, k7m1, k7m2]
  instanceTypes := #[(.array .byte), .byte, .int, .boolean]
  staticTypes := #[.long, .boolean, (.array (.object "java/io/ObjectStreamField")), .char, (.object "java/util/Comparator"), .byte, .byte]
  resolved := Array.replicate 1451 none
  statics := some 0 }

def pool8 : Array CpInfo := pool [(4, .class_ 6), (1, u "java/lang/Object"), (0, u "<init>"), (0, u "()V"), (5, .class_ 16), (1, u "java/lang/StringLatin1"), (73, u "canEncode"), (14, u "(C)Z"), (15, u "$assertionsDisabled"), (0, u "Z"), (98, .class_ 223), (1, u "java/lang/StringLatin1$LinesSpliterator"), (156, u "toBytes"), (1, u "(C)[B"), (7, .class_ 391), (0, u "java/lang/StringLatin1$CharsSpliterator")] 3

def k8m0 : Method := { name := "<init>", desc := "()V", sig := { parameters := [], returnType := none }, accessFlags := 0, code := none }
def k8c1 : Code := { maxStack := 2, maxLocals := 1, code := jdk_43_method_3_code, exceptionTable := #[], attributes := #[] }
def k8m1 : Method := { name := "canEncode", desc := "(C)Z", sig := { parameters := [.char], returnType := some .boolean }, accessFlags := 9, code := some k8c1 }
def k8c2 : Code := { maxStack := 4, maxLocals := 1, code := jdk_43_method_46_code, exceptionTable := #[], attributes := #[] }
def k8m2 : Method := { name := "toBytes", desc := "(C)[B", sig := { parameters := [.char], returnType := some (.array .byte) }, accessFlags := 9, code := some k8c2 }
/-- java/lang/StringLatin1 -/
def k8 : Class := { plain "java/lang/StringLatin1" (some 0) with
  accessFlags := 48
  interfaces := #[]
  cf := some (fileOf pool8 14 #[.nestMembers #[390, 221]] #[{ accessFlags := 0, nameIndex := 7, descriptorIndex := 8, attributes := #[] }, { accessFlags := 9, nameIndex := 90, descriptorIndex := 105, attributes := #[] }, { accessFlags := 9, nameIndex := 380, descriptorIndex := 382, attributes := #[] }] 48 4 #[] #[{ accessFlags := 4120, nameIndex := 121, descriptorIndex := 122, attributes := #[] }])
  fields := #[{ name := "$assertionsDisabled", type := .boolean, accessFlags := 4120, slot := 0, constantValue := 0 }]
  methods := #[k8m0, k8m1, k8m2]
  instanceTypes := #[]
  staticTypes := #[.boolean]
  resolved := Array.replicate 395 none
  statics := none }

def pool9 : Array CpInfo := pool [(8, .class_ 10), (1, u "java/lang/Iterable"), (24, .class_ 36), (0, u "java/lang/Object")] 25

/-- java/lang/Iterable -/
def k9 : Class := { plain "java/lang/Iterable" (some 0) with
  accessFlags := 1537
  interfaces := #[]
  cf := some (fileOf pool9 8 #[] #[] 1537 35 #[] #[])
  fields := #[]
  methods := #[]
  instanceTypes := #[]
  staticTypes := #[]
  resolved := Array.replicate 62 none
  statics := none }

def pool10 : Array CpInfo := pool [(10, .class_ 12), (1, u "java/util/Collection"), (0, u "toArray"), (16, u "()Z"), (29, .class_ 61), (0, u "java/lang/Object"), (0, .class_ 63), (0, u "java/lang/Iterable"), (2, u "isEmpty"), (3, u "()[Ljava/lang/Object;")] 44

def k10m0 : Method := { name := "isEmpty", desc := "()Z", sig := { parameters := [], returnType := some .boolean }, accessFlags := 1025, code := none }
def k10m1 : Method := { name := "toArray", desc := "()[Ljava/lang/Object;", sig := { parameters := [], returnType := some (.array (.object "java/lang/Object")) }, accessFlags := 1025, code := none }
/-- java/util/Collection -/
def k10 : Class := { plain "java/util/Collection" (some 0) with
  accessFlags := 1537
  interfaces := #[9]
  cf := some (fileOf pool10 10 #[] #[{ accessFlags := 1025, nameIndex := 66, descriptorIndex := 30, attributes := #[] }, { accessFlags := 1025, nameIndex := 13, descriptorIndex := 70, attributes := #[] }] 1537 60 #[62] #[])
  fields := #[]
  methods := #[k10m0, k10m1]
  instanceTypes := #[]
  staticTypes := #[]
  resolved := Array.replicate 115 none
  statics := none }

def pool11 : Array CpInfo := pool [(1, .methodref 2 3), (0, .class_ 4), (0, .nameAndType 5 6), (0, u "java/lang/Object"), (0, u "<init>"), (0, u "()V"), (1, .class_ 10), (1, u "java/util/AbstractCollection"), (66, .class_ 78), (0, u "java/util/Collection")] 81

def k11c0 : Code := { maxStack := 1, maxLocals := 1, code := jdk_22_method_1_code, exceptionTable := #[], attributes := #[] }
def k11m0 : Method := { name := "<init>", desc := "()V", sig := { parameters := [], returnType := none }, accessFlags := 4, code := some k11c0 }
/-- java/util/AbstractCollection -/
def k11 : Class := { plain "java/util/AbstractCollection" (some 0) with
  accessFlags := 1057
  interfaces := #[10]
  cf := some (fileOf pool11 8 #[] #[{ accessFlags := 4, nameIndex := 5, descriptorIndex := 6, attributes := #[] }] 1057 2 #[77] #[])
  fields := #[]
  methods := #[k11m0]
  instanceTypes := #[]
  staticTypes := #[]
  resolved := Array.replicate 160 none
  statics := none }

def pool12 : Array CpInfo := pool [(8, .class_ 10), (1, u "java/util/SequencedCollection"), (15, .class_ 27), (0, u "java/lang/Object"), (0, .class_ 29), (0, u "java/util/Collection")] 27

/-- java/util/SequencedCollection -/
def k12 : Class := { plain "java/util/SequencedCollection" (some 0) with
  accessFlags := 1537
  interfaces := #[10]
  cf := some (fileOf pool12 8 #[] #[] 1537 26 #[28] #[])
  fields := #[]
  methods := #[]
  instanceTypes := #[]
  staticTypes := #[]
  resolved := Array.replicate 57 none
  statics := none }

def pool13 : Array CpInfo := pool [(8, .class_ 10), (1, u "java/util/List"), (7, u "()Z"), (12, u "(Ljava/lang/Object;)V"), (16, u "<init>"), (18, u "isEmpty"), (20, u "of"), (1, .fieldref 91 92), (0, .class_ 93), (0, .nameAndType 94 95), (0, u "java/util/ImmutableCollections"), (0, u "EMPTY_LIST"), (0, u "Ljava/util/ImmutableCollections$ListN;"), (0, .class_ 97), (0, u "java/util/ImmutableCollections$List12"), (0, .methodref 96 99), (0, .nameAndType 48 31), (0, .methodref 96 101), (0, .nameAndType 48 102), (0, u "(Ljava/lang/Object;Ljava/lang/Object;)V"), (0, .class_ 104), (0, u "java/lang/Object"), (3, u "([Ljava/lang/Object;)Ljava/util/List;"), (0, .methodref 91 110), (0, .nameAndType 111 108), (0, u "listFromArray"), (0, .methodref 91 113), (0, .nameAndType 114 115), (0, u "listCopy"), (0, u "(Ljava/util/Collection;)Ljava/util/List;"), (3, u "()Ljava/util/List;"), (0, .class_ 121), (0, u "java/util/SequencedCollection"), (112, u "copyOf")] 16

def k13m0 : Method := { name := "isEmpty", desc := "()Z", sig := { parameters := [], returnType := some .boolean }, accessFlags := 1025, code := none }
def k13c1 : Code := { maxStack := 1, maxLocals := 0, code := jdk_40_method_36_code, exceptionTable := #[], attributes := #[] }
def k13m1 : Method := { name := "of", desc := "()Ljava/util/List;", sig := { parameters := [], returnType := some (.object "java/util/List") }, accessFlags := 9, code := some k13c1 }
def k13c2 : Code := { maxStack := 5, maxLocals := 2, code := jdk_40_method_47_code, exceptionTable := #[], attributes := #[] }
def k13m2 : Method := { name := "of", desc := "([Ljava/lang/Object;)Ljava/util/List;", sig := { parameters := [(.array (.object "java/lang/Object"))], returnType := some (.object "java/util/List") }, accessFlags := 137, code := some k13c2 }
def k13c3 : Code := { maxStack := 1, maxLocals := 1, code := jdk_40_method_48_code, exceptionTable := #[], attributes := #[] }
def k13m3 : Method := { name := "copyOf", desc := "(Ljava/util/Collection;)Ljava/util/List;", sig := { parameters := [(.object "java/util/Collection")], returnType := some (.object "java/util/List") }, accessFlags := 9, code := some k13c3 }
/-- java/util/List -/
def k13 : Class := { plain "java/util/List" (some 0) with
  accessFlags := 1537
  interfaces := #[12]
  cf := some (fileOf pool13 8 #[] #[{ accessFlags := 1025, nameIndex := 67, descriptorIndex := 18, attributes := #[] }, { accessFlags := 9, nameIndex := 88, descriptorIndex := 119, attributes := #[] }, { accessFlags := 137, nameIndex := 88, descriptorIndex := 108, attributes := #[] }, { accessFlags := 9, nameIndex := 234, descriptorIndex := 115, attributes := #[] }] 1537 103 #[120] #[])
  fields := #[]
  methods := #[k13m0, k13m1, k13m2, k13m3]
  instanceTypes := #[]
  staticTypes := #[]
  resolved := Array.replicate 251 none
  statics := none }

def pool14 : Array CpInfo := pool [(1, .methodref 2 3), (0, .class_ 4), (0, .nameAndType 5 6), (0, u "java/util/AbstractCollection"), (0, u "<init>"), (0, u "()V"), (0, .fieldref 8 9), (0, .class_ 10), (0, .nameAndType 11 12), (0, u "java/util/AbstractList"), (0, u "modCount"), (0, u "I"), (64, .class_ 78), (0, u "java/util/AbstractList$Itr"), (3, .class_ 83), (0, u "java/util/AbstractList$ListItr"), (9, .class_ 94), (0, u "java/util/AbstractList$RandomAccessSubList"), (3, .class_ 99), (0, u "java/util/AbstractList$SubList"), (33, .class_ 134), (0, u "java/util/List"), (73, .class_ 209), (0, u "java/util/AbstractList$SubList$1"), (0, .class_ 211), (0, u "java/util/AbstractList$RandomAccessSpliterator")] 6

def k14c0 : Code := { maxStack := 2, maxLocals := 1, code := jdk_39_method_1_code, exceptionTable := #[], attributes := #[] }
def k14m0 : Method := { name := "<init>", desc := "()V", sig := { parameters := [], returnType := none }, accessFlags := 4, code := some k14c0 }
/-- java/util/AbstractList -/
def k14 : Class := { plain "java/util/AbstractList" (some 11) with
  accessFlags := 1057
  interfaces := #[13]
  cf := some (fileOf pool14 8 #[.nestMembers #[93, 98, 208, 210, 82, 77]] #[{ accessFlags := 4, nameIndex := 5, descriptorIndex := 6, attributes := #[] }] 1057 2 #[133] #[{ accessFlags := 132, nameIndex := 11, descriptorIndex := 12, attributes := #[] }])
  fields := #[{ name := "modCount", type := .int, accessFlags := 132, slot := 0, constantValue := 0 }]
  methods := #[k14m0]
  instanceTypes := #[.int]
  staticTypes := #[]
  resolved := Array.replicate 218 none
  statics := none }

def pool15 : Array CpInfo := pool [(1, .class_ 2), (0, u "java/util/RandomAccess"), (0, .class_ 4), (0, u "java/lang/Object")] 2

/-- java/util/RandomAccess -/
def k15 : Class := { plain "java/util/RandomAccess" (some 0) with
  accessFlags := 1537
  interfaces := #[]
  cf := some (fileOf pool15 1 #[] #[] 1537 3 #[] #[])
  fields := #[]
  methods := #[]
  instanceTypes := #[]
  staticTypes := #[]
  resolved := Array.replicate 7 none
  statics := none }

def pool16 : Array CpInfo := pool [(1, .class_ 2), (0, u "java/lang/Cloneable"), (0, .class_ 4), (0, u "java/lang/Object")] 2

/-- java/lang/Cloneable -/
def k16 : Class := { plain "java/lang/Cloneable" (some 0) with
  accessFlags := 1537
  interfaces := #[]
  cf := some (fileOf pool16 1 #[] #[] 1537 3 #[] #[])
  fields := #[]
  methods := #[]
  instanceTypes := #[]
  staticTypes := #[]
  resolved := Array.replicate 7 none
  statics := none }

def pool17 : Array CpInfo := pool [(1, .methodref 2 3), (0, .class_ 4), (0, .nameAndType 5 6), (0, u "java/util/AbstractList"), (0, u "<init>"), (0, u "()V"), (0, .class_ 8), (0, u "java/lang/Object"), (0, .fieldref 10 11), (0, .class_ 12), (0, .nameAndType 13 14), (0, u "java/util/ArrayList"), (0, u "elementData"), (0, u "[Ljava/lang/Object;"), (2, u "EMPTY_ELEMENTDATA"), (21, .fieldref 10 40), (0, .nameAndType 41 14), (0, u "DEFAULTCAPACITY_EMPTY_ELEMENTDATA"), (4, u "toArray"), (0, u "()[Ljava/lang/Object;"), (0, .fieldref 10 49), (0, .nameAndType 50 51), (0, u "size"), (0, u "I"), (6, .class_ 60), (1, u "java/util/Arrays"), (0, u "copyOf"), (1, .fieldref 10 64), (0, .nameAndType 65 51), (0, u "modCount"), (0, .methodref 58 67), (0, .nameAndType 61 68), (0, u "([Ljava/lang/Object;I)[Ljava/lang/Object;"), (0, .methodref 10 70), (0, .nameAndType 71 72), (0, u "grow"), (0, u "(I)[Ljava/lang/Object;"), (6, .methodref 80 81), (0, .class_ 82), (0, .nameAndType 83 84), (0, u "java/lang/Math"), (0, u "max"), (0, u "(II)I"), (11, u "(Ljava/lang/Object;)Z"), (32, .methodref 10 130), (0, .nameAndType 71 47), (0, .methodref 10 132), (0, .nameAndType 133 134), (0, u "add"), (0, u "(Ljava/lang/Object;[Ljava/lang/Object;I)V"), (13, .class_ 149), (0, u "java/util/List"), (23, u "()Z"), (88, .class_ 263), (0, u "java/util/ArrayList$ListItr"), (3, .class_ 268), (0, u "java/util/ArrayList$Itr"), (7, .class_ 277), (0, u "java/util/ArrayList$SubList"), (12, .class_ 291), (0, u "java/util/ArrayList$ArrayListSpliterator"), (37, .class_ 330), (0, u "java/util/RandomAccess"), (0, .class_ 332), (0, u "java/lang/Cloneable"), (0, .class_ 334), (0, u "java/io/Serializable"), (0, u "serialVersionUID"), (0, u "J"), (3, u "DEFAULT_CAPACITY"), (22, u "isEmpty"), (136, .class_ 501), (0, u "java/util/ArrayList$SubList$2"), (0, .class_ 503), (0, u "java/util/ArrayList$SubList$1")] 5

def k17c0 : Code := { maxStack := 2, maxLocals := 1, code := jdk_38_method_2_code, exceptionTable := #[], attributes := #[] }
def k17m0 : Method := { name := "<init>", desc := "()V", sig := { parameters := [], returnType := none }, accessFlags := 1, code := some k17c0 }
def k17c1 : Code := { maxStack := 4, maxLocals := 4, code := jdk_38_method_6_code, exceptionTable := #[], attributes := #[] }
def k17m1 : Method := { name := "grow", desc := "(I)[Ljava/lang/Object;", sig := { parameters := [.int], returnType := some (.array (.object "java/lang/Object")) }, accessFlags := 2, code := some k17c1 }
def k17c2 : Code := { maxStack := 3, maxLocals := 1, code := jdk_38_method_7_code, exceptionTable := #[], attributes := #[] }
def k17m2 : Method := { name := "grow", desc := "()[Ljava/lang/Object;", sig := { parameters := [], returnType := some (.array (.object "java/lang/Object")) }, accessFlags := 2, code := some k17c2 }
def k17c3 : Code := { maxStack := 1, maxLocals := 1, code := jdk_38_method_9_code, exceptionTable := #[], attributes := #[] }
def k17m3 : Method := { name := "isEmpty", desc := "()Z", sig := { parameters := [], returnType := some .boolean }, accessFlags := 1, code := some k17c3 }
def k17c4 : Code := { maxStack := 2, maxLocals := 1, code := jdk_38_method_16_code, exceptionTable := #[], attributes := #[] }
def k17m4 : Method := { name := "toArray", desc := "()[Ljava/lang/Object;", sig := { parameters := [], returnType := some (.array (.object "java/lang/Object")) }, accessFlags := 1, code := some k17c4 }
def k17c5 : Code := { maxStack := 3, maxLocals := 4, code := jdk_38_method_24_code, exceptionTable := #[], attributes := #[] }
def k17m5 : Method := { name := "add", desc := "(Ljava/lang/Object;[Ljava/lang/Object;I)V", sig := { parameters := [(.object "java/lang/Object"), (.array (.object "java/lang/Object")), .int], returnType := none }, accessFlags := 2, code := some k17c5 }
def k17c6 : Code := { maxStack := 4, maxLocals := 2, code := jdk_38_method_25_code, exceptionTable := #[], attributes := #[] }
def k17m6 : Method := { name := "add", desc := "(Ljava/lang/Object;)Z", sig := { parameters := [(.object "java/lang/Object")], returnType := some .boolean }, accessFlags := 1, code := some k17c6 }
/-- java/util/ArrayList -/
def k17 : Class := { plain "java/util/ArrayList" (some 14) with
  accessFlags := 33
  interfaces := #[13, 15, 16, 2]
  cf := some (fileOf pool17 10 #[.nestMembers #[290, 276, 500, 502, 262, 267]] #[{ accessFlags := 1, nameIndex := 5, descriptorIndex := 6, attributes := #[] }, { accessFlags := 2, nameIndex := 71, descriptorIndex := 72, attributes := #[] }, { accessFlags := 2, nameIndex := 71, descriptorIndex := 47, attributes := #[] }, { accessFlags := 1, nameIndex := 363, descriptorIndex := 173, attributes := #[] }, { accessFlags := 1, nameIndex := 46, descriptorIndex := 47, attributes := #[] }, { accessFlags := 2, nameIndex := 133, descriptorIndex := 134, attributes := #[] }, { accessFlags := 1, nameIndex := 133, descriptorIndex := 96, attributes := #[] }] 33 2 #[148, 329, 331, 333] #[{ accessFlags := 26, nameIndex := 335, descriptorIndex := 336, attributes := #[] }, { accessFlags := 26, nameIndex := 340, descriptorIndex := 51, attributes := #[] }, { accessFlags := 26, nameIndex := 17, descriptorIndex := 14, attributes := #[] }, { accessFlags := 26, nameIndex := 41, descriptorIndex := 14, attributes := #[] }, { accessFlags := 128, nameIndex := 13, descriptorIndex := 14, attributes := #[] }, { accessFlags := 2, nameIndex := 50, descriptorIndex := 51, attributes := #[] }])
  fields := #[{ name := "serialVersionUID", type := .long, accessFlags := 26, slot := 0, constantValue := 0 }, { name := "DEFAULT_CAPACITY", type := .int, accessFlags := 26, slot := 1, constantValue := 0 }, { name := "EMPTY_ELEMENTDATA", type := (.array (.object "java/lang/Object")), accessFlags := 26, slot := 2, constantValue := 0 }, { name := "DEFAULTCAPACITY_EMPTY_ELEMENTDATA", type := (.array (.object "java/lang/Object")), accessFlags := 26, slot := 3, constantValue := 0 }, { name := "elementData", type := (.array (.object "java/lang/Object")), accessFlags := 128, slot := 1, constantValue := 0 }, { name := "size", type := .int, accessFlags := 2, slot := 2, constantValue := 0 }]
  methods := #[k17m0, k17m1, k17m2, k17m3, k17m4, k17m5, k17m6]
  instanceTypes := #[.int, (.array (.object "java/lang/Object")), .int]
  staticTypes := #[.long, .int, (.array (.object "java/lang/Object")), (.array (.object "java/lang/Object"))]
  resolved := Array.replicate 509 none
  statics := some 1 }

def pool18 : Array CpInfo := pool [(1, .class_ 2), (0, u "java/lang/Math"), (1, .class_ 6), (1, u "java/lang/Object"), (0, u "<init>"), (0, u "()V"), (89, .class_ 100), (1, u "java/lang/Math$RandomNumberGeneratorHolder"), (71, u "negativeZeroFloatBits"), (0, u "J"), (2, u "negativeZeroDoubleBits"), (21, u "max"), (2, u "min"), (43, u "$assertionsDisabled"), (0, u "Z"), (88, u "(II)I"), (2, u "twoToTheDoubleScaleDown"), (0, u "D"), (4, u "twoToTheDoubleScaleUp"), (9, u "E"), (3, u "PI"), (2, u "TAU"), (2, u "DEGREES_TO_RADIANS"), (0, u "RADIANS_TO_DEGREES")] 94

def k18m0 : Method := { name := "<init>", desc := "()V", sig := { parameters := [], returnType := none }, accessFlags := 2, code := none }
def k18c1 : Code := { maxStack := 2, maxLocals := 2, code := jdk_29_method_65_code, exceptionTable := #[], attributes := #[] }
def k18m1 : Method := { name := "max", desc := "(II)I", sig := { parameters := [.int, .int], returnType := some .int }, accessFlags := 9, code := some k18c1 }
def k18c2 : Code := { maxStack := 2, maxLocals := 2, code := jdk_29_method_69_code, exceptionTable := #[], attributes := #[] }
def k18m2 : Method := { name := "min", desc := "(II)I", sig := { parameters := [.int, .int], returnType := some .int }, accessFlags := 9, code := some k18c2 }
/-- java/lang/Math -/
def k18 : Class := { plain "java/lang/Math" (some 0) with
  accessFlags := 49
  interfaces := #[]
  cf := some (fileOf pool18 1 #[.nestMembers #[98]] #[{ accessFlags := 2, nameIndex := 7, descriptorIndex := 8, attributes := #[] }, { accessFlags := 9, nameIndex := 198, descriptorIndex := 335, attributes := #[] }, { accessFlags := 9, nameIndex := 201, descriptorIndex := 335, attributes := #[] }] 49 4 #[] #[{ accessFlags := 25, nameIndex := 354, descriptorIndex := 339, attributes := #[] }, { accessFlags := 25, nameIndex := 358, descriptorIndex := 339, attributes := #[] }, { accessFlags := 25, nameIndex := 361, descriptorIndex := 339, attributes := #[] }, { accessFlags := 26, nameIndex := 364, descriptorIndex := 339, attributes := #[] }, { accessFlags := 26, nameIndex := 365, descriptorIndex := 339, attributes := #[] }, { accessFlags := 26, nameIndex := 172, descriptorIndex := 173, attributes := #[] }, { accessFlags := 26, nameIndex := 176, descriptorIndex := 173, attributes := #[] }, { accessFlags := 8, nameIndex := 344, descriptorIndex := 339, attributes := #[] }, { accessFlags := 8, nameIndex := 338, descriptorIndex := 339, attributes := #[] }, { accessFlags := 4120, nameIndex := 245, descriptorIndex := 246, attributes := #[] }])
  fields := #[{ name := "E", type := .double, accessFlags := 25, slot := 0, constantValue := 0 }, { name := "PI", type := .double, accessFlags := 25, slot := 1, constantValue := 0 }, { name := "TAU", type := .double, accessFlags := 25, slot := 2, constantValue := 0 }, { name := "DEGREES_TO_RADIANS", type := .double, accessFlags := 26, slot := 3, constantValue := 0 }, { name := "RADIANS_TO_DEGREES", type := .double, accessFlags := 26, slot := 4, constantValue := 0 }, { name := "negativeZeroFloatBits", type := .long, accessFlags := 26, slot := 5, constantValue := 0 }, { name := "negativeZeroDoubleBits", type := .long, accessFlags := 26, slot := 6, constantValue := 0 }, { name := "twoToTheDoubleScaleUp", type := .double, accessFlags := 8, slot := 7, constantValue := 0 }, { name := "twoToTheDoubleScaleDown", type := .double, accessFlags := 8, slot := 8, constantValue := 0 }, { name := "$assertionsDisabled", type := .boolean, accessFlags := 4120, slot := 9, constantValue := 0 }]
  methods := #[k18m0, k18m1, k18m2]
  instanceTypes := #[]
  staticTypes := #[.double, .double, .double, .double, .double, .long, .long, .double, .double, .boolean]
  resolved := Array.replicate 460 none
  statics := none }

def pool19 : Array CpInfo := pool [(1, .methodref 2 3), (0, .class_ 4), (0, .nameAndType 5 6), (0, u "java/lang/Object"), (0, u "<init>"), (0, u "()V"), (0, .class_ 8), (0, u "java/lang/Record")] 13

def k19c0 : Code := { maxStack := 1, maxLocals := 1, code := jdk_30_method_1_code, exceptionTable := #[], attributes := #[] }
def k19m0 : Method := { name := "<init>", desc := "()V", sig := { parameters := [], returnType := none }, accessFlags := 4, code := some k19c0 }
/-- java/lang/Record -/
def k19 : Class := { plain "java/lang/Record" (some 0) with
  accessFlags := 1057
  interfaces := #[]
  cf := some (fileOf pool19 7 #[] #[{ accessFlags := 4, nameIndex := 5, descriptorIndex := 6, attributes := #[] }] 1057 2 #[] #[])
  fields := #[]
  methods := #[k19m0]
  instanceTypes := #[]
  staticTypes := #[]
  resolved := Array.replicate 22 none
  statics := none }

def pool20 : Array CpInfo := pool [(1, .methodref 2 3), (0, .class_ 4), (0, .nameAndType 5 6), (0, u "java/lang/Record"), (0, u "<init>"), (0, u "()V"), (0, .interfaceMethodref 8 9), (0, .class_ 10), (0, .nameAndType 11 12), (0, u "java/util/List"), (0, u "copyOf"), (0, u "(Ljava/util/Collection;)Ljava/util/List;"), (0, .fieldref 14 15), (0, .class_ 16), (0, .nameAndType 17 18), (0, u "com/example/aligned_index/alignedindex/inspect/Differences"), (0, u "missing"), (0, u "Ljava/util/List;"), (0, .fieldref 14 20), (0, .nameAndType 21 18), (0, u "extra"), (0, .fieldref 14 23), (0, .nameAndType 24 18), (0, u "stale"), (0, .interfaceMethodref 8 26), (0, .nameAndType 27 28), (0, u "isEmpty"), (0, u "()Z"), (14, u "(Ljava/util/List;Ljava/util/List;Ljava/util/List;)V"), (4, u "none")] 28

def k20c0 : Code := { maxStack := 2, maxLocals := 4, code := prog_21_method_1_code, exceptionTable := #[], attributes := #[] }
def k20m0 : Method := { name := "<init>", desc := "(Ljava/util/List;Ljava/util/List;Ljava/util/List;)V", sig := { parameters := [(.object "java/util/List"), (.object "java/util/List"), (.object "java/util/List")], returnType := none }, accessFlags := 1, code := some k20c0 }
def k20c1 : Code := { maxStack := 1, maxLocals := 1, code := prog_21_method_2_code, exceptionTable := #[], attributes := #[] }
def k20m1 : Method := { name := "none", desc := "()Z", sig := { parameters := [], returnType := some .boolean }, accessFlags := 1, code := some k20c1 }
/-- com/example/aligned_index/alignedindex/inspect/Differences -/
def k20 : Class := { plain "com/example/aligned_index/alignedindex/inspect/Differences" (some 19) with
  accessFlags := 49
  interfaces := #[]
  cf := some (fileOf pool20 14 #[] #[{ accessFlags := 1, nameIndex := 5, descriptorIndex := 43, attributes := #[] }, { accessFlags := 1, nameIndex := 48, descriptorIndex := 28, attributes := #[] }] 49 2 #[] #[{ accessFlags := 18, nameIndex := 17, descriptorIndex := 18, attributes := #[] }, { accessFlags := 18, nameIndex := 21, descriptorIndex := 18, attributes := #[] }, { accessFlags := 18, nameIndex := 24, descriptorIndex := 18, attributes := #[] }])
  fields := #[{ name := "missing", type := (.object "java/util/List"), accessFlags := 18, slot := 0, constantValue := 0 }, { name := "extra", type := (.object "java/util/List"), accessFlags := 18, slot := 1, constantValue := 0 }, { name := "stale", type := (.object "java/util/List"), accessFlags := 18, slot := 2, constantValue := 0 }]
  methods := #[k20m0, k20m1]
  instanceTypes := #[(.object "java/util/List"), (.object "java/util/List"), (.object "java/util/List")]
  staticTypes := #[]
  resolved := Array.replicate 77 none
  statics := none }

def pool21 : Array CpInfo := pool [(2, .class_ 4), (1, u "java/lang/Object"), (0, u "<init>"), (0, u "()V"), (3, .class_ 11), (0, u "java/util/ImmutableCollections$List12"), (0, .class_ 13), (0, u "java/util/ImmutableCollections$ListN"), (3, u "Z"), (0, .class_ 19), (0, u "java/util/List"), (0, .interfaceMethodref 21 22), (0, .class_ 23), (0, .nameAndType 24 25), (0, u "java/util/Collection"), (0, u "isEmpty"), (0, u "()Z"), (0, .interfaceMethodref 18 27), (0, .nameAndType 28 29), (0, u "of"), (0, u "()Ljava/util/List;"), (0, .interfaceMethodref 21 31), (0, .nameAndType 32 33), (0, u "toArray"), (0, u "()[Ljava/lang/Object;"), (0, .interfaceMethodref 18 35), (0, .nameAndType 28 36), (0, u "([Ljava/lang/Object;)Ljava/util/List;"), (0, .methodref 38 39), (0, .class_ 40), (0, .nameAndType 41 42), (0, u "java/util/Objects"), (0, u "requireNonNull"), (0, u "(Ljava/lang/Object;)Ljava/lang/Object;"), (0, .methodref 12 44), (0, .nameAndType 5 45), (0, u "([Ljava/lang/Object;Z)V"), (1, .class_ 49), (1, u "java/util/ImmutableCollections"), (0, u "$assertionsDisabled"), (5, u "[Ljava/lang/Object;"), (5, u "EMPTY_LIST"), (0, u "Ljava/util/ImmutableCollections$ListN;"), (8, u "EMPTY_LIST_NULLS"), (22, u "SALT32L"), (0, u "J"), (2, u "REVERSE"), (6, u "archivedObjects"), (2, u "EMPTY"), (0, u "Ljava/lang/Object;"), (0, .class_ 112), (0, u "java/util/ImmutableCollections$SetN"), (5, u "EMPTY_SET"), (0, u "Ljava/util/ImmutableCollections$SetN;"), (0, .class_ 121), (0, u "java/util/ImmutableCollections$MapN"), (3, u "EMPTY_MAP"), (0, u "Ljava/util/ImmutableCollections$MapN;"), (4, u "EXPAND_FACTOR"), (0, u "I"), (9, u "listCopy"), (0, u "(Ljava/util/Collection;)Ljava/util/List;"), (7, u "listFromArray"), (17, .class_ 170), (0, u "java/util/ImmutableCollections$MapN$MapNIterator"), (0, .class_ 172), (0, u "java/util/ImmutableCollections$MapN$1"), (0, .class_ 174), (0, u "java/util/ImmutableCollections$Map1"), (0, .class_ 176), (0, u "java/util/ImmutableCollections$AbstractImmutableMap"), (0, .class_ 178), (0, u "java/util/ImmutableCollections$SetN$SetNIterator"), (0, .class_ 180), (0, u "java/util/ImmutableCollections$Set12"), (0, .class_ 182), (0, u "java/util/ImmutableCollections$Set12$1"), (0, .class_ 184), (0, u "java/util/ImmutableCollections$AbstractImmutableSet"), (0, .class_ 186), (0, u "java/util/ImmutableCollections$SubList"), (0, .class_ 188), (0, u "java/util/ImmutableCollections$ListItr"), (0, .class_ 190), (0, u "java/util/ImmutableCollections$AbstractImmutableList"), (0, .class_ 192), (0, u "java/util/ImmutableCollections$AbstractImmutableCollection"), (0, .class_ 194), (0, u "java/util/ImmutableCollections$Access"), (0, .class_ 196), (0, u "java/util/ImmutableCollections$Access$1")] 16

def k21m0 : Method := { name := "<init>", desc := "()V", sig := { parameters := [], returnType := none }, accessFlags := 2, code := none }
def k21c1 : Code := { maxStack := 1, maxLocals := 2, code := jdk_56_method_3_code, exceptionTable := #[], attributes := #[] }
def k21m1 : Method := { name := "listCopy", desc := "(Ljava/util/Collection;)Ljava/util/List;", sig := { parameters := [(.object "java/util/Collection")], returnType := some (.object "java/util/List") }, accessFlags := 8, code := some k21c1 }
def k21c2 : Code := { maxStack := 4, maxLocals := 3, code := jdk_56_method_4_code, exceptionTable := #[], attributes := #[] }
def k21m2 : Method := { name := "listFromArray", desc := "([Ljava/lang/Object;)Ljava/util/List;", sig := { parameters := [(.array (.object "java/lang/Object"))], returnType := some (.object "java/util/List") }, accessFlags := 136, code := some k21c2 }
/-- java/util/ImmutableCollections -/
def k21 : Class := { plain "java/util/ImmutableCollections" (some 0) with
  accessFlags := 32
  interfaces := #[]
  cf := some (fileOf pool21 47 #[.nestMembers #[120, 169, 171, 173, 175, 111, 177, 179, 181, 183, 12, 10, 185, 187, 189, 191, 193, 195]] #[{ accessFlags := 2, nameIndex := 5, descriptorIndex := 6, attributes := #[] }, { accessFlags := 8, nameIndex := 142, descriptorIndex := 143, attributes := #[] }, { accessFlags := 136, nameIndex := 151, descriptorIndex := 36, attributes := #[] }] 32 2 #[] #[{ accessFlags := 26, nameIndex := 95, descriptorIndex := 96, attributes := #[] }, { accessFlags := 26, nameIndex := 99, descriptorIndex := 17, attributes := #[] }, { accessFlags := 10, nameIndex := 106, descriptorIndex := 56, attributes := #[] }, { accessFlags := 26, nameIndex := 109, descriptorIndex := 110, attributes := #[] }, { accessFlags := 24, nameIndex := 62, descriptorIndex := 63, attributes := #[] }, { accessFlags := 24, nameIndex := 72, descriptorIndex := 63, attributes := #[] }, { accessFlags := 24, nameIndex := 118, descriptorIndex := 119, attributes := #[] }, { accessFlags := 24, nameIndex := 125, descriptorIndex := 126, attributes := #[] }, { accessFlags := 24, nameIndex := 131, descriptorIndex := 132, attributes := #[] }, { accessFlags := 4120, nameIndex := 50, descriptorIndex := 17, attributes := #[] }])
  fields := #[{ name := "SALT32L", type := .long, accessFlags := 26, slot := 0, constantValue := 0 }, { name := "REVERSE", type := .boolean, accessFlags := 26, slot := 1, constantValue := 0 }, { name := "archivedObjects", type := (.array (.object "java/lang/Object")), accessFlags := 10, slot := 2, constantValue := 0 }, { name := "EMPTY", type := (.object "java/lang/Object"), accessFlags := 26, slot := 3, constantValue := 0 }, { name := "EMPTY_LIST", type := (.object "java/util/ImmutableCollections$ListN"), accessFlags := 24, slot := 4, constantValue := 0 }, { name := "EMPTY_LIST_NULLS", type := (.object "java/util/ImmutableCollections$ListN"), accessFlags := 24, slot := 5, constantValue := 0 }, { name := "EMPTY_SET", type := (.object "java/util/ImmutableCollections$SetN"), accessFlags := 24, slot := 6, constantValue := 0 }, { name := "EMPTY_MAP", type := (.object "java/util/ImmutableCollections$MapN"), accessFlags := 24, slot := 7, constantValue := 0 }, { name := "EXPAND_FACTOR", type := .int, accessFlags := 24, slot := 8, constantValue := 0 }, { name := "$assertionsDisabled", type := .boolean, accessFlags := 4120, slot := 9, constantValue := 0 }]
  methods := #[k21m0, k21m1, k21m2]
  instanceTypes := #[]
  staticTypes := #[.long, .boolean, (.array (.object "java/lang/Object")), (.object "java/lang/Object"), (.object "java/util/ImmutableCollections$ListN"), (.object "java/util/ImmutableCollections$ListN"), (.object "java/util/ImmutableCollections$SetN"), (.object "java/util/ImmutableCollections$MapN"), .int, .boolean]
  resolved := Array.replicate 213 none
  statics := some 2 }

def pool22 : Array CpInfo := pool [(1, .methodref 2 3), (0, .class_ 4), (0, .nameAndType 5 6), (0, u "java/util/AbstractCollection"), (0, u "<init>"), (0, u "()V"), (1, .class_ 10), (1, u "java/util/ImmutableCollections"), (2, .class_ 14), (0, u "java/util/ImmutableCollections$AbstractImmutableCollection")] 41

def k22c0 : Code := { maxStack := 1, maxLocals := 1, code := jdk_47_method_1_code, exceptionTable := #[], attributes := #[] }
def k22m0 : Method := { name := "<init>", desc := "()V", sig := { parameters := [], returnType := none }, accessFlags := 0, code := some k22c0 }
/-- java/util/ImmutableCollections$AbstractImmutableCollection -/
def k22 : Class := { plain "java/util/ImmutableCollections$AbstractImmutableCollection" (some 11) with
  accessFlags := 1056
  interfaces := #[]
  cf := some (fileOf pool22 13 #[.nestHost 8] #[{ accessFlags := 0, nameIndex := 5, descriptorIndex := 6, attributes := #[] }] 1056 2 #[] #[])
  fields := #[]
  methods := #[k22m0]
  instanceTypes := #[]
  staticTypes := #[]
  resolved := Array.replicate 56 none
  statics := none }

def pool23 : Array CpInfo := pool [(1, .methodref 2 3), (0, .class_ 4), (0, .nameAndType 5 6), (0, u "java/util/ImmutableCollections$AbstractImmutableCollection"), (0, u "<init>"), (0, u "()V"), (1, .class_ 10), (1, u "java/util/ImmutableCollections"), (3, .class_ 16), (1, u "java/util/ImmutableCollections$AbstractImmutableList"), (60, .class_ 78), (0, u "java/util/List"), (45, .class_ 125), (0, u "java/util/RandomAccess")] 70

def k23c0 : Code := { maxStack := 1, maxLocals := 1, code := jdk_46_method_1_code, exceptionTable := #[], attributes := #[] }
def k23m0 : Method := { name := "<init>", desc := "()V", sig := { parameters := [], returnType := none }, accessFlags := 0, code := some k23c0 }
/-- java/util/ImmutableCollections$AbstractImmutableList -/
def k23 : Class := { plain "java/util/ImmutableCollections$AbstractImmutableList" (some 22) with
  accessFlags := 1056
  interfaces := #[13, 15]
  cf := some (fileOf pool23 14 #[.nestHost 8] #[{ accessFlags := 0, nameIndex := 5, descriptorIndex := 6, attributes := #[] }] 1056 2 #[77, 124] #[])
  fields := #[]
  methods := #[k23m0]
  instanceTypes := #[]
  staticTypes := #[]
  resolved := Array.replicate 196 none
  statics := none }

def pool24 : Array CpInfo := pool [(1, .methodref 2 3), (0, .class_ 4), (0, .nameAndType 5 6), (0, u "java/util/ImmutableCollections$AbstractImmutableList"), (0, u "<init>"), (0, u "()V"), (0, .methodref 8 9), (0, .class_ 10), (0, .nameAndType 11 12), (0, u "java/util/Objects"), (0, u "requireNonNull"), (0, u "(Ljava/lang/Object;)Ljava/lang/Object;"), (0, .fieldref 14 15), (0, .class_ 16), (0, .nameAndType 17 18), (0, u "java/util/ImmutableCollections$List12"), (0, u "e0"), (0, u "Ljava/lang/Object;"), (0, .fieldref 20 21), (0, .class_ 22), (0, .nameAndType 23 18), (0, u "java/util/ImmutableCollections"), (0, u "EMPTY"), (0, .fieldref 14 25), (0, .nameAndType 26 18), (0, u "e1"), (43, .class_ 71), (0, u "java/io/Serializable"), (4, u "(Ljava/lang/Object;)V"), (8, u "(Ljava/lang/Object;Ljava/lang/Object;)V"), (2, u "isEmpty"), (0, u "()Z")] 35

def k24c0 : Code := { maxStack := 2, maxLocals := 2, code := jdk_44_method_1_code, exceptionTable := #[], attributes := #[] }
def k24m0 : Method := { name := "<init>", desc := "(Ljava/lang/Object;)V", sig := { parameters := [(.object "java/lang/Object")], returnType := none }, accessFlags := 0, code := some k24c0 }
def k24c1 : Code := { maxStack := 2, maxLocals := 3, code := jdk_44_method_2_code, exceptionTable := #[], attributes := #[] }
def k24m1 : Method := { name := "<init>", desc := "(Ljava/lang/Object;Ljava/lang/Object;)V", sig := { parameters := [(.object "java/lang/Object"), (.object "java/lang/Object")], returnType := none }, accessFlags := 0, code := some k24c1 }
def k24c2 : Code := { maxStack := 1, maxLocals := 1, code := jdk_44_method_4_code, exceptionTable := #[], attributes := #[] }
def k24m2 : Method := { name := "isEmpty", desc := "()Z", sig := { parameters := [], returnType := some .boolean }, accessFlags := 1, code := some k24c2 }
/-- java/util/ImmutableCollections$List12 -/
def k24 : Class := { plain "java/util/ImmutableCollections$List12" (some 23) with
  accessFlags := 48
  interfaces := #[2]
  cf := some (fileOf pool24 14 #[.nestHost 20] #[{ accessFlags := 0, nameIndex := 5, descriptorIndex := 76, attributes := #[] }, { accessFlags := 0, nameIndex := 5, descriptorIndex := 85, attributes := #[] }, { accessFlags := 1, nameIndex := 88, descriptorIndex := 89, attributes := #[] }] 48 2 #[70] #[{ accessFlags := 18, nameIndex := 17, descriptorIndex := 18, attributes := #[] }, { accessFlags := 18, nameIndex := 26, descriptorIndex := 18, attributes := #[] }])
  fields := #[{ name := "e0", type := (.object "java/lang/Object"), accessFlags := 18, slot := 0, constantValue := 0 }, { name := "e1", type := (.object "java/lang/Object"), accessFlags := 18, slot := 1, constantValue := 0 }]
  methods := #[k24m0, k24m1, k24m2]
  instanceTypes := #[(.object "java/lang/Object"), (.object "java/lang/Object")]
  staticTypes := #[]
  resolved := Array.replicate 125 none
  statics := none }

def pool25 : Array CpInfo := pool [(1, .methodref 2 3), (0, .class_ 4), (0, .nameAndType 5 6), (0, u "java/util/ImmutableCollections$AbstractImmutableList"), (0, u "<init>"), (0, u "()V"), (0, .fieldref 8 9), (0, .class_ 10), (0, .nameAndType 11 12), (0, u "java/util/ImmutableCollections$ListN"), (0, u "elements"), (0, u "[Ljava/lang/Object;"), (0, .fieldref 8 14), (0, .nameAndType 15 16), (0, u "allowNulls"), (0, u "Z"), (42, .class_ 60), (0, u "java/io/Serializable"), (4, u "([Ljava/lang/Object;Z)V"), (8, u "isEmpty"), (0, u "()Z"), (38, .class_ 115), (0, u "java/util/ImmutableCollections")] 3

def k25c0 : Code := { maxStack := 2, maxLocals := 3, code := jdk_45_method_1_code, exceptionTable := #[], attributes := #[] }
def k25m0 : Method := { name := "<init>", desc := "([Ljava/lang/Object;Z)V", sig := { parameters := [(.array (.object "java/lang/Object")), .boolean], returnType := none }, accessFlags := 2, code := some k25c0 }
def k25c1 : Code := { maxStack := 1, maxLocals := 1, code := jdk_45_method_2_code, exceptionTable := #[], attributes := #[] }
def k25m1 : Method := { name := "isEmpty", desc := "()Z", sig := { parameters := [], returnType := some .boolean }, accessFlags := 1, code := some k25c1 }
/-- java/util/ImmutableCollections$ListN -/
def k25 : Class := { plain "java/util/ImmutableCollections$ListN" (some 23) with
  accessFlags := 48
  interfaces := #[2]
  cf := some (fileOf pool25 8 #[.nestHost 114] #[{ accessFlags := 2, nameIndex := 5, descriptorIndex := 65, attributes := #[] }, { accessFlags := 1, nameIndex := 74, descriptorIndex := 75, attributes := #[] }] 48 2 #[59] #[{ accessFlags := 18, nameIndex := 11, descriptorIndex := 12, attributes := #[] }, { accessFlags := 18, nameIndex := 15, descriptorIndex := 16, attributes := #[] }])
  fields := #[{ name := "elements", type := (.array (.object "java/lang/Object")), accessFlags := 18, slot := 0, constantValue := 0 }, { name := "allowNulls", type := .boolean, accessFlags := 18, slot := 1, constantValue := 0 }]
  methods := #[k25m0, k25m1]
  instanceTypes := #[(.array (.object "java/lang/Object")), .boolean]
  staticTypes := #[]
  resolved := Array.replicate 119 none
  statics := none }

def pool26 : Array CpInfo := pool [(2, .class_ 4), (1, u "java/lang/Object"), (0, u "<init>"), (0, u "()V"), (7, .class_ 16), (1, u "java/util/Arrays"), (57, .class_ 76), (1, u "java/util/Arrays$NaturalOrder"), (9, .methodref 2 87), (0, .nameAndType 88 89), (0, u "getClass"), (0, u "()Ljava/lang/Class;"), (20, .class_ 111), (0, u "[Ljava/lang/Object;"), (1, .class_ 115), (1, u "java/util/Arrays$LegacyMergeSort"), (1, u "Z"), (32, .methodref 151 152), (0, .class_ 153), (0, .nameAndType 154 155), (0, u "java/lang/System"), (0, u "arraycopy"), (0, u "(Ljava/lang/Object;ILjava/lang/Object;II)V"), (144, .methodref 14 301), (0, .nameAndType 302 303), (0, u "copyOf"), (0, u "([Ljava/lang/Object;ILjava/lang/Class;)[Ljava/lang/Object;"), (0, .methodref 305 306), (0, .class_ 307), (0, .nameAndType 308 309), (0, u "java/lang/Math"), (0, u "min"), (0, u "(II)I"), (65, .class_ 376), (0, u "java/util/Arrays$ArrayList"), (68, u "$assertionsDisabled"), (269, u "MIN_ARRAY_SORT_GRAN"), (0, u "I"), (2, u "INSERTIONSORT_THRESHOLD"), (140, u "([Ljava/lang/Object;I)[Ljava/lang/Object;"), (114, .class_ 976), (0, u "java/util/Arrays$ArrayItr")] 52

def k26m0 : Method := { name := "<init>", desc := "()V", sig := { parameters := [], returnType := none }, accessFlags := 2, code := none }
def k26c1 : Code := { maxStack := 3, maxLocals := 2, code := jdk_65_method_119_code, exceptionTable := #[], attributes := #[] }
def k26m1 : Method := { name := "copyOf", desc := "([Ljava/lang/Object;I)[Ljava/lang/Object;", sig := { parameters := [(.array (.object "java/lang/Object")), .int], returnType := some (.array (.object "java/lang/Object")) }, accessFlags := 9, code := some k26c1 }
def k26c2 : Code := { maxStack := 6, maxLocals := 4, code := jdk_65_method_120_code, exceptionTable := #[], attributes := #[] }
def k26m2 : Method := { name := "copyOf", desc := "([Ljava/lang/Object;ILjava/lang/Class;)[Ljava/lang/Object;", sig := { parameters := [(.array (.object "java/lang/Object")), .int, (.object "java/lang/Class")], returnType := some (.array (.object "java/lang/Object")) }, accessFlags := 9, code := some k26c2 }
/-- java/util/Arrays -/
def k26 : Class := { plain "java/util/Arrays" (some 0) with
  accessFlags := 49
  interfaces := #[]
  cf := some (fileOf pool26 14 #[.nestMembers #[975, 375, 113, 74]] #[{ accessFlags := 2, nameIndex := 5, descriptorIndex := 6, attributes := #[] }, { accessFlags := 9, nameIndex := 302, descriptorIndex := 860, attributes := #[] }, { accessFlags := 9, nameIndex := 302, descriptorIndex := 303, attributes := #[] }] 49 2 #[] #[{ accessFlags := 26, nameIndex := 715, descriptorIndex := 716, attributes := #[] }, { accessFlags := 26, nameIndex := 719, descriptorIndex := 716, attributes := #[] }, { accessFlags := 4120, nameIndex := 445, descriptorIndex := 117, attributes := #[] }])
  fields := #[{ name := "MIN_ARRAY_SORT_GRAN", type := .int, accessFlags := 26, slot := 0, constantValue := 0 }, { name := "INSERTIONSORT_THRESHOLD", type := .int, accessFlags := 26, slot := 1, constantValue := 0 }, { name := "$assertionsDisabled", type := .boolean, accessFlags := 4120, slot := 2, constantValue := 0 }]
  methods := #[k26m0, k26m1, k26m2]
  instanceTypes := #[]
  staticTypes := #[.int, .int, .boolean]
  resolved := Array.replicate 1029 none
  statics := none }

def pool27 : Array CpInfo := pool [(2, .class_ 4), (1, u "java/lang/Object"), (0, u "<init>"), (0, u "()V"), (1, .class_ 10), (1, u "java/lang/System"), (0, u "allowSecurityManager"), (0, u "I"), (16, u "cons"), (0, u "Ljava/io/Console;"), (77, .class_ 110), (1, u "java/lang/System$CallersHolder"), (43, u "initialErrStream"), (0, u "Ljava/io/PrintStream;"), (19, u "security"), (0, u "Ljava/lang/SecurityManager;"), (31, .class_ 209), (0, u "java/lang/System$1"), (7, u "props"), (0, u "Ljava/util/Properties;"), (2, u "lineSeparator"), (0, u "Ljava/lang/String;"), (96, .class_ 321), (1, u "java/lang/System$LoggerFinder"), (5, .class_ 328), (0, u "java/lang/System$Logger"), (67, u "err"), (2, u "out"), (91, u "notSupportedJnuEncoding"), (15, u "in"), (17, u "initialIn"), (0, u "Ljava/io/InputStream;"), (35, u "bootLayer"), (0, u "Ljava/lang/ModuleLayer;"), (99, .class_ 664), (0, u "java/lang/System$2"), (9, u "NEVER"), (2, u "MAYBE"), (49, u "arraycopy"), (0, u "(Ljava/lang/Object;ILjava/lang/Object;II)V"), (72, .class_ 802), (0, u "java/lang/System$Logger$Level")] 31

def k27m0 : Method := { name := "<init>", desc := "()V", sig := { parameters := [], returnType := none }, accessFlags := 2, code := none }
def k27m1 : Method := { name := "arraycopy", desc := "(Ljava/lang/Object;ILjava/lang/Object;II)V", sig := { parameters := [(.object "java/lang/Object"), .int, (.object "java/lang/Object"), .int, .int], returnType := none }, accessFlags := 265, code := none }
/-- java/lang/System -/
def k27 : Class := { plain "java/lang/System" (some 0) with
  accessFlags := 49
  interfaces := #[]
  cf := some (fileOf pool27 8 #[.nestMembers #[319, 327, 801, 108, 663, 208]] #[{ accessFlags := 2, nameIndex := 5, descriptorIndex := 6, attributes := #[] }, { accessFlags := 265, nameIndex := 727, descriptorIndex := 728, attributes := #[] }] 49 2 #[] #[{ accessFlags := 25, nameIndex := 507, descriptorIndex := 526, attributes := #[] }, { accessFlags := 25, nameIndex := 399, descriptorIndex := 155, attributes := #[] }, { accessFlags := 25, nameIndex := 396, descriptorIndex := 155, attributes := #[] }, { accessFlags := 10, nameIndex := 525, descriptorIndex := 526, attributes := #[] }, { accessFlags := 26, nameIndex := 674, descriptorIndex := 12, attributes := #[] }, { accessFlags := 26, nameIndex := 677, descriptorIndex := 12, attributes := #[] }, { accessFlags := 10, nameIndex := 11, descriptorIndex := 12, attributes := #[] }, { accessFlags := 74, nameIndex := 175, descriptorIndex := 176, attributes := #[] }, { accessFlags := 10, nameIndex := 491, descriptorIndex := 222, attributes := #[] }, { accessFlags := 74, nameIndex := 29, descriptorIndex := 30, attributes := #[] }, { accessFlags := 74, nameIndex := 154, descriptorIndex := 155, attributes := #[] }, { accessFlags := 10, nameIndex := 217, descriptorIndex := 218, attributes := #[] }, { accessFlags := 10, nameIndex := 221, descriptorIndex := 222, attributes := #[] }, { accessFlags := 8, nameIndex := 562, descriptorIndex := 563, attributes := #[] }])
  fields := #[{ name := "in", type := (.object "java/io/InputStream"), accessFlags := 25, slot := 0, constantValue := 0 }, { name := "out", type := (.object "java/io/PrintStream"), accessFlags := 25, slot := 1, constantValue := 0 }, { name := "err", type := (.object "java/io/PrintStream"), accessFlags := 25, slot := 2, constantValue := 0 }, { name := "initialIn", type := (.object "java/io/InputStream"), accessFlags := 10, slot := 3, constantValue := 0 }, { name := "NEVER", type := .int, accessFlags := 26, slot := 4, constantValue := 0 }, { name := "MAYBE", type := .int, accessFlags := 26, slot := 5, constantValue := 0 }, { name := "allowSecurityManager", type := .int, accessFlags := 10, slot := 6, constantValue := 0 }, { name := "security", type := (.object "java/lang/SecurityManager"), accessFlags := 74, slot := 7, constantValue := 0 }, { name := "notSupportedJnuEncoding", type := (.object "java/lang/String"), accessFlags := 10, slot := 8, constantValue := 0 }, { name := "cons", type := (.object "java/io/Console"), accessFlags := 74, slot := 9, constantValue := 0 }, { name := "initialErrStream", type := (.object "java/io/PrintStream"), accessFlags := 74, slot := 10, constantValue := 0 }, { name := "props", type := (.object "java/util/Properties"), accessFlags := 10, slot := 11, constantValue := 0 }, { name := "lineSeparator", type := (.object "java/lang/String"), accessFlags := 10, slot := 12, constantValue := 0 }, { name := "bootLayer", type := (.object "java/lang/ModuleLayer"), accessFlags := 8, slot := 13, constantValue := 0 }]
  methods := #[k27m0, k27m1]
  instanceTypes := #[]
  staticTypes := #[(.object "java/io/InputStream"), (.object "java/io/PrintStream"), (.object "java/io/PrintStream"), (.object "java/io/InputStream"), .int, .int, .int, (.object "java/lang/SecurityManager"), (.object "java/lang/String"), (.object "java/io/Console"), (.object "java/io/PrintStream"), (.object "java/util/Properties"), (.object "java/lang/String"), (.object "java/lang/ModuleLayer")]
  resolved := Array.replicate 834 none
  statics := none }

def pool28 : Array CpInfo := pool [(2, .class_ 4), (1, u "java/lang/Object"), (0, u "<init>"), (0, u "()V"), (35, .class_ 44), (1, u "java/util/Objects"), (0, u "requireNonNull"), (0, u "(Ljava/lang/Object;)Ljava/lang/Object;")] 137

def k28m0 : Method := { name := "<init>", desc := "()V", sig := { parameters := [], returnType := none }, accessFlags := 2, code := none }
def k28c1 : Code := { maxStack := 2, maxLocals := 1, code := jdk_31_method_10_code, exceptionTable := #[], attributes := #[] }
def k28m1 : Method := { name := "requireNonNull", desc := "(Ljava/lang/Object;)Ljava/lang/Object;", sig := { parameters := [(.object "java/lang/Object")], returnType := some (.object "java/lang/Object") }, accessFlags := 9, code := some k28c1 }
/-- java/util/Objects -/
def k28 : Class := { plain "java/util/Objects" (some 0) with
  accessFlags := 49
  interfaces := #[]
  cf := some (fileOf pool28 42 #[] #[{ accessFlags := 2, nameIndex := 5, descriptorIndex := 6, attributes := #[] }, { accessFlags := 9, nameIndex := 45, descriptorIndex := 46, attributes := #[] }] 49 2 #[] #[])
  fields := #[]
  methods := #[k28m0, k28m1]
  instanceTypes := #[]
  staticTypes := #[]
  resolved := Array.replicate 184 none
  statics := none }

def pool29 : Array CpInfo := pool [(2, .class_ 4), (1, u "java/lang/Object"), (0, u "<init>"), (0, u "()V"), (17, .class_ 26), (1, u "jdk/internal/util/Preconditions"), (28, .class_ 56), (0, u "jdk/internal/util/Preconditions$4"), (57, .class_ 115), (0, u "jdk/internal/util/Preconditions$1"), (7, u "SIOOBE_FORMATTER"), (0, u "Ljava/util/function/BiFunction;"), (0, .class_ 126), (0, u "jdk/internal/util/Preconditions$2"), (3, u "AIOOBE_FORMATTER"), (0, .class_ 132), (0, u "jdk/internal/util/Preconditions$3"), (3, u "IOOBE_FORMATTER")] 57

def k29m0 : Method := { name := "<init>", desc := "()V", sig := { parameters := [], returnType := none }, accessFlags := 1, code := none }
/-- jdk/internal/util/Preconditions -/
def k29 : Class := { plain "jdk/internal/util/Preconditions" (some 0) with
  accessFlags := 33
  interfaces := #[]
  cf := some (fileOf pool29 24 #[.nestMembers #[55, 131, 125, 114]] #[{ accessFlags := 1, nameIndex := 5, descriptorIndex := 6, attributes := #[] }] 33 2 #[] #[{ accessFlags := 25, nameIndex := 123, descriptorIndex := 124, attributes := #[] }, { accessFlags := 25, nameIndex := 130, descriptorIndex := 124, attributes := #[] }, { accessFlags := 25, nameIndex := 136, descriptorIndex := 124, attributes := #[] }])
  fields := #[{ name := "SIOOBE_FORMATTER", type := (.object "java/util/function/BiFunction"), accessFlags := 25, slot := 0, constantValue := 0 }, { name := "AIOOBE_FORMATTER", type := (.object "java/util/function/BiFunction"), accessFlags := 25, slot := 1, constantValue := 0 }, { name := "IOOBE_FORMATTER", type := (.object "java/util/function/BiFunction"), accessFlags := 25, slot := 2, constantValue := 0 }]
  methods := #[k29m0]
  instanceTypes := #[]
  staticTypes := #[(.object "java/util/function/BiFunction"), (.object "java/util/function/BiFunction"), (.object "java/util/function/BiFunction")]
  resolved := Array.replicate 194 none
  statics := some 3 }

def pool30 : Array CpInfo := pool [(9, u "<init>"), (6, .class_ 18), (1, u "java/lang/Object"), (0, u "()V"), (1, .class_ 23), (1, u "jdk/internal/util/ArraysSupport"), (0, u "LOG2_ARRAY_LONG_INDEX_SCALE"), (0, u "I"), (2, u "U"), (0, u "Ljdk/internal/misc/Unsafe;"), (8, u "BIG_ENDIAN"), (0, u "Z"), (8, u "LOG2_BYTE_BIT_SIZE"), (4, u "LOG2_ARRAY_INT_INDEX_SCALE"), (54, u "JLA"), (0, u "Ljdk/internal/access/JavaLangAccess;"), (11, u "LOG2_ARRAY_BOOLEAN_INDEX_SCALE"), (9, u "LOG2_ARRAY_BYTE_INDEX_SCALE"), (5, u "LOG2_ARRAY_CHAR_INDEX_SCALE"), (5, u "LOG2_ARRAY_SHORT_INDEX_SCALE"), (18, u "LOG2_ARRAY_FLOAT_INDEX_SCALE"), (24, u "LOG2_ARRAY_DOUBLE_INDEX_SCALE"), (89, u "T_BOOLEAN"), (2, u "T_CHAR"), (1, u "T_FLOAT"), (1, u "T_DOUBLE"), (1, u "T_BYTE"), (1, u "T_SHORT"), (1, u "T_INT"), (1, u "T_LONG"), (1, u "SOFT_MAX_ARRAY_LENGTH")] 83

def k30m0 : Method := { name := "<init>", desc := "()V", sig := { parameters := [], returnType := none }, accessFlags := 2, code := none }
/-- jdk/internal/util/ArraysSupport -/
def k30 : Class := { plain "jdk/internal/util/ArraysSupport" (some 0) with
  accessFlags := 33
  interfaces := #[]
  cf := some (fileOf pool30 21 #[] #[{ accessFlags := 2, nameIndex := 9, descriptorIndex := 19, attributes := #[] }] 33 16 #[] #[{ accessFlags := 24, nameIndex := 28, descriptorIndex := 29, attributes := #[] }, { accessFlags := 26, nameIndex := 38, descriptorIndex := 39, attributes := #[] }, { accessFlags := 25, nameIndex := 121, descriptorIndex := 25, attributes := #[] }, { accessFlags := 25, nameIndex := 131, descriptorIndex := 25, attributes := #[] }, { accessFlags := 25, nameIndex := 137, descriptorIndex := 25, attributes := #[] }, { accessFlags := 25, nameIndex := 143, descriptorIndex := 25, attributes := #[] }, { accessFlags := 25, nameIndex := 53, descriptorIndex := 25, attributes := #[] }, { accessFlags := 25, nameIndex := 24, descriptorIndex := 25, attributes := #[] }, { accessFlags := 25, nameIndex := 162, descriptorIndex := 25, attributes := #[] }, { accessFlags := 25, nameIndex := 187, descriptorIndex := 25, attributes := #[] }, { accessFlags := 26, nameIndex := 48, descriptorIndex := 25, attributes := #[] }, { accessFlags := 25, nameIndex := 277, descriptorIndex := 25, attributes := #[] }, { accessFlags := 25, nameIndex := 280, descriptorIndex := 25, attributes := #[] }, { accessFlags := 25, nameIndex := 282, descriptorIndex := 25, attributes := #[] }, { accessFlags := 25, nameIndex := 284, descriptorIndex := 25, attributes := #[] }, { accessFlags := 25, nameIndex := 286, descriptorIndex := 25, attributes := #[] }, { accessFlags := 25, nameIndex := 288, descriptorIndex := 25, attributes := #[] }, { accessFlags := 25, nameIndex := 290, descriptorIndex := 25, attributes := #[] }, { accessFlags := 25, nameIndex := 292, descriptorIndex := 25, attributes := #[] }, { accessFlags := 26, nameIndex := 108, descriptorIndex := 109, attributes := #[] }, { accessFlags := 25, nameIndex := 294, descriptorIndex := 25, attributes := #[] }])
  fields := #[{ name := "U", type := (.object "jdk/internal/misc/Unsafe"), accessFlags := 24, slot := 0, constantValue := 0 }, { name := "BIG_ENDIAN", type := .boolean, accessFlags := 26, slot := 1, constantValue := 0 }, { name := "LOG2_ARRAY_BOOLEAN_INDEX_SCALE", type := .int, accessFlags := 25, slot := 2, constantValue := 0 }, { name := "LOG2_ARRAY_BYTE_INDEX_SCALE", type := .int, accessFlags := 25, slot := 3, constantValue := 0 }, { name := "LOG2_ARRAY_CHAR_INDEX_SCALE", type := .int, accessFlags := 25, slot := 4, constantValue := 0 }, { name := "LOG2_ARRAY_SHORT_INDEX_SCALE", type := .int, accessFlags := 25, slot := 5, constantValue := 0 }, { name := "LOG2_ARRAY_INT_INDEX_SCALE", type := .int, accessFlags := 25, slot := 6, constantValue := 0 }, { name := "LOG2_ARRAY_LONG_INDEX_SCALE", type := .int, accessFlags := 25, slot := 7, constantValue := 0 }, { name := "LOG2_ARRAY_FLOAT_INDEX_SCALE", type := .int, accessFlags := 25, slot := 8, constantValue := 0 }, { name := "LOG2_ARRAY_DOUBLE_INDEX_SCALE", type := .int, accessFlags := 25, slot := 9, constantValue := 0 }, { name := "LOG2_BYTE_BIT_SIZE", type := .int, accessFlags := 26, slot := 10, constantValue := 0 }, { name := "T_BOOLEAN", type := .int, accessFlags := 25, slot := 11, constantValue := 0 }, { name := "T_CHAR", type := .int, accessFlags := 25, slot := 12, constantValue := 0 }, { name := "T_FLOAT", type := .int, accessFlags := 25, slot := 13, constantValue := 0 }, { name := "T_DOUBLE", type := .int, accessFlags := 25, slot := 14, constantValue := 0 }, { name := "T_BYTE", type := .int, accessFlags := 25, slot := 15, constantValue := 0 }, { name := "T_SHORT", type := .int, accessFlags := 25, slot := 16, constantValue := 0 }, { name := "T_INT", type := .int, accessFlags := 25, slot := 17, constantValue := 0 }, { name := "T_LONG", type := .int, accessFlags := 25, slot := 18, constantValue := 0 }, { name := "JLA", type := (.object "jdk/internal/access/JavaLangAccess"), accessFlags := 26, slot := 19, constantValue := 0 }, { name := "SOFT_MAX_ARRAY_LENGTH", type := .int, accessFlags := 25, slot := 20, constantValue := 0 }]
  methods := #[k30m0]
  instanceTypes := #[]
  staticTypes := #[(.object "jdk/internal/misc/Unsafe"), .boolean, .int, .int, .int, .int, .int, .int, .int, .int, .int, .int, .int, .int, .int, .int, .int, .int, .int, (.object "jdk/internal/access/JavaLangAccess"), .int]
  resolved := Array.replicate 378 none
  statics := none }

def pool31 : Array CpInfo := pool [(1, u "java/lang/Class"), (0, .class_ 1), (0, u "java/lang/Object"), (0, .class_ 3)] 0

/-- java/lang/Class -/
def k31 : Class := { plain "java/lang/Class" (some 0) with
  accessFlags := 49
  interfaces := #[]
  cf := some (fileOf pool31 2 #[] #[] 49 4 #[] #[])
  fields := #[]
  methods := #[]
  instanceTypes := #[]
  staticTypes := #[]
  resolved := Array.replicate 5 none
  statics := none }

/-- the primitive byte -/
def k32 : Class := { plain "byte" none with kind := .primitive 'B', accessFlags := 0x411 }
/-- [B -/
def k33 : Class := { plain "[B" (some 0) with kind := .array 32 .byte, interfaces := #[16, 2], accessFlags := 1041 }

/-- the primitive int -/
def k34 : Class := { plain "int" none with kind := .primitive 'I', accessFlags := 0x411 }
/-- [I -/
def k35 : Class := { plain "[I" (some 0) with kind := .array 34 .int, interfaces := #[16, 2], accessFlags := 1041 }

/-- [Ljava/lang/Object; -/
def k36 : Class := { plain "[Ljava/lang/Object;" (some 0) with kind := .array 0 (.object "java/lang/Object"), interfaces := #[16, 2], accessFlags := 1041, mirror := some 4 }

def heap : Heap := #[{ cls := 7, slots := #[.long 0, .int 1, .null, .int 0, .null, .int 0, .int 0], vm := .statics 7 },
  { cls := 17, slots := #[.long 0, .int 0, .ref 7, .ref 8], vm := .statics 17 },
  { cls := 21, slots := #[.long 0, .int 0, .null, .ref 9, .ref 6, .null, .null, .null, .int 0, .int 1], vm := .statics 21 },
  { cls := 29, slots := #[.null, .null, .null], vm := .statics 29 },
  { cls := 31, slots := #[], vm := .mirror 36 },
  { cls := 36, slots := #[], vm := .none },
  { cls := 25, slots := #[.ref 5, .int 0], vm := .none },
  { cls := 36, slots := #[], vm := .none },
  { cls := 36, slots := #[], vm := .none },
  { cls := 0, slots := #[], vm := .none }]
def classes : Array Class := #[k0, k1, k2, k3, k4, k5, k6, k7, k8, k9, k10, k11, k12, k13, k14, k15, k16, k17, k18, k19, k20, k21, k22, k23, k24, k25, k26, k27, k28, k29, k30, k31, k32, k33, k34, k35, k36]
def interned : List (Array UInt16 × Addr) := []
def slotsUsed : Nat := 26
def theMethod : MethodId := ⟨1, 1⟩
def args0 : Array Value := #[.int 2, .int 0, .int 7, .int 321]
def aboutOver (below : List Frame) : State where
  vm := { classes := classes, interned := interned.toArray }
  heap := heap
  slotsUsed := slotsUsed
  threads := #[{ frames := .invoking theMethod args0 :: below }]
def below0 : List Frame := [.native { method := ⟨0, 0⟩, args := #[] }]
def about1 : State := aboutOver below0
def p0 : Program := .bare "" "" ""
def e0 : Env := launch0.env 0 0 0
theorem w_frames : about1.frames = Frame.invoking theMethod args0 :: below0 := rfl
set_option maxRecDepth 65536 in
theorem w_args : argsFit about1.vm theMethod args0 = true := by decide +kernel
set_option maxRecDepth 65536 in
theorem w_heap : heapFits about1 = true := by decide +kernel
set_option maxRecDepth 65536 in
theorem w_runnable : about1.curStatus? = some .runnable := by decide +kernel
set_option maxRecDepth 65536 in
theorem w_alone : about1.alone = true := by decide +kernel
set_option maxRecDepth 65536 in
theorem w_named : about1.methodNamed? x = some theMethod := by decide +kernel
set_option maxRecDepth 65536 in
theorem w_hears : about1.hears theMethod below0 = true := by decide +kernel
set_option maxRecDepth 65536 in
theorem w_ripe : about1.ripe theMethod args0 below0 = true := by decide +kernel
theorem w_running : about1.status = .running := rfl
set_option maxRecDepth 65536 in
theorem w_room : about1.hasRoom e0.platform room_1 = true :=
  launch0.hasRoom_least _ room_1 (by decide +kernel) (by decide +kernel) (by decide +kernel) (by decide +kernel) (by decide +kernel) (by decide +kernel)
theorem allAtoms_all (ts : List Jvm.Cond) (a : Array Jvm.Value) (st : Jvm.State) : (allAtoms ts).before a st = ts.all (fun c => c.before a st) := by
  induction ts with
  | nil => rfl
  | cons c t ih =>
    show (Jvm.Cond.and c (allAtoms t)).before a st = _
    rw [Jvm.Cond.before_and, ih, List.all_cons]
def words1 : List Jvm.Cond := Jvm.Cond.code x code maxLocals ret :: tables_1
/-- a 'code' word, met by the world's own term for the bytes: nothing is compared byte by byte -/
theorem code_word {y : MethodName} {bytes : ByteArray} {mx : Nat} {rt : Option FieldType} {a : Array Value} {s : State} {m : MethodId} {meth : Method} {c : Code} (h1 : s.methodNamed? y = some m) (h2 : s.vm.method? m = some meth) (h3 : meth.code = some c) (h4 : c.code = bytes)
    (h5 : (c.maxLocals == mx && c.exceptionTable.isEmpty && decide (c.maxStack ≤ mostOperands) && decide (meth.sig.returnType = rt) && !meth.locks && decide (parseMethodDescriptor y.desc = some meth.sig)) = true) : (Jvm.Cond.code y bytes mx rt).before a s = true := by
  simp only [Bool.and_eq_true, beq_iff_eq, Bool.not_eq_true', decide_eq_true_eq] at h5
  obtain ⟨⟨⟨⟨⟨g1, g2⟩, g3⟩, g4⟩, g5⟩, g6⟩ := h5
  simp [Cond.before, Cond.holds, Cond.value, h1, h2, h3, h4, g1, g2, g3, g4, g5, g6]
def isCode : Jvm.Cond → Bool
  | .code _ _ _ _ => true
  | _ => false
theorem all_split {L : List Jvm.Cond} {P : Jvm.Cond → Bool} (h1 : L.all (fun c => isCode c || P c) = true) (h2 : ∀ c ∈ L.filter isCode, P c = true) : L.all P = true := by
  refine List.all_eq_true.mpr fun c hc => ?_
  have h := List.all_eq_true.mp h1 c hc
  rcases Bool.eq_false_or_eq_true (isCode c) with hi | hi
  · exact h2 c (List.mem_filter.mpr ⟨hc, hi⟩)
  · simpa [hi] using h
set_option maxRecDepth 65536 in
theorem w_c0 : (Jvm.Cond.code x code maxLocals ret).before args0 about1 = true := code_word (m := ⟨1, 1⟩) (meth := k1m1) (c := k1c1) (by decide +kernel) rfl rfl rfl (by decide +kernel)
set_option maxRecDepth 65536 in
theorem w_c1 : (Jvm.Cond.code ({ cls := "java/lang/String", name := "valueOf", desc := "(C)Ljava/lang/String;" } : Jvm.MethodName) jdk_42_method_139_code (1 : Nat) (Option.some (Jvm.ClassFile.FieldType.object "java/lang/String"))).before args0 about1 = true := code_word (m := ⟨7, 1⟩) (meth := k7m1) (c := k7c1) (by decide +kernel) rfl rfl rfl (by decide +kernel)
set_option maxRecDepth 65536 in
theorem w_c2 : (Jvm.Cond.code ({ cls := "java/lang/StringLatin1", name := "canEncode", desc := "(C)Z" } : Jvm.MethodName) jdk_43_method_3_code (1 : Nat) (Option.some Jvm.ClassFile.FieldType.boolean)).before args0 about1 = true := code_word (m := ⟨8, 1⟩) (meth := k8m1) (c := k8c1) (by decide +kernel) rfl rfl rfl (by decide +kernel)
set_option maxRecDepth 65536 in
theorem w_c3 : (Jvm.Cond.code ({ cls := "java/lang/StringLatin1", name := "toBytes", desc := "(C)[B" } : Jvm.MethodName) jdk_43_method_46_code (1 : Nat) (Option.some (Jvm.ClassFile.FieldType.array Jvm.ClassFile.FieldType.byte))).before args0 about1 = true := code_word (m := ⟨8, 2⟩) (meth := k8m2) (c := k8c2) (by decide +kernel) rfl rfl rfl (by decide +kernel)
set_option maxRecDepth 65536 in
theorem w_c4 : (Jvm.Cond.code ({ cls := "java/lang/String", name := "<init>", desc := "([BB)V" } : Jvm.MethodName) jdk_42_method_151_code (3 : Nat) (Option.none : Option Jvm.ClassFile.FieldType)).before args0 about1 = true := code_word (m := ⟨7, 2⟩) (meth := k7m2) (c := k7c2) (by decide +kernel) rfl rfl rfl (by decide +kernel)
set_option maxRecDepth 65536 in
theorem w_c5 : (Jvm.Cond.code ({ cls := "java/lang/Object", name := "<init>", desc := "()V" } : Jvm.MethodName) object_method_1_code (1 : Nat) (Option.none : Option Jvm.ClassFile.FieldType)).before args0 about1 = true := code_word (m := ⟨0, 0⟩) (meth := k0m0) (c := k0c0) (by decide +kernel) rfl rfl rfl (by decide +kernel)
set_option maxRecDepth 65536 in
theorem w_c6 : (Jvm.Cond.code ({ cls := "com/example/aligned_index/alignedindex/inspect/DifferencesNonePinLaw", name := "fill", desc := "(ILjava/lang/String;)Ljava/util/ArrayList;" } : Jvm.MethodName) method_3_code (3 : Nat) (Option.some (Jvm.ClassFile.FieldType.object "java/util/ArrayList"))).before args0 about1 = true := code_word (m := ⟨1, 2⟩) (meth := k1m2) (c := k1c2) (by decide +kernel) rfl rfl rfl (by decide +kernel)
set_option maxRecDepth 65536 in
theorem w_c7 : (Jvm.Cond.code ({ cls := "java/util/ArrayList", name := "<init>", desc := "()V" } : Jvm.MethodName) jdk_38_method_2_code (1 : Nat) (Option.none : Option Jvm.ClassFile.FieldType)).before args0 about1 = true := code_word (m := ⟨17, 0⟩) (meth := k17m0) (c := k17c0) (by decide +kernel) rfl rfl rfl (by decide +kernel)
set_option maxRecDepth 65536 in
theorem w_c8 : (Jvm.Cond.code ({ cls := "java/util/AbstractList", name := "<init>", desc := "()V" } : Jvm.MethodName) jdk_39_method_1_code (1 : Nat) (Option.none : Option Jvm.ClassFile.FieldType)).before args0 about1 = true := code_word (m := ⟨14, 0⟩) (meth := k14m0) (c := k14c0) (by decide +kernel) rfl rfl rfl (by decide +kernel)
set_option maxRecDepth 65536 in
theorem w_c9 : (Jvm.Cond.code ({ cls := "java/util/AbstractCollection", name := "<init>", desc := "()V" } : Jvm.MethodName) jdk_22_method_1_code (1 : Nat) (Option.none : Option Jvm.ClassFile.FieldType)).before args0 about1 = true := code_word (m := ⟨11, 0⟩) (meth := k11m0) (c := k11c0) (by decide +kernel) rfl rfl rfl (by decide +kernel)
set_option maxRecDepth 65536 in
theorem w_c10 : (Jvm.Cond.code ({ cls := "java/util/ArrayList", name := "add", desc := "(Ljava/lang/Object;)Z" } : Jvm.MethodName) jdk_38_method_25_code (2 : Nat) (Option.some Jvm.ClassFile.FieldType.boolean)).before args0 about1 = true := code_word (m := ⟨17, 6⟩) (meth := k17m6) (c := k17c6) (by decide +kernel) rfl rfl rfl (by decide +kernel)
set_option maxRecDepth 65536 in
theorem w_c11 : (Jvm.Cond.code ({ cls := "java/util/ArrayList", name := "add", desc := "(Ljava/lang/Object;[Ljava/lang/Object;I)V" } : Jvm.MethodName) jdk_38_method_24_code (4 : Nat) (Option.none : Option Jvm.ClassFile.FieldType)).before args0 about1 = true := code_word (m := ⟨17, 5⟩) (meth := k17m5) (c := k17c5) (by decide +kernel) rfl rfl rfl (by decide +kernel)
set_option maxRecDepth 65536 in
theorem w_c12 : (Jvm.Cond.code ({ cls := "java/util/ArrayList", name := "grow", desc := "()[Ljava/lang/Object;" } : Jvm.MethodName) jdk_38_method_7_code (1 : Nat) (Option.some (Jvm.ClassFile.FieldType.array (Jvm.ClassFile.FieldType.object "java/lang/Object")))).before args0 about1 = true := code_word (m := ⟨17, 2⟩) (meth := k17m2) (c := k17c2) (by decide +kernel) rfl rfl rfl (by decide +kernel)
set_option maxRecDepth 65536 in
theorem w_c13 : (Jvm.Cond.code ({ cls := "java/util/ArrayList", name := "grow", desc := "(I)[Ljava/lang/Object;" } : Jvm.MethodName) jdk_38_method_6_code (4 : Nat) (Option.some (Jvm.ClassFile.FieldType.array (Jvm.ClassFile.FieldType.object "java/lang/Object")))).before args0 about1 = true := code_word (m := ⟨17, 1⟩) (meth := k17m1) (c := k17c1) (by decide +kernel) rfl rfl rfl (by decide +kernel)
set_option maxRecDepth 65536 in
theorem w_c14 : (Jvm.Cond.code ({ cls := "java/lang/Math", name := "max", desc := "(II)I" } : Jvm.MethodName) jdk_29_method_65_code (2 : Nat) (Option.some Jvm.ClassFile.FieldType.int)).before args0 about1 = true := code_word (m := ⟨18, 1⟩) (meth := k18m1) (c := k18c1) (by decide +kernel) rfl rfl rfl (by decide +kernel)
set_option maxRecDepth 65536 in
theorem w_c15 : (Jvm.Cond.code ({ cls := "com/example/aligned_index/alignedindex/inspect/Differences", name := "<init>", desc := "(Ljava/util/List;Ljava/util/List;Ljava/util/List;)V" } : Jvm.MethodName) prog_21_method_1_code (4 : Nat) (Option.none : Option Jvm.ClassFile.FieldType)).before args0 about1 = true := code_word (m := ⟨20, 0⟩) (meth := k20m0) (c := k20c0) (by decide +kernel) rfl rfl rfl (by decide +kernel)
set_option maxRecDepth 65536 in
theorem w_c16 : (Jvm.Cond.code ({ cls := "java/lang/Record", name := "<init>", desc := "()V" } : Jvm.MethodName) jdk_30_method_1_code (1 : Nat) (Option.none : Option Jvm.ClassFile.FieldType)).before args0 about1 = true := code_word (m := ⟨19, 0⟩) (meth := k19m0) (c := k19c0) (by decide +kernel) rfl rfl rfl (by decide +kernel)
set_option maxRecDepth 65536 in
theorem w_c17 : (Jvm.Cond.code ({ cls := "java/util/List", name := "copyOf", desc := "(Ljava/util/Collection;)Ljava/util/List;" } : Jvm.MethodName) jdk_40_method_48_code (1 : Nat) (Option.some (Jvm.ClassFile.FieldType.object "java/util/List"))).before args0 about1 = true := code_word (m := ⟨13, 3⟩) (meth := k13m3) (c := k13c3) (by decide +kernel) rfl rfl rfl (by decide +kernel)
set_option maxRecDepth 65536 in
theorem w_c18 : (Jvm.Cond.code ({ cls := "java/util/ImmutableCollections", name := "listCopy", desc := "(Ljava/util/Collection;)Ljava/util/List;" } : Jvm.MethodName) jdk_56_method_3_code (2 : Nat) (Option.some (Jvm.ClassFile.FieldType.object "java/util/List"))).before args0 about1 = true := code_word (m := ⟨21, 1⟩) (meth := k21m1) (c := k21c1) (by decide +kernel) rfl rfl rfl (by decide +kernel)
set_option maxRecDepth 65536 in
theorem w_c19 : (Jvm.Cond.code ({ cls := "java/util/ArrayList", name := "isEmpty", desc := "()Z" } : Jvm.MethodName) jdk_38_method_9_code (1 : Nat) (Option.some Jvm.ClassFile.FieldType.boolean)).before args0 about1 = true := code_word (m := ⟨17, 3⟩) (meth := k17m3) (c := k17c3) (by decide +kernel) rfl rfl rfl (by decide +kernel)
set_option maxRecDepth 65536 in
theorem w_c20 : (Jvm.Cond.code ({ cls := "java/util/List", name := "of", desc := "()Ljava/util/List;" } : Jvm.MethodName) jdk_40_method_36_code (0 : Nat) (Option.some (Jvm.ClassFile.FieldType.object "java/util/List"))).before args0 about1 = true := code_word (m := ⟨13, 1⟩) (meth := k13m1) (c := k13c1) (by decide +kernel) rfl rfl rfl (by decide +kernel)
set_option maxRecDepth 65536 in
theorem w_c21 : (Jvm.Cond.code ({ cls := "java/util/ArrayList", name := "toArray", desc := "()[Ljava/lang/Object;" } : Jvm.MethodName) jdk_38_method_16_code (1 : Nat) (Option.some (Jvm.ClassFile.FieldType.array (Jvm.ClassFile.FieldType.object "java/lang/Object")))).before args0 about1 = true := code_word (m := ⟨17, 4⟩) (meth := k17m4) (c := k17c4) (by decide +kernel) rfl rfl rfl (by decide +kernel)
set_option maxRecDepth 65536 in
theorem w_c22 : (Jvm.Cond.code ({ cls := "java/util/Arrays", name := "copyOf", desc := "([Ljava/lang/Object;I)[Ljava/lang/Object;" } : Jvm.MethodName) jdk_65_method_119_code (2 : Nat) (Option.some (Jvm.ClassFile.FieldType.array (Jvm.ClassFile.FieldType.object "java/lang/Object")))).before args0 about1 = true := code_word (m := ⟨26, 1⟩) (meth := k26m1) (c := k26c1) (by decide +kernel) rfl rfl rfl (by decide +kernel)
set_option maxRecDepth 65536 in
theorem w_c23 : (Jvm.Cond.code ({ cls := "java/util/Arrays", name := "copyOf", desc := "([Ljava/lang/Object;ILjava/lang/Class;)[Ljava/lang/Object;" } : Jvm.MethodName) jdk_65_method_120_code (4 : Nat) (Option.some (Jvm.ClassFile.FieldType.array (Jvm.ClassFile.FieldType.object "java/lang/Object")))).before args0 about1 = true := code_word (m := ⟨26, 2⟩) (meth := k26m2) (c := k26c2) (by decide +kernel) rfl rfl rfl (by decide +kernel)
set_option maxRecDepth 65536 in
theorem w_c24 : (Jvm.Cond.code ({ cls := "java/lang/Math", name := "min", desc := "(II)I" } : Jvm.MethodName) jdk_29_method_69_code (2 : Nat) (Option.some Jvm.ClassFile.FieldType.int)).before args0 about1 = true := code_word (m := ⟨18, 2⟩) (meth := k18m2) (c := k18c2) (by decide +kernel) rfl rfl rfl (by decide +kernel)
set_option maxRecDepth 65536 in
theorem w_c25 : (Jvm.Cond.code ({ cls := "java/util/List", name := "of", desc := "([Ljava/lang/Object;)Ljava/util/List;" } : Jvm.MethodName) jdk_40_method_47_code (2 : Nat) (Option.some (Jvm.ClassFile.FieldType.object "java/util/List"))).before args0 about1 = true := code_word (m := ⟨13, 2⟩) (meth := k13m2) (c := k13c2) (by decide +kernel) rfl rfl rfl (by decide +kernel)
set_option maxRecDepth 65536 in
theorem w_c26 : (Jvm.Cond.code ({ cls := "java/util/ImmutableCollections", name := "listFromArray", desc := "([Ljava/lang/Object;)Ljava/util/List;" } : Jvm.MethodName) jdk_56_method_4_code (3 : Nat) (Option.some (Jvm.ClassFile.FieldType.object "java/util/List"))).before args0 about1 = true := code_word (m := ⟨21, 2⟩) (meth := k21m2) (c := k21c2) (by decide +kernel) rfl rfl rfl (by decide +kernel)
set_option maxRecDepth 65536 in
theorem w_c27 : (Jvm.Cond.code ({ cls := "java/util/Objects", name := "requireNonNull", desc := "(Ljava/lang/Object;)Ljava/lang/Object;" } : Jvm.MethodName) jdk_31_method_10_code (1 : Nat) (Option.some (Jvm.ClassFile.FieldType.object "java/lang/Object"))).before args0 about1 = true := code_word (m := ⟨28, 1⟩) (meth := k28m1) (c := k28c1) (by decide +kernel) rfl rfl rfl (by decide +kernel)
set_option maxRecDepth 65536 in
theorem w_c28 : (Jvm.Cond.code ({ cls := "java/util/ImmutableCollections$ListN", name := "<init>", desc := "([Ljava/lang/Object;Z)V" } : Jvm.MethodName) jdk_45_method_1_code (3 : Nat) (Option.none : Option Jvm.ClassFile.FieldType)).before args0 about1 = true := code_word (m := ⟨25, 0⟩) (meth := k25m0) (c := k25c0) (by decide +kernel) rfl rfl rfl (by decide +kernel)
set_option maxRecDepth 65536 in
theorem w_c29 : (Jvm.Cond.code ({ cls := "java/util/ImmutableCollections$AbstractImmutableList", name := "<init>", desc := "()V" } : Jvm.MethodName) jdk_46_method_1_code (1 : Nat) (Option.none : Option Jvm.ClassFile.FieldType)).before args0 about1 = true := code_word (m := ⟨23, 0⟩) (meth := k23m0) (c := k23c0) (by decide +kernel) rfl rfl rfl (by decide +kernel)
set_option maxRecDepth 65536 in
theorem w_c30 : (Jvm.Cond.code ({ cls := "java/util/ImmutableCollections$AbstractImmutableCollection", name := "<init>", desc := "()V" } : Jvm.MethodName) jdk_47_method_1_code (1 : Nat) (Option.none : Option Jvm.ClassFile.FieldType)).before args0 about1 = true := code_word (m := ⟨22, 0⟩) (meth := k22m0) (c := k22c0) (by decide +kernel) rfl rfl rfl (by decide +kernel)
set_option maxRecDepth 65536 in
theorem w_c31 : (Jvm.Cond.code ({ cls := "java/util/ImmutableCollections$List12", name := "<init>", desc := "(Ljava/lang/Object;Ljava/lang/Object;)V" } : Jvm.MethodName) jdk_44_method_2_code (3 : Nat) (Option.none : Option Jvm.ClassFile.FieldType)).before args0 about1 = true := code_word (m := ⟨24, 1⟩) (meth := k24m1) (c := k24c1) (by decide +kernel) rfl rfl rfl (by decide +kernel)
set_option maxRecDepth 65536 in
theorem w_c32 : (Jvm.Cond.code ({ cls := "com/example/aligned_index/alignedindex/inspect/Differences", name := "none", desc := "()Z" } : Jvm.MethodName) prog_21_method_2_code (1 : Nat) (Option.some Jvm.ClassFile.FieldType.boolean)).before args0 about1 = true := code_word (m := ⟨20, 1⟩) (meth := k20m1) (c := k20c1) (by decide +kernel) rfl rfl rfl (by decide +kernel)
set_option maxRecDepth 65536 in
theorem w_c33 : (Jvm.Cond.code ({ cls := "java/util/ImmutableCollections$ListN", name := "isEmpty", desc := "()Z" } : Jvm.MethodName) jdk_45_method_2_code (1 : Nat) (Option.some Jvm.ClassFile.FieldType.boolean)).before args0 about1 = true := code_word (m := ⟨25, 1⟩) (meth := k25m1) (c := k25c1) (by decide +kernel) rfl rfl rfl (by decide +kernel)
set_option maxRecDepth 65536 in
theorem w_c34 : (Jvm.Cond.code ({ cls := "java/util/ImmutableCollections$List12", name := "isEmpty", desc := "()Z" } : Jvm.MethodName) jdk_44_method_4_code (1 : Nat) (Option.some Jvm.ClassFile.FieldType.boolean)).before args0 about1 = true := code_word (m := ⟨24, 2⟩) (meth := k24m2) (c := k24c2) (by decide +kernel) rfl rfl rfl (by decide +kernel)
set_option maxRecDepth 65536 in
theorem w_c35 : (Jvm.Cond.code ({ cls := "java/util/ImmutableCollections$List12", name := "<init>", desc := "(Ljava/lang/Object;)V" } : Jvm.MethodName) jdk_44_method_1_code (2 : Nat) (Option.none : Option Jvm.ClassFile.FieldType)).before args0 about1 = true := code_word (m := ⟨24, 0⟩) (meth := k24m0) (c := k24c0) (by decide +kernel) rfl rfl rfl (by decide +kernel)
def codes1 : List Jvm.Cond := [Jvm.Cond.code x code maxLocals ret, Jvm.Cond.code ({ cls := "java/lang/String", name := "valueOf", desc := "(C)Ljava/lang/String;" } : Jvm.MethodName) jdk_42_method_139_code (1 : Nat) (Option.some (Jvm.ClassFile.FieldType.object "java/lang/String")), Jvm.Cond.code ({ cls := "java/lang/StringLatin1", name := "canEncode", desc := "(C)Z" } : Jvm.MethodName) jdk_43_method_3_code (1 : Nat) (Option.some Jvm.ClassFile.FieldType.boolean), Jvm.Cond.code ({ cls := "java/lang/StringLatin1", name := "toBytes", desc := "(C)[B" } : Jvm.MethodName) jdk_43_method_46_code (1 : Nat) (Option.some (Jvm.ClassFile.FieldType.array Jvm.ClassFile.FieldType.byte)), Jvm.Cond.code ({ cls := "java/lang/String", name := "<init>", desc := "([BB)V" } : Jvm.MethodName) jdk_42_method_151_code (3 : Nat) (Option.none : Option Jvm.ClassFile.FieldType), Jvm.Cond.code ({ cls := "java/lang/Object", name := "<init>", desc := "()V" } : Jvm.MethodName) object_method_1_code (1 : Nat) (Option.none : Option Jvm.ClassFile.FieldType), Jvm.Cond.code ({ cls := "com/example/aligned_index/alignedindex/inspect/DifferencesNonePinLaw", name := "fill", desc := "(ILjava/lang/String;)Ljava/util/ArrayList;" } : Jvm.MethodName) method_3_code (3 : Nat) (Option.some (Jvm.ClassFile.FieldType.object "java/util/ArrayList")), Jvm.Cond.code ({ cls := "java/util/ArrayList", name := "<init>", desc := "()V" } : Jvm.MethodName) jdk_38_method_2_code (1 : Nat) (Option.none : Option Jvm.ClassFile.FieldType), Jvm.Cond.code ({ cls := "java/util/AbstractList", name := "<init>", desc := "()V" } : Jvm.MethodName) jdk_39_method_1_code (1 : Nat) (Option.none : Option Jvm.ClassFile.FieldType), Jvm.Cond.code ({ cls := "java/util/AbstractCollection", name := "<init>", desc := "()V" } : Jvm.MethodName) jdk_22_method_1_code (1 : Nat) (Option.none : Option Jvm.ClassFile.FieldType), Jvm.Cond.code ({ cls := "java/util/ArrayList", name := "add", desc := "(Ljava/lang/Object;)Z" } : Jvm.MethodName) jdk_38_method_25_code (2 : Nat) (Option.some Jvm.ClassFile.FieldType.boolean), Jvm.Cond.code ({ cls := "java/util/ArrayList", name := "add", desc := "(Ljava/lang/Object;[Ljava/lang/Object;I)V" } : Jvm.MethodName) jdk_38_method_24_code (4 : Nat) (Option.none : Option Jvm.ClassFile.FieldType), Jvm.Cond.code ({ cls := "java/util/ArrayList", name := "grow", desc := "()[Ljava/lang/Object;" } : Jvm.MethodName) jdk_38_method_7_code (1 : Nat) (Option.some (Jvm.ClassFile.FieldType.array (Jvm.ClassFile.FieldType.object "java/lang/Object"))), Jvm.Cond.code ({ cls := "java/util/ArrayList", name := "grow", desc := "(I)[Ljava/lang/Object;" } : Jvm.MethodName) jdk_38_method_6_code (4 : Nat) (Option.some (Jvm.ClassFile.FieldType.array (Jvm.ClassFile.FieldType.object "java/lang/Object"))), Jvm.Cond.code ({ cls := "java/lang/Math", name := "max", desc := "(II)I" } : Jvm.MethodName) jdk_29_method_65_code (2 : Nat) (Option.some Jvm.ClassFile.FieldType.int), Jvm.Cond.code ({ cls := "com/example/aligned_index/alignedindex/inspect/Differences", name := "<init>", desc := "(Ljava/util/List;Ljava/util/List;Ljava/util/List;)V" } : Jvm.MethodName) prog_21_method_1_code (4 : Nat) (Option.none : Option Jvm.ClassFile.FieldType), Jvm.Cond.code ({ cls := "java/lang/Record", name := "<init>", desc := "()V" } : Jvm.MethodName) jdk_30_method_1_code (1 : Nat) (Option.none : Option Jvm.ClassFile.FieldType), Jvm.Cond.code ({ cls := "java/util/List", name := "copyOf", desc := "(Ljava/util/Collection;)Ljava/util/List;" } : Jvm.MethodName) jdk_40_method_48_code (1 : Nat) (Option.some (Jvm.ClassFile.FieldType.object "java/util/List")), Jvm.Cond.code ({ cls := "java/util/ImmutableCollections", name := "listCopy", desc := "(Ljava/util/Collection;)Ljava/util/List;" } : Jvm.MethodName) jdk_56_method_3_code (2 : Nat) (Option.some (Jvm.ClassFile.FieldType.object "java/util/List")), Jvm.Cond.code ({ cls := "java/util/ArrayList", name := "isEmpty", desc := "()Z" } : Jvm.MethodName) jdk_38_method_9_code (1 : Nat) (Option.some Jvm.ClassFile.FieldType.boolean), Jvm.Cond.code ({ cls := "java/util/List", name := "of", desc := "()Ljava/util/List;" } : Jvm.MethodName) jdk_40_method_36_code (0 : Nat) (Option.some (Jvm.ClassFile.FieldType.object "java/util/List")), Jvm.Cond.code ({ cls := "java/util/ArrayList", name := "toArray", desc := "()[Ljava/lang/Object;" } : Jvm.MethodName) jdk_38_method_16_code (1 : Nat) (Option.some (Jvm.ClassFile.FieldType.array (Jvm.ClassFile.FieldType.object "java/lang/Object"))), Jvm.Cond.code ({ cls := "java/util/Arrays", name := "copyOf", desc := "([Ljava/lang/Object;I)[Ljava/lang/Object;" } : Jvm.MethodName) jdk_65_method_119_code (2 : Nat) (Option.some (Jvm.ClassFile.FieldType.array (Jvm.ClassFile.FieldType.object "java/lang/Object"))), Jvm.Cond.code ({ cls := "java/util/Arrays", name := "copyOf", desc := "([Ljava/lang/Object;ILjava/lang/Class;)[Ljava/lang/Object;" } : Jvm.MethodName) jdk_65_method_120_code (4 : Nat) (Option.some (Jvm.ClassFile.FieldType.array (Jvm.ClassFile.FieldType.object "java/lang/Object"))), Jvm.Cond.code ({ cls := "java/lang/Math", name := "min", desc := "(II)I" } : Jvm.MethodName) jdk_29_method_69_code (2 : Nat) (Option.some Jvm.ClassFile.FieldType.int), Jvm.Cond.code ({ cls := "java/util/List", name := "of", desc := "([Ljava/lang/Object;)Ljava/util/List;" } : Jvm.MethodName) jdk_40_method_47_code (2 : Nat) (Option.some (Jvm.ClassFile.FieldType.object "java/util/List")), Jvm.Cond.code ({ cls := "java/util/ImmutableCollections", name := "listFromArray", desc := "([Ljava/lang/Object;)Ljava/util/List;" } : Jvm.MethodName) jdk_56_method_4_code (3 : Nat) (Option.some (Jvm.ClassFile.FieldType.object "java/util/List")), Jvm.Cond.code ({ cls := "java/util/Objects", name := "requireNonNull", desc := "(Ljava/lang/Object;)Ljava/lang/Object;" } : Jvm.MethodName) jdk_31_method_10_code (1 : Nat) (Option.some (Jvm.ClassFile.FieldType.object "java/lang/Object")), Jvm.Cond.code ({ cls := "java/util/ImmutableCollections$ListN", name := "<init>", desc := "([Ljava/lang/Object;Z)V" } : Jvm.MethodName) jdk_45_method_1_code (3 : Nat) (Option.none : Option Jvm.ClassFile.FieldType), Jvm.Cond.code ({ cls := "java/util/ImmutableCollections$AbstractImmutableList", name := "<init>", desc := "()V" } : Jvm.MethodName) jdk_46_method_1_code (1 : Nat) (Option.none : Option Jvm.ClassFile.FieldType), Jvm.Cond.code ({ cls := "java/util/ImmutableCollections$AbstractImmutableCollection", name := "<init>", desc := "()V" } : Jvm.MethodName) jdk_47_method_1_code (1 : Nat) (Option.none : Option Jvm.ClassFile.FieldType), Jvm.Cond.code ({ cls := "java/util/ImmutableCollections$List12", name := "<init>", desc := "(Ljava/lang/Object;Ljava/lang/Object;)V" } : Jvm.MethodName) jdk_44_method_2_code (3 : Nat) (Option.none : Option Jvm.ClassFile.FieldType), Jvm.Cond.code ({ cls := "com/example/aligned_index/alignedindex/inspect/Differences", name := "none", desc := "()Z" } : Jvm.MethodName) prog_21_method_2_code (1 : Nat) (Option.some Jvm.ClassFile.FieldType.boolean), Jvm.Cond.code ({ cls := "java/util/ImmutableCollections$ListN", name := "isEmpty", desc := "()Z" } : Jvm.MethodName) jdk_45_method_2_code (1 : Nat) (Option.some Jvm.ClassFile.FieldType.boolean), Jvm.Cond.code ({ cls := "java/util/ImmutableCollections$List12", name := "isEmpty", desc := "()Z" } : Jvm.MethodName) jdk_44_method_4_code (1 : Nat) (Option.some Jvm.ClassFile.FieldType.boolean), Jvm.Cond.code ({ cls := "java/util/ImmutableCollections$List12", name := "<init>", desc := "(Ljava/lang/Object;)V" } : Jvm.MethodName) jdk_44_method_1_code (2 : Nat) (Option.none : Option Jvm.ClassFile.FieldType)]
set_option maxRecDepth 65536 in
theorem codes_eq : words1.filter isCode = codes1 := rfl
theorem w_codes : ∀ c ∈ words1.filter isCode, c.before args0 about1 = true := by
  rw [codes_eq]
  intro c hc
  simp only [codes1, List.mem_cons, List.not_mem_nil, or_false] at hc
  rcases hc with rfl | rfl | rfl | rfl | rfl | rfl | rfl | rfl | rfl | rfl | rfl | rfl | rfl | rfl | rfl | rfl | rfl | rfl | rfl | rfl | rfl | rfl | rfl | rfl | rfl | rfl | rfl | rfl | rfl | rfl | rfl | rfl | rfl | rfl | rfl | rfl
  · exact w_c0
  · exact w_c1
  · exact w_c2
  · exact w_c3
  · exact w_c4
  · exact w_c5
  · exact w_c6
  · exact w_c7
  · exact w_c8
  · exact w_c9
  · exact w_c10
  · exact w_c11
  · exact w_c12
  · exact w_c13
  · exact w_c14
  · exact w_c15
  · exact w_c16
  · exact w_c17
  · exact w_c18
  · exact w_c19
  · exact w_c20
  · exact w_c21
  · exact w_c22
  · exact w_c23
  · exact w_c24
  · exact w_c25
  · exact w_c26
  · exact w_c27
  · exact w_c28
  · exact w_c29
  · exact w_c30
  · exact w_c31
  · exact w_c32
  · exact w_c33
  · exact w_c34
  · exact w_c35
set_option maxRecDepth 65536 in
theorem w_t1 : (words1.take 24).all (fun c => isCode c || c.before args0 about1) = true := by decide +kernel
set_option maxRecDepth 65536 in
theorem w_t2 : ((words1.drop 24).take 24).all (fun c => isCode c || c.before args0 about1) = true := by decide +kernel
set_option maxRecDepth 65536 in
theorem w_t3 : (((words1.drop 24).drop 24).take 24).all (fun c => isCode c || c.before args0 about1) = true := by decide +kernel
set_option maxRecDepth 65536 in
theorem w_t4 : ((((words1.drop 24).drop 24).drop 24).take 24).all (fun c => isCode c || c.before args0 about1) = true := by decide +kernel
set_option maxRecDepth 65536 in
theorem w_t5 : (((((words1.drop 24).drop 24).drop 24).drop 24).take 24).all (fun c => isCode c || c.before args0 about1) = true := by decide +kernel
set_option maxRecDepth 65536 in
theorem w_t6 : ((((((words1.drop 24).drop 24).drop 24).drop 24).drop 24).take 24).all (fun c => isCode c || c.before args0 about1) = true := by decide +kernel
set_option maxRecDepth 65536 in
theorem w_t7 : (((((((words1.drop 24).drop 24).drop 24).drop 24).drop 24).drop 24).take 24).all (fun c => isCode c || c.before args0 about1) = true := by decide +kernel
set_option maxRecDepth 65536 in
theorem w_t8 : ((((((((words1.drop 24).drop 24).drop 24).drop 24).drop 24).drop 24).drop 24).take 24).all (fun c => isCode c || c.before args0 about1) = true := by decide +kernel
set_option maxRecDepth 65536 in
theorem w_t9 : (((((((((words1.drop 24).drop 24).drop 24).drop 24).drop 24).drop 24).drop 24).drop 24).take 24).all (fun c => isCode c || c.before args0 about1) = true := by decide +kernel
set_option maxRecDepth 65536 in
theorem w_t10 : (((((((((words1.drop 24).drop 24).drop 24).drop 24).drop 24).drop 24).drop 24).drop 24).drop 24).all (fun c => isCode c || c.before args0 about1) = true := by decide +kernel
theorem w_tables : (allAtoms (Jvm.Cond.code x code maxLocals ret :: tables_1)).before args0 about1 = true := by
  rw [allAtoms_all]
  show words1.all (fun c => c.before args0 about1) = true
  refine all_split ?_ w_codes
  rw [← List.take_append_drop 24 words1, List.all_append, w_t1, ← List.take_append_drop 24 (words1.drop 24), List.all_append, w_t2, ← List.take_append_drop 24 ((words1.drop 24).drop 24), List.all_append, w_t3, ← List.take_append_drop 24 (((words1.drop 24).drop 24).drop 24), List.all_append, w_t4, ← List.take_append_drop 24 ((((words1.drop 24).drop 24).drop 24).drop 24), List.all_append, w_t5, ← List.take_append_drop 24 (((((words1.drop 24).drop 24).drop 24).drop 24).drop 24), List.all_append, w_t6, ← List.take_append_drop 24 ((((((words1.drop 24).drop 24).drop 24).drop 24).drop 24).drop 24), List.all_append, w_t7, ← List.take_append_drop 24 (((((((words1.drop 24).drop 24).drop 24).drop 24).drop 24).drop 24).drop 24), List.all_append, w_t8, ← List.take_append_drop 24 ((((((((words1.drop 24).drop 24).drop 24).drop 24).drop 24).drop 24).drop 24).drop 24), List.all_append, w_t9, w_t10]
  rfl
set_option maxRecDepth 65536 in
theorem w_rest : rest_1_c.before args0 about1 = true := by decide +kernel
set_option maxRecDepth 65536 in
theorem w_case : (Jvm.Cond.and given_1 narrow_1).before args0 about1 = true := by decide +kernel
theorem w_applies : (headSpec (Jvm.Cond.code x code maxLocals ret :: tables_1) room_1).applies x e0.platform about1 = true :=
  (Spec.applies_iff w_frames).mpr ⟨w_running, w_runnable, w_alone, w_named, w_hears, w_ripe, w_room, w_tables⟩
set_option maxRecDepth 65536 in
theorem atStart : AtStart classFile x code maxLocals ret World_1 tables_1 room_1 Calls_1 rest_1 Pre_1 launch0 p0 e0 about1 theMethod args0 below0 :=
  ⟨lists_1, trivial, launch0.admits_env _ _ _, launch0.least_env, fairChoices_fair.cas, fairChoices_fair.clock, w_frames, w_args, w_heap, w_applies, ⟨⟨36, k36, 4, by decide +kernel, rfl, rfl, _, rfl, rfl⟩, trivial⟩, w_rest, w_case⟩
end start1
theorem witness_1 : WitnessClaimed_1 := ⟨start1.p0, start1.e0, start1.about1, start1.theMethod, start1.args0, start1.below0, start1.atStart⟩
end Jvm.Pilot.@@N@@
