import JvmDerived
import JvmDerived.Pilot.@@N@@Statement
import JvmDerived.Pilot.@@N@@Code
set_option linter.unusedVariables false
set_option linter.unusedSimpArgs false
namespace Jvm.OwnGo
open Jvm Jvm.ClassFile Sem Op Lib Jvm.Free Jvm.Stand Jvm.LawKit Jvm.RoadKit
/-- the setting of one body's run -/
def Cx (p : Program) (l : Launch) (e : Env) (R : Room) (s : State) (m : MethodId) (meth : Method) (c : Code) (Z : State) (n0 : Nat) (y : MethodName) (code : ByteArray) (ml : Nat) (ret : Option FieldType) : Prop :=
  p.tables.exec = Jvm.exec ∧ Z.Warmed39 s.vm ∧ s.vm.findClass y.cls = some m.cls ∧ c.code = code ∧ c.maxLocals = ml ∧ meth.sig.returnType = ret ∧ meth.locks = false ∧ meth.name = y.name ∧ Old Z n0 s.heap
/-- from pc, with these locals, this stack and this heap, the body of y returns, Q holds of what it returns and leaves, and it has written in cells at or above n0 alone -/
def Go (l : Launch) (R : Room) (Z : State) (n0 : Nat) (y : MethodName) (code : ByteArray) (ml : Nat) (ret : Option FieldType) (Q : Option Value → Heap → Prop) (cells slots : Nat) (h : Heap) (pc : Nat) (Ls : Array Slot) (st : List Value) : Prop :=
  ∀ (p : Program) (e : Env) (s : State) (m : MethodId) (args : Array Value) (below : List Frame) (meth : Method) (c : Code) (T : State) (locs : List Loc),
    Cx p l e R s m meth c Z n0 y code ml ret → Stand p l e R s m args below meth c T locs cells slots → Fr n0 locs → T.heap = h →
    ∃ s₂ o, Steps p.tables e below (T.setTop (mkF m pc Ls st)) s₂ ∧ s₂.status = .running ∧ Ended s₂ below o ∧ ∃ v L, o = .returned v ∧ (Q v s₂.heap ∧ Fr n0 L) ∧ FrameEnd s o s₂ L R.cells R.slots
/-- what a body called with these arguments at the heap h does -/
def Con (l : Launch) (y : MethodName) (code : ByteArray) (ml : Nat) (ret : Option FieldType) (R : Room) (Z : State) (n0 : Nat) (as : Array Value) (h : Heap) (Q : Option Value → Heap → Prop) : Prop :=
  Old Z n0 h → ∀ ws, MetFree l y (head1 (Jvm.Cond.code y code ml ret :: ws) R) (fun a U => a = as ∧ Z.Warmed39 U.vm ∧ U.heap = h) (fun _ _ _ _ _ => True)
    (fun _ U o U' => ∃ v L, o = .returned v ∧ (Q v U'.heap ∧ Fr n0 L) ∧ FrameEnd U o U' L R.cells R.slots)
def Mi (Z : State) (C : String) (mr : Addr) : Prop := ∃ (c : ClassId) (k : Class), Z.vm.findClass C = some c ∧ Z.vm.classes[c]? = some k ∧ k.mirror = some mr
theorem Mi.at {Z s : State} {C : String} {mr : Addr} (M : Mi Z C mr) (hZ : Z.Warmed39 s.vm) : ∃ (c : ClassId) (k : Class), s.vm.findClass C = some c ∧ s.vm.classes[c]? = some k ∧ k.mirror = some mr := by
  obtain ⟨c, k, m1, m2, m3⟩ := M
  obtain ⟨k', q, ek⟩ := hZ.alike.2.2 _ _ m2
  exact ⟨c, k', by rw [hZ.alike.findClass]; exact m1, q, by rw [ek]; exact m3⟩
theorem own_sto {Z : State} {h : Heap} {a b : Addr} {kA : ClassId} {ty : FieldType} {z : Int32} {vs : List Value} {dv : Value} {C : String} (F : Arv Z h a kA ty z vs dv) (O : Ovr Z kA C) (I : Ins Z h b C true) : Sto Z h a (.ref b) := by
  obtain ⟨c, A, q, -⟩ := F; exact Sto.ofV A q O I
theorem own_nfQ {Z : State} {a0 : Array Value} {C : String} {x y : MethodName} (w : (Jvm.Cond.selects C x x).before a0 Z = true) (wx : (Cond.declares x).before a0 Z = true) (hxy : x.cls = y.cls) : ∀ s' : State, Z.Warmed39 s'.vm → NotFace s' y := by
  intro s' hs' r hr
  obtain ⟨r0, r1, hn, -⟩ := Cond.declares_spec (mvT hs' wx (args := #[]))
  obtain ⟨kr, hkr, hni⟩ := notFace_of_selects (args := #[]) (mvT hs' w) r0 hn
  have h1 := findClass_of_methodNamed hn
  have h2 := findClass_of_methodNamed hr
  rw [hxy, h2] at h1
  rw [Option.some.inj h1]
  exact ⟨kr, hkr, hni⟩
theorem own_selP {Z : State} {a0 : Array Value} {C : String} {z : MethodName} (wS : (Jvm.Cond.selects C z z).before a0 Z = true) (wI : (Cond.instanceMethod z).before a0 Z = true) (wP : (Cond.privateMethod z).before a0 Z = true) (hy : z.cls ≠ "java/lang/invoke/MethodHandle" ∧ z.cls ≠ "java/lang/invoke/VarHandle") : (Cond.selects z.cls z z).before a0 Z = true := by
  obtain ⟨mk, methM, hnamed, -, -, -⟩ := Cond.instanceMethod_spec wI
  obtain ⟨kr, hkr, hni⟩ := notFace_of_selects wS mk hnamed
  exact selects_self_of_private (findClass_of_methodNamed hnamed) hkr hni (Cond.privateMethod_at wP) wI hy
theorem own_sameM {Z : State} {a0 : Array Value} {y : MethodName} (w : (Cond.declares y).before a0 Z = true) (nf : ∀ s' : State, Z.Warmed39 s'.vm → NotFace s' y) (hy : y.cls ≠ "java/lang/invoke/MethodHandle" ∧ y.cls ≠ "java/lang/invoke/VarHandle") : (Cond.sameMethod y.cls y.cls y.name y.desc).before a0 Z = true := by
  obtain ⟨r0, r, hn, hrm, hst, hsig⟩ := Cond.declares_spec w
  have hf := State.methodFound?_of_named hn hy
  have hc := findClass_of_methodNamed hn
  obtain ⟨kp, hp, hi⟩ := nf Z (State.Warmed39.refl Z) r0 hn
  have hn' : Z.methodNamed? ⟨y.cls, y.name, y.desc⟩ = some r0 := hn
  simp [Cond.before, Cond.holds, Cond.value, hc, hf, hp, hi, hn']
theorem own_lsw {tb : Tables} [Ours tb] {e : Env} {below : List Frame} {T target : State} {m : MethodId} {c : Code} {g : JFrame} (h : At T m c below) (hx : tb.exec = Jvm.exec) (hg : g.method = m) {dflt : Int} {pairs : Array (Int × Int)} {len : Nat} {o : Int} {pc0 pc' : Nat} (hpc : g.pc = pc0) (hd : decode c.code g.pc = .ok (.lookupswitch dflt pairs, len)) {i : Int32} {rest : List Value} (hs : g.stack = .int i :: rest)
    (hsrt : (pairs.toList.zip (pairs.toList.drop 1)).all (fun x => decide (x.1.1 < x.2.1)) = true) (hoff : lookupswitch.offset pairs.toList dflt i.toInt = o) (ho : 0 ≤ (pc0 : Int) + o) (hp : ((pc0 : Int) + o).toNat = pc') (hr : Steps tb e below (T.setTop { g with pc := pc', stack := rest }) target) : Steps tb e below (T.setTop g) target := by
  subst hg hpc hp hoff
  jvm_step h [h.top, hx, hd, hs, ho, lookupswitch.wp_chain]
  exact ⟨by simpa using hsrt, hr⟩
theorem own_ine {a k : Int32} (h : ¬ a = k) : ¬ k.toInt = a.toInt := fun q => h (Int32.toInt_inj.mp q.symm)
theorem own_fuq {Z : State} {h : Heap} {a : Addr} {O n d : String} {v v' : Value} (F : Fld Z h a O n d v) (G : Fld Z h a O n d v') : v = v' := by
  obtain ⟨c1, x1, k1, i1, f1, g1, g2, -, -, -, -, g7⟩ := F
  obtain ⟨c2, x2, k2, i2, f2, h1, h2, -, -, -, -, h7⟩ := G
  cases g1.symm.trans h1
  cases g2.symm.trans h2
  exact Option.some.inj (g7.symm.trans h7)
theorem own_fne {Z : State} {h : Heap} {a b : Addr} {O n d : String} {v v' : Value} (F : Fld Z h a O n d v) (G : Fld Z h b O n d v') (ne : v ≠ v') : a ≠ b := fun q => ne (own_fuq F (q ▸ G))
theorem own_same {Z : State} {h : Heap} {a c b1 b2 : Addr} {O n d : String} {k1 k2 : ClassId} {t1 t2 : FieldType} {z1 z2 : Int32} {v1 v2 : List Value} {d1 d2 : Value} (hab : a = c) (F1 : Fld Z h a O n d (.ref b1)) (F2 : Fld Z h c O n d (.ref b2)) (A1 : Arv Z h b1 k1 t1 z1 v1 d1) (A2 : Arv Z h b2 k2 t2 z2 v2 d2) :
    z1.toNatClampNeg = z2.toNatClampNeg ∧ ∀ j, j < z1.toNatClampNeg → v1.getD j d1 = v2.getD j d2 := by
  subst hab
  cases own_fuq F1 F2
  obtain ⟨c1, ⟨q1, -⟩, -, S1, -, H1, -⟩ := A1
  obtain ⟨c2, ⟨q2, -⟩, -, S2, -, H2, -⟩ := A2
  cases q1.symm.trans q2
  exact ⟨S1.symm.trans S2, fun j hj => Option.some.inj ((H1 j (S1 ▸ hj)).symm.trans (H2 j (S1 ▸ hj)))⟩
theorem own_nar (t : FieldType) {v : Value} (h : v.isRef = true) : narrow t v = v := by cases v <;> first | rfl | (cases t <;> rfl) | (simp [Value.isRef] at h)
theorem own_fits {t : FieldType} {v : Value} (ht : t.isReference = true) (h : v.isRef = true) : fits t v = true := by cases t <;> first | (cases ht; done) | (cases v <;> first | rfl | (simp [Value.isRef] at h))
theorem own_old {p : Program} {l : Launch} {e : Env} {R : Room} {s : State} {m : MethodId} {args : Array Value} {below : List Frame} {meth : Method} {c : Code} {T : State} {locs : List Loc} {cells slots n0 : Nat} {Z : State} {h : Heap} (O : Old Z n0 s.heap) (X : Stand p l e R s m args below meth c T locs cells slots) (N : Fr n0 locs) (eT : T.heap = h) : Old Z n0 h := by
  subst eT
  obtain ⟨-, g1, -, -, -, g2⟩ := X.same
  refine ⟨O.1, Nat.le_trans O.2.1 g1, fun a c ha => ?_⟩
  obtain ⟨c', q1, q2, q3, q4⟩ := g2 a c (O.2.2 a c ha)
  have hlt : a < n0 := O.1 ▸ (Array.getElem?_eq_some_iff.mp ha).1
  have e1 : c'.slots = c.slots := Array.ext_getElem? fun i => q4 i fun hm => absurd (N _ hm) (Nat.not_le.mpr hlt)
  have e2 : c' = c := by rw [q2, e1]
  rw [← e2]; exact q1
section Rules
variable {l : Launch} {R : Room} {Z : State} {n0 : Nat} {y : MethodName} {code : ByteArray} {ml : Nat} {ret : Option FieldType} {Q : Option Value → Heap → Prop} {cells slots : Nat} {h : Heap} {pc pc' : Nat} {Ls Ls' : Array Slot} {st st' rest : List Value} {a0 : Array Value}
theorem Con.of_go {as : Array Value} (hp : plainFor y = true) (k : Go l R Z n0 y code ml ret Q 0 0 h 0 Ls []) (he : ∀ m, entryFrame m as ml = mkF m 0 Ls [] := by intro m; first | (simp [entryFrame, mkF, argsToLocals, Value.category]; done) | rfl) : Con l y code ml ret R Z n0 as h Q := by
  intro hn ws
  refine MetFree.of_bodySF hp hisR ?_
  intro p e s m args below meth c s₁ Bd hml0 hP hK
  obtain ⟨rfl, hZ, hh⟩ := hP
  have e0 : s₁.heap = h := by rw [← hh, Bd.state]; rfl
  have X0 : Stand p l e R s m args below meth c s₁ [] 0 0 := Stand.of_body Bd
  obtain ⟨s₂, o, h1, h2, h3, h4⟩ := k p e s m args below meth c s₁ [] ⟨Bd.exec, hZ, findClass_of_methodNamed Bd.named, Bd.bytes, hml0, Bd.returns, Bd.notSynchronized, (name_of_methodNamed Bd.named Bd.method).1, by rw [hh]; exact hn⟩ X0 (Fr.nil n0) e0
  exact ⟨s₂, o, castTop (he m) h1, h2, h3, h4⟩
theorem Con.mono {as : Array Value} {Q' : Option Value → Heap → Prop} (k : Con l y code ml ret R Z n0 as h Q) (hq : ∀ v h', Q v h' → Q' v h') : Con l y code ml ret R Z n0 as h Q' := by
  intro hn ws
  refine (k hn ws).mono (fun _ _ q => q) (fun _ _ _ _ _ q => q) ?_
  rintro a U o U' hP ⟨v, L, e, ⟨q, N⟩, r⟩
  exact ⟨v, L, e, ⟨hq _ _ q, N⟩, r⟩
theorem Go.mono {Q' : Option Value → Heap → Prop} (k : Go l R Z n0 y code ml ret Q' cells slots h pc Ls st) (hq : ∀ v h', Q' v h' → Q v h') : Go l R Z n0 y code ml ret Q cells slots h pc Ls st := by
  intro p e s m args below meth c T locs C X N eT
  obtain ⟨s₂, o, h1, h2, h3, v, L, h4, ⟨h5, h6⟩, h7⟩ := k p e s m args below meth c T locs C X N eT
  exact ⟨s₂, o, h1, h2, h3, v, L, h4, ⟨hq _ _ h5, h6⟩, h7⟩
theorem Go.more {cells' slots' : Nat} (k : Go l R Z n0 y code ml ret Q cells' slots' h pc Ls st) (hc : cells ≤ cells') (hs : slots ≤ slots') : Go l R Z n0 y code ml ret Q cells slots h pc Ls st := by
  intro p e s m args below meth c T locs C X N eT
  exact k p e s m args below meth c T locs C (X.more hc hs) N eT
theorem Go.old (k : Old Z n0 h → Go l R Z n0 y code ml ret Q cells slots h pc Ls st) : Go l R Z n0 y code ml ret Q cells slots h pc Ls st := by
  intro p e s m args below meth c T locs C X N eT
  exact k (own_old C.2.2.2.2.2.2.2.2 X N eT) p e s m args below meth c T locs C X N eT
theorem Go.step (hst : ∀ {p : Program} {e : Env} {s : State} {m : MethodId} {args : Array Value} {below : List Frame} {meth : Method} {c : Code} {T : State} {locs : List Loc} {target : State},
      Cx p l e R s m meth c Z n0 y code ml ret → Stand p l e R s m args below meth c T locs cells slots → T.heap = h → Steps p.tables e below (T.setTop (mkF m pc' Ls' st')) target → Steps p.tables e below (T.setTop (mkF m pc Ls st)) target)
    (k : Go l R Z n0 y code ml ret Q cells slots h pc' Ls' st') : Go l R Z n0 y code ml ret Q cells slots h pc Ls st := by
  intro p e s m args below meth c T locs C X N eT
  obtain ⟨s₂, o, h1, h2⟩ := k p e s m args below meth c T locs C X N eT
  exact ⟨s₂, o, hst C X eT h1, h2⟩
theorem Go.law {cells' slots' : Nat} {P : Heap → Prop} (hst : ∀ {p : Program} {e : Env} {s : State} {m : MethodId} {args : Array Value} {below : List Frame} {meth : Method} {c : Code} {T : State} {locs : List Loc},
      Cx p l e R s m meth c Z n0 y code ml ret → Stand p l e R s m args below meth c T locs cells slots → Fr n0 locs → T.heap = h → n0 ≤ h.size →
      ∃ T' locs' h', Stand p l e R s m args below meth c T' locs' cells' slots' ∧ Fr n0 locs' ∧ T'.heap = h' ∧ P h' ∧ ∀ target, Steps p.tables e below (T'.setTop (mkF m pc' Ls' st')) target → Steps p.tables e below (T.setTop (mkF m pc Ls st)) target)
    (k : ∀ h', P h' → Go l R Z n0 y code ml ret Q cells' slots' h' pc' Ls' st') : Go l R Z n0 y code ml ret Q cells slots h pc Ls st := by
  intro p e s m args below meth c T locs C X N eT
  have hold : Old Z n0 h := own_old C.2.2.2.2.2.2.2.2 X N eT
  obtain ⟨T', locs', h', X', N', e', hP, st⟩ := hst C X N eT (hold.1 ▸ hold.2.1)
  obtain ⟨s₂, o, h1, h2⟩ := k h' hP p e s m args below meth c T' locs' C X' N' e'
  exact ⟨s₂, o, st _ h1, h2⟩
theorem Go.iloadN {k : Fin 4} {v : Int32} (hd : decode code pc = .ok (.iload_n k, 1)) (hl : Ls[k.val]? = some (.val (.int v))) (hp : pc + 1 = pc') (k : Go l R Z n0 y code ml ret Q cells slots h pc' Ls (.int v :: st)) : Go l R Z n0 y code ml ret Q cells slots h pc Ls st := Go.step (fun C X _ q => by subst hp; exact XS.iloadN X.here C.1 rfl (hb C.2.2.2.1 hd) hl q) k
theorem Go.iload {k : Nat} {v : Int32} (hd : decode code pc = .ok (.iload k, 2)) (hl : Ls[k]? = some (.val (.int v))) (hp : pc + 2 = pc') (k : Go l R Z n0 y code ml ret Q cells slots h pc' Ls (.int v :: st)) : Go l R Z n0 y code ml ret Q cells slots h pc Ls st := Go.step (fun C X _ q => by subst hp; exact XS.iload X.here C.1 rfl (hb C.2.2.2.1 hd) hl q) k
theorem Go.aloadN {k : Fin 4} {v : Value} (hd : decode code pc = .ok (.aload_n k, 1)) (hl : Ls[k.val]? = some (.val v)) (hv : v.isRef = true) (hp : pc + 1 = pc') (k : Go l R Z n0 y code ml ret Q cells slots h pc' Ls (v :: st)) : Go l R Z n0 y code ml ret Q cells slots h pc Ls st := Go.step (fun C X _ q => by subst hp; exact XS.aloadN X.here C.1 rfl (hb C.2.2.2.1 hd) hl hv q) k
theorem Go.aload {k : Nat} {v : Value} (hd : decode code pc = .ok (.aload k, 2)) (hl : Ls[k]? = some (.val v)) (hv : v.isRef = true) (hp : pc + 2 = pc') (k : Go l R Z n0 y code ml ret Q cells slots h pc' Ls (v :: st)) : Go l R Z n0 y code ml ret Q cells slots h pc Ls st := Go.step (fun C X _ q => by subst hp; exact XS.aload X.here C.1 rfl (hb C.2.2.2.1 hd) hl hv q) k
theorem Go.istoreN {k : Fin 4} {v : Int32} (hd : decode code pc = .ok (.istore_n k, 1)) (hl : storeLocals Ls k.val (.int v) = some Ls') (hp : pc + 1 = pc') (k : Go l R Z n0 y code ml ret Q cells slots h pc' Ls' st) : Go l R Z n0 y code ml ret Q cells slots h pc Ls (.int v :: st) := Go.step (fun C X _ q => by subst hp; exact XS.istoreN X.here C.1 rfl (hb C.2.2.2.1 hd) rfl hl q) k
theorem Go.istore {k : Nat} {v : Int32} (hd : decode code pc = .ok (.istore k, 2)) (hl : storeLocals Ls k (.int v) = some Ls') (hp : pc + 2 = pc') (k : Go l R Z n0 y code ml ret Q cells slots h pc' Ls' st) : Go l R Z n0 y code ml ret Q cells slots h pc Ls (.int v :: st) := Go.step (fun C X _ q => by subst hp; exact XS.istore X.here C.1 rfl (hb C.2.2.2.1 hd) rfl hl q) k
theorem Go.astoreN {k : Fin 4} {v : Value} (hd : decode code pc = .ok (.astore_n k, 1)) (hv : v.isRef = true) (hl : storeLocals Ls k.val v = some Ls') (hp : pc + 1 = pc') (k : Go l R Z n0 y code ml ret Q cells slots h pc' Ls' st) : Go l R Z n0 y code ml ret Q cells slots h pc Ls (v :: st) := Go.step (fun C X _ q => by subst hp; exact XS.astoreN X.here C.1 rfl (hb C.2.2.2.1 hd) rfl hv hl q) k
theorem Go.astore {k : Nat} {v : Value} (hd : decode code pc = .ok (.astore k, 2)) (hv : v.isRef = true) (hl : storeLocals Ls k v = some Ls') (hp : pc + 2 = pc') (k : Go l R Z n0 y code ml ret Q cells slots h pc' Ls' st) : Go l R Z n0 y code ml ret Q cells slots h pc Ls (v :: st) := Go.step (fun C X _ q => by subst hp; exact XS.astore X.here C.1 rfl (hb C.2.2.2.1 hd) rfl hv hl q) k
theorem Go.iconst {i : Int} {v : Int32} (hd : decode code pc = .ok (.iconst i, 1)) (hv : Int32.ofInt i = v) (hp : pc + 1 = pc') (k : Go l R Z n0 y code ml ret Q cells slots h pc' Ls (.int v :: st)) : Go l R Z n0 y code ml ret Q cells slots h pc Ls st := Go.step (fun C X _ q => by subst hp; exact (by subst hv; exact XS.iconst X.here C.1 rfl (hb C.2.2.2.1 hd) q)) k
theorem Go.bipush {i : Int} {v : Int32} (hd : decode code pc = .ok (.bipush i, 2)) (hv : (Int8.ofInt i).toInt32 = v) (hp : pc + 2 = pc') (k : Go l R Z n0 y code ml ret Q cells slots h pc' Ls (.int v :: st)) : Go l R Z n0 y code ml ret Q cells slots h pc Ls st := Go.step (fun C X _ q => by subst hp; exact (by subst hv; exact XS.bipush X.here C.1 rfl (hb C.2.2.2.1 hd) q)) k
theorem Go.sipush {i : Int} {v : Int32} (hd : decode code pc = .ok (.sipush i, 3)) (hv : (Int16.ofInt i).toInt32 = v) (hp : pc + 3 = pc') (k : Go l R Z n0 y code ml ret Q cells slots h pc' Ls (.int v :: st)) : Go l R Z n0 y code ml ret Q cells slots h pc Ls st := Go.step (fun C X _ q => by subst hp; exact (by subst hv; exact XS.sipush X.here C.1 rfl (hb C.2.2.2.1 hd) q)) k
theorem Go.aconstNull (hd : decode code pc = .ok (.aconst_null, 1)) (hp : pc + 1 = pc') (k : Go l R Z n0 y code ml ret Q cells slots h pc' Ls (.null :: st)) : Go l R Z n0 y code ml ret Q cells slots h pc Ls st := Go.step (fun C X _ q => by subst hp; exact XS.aconstNull X.here C.1 rfl (hb C.2.2.2.1 hd) q) k
theorem Go.ldcI {i : Nat} {v : Int32} (w : (Jvm.Cond.constant y.cls i v).before a0 Z = true) (hd : decode code pc = .ok (.ldc i, 2)) (hp : pc + 2 = pc') (k : Go l R Z n0 y code ml ret Q cells slots h pc' Ls (.int v :: st)) : Go l R Z n0 y code ml ret Q cells slots h pc Ls st := Go.step (fun C X _ q => by subst hp; exact Jvm.Stand.ldcI X C.1 C.2.2.1 (mvT C.2.1 w) rfl (hb C.2.2.2.1 hd) q) k
theorem Go.iadd {a b : Int32} (hd : decode code pc = .ok (.iadd, 1)) (hp : pc + 1 = pc') (k : Go l R Z n0 y code ml ret Q cells slots h pc' Ls (.int (a + b) :: st)) : Go l R Z n0 y code ml ret Q cells slots h pc Ls (.int b :: .int a :: st) := Go.step (fun C X _ q => by subst hp; exact XS.iadd X.here C.1 rfl (hb C.2.2.2.1 hd) rfl q) k
theorem Go.isub {a b : Int32} (hd : decode code pc = .ok (.isub, 1)) (hp : pc + 1 = pc') (k : Go l R Z n0 y code ml ret Q cells slots h pc' Ls (.int (a - b) :: st)) : Go l R Z n0 y code ml ret Q cells slots h pc Ls (.int b :: .int a :: st) := Go.step (fun C X _ q => by subst hp; exact XS.isub X.here C.1 rfl (hb C.2.2.2.1 hd) rfl q) k
theorem Go.iand {a b : Int32} (hd : decode code pc = .ok (.iand, 1)) (hp : pc + 1 = pc') (k : Go l R Z n0 y code ml ret Q cells slots h pc' Ls (.int (a &&& b) :: st)) : Go l R Z n0 y code ml ret Q cells slots h pc Ls (.int b :: .int a :: st) := Go.step (fun C X _ q => by subst hp; exact XS.iand X.here C.1 rfl (hb C.2.2.2.1 hd) rfl q) k
theorem Go.ior {a b : Int32} (hd : decode code pc = .ok (.ior, 1)) (hp : pc + 1 = pc') (k : Go l R Z n0 y code ml ret Q cells slots h pc' Ls (.int (a ||| b) :: st)) : Go l R Z n0 y code ml ret Q cells slots h pc Ls (.int b :: .int a :: st) := Go.step (fun C X _ q => by subst hp; exact XT.ior X.here C.1 rfl (hb C.2.2.2.1 hd) rfl q) k
theorem Go.ishl {a b : Int32} (hd : decode code pc = .ok (.ishl, 1)) (hp : pc + 1 = pc') (k : Go l R Z n0 y code ml ret Q cells slots h pc' Ls (.int (a <<< (b &&& 31)) :: st)) : Go l R Z n0 y code ml ret Q cells slots h pc Ls (.int b :: .int a :: st) := Go.step (fun C X _ q => by subst hp; exact XT.ishl X.here C.1 rfl (hb C.2.2.2.1 hd) rfl q) k
theorem Go.ishr {a b : Int32} (hd : decode code pc = .ok (.ishr, 1)) (hp : pc + 1 = pc') (k : Go l R Z n0 y code ml ret Q cells slots h pc' Ls (.int (a >>> (b &&& 31)) :: st)) : Go l R Z n0 y code ml ret Q cells slots h pc Ls (.int b :: .int a :: st) := Go.step (fun C X _ q => by subst hp; exact XT.ishr X.here C.1 rfl (hb C.2.2.2.1 hd) rfl q) k
theorem Go.iushr {a b : Int32} (hd : decode code pc = .ok (.iushr, 1)) (hp : pc + 1 = pc') (k : Go l R Z n0 y code ml ret Q cells slots h pc' Ls (.int (XT.ushr a b) :: st)) : Go l R Z n0 y code ml ret Q cells slots h pc Ls (.int b :: .int a :: st) := Go.step (fun C X _ q => by subst hp; exact XT.iushr X.here C.1 rfl (hb C.2.2.2.1 hd) rfl q) k
theorem Go.i2b {a : Int32} (hd : decode code pc = .ok (.i2b, 1)) (hp : pc + 1 = pc') (k : Go l R Z n0 y code ml ret Q cells slots h pc' Ls (.int a.toInt8.toInt32 :: st)) : Go l R Z n0 y code ml ret Q cells slots h pc Ls (.int a :: st) := Go.step (fun C X _ q => by subst hp; exact XT.i2b X.here C.1 rfl (hb C.2.2.2.1 hd) rfl q) k
theorem Go.i2c {a : Int32} (hd : decode code pc = .ok (.i2c, 1)) (hp : pc + 1 = pc') (k : Go l R Z n0 y code ml ret Q cells slots h pc' Ls (.int a.toUInt32.toUInt16.toUInt32.toInt32 :: st)) : Go l R Z n0 y code ml ret Q cells slots h pc Ls (.int a :: st) := Go.step (fun C X _ q => by subst hp; exact XT.i2c X.here C.1 rfl (hb C.2.2.2.1 hd) rfl q) k
theorem Go.iinc {k : Nat} {i : Int} {v w : Int32} (hd : decode code pc = .ok (.iinc k i, 3)) (hv : Int32.ofInt i = w) (hl : Ls[k]? = some (.val (.int v))) (hl' : storeLocals Ls k (.int (v + w)) = some Ls') (hp : pc + 3 = pc') (k : Go l R Z n0 y code ml ret Q cells slots h pc' Ls' st) : Go l R Z n0 y code ml ret Q cells slots h pc Ls st := Go.step (fun C X _ q => by subst hp; exact XT.iincV X.here C.1 rfl w (hb C.2.2.2.1 hd) hv hl hl' q) k
theorem Go.dup {v : Value} (hd : decode code pc = .ok (.dup, 1)) (hc : v.category = 1) (hp : pc + 1 = pc') (k : Go l R Z n0 y code ml ret Q cells slots h pc' Ls (v :: v :: st)) : Go l R Z n0 y code ml ret Q cells slots h pc Ls (v :: st) := Go.step (fun C X _ q => by subst hp; exact XS.dup X.here C.1 rfl (hb C.2.2.2.1 hd) rfl hc q) k
theorem Go.pop {v : Value} (hd : decode code pc = .ok (.pop, 1)) (hc : v.category = 1) (hp : pc + 1 = pc') (k : Go l R Z n0 y code ml ret Q cells slots h pc' Ls st) : Go l R Z n0 y code ml ret Q cells slots h pc Ls (v :: st) := Go.step (fun C X _ q => by subst hp; exact XT.pop X.here C.1 rfl (hb C.2.2.2.1 hd) rfl hc q) k
theorem Go.dupX1 {v w : Value} (hd : decode code pc = .ok (.dup_x1, 1)) (hc : v.category = 1) (hc' : w.category = 1) (hp : pc + 1 = pc') (k : Go l R Z n0 y code ml ret Q cells slots h pc' Ls (v :: w :: v :: st)) : Go l R Z n0 y code ml ret Q cells slots h pc Ls (v :: w :: st) := Go.step (fun C X _ q => by subst hp; exact XT.dupX1 X.here C.1 rfl (hb C.2.2.2.1 hd) rfl hc hc' q) k
theorem Go.goto {o : Int} (hd : decode code pc = .ok (.goto o, 3)) (ho : 0 ≤ (pc : Int) + o := by decide) (hp : ((pc : Int) + o).toNat = pc' := by decide) (k : Go l R Z n0 y code ml ret Q cells slots h pc' Ls st) : Go l R Z n0 y code ml ret Q cells slots h pc Ls st := Go.step (fun C X _ q => XS.goto X.here C.1 rfl rfl (hb C.2.2.2.1 hd) ho hp q) k
theorem Go.ifYes {o : Int} {cd : ClassFile.Cond} {a : Int32} (hd : decode code pc = .ok (.ifCond cd o, 3)) (hc : ifCond.holds cd a = true) (ho : 0 ≤ (pc : Int) + o := by decide) (hp : ((pc : Int) + o).toNat = pc' := by decide) (k : Go l R Z n0 y code ml ret Q cells slots h pc' Ls st) : Go l R Z n0 y code ml ret Q cells slots h pc Ls (.int a :: st) := Go.step (fun C X _ q => XS.ifYes X.here C.1 rfl rfl (hb C.2.2.2.1 hd) rfl hc ho hp q) k
theorem Go.icmpYes {o : Int} {cd : ClassFile.Cond} {a b : Int32} (hd : decode code pc = .ok (.if_icmp cd o, 3)) (hc : if_icmp.holds cd a b = true) (ho : 0 ≤ (pc : Int) + o := by decide) (hp : ((pc : Int) + o).toNat = pc' := by decide) (k : Go l R Z n0 y code ml ret Q cells slots h pc' Ls st) : Go l R Z n0 y code ml ret Q cells slots h pc Ls (.int b :: .int a :: st) := Go.step (fun C X _ q => XS.icmpYes X.here C.1 rfl rfl (hb C.2.2.2.1 hd) rfl hc ho hp q) k
theorem Go.nonnullYes {o : Int} {a : Value} (hd : decode code pc = .ok (.ifnonnull o, 3)) (ha : a.isRef = true) (hv : ¬ a = .null) (ho : 0 ≤ (pc : Int) + o := by decide) (hp : ((pc : Int) + o).toNat = pc' := by decide) (k : Go l R Z n0 y code ml ret Q cells slots h pc' Ls st) : Go l R Z n0 y code ml ret Q cells slots h pc Ls (a :: st) := Go.step (fun C X _ q => XT.nonnullYes X.here C.1 rfl rfl (hb C.2.2.2.1 hd) rfl ha hv ho hp q) k
theorem Go.ifNo {o : Int} {cd : ClassFile.Cond} {a : Int32} (hd : decode code pc = .ok (.ifCond cd o, 3)) (hc : ifCond.holds cd a = false) (hp : pc + 3 = pc') (k : Go l R Z n0 y code ml ret Q cells slots h pc' Ls st) : Go l R Z n0 y code ml ret Q cells slots h pc Ls (.int a :: st) := Go.step (fun C X _ q => by subst hp; exact XS.ifNo X.here C.1 rfl (hb C.2.2.2.1 hd) rfl hc q) k
theorem Go.icmpNo {o : Int} {cd : ClassFile.Cond} {a b : Int32} (hd : decode code pc = .ok (.if_icmp cd o, 3)) (hc : if_icmp.holds cd a b = false) (hp : pc + 3 = pc') (k : Go l R Z n0 y code ml ret Q cells slots h pc' Ls st) : Go l R Z n0 y code ml ret Q cells slots h pc Ls (.int b :: .int a :: st) := Go.step (fun C X _ q => by subst hp; exact XS.icmpNo X.here C.1 rfl (hb C.2.2.2.1 hd) rfl hc q) k
theorem Go.getstatic {host : String} {R0 O n d : String} {i : Nat} (w : (Jvm.Cond.fieldLink y.cls i R0 n d).before a0 Z = true ∨ (Jvm.Cond.fieldLinkNest y.cls i R0 n d host).before a0 Z = true) (via : Via Z R0 O n d) {v : Value} (F : Sta Z h O n d v) (hd : decode code pc = .ok (.getstatic i, 3)) (hp : pc + 3 = pc') (k : Go l R Z n0 y code ml ret Q cells slots h pc' Ls (v :: st)) : Go l R Z n0 y code ml ret Q cells slots h pc Ls st := by
  refine Go.law (P := fun h' => h' = h) (fun C X N eT _ => ?_) (fun h' e => e ▸ k)
  subst hp
  obtain ⟨T', X', e', st⟩ := getS2 X C.1 C.2.1 C.2.2.1 w via eT F (g := mkF _ pc Ls st) rfl (hb C.2.2.2.1 hd)
  exact ⟨T', _, h, X', N, e', rfl, st⟩
theorem Go.getfield {host : String} {R0 O n d : String} {i : Nat} (w : (Jvm.Cond.fieldLink y.cls i R0 n d).before a0 Z = true ∨ (Jvm.Cond.fieldLinkNest y.cls i R0 n d host).before a0 Z = true) (via : Via Z R0 O n d) {v : Value} {a : Addr} (F : Fld Z h a O n d v) (hd : decode code pc = .ok (.getfield i, 3)) (hp : pc + 3 = pc') (k : Go l R Z n0 y code ml ret Q cells slots h pc' Ls (v :: st)) : Go l R Z n0 y code ml ret Q cells slots h pc Ls (.ref a :: st) := by
  refine Go.law (P := fun h' => h' = h) (fun C X N eT _ => ?_) (fun h' e => e ▸ k)
  subst hp
  obtain ⟨T', X', e', st⟩ := getF X C.1 C.2.1 C.2.2.1 w via eT F (g := mkF _ pc Ls (.ref a :: st)) rfl rfl (hb C.2.2.2.1 hd)
  exact ⟨T', _, h, X', N, e', rfl, st⟩
theorem Go.castY {K : String} {i : Nat} {a : Addr} (w : (Jvm.Cond.classLink y.cls i K).before a0 Z = true) (F : Ins Z h a K true) (hd : decode code pc = .ok (.checkcast i, 3)) (hp : pc + 3 = pc') (k : Go l R Z n0 y code ml ret Q cells slots h pc' Ls (.ref a :: st)) : Go l R Z n0 y code ml ret Q cells slots h pc Ls (.ref a :: st) := by
  refine Go.law (P := fun h' => h' = h) (fun C X N eT _ => ?_) (fun h' e => e ▸ k)
  subst hp
  obtain ⟨T', X', e', st⟩ := castY X C.1 C.2.1 C.2.2.1 w eT F (g := mkF _ pc Ls (.ref a :: st)) rfl rfl (hb C.2.2.2.1 hd)
  exact ⟨T', _, h, X', N, e', rfl, st⟩
theorem Go.initO {i : Nat} {a : Addr} (w1 : (Jvm.Cond.methodLink y.cls i Lib.objectInit).before a0 Z = true) (w2 : (Jvm.Cond.instanceMethod Lib.objectInit).before a0 Z = true) (w3 : (Jvm.Cond.code Lib.objectInit ⟨#[0xb1]⟩ 1 none).before a0 Z = true) (hd : decode code pc = .ok (.invokespecial i, 3)) (hz : Ls.size = ml) (hf : 1 ≤ R.frames := by decide) (hl : (st.map fun v => v.category).sum + 12 ≤ R.locals := by decide) (hp : pc + 3 = pc') (k : Go l R Z n0 y code ml ret Q cells slots h pc' Ls st) : Go l R Z n0 y code ml ret Q cells slots h pc Ls (.ref a :: st) := by
  refine Go.law (P := fun h' => h' = h) (fun C X N eT _ => ?_) (fun h' e => e ▸ k)
  subst hp
  obtain ⟨T', X', e', st⟩ := initO X C.1 C.2.1 C.2.2.1 w1 w2 w3 eT (g := mkF _ pc Ls (.ref a :: st)) rfl (by rw [C.2.2.2.2.1]; exact hz) rfl (hb C.2.2.2.1 hd) hf (W := (st.map fun v => v.category).sum) (by simp) hl
  exact ⟨T', _, h, X', N, e', rfl, st⟩
theorem Go.putfield {host : String} {R0 O n d : String} {i : Nat} (w : (Jvm.Cond.fieldLink y.cls i R0 n d).before a0 Z = true ∨ (Jvm.Cond.fieldLinkNest y.cls i R0 n d host).before a0 Z = true) {ty : FieldType} {C' : String} {kk : Nat} (via : Via Z R0 O n d) {v old : Value} {a : Addr} (F : Fld Z h a O n d old) (E : Exa Z h a C') (L : (Jvm.Cond.lays C' O n d).before a0 Z = true ∨ ((Jvm.Cond.laysFinal C' O n d).before a0 Z = true ∧ y.cls = O ∧ y.name = "<init>")) (wi : (Jvm.Cond.instantiable C' kk).before a0 Z = true) (hty : parseFieldDescriptor d = some ty) (hn : narrow ty v = v) (hf : fits ty v = true) (ha : n0 ≤ a) (hd : decode code pc = .ok (.putfield i, 3)) (hp : pc + 3 = pc') (k : ∀ h', Wr h h' a (Jvm.RoadKit.slotOf Z O n d) v → Go l R Z n0 y code ml ret Q cells slots h' pc' Ls st) : Go l R Z n0 y code ml ret Q cells slots h pc Ls (v :: .ref a :: st) := by
  refine Go.law (P := fun h' => Wr h h' a (Jvm.RoadKit.slotOf Z O n d) v) (fun C X N eT hn => ?_) (k)
  subst hp
  obtain ⟨T', h', X', e', W, st⟩ := putF X C.1 C.2.1 C.2.2.1 w via eT F E (L.imp id fun q => ⟨q.1, q.2.1, C.2.2.2.2.2.2.2.1.trans q.2.2⟩) wi hty ‹narrow ty v = v› hf (g := mkF _ pc Ls (v :: .ref a :: st)) rfl rfl (hb C.2.2.2.1 hd)
  exact ⟨T', _, h', X', Fr.snoc X' N ha, e', W, st⟩
theorem Go.putfieldN {R0 O n d : String} {i : Nat} (w : (Jvm.Cond.fieldLink y.cls i R0 n d).before a0 Z = true) {ty : FieldType} {C' : String} {kk : Nat} (via : Via Z R0 O n d) {v v' : Int32} {old : Value} {a : Addr} (F : Fld Z h a O n d old) (E : Exa Z h a C') (L : (Jvm.Cond.lays C' O n d).before a0 Z = true ∨ ((Jvm.Cond.laysFinal C' O n d).before a0 Z = true ∧ y.cls = O ∧ y.name = "<init>")) (wi : (Jvm.Cond.instantiable C' kk).before a0 Z = true) (hty : parseFieldDescriptor d = some ty) (hn : narrow ty (.int v) = .int v') (hf : fits ty (.int v') = true) (ha : n0 ≤ a) (hd : decode code pc = .ok (.putfield i, 3)) (hp : pc + 3 = pc') (k : ∀ h', Wr h h' a (Jvm.RoadKit.slotOf Z O n d) (.int v') → Go l R Z n0 y code ml ret Q cells slots h' pc' Ls st) : Go l R Z n0 y code ml ret Q cells slots h pc Ls (.int v :: .ref a :: st) := by
  refine Go.law (P := fun h' => Wr h h' a (Jvm.RoadKit.slotOf Z O n d) (.int v')) (fun C X N eT hn => ?_) (k)
  subst hp
  obtain ⟨T', h', X', e', W, st⟩ := putFN X C.1 C.2.1 C.2.2.1 w via eT F E (L.imp id fun q => ⟨q.1, q.2.1, C.2.2.2.2.2.2.2.1.trans q.2.2⟩) wi hty ‹narrow ty (.int v) = .int v'› hf (g := mkF _ pc Ls (.int v :: .ref a :: st)) rfl rfl (hb C.2.2.2.1 hd)
  exact ⟨T', _, h', X', Fr.snoc X' N ha, e', W, st⟩
theorem Go.new {C' : String} {i n cells' slots' : Nat} (w : (Jvm.Cond.classLink y.cls i C').before a0 Z = true) (wi : (Jvm.Cond.instantiable C' n).before a0 Z = true) (wz : (Jvm.Cond.initialized C').before a0 Z = true) (hd : decode code pc = .ok (.new i, 3)) (hc' : cells + 1 = cells') (hs' : slots + n = slots') (hc : cells' ≤ R.cells := by decide) (hl : slots' ≤ R.slots := by decide) (hp : pc + 3 = pc') (k : ∀ (h' : Heap) (b : Addr), b = h.size → Ext h h' → n0 ≤ b → Exa Z h' b C' → (∀ {O nm d : String} {ty : FieldType}, Laid Z a0 C' O nm d → parseFieldDescriptor d = some ty → Fld Z h' b O nm d (defaultValue ty)) → Go l R Z n0 y code ml ret Q cells' slots' h' pc' Ls (.ref b :: st)) : Go l R Z n0 y code ml ret Q cells slots h pc Ls st := by
  refine Go.law (P := fun h' => (Ext h h' ∧ n0 ≤ h.size ∧ Exa Z h' h.size C' ∧ ∀ {O nm d : String} {ty : FieldType}, Laid Z a0 C' O nm d → parseFieldDescriptor d = some ty → Fld Z h' h.size O nm d (defaultValue ty))) (fun C X N eT hn => ?_) (fun h' q => k h' h.size rfl q.1 q.2.1 q.2.2.1 q.2.2.2)
  subst hp
  subst hc' hs'
  obtain ⟨T', h', X', e', E, A, D, -, st⟩ := newO X C.1 C.2.1 C.2.2.1 w wi wz eT (g := mkF _ pc Ls st) rfl (hb C.2.2.2.1 hd) hc hl
  exact ⟨T', _, h', X', N, e', ⟨E, hn, A, D⟩, st⟩
theorem Go.newarray {aty : ArrayType} {ad : String} {n : Int32} {cap cells' slots' : Nat} (w : (Jvm.Cond.arrayClass (newarray.typeOf aty)).before a0 Z = true) (hd : decode code pc = .ok (.newarray aty, 2)) (had : "[" ++ (newarray.typeOf aty).toString = ad) (hn' : ¬ n < 0) (hcap : n.toNatClampNeg ≤ cap) (hc' : cells + 1 = cells') (hs' : slots + cap = slots') (hb8 : cap * 8 ≤ 536870912 := by decide) (hc : cells' ≤ R.cells := by decide) (hl : slots' ≤ R.slots := by decide) (hp : pc + 2 = pc') (k : ∀ (h' : Heap) (b : Addr), b = h.size → Ext h h' → n0 ≤ b → ∀ cA, Arv Z h' b cA (newarray.typeOf aty) n [] (defaultValue (newarray.typeOf aty)) → Exa Z h' b ad → Go l R Z n0 y code ml ret Q cells' slots' h' pc' Ls (.ref b :: st)) : Go l R Z n0 y code ml ret Q cells slots h pc Ls (.int n :: st) := by
  refine Go.law (P := fun h' => (Ext h h' ∧ n0 ≤ h.size ∧ ∃ cA, Arv Z h' h.size cA (newarray.typeOf aty) n [] (defaultValue (newarray.typeOf aty)) ∧ Exa Z h' h.size ad)) (fun C X N eT hn => ?_) (fun h' q => q.2.2.elim fun cA u => k h' h.size rfl q.1 q.2.1 cA u.1 u.2)
  subst hp
  subst hc' hs'
  obtain ⟨T', h', cA, X', e', E, A, A2, st⟩ := newPE X C.1 C.2.1 w eT (g := mkF _ pc Ls (.int n :: st)) rfl (hb C.2.2.2.1 hd) rfl hn' hcap hb8 hc hl had
  exact ⟨T', _, h', X', N, e', ⟨E, hn, cA, Arv.new A hn', A2⟩, st⟩
theorem Go.clone {i cap cells' slots' : Nat} {a : Addr} {ad : String} {kA : ClassId} {ty : FieldType} {z : Int32} {vs : List Value} {dv : Value} (w1 : (Jvm.Cond.methodLink y.cls i ⟨ad, "clone", "()Ljava/lang/Object;"⟩).before a0 Z = true) (w2 : (Jvm.Cond.sameMethod ad "java/lang/Object" "clone" "()Ljava/lang/Object;").before a0 Z = true) (w3 : (Jvm.Cond.native ⟨"java/lang/Object", "clone", "()Ljava/lang/Object;"⟩).before a0 Z = true) (w4 : (Jvm.Cond.instanceMethod ⟨"java/lang/Object", "clone", "()Ljava/lang/Object;"⟩).before a0 Z = true) (w5 : (Jvm.Cond.selects ad ⟨ad, "clone", "()Ljava/lang/Object;"⟩ ⟨"java/lang/Object", "clone", "()Ljava/lang/Object;"⟩).before a0 Z = true) (w6 : (Jvm.Cond.castable ad "java/lang/Cloneable").before a0 Z = true) (F : Arv Z h a kA ty z vs dv) (E : Exa Z h a ad) (hd : decode code pc = .ok (.invokevirtual i, 3)) (hz : Ls.size = ml) (hf : 1 ≤ R.frames) (hlo : (st.map fun v => v.category).sum + 14 ≤ R.locals) (hcap : z.toNatClampNeg ≤ cap) (hc' : cells + 1 = cells') (hs' : slots + cap = slots') (hc : cells' ≤ R.cells) (hsl : slots' ≤ R.slots) (hp : pc + 3 = pc') (k : ∀ (h' : Heap) (b : Addr), b = h.size → Ext h h' → n0 ≤ b → Arv Z h' b kA ty z vs dv → Exa Z h' b ad → Go l R Z n0 y code ml ret Q cells' slots' h' pc' Ls (.ref b :: st)) : Go l R Z n0 y code ml ret Q cells slots h pc Ls (.ref a :: st) := by
  refine Go.law (P := fun h' => (Ext h h' ∧ n0 ≤ h.size ∧ Arv Z h' h.size kA ty z vs dv ∧ Exa Z h' h.size ad)) (fun C X N eT hn => ?_) (fun h' q => k h' h.size rfl q.1 q.2.1 q.2.2.1 q.2.2.2)
  subst hp
  subst hc' hs'
  obtain ⟨cl, A, q1, S, q3, H, G⟩ := F
  have FC : FitC Z cl := fitC_of A fun i hi v hv => by rw [H i hi] at hv; cases hv; exact G i hi
  obtain ⟨T', h', X', e', ex, A', E', st⟩ := cloneA X C.1 C.2.1 C.2.2.1 w1 w2 w3 w4 w5 w6 eT A E FC (g := mkF _ pc Ls (.ref a :: st)) rfl (by rw [C.2.2.2.2.1]; exact hz) rfl (hb C.2.2.2.1 hd) hf (W := (st.map fun v => v.category).sum) (by simp) hlo (by rw [S]; exact hcap) hc hsl
  exact ⟨T', _, h', X', N, e', ⟨ex, hn, ⟨cloneOf cl, A', q1, S, q3, H, G⟩, E'⟩, st⟩
theorem Go.arraycopy {i : Nat} {a b : Addr} {kA kB : ClassId} {ty ty' : FieldType} {z z' sp dp nn : Int32} {vs vd us vd' : List Value} {dv dd : Value} (w1 : (Jvm.Cond.methodLink y.cls i Jvm.Stand.acN).before a0 Z = true) (w2 : (Jvm.Cond.native Jvm.Stand.acN).before a0 Z = true) (w3 : (Jvm.Cond.static Jvm.Stand.acN).before a0 Z = true) (w4 : (Jvm.Cond.initialized "java/lang/System").before a0 Z = true)
    (A : Arv Z h a kA ty z vs dv) (B : Arv Z h b kB ty' z' vd dd) (hty : (ty = ty' ∧ refKind ty = false) ∨ (refKind ty = true ∧ refKind ty' = true ∧ StoL Z h b us)) (h1 : ¬ sp < 0) (h2 : ¬ dp < 0) (h3 : ¬ nn < 0) (h4 : sp.toNatClampNeg + nn.toNatClampNeg ≤ z.toNatClampNeg) (h5 : dp.toNatClampNeg + nn.toNatClampNeg ≤ z'.toNatClampNeg)
    (hus : us = (List.range nn.toNatClampNeg).map fun i => vs.getD (sp.toNatClampNeg + i) dv) (hl : dp.toNatClampNeg + nn.toNatClampNeg ≤ vd.length) (hvd : vd.take dp.toNatClampNeg ++ us ++ vd.drop (dp.toNatClampNeg + nn.toNatClampNeg) = vd') (ge : n0 ≤ b) (hd : decode code pc = .ok (.invokestatic i, 3)) (hz : Ls.size = ml) (hf : 1 ≤ R.frames := by decide) (hlo : (st.map fun v => v.category).sum + (nativeFrameWords "java/lang/System" "arraycopy" 5 + 11) ≤ R.locals := by decide) (hp : pc + 3 = pc')
    (k : ∀ h', Keep h h' [b] → Arv Z h' b kB ty' z' vd' dd → Go l R Z n0 y code ml ret Q cells slots h' pc' Ls st) : Go l R Z n0 y code ml ret Q cells slots h pc Ls (.int nn :: .int dp :: .ref b :: .int sp :: .ref a :: st) := by
  refine Go.law (P := fun h' => Keep h h' [b] ∧ Arv Z h' b kB ty' z' vd' dd) (fun C X N eT hn => ?_) (fun h' q => k h' q.1 q.2)
  subst hp hvd
  obtain ⟨T', h', L, X', e', N', K, V, st⟩ := cpA X C.1 C.2.1 C.2.2.1 w1 w2 w3 w4 eT A B hty h1 h2 h3 h4 h5 hus hl N ge (g := mkF _ pc Ls (.int nn :: .int dp :: .ref b :: .int sp :: .ref a :: st)) rfl (by rw [C.2.2.2.2.1]; exact hz) rfl (hb C.2.2.2.1 hd) hf (W := (st.map fun v => v.category).sum) (by simp) hlo
  exact ⟨T', L, h', X', N', e', ⟨K, V⟩, st⟩
theorem Go.castore {a : Addr} {kA : ClassId} {z j : Int32} {vs : List Value} {dv : Value} {v : Int32} {i : Nat} (F : Arv Z h a kA .char z vs dv) (ha : n0 ≤ a) (hd : decode code pc = .ok (.castore, 1)) (hj : ¬ j < 0) (hjz : j < z) (hi : j.toNatClampNeg = i) (hil : i < vs.length) (hp : pc + 1 = pc') (k : ∀ h', Wr h h' a i (.int (nar .char v)) → Arv Z h' a kA .char z (vs.set i (.int (nar .char v))) dv → Go l R Z n0 y code ml ret Q cells slots h' pc' Ls st) : Go l R Z n0 y code ml ret Q cells slots h pc Ls (.int v :: .int j :: .ref a :: st) := by
  refine Go.law (P := fun h' => (Wr h h' a i (.int (nar .char v)) ∧ Arv Z h' a kA .char z (vs.set i (.int (nar .char v))) dv)) (fun C X N eT hn => ?_) (fun h' q => k h' q.1 q.2)
  subst hp
  obtain ⟨cl, A, q1, S, q3, H, G⟩ := F
  obtain ⟨T', h', X', e', W, st⟩ := stC X C.1 C.2.1 eT A (j := j) (inb_of S ⟨hj, hjz⟩) (g := mkF _ pc Ls (.int v :: .int j :: .ref a :: st)) rfl rfl (hb C.2.2.2.1 hd)
  have V := Arv.set A q1 S q3 H G (fits_nar_char v) W i hi hil
  subst hi
  exact ⟨T', _, h', X', Fr.snoc X' N ha, e', ⟨W, V⟩, st⟩
theorem Go.bastore {a : Addr} {kA : ClassId} {z j : Int32} {vs : List Value} {dv : Value} {v : Int32} {i : Nat} (F : Arv Z h a kA .byte z vs dv) (ha : n0 ≤ a) (hd : decode code pc = .ok (.bastore, 1)) (hj : ¬ j < 0) (hjz : j < z) (hi : j.toNatClampNeg = i) (hil : i < vs.length) (hp : pc + 1 = pc') (k : ∀ h', Wr h h' a i (.int v.toInt8.toInt32) → Arv Z h' a kA .byte z (vs.set i (.int v.toInt8.toInt32)) dv → Go l R Z n0 y code ml ret Q cells slots h' pc' Ls st) : Go l R Z n0 y code ml ret Q cells slots h pc Ls (.int v :: .int j :: .ref a :: st) := by
  refine Go.law (P := fun h' => (Wr h h' a i (.int v.toInt8.toInt32) ∧ Arv Z h' a kA .byte z (vs.set i (.int v.toInt8.toInt32)) dv)) (fun C X N eT hn => ?_) (fun h' q => k h' q.1 q.2)
  subst hp
  obtain ⟨cl, A, q1, S, q3, H, G⟩ := F
  obtain ⟨T', h', X', e', W, st⟩ := stB X C.1 C.2.1 eT A (j := j) (inb_of S ⟨hj, hjz⟩) (g := mkF _ pc Ls (.int v :: .int j :: .ref a :: st)) rfl rfl (hb C.2.2.2.1 hd)
  have V := Arv.set A q1 S q3 H G (fits_nar_byte v) W i hi hil
  subst hi
  exact ⟨T', _, h', X', Fr.snoc X' N ha, e', ⟨W, V⟩, st⟩
theorem Go.caload {a : Addr} {kA : ClassId} {z j : Int32} {vs : List Value} {dv : Value} {v : Int32} (F : Arv Z h a kA .char z vs dv) (hd : decode code pc = .ok (.caload, 1)) (hj : ¬ j < 0) (hjz : j < z) (hv : vs.getD j.toNatClampNeg dv = .int v) (hp : pc + 1 = pc') (k : Go l R Z n0 y code ml ret Q cells slots h pc' Ls (.int v :: st)) : Go l R Z n0 y code ml ret Q cells slots h pc Ls (.int j :: .ref a :: st) := by
  refine Go.step (fun C X eT q => ?_) k
  subst hp
  obtain ⟨cl, A, q1, S, q3, H, G⟩ := F
  have hin := inb_of S ⟨hj, hjz⟩
  exact X.caload C.1 (j := j) (v := .int v) (by rw [eT]; exact A.1) (State.isArrayOf_alike C.2.1.alike A.2.1) A.2.2 hin (Has.at H hin hv) (g := mkF _ pc Ls (.int j :: .ref a :: st)) rfl rfl (hb C.2.2.2.1 hd) _ q
theorem Go.baload {a : Addr} {kA : ClassId} {z j : Int32} {vs : List Value} {dv : Value} {v : Int32} (F : Arv Z h a kA .byte z vs dv) (hd : decode code pc = .ok (.baload, 1)) (hj : ¬ j < 0) (hjz : j < z) (hv : vs.getD j.toNatClampNeg dv = .int v) (hp : pc + 1 = pc') (k : Go l R Z n0 y code ml ret Q cells slots h pc' Ls (.int v :: st)) : Go l R Z n0 y code ml ret Q cells slots h pc Ls (.int j :: .ref a :: st) := by
  refine Go.step (fun C X eT q => ?_) k
  subst hp
  obtain ⟨cl, A, q1, S, q3, H, G⟩ := F
  have hin := inb_of S ⟨hj, hjz⟩
  exact X.baloadBytes C.1 (j := j) (v := .int v) (by rw [eT]; exact A.1) (State.isArrayOf_alike C.2.1.alike A.2.1) A.2.2 hin (Has.at H hin hv) (g := mkF _ pc Ls (.int j :: .ref a :: st)) rfl rfl (hb C.2.2.2.1 hd) _ q
theorem Go.arraylength {a : Addr} {kA : ClassId} {ty : FieldType} {z : Int32} {vs : List Value} {dv : Value} (F : Arv Z h a kA ty z vs dv) (hd : decode code pc = .ok (.arraylength, 1)) (hp : pc + 1 = pc') (k : Go l R Z n0 y code ml ret Q cells slots h pc' Ls (.int z :: st)) : Go l R Z n0 y code ml ret Q cells slots h pc Ls (.ref a :: st) := by
  refine Go.step (fun C X eT q => ?_) k
  subst hp
  obtain ⟨cl, A, q1, S, q3, H, G⟩ := F
  refine X.arraylength C.1 (by rw [eT]; exact A.1) (State.isArrayOf_alike C.2.1.alike A.2.1) (g := mkF _ pc Ls (.ref a :: st)) rfl rfl (hb C.2.2.2.1 hd) _ ?_
  rw [len_of S q3]
  exact q
theorem Go.retV (hr : ret = none) (hd : decode code pc = .ok (.return_, 1)) (hq : Q none h) (hc : cells ≤ R.cells := by decide) (hs : slots ≤ R.slots := by decide) : Go l R Z n0 y code ml ret Q cells slots h pc Ls [] := by
  intro p e s m args below meth c T locs C X N eT
  obtain ⟨fs, hr', hrun, hended, hW, hsame⟩ := X.leave (v := none) (fun _ => rfl) C.2.2.2.2.2.2.1
  refine ⟨_, _, X.returnOut C.1 (C.2.2.2.2.2.1.trans hr) (hb C.2.2.2.1 hd) hr', hrun, hended, _, locs, rfl, ⟨?_, N⟩, ⟨_, rfl⟩, hW, hsame.mono hc hs⟩
  show Q _ T.heap
  rw [eT]; exact hq
theorem Go.retN {t : FieldType} {v : Int32} (hr : ret = some t) (ht : t = .boolean ∨ t = .byte ∨ t = .char ∨ t = .short) (hd : decode code pc = .ok (.ireturn, 1)) (hq : Q (some (.int (nar t v))) h) (hc : cells ≤ R.cells := by decide) (hs : slots ≤ R.slots := by decide) : Go l R Z n0 y code ml ret Q cells slots h pc Ls (.int v :: st) := by
  intro p e s m args below meth c T locs C X N eT
  obtain ⟨fs, hr', hrun, hended, hW, hsame⟩ := X.leave (v := some (.int (nar t v))) (fun q => by rw [C.2.2.2.2.2.1, hr] at q; cases q) C.2.2.2.2.2.2.1
  refine ⟨_, _, Jvm.RoadKit.retN X C.1 (C.2.2.2.2.2.1.trans hr) ht (hb C.2.2.2.1 hd) hr', hrun, hended, _, locs, rfl, ⟨?_, N⟩, ⟨_, rfl⟩, hW, hsame.mono hc hs⟩
  show Q _ T.heap
  rw [eT]; exact hq
theorem Go.retI {v : Int32} (hr : ret = some .int) (hd : decode code pc = .ok (.ireturn, 1)) (hq : Q (some (.int v)) h) (hc : cells ≤ R.cells := by decide) (hs : slots ≤ R.slots := by decide) : Go l R Z n0 y code ml ret Q cells slots h pc Ls (.int v :: st) := by
  intro p e s m args below meth c T locs C X N eT
  obtain ⟨fs, hr', hrun, hended, hW, hsame⟩ := X.leave (v := some (.int v)) (fun q => by rw [C.2.2.2.2.2.1, hr] at q; cases q) C.2.2.2.2.2.2.1
  refine ⟨_, _, retOut X C.1 (C.2.2.2.2.2.1.trans hr) rfl (Or.inl ⟨rfl, Or.inl rfl, _, rfl⟩) (hb C.2.2.2.1 hd) hr', hrun, hended, _, locs, rfl, ⟨?_, N⟩, ⟨_, rfl⟩, hW, hsame.mono hc hs⟩
  show Q _ T.heap
  rw [eT]; exact hq
theorem Go.retR {t : FieldType} {v : Value} (hr : ret = some t) (ht : t.isReference = true) (hv : v.isRef = true) (hn : narrow t v = v) (hd : decode code pc = .ok (.areturn, 1)) (hq : Q (some v) h) (hc : cells ≤ R.cells := by decide) (hs : slots ≤ R.slots := by decide) : Go l R Z n0 y code ml ret Q cells slots h pc Ls (v :: st) := by
  intro p e s m args below meth c T locs C X N eT
  obtain ⟨fs, hr', hrun, hended, hW, hsame⟩ := X.leave (v := some v) (fun q => by rw [C.2.2.2.2.2.1, hr] at q; cases q) C.2.2.2.2.2.2.1
  refine ⟨_, _, retOut X C.1 (C.2.2.2.2.2.1.trans hr) hn (Or.inr (Or.inr (Or.inr (Or.inr ⟨rfl, ht, hv⟩)))) (hb C.2.2.2.1 hd) hr', hrun, hended, _, locs, rfl, ⟨?_, N⟩, ⟨_, rfl⟩, hW, hsame.mono hc hs⟩
  show Q _ T.heap
  rw [eT]; exact hq
theorem Go.callS {z : MethodName} {zc : ByteArray} {zm : Nat} {zr : Option FieldType} {rm : Room} {Q' : Option Value → Heap → Prop} {cells' slots' i : Nat} (argsL rest : List Value) {ps : List FieldType} {r : Option FieldType} (w1 : (Jvm.Cond.methodLink y.cls i z).before a0 Z = true) (w2 : (Jvm.Cond.static z).before a0 Z = true) (wi : (Jvm.Cond.initialized z.cls).before a0 Z = true) (wc : (Jvm.Cond.code z zc zm zr).before a0 Z = true) (hy : z.cls ≠ "java/lang/invoke/MethodHandle" ∧ z.cls ≠ "java/lang/invoke/VarHandle") (hK : Con l z zc zm zr rm Z n0 argsL.toArray h Q') (hpd : parseMethodDescriptor z.desc = some ⟨ps, r⟩) (hd : decode code pc = .ok (.invokestatic i, 3)) (hp : pc + 3 = pc')
    (k : ∀ v h', Q' v h' → Go l R Z n0 y code ml ret Q cells' slots' h' pc' Ls (v.toList ++ rest)) (hlen : argsL.length = ps.length := by rfl) (hst : st = argsL.reverse ++ rest := by rfl) (hz : Ls.size = ml := by rfl) (hc' : cells + rm.cells = cells' := by rfl) (hs' : slots + rm.slots = slots' := by rfl) (hfr : rm.frames + 1 ≤ R.frames := by exact Nat.le_of_ble_eq_true rfl) (hlo : (rest.map fun v => v.category).sum + (zm + 11) + rm.locals ≤ R.locals := by exact Nat.le_of_ble_eq_true rfl) (hc : cells' ≤ R.cells := by exact Nat.le_of_ble_eq_true rfl) (hs : slots' ≤ R.slots := by exact Nat.le_of_ble_eq_true rfl) : Go l R Z n0 y code ml ret Q cells slots h pc Ls st := by
  intro p e s m args below meth c T locs C X N eT
  subst hc' hs' hp hst
  have hold : Old Z n0 h := own_old C.2.2.2.2.2.2.2.2 X N eT
  obtain ⟨v, _, ⟨T', L', k', n'⟩, -, X', ⟨Lc, hQ, l', y', z'⟩, st⟩ := Jvm.LawKit.callS X C.1 (y := z) C.2.2.1 (mvT C.2.1 w1) (mvT C.2.1 w2) (mvT C.2.1 wi) (mvT C.2.1 wc) hy (backOf (W := (rest.map fun v => v.category).sum) (Q := fun v h L => Q' v h ∧ Fr n0 L) (hK hold []) C.2.1 wc wi hfr hlo) (g := mkF m pc Ls (argsL.reverse ++ rest)) rfl (by rw [C.2.2.2.2.1]; exact hz) (argsL := argsL) (rest := rest) (lenOf hpd hlen) rfl (by simp) (hb C.2.2.2.1 hd) (fun _ _ => ⟨rfl, eT, hc, hs⟩)
  dsimp only [Pt.U, Pt.locs, Pt.cells, Pt.slots] at X' l' y' z' st hQ
  subst l' y' z'
  obtain ⟨s₂, o, h1, h2⟩ := k v _ hQ.1 p e s m args below meth c T' _ C X' (Fr.app N hQ.2) rfl
  exact ⟨s₂, o, st _ h1, h2⟩
theorem Go.callC {z : MethodName} {zc : ByteArray} {zm : Nat} {zr : Option FieldType} {rm : Room} {Q' : Option Value → Heap → Prop} {cells' slots' i : Nat} (argsL rest : List Value) {ps : List FieldType} {r : Option FieldType} {a : Addr} (hzi : z.name = "<init>") (hzr : zr = none) (w1 : (Jvm.Cond.methodLink y.cls i z).before a0 Z = true) (w2 : (Jvm.Cond.instanceMethod z).before a0 Z = true) (wi : (Jvm.Cond.initialized z.cls).before a0 Z = true) (wc : (Jvm.Cond.code z zc zm zr).before a0 Z = true) (hy : z.cls ≠ "java/lang/invoke/MethodHandle" ∧ z.cls ≠ "java/lang/invoke/VarHandle") (hK : Con l z zc zm zr rm Z n0 (.ref a :: argsL).toArray h Q') (hpd : parseMethodDescriptor z.desc = some ⟨ps, r⟩) (hd : decode code pc = .ok (.invokespecial i, 3)) (hp : pc + 3 = pc')
    (k : ∀ v h', Q' v h' → Go l R Z n0 y code ml ret Q cells' slots' h' pc' Ls (v.toList ++ rest)) (hlen : argsL.length = ps.length := by rfl) (hst : st = argsL.reverse ++ .ref a :: rest := by rfl) (hz : Ls.size = ml := by rfl) (hc' : cells + rm.cells = cells' := by rfl) (hs' : slots + rm.slots = slots' := by rfl) (hfr : rm.frames + 1 ≤ R.frames := by exact Nat.le_of_ble_eq_true rfl) (hlo : (rest.map fun v => v.category).sum + (zm + 11) + rm.locals ≤ R.locals := by exact Nat.le_of_ble_eq_true rfl) (hc : cells' ≤ R.cells := by exact Nat.le_of_ble_eq_true rfl) (hs : slots' ≤ R.slots := by exact Nat.le_of_ble_eq_true rfl) : Go l R Z n0 y code ml ret Q cells slots h pc Ls st := by
  intro p e s m args below meth c T locs C X N eT
  subst hc' hs' hp hst
  have hold : Old Z n0 h := own_old C.2.2.2.2.2.2.2.2 X N eT
  subst hzr
  obtain ⟨v, _, ⟨T', L', k', n'⟩, -, X', ⟨Lc, hQ, l', y', z'⟩, st⟩ := X.specialBack C.1 (y := z) hzi C.2.2.1 (mvT C.2.1 w1) (mvT C.2.1 w2) (mvT C.2.1 wc) hy (backOf (W := (rest.map fun v => v.category).sum) (Q := fun v h L => Q' v h ∧ Fr n0 L) (hK hold []) C.2.1 wc wi hfr hlo) (g := mkF m pc Ls (argsL.reverse ++ .ref a :: rest)) rfl (by rw [C.2.2.2.2.1]; exact hz) (Steps.refl _) (a := a) (argsL := argsL) (rest := rest) (lenOf hpd hlen) rfl (by simp) (hb C.2.2.2.1 hd) (fun _ _ => ⟨rfl, eT, hc, hs⟩)
  dsimp only [Pt.U, Pt.locs, Pt.cells, Pt.slots] at X' l' y' z' st hQ
  subst l' y' z'
  obtain ⟨s₂, o, h1, h2⟩ := k v _ hQ.1 p e s m args below meth c T' _ C X' (Fr.app N hQ.2) rfl
  exact ⟨s₂, o, st.trans h1, h2⟩
theorem Go.callV {z : MethodName} {zc : ByteArray} {zm : Nat} {zr : Option FieldType} {rm : Room} {Q' : Option Value → Heap → Prop} {cells' slots' i : Nat} (argsL rest : List Value) {ps : List FieldType} {r : Option FieldType} {a : Addr} {x' : MethodName} {C' : String} (E : Exa Z h a C') (w1 : (Jvm.Cond.methodLink y.cls i x').before a0 Z = true) (w2 : (Jvm.Cond.declares x').before a0 Z = true) (nf : ∀ s' : State, Z.Warmed39 s'.vm → NotFace s' x') (w3 : (Jvm.Cond.selects C' x' z).before a0 Z = true) (w4 : (Jvm.Cond.instanceMethod z).before a0 Z = true) (wi : (Jvm.Cond.initialized z.cls).before a0 Z = true) (wc : (Jvm.Cond.code z zc zm zr).before a0 Z = true) (hy : x'.cls ≠ "java/lang/invoke/MethodHandle" ∧ x'.cls ≠ "java/lang/invoke/VarHandle") (hK : Con l z zc zm zr rm Z n0 (.ref a :: argsL).toArray h Q') (hpd : parseMethodDescriptor x'.desc = some ⟨ps, r⟩) (hd : decode code pc = .ok (.invokevirtual i, 3)) (hp : pc + 3 = pc')
    (k : ∀ v h', Q' v h' → Go l R Z n0 y code ml ret Q cells' slots' h' pc' Ls (v.toList ++ rest)) (hlen : argsL.length = ps.length := by rfl) (hst : st = argsL.reverse ++ .ref a :: rest := by rfl) (hz : Ls.size = ml := by rfl) (hc' : cells + rm.cells = cells' := by rfl) (hs' : slots + rm.slots = slots' := by rfl) (hfr : rm.frames + 1 ≤ R.frames := by exact Nat.le_of_ble_eq_true rfl) (hlo : (rest.map fun v => v.category).sum + (zm + 11) + rm.locals ≤ R.locals := by exact Nat.le_of_ble_eq_true rfl) (hc : cells' ≤ R.cells := by exact Nat.le_of_ble_eq_true rfl) (hs : slots' ≤ R.slots := by exact Nat.le_of_ble_eq_true rfl) : Go l R Z n0 y code ml ret Q cells slots h pc Ls st := by
  intro p e s m args below meth c T locs C X N eT
  subst hc' hs' hp hst
  have hold : Old Z n0 h := own_old C.2.2.2.2.2.2.2.2 X N eT
  obtain ⟨cq, kq, qa, qb, qc⟩ := isOf C.2.1 eT E
  obtain ⟨v, _, ⟨T', L', k', n'⟩, -, X', ⟨Lc, hQ, l', y', z'⟩, st⟩ := X.virtualBack C.1 (y := x') (z := z) C.2.2.1 (mvT C.2.1 w1) (mvT C.2.1 w2) (nf s C.2.1) (mvT C.2.1 w3) (mvT C.2.1 w4) hy (backOf (W := (rest.map fun v => v.category).sum) (Q := fun v h L => Q' v h ∧ Fr n0 L) (hK hold []) C.2.1 wc wi hfr hlo) qa qc (g := mkF m pc Ls (argsL.reverse ++ .ref a :: rest)) rfl (by rw [C.2.2.2.2.1]; exact hz) (Steps.refl _) (argsL := argsL) (rest := rest) (lenOf hpd hlen) rfl (by simp) (hb C.2.2.2.1 hd) (fun _ _ => ⟨rfl, eT, hc, hs⟩)
  dsimp only [Pt.U, Pt.locs, Pt.cells, Pt.slots] at X' l' y' z' st hQ
  subst l' y' z'
  obtain ⟨s₂, o, h1, h2⟩ := k v _ hQ.1 p e s m args below meth c T' _ C X' (Fr.app N hQ.2) rfl
  exact ⟨s₂, o, st.trans h1, h2⟩
theorem Go.callP {z : MethodName} {zc : ByteArray} {zm : Nat} {zr : Option FieldType} {rm : Room} {Q' : Option Value → Heap → Prop} {cells' slots' i : Nat} (argsL rest : List Value) {ps : List FieldType} {r : Option FieldType} {a : Addr} {C' : String} (E : Exa Z h a C') (w1 : (Jvm.Cond.methodLink y.cls i z).before a0 Z = true) (w2 : (Jvm.Cond.instanceMethod z).before a0 Z = true) (w3 : (Jvm.Cond.selects z.cls z z).before a0 Z = true) (w4 : (Jvm.Cond.privateMethod z).before a0 Z = true) (wi : (Jvm.Cond.initialized z.cls).before a0 Z = true) (wc : (Jvm.Cond.code z zc zm zr).before a0 Z = true) (hy : z.cls ≠ "java/lang/invoke/MethodHandle" ∧ z.cls ≠ "java/lang/invoke/VarHandle") (hK : Con l z zc zm zr rm Z n0 (.ref a :: argsL).toArray h Q') (hpd : parseMethodDescriptor z.desc = some ⟨ps, r⟩) (hd : decode code pc = .ok (.invokevirtual i, 3)) (hp : pc + 3 = pc')
    (k : ∀ v h', Q' v h' → Go l R Z n0 y code ml ret Q cells' slots' h' pc' Ls (v.toList ++ rest)) (hlen : argsL.length = ps.length := by rfl) (hst : st = argsL.reverse ++ .ref a :: rest := by rfl) (hz : Ls.size = ml := by rfl) (hc' : cells + rm.cells = cells' := by rfl) (hs' : slots + rm.slots = slots' := by rfl) (hfr : rm.frames + 1 ≤ R.frames := by exact Nat.le_of_ble_eq_true rfl) (hlo : (rest.map fun v => v.category).sum + (zm + 11) + rm.locals ≤ R.locals := by exact Nat.le_of_ble_eq_true rfl) (hc : cells' ≤ R.cells := by exact Nat.le_of_ble_eq_true rfl) (hs : slots' ≤ R.slots := by exact Nat.le_of_ble_eq_true rfl) : Go l R Z n0 y code ml ret Q cells slots h pc Ls st := by
  intro p e s m args below meth c T locs C X N eT
  subst hc' hs' hp hst
  have hold : Old Z n0 h := own_old C.2.2.2.2.2.2.2.2 X N eT
  obtain ⟨cq, qa, qb⟩ := E.cell
  obtain ⟨v, _, ⟨T', L', k', n'⟩, -, X', ⟨Lc, hQ, l', y', z'⟩, st⟩ := X.privateBack C.1 (y := z) C.2.2.1 (mvT C.2.1 w1) (mvT C.2.1 w2) (mvT C.2.1 w3) (Cond.privateMethod_at (mvP C.2.1 w4 (args := #[]))) (mvT C.2.1 wc) hy (backOf (W := (rest.map fun v => v.category).sum) (Q := fun v h L => Q' v h ∧ Fr n0 L) (hK hold []) C.2.1 wc wi hfr hlo) (g := mkF m pc Ls (argsL.reverse ++ .ref a :: rest)) rfl (by rw [C.2.2.2.2.1]; exact hz) (Steps.refl _) (a := a) (by rw [eT]; exact qa) qb (argsL := argsL) (rest := rest) (lenOf hpd hlen) rfl (by simp) (hb C.2.2.2.1 hd) (fun _ _ => ⟨rfl, eT, hc, hs⟩)
  dsimp only [Pt.U, Pt.locs, Pt.cells, Pt.slots] at X' l' y' z' st hQ
  subst l' y' z'
  obtain ⟨s₂, o, h1, h2⟩ := k v _ hQ.1 p e s m args below meth c T' _ C X' (Fr.app N hQ.2) rfl
  exact ⟨s₂, o, st.trans h1, h2⟩
theorem Go.callSup {z : MethodName} {zc : ByteArray} {zm : Nat} {zr : Option FieldType} {rm : Room} {Q' : Option Value → Heap → Prop} {cells' slots' i : Nat} (argsL rest : List Value) {ps : List FieldType} {r : Option FieldType} {a : Addr} {K : String} (F : Ins Z h a K true) (w1 : (Jvm.Cond.methodLink y.cls i z).before a0 Z = true) (w2 : (Jvm.Cond.sameMethod z.cls z.cls z.name z.desc).before a0 Z = true) (w3 : (Jvm.Cond.instanceMethod z).before a0 Z = true) (w4 : (Jvm.Cond.superclass y.cls z.cls).before a0 Z = true) (wi : (Jvm.Cond.initialized z.cls).before a0 Z = true) (wc : (Jvm.Cond.code z zc zm zr).before a0 Z = true) (hni : z.name ≠ "<init>") (hK : Con l z zc zm zr rm Z n0 (.ref a :: argsL).toArray h Q') (hpd : parseMethodDescriptor z.desc = some ⟨ps, r⟩) (hd : decode code pc = .ok (.invokespecial i, 3)) (hp : pc + 3 = pc')
    (k : ∀ v h', Q' v h' → Go l R Z n0 y code ml ret Q cells' slots' h' pc' Ls (v.toList ++ rest)) (hlen : argsL.length = ps.length := by rfl) (hst : st = argsL.reverse ++ .ref a :: rest := by rfl) (hz : Ls.size = ml := by rfl) (hc' : cells + rm.cells = cells' := by rfl) (hs' : slots + rm.slots = slots' := by rfl) (hfr : rm.frames + 1 ≤ R.frames := by exact Nat.le_of_ble_eq_true rfl) (hlo : (rest.map fun v => v.category).sum + (zm + 11) + rm.locals ≤ R.locals := by exact Nat.le_of_ble_eq_true rfl) (hc : cells' ≤ R.cells := by exact Nat.le_of_ble_eq_true rfl) (hs : slots' ≤ R.slots := by exact Nat.le_of_ble_eq_true rfl) : Go l R Z n0 y code ml ret Q cells slots h pc Ls st := by
  intro p e s m args below meth c T locs C X N eT
  subst hc' hs' hp hst
  have hold : Old Z n0 h := own_old C.2.2.2.2.2.2.2.2 X N eT
  obtain ⟨v, _, ⟨T', L', k', n'⟩, -, X', ⟨Lc, hQ, l', y', z'⟩, st⟩ := superBack X C.1 C.2.1 C.2.2.1 w1 w2 w3 w4 hni (backOf (W := (rest.map fun v => v.category).sum) (Q := fun v h L => Q' v h ∧ Fr n0 L) (hK hold []) C.2.1 wc wi hfr hlo) eT F (g := mkF m pc Ls (argsL.reverse ++ .ref a :: rest)) rfl (by rw [C.2.2.2.2.1]; exact hz) wc (argsL := argsL) (rest := rest) (lenOf hpd hlen) rfl (by simp) (hb C.2.2.2.1 hd) (fun _ _ => ⟨rfl, eT, hc, hs⟩)
  dsimp only [Pt.U, Pt.locs, Pt.cells, Pt.slots] at X' l' y' z' st hQ
  subst l' y' z'
  obtain ⟨s₂, o, h1, h2⟩ := k v _ hQ.1 p e s m args below meth c T' _ C X' (Fr.app N hQ.2) rfl
  exact ⟨s₂, o, st.trans h1, h2⟩
end Rules
end Jvm.OwnGo
namespace Jvm.OwnGo
open Jvm Jvm.ClassFile Sem Op Lib Jvm.Free Jvm.Stand Jvm.LawKit Jvm.RoadKit
/-- the intern table: the start's, and pairs whose texts are among LL's, each found at LL's address -/
def IB3 (Z : State) (vm : Vm) (LL : List (String × Addr × String × Nat)) : Prop := ∃ more : Array (Array UInt16 × Addr), vm.interned = Z.vm.interned ++ more ∧ ∀ q ∈ more, ∃ x ∈ LL, utf16ToString? q.1 = some x.1 ∧ vm.interned.find? (fun p => p.1 == q.1) = some (q.1, x.2.1)
/-- .. and each of LL's entries is booked -/
def IB4 (Z : State) (vm : Vm) (LL : List (String × Addr × String × Nat)) : Prop := IB3 Z vm LL ∧ ∀ x ∈ LL, Lit (Z.setVm vm) x.2.2.1 x.2.2.2 x.2.1
theorem IB4.start {Z : State} : IB4 Z Z.vm [] := ⟨⟨#[], by simp, fun q hq => by simp at hq⟩, fun x hx => by simp at hx⟩
theorem IB3.eq {Z : State} {vm vm1 : Vm} {LL : List (String × Addr × String × Nat)} (I : IB3 Z vm LL) (h : vm1.interned = vm.interned) : IB3 Z vm1 LL := by
  obtain ⟨more, e, hm⟩ := I
  exact ⟨more, h.trans e, by rw [h]; exact hm⟩
theorem own_stays {Z s : State} {vm vm1 : Vm} {LL : List (String × Addr × String × Nat)} (I : ∀ x ∈ LL, Lit (Z.setVm vm) x.2.2.1 x.2.2.2 x.2.1) (hW : (s.setVm vm).Warmed39 vm1) : ∀ x ∈ LL, Lit (Z.setVm vm1) x.2.2.1 x.2.2.2 x.2.1 := fun x hx => Lit.stays (s := s) (I x hx) hW
theorem IB4.warm {Z s : State} {vm vm1 : Vm} {LL : List (String × Addr × String × Nat)} (I : IB4 Z vm LL) (hW : (s.setVm vm).WarmedH vm1) : IB4 Z vm1 LL := ⟨I.1.eq hW.interned_eq, own_stays I.2 hW.wide⟩
theorem IB3.more {Z : State} {vm : Vm} {LL : List (String × Addr × String × Nat)} {x : String × Addr × String × Nat} (I : IB3 Z vm LL) : IB3 Z vm (x :: LL) := by
  obtain ⟨more, e, hm⟩ := I
  refine ⟨more, e, fun q hq => ?_⟩
  obtain ⟨z, hz, h1, h2⟩ := hm q hq
  exact ⟨z, List.mem_cons_of_mem _ hz, h1, h2⟩
theorem IB3.step {Z : State} {vm0 vm1 : Vm} {LL : List (String × Addr × String × Nat)} {text : String} {us : Array UInt16} {a : Addr} {r : String × Nat} (I : IB3 Z vm0 LL) (hint : vm1.interned = vm0.interned ∨ ∃ (u : Array UInt16) (a' : Addr), utf16ToString? u = some text ∧ vm1.interned = vm0.interned.push (u, a'))
    (hf : vm1.interned.find? (fun p => p.1 == us) = some (us, a)) (hu : ∀ u : Array UInt16, utf16ToString? u = some text → u = us) : IB3 Z vm1 ((text, a, r) :: LL) := by
  rcases hint with q | ⟨u, a', hu', q⟩
  · exact (I.eq q).more
  · obtain ⟨more, e, hm⟩ := I
    refine ⟨more.push (u, a'), by rw [q, e, Array.append_push], fun x hx => ?_⟩
    rcases Array.mem_push.mp hx with hx | rfl
    · obtain ⟨z, hz, h1, h2⟩ := hm x hx
      refine ⟨z, List.mem_cons_of_mem _ hz, h1, ?_⟩
      rw [q, Array.find?_push, h2]; rfl
    · cases hu u hu'
      exact ⟨(text, a, r), List.mem_cons_self .., hu', hf⟩
theorem own_back {Z : State} {vm0 : Vm} {LL : List (String × Addr × String × Nat)} {text : String} {us : Array UInt16} {a : Addr} (I : IB3 Z vm0 LL) (ht : utf16ToString? us = some text) (hf : vm0.interned.find? (fun p => p.1 == us) = some (us, a)) :
    Z.vm.interned.find? (fun p => p.1 == us) = some (us, a) ∨ ∃ x ∈ LL, x.1 = text ∧ x.2.1 = a := by
  obtain ⟨more, e, hm⟩ := I
  have hf' := hf
  rw [e, Array.find?_append] at hf'
  cases hs : Z.vm.interned.find? (fun p => p.1 == us) with
  | some pr => left; rw [hs] at hf'; simpa using hf'
  | none =>
    right
    rw [hs, Option.none_or] at hf'
    obtain ⟨x, hx, h1, h2⟩ := hm _ (Array.mem_of_find?_eq_some hf')
    rw [hf] at h2
    exact ⟨x, hx, (Option.some.inj (ht.symm.trans h1)).symm, (Prod.mk.inj (Option.some.inj h2)).2.symm⟩
/-- the assumed word goes along: what this walk has loaded since is known -/
theorem own_held {Z s : State} {vm0 : Vm} {a0 : Array Value} {LL : List (String × Addr × String × Nat)} {own text : String} {index : Nat} (hW : Z.Warmed39 vm0) (w : (Cond.stringLink own index text).before a0 Z = true) (I : IB3 Z vm0 LL)
    (hL : ∀ x ∈ LL, x.1 = text → ∀ u : Array UInt16, utf16ToString? u = some text → SlOf (s.setVm vm0) x.2.1 u) (hkeep : ∀ (b : Addr) (cl : Cell), Z.heap[b]? = some cl → s.heap[b]? = some cl) (hH : ConstHeldL Z own index) : ConstHeldL (s.setVm vm0) own index := by
  intro c k' cf i us a hc' hk' hcf' hp hu hor
  have hc : Z.vm.findClass own = some c := by rw [← hW.alike.findClass]; exact hc'
  obtain ⟨k, cf0, i0, us0, hk, hcf, hp0, hu0, hnm, htext, -⟩ := Cond.stringLink_spec hc w
  obtain ⟨k2, hk2, hke, -, ee, -⟩ := hW.2.2.2 c k hk
  cases (show vm0.classes[c]? = some k' from hk').symm.trans hk2
  have hcfk : k'.cf = k.cf := by rw [hke]
  cases (hcfk ▸ hcf').symm.trans hcf
  cases hp.symm.trans hp0
  cases hu.symm.trans hu0
  have mv1 : SlOf Z a us → SlOf (s.setVm vm0) a us := fun q => q.moved (W := s.setVm vm0) hW.alike hkeep
  have byFind : k.resolved[index]? = some none → vm0.interned.find? (fun p => p.1 == us) = some (us, a) → SlOf (s.setVm vm0) a us := fun h0 hf => by
    rcases own_back I htext hf with q | ⟨x, hx, e1, e2⟩
    · exact mv1 (hH c k cf i us a hc hk hcf hp hu (Or.inr ⟨h0, q⟩))
    · rw [← e2]; exact hL x hx e1 us htext
  rcases ee index with e0 | ⟨hop, r, e1, hr | ⟨a3, t, si, us3, rfl, -, q3, q4, q5⟩⟩
  · rcases hor with h0 | ⟨h0, hf⟩
    · exact mv1 (hH c k cf i us a hc hk hcf hp hu (Or.inl (e0 ▸ h0)))
    · exact byFind (e0 ▸ h0) hf
  · exfalso
    cases r <;> simp [State.rightAt, hk, hcf, hnm] at hr
  · rw [hcf] at q3 q4
    obtain rfl : si = i := by simpa using q3.symm.trans hp
    obtain rfl : us3 = us := by simpa [ConstantPool.utf8?, hu] using q4.symm
    rcases hor with h0 | ⟨h0, -⟩
    · obtain rfl : a3 = a := by simpa using e1.symm.trans h0
      exact byFind hop q5
    · exact absurd (h0.symm.trans e1) (by simp)
/-- a String's facts, said as the library's bundle -/
theorem own_sl {Z : State} {h : Heap} {a b : Addr} {kb : ClassId} {z : Int32} {vs : List Value} {us : Array UInt16} {text : String} {a0 : Array Value} (x : Exa Z h a "java/lang/String") (fc : Fld Z h a "java/lang/String" "coder" "B" (.int 0)) (fv : Fld Z h a "java/lang/String" "value" "[B" (.ref b)) (v : Arv Z h b kb .byte z vs (.int 0)) (xb : Exa Z h b "[B")
    (wi : (Cond.instantiable "java/lang/String" 4).before a0 Z = true) (ht : (∀ c ∈ text.toList, c.toNat < 256) ∧ text.toList.map (fun c => Value.int (Jvm.Lit.byteI c.toNat.toUInt16)) = vs) (hl : z.toNatClampNeg = vs.length) (hu : utf16ToString? us = some text) : SlOf ({ Z with heap := h } : State) a us := by
  obtain ⟨cE, kE, x1, x2, x3, x4, x5⟩ := x
  obtain ⟨c1, cf1, kf1, i1, f1, g1, g2, g3, g4, g5, g6, g7⟩ := fc
  obtain ⟨c2, cf2, kf2, i2, f2, v1, v2, v3, v4, v5, v6, v7⟩ := fv
  cases x1.symm.trans g1
  cases x1.symm.trans v1
  obtain ⟨cb, ⟨b1, b2, b3⟩, b4, b5, b6, b7, b8⟩ := v
  obtain ⟨cb', kb', y1, y2, y3, y4, y5⟩ := xb
  cases b1.symm.trans y1
  obtain ⟨cI, kI, hfI, hkI, hkindI, -⟩ := Cond.instantiable_spec wi
  cases x2.symm.trans hfI
  cases x3.symm.trans hkI
  have eu : vs = us.toList.map fun u => Value.int (Jvm.Lit.byteI u) := by rw [← ht.2, Jvm.ClassFile.units_of_text hu ht.1, List.map_map]; rfl
  have hlat := Jvm.ClassFile.lat_of_text hu ht.1
  have hsz : cb.slots.size = us.size := by rw [b5, hl, eu]; simp
  have hslots : cb.slots = stringBytes us := by
    rw [SBG.stringBytes_lat hlat]
    apply Array.ext
    · rw [hsz, Array.size_map]
    · intro j h1 h2
      have hj : j < us.size := by omega
      have e := b7 j h1
      rw [Array.getElem?_eq_getElem h1] at e
      rw [Option.some.inj e, Array.getElem_map, eu]
      simp [byteValue, Jvm.Lit.byteI, hj]
  have hne : a ≠ b := fun q => by
    subst q
    cases x1.symm.trans b1
    obtain ⟨-, k, hk, cm, hkind⟩ := b2
    cases x3.symm.trans hk
    rw [hkindI] at hkind; cases hkind
  refine ⟨(a, _, f2, f1, b, cb, us.size), cE.cls, rfl, ⟨⟨x1, g4, g5, ⟨cf2, kf2, i2, v2, v6⟩, ⟨cf1, kf1, i1, g2, g6⟩, v3, g3, v7, g7, b1, b2, b3, hsz, ?_, hne, ?_⟩, x2, rfl⟩, ⟨kE, x3, hkindI, x5 hkindI⟩, y2, hslots⟩
  · have := z.toInt_lt
    have e1 := hsz.symm.trans b5
    have e2 : z.toNatClampNeg = z.toInt.toNat := rfl
    show us.size < 2147483648
    omega
  · intro j hj
    rw [SBG.getD_of (b7 j hj)]
    exact b8 j hj
def GoS (l : Launch) (R : Room) (Z : State) (n0 : Nat) (y : MethodName) (code : ByteArray) (ml : Nat) (ret : Option FieldType) (Q : Option Value → Heap → List (String × Addr × String × Nat) → Prop) (h0 : Heap) (LL : List (String × Addr × String × Nat)) (cells slots : Nat) (h : Heap) (pc : Nat) (Ls : Array Slot) (st : List Value) : Prop :=
  ∀ (p : Program) (e : Env) (s : State) (vm0 : Vm) (k0 : Nat) (m : MethodId) (args : Array Value) (below : List Frame) (meth : Method) (c : Code) (T : State) (locs : List Loc),
    Cx p l e R (s.setVm vm0) m meth c Z n0 y code ml ret → s.heap = h0 → Stand p l e R (s.setVm vm0) m args below meth c T locs cells slots → s.Since vm0 k0 → k0 ≤ h.size → Fr n0 locs → T.heap = h → IB4 Z vm0 LL →
    ∃ s₂ o, Steps p.tables e below (T.setTop (mkF m pc Ls st)) s₂ ∧ s₂.status = .running ∧ Ended s₂ below o ∧ ∃ v L LL', o = .returned v ∧ (Q v s₂.heap LL' ∧ IB4 Z s₂.vm LL' ∧ Fr n0 L) ∧ ReturnedEndW s o s₂ L R.cells R.slots
def ConS (l : Launch) (y : MethodName) (code : ByteArray) (ml : Nat) (ret : Option FieldType) (R : Room) (Z : State) (n0 : Nat) (as : Array Value) (h : Heap) (LL : List (String × Addr × String × Nat)) (Q : Option Value → Heap → List (String × Addr × String × Nat) → Prop) : Prop :=
  Old Z n0 h → ∀ ws, MetFree l y (head1 (Jvm.Cond.code y code ml ret :: ws) R) (fun a U => a = as ∧ Z.Warmed39 U.vm ∧ U.heap = h ∧ IB4 Z U.vm LL) (fun _ _ _ _ _ => True)
    (fun _ U o U' => ∃ v L LL', o = .returned v ∧ (Q v U'.heap LL' ∧ IB4 Z U'.vm LL' ∧ Fr n0 L) ∧ ReturnedEndW U o U' L R.cells R.slots)
section RulesS
variable {l : Launch} {R : Room} {Z : State} {n0 : Nat} {y : MethodName} {code : ByteArray} {ml : Nat} {ret : Option FieldType} {Q : Option Value → Heap → List (String × Addr × String × Nat) → Prop} {h0 : Heap} {LL : List (String × Addr × String × Nat)} {cells slots : Nat} {h : Heap} {pc pc' : Nat} {Ls Ls' : Array Slot} {st st' rest : List Value} {a0 : Array Value}
theorem Cx.re {p : Program} {e : Env} {s : State} {vm0 vm1 : Vm} {m : MethodId} {meth : Method} {c : Code} (C : Cx p l e R (s.setVm vm0) m meth c Z n0 y code ml ret) (hW : (s.setVm vm0).Warmed39 vm1) : Cx p l e R (s.setVm vm1) m meth c Z n0 y code ml ret :=
  ⟨C.1, State.Warmed39.trans (t := s.setVm vm0) C.2.1 hW, by show vm1.findClass y.cls = _; rw [hW.alike.findClass]; exact C.2.2.1, C.2.2.2⟩
theorem ConS.of_go {as : Array Value} (hp : plainFor y = true) (k : GoS l R Z n0 y code ml ret Q h LL 0 0 h 0 Ls []) (he : ∀ m, entryFrame m as ml = mkF m 0 Ls [] := by intro m; first | (simp [entryFrame, mkF, argsToLocals, Value.category]; done) | rfl) : ConS l y code ml ret R Z n0 as h LL Q := by
  intro hn ws
  refine MetFree.of_bodySF hp hisR ?_
  intro p e s m args below meth c s₁ Bd hml0 hP hK
  obtain ⟨rfl, hZ, hh, hI⟩ := hP
  have e0 : s₁.heap = h := by rw [← hh, Bd.state]; rfl
  have X0 : Stand p l e R s m args below meth c s₁ [] 0 0 := Stand.of_body Bd
  obtain ⟨s₂, o, h1, h2, h3, h4⟩ := k p e s s.vm h.size m args below meth c s₁ [] ⟨Bd.exec, hZ, findClass_of_methodNamed Bd.named, Bd.bytes, hml0, Bd.returns, Bd.notSynchronized, (name_of_methodNamed Bd.named Bd.method).1, by show Old Z n0 s.heap; rw [hh]; exact hn⟩ hh X0 ((State.WarmedH.refl s).since _) (Nat.le_refl _) (Fr.nil n0) e0 hI
  exact ⟨s₂, o, castTop (he m) h1, h2, h3, h4⟩
theorem Con.cold {Q' : Option Value → Heap → Prop} {as : Array Value} (k : Con l y code ml ret R Z n0 as h Q') : ConS l y code ml ret R Z n0 as h LL (fun v h' LL' => Q' v h' ∧ LL' = LL) := by
  intro hn ws
  refine (k hn ws).mono (fun _ _ q => ⟨q.1, q.2.1, q.2.2.1⟩) (fun _ _ _ _ _ q => q) ?_
  rintro a U o U' hP ⟨v, L, e, ⟨q, N⟩, r⟩
  exact ⟨v, L, LL, e, ⟨⟨q, rfl⟩, hP.2.2.2.warm (s := U) r.2.1, N⟩, ReturnedEndW.of_narrow r.1 r.2.1 r.2.2⟩
theorem ConS.mono {as : Array Value} {Q' : Option Value → Heap → List (String × Addr × String × Nat) → Prop} (k : ConS l y code ml ret R Z n0 as h LL Q) (hq : ∀ v h' L', Q v h' L' → Q' v h' L') : ConS l y code ml ret R Z n0 as h LL Q' := by
  intro hn ws
  refine (k hn ws).mono (fun _ _ q => q) (fun _ _ _ _ _ q => q) ?_
  rintro a U o U' hP ⟨v, L, L2, e, ⟨q, N⟩, r⟩
  exact ⟨v, L, L2, e, ⟨hq _ _ _ q, N⟩, r⟩
theorem GoS.old (k : Old Z n0 h → GoS l R Z n0 y code ml ret Q h0 LL cells slots h pc Ls st) : GoS l R Z n0 y code ml ret Q h0 LL cells slots h pc Ls st := by
  intro p e s vm0 k0 m args below meth c T locs C e0 X hS hk N eT I
  exact k (own_old (s := s.setVm vm0) C.2.2.2.2.2.2.2.2 X N eT) p e s vm0 k0 m args below meth c T locs C e0 X hS hk N eT I
theorem GoS.step (hst : ∀ {p : Program} {e : Env} {s : State} {m : MethodId} {args : Array Value} {below : List Frame} {meth : Method} {c : Code} {T : State} {locs : List Loc} {target : State},
      Cx p l e R s m meth c Z n0 y code ml ret → Stand p l e R s m args below meth c T locs cells slots → T.heap = h → Steps p.tables e below (T.setTop (mkF m pc' Ls' st')) target → Steps p.tables e below (T.setTop (mkF m pc Ls st)) target)
    (k : GoS l R Z n0 y code ml ret Q h0 LL cells slots h pc' Ls' st') : GoS l R Z n0 y code ml ret Q h0 LL cells slots h pc Ls st := by
  intro p e s vm0 k0 m args below meth c T locs C e0 X hS hk N eT I
  obtain ⟨s₂, o, h1, h2⟩ := k p e s vm0 k0 m args below meth c T locs C e0 X hS hk N eT I
  exact ⟨s₂, o, hst C X eT h1, h2⟩
theorem GoS.law {cells' slots' : Nat} {P : Heap → Prop} (hst : ∀ {p : Program} {e : Env} {s : State} {m : MethodId} {args : Array Value} {below : List Frame} {meth : Method} {c : Code} {T : State} {locs : List Loc},
      Cx p l e R s m meth c Z n0 y code ml ret → Stand p l e R s m args below meth c T locs cells slots → Fr n0 locs → T.heap = h → n0 ≤ h.size →
      ∃ T' locs' h', Stand p l e R s m args below meth c T' locs' cells' slots' ∧ Fr n0 locs' ∧ T'.heap = h' ∧ P h' ∧ ∀ target, Steps p.tables e below (T'.setTop (mkF m pc' Ls' st')) target → Steps p.tables e below (T.setTop (mkF m pc Ls st)) target)
    (k : ∀ h', P h' → GoS l R Z n0 y code ml ret Q h0 LL cells' slots' h' pc' Ls' st') (hgr : ∀ h', P h' → h.size ≤ h'.size) : GoS l R Z n0 y code ml ret Q h0 LL cells slots h pc Ls st := by
  intro p e s vm0 k0 m args below meth c T locs C e0 X hS hk N eT I
  have hold : Old Z n0 h := own_old (s := s.setVm vm0) C.2.2.2.2.2.2.2.2 X N eT
  obtain ⟨T', locs', h', X', N', e', hP, st⟩ := hst C X N eT (hold.1 ▸ hold.2.1)
  obtain ⟨s₂, o, h1, h2⟩ := k h' hP p e s vm0 k0 m args below meth c T' locs' C e0 X' hS (Nat.le_trans hk (hgr h' hP)) N' e' I
  exact ⟨s₂, o, st _ h1, h2⟩
theorem own_backS {p : Program} {e : Env} {below : List Frame} {s : State} {args : Array Value} {rm : Room} {len W : Nat} {as' : Array Value}
    (hM : ∀ ws, MetFree l y (head1 (Cond.code y code ml ret :: ws) rm) (fun a U => a = as' ∧ Z.Warmed39 U.vm ∧ U.heap = h ∧ IB4 Z U.vm LL) (fun _ _ _ _ _ => True) (fun _ U o U' => ∃ v L LL', o = .returned v ∧ (Q v U'.heap LL' ∧ IB4 Z U'.vm LL' ∧ Fr n0 L) ∧ ReturnedEndW U o U' L rm.cells rm.slots))
    (hZ : Z.Warmed39 s.vm) (wc : (Cond.code y code ml ret).before a0 Z = true) (wz : (Cond.initialized y.cls).before a0 Z = true) (hf : rm.frames + 1 ≤ R.frames) (hl : W + (ml + 11) + rm.locals ≤ R.locals) :
    BackS l R p e below s args y len W (fun A a => a = as' ∧ A.U.heap = h ∧ IB4 Z A.U.vm LL ∧ A.cells + rm.cells ≤ R.cells ∧ A.slots + rm.slots ≤ R.slots)
      (fun A _ v B => ∃ L LL', Q v B.U.heap LL' ∧ IB4 Z B.U.vm LL' ∧ Fr n0 L ∧ B.locs = A.locs ++ L ∧ B.cells = A.cells + rm.cells ∧ B.slots = A.slots + rm.slots) :=
  BackS.of_freeW (bytes := code) (maxL := ml) (ret := ret) (E := fun _ _ o t L k n => k = rm.cells ∧ n = rm.slots ∧ ∃ v LL', o = .returned v ∧ Q v t.heap LL' ∧ IB4 Z t.vm LL' ∧ Fr n0 L) (hM []) hf hl
    (fun m meth c A a Y hp => have hU : Z.Warmed39 A.U.vm := wtrans hZ Y.warmed
      ⟨by show (Cond.and _ .tt).before a A.U = true; rw [Cond.before_and, mv hU wc]; rfl, mv hU wc, mv hU wz, hp.2.2.2.1, hp.2.2.2.2⟩)
    (fun m meth c A a g mk Y hp => ⟨hp.1, wtrans hZ Y.warmed, hp.2.1, hp.2.2.1⟩) (fun _ _ _ _ _ _ _ _ _ => trivial)
    (fun _ _ _ _ ⟨v, L, LL', h1, h2, h3⟩ => ⟨L, _, _, h3, rfl, rfl, v, LL', h1, h2⟩)
    (fun m meth c A a g mk v t L k n Y hp _ _ ⟨e1, e2, v', LL', e3, e4, e5, e6⟩ => by cases e3; subst e1 e2; exact ⟨L, LL', e4, e5, e6, rfl, rfl, rfl⟩)
theorem GoS.ldcS {i n cells' slots' : Nat} {text : String} {vs : List Value} {z : Int32} (w : (Jvm.Cond.stringLink y.cls i text).before a0 Z = true) (wS : ∀ a ∈ Bundle.stringAtoms, a.before a0 Z = true) (hh : Jvm.Lit.constHeld Z y.cls i) (hcw : Jvm.Lit.compactW.before a0 Z = true)
    (K0 : Keep h0 h []) (hL : ∀ x ∈ LL, x.1 = text → ∀ u : Array UInt16, utf16ToString? u = some text → SlOf ({ Z with heap := h0 } : State) x.2.1 u) (ht : (∀ c ∈ text.toList, c.toNat < 256) ∧ text.toList.map (fun c => Value.int (Jvm.Lit.byteI c.toNat.toUInt16)) = vs) (hz : ¬ z < 0) (hl : z.toNatClampNeg = vs.length)
    (hd : decode code pc = .ok (.ldc i, 2)) (hn : 4 * text.toList.length ≤ n) (hbig : n ≤ 536870912) (hc' : cells + 2 = cells') (hs' : slots + (n + 4) = slots') (hc : cells' ≤ R.cells) (hs : slots' ≤ R.slots) (hp : pc + 2 = pc')
    (k : ∀ (h' : Heap) (a b : Addr) (kb : ClassId), Ext h h' → Exa Z h' a "java/lang/String" → Fld Z h' a "java/lang/String" "coder" "B" (.int 0) → Fld Z h' a "java/lang/String" "value" "[B" (.ref b) → Arv Z h' b kb .byte z vs (.int 0) → Exa Z h' b "[B" → ((a < h0.size ∧ b < h0.size) ∨ (h.size ≤ a ∧ h.size ≤ b)) →
      GoS l R Z n0 y code ml ret Q h0 ((text, a, y.cls, i) :: LL) cells' slots' h' pc' Ls (.ref a :: st)) : GoS l R Z n0 y code ml ret Q h0 LL cells slots h pc Ls st := by
  intro p e s vm0 k0 m args below meth c T locs C e0 X hS hk N eT I
  subst hc' hs' hp e0 eT
  have hold : ∀ (b : Addr) (cl : Cell), (s.setVm vm0).heap[b]? = some cl → T.heap[b]? = some cl := fun b cl q => K0.2.1 b cl q (by simp)
  have hOld : Old Z n0 s.heap := C.2.2.2.2.2.2.2.2
  have wi : (Cond.instantiable "java/lang/String" 4).before a0 Z = true := wS _ (by simp [Bundle.stringAtoms, Bundle.sN])
  have wa : (Cond.arrayClass .byte).before a0 Z = true := wS _ (by simp [Bundle.stringAtoms])
  have hH : ConstHeldL (s.setVm vm0) y.cls i := own_held C.2.1 w I.1 (fun x hx q u hu => (hL x hx q u hu).moved (W := s.setVm vm0) C.2.1.alike (fun _ _ z => z)) hOld.2.2 (heldStart hh w ht.1 hcw wa wi)
  have hown : vm0.findClass y.cls = some m.cls := C.2.2.1
  have hcZ : Z.vm.findClass y.cls = some m.cls := by rw [← C.2.1.alike.findClass]; exact hown
  obtain ⟨k1, cf, si, us, hk1, hcf, hcp, hu, hnm, hdec, hres⟩ := Cond.stringLink_spec (s := s.setVm vm0) (args := a0) hown (mvS (s := s.setVm vm0) C.2.1 w)
  have hus : ∀ u : Array UInt16, utf16ToString? u = some text → u = us := fun u q => Array.ext' ((Jvm.ClassFile.units_of_text q ht.1).trans (Jvm.ClassFile.units_of_text hdec ht.1).symm)
  have fin : ∀ (a : Addr) (T' : State), Stand p l e R (s.setVm T'.vm) m args below meth c T' locs (cells + 2) (slots + (n + 4)) → (s.setVm vm0).Since T'.vm T'.heap.size → Ext T.heap T'.heap → SlIn s.heap.size T.heap.size T' a us → IB4 Z T'.vm ((text, a, y.cls, i) :: LL) →
      (∀ target, Steps p.tables e below (T'.setTop (mkF m (pc + 2) Ls (.ref a :: st))) target → Steps p.tables e below (T.setTop (mkF m pc Ls st)) target) →
      ∃ s₂ o, Steps p.tables e below (T.setTop (mkF m pc Ls st)) s₂ ∧ s₂.status = .running ∧ Ended s₂ below o ∧ ∃ v L LL', o = .returned v ∧ (Q v s₂.heap LL' ∧ IB4 Z s₂.vm LL' ∧ Fr n0 L) ∧ ReturnedEndW s o s₂ L R.cells R.slots := by
    intro a T' X' hS' E hin I' stp
    have C' := C.re hS'.1
    have hal : Z.vm.Alike T'.vm := C'.2.1.alike
    have hlat := Jvm.ClassFile.lat_of_text hdec ht.1
    obtain ⟨q, cS, hqa, ⟨⟨s1, s2, s3, ⟨cv, kv, iv, s4, s4'⟩, ⟨cc, kc, ic, s5, s5'⟩, s6, s7, s8, s9, s10, s11, s12, s13, s14, s15, s16⟩, hfS, hcS⟩, ⟨kS, k1, k2, k3⟩, hB, hbyt, hplace⟩ := hin
    subst hqa
    obtain ⟨kv', z4⟩ := ff_back hal s4
    obtain ⟨kc', z5⟩ := ff_back hal s5
    have hfZ : Z.vm.findClass "java/lang/String" = some q.sC.cls := by rw [← hal.findClass, hcS]; exact hfS
    obtain ⟨kz, hkz, -⟩ := Vm.findClass_spec hfZ
    obtain ⟨kz', hkz', ekz⟩ := hal.2.2 _ _ hkz
    have ekS : kz' = kS := Option.some.inj (hkz'.symm.trans (hcS ▸ k1))
    have hBZ : Z.vm.findClass "[B" = some q.SA.cls := by rw [← hal.findClass]; exact hB
    obtain ⟨kb, hkb, -⟩ := Vm.findClass_spec hBZ
    obtain ⟨kb', hkb', ekb⟩ := hal.2.2 _ _ hkb
    obtain ⟨hst, k9, hk9, comp, hkind9⟩ := s11
    have ek9 : k9 = kb' := Option.some.inj (hk9.symm.trans hkb')
    have hkindZ := hkind9
    rw [ek9, ekb] at hkindZ
    have eu : vs = us.toList.map fun u => Value.int (Jvm.Lit.byteI u) := by rw [← ht.2, Jvm.ClassFile.units_of_text hdec ht.1, List.map_map]; rfl
    have hsl : q.SA.slots = us.map fun u => Value.int (Jvm.Lit.byteI u) := by rw [hbyt, SBG.stringBytes_lat hlat]; rfl
    have hsz : q.SA.slots.size = us.size := by rw [hsl, Array.size_map]
    have H : Has q.SA vs (.int 0) := fun j hj => by
      have hj' : j < us.size := by omega
      rw [hsl, eu]; simp [hj']
    have F1 : Exa Z T'.heap q.sa "java/lang/String" := ⟨q.sC, kz, s1, hfZ, hkz, s3, fun ho => by rw [k3, ← ekS, ekz]⟩
    have F2 : Fld Z T'.heap q.sa "java/lang/String" "coder" "B" (.int 0) := ⟨q.sC, cc, kc', ic, q.fSC, s1, z5, s7, s2, s3, by rw [← hal.assignable]; exact s5', s9⟩
    have F3 : Fld Z T'.heap q.sa "java/lang/String" "value" "[B" (.ref q.sd) := ⟨q.sC, cv, kv', iv, q.fSV, s1, z4, s6, s2, s3, by rw [← hal.assignable]; exact s4', s8⟩
    have F4 : Arv Z T'.heap q.sd q.SA.cls .byte z vs (.int 0) := ⟨q.SA, ⟨s10, ⟨hst, kb, hkb, comp, hkindZ⟩, s12⟩, rfl, by rw [hsz, hl, eu]; simp, hz, H, fun j hj => by
      have e1 := s16 j hj
      rw [SBG.getD_of (H j hj)] at e1
      exact e1⟩
    have F5 : Exa Z T'.heap q.sd "[B" := ⟨q.SA, kb, s10, hBZ, hkb, by cases hv : q.SA.vm <;> first | rfl | (exact absurd hv (hst _)), fun ho => by rw [hkindZ] at ho; cases ho⟩
    obtain ⟨s₂, o, h1, h2⟩ := k T'.heap q.sa q.sd q.SA.cls E F1 F2 F3 F4 F5 hplace p e s T'.vm T'.heap.size m args below meth c T' locs C' rfl X' (hS.trans hS' (Nat.le_trans hk E.1)) (Nat.le_refl _) N rfl I'
    exact ⟨s₂, o, stp _ h1, h2⟩
  rcases hres with hopen | ⟨a, hlit⟩
  · obtain ⟨a, T', X', hS', ⟨kk, hkk, hrr⟩, hb, -, hint, ⟨us', htext, hin⟩, stp⟩ := X.ldcColdF hold C.1 (own := y.cls) (text := text) (index := i) hown (mvS (s := s.setVm vm0) C.2.1 w) (fun d hd => by
      have q := wS d hd
      simp only [Bundle.stringAtoms, List.mem_cons, List.not_mem_nil, or_false] at hd
      rcases hd with rfl | rfl | rfl | rfl | rfl | rfl | rfl
      · exact mv (s := s.setVm vm0) C.2.1 q
      · exact mv (s := s.setVm vm0) C.2.1 q
      · exact mvA (s := s.setVm vm0) C.2.1 q
      · exact mv (s := s.setVm vm0) C.2.1 q
      · exact mv (s := s.setVm vm0) C.2.1 q
      · exact mv (s := s.setVm vm0) C.2.1 q
      · exact mv (s := s.setVm vm0) C.2.1 q) hH (fun u q => Jvm.ClassFile.lat_of_text q ht.1) (g := mkF m pc Ls st) rfl (hb C.2.2.2.1 hd) hn hbig hc hs
    cases hus us' htext
    have hTi : T.vm.interned = vm0.interned := X.warmed.interned_eq
    have hfind : T'.vm.interned.find? (fun p => p.1 == us) = some (us, a) := by
      obtain ⟨k2, hk2, -, -, ee, -⟩ := hS'.1.2.2.2 m.cls k1 hk1
      cases hk2.symm.trans hkk
      rcases ee i with e0 | ⟨-, r, e1, hr | ⟨a3, t, si3, us3, rfl, -, q3, q4, q5⟩⟩
      · rw [hrr, hopen] at e0; cases e0
      · exfalso
        have hk9 : vm0.classes[m.cls]? = some k1 := hk1
        cases r <;> simp [State.rightAt, hk9, hcf, hnm] at hr
      · rw [hcf] at q3 q4
        obtain rfl : si3 = si := by simpa using q3.symm.trans hcp
        obtain rfl : us3 = us := by simpa [ConstantPool.utf8?, hu] using q4.symm
        obtain rfl : a3 = a := by simpa using e1.symm.trans hrr
        exact q5
    exact fin a T' X' hS' (ext_of hb) hin ⟨I.1.step (by rw [← hTi]; exact hint) hfind hus, fun x hx => by
      rcases List.mem_cons.mp hx with rfl | hx
      · have hf : T'.vm.findClass y.cls = some m.cls := by rw [hS'.1.alike.findClass]; exact hown
        simp [Lit, State.resolvedAt?, hf, hkk, hrr]
      · exact own_stays I.2 hS'.1 x hx⟩ stp
  · have hsl := hH m.cls k1 cf si us a hown hk1 hcf hcp hu (Or.inl hlit)
    have L : Lit (s.setVm vm0) y.cls i a := by
      have hk9 : vm0.classes[m.cls]? = some k1 := hk1
      simp [Lit, State.resolvedAt?, hown, hk9, hlit]
    refine fin a T ((X.mono (Nat.le_add_right _ _) (Nat.le_add_right _ _)).retabled X.warmed.wide) (X.warmed.since _) ⟨Nat.le_refl _, fun _ _ z => z⟩ (hsl.movedIn T.heap.size X.warmed.alike hold) ⟨(I.1.eq X.warmed.interned_eq).more, fun x hx => by
      rcases List.mem_cons.mp hx with rfl | hx
      · exact Lit.stays (s := s) L X.warmed.wide
      · exact own_stays I.2 X.warmed.wide x hx⟩ (fun target q => ?_)
    exact ldcAgain X C.1 C.2.1 hown w L (g := mkF m pc Ls st) rfl (hb C.2.2.2.1 hd) target q
theorem GoS.ldcAgain {i : Nat} {text : String} {a : Addr} (w : (Jvm.Cond.stringLink y.cls i text).before a0 Z = true) (hx : (text, a, y.cls, i) ∈ LL) (hd : decode code pc = .ok (.ldc i, 2)) (hp : pc + 2 = pc') (k : GoS l R Z n0 y code ml ret Q h0 LL cells slots h pc' Ls (.ref a :: st)) : GoS l R Z n0 y code ml ret Q h0 LL cells slots h pc Ls st := by
  intro p e s vm0 k0 m args below meth c T locs C e0 X hS hk N eT I
  subst hp
  obtain ⟨s₂, o, h1, h2⟩ := k p e s vm0 k0 m args below meth c T locs C e0 X hS hk N eT I
  exact ⟨s₂, o, ldcAgain X C.1 C.2.1 C.2.2.1 w (I.2 _ hx) (g := mkF m pc Ls st) rfl (hb C.2.2.2.1 hd) _ h1, h2⟩
theorem GoS.more {cells' slots' : Nat} (k : GoS l R Z n0 y code ml ret Q h0 LL cells' slots' h pc Ls st) (hc : cells ≤ cells') (hs : slots ≤ slots') : GoS l R Z n0 y code ml ret Q h0 LL cells slots h pc Ls st := by
  intro p e s vm0 k0 m args below meth c T locs C e0 X hS hk N eT I
  exact k p e s vm0 k0 m args below meth c T locs C e0 (X.more hc hs) hS hk N eT I
theorem GoS.mono {Q' : Option Value → Heap → List (String × Addr × String × Nat) → Prop} (k : GoS l R Z n0 y code ml ret Q' h0 LL cells slots h pc Ls st) (hq : ∀ v h' L', Q' v h' L' → Q v h' L') : GoS l R Z n0 y code ml ret Q h0 LL cells slots h pc Ls st := by
  intro p e s vm0 k0 m args below meth c T locs C e0 X hS hk N eT I
  obtain ⟨s₂, o, h1, h2, h3, v, L, L2, h4, ⟨h5, h6⟩, h7⟩ := k p e s vm0 k0 m args below meth c T locs C e0 X hS hk N eT I
  exact ⟨s₂, o, h1, h2, h3, v, L, L2, h4, ⟨hq _ _ _ h5, h6⟩, h7⟩
/-- a String constant that this walk has loaded, and what she says -/
def Hel (Z : State) (h : Heap) (a b : Addr) (text : String) : Prop := ∃ (kb : ClassId) (z : Int32) (vs : List Value), Exa Z h a "java/lang/String" ∧ Fld Z h a "java/lang/String" "coder" "B" (.int 0) ∧ Fld Z h a "java/lang/String" "value" "[B" (.ref b) ∧ Arv Z h b kb .byte z vs (.int 0) ∧ Exa Z h b "[B" ∧ ((∀ c ∈ text.toList, c.toNat < 256) ∧ text.toList.map (fun c => Value.int (Jvm.Lit.byteI c.toNat.toUInt16)) = vs) ∧ z.toNatClampNeg = vs.length
theorem Hel.ext {a b : Addr} {text : String} {h' : Heap} (F : Hel Z h a b text) (E : Ext h h') : Hel Z h' a b text := by
  obtain ⟨kb, z, vs, x, c, v, r, y, q⟩ := F
  exact ⟨kb, z, vs, x.ext E, c.ext E, v.ext E, r.ext E, y.ext E, q⟩
theorem Hel.keep {a b : Addr} {text : String} {h' : Heap} {ws : List Addr} (F : Hel Z h a b text) (K : Keep h h' ws) (na : a ∉ ws) (nb : b ∉ ws) : Hel Z h' a b text := by
  obtain ⟨kb, z, vs, x, c, v, r, y, q⟩ := F
  exact ⟨kb, z, vs, x.keep K, c.keep K na, v.keep K na, r.keep K nb, y.keep K, q⟩
theorem Hel.other {a b x' : Addr} {text : String} {h' : Heap} {sl : Nat} {u : Value} (F : Hel Z h a b text) (W : Wr h h' x' sl u) (na : a ≠ x') (nb : b ≠ x') : Hel Z h' a b text := by
  obtain ⟨kb, z, vs, x, c, v, r, y, q⟩ := F
  exact ⟨kb, z, vs, x.wr W, c.other W (Or.inl na), v.other W (Or.inl na), r.other W nb, y.wr W, q⟩
theorem Hel.lt0 {a b : Addr} {text : String} (F : Hel Z h a b text) : a < h.size := by obtain ⟨kb, z, vs, x, -⟩ := F; exact x.lt
theorem Hel.lt1 {a b : Addr} {text : String} (F : Hel Z h a b text) : b < h.size := by obtain ⟨kb, z, vs, -, -, -, r, -⟩ := F; exact r.lt
abbrev HL (Z : State) (h0 : Heap) (text : String) (LL : List (String × Addr × String × Nat)) : Prop := ∀ x ∈ LL, x.1 = text → ∀ u : Array UInt16, utf16ToString? u = some text → SlOf ({ Z with heap := h0 } : State) x.2.1 u
theorem HL.nil {text : String} : HL Z h0 text [] := fun x hx => by simp at hx
theorem HL.no {text t : String} {r : Addr × String × Nat} (ne : t ≠ text) (H : HL Z h0 text LL) : HL Z h0 text ((t, r) :: LL) := fun x hx e => by
  rcases List.mem_cons.mp hx with rfl | hx
  · exact absurd e ne
  · exact H x hx e
theorem HL.yes {text t : String} {a b : Addr} {r : String × Nat} (wi : (Cond.instantiable "java/lang/String" 4).before a0 Z = true) (F : Hel Z h0 a b t) (H : HL Z h0 text LL) : HL Z h0 text ((t, a, r) :: LL) := fun x hx e u hu => by
  rcases List.mem_cons.mp hx with rfl | hx
  · obtain ⟨kb, z, vs, x, c, v, r, y, q1, q2⟩ := F
    exact own_sl x c v r y wi q1 q2 (by rw [show t = text from e]; exact hu)
  · exact H x hx e u hu
theorem GoS.iloadN {k : Fin 4} {v : Int32} (hd : decode code pc = .ok (.iload_n k, 1)) (hl : Ls[k.val]? = some (.val (.int v))) (hp : pc + 1 = pc') (k : GoS l R Z n0 y code ml ret Q h0 LL cells slots h pc' Ls (.int v :: st)) : GoS l R Z n0 y code ml ret Q h0 LL cells slots h pc Ls st := GoS.step (fun C X _ q => by subst hp; exact XS.iloadN X.here C.1 rfl (hb C.2.2.2.1 hd) hl q) k
theorem GoS.iload {k : Nat} {v : Int32} (hd : decode code pc = .ok (.iload k, 2)) (hl : Ls[k]? = some (.val (.int v))) (hp : pc + 2 = pc') (k : GoS l R Z n0 y code ml ret Q h0 LL cells slots h pc' Ls (.int v :: st)) : GoS l R Z n0 y code ml ret Q h0 LL cells slots h pc Ls st := GoS.step (fun C X _ q => by subst hp; exact XS.iload X.here C.1 rfl (hb C.2.2.2.1 hd) hl q) k
theorem GoS.aloadN {k : Fin 4} {v : Value} (hd : decode code pc = .ok (.aload_n k, 1)) (hl : Ls[k.val]? = some (.val v)) (hv : v.isRef = true) (hp : pc + 1 = pc') (k : GoS l R Z n0 y code ml ret Q h0 LL cells slots h pc' Ls (v :: st)) : GoS l R Z n0 y code ml ret Q h0 LL cells slots h pc Ls st := GoS.step (fun C X _ q => by subst hp; exact XS.aloadN X.here C.1 rfl (hb C.2.2.2.1 hd) hl hv q) k
theorem GoS.aload {k : Nat} {v : Value} (hd : decode code pc = .ok (.aload k, 2)) (hl : Ls[k]? = some (.val v)) (hv : v.isRef = true) (hp : pc + 2 = pc') (k : GoS l R Z n0 y code ml ret Q h0 LL cells slots h pc' Ls (v :: st)) : GoS l R Z n0 y code ml ret Q h0 LL cells slots h pc Ls st := GoS.step (fun C X _ q => by subst hp; exact XS.aload X.here C.1 rfl (hb C.2.2.2.1 hd) hl hv q) k
theorem GoS.istoreN {k : Fin 4} {v : Int32} (hd : decode code pc = .ok (.istore_n k, 1)) (hl : storeLocals Ls k.val (.int v) = some Ls') (hp : pc + 1 = pc') (k : GoS l R Z n0 y code ml ret Q h0 LL cells slots h pc' Ls' st) : GoS l R Z n0 y code ml ret Q h0 LL cells slots h pc Ls (.int v :: st) := GoS.step (fun C X _ q => by subst hp; exact XS.istoreN X.here C.1 rfl (hb C.2.2.2.1 hd) rfl hl q) k
theorem GoS.istore {k : Nat} {v : Int32} (hd : decode code pc = .ok (.istore k, 2)) (hl : storeLocals Ls k (.int v) = some Ls') (hp : pc + 2 = pc') (k : GoS l R Z n0 y code ml ret Q h0 LL cells slots h pc' Ls' st) : GoS l R Z n0 y code ml ret Q h0 LL cells slots h pc Ls (.int v :: st) := GoS.step (fun C X _ q => by subst hp; exact XS.istore X.here C.1 rfl (hb C.2.2.2.1 hd) rfl hl q) k
theorem GoS.astoreN {k : Fin 4} {v : Value} (hd : decode code pc = .ok (.astore_n k, 1)) (hv : v.isRef = true) (hl : storeLocals Ls k.val v = some Ls') (hp : pc + 1 = pc') (k : GoS l R Z n0 y code ml ret Q h0 LL cells slots h pc' Ls' st) : GoS l R Z n0 y code ml ret Q h0 LL cells slots h pc Ls (v :: st) := GoS.step (fun C X _ q => by subst hp; exact XS.astoreN X.here C.1 rfl (hb C.2.2.2.1 hd) rfl hv hl q) k
theorem GoS.astore {k : Nat} {v : Value} (hd : decode code pc = .ok (.astore k, 2)) (hv : v.isRef = true) (hl : storeLocals Ls k v = some Ls') (hp : pc + 2 = pc') (k : GoS l R Z n0 y code ml ret Q h0 LL cells slots h pc' Ls' st) : GoS l R Z n0 y code ml ret Q h0 LL cells slots h pc Ls (v :: st) := GoS.step (fun C X _ q => by subst hp; exact XS.astore X.here C.1 rfl (hb C.2.2.2.1 hd) rfl hv hl q) k
theorem GoS.iconst {i : Int} {v : Int32} (hd : decode code pc = .ok (.iconst i, 1)) (hv : Int32.ofInt i = v) (hp : pc + 1 = pc') (k : GoS l R Z n0 y code ml ret Q h0 LL cells slots h pc' Ls (.int v :: st)) : GoS l R Z n0 y code ml ret Q h0 LL cells slots h pc Ls st := GoS.step (fun C X _ q => by subst hp; exact (by subst hv; exact XS.iconst X.here C.1 rfl (hb C.2.2.2.1 hd) q)) k
theorem GoS.aconstNull (hd : decode code pc = .ok (.aconst_null, 1)) (hp : pc + 1 = pc') (k : GoS l R Z n0 y code ml ret Q h0 LL cells slots h pc' Ls (.null :: st)) : GoS l R Z n0 y code ml ret Q h0 LL cells slots h pc Ls st := GoS.step (fun C X _ q => by subst hp; exact XS.aconstNull X.here C.1 rfl (hb C.2.2.2.1 hd) q) k
theorem GoS.ldcI {i : Nat} {v : Int32} (w : (Jvm.Cond.constant y.cls i v).before a0 Z = true) (hd : decode code pc = .ok (.ldc i, 2)) (hp : pc + 2 = pc') (k : GoS l R Z n0 y code ml ret Q h0 LL cells slots h pc' Ls (.int v :: st)) : GoS l R Z n0 y code ml ret Q h0 LL cells slots h pc Ls st := GoS.step (fun C X _ q => by subst hp; exact Jvm.Stand.ldcI X C.1 C.2.2.1 (mvT C.2.1 w) rfl (hb C.2.2.2.1 hd) q) k
theorem GoS.iadd {a b : Int32} (hd : decode code pc = .ok (.iadd, 1)) (hp : pc + 1 = pc') (k : GoS l R Z n0 y code ml ret Q h0 LL cells slots h pc' Ls (.int (a + b) :: st)) : GoS l R Z n0 y code ml ret Q h0 LL cells slots h pc Ls (.int b :: .int a :: st) := GoS.step (fun C X _ q => by subst hp; exact XS.iadd X.here C.1 rfl (hb C.2.2.2.1 hd) rfl q) k
theorem GoS.iand {a b : Int32} (hd : decode code pc = .ok (.iand, 1)) (hp : pc + 1 = pc') (k : GoS l R Z n0 y code ml ret Q h0 LL cells slots h pc' Ls (.int (a &&& b) :: st)) : GoS l R Z n0 y code ml ret Q h0 LL cells slots h pc Ls (.int b :: .int a :: st) := GoS.step (fun C X _ q => by subst hp; exact XS.iand X.here C.1 rfl (hb C.2.2.2.1 hd) rfl q) k
theorem GoS.iinc {k : Nat} {i : Int} {v w : Int32} (hd : decode code pc = .ok (.iinc k i, 3)) (hv : Int32.ofInt i = w) (hl : Ls[k]? = some (.val (.int v))) (hl' : storeLocals Ls k (.int (v + w)) = some Ls') (hp : pc + 3 = pc') (k : GoS l R Z n0 y code ml ret Q h0 LL cells slots h pc' Ls' st) : GoS l R Z n0 y code ml ret Q h0 LL cells slots h pc Ls st := GoS.step (fun C X _ q => by subst hp; exact XT.iincV X.here C.1 rfl w (hb C.2.2.2.1 hd) hv hl hl' q) k
theorem GoS.dup {v : Value} (hd : decode code pc = .ok (.dup, 1)) (hc : v.category = 1) (hp : pc + 1 = pc') (k : GoS l R Z n0 y code ml ret Q h0 LL cells slots h pc' Ls (v :: v :: st)) : GoS l R Z n0 y code ml ret Q h0 LL cells slots h pc Ls (v :: st) := GoS.step (fun C X _ q => by subst hp; exact XS.dup X.here C.1 rfl (hb C.2.2.2.1 hd) rfl hc q) k
theorem GoS.pop {v : Value} (hd : decode code pc = .ok (.pop, 1)) (hc : v.category = 1) (hp : pc + 1 = pc') (k : GoS l R Z n0 y code ml ret Q h0 LL cells slots h pc' Ls st) : GoS l R Z n0 y code ml ret Q h0 LL cells slots h pc Ls (v :: st) := GoS.step (fun C X _ q => by subst hp; exact XT.pop X.here C.1 rfl (hb C.2.2.2.1 hd) rfl hc q) k
theorem GoS.goto {o : Int} (hd : decode code pc = .ok (.goto o, 3)) (ho : 0 ≤ (pc : Int) + o := by decide) (hp : ((pc : Int) + o).toNat = pc' := by decide) (k : GoS l R Z n0 y code ml ret Q h0 LL cells slots h pc' Ls st) : GoS l R Z n0 y code ml ret Q h0 LL cells slots h pc Ls st := GoS.step (fun C X _ q => XS.goto X.here C.1 rfl rfl (hb C.2.2.2.1 hd) ho hp q) k
theorem GoS.ifYes {o : Int} {cd : ClassFile.Cond} {a : Int32} (hd : decode code pc = .ok (.ifCond cd o, 3)) (hc : ifCond.holds cd a = true) (ho : 0 ≤ (pc : Int) + o := by decide) (hp : ((pc : Int) + o).toNat = pc' := by decide) (k : GoS l R Z n0 y code ml ret Q h0 LL cells slots h pc' Ls st) : GoS l R Z n0 y code ml ret Q h0 LL cells slots h pc Ls (.int a :: st) := GoS.step (fun C X _ q => XS.ifYes X.here C.1 rfl rfl (hb C.2.2.2.1 hd) rfl hc ho hp q) k
theorem GoS.icmpYes {o : Int} {cd : ClassFile.Cond} {a b : Int32} (hd : decode code pc = .ok (.if_icmp cd o, 3)) (hc : if_icmp.holds cd a b = true) (ho : 0 ≤ (pc : Int) + o := by decide) (hp : ((pc : Int) + o).toNat = pc' := by decide) (k : GoS l R Z n0 y code ml ret Q h0 LL cells slots h pc' Ls st) : GoS l R Z n0 y code ml ret Q h0 LL cells slots h pc Ls (.int b :: .int a :: st) := GoS.step (fun C X _ q => XS.icmpYes X.here C.1 rfl rfl (hb C.2.2.2.1 hd) rfl hc ho hp q) k
theorem GoS.ifNo {o : Int} {cd : ClassFile.Cond} {a : Int32} (hd : decode code pc = .ok (.ifCond cd o, 3)) (hc : ifCond.holds cd a = false) (hp : pc + 3 = pc') (k : GoS l R Z n0 y code ml ret Q h0 LL cells slots h pc' Ls st) : GoS l R Z n0 y code ml ret Q h0 LL cells slots h pc Ls (.int a :: st) := GoS.step (fun C X _ q => by subst hp; exact XS.ifNo X.here C.1 rfl (hb C.2.2.2.1 hd) rfl hc q) k
theorem GoS.icmpNo {o : Int} {cd : ClassFile.Cond} {a b : Int32} (hd : decode code pc = .ok (.if_icmp cd o, 3)) (hc : if_icmp.holds cd a b = false) (hp : pc + 3 = pc') (k : GoS l R Z n0 y code ml ret Q h0 LL cells slots h pc' Ls st) : GoS l R Z n0 y code ml ret Q h0 LL cells slots h pc Ls (.int b :: .int a :: st) := GoS.step (fun C X _ q => by subst hp; exact XS.icmpNo X.here C.1 rfl (hb C.2.2.2.1 hd) rfl hc q) k
theorem GoS.lsw {a : Int32} {dflt o : Int} {pairs : Array (Int × Int)} {len : Nat} (hd : decode code pc = .ok (.lookupswitch dflt pairs, len)) (hsrt : (pairs.toList.zip (pairs.toList.drop 1)).all (fun x => decide (x.1.1 < x.2.1)) = true) (hoff : lookupswitch.offset pairs.toList dflt a.toInt = o) (ho : 0 ≤ (pc : Int) + o) (hp : ((pc : Int) + o).toNat = pc') (k : GoS l R Z n0 y code ml ret Q h0 LL cells slots h pc' Ls st) : GoS l R Z n0 y code ml ret Q h0 LL cells slots h pc Ls (.int a :: st) := GoS.step (fun C X _ q => own_lsw X.here C.1 rfl rfl (hb C.2.2.2.1 hd) rfl hsrt hoff ho hp q) k
theorem GoS.getfield {host : String} {R0 O n d : String} {i : Nat} (w : (Jvm.Cond.fieldLink y.cls i R0 n d).before a0 Z = true ∨ (Jvm.Cond.fieldLinkNest y.cls i R0 n d host).before a0 Z = true) (via : Via Z R0 O n d) {v : Value} {a : Addr} (F : Fld Z h a O n d v) (hd : decode code pc = .ok (.getfield i, 3)) (hp : pc + 3 = pc') (k : GoS l R Z n0 y code ml ret Q h0 LL cells slots h pc' Ls (v :: st)) : GoS l R Z n0 y code ml ret Q h0 LL cells slots h pc Ls (.ref a :: st) := by
  refine GoS.law (hgr := by intro h' q; first | exact Nat.le_of_eq (congrArg Array.size q.symm) | exact Nat.le_of_eq q.size.symm | exact q.1.1 | exact Nat.le_of_eq q.1.size.symm) (P := fun h' => h' = h) (fun C X N eT _ => ?_) (fun h' e => e ▸ k)
  subst hp
  obtain ⟨T', X', e', st⟩ := getF X C.1 C.2.1 C.2.2.1 w via eT F (g := mkF _ pc Ls (.ref a :: st)) rfl rfl (hb C.2.2.2.1 hd)
  exact ⟨T', _, h, X', N, e', rfl, st⟩
theorem GoS.initO {i : Nat} {a : Addr} (w1 : (Jvm.Cond.methodLink y.cls i Lib.objectInit).before a0 Z = true) (w2 : (Jvm.Cond.instanceMethod Lib.objectInit).before a0 Z = true) (w3 : (Jvm.Cond.code Lib.objectInit ⟨#[0xb1]⟩ 1 none).before a0 Z = true) (hd : decode code pc = .ok (.invokespecial i, 3)) (hz : Ls.size = ml) (hf : 1 ≤ R.frames := by decide) (hl : (st.map fun v => v.category).sum + 12 ≤ R.locals := by decide) (hp : pc + 3 = pc') (k : GoS l R Z n0 y code ml ret Q h0 LL cells slots h pc' Ls st) : GoS l R Z n0 y code ml ret Q h0 LL cells slots h pc Ls (.ref a :: st) := by
  refine GoS.law (hgr := by intro h' q; first | exact Nat.le_of_eq (congrArg Array.size q.symm) | exact Nat.le_of_eq q.size.symm | exact q.1.1 | exact Nat.le_of_eq q.1.size.symm) (P := fun h' => h' = h) (fun C X N eT _ => ?_) (fun h' e => e ▸ k)
  subst hp
  obtain ⟨T', X', e', st⟩ := initO X C.1 C.2.1 C.2.2.1 w1 w2 w3 eT (g := mkF _ pc Ls (.ref a :: st)) rfl (by rw [C.2.2.2.2.1]; exact hz) rfl (hb C.2.2.2.1 hd) hf (W := (st.map fun v => v.category).sum) (by simp) hl
  exact ⟨T', _, h, X', N, e', rfl, st⟩
theorem GoS.putfield {host : String} {R0 O n d : String} {i : Nat} (w : (Jvm.Cond.fieldLink y.cls i R0 n d).before a0 Z = true ∨ (Jvm.Cond.fieldLinkNest y.cls i R0 n d host).before a0 Z = true) {ty : FieldType} {C' : String} {kk : Nat} (via : Via Z R0 O n d) {v old : Value} {a : Addr} (F : Fld Z h a O n d old) (E : Exa Z h a C') (L : (Jvm.Cond.lays C' O n d).before a0 Z = true ∨ ((Jvm.Cond.laysFinal C' O n d).before a0 Z = true ∧ y.cls = O ∧ y.name = "<init>")) (wi : (Jvm.Cond.instantiable C' kk).before a0 Z = true) (hty : parseFieldDescriptor d = some ty) (hn : narrow ty v = v) (hf : fits ty v = true) (ha : n0 ≤ a) (hd : decode code pc = .ok (.putfield i, 3)) (hp : pc + 3 = pc') (k : ∀ h', Wr h h' a (Jvm.RoadKit.slotOf Z O n d) v → GoS l R Z n0 y code ml ret Q h0 LL cells slots h' pc' Ls st) : GoS l R Z n0 y code ml ret Q h0 LL cells slots h pc Ls (v :: .ref a :: st) := by
  refine GoS.law (hgr := by intro h' q; first | exact Nat.le_of_eq (congrArg Array.size q.symm) | exact Nat.le_of_eq q.size.symm | exact q.1.1 | exact Nat.le_of_eq q.1.size.symm) (P := fun h' => Wr h h' a (Jvm.RoadKit.slotOf Z O n d) v) (fun C X N eT hn => ?_) (k)
  subst hp
  obtain ⟨T', h', X', e', W, st⟩ := putF X C.1 C.2.1 C.2.2.1 w via eT F E (L.imp id fun q => ⟨q.1, q.2.1, C.2.2.2.2.2.2.2.1.trans q.2.2⟩) wi hty ‹narrow ty v = v› hf (g := mkF _ pc Ls (v :: .ref a :: st)) rfl rfl (hb C.2.2.2.1 hd)
  exact ⟨T', _, h', X', Fr.snoc X' N ha, e', W, st⟩
theorem GoS.putfieldN {R0 O n d : String} {i : Nat} (w : (Jvm.Cond.fieldLink y.cls i R0 n d).before a0 Z = true) {ty : FieldType} {C' : String} {kk : Nat} (via : Via Z R0 O n d) {v v' : Int32} {old : Value} {a : Addr} (F : Fld Z h a O n d old) (E : Exa Z h a C') (L : (Jvm.Cond.lays C' O n d).before a0 Z = true ∨ ((Jvm.Cond.laysFinal C' O n d).before a0 Z = true ∧ y.cls = O ∧ y.name = "<init>")) (wi : (Jvm.Cond.instantiable C' kk).before a0 Z = true) (hty : parseFieldDescriptor d = some ty) (hn : narrow ty (.int v) = .int v') (hf : fits ty (.int v') = true) (ha : n0 ≤ a) (hd : decode code pc = .ok (.putfield i, 3)) (hp : pc + 3 = pc') (k : ∀ h', Wr h h' a (Jvm.RoadKit.slotOf Z O n d) (.int v') → GoS l R Z n0 y code ml ret Q h0 LL cells slots h' pc' Ls st) : GoS l R Z n0 y code ml ret Q h0 LL cells slots h pc Ls (.int v :: .ref a :: st) := by
  refine GoS.law (hgr := by intro h' q; first | exact Nat.le_of_eq (congrArg Array.size q.symm) | exact Nat.le_of_eq q.size.symm | exact q.1.1 | exact Nat.le_of_eq q.1.size.symm) (P := fun h' => Wr h h' a (Jvm.RoadKit.slotOf Z O n d) (.int v')) (fun C X N eT hn => ?_) (k)
  subst hp
  obtain ⟨T', h', X', e', W, st⟩ := putFN X C.1 C.2.1 C.2.2.1 w via eT F E (L.imp id fun q => ⟨q.1, q.2.1, C.2.2.2.2.2.2.2.1.trans q.2.2⟩) wi hty ‹narrow ty (.int v) = .int v'› hf (g := mkF _ pc Ls (.int v :: .ref a :: st)) rfl rfl (hb C.2.2.2.1 hd)
  exact ⟨T', _, h', X', Fr.snoc X' N ha, e', W, st⟩
theorem GoS.new {C' : String} {i n cells' slots' : Nat} (w : (Jvm.Cond.classLink y.cls i C').before a0 Z = true) (wi : (Jvm.Cond.instantiable C' n).before a0 Z = true) (wz : (Jvm.Cond.initialized C').before a0 Z = true) (hd : decode code pc = .ok (.new i, 3)) (hc' : cells + 1 = cells') (hs' : slots + n = slots') (hc : cells' ≤ R.cells := by decide) (hl : slots' ≤ R.slots := by decide) (hp : pc + 3 = pc') (k : ∀ (h' : Heap) (b : Addr), b = h.size → Ext h h' → n0 ≤ b → Exa Z h' b C' → (∀ {O nm d : String} {ty : FieldType}, Laid Z a0 C' O nm d → parseFieldDescriptor d = some ty → Fld Z h' b O nm d (defaultValue ty)) → GoS l R Z n0 y code ml ret Q h0 LL cells' slots' h' pc' Ls (.ref b :: st)) : GoS l R Z n0 y code ml ret Q h0 LL cells slots h pc Ls st := by
  refine GoS.law (hgr := by intro h' q; first | exact Nat.le_of_eq (congrArg Array.size q.symm) | exact Nat.le_of_eq q.size.symm | exact q.1.1 | exact Nat.le_of_eq q.1.size.symm) (P := fun h' => (Ext h h' ∧ n0 ≤ h.size ∧ Exa Z h' h.size C' ∧ ∀ {O nm d : String} {ty : FieldType}, Laid Z a0 C' O nm d → parseFieldDescriptor d = some ty → Fld Z h' h.size O nm d (defaultValue ty))) (fun C X N eT hn => ?_) (fun h' q => k h' h.size rfl q.1 q.2.1 q.2.2.1 q.2.2.2)
  subst hp
  subst hc' hs'
  obtain ⟨T', h', X', e', E, A, D, -, st⟩ := newO X C.1 C.2.1 C.2.2.1 w wi wz eT (g := mkF _ pc Ls st) rfl (hb C.2.2.2.1 hd) hc hl
  exact ⟨T', _, h', X', N, e', ⟨E, hn, A, D⟩, st⟩
theorem GoS.newarray {aty : ArrayType} {ad : String} {n : Int32} {cap cells' slots' : Nat} (w : (Jvm.Cond.arrayClass (newarray.typeOf aty)).before a0 Z = true) (hd : decode code pc = .ok (.newarray aty, 2)) (had : "[" ++ (newarray.typeOf aty).toString = ad) (hn' : ¬ n < 0) (hcap : n.toNatClampNeg ≤ cap) (hc' : cells + 1 = cells') (hs' : slots + cap = slots') (hb8 : cap * 8 ≤ 536870912 := by decide) (hc : cells' ≤ R.cells := by decide) (hl : slots' ≤ R.slots := by decide) (hp : pc + 2 = pc') (k : ∀ (h' : Heap) (b : Addr), b = h.size → Ext h h' → n0 ≤ b → ∀ cA, Arv Z h' b cA (newarray.typeOf aty) n [] (defaultValue (newarray.typeOf aty)) → Exa Z h' b ad → GoS l R Z n0 y code ml ret Q h0 LL cells' slots' h' pc' Ls (.ref b :: st)) : GoS l R Z n0 y code ml ret Q h0 LL cells slots h pc Ls (.int n :: st) := by
  refine GoS.law (hgr := by intro h' q; first | exact Nat.le_of_eq (congrArg Array.size q.symm) | exact Nat.le_of_eq q.size.symm | exact q.1.1 | exact Nat.le_of_eq q.1.size.symm) (P := fun h' => (Ext h h' ∧ n0 ≤ h.size ∧ ∃ cA, Arv Z h' h.size cA (newarray.typeOf aty) n [] (defaultValue (newarray.typeOf aty)) ∧ Exa Z h' h.size ad)) (fun C X N eT hn => ?_) (fun h' q => q.2.2.elim fun cA u => k h' h.size rfl q.1 q.2.1 cA u.1 u.2)
  subst hp
  subst hc' hs'
  obtain ⟨T', h', cA, X', e', E, A, A2, st⟩ := newPE X C.1 C.2.1 w eT (g := mkF _ pc Ls (.int n :: st)) rfl (hb C.2.2.2.1 hd) rfl hn' hcap hb8 hc hl had
  exact ⟨T', _, h', X', N, e', ⟨E, hn, cA, Arv.new A hn', A2⟩, st⟩
theorem GoS.castore {a : Addr} {kA : ClassId} {z j : Int32} {vs : List Value} {dv : Value} {v : Int32} {i : Nat} (F : Arv Z h a kA .char z vs dv) (ha : n0 ≤ a) (hd : decode code pc = .ok (.castore, 1)) (hj : ¬ j < 0) (hjz : j < z) (hi : j.toNatClampNeg = i) (hil : i < vs.length) (hp : pc + 1 = pc') (k : ∀ h', Wr h h' a i (.int (nar .char v)) → Arv Z h' a kA .char z (vs.set i (.int (nar .char v))) dv → GoS l R Z n0 y code ml ret Q h0 LL cells slots h' pc' Ls st) : GoS l R Z n0 y code ml ret Q h0 LL cells slots h pc Ls (.int v :: .int j :: .ref a :: st) := by
  refine GoS.law (hgr := by intro h' q; first | exact Nat.le_of_eq (congrArg Array.size q.symm) | exact Nat.le_of_eq q.size.symm | exact q.1.1 | exact Nat.le_of_eq q.1.size.symm) (P := fun h' => (Wr h h' a i (.int (nar .char v)) ∧ Arv Z h' a kA .char z (vs.set i (.int (nar .char v))) dv)) (fun C X N eT hn => ?_) (fun h' q => k h' q.1 q.2)
  subst hp
  obtain ⟨cl, A, q1, S, q3, H, G⟩ := F
  obtain ⟨T', h', X', e', W, st⟩ := stC X C.1 C.2.1 eT A (j := j) (inb_of S ⟨hj, hjz⟩) (g := mkF _ pc Ls (.int v :: .int j :: .ref a :: st)) rfl rfl (hb C.2.2.2.1 hd)
  have V := Arv.set A q1 S q3 H G (fits_nar_char v) W i hi hil
  subst hi
  exact ⟨T', _, h', X', Fr.snoc X' N ha, e', ⟨W, V⟩, st⟩
theorem GoS.caload {a : Addr} {kA : ClassId} {z j : Int32} {vs : List Value} {dv : Value} {v : Int32} (F : Arv Z h a kA .char z vs dv) (hd : decode code pc = .ok (.caload, 1)) (hj : ¬ j < 0) (hjz : j < z) (hv : vs.getD j.toNatClampNeg dv = .int v) (hp : pc + 1 = pc') (k : GoS l R Z n0 y code ml ret Q h0 LL cells slots h pc' Ls (.int v :: st)) : GoS l R Z n0 y code ml ret Q h0 LL cells slots h pc Ls (.int j :: .ref a :: st) := by
  refine GoS.step (fun C X eT q => ?_) k
  subst hp
  obtain ⟨cl, A, q1, S, q3, H, G⟩ := F
  have hin := inb_of S ⟨hj, hjz⟩
  exact X.caload C.1 (j := j) (v := .int v) (by rw [eT]; exact A.1) (State.isArrayOf_alike C.2.1.alike A.2.1) A.2.2 hin (Has.at H hin hv) (g := mkF _ pc Ls (.int j :: .ref a :: st)) rfl rfl (hb C.2.2.2.1 hd) _ q
theorem GoS.arraylength {a : Addr} {kA : ClassId} {ty : FieldType} {z : Int32} {vs : List Value} {dv : Value} (F : Arv Z h a kA ty z vs dv) (hd : decode code pc = .ok (.arraylength, 1)) (hp : pc + 1 = pc') (k : GoS l R Z n0 y code ml ret Q h0 LL cells slots h pc' Ls (.int z :: st)) : GoS l R Z n0 y code ml ret Q h0 LL cells slots h pc Ls (.ref a :: st) := by
  refine GoS.step (fun C X eT q => ?_) k
  subst hp
  obtain ⟨cl, A, q1, S, q3, H, G⟩ := F
  refine X.arraylength C.1 (by rw [eT]; exact A.1) (State.isArrayOf_alike C.2.1.alike A.2.1) (g := mkF _ pc Ls (.ref a :: st)) rfl rfl (hb C.2.2.2.1 hd) _ ?_
  rw [len_of S q3]
  exact q

theorem GoS.retV (hr : ret = none) (hd : decode code pc = .ok (.return_, 1)) (hq : Q none h LL) (hc : cells ≤ R.cells := by decide) (hs : slots ≤ R.slots := by decide) : GoS l R Z n0 y code ml ret Q h0 LL cells slots h pc Ls [] := by
  intro p e s vm0 k0 m args below meth c T locs C e0 X hS hk N eT I
  obtain ⟨fs, hr', hrun, hended, w1, w2, w3, w4⟩ := X.leaveW hS (eT ▸ hk) (v := none) (fun _ => rfl) C.2.2.2.2.2.2.1
  refine ⟨_, _, X.returnOut C.1 (C.2.2.2.2.2.1.trans hr) (hb C.2.2.2.1 hd) hr', hrun, hended, _, locs, LL, rfl, ⟨?_, I.warm X.warmed, N⟩, w1, w2, w3, w4.mono hc hs⟩
  show Q _ T.heap _
  rw [eT]; exact hq
theorem GoS.retN {t : FieldType} {v : Int32} (hr : ret = some t) (ht : t = .boolean ∨ t = .byte ∨ t = .char ∨ t = .short) (hd : decode code pc = .ok (.ireturn, 1)) (hq : Q (some (.int (nar t v))) h LL) (hc : cells ≤ R.cells := by decide) (hs : slots ≤ R.slots := by decide) : GoS l R Z n0 y code ml ret Q h0 LL cells slots h pc Ls (.int v :: st) := by
  intro p e s vm0 k0 m args below meth c T locs C e0 X hS hk N eT I
  obtain ⟨fs, hr', hrun, hended, w1, w2, w3, w4⟩ := X.leaveW hS (eT ▸ hk) (v := some (.int (nar t v))) (fun q => by rw [C.2.2.2.2.2.1, hr] at q; cases q) C.2.2.2.2.2.2.1
  refine ⟨_, _, Jvm.RoadKit.retN X C.1 (C.2.2.2.2.2.1.trans hr) ht (hb C.2.2.2.1 hd) hr', hrun, hended, _, locs, LL, rfl, ⟨?_, I.warm X.warmed, N⟩, w1, w2, w3, w4.mono hc hs⟩
  show Q _ T.heap _
  rw [eT]; exact hq
theorem GoS.retR {t : FieldType} {v : Value} (hr : ret = some t) (ht : t.isReference = true) (hv : v.isRef = true) (hn : narrow t v = v) (hd : decode code pc = .ok (.areturn, 1)) (hq : Q (some v) h LL) (hc : cells ≤ R.cells := by decide) (hs : slots ≤ R.slots := by decide) : GoS l R Z n0 y code ml ret Q h0 LL cells slots h pc Ls (v :: st) := by
  intro p e s vm0 k0 m args below meth c T locs C e0 X hS hk N eT I
  obtain ⟨fs, hr', hrun, hended, w1, w2, w3, w4⟩ := X.leaveW hS (eT ▸ hk) (v := some v) (fun q => by rw [C.2.2.2.2.2.1, hr] at q; cases q) C.2.2.2.2.2.2.1
  refine ⟨_, _, retOut X C.1 (C.2.2.2.2.2.1.trans hr) hn (Or.inr (Or.inr (Or.inr (Or.inr ⟨rfl, ht, hv⟩)))) (hb C.2.2.2.1 hd) hr', hrun, hended, _, locs, LL, rfl, ⟨?_, I.warm X.warmed, N⟩, w1, w2, w3, w4.mono hc hs⟩
  show Q _ T.heap _
  rw [eT]; exact hq
theorem GoS.callS {z : MethodName} {zc : ByteArray} {zm : Nat} {zr : Option FieldType} {rm : Room} {Q' : Option Value → Heap → List (String × Addr × String × Nat) → Prop} {cells' slots' i : Nat} (argsL rest : List Value) {ps : List FieldType} {r : Option FieldType} (w1 : (Jvm.Cond.methodLink y.cls i z).before a0 Z = true) (w2 : (Jvm.Cond.static z).before a0 Z = true) (wi : (Jvm.Cond.initialized z.cls).before a0 Z = true) (wc : (Jvm.Cond.code z zc zm zr).before a0 Z = true) (hy : z.cls ≠ "java/lang/invoke/MethodHandle" ∧ z.cls ≠ "java/lang/invoke/VarHandle") (hK : ConS l z zc zm zr rm Z n0 argsL.toArray h LL Q') (hpd : parseMethodDescriptor z.desc = some ⟨ps, r⟩) (hd : decode code pc = .ok (.invokestatic i, 3)) (hp : pc + 3 = pc')
    (k : ∀ v h' LL', Q' v h' LL' → GoS l R Z n0 y code ml ret Q h0 LL' cells' slots' h' pc' Ls (v.toList ++ rest)) (hlen : argsL.length = ps.length := by rfl) (hst : st = argsL.reverse ++ rest := by rfl) (hz : Ls.size = ml := by rfl) (hc' : cells + rm.cells = cells' := by rfl) (hs' : slots + rm.slots = slots' := by rfl) (hfr : rm.frames + 1 ≤ R.frames := by exact Nat.le_of_ble_eq_true rfl) (hlo : (rest.map fun v => v.category).sum + (zm + 11) + rm.locals ≤ R.locals := by exact Nat.le_of_ble_eq_true rfl) (hc : cells' ≤ R.cells := by exact Nat.le_of_ble_eq_true rfl) (hs : slots' ≤ R.slots := by exact Nat.le_of_ble_eq_true rfl) : GoS l R Z n0 y code ml ret Q h0 LL cells slots h pc Ls st := by
  intro p e s vm0 k0 m args below meth c T locs C e0 X hS hk N eT I
  subst hc' hs' hp hst
  have hold : Old Z n0 h := own_old (s := s.setVm vm0) C.2.2.2.2.2.2.2.2 X N eT
  obtain ⟨v, _, ⟨T', L', k', n'⟩, -, X', hS', hgr, ⟨Lc, LL', hQ, hI, hN, l', y', z'⟩, st⟩ := callSS X C.1 (y := z) C.2.2.1 (mvT C.2.1 w1) (mvT C.2.1 w2) (mvT C.2.1 wi) (mvT C.2.1 wc) hy (own_backS (s := s.setVm vm0) (W := (rest.map fun v => v.category).sum) (hK hold) C.2.1 wc wi hfr hlo) (g := mkF m pc Ls (argsL.reverse ++ rest)) rfl (by rw [C.2.2.2.2.1]; exact hz) (argsL := argsL) (rest := rest) (lenOf hpd hlen) rfl (by simp) (hb C.2.2.2.1 hd) (fun _ hw1 => ⟨rfl, eT, I.warm hw1, hc, hs⟩)
  dsimp only [Pt.U, Pt.locs, Pt.cells, Pt.slots] at X' l' y' z' st hQ hS' hgr hI
  subst l' y' z'
  obtain ⟨s₂, o, h1, h2⟩ := k v _ LL' hQ p e s T'.vm T'.heap.size m args below meth c T' _ (C.re hS'.1) e0 X' (hS.trans hS' (Nat.le_trans hk (eT ▸ hgr))) (Nat.le_refl _) (Fr.app N hN) rfl hI
  exact ⟨s₂, o, st.trans h1, h2⟩
theorem GoS.callC {z : MethodName} {zc : ByteArray} {zm : Nat} {zr : Option FieldType} {rm : Room} {Q' : Option Value → Heap → List (String × Addr × String × Nat) → Prop} {cells' slots' i : Nat} (argsL rest : List Value) {ps : List FieldType} {r : Option FieldType} {a : Addr} (hzi : z.name = "<init>") (hzr : zr = none) (w1 : (Jvm.Cond.methodLink y.cls i z).before a0 Z = true) (w2 : (Jvm.Cond.instanceMethod z).before a0 Z = true) (wi : (Jvm.Cond.initialized z.cls).before a0 Z = true) (wc : (Jvm.Cond.code z zc zm zr).before a0 Z = true) (hy : z.cls ≠ "java/lang/invoke/MethodHandle" ∧ z.cls ≠ "java/lang/invoke/VarHandle") (hK : ConS l z zc zm zr rm Z n0 (.ref a :: argsL).toArray h LL Q') (hpd : parseMethodDescriptor z.desc = some ⟨ps, r⟩) (hd : decode code pc = .ok (.invokespecial i, 3)) (hp : pc + 3 = pc')
    (k : ∀ v h' LL', Q' v h' LL' → GoS l R Z n0 y code ml ret Q h0 LL' cells' slots' h' pc' Ls (v.toList ++ rest)) (hlen : argsL.length = ps.length := by rfl) (hst : st = argsL.reverse ++ .ref a :: rest := by rfl) (hz : Ls.size = ml := by rfl) (hc' : cells + rm.cells = cells' := by rfl) (hs' : slots + rm.slots = slots' := by rfl) (hfr : rm.frames + 1 ≤ R.frames := by exact Nat.le_of_ble_eq_true rfl) (hlo : (rest.map fun v => v.category).sum + (zm + 11) + rm.locals ≤ R.locals := by exact Nat.le_of_ble_eq_true rfl) (hc : cells' ≤ R.cells := by exact Nat.le_of_ble_eq_true rfl) (hs : slots' ≤ R.slots := by exact Nat.le_of_ble_eq_true rfl) : GoS l R Z n0 y code ml ret Q h0 LL cells slots h pc Ls st := by
  intro p e s vm0 k0 m args below meth c T locs C e0 X hS hk N eT I
  subst hc' hs' hp hst
  have hold : Old Z n0 h := own_old (s := s.setVm vm0) C.2.2.2.2.2.2.2.2 X N eT
  subst hzr
  obtain ⟨v, _, ⟨T', L', k', n'⟩, -, X', hS', hgr, ⟨Lc, LL', hQ, hI, hN, l', y', z'⟩, st⟩ := X.specialBackS C.1 (y := z) hzi C.2.2.1 (mvT C.2.1 w1) (mvT C.2.1 w2) (mvT C.2.1 wc) hy (own_backS (s := s.setVm vm0) (W := (rest.map fun v => v.category).sum) (hK hold) C.2.1 wc wi hfr hlo) (g := mkF m pc Ls (argsL.reverse ++ .ref a :: rest)) rfl (by rw [C.2.2.2.2.1]; exact hz) (Steps.refl _) (a := a) (argsL := argsL) (rest := rest) (lenOf hpd hlen) rfl (by simp) (hb C.2.2.2.1 hd) (fun _ hw1 => ⟨rfl, eT, I.warm hw1, hc, hs⟩)
  dsimp only [Pt.U, Pt.locs, Pt.cells, Pt.slots] at X' l' y' z' st hQ hS' hgr hI
  subst l' y' z'
  obtain ⟨s₂, o, h1, h2⟩ := k v _ LL' hQ p e s T'.vm T'.heap.size m args below meth c T' _ (C.re hS'.1) e0 X' (hS.trans hS' (Nat.le_trans hk (eT ▸ hgr))) (Nat.le_refl _) (Fr.app N hN) rfl hI
  exact ⟨s₂, o, st.trans h1, h2⟩
theorem GoS.callV {z : MethodName} {zc : ByteArray} {zm : Nat} {zr : Option FieldType} {rm : Room} {Q' : Option Value → Heap → List (String × Addr × String × Nat) → Prop} {cells' slots' i : Nat} (argsL rest : List Value) {ps : List FieldType} {r : Option FieldType} {a : Addr} {x' : MethodName} {C' : String} (E : Exa Z h a C') (w1 : (Jvm.Cond.methodLink y.cls i x').before a0 Z = true) (w2 : (Jvm.Cond.declares x').before a0 Z = true) (nf : ∀ s' : State, Z.Warmed39 s'.vm → NotFace s' x') (w3 : (Jvm.Cond.selects C' x' z).before a0 Z = true) (w4 : (Jvm.Cond.instanceMethod z).before a0 Z = true) (wi : (Jvm.Cond.initialized z.cls).before a0 Z = true) (wc : (Jvm.Cond.code z zc zm zr).before a0 Z = true) (hy : x'.cls ≠ "java/lang/invoke/MethodHandle" ∧ x'.cls ≠ "java/lang/invoke/VarHandle") (hK : ConS l z zc zm zr rm Z n0 (.ref a :: argsL).toArray h LL Q') (hpd : parseMethodDescriptor x'.desc = some ⟨ps, r⟩) (hd : decode code pc = .ok (.invokevirtual i, 3)) (hp : pc + 3 = pc')
    (k : ∀ v h' LL', Q' v h' LL' → GoS l R Z n0 y code ml ret Q h0 LL' cells' slots' h' pc' Ls (v.toList ++ rest)) (hlen : argsL.length = ps.length := by rfl) (hst : st = argsL.reverse ++ .ref a :: rest := by rfl) (hz : Ls.size = ml := by rfl) (hc' : cells + rm.cells = cells' := by rfl) (hs' : slots + rm.slots = slots' := by rfl) (hfr : rm.frames + 1 ≤ R.frames := by exact Nat.le_of_ble_eq_true rfl) (hlo : (rest.map fun v => v.category).sum + (zm + 11) + rm.locals ≤ R.locals := by exact Nat.le_of_ble_eq_true rfl) (hc : cells' ≤ R.cells := by exact Nat.le_of_ble_eq_true rfl) (hs : slots' ≤ R.slots := by exact Nat.le_of_ble_eq_true rfl) : GoS l R Z n0 y code ml ret Q h0 LL cells slots h pc Ls st := by
  intro p e s vm0 k0 m args below meth c T locs C e0 X hS hk N eT I
  subst hc' hs' hp hst
  have hold : Old Z n0 h := own_old (s := s.setVm vm0) C.2.2.2.2.2.2.2.2 X N eT
  obtain ⟨cq, kq, qa, qb, qc⟩ := isOf C.2.1 eT E
  obtain ⟨v, _, ⟨T', L', k', n'⟩, -, X', hS', hgr, ⟨Lc, LL', hQ, hI, hN, l', y', z'⟩, st⟩ := X.virtualBackS C.1 (y := x') (z := z) C.2.2.1 (mvT C.2.1 w1) (mvT C.2.1 w2) (nf (s.setVm vm0) C.2.1) (mvT C.2.1 w3) (mvT C.2.1 w4) hy (own_backS (s := s.setVm vm0) (W := (rest.map fun v => v.category).sum) (hK hold) C.2.1 wc wi hfr hlo) qa qc (g := mkF m pc Ls (argsL.reverse ++ .ref a :: rest)) rfl (by rw [C.2.2.2.2.1]; exact hz) (Steps.refl _) (argsL := argsL) (rest := rest) (lenOf hpd hlen) rfl (by simp) (hb C.2.2.2.1 hd) (fun _ hw1 => ⟨rfl, eT, I.warm hw1, hc, hs⟩)
  dsimp only [Pt.U, Pt.locs, Pt.cells, Pt.slots] at X' l' y' z' st hQ hS' hgr hI
  subst l' y' z'
  obtain ⟨s₂, o, h1, h2⟩ := k v _ LL' hQ p e s T'.vm T'.heap.size m args below meth c T' _ (C.re hS'.1) e0 X' (hS.trans hS' (Nat.le_trans hk (eT ▸ hgr))) (Nat.le_refl _) (Fr.app N hN) rfl hI
  exact ⟨s₂, o, st.trans h1, h2⟩
end RulesS
end Jvm.OwnGo
namespace Jvm.OwnNum
theorem eqI {a k : Int32} (h : a.toInt = k.toInt) : a = k := Int32.toInt_inj.mp h
end Jvm.OwnNum
namespace Jvm.OwnNum
end Jvm.OwnNum
namespace Jvm.OwnNum
theorem b8 (x : Int32) : x.toInt8.toInt32.toInt8.toInt32 = x.toInt8.toInt32 := by simp
theorem c16 (x : Int32) : x.toUInt32.toUInt16.toUInt32.toInt32.toUInt32.toUInt16.toUInt32.toInt32 = x.toUInt32.toUInt16.toUInt32.toInt32 := by simp only [UInt32.toUInt32_toInt32, UInt16.toUInt16_toUInt32]
end Jvm.OwnNum
namespace Jvm.OwnGo
open Jvm Jvm.ClassFile Sem Op Lib Jvm.Free Jvm.Stand Jvm.LawKit Jvm.RoadKit
section Sheet
variable {args : Array Value} {s : State} {t : Term} {a : Addr}
theorem own_eqI {k : Int32} (h : (Jvm.Cond.eq t (.int k)).value args s none s [] = some true) : t.eval args s none [] s = some (.int k) := by
  simp only [Cond.value, Term.eval] at h
  cases ht : t.eval args s none [] s with
  | none => simp [ht] at h
  | some x => cases x <;> simp [ht] at h ⊢; exact h
end Sheet
end Jvm.OwnGo
namespace Jvm.OwnGo
open Jvm Jvm.ClassFile Sem Op Lib Jvm.Free Jvm.Stand Jvm.LawKit Jvm.RoadKit
end Jvm.OwnGo
namespace Jvm.OwnGo
open Jvm Jvm.ClassFile Sem Op Lib Jvm.Free Jvm.Stand Jvm.LawKit Jvm.RoadKit
end Jvm.OwnGo
namespace Jvm.OwnGo
open Jvm Jvm.ClassFile Sem Op Lib Jvm.Free Jvm.Stand Jvm.LawKit Jvm.RoadKit
end Jvm.OwnGo
namespace Jvm.OwnNum
open Jvm Jvm.RoadKit
theorem m255 (i : Nat) (hi : i < 32) : (255#32)[i]'hi = decide (i < 8) := by
  have : ∀ i : Fin 32, (255#32)[i.val]'i.isLt = decide (i.val < 8) := by decide
  exact this ⟨i, hi⟩
theorem b1e (c : BitVec 32) (h : c.toNat < 65536) (i : Nat) (hi : i < 32) (h16 : 16 ≤ i) : c[i]'hi = false := by
  rw [← BitVec.getLsbD_eq_getElem]
  simp only [BitVec.getLsbD]
  exact Nat.testBit_lt_two_pow (Nat.lt_of_lt_of_le h (Nat.pow_le_pow_right (by decide) h16 : 2 ^ 16 ≤ 2 ^ i))
theorem b2 (c : BitVec 32) (h : c.toNat < 65536) : ((((c.sshiftRight 0).setWidth 8).signExtend 32 &&& 255#32) <<< 0) ||| ((((c.sshiftRight 8).setWidth 8).signExtend 32 &&& 255#32) <<< 8) = c := by
  apply BitVec.eq_of_getLsbD_eq
  intro i hi
  simp only [BitVec.getLsbD_or, BitVec.getLsbD_shiftLeft, BitVec.getLsbD_and, BitVec.getLsbD_signExtend, BitVec.getLsbD_setWidth, BitVec.getLsbD_sshiftRight]
  by_cases h8 : i < 8
  · simp [hi, h8, m255 i hi, show ¬ 32 ≤ i by omega]
  · by_cases h16 : i < 16
    · have e1 : i - 8 < 8 := by omega
      have e2 : i - 8 < 32 := by omega
      have e3 : 8 + (i - 8) = i := by omega
      simp [hi, h8, m255 i hi, m255 (i - 8) e2, e1, e2, e3, show ¬ 32 ≤ i - 8 by omega]
    · have e1 : ¬ i - 8 < 8 := by omega
      have e2 : i - 8 < 32 := by omega
      simp [hi, h8, m255 i hi, m255 (i - 8) e2, e1, e2, b1e c h i hi (by omega)]
theorem u16 (c : Int32) (h : c.toBitVec.toNat < 65536) : ((((c >>> ((0 : Int32) &&& 31)).toInt8.toInt32 &&& (255 : Int32)) <<< ((0 : Int32) &&& 31)) ||| (((c >>> ((8 : Int32) &&& 31)).toInt8.toInt32 &&& (255 : Int32)) <<< ((8 : Int32) &&& 31))) = c := by
  apply Int32.toBitVec_inj.mp
  have := b2 c.toBitVec h
  simp only [Int32.toBitVec_or, Int32.toBitVec_shiftLeft, Int32.toBitVec_and, Int8.toBitVec_toInt32, Int32.toBitVec_toInt8, Int32.toBitVec_shiftRight]
  have e0 : (Int32.toBitVec 0 &&& Int32.toBitVec 31).smod 32 = 0#32 := by decide
  have e8 : (Int32.toBitVec 8 &&& Int32.toBitVec 31).smod 32 = 8#32 := by decide
  have s8 : ∀ x : BitVec 32, x.signExtend 8 = x.setWidth 8 := fun x => BitVec.signExtend_eq_setWidth_of_le x (by decide)
  rw [e0, e8, s8, s8]
  exact this
theorem charNat {c : Int32} (hn : Jvm.RoadKit.nar .char c = c) : c.toBitVec.toNat < 65536 := by
  have e : c.toUInt32.toUInt16.toUInt32.toInt32 = c := hn
  rw [← e]
  generalize c.toUInt32.toUInt16 = u
  have hu : u.toNat < 65536 := u.toNat_lt
  show u.toUInt32.toNat < 65536
  rw [UInt16.toNat_toUInt32]
  exact hu
end Jvm.OwnNum
namespace Jvm.RoadKit
open Jvm Jvm.ClassFile Sem Op Lib Jvm.Free Jvm.Stand Jvm.LawKit
section
variable {Z : State} {h : Heap} {a : Addr}
theorem Arv.low {ty : FieldType} {kA : ClassId} {z : Int32} {vs vs' : List Value} {dv : Value} (F : Arv Z h a kA ty z vs dv) (q : ∀ i, i < z.toNatClampNeg → vs'.getD i dv = vs.getD i dv) : Arv Z h a kA ty z vs' dv := by
  obtain ⟨c, A, r1, r2, r3, H, G⟩ := F
  exact ⟨c, A, r1, r2, r3, fun i hi => by rw [q i (r2 ▸ hi)]; exact H i hi, fun i hi => by rw [q i (r2 ▸ hi)]; exact G i hi⟩
theorem Fld.cI {O f d : String} {v v' : Int32} (F : Fld Z h a O f d (.int v)) (e : v = v') : Fld Z h a O f d (.int v') := e ▸ F
end
theorem Arv.cZ {Z : State} {h : Heap} {a : Addr} {kA : ClassId} {ty : FieldType} {z z' : Int32} {vs : List Value} {dv : Value} (F : Arv Z h a kA ty z vs dv) (e : z = z') : Arv Z h a kA ty z' vs dv := e ▸ F
end Jvm.RoadKit
namespace Jvm.Pilot.@@N@@
open Jvm Jvm.ClassFile Sem Op Lib Jvm.Free Jvm.Stand Jvm.LawKit Jvm.RoadKit Bundle Jvm.OwnGo Jvm.Pilot.@@N@@.Jvm.D
set_option maxRecDepth 65536
set_option maxHeartbeats 4000000
theorem ww {Z : State} {a0 : Array Value} (hw : ∀ d ∈ tables_1, d.before a0 Z = true) (i : Nat) {d : Jvm.Cond} (h : tables_1[i]? = some d) : d.before a0 Z = true := hw d (List.mem_of_getElem? h)
theorem nfS {Z : State} {a0 : Array Value} {C : String} {x : MethodName} (w : (Jvm.Cond.selects C x x).before a0 Z = true) : ∀ s' : State, Z.Warmed39 s'.vm → NotFace s' x := fun s' hs' => notFace_of_selects (args := #[]) (mvT hs' w)
theorem nfP {Z : State} {a0 : Array Value} {x : MethodName} {S : String} (w : (Jvm.Cond.superclass x.cls S).before a0 Z = true) : ∀ s' : State, Z.Warmed39 s'.vm → NotFace s' x := fun s' hs' => nf_super (args := #[]) (mvT hs' w)
abbrev rm4 (a b c d : Nat) : Room := { frames := a, cells := b, slots := c, locals := d }
theorem nl {n m : Nat} (h : Nat.ble n m = true) : n ≤ m := Nat.le_of_ble_eq_true h
abbrev Dc (c : ByteArray) (p : Nat) (i : Instr) (n : Nat) : Prop := decode c p = .ok (i, n)
abbrev q7 : ByteArray := jdk_42_method_152_code
abbrev q11 : ByteArray := jdk_42_method_154_code
abbrev q44 : ByteArray := jdk_41_method_11_code
abbrev q43 : ByteArray := jdk_42_method_155_code
abbrev q57 : ByteArray := jdk_52_method_6_code
abbrev q52 : ByteArray := jdk_52_method_4_code
abbrev q53 : ByteArray := jdk_52_method_5_code
abbrev q64 : ByteArray := jdk_52_method_91_code
abbrev q59 : ByteArray := jdk_41_method_13_code
abbrev q58 : ByteArray := jdk_42_method_157_code
abbrev q56 : ByteArray := jdk_52_method_94_code
abbrev q63 : ByteArray := jdk_52_method_71_code
abbrev q51 : ByteArray := jdk_52_method_3_code
abbrev q50 : ByteArray := jdk_52_method_2_code
abbrev q62 : ByteArray := jdk_52_method_86_code
abbrev q61 : ByteArray := jdk_43_method_50_code
abbrev q20 : ByteArray := jdk_68_method_68_code
abbrev q60 : ByteArray := jdk_68_method_11_code
abbrev q33 : ByteArray := jdk_29_method_65_code
abbrev q35 : ByteArray := jdk_29_method_69_code
abbrev q32 : ByteArray := jdk_48_method_27_code
abbrev q34 : ByteArray := jdk_65_method_121_code
abbrev q31 : ByteArray := jdk_68_method_10_code
abbrev q27 : ByteArray := jdk_68_method_9_code
abbrev q48 : ByteArray := jdk_43_method_3_code
abbrev q47 : ByteArray := jdk_68_method_31_code
abbrev q6 : ByteArray := jdk_42_method_54_code
abbrev q29 : ByteArray := jdk_68_method_71_code
abbrev q30 : ByteArray := jdk_42_method_147_code
abbrev q28 : ByteArray := jdk_68_method_73_code
abbrev q26 : ByteArray := jdk_68_method_22_code
abbrev q46 : ByteArray := jdk_67_method_14_code
abbrev q25 : ByteArray := jdk_67_method_7_code
abbrev q9 : ByteArray := jdk_68_method_2_code
abbrev q8 : ByteArray := jdk_67_method_2_code
abbrev q37 : ByteArray := jdk_65_method_131_code
abbrev q36 : ByteArray := jdk_65_method_133_code
abbrev q21 : ByteArray := jdk_65_method_132_code
abbrev q17 : ByteArray := jdk_68_method_64_code
abbrev q19 : ByteArray := jdk_68_method_6_code
abbrev q18 : ByteArray := jdk_67_method_93_code
abbrev q16 : ByteArray := jdk_42_method_150_code
abbrev q15 : ByteArray := jdk_42_method_53_code
abbrev q14 : ByteArray := jdk_67_method_42_code
abbrev q13 : ByteArray := jdk_43_method_49_code
abbrev q55 : ByteArray := jdk_52_method_26_code
abbrev q12 : ByteArray := jdk_43_method_9_code
abbrev q54 : ByteArray := jdk_52_method_13_code
abbrev q10 : ByteArray := jdk_42_method_129_code
abbrev q42 : ByteArray := jdk_43_method_2_code
abbrev q65 : ByteArray := jdk_52_method_83_code
abbrev q41 : ByteArray := jdk_42_method_56_code
abbrev q23 : ByteArray := jdk_52_method_21_code
abbrev q49 : ByteArray := jdk_52_method_14_code
abbrev q22 : ByteArray := jdk_52_method_16_code
abbrev q24 : ByteArray := jdk_52_method_15_code
abbrev q3 : ByteArray := jdk_42_method_149_code
abbrev q2 : ByteArray := jdk_42_method_3_code
abbrev q5 : ByteArray := prog_22_method_4_code
abbrev q39 : ByteArray := method_3_code
abbrev q38 : ByteArray := method_5_code
abbrev q45 : ByteArray := method_4_code
abbrev q40 : ByteArray := method_6_code
abbrev q1 : ByteArray := method_2_code
theorem own_ite1 {P : Prop} [Decidable P] (h : ¬ (if P then (1 : Int32) else 0) = (0 : Int32)) : some (Value.int (nar .boolean 1)) = some (Value.int (if P then (1 : Int32) else 0)) := by
  by_cases q : P
  · rw [if_pos q]; rfl
  · rw [if_neg q] at h; exact absurd rfl h
theorem own_ite0 {P : Prop} [Decidable P] (h : (if P then (1 : Int32) else 0) = (0 : Int32)) : some (Value.int (nar .boolean 0)) = some (Value.int (if P then (1 : Int32) else 0)) := by
  rw [h]; rfl

theorem wsA {Z : State} {a0 : Array Value} (hw : ∀ d ∈ tables_1, d.before a0 Z = true) : ∀ a ∈ Bundle.stringAtoms, a.before a0 Z = true := fun d hd => by
  simp only [Bundle.stringAtoms, List.mem_cons, List.not_mem_nil, or_false] at hd
  rcases hd with rfl | rfl | rfl | rfl | rfl | rfl | rfl
  · exact (ww hw 8 rfl)
  · exact (ww hw 7 rfl)
  · exact (ww hw 21 rfl)
  · exact (ww hw 22 rfl)
  · exact (ww hw 23 rfl)
  · exact (ww hw 24 rfl)
  · exact (ww hw 25 rfl)
theorem d7_0 : Dc q7 0 (.getstatic 38) 3 := by decide +kernel
theorem d7_3 : Dc q7 3 (.ifCond .eq 10) 3 := by decide +kernel
theorem d7_6 : Dc q7 6 (.aload_n 0) 1 := by decide +kernel
theorem d7_7 : Dc q7 7 (.getfield 15) 3 := by decide +kernel
theorem d7_10 : Dc q7 10 (.goto 4) 3 := by decide +kernel
theorem d7_14 : Dc q7 14 .ireturn 1 := by decide +kernel
theorem pn_0 : plainName "java/lang/String" = true := by first | (simp [plainName, overriddenIn]; done) | decide +kernel
theorem d11_0 : Dc q11 0 (.getstatic 38) 3 := by decide +kernel
theorem d11_3 : Dc q11 3 (.ifCond .eq 14) 3 := by decide +kernel
theorem d11_6 : Dc q11 6 (.aload_n 0) 1 := by decide +kernel
theorem d11_7 : Dc q11 7 (.getfield 15) 3 := by decide +kernel
theorem d11_10 : Dc q11 10 (.ifCond .ne 7) 3 := by decide +kernel
theorem d11_13 : Dc q11 13 (.iconst 1) 1 := by decide +kernel
theorem d11_14 : Dc q11 14 (.goto 4) 3 := by decide +kernel
theorem d11_18 : Dc q11 18 .ireturn 1 := by decide +kernel
theorem d44_0 : Dc q44 0 (.iload_n 0) 1 := by decide +kernel
theorem d44_1 : Dc q44 1 (.ifCond .lt 8) 3 := by decide +kernel
theorem d44_4 : Dc q44 4 (.iload_n 0) 1 := by decide +kernel
theorem d44_5 : Dc q44 5 (.iload_n 1) 1 := by decide +kernel
theorem d44_6 : Dc q44 6 (.if_icmp .lt 10) 3 := by decide +kernel
theorem d44_16 : Dc q44 16 (.iload_n 0) 1 := by decide +kernel
theorem d44_17 : Dc q44 17 .ireturn 1 := by decide +kernel
theorem pn_1 : plainName "jdk/internal/util/Preconditions" = true := by first | (simp [plainName, overriddenIn]; done) | decide +kernel
theorem d43_0 : Dc q43 0 (.iload_n 0) 1 := by decide +kernel
theorem d43_1 : Dc q43 1 (.iload_n 1) 1 := by decide +kernel
theorem d43_2 : Dc q43 2 (.getstatic 1053) 3 := by decide +kernel
theorem d43_5 : Dc q43 5 (.invokestatic 1059) 3 := by decide +kernel
theorem d43_8 : Dc q43 8 .pop 1 := by decide +kernel
theorem d43_9 : Dc q43 9 .return_ 1 := by decide +kernel
theorem pd_0 : parseMethodDescriptor "(IILjava/util/function/BiFunction;)I" = some ⟨[.int, .int, (.object "java/util/function/BiFunction")], some .int⟩ := by decide +kernel
theorem d57_0 : Dc q57 0 (.aload_n 0) 1 := by decide +kernel
theorem d57_1 : Dc q57 1 .arraylength 1 := by decide +kernel
theorem d57_2 : Dc q57 2 (.iconst 1) 1 := by decide +kernel
theorem d57_3 : Dc q57 3 .ishr 1 := by decide +kernel
theorem d57_4 : Dc q57 4 .ireturn 1 := by decide +kernel
theorem pn_2 : plainName "java/lang/StringUTF16" = true := by first | (simp [plainName, overriddenIn]; done) | decide +kernel
theorem d52_0 : Dc q52 0 (.getstatic 44) 3 := by decide +kernel
theorem d52_3 : Dc q52 3 (.ifCond .ne 25) 3 := by decide +kernel
theorem d52_28 : Dc q52 28 (.iload_n 1) 1 := by decide +kernel
theorem d52_29 : Dc q52 29 (.iconst 1) 1 := by decide +kernel
theorem d52_30 : Dc q52 30 .ishl 1 := by decide +kernel
theorem d52_31 : Dc q52 31 (.istore_n 1) 1 := by decide +kernel
theorem d52_32 : Dc q52 32 (.aload_n 0) 1 := by decide +kernel
theorem d52_33 : Dc q52 33 (.iload_n 1) 1 := by decide +kernel
theorem d52_34 : Dc q52 34 (.iinc 1 1) 3 := by decide +kernel
theorem d52_37 : Dc q52 37 (.iload_n 2) 1 := by decide +kernel
theorem d52_38 : Dc q52 38 (.getstatic 59) 3 := by decide +kernel
theorem d52_41 : Dc q52 41 .ishr 1 := by decide +kernel
theorem d52_42 : Dc q52 42 .i2b 1 := by decide +kernel
theorem d52_43 : Dc q52 43 .bastore 1 := by decide +kernel
theorem d52_44 : Dc q52 44 (.aload_n 0) 1 := by decide +kernel
theorem d52_45 : Dc q52 45 (.iload_n 1) 1 := by decide +kernel
theorem d52_46 : Dc q52 46 (.iload_n 2) 1 := by decide +kernel
theorem d52_47 : Dc q52 47 (.getstatic 63) 3 := by decide +kernel
theorem d52_50 : Dc q52 50 .ishr 1 := by decide +kernel
theorem d52_51 : Dc q52 51 .i2b 1 := by decide +kernel
theorem d52_52 : Dc q52 52 .bastore 1 := by decide +kernel
theorem d52_53 : Dc q52 53 .return_ 1 := by decide +kernel
theorem d53_0 : Dc q53 0 (.getstatic 44) 3 := by decide +kernel
theorem d53_3 : Dc q53 3 (.ifCond .ne 25) 3 := by decide +kernel
theorem d53_28 : Dc q53 28 (.iload_n 1) 1 := by decide +kernel
theorem d53_29 : Dc q53 29 (.iconst 1) 1 := by decide +kernel
theorem d53_30 : Dc q53 30 .ishl 1 := by decide +kernel
theorem d53_31 : Dc q53 31 (.istore_n 1) 1 := by decide +kernel
theorem d53_32 : Dc q53 32 (.aload_n 0) 1 := by decide +kernel
theorem d53_33 : Dc q53 33 (.iload_n 1) 1 := by decide +kernel
theorem d53_34 : Dc q53 34 (.iinc 1 1) 3 := by decide +kernel
theorem d53_37 : Dc q53 37 .baload 1 := by decide +kernel
theorem d53_38 : Dc q53 38 (.sipush 255) 3 := by decide +kernel
theorem d53_41 : Dc q53 41 .iand 1 := by decide +kernel
theorem d53_42 : Dc q53 42 (.getstatic 59) 3 := by decide +kernel
theorem d53_45 : Dc q53 45 .ishl 1 := by decide +kernel
theorem d53_46 : Dc q53 46 (.aload_n 0) 1 := by decide +kernel
theorem d53_47 : Dc q53 47 (.iload_n 1) 1 := by decide +kernel
theorem d53_48 : Dc q53 48 .baload 1 := by decide +kernel
theorem d53_49 : Dc q53 49 (.sipush 255) 3 := by decide +kernel
theorem d53_52 : Dc q53 52 .iand 1 := by decide +kernel
theorem d53_53 : Dc q53 53 (.getstatic 63) 3 := by decide +kernel
theorem d53_56 : Dc q53 56 .ishl 1 := by decide +kernel
theorem d53_57 : Dc q53 57 .ior 1 := by decide +kernel
theorem d53_58 : Dc q53 58 .i2c 1 := by decide +kernel
theorem d53_59 : Dc q53 59 .ireturn 1 := by decide +kernel
theorem d64_0 : Dc q64 0 (.iload_n 0) 1 := by decide +kernel
theorem d64_1 : Dc q64 1 (.aload_n 1) 1 := by decide +kernel
theorem d64_2 : Dc q64 2 (.invokestatic 48) 3 := by decide +kernel
theorem d64_5 : Dc q64 5 (.invokestatic 414) 3 := by decide +kernel
theorem d64_8 : Dc q64 8 .return_ 1 := by decide +kernel
theorem pd_1 : parseMethodDescriptor "([B)I" = some ⟨[(.array .byte)], some .int⟩ := by decide +kernel
theorem pd_2 : parseMethodDescriptor "(II)V" = some ⟨[.int, .int], none⟩ := by decide +kernel
theorem d59_0 : Dc q59 0 (.iload_n 2) 1 := by decide +kernel
theorem d59_1 : Dc q59 1 (.iload_n 0) 1 := by decide +kernel
theorem d59_2 : Dc q59 2 .ior 1 := by decide +kernel
theorem d59_3 : Dc q59 3 (.iload_n 1) 1 := by decide +kernel
theorem d59_4 : Dc q59 4 .ior 1 := by decide +kernel
theorem d59_5 : Dc q59 5 (.ifCond .lt 10) 3 := by decide +kernel
theorem d59_8 : Dc q59 8 (.iload_n 1) 1 := by decide +kernel
theorem d59_9 : Dc q59 9 (.iload_n 2) 1 := by decide +kernel
theorem d59_10 : Dc q59 10 (.iload_n 0) 1 := by decide +kernel
theorem d59_11 : Dc q59 11 .isub 1 := by decide +kernel
theorem d59_12 : Dc q59 12 (.if_icmp .le 11) 3 := by decide +kernel
theorem d59_23 : Dc q59 23 (.iload_n 0) 1 := by decide +kernel
theorem d59_24 : Dc q59 24 .ireturn 1 := by decide +kernel
theorem d58_0 : Dc q58 0 (.iload_n 0) 1 := by decide +kernel
theorem d58_1 : Dc q58 1 (.iload_n 1) 1 := by decide +kernel
theorem d58_2 : Dc q58 2 (.iload_n 2) 1 := by decide +kernel
theorem d58_3 : Dc q58 3 (.getstatic 1053) 3 := by decide +kernel
theorem d58_6 : Dc q58 6 (.invokestatic 1065) 3 := by decide +kernel
theorem d58_9 : Dc q58 9 .ireturn 1 := by decide +kernel
theorem pd_3 : parseMethodDescriptor "(IIILjava/util/function/BiFunction;)I" = some ⟨[.int, .int, .int, (.object "java/util/function/BiFunction")], some .int⟩ := by decide +kernel
theorem d56_0 : Dc q56 0 (.iload_n 0) 1 := by decide +kernel
theorem d56_1 : Dc q56 1 (.iload_n 1) 1 := by decide +kernel
theorem d56_2 : Dc q56 2 (.aload_n 2) 1 := by decide +kernel
theorem d56_3 : Dc q56 3 (.invokestatic 48) 3 := by decide +kernel
theorem d56_6 : Dc q56 6 (.invokestatic 419) 3 := by decide +kernel
theorem d56_9 : Dc q56 9 .pop 1 := by decide +kernel
theorem d56_10 : Dc q56 10 .return_ 1 := by decide +kernel
theorem pd_4 : parseMethodDescriptor "(III)I" = some ⟨[.int, .int, .int], some .int⟩ := by decide +kernel
theorem d63_0 : Dc q63 0 (.iload_n 1) 1 := by decide +kernel
theorem d63_1 : Dc q63 1 (.aload_n 0) 1 := by decide +kernel
theorem d63_2 : Dc q63 2 (.invokestatic 67) 3 := by decide +kernel
theorem d63_5 : Dc q63 5 (.aload_n 0) 1 := by decide +kernel
theorem d63_6 : Dc q63 6 (.iload_n 1) 1 := by decide +kernel
theorem d63_7 : Dc q63 7 (.iload_n 2) 1 := by decide +kernel
theorem d63_8 : Dc q63 8 (.invokestatic 111) 3 := by decide +kernel
theorem d63_11 : Dc q63 11 .return_ 1 := by decide +kernel
theorem pd_5 : parseMethodDescriptor "(I[B)V" = some ⟨[.int, (.array .byte)], none⟩ := by decide +kernel
theorem pd_6 : parseMethodDescriptor "([BII)V" = some ⟨[(.array .byte), .int, .int], none⟩ := by decide +kernel
theorem own_i0 : (0 : Int32).toNatClampNeg = 0 := rfl
theorem own_cp {α : Type} {dv : α} {vs R : List α} {n : Nat} (i : Nat) (hi : i < n) : vs.getD i dv = (R.take (0 : Int32).toNatClampNeg ++ ((List.range n).map fun i => vs.getD ((0 : Int32).toNatClampNeg + i) dv) ++ R.drop ((0 : Int32).toNatClampNeg + n)).getD i dv := by
  simp only [own_i0, List.take_zero, List.nil_append, Nat.zero_add]
  rw [List.getD_eq_getElem?_getD (l := _ ++ _), List.getElem?_append_left (by simpa using hi)]
  simp [hi]
theorem own_sh0 (n : Int32) : n <<< ((0 : Int32) &&& 31) = n := by
  have e : ((0 : Int32) &&& 31) = 0 := by decide
  rw [e]; simp
theorem own_cp2 {α : Type} {dv : α} {vs : List α} {n N pd : Nat} (hl : vs.length ≤ n) (i : Nat) (hi : i < N) : (vs ++ List.replicate pd dv).getD i dv = ((List.replicate N dv).take (0 : Int32).toNatClampNeg ++ ((List.range n).map fun i => vs.getD ((0 : Int32).toNatClampNeg + i) dv) ++ (List.replicate N dv).drop ((0 : Int32).toNatClampNeg + n)).getD i dv := by
  simp only [own_i0, List.take_zero, List.nil_append, Nat.zero_add]
  have e1 : (vs ++ List.replicate pd dv).getD i dv = vs.getD i dv := by
    simp only [List.getD_eq_getElem?_getD]
    by_cases q : i < vs.length
    · rw [List.getElem?_append_left q]
    · rw [List.getElem?_append_right (Nat.le_of_not_lt q), List.getElem?_eq_none (Nat.le_of_not_lt q), List.getElem?_replicate]; split <;> rfl
  rw [e1]
  by_cases q : i < n
  · rw [List.getD_eq_getElem?_getD (l := _ ++ _), List.getElem?_append_left (by simpa using q)]
    simp [q]
  · rw [List.getD_eq_getElem?_getD (l := _ ++ _), List.getElem?_append_right (by simpa using q)]
    rw [List.getD_eq_getElem?_getD, List.getElem?_eq_none (by omega)]
    simp only [List.length_map, List.length_range, List.getElem?_drop, List.getElem?_replicate]
    split <;> rfl
theorem own_le {p q : Int32} (h : ¬ q < p) (h0 : ¬ p < 0) : (0 : Int32).toNatClampNeg + p.toNatClampNeg ≤ q.toNatClampNeg := by
  rw [own_i0, Nat.zero_add]
  rw [Int32.lt_iff_toInt_lt] at h h0
  have e0 : (0 : Int32).toInt = 0 := rfl
  simp only [Int32.toNatClampNeg]
  omega
theorem own_mz {m z : Int32} (h : m < z) (h0 : ¬ m < 0) : (0 : Int32).toNatClampNeg + m.toNatClampNeg ≤ z.toNatClampNeg := by
  rw [own_i0, Nat.zero_add]
  rw [Int32.lt_iff_toInt_lt] at h h0
  have e0 : (0 : Int32).toInt = 0 := rfl
  simp only [Int32.toNatClampNeg]
  omega
theorem own_l0 (k : Nat) (h : k ≤ 6) : (Int32.ofNat k >>> ((0 : Int32) &&& 31)) = Int32.ofNat k := by
  have : ∀ k : Fin 7, (Int32.ofNat k.val >>> ((0 : Int32) &&& 31)) = Int32.ofNat k.val := by decide +kernel
  exact this ⟨k, Nat.lt_succ_of_le h⟩
theorem own_l1 (k : Nat) (h : k ≤ 6) : (Int32.ofNat (2 * k) >>> ((1 : Int32) &&& 31)) = Int32.ofNat k := by
  have : ∀ k : Fin 7, (Int32.ofNat (2 * k.val) >>> ((1 : Int32) &&& 31)) = Int32.ofNat k.val := by decide +kernel
  exact this ⟨k, Nat.lt_succ_of_le h⟩
theorem own_lt (p k : Nat) (h : p < k) (hk : k ≤ 12) : Int32.ofNat p < Int32.ofNat k := by
  have : ∀ k : Fin 13, ∀ p : Fin 13, p < k → Int32.ofNat p.val < Int32.ofNat k.val := by decide +kernel
  exact this ⟨k, Nat.lt_succ_of_le hk⟩ ⟨p, by omega⟩ h
theorem own_u1 (k n : Nat) (h : n ≤ 6) (hk : k < n) : Int32.ofNat k < (Int32.ofNat (2 * n) >>> ((1 : Int32) &&& 31)) := by rw [own_l1 n h]; exact own_lt k n hk (by omega)
theorem u16get {α : Type} {f g : Int32 → α} {d : α} : ∀ (E : List Int32) (p : Nat) (c : Int32), p < E.length → E.getD p 0 = c → (E.flatMap fun e => [f e, g e]).getD (2 * p) d = f c ∧ (E.flatMap fun e => [f e, g e]).getD (2 * p + 1) d = g c
  | [], _, _, h, _ => absurd h (Nat.not_lt_zero _)
  | e :: E, 0, c, _, q => by
    have q : e = c := by simpa using q
    subst q; simp
  | e :: E, p + 1, c, h, q => by
    have := u16get (f := f) (g := g) (d := d) E p c (Nat.lt_of_succ_lt_succ h) (by simpa using q)
    rw [show 2 * (p + 1) = 2 * p + 1 + 1 from by omega]
    simpa using this
theorem u16flen {α : Type} {f g : Int32 → α} (E : List Int32) : (E.flatMap fun e => [f e, g e]).length = 2 * E.length := by
  induction E with
  | nil => rfl
  | cons e E ih => simp only [List.flatMap_cons, List.length_append, ih, List.length_cons, List.length_nil]; omega
theorem mapget {α : Type} {f : Int32 → α} {d : α} (E : List Int32) (p : Nat) (c : Int32) (h : p < E.length) (q : E.getD p 0 = c) : (E.map f).getD p d = f c := by
  rw [List.getD_eq_getElem?_getD] at q ⊢
  rw [List.getElem?_map, List.getElem?_eq_getElem h] at *
  simp at q ⊢; rw [q]
theorem own_drop {E : List Int32} {p : Nat} (h : p < E.length) : E.drop p = E.getD p 0 :: E.drop (p + 1) := by
  rw [List.drop_eq_getElem_cons h, List.getD_eq_getElem?_getD, List.getElem?_eq_getElem h]; rfl
abbrev Spc (c : Int32) : Prop := c = 92 ∨ c = 9 ∨ c = 10 ∨ c = 13
def cde (c : Int32) : Int32 := if c = 92 then 92 else if c = 9 then 116 else if c = 10 then 110 else 114
def esc (c : Int32) : List Int32 := if Spc c then [92, cde c] else [c]
def escs (cs : List Int32) : List Int32 := cs.flatMap esc
def wd (c : Int32) : Int32 := if Spc c then 2 else 1
theorem esc_S {c k q : Int32} (h : c = k) (hs : Spc k) (e : cde k = q) : esc c = [92, q] := by subst h; subst e; simp [esc, hs]
theorem esc_N {c : Int32} (h1 : ¬ c = 9) (h2 : ¬ c = 10) (h3 : ¬ c = 13) (h4 : ¬ c = 92) : esc c = [c] := by simp [esc, Spc, h1, h2, h3, h4]
theorem esc_go {es cs rs l E : List Int32} {c : Int32} (h : es ++ escs cs = E) (hc : cs = c :: rs) (e : esc c = l) : (es ++ l) ++ escs rs = E := by
  subst hc; subst e; rw [← h]; simp [escs]
theorem escs_len : ∀ (cs : List Int32), (escs cs).length ≤ 2 * cs.length
  | [] => by simp [escs]
  | c :: cs => by
    have := escs_len cs
    have h2 : (esc c).length ≤ 2 := by unfold esc; split <;> simp
    simp only [escs, List.flatMap_cons, List.length_append, List.length_cons] at *
    omega
theorem escs_w1 (c : Int32) : Int32.ofNat (escs [c]).length = wd c := by
  by_cases h : Spc c <;> simp [escs, esc, wd, h]
theorem escs_w2 (c d : Int32) : Int32.ofNat (escs [c, d]).length = wd c + wd d := by
  by_cases h : Spc c <;> by_cases g : Spc d <;> simp [escs, esc, wd, h, g]
theorem escs_w3 (c d e : Int32) : Int32.ofNat (escs [c, d, e]).length = wd c + wd d + wd e := by
  by_cases h : Spc c <;> by_cases g : Spc d <;> by_cases k : Spc e <;> simp [escs, esc, wd, h, g, k]
theorem own_memD {E : List Int32} {p : Nat} {c : Int32} (h : p < E.length) (q : E.getD p 0 = c) : c ∈ E := by
  rw [List.getD_eq_getElem?_getD, List.getElem?_eq_getElem h] at q
  exact q ▸ List.getElem_mem h
theorem own_ofs (q : Nat) (h : q ≤ 6) : (¬ Int32.ofNat q < (0 : Int32)) ∧ (Int32.ofNat q).toNatClampNeg = q ∧ (Int32.ofNat q <<< ((1 : Int32) &&& 31)) = Int32.ofNat (2 * q) ∧ (Int32.ofNat (2 * q) + (1 : Int32)) = Int32.ofNat (2 * q + 1) ∧ (¬ Int32.ofNat (2 * q) < (0 : Int32)) ∧ (¬ Int32.ofNat (2 * q + 1) < (0 : Int32)) ∧ 2 * q = (Int32.ofNat (2 * q)).toNatClampNeg ∧ 2 * q + 1 = (Int32.ofNat (2 * q + 1)).toNatClampNeg := by
  have : ∀ q : Fin 7, (¬ Int32.ofNat q.val < (0 : Int32)) ∧ (Int32.ofNat q.val).toNatClampNeg = q.val ∧ (Int32.ofNat q.val <<< ((1 : Int32) &&& 31)) = Int32.ofNat (2 * q.val) ∧ (Int32.ofNat (2 * q.val) + (1 : Int32)) = Int32.ofNat (2 * q.val + 1) ∧ (¬ Int32.ofNat (2 * q.val) < (0 : Int32)) ∧ (¬ Int32.ofNat (2 * q.val + 1) < (0 : Int32)) ∧ 2 * q.val = (Int32.ofNat (2 * q.val)).toNatClampNeg ∧ 2 * q.val + 1 = (Int32.ofNat (2 * q.val + 1)).toNatClampNeg := by decide +kernel
  exact this ⟨q, Nat.lt_succ_of_le h⟩
theorem own_of1 (q : Nat) (h : q ≤ 6) : Int32.ofNat q + (1 : Int32) = Int32.ofNat (q + 1) := by
  have : ∀ q : Fin 7, Int32.ofNat q.val + (1 : Int32) = Int32.ofNat (q.val + 1) := by decide +kernel
  exact this ⟨q, Nat.lt_succ_of_le h⟩
theorem own_atS {E r : List Int32} {q : Nat} {c : Int32} (hd : E.drop q = esc c ++ r) (hs : Spc c) : q < E.length ∧ E.getD q 0 = 92 ∧ q + 1 < E.length ∧ E.getD (q + 1) 0 = cde c := by
  have e : E.drop q = 92 :: cde c :: r := by rw [hd]; simp [esc, hs]
  have l : E.length - q = r.length + 2 := by rw [← List.length_drop, e]; rfl
  have g0 : E[q]? = some 92 := by have := congrArg (fun L => L[0]?) e; simpa using this
  have g1 : E[q + 1]? = some (cde c) := by have := congrArg (fun L => L[1]?) e; simpa using this
  refine ⟨by omega, ?_, by omega, ?_⟩
  · rw [List.getD_eq_getElem?_getD, g0]; rfl
  · rw [List.getD_eq_getElem?_getD, g1]; rfl
theorem own_atN {E r : List Int32} {q : Nat} {c : Int32} (hd : E.drop q = esc c ++ r) (hs : ¬ Spc c) : q < E.length ∧ E.getD q 0 = c := by
  have e : E.drop q = c :: r := by rw [hd]; simp [esc, hs]
  have l : E.length - q = r.length + 1 := by rw [← List.length_drop, e]; rfl
  have g0 : E[q]? = some c := by have := congrArg (fun L => L[0]?) e; simpa using this
  refine ⟨by omega, ?_⟩
  rw [List.getD_eq_getElem?_getD, g0]; rfl
theorem wd_len (c : Int32) : wd c = Int32.ofNat (esc c).length := by by_cases h : Spc c <;> simp [wd, esc, h]
theorem wd_len2 (c d : Int32) : wd c + wd d = Int32.ofNat ((esc c).length + (esc d).length) := by by_cases h : Spc c <;> by_cases g : Spc d <;> simp [wd, esc, h, g]
theorem own_and3b (x : Int32) : 0 ≤ (x &&& (3 : Int32)).toInt ∧ (x &&& (3 : Int32)).toInt < 4 := by
  have h : (x &&& (3 : Int32)).toBitVec.toNat ≤ 3 := by
    rw [Int32.toBitVec_and, BitVec.toNat_and]
    exact Nat.and_le_right
  have e : (x &&& (3 : Int32)).toInt = ((x &&& (3 : Int32)).toBitVec.toNat : Int) := by
    show (x &&& (3 : Int32)).toBitVec.toInt = _
    rw [BitVec.toInt_eq_toNat_of_lt (by omega)]
  omega

theorem d51_0 : Dc q51 0 (.iload_n 0) 1 := by decide +kernel
theorem d51_1 : Dc q51 1 (.ifCond .ge 11) 3 := by decide +kernel
theorem d51_12 : Dc q51 12 (.iload_n 0) 1 := by decide +kernel
theorem d51_13 : Dc q51 13 (.ldc 20) 2 := by decide +kernel
theorem d51_15 : Dc q51 15 (.if_icmp .lt 40) 3 := by decide +kernel
theorem d51_55 : Dc q51 55 (.iload_n 0) 1 := by decide +kernel
theorem d51_56 : Dc q51 56 (.iconst 1) 1 := by decide +kernel
theorem d51_57 : Dc q51 57 .ishl 1 := by decide +kernel
theorem d51_58 : Dc q51 58 .ireturn 1 := by decide +kernel
theorem d50_0 : Dc q50 0 (.iload_n 0) 1 := by decide +kernel
theorem d50_1 : Dc q50 1 (.invokestatic 11) 3 := by decide +kernel
theorem d50_4 : Dc q50 4 (.newarray .byte) 2 := by decide +kernel
theorem d50_6 : Dc q50 6 .areturn 1 := by decide +kernel
theorem pd_7 : parseMethodDescriptor "(I)I" = some ⟨[.int], some .int⟩ := by decide +kernel
theorem d62_0 : Dc q62 0 (.iload_n 3) 1 := by decide +kernel
theorem d62_1 : Dc q62 1 (.iload 4) 2 := by decide +kernel
theorem d62_3 : Dc q62 3 (.aload_n 2) 1 := by decide +kernel
theorem d62_4 : Dc q62 4 (.invokestatic 173) 3 := by decide +kernel
theorem d62_7 : Dc q62 7 (.iconst 0) 1 := by decide +kernel
theorem d62_8 : Dc q62 8 (.istore 5) 2 := by decide +kernel
theorem d62_10 : Dc q62 10 (.iload 5) 2 := by decide +kernel
theorem d62_12 : Dc q62 12 (.iload 4) 2 := by decide +kernel
theorem d62_14 : Dc q62 14 (.if_icmp .ge 27) 3 := by decide +kernel
theorem d62_41 : Dc q62 41 .return_ 1 := by decide +kernel
theorem pd_8 : parseMethodDescriptor "(II[B)V" = some ⟨[.int, .int, (.array .byte)], none⟩ := by decide +kernel
theorem d61_0 : Dc q61 0 (.aload_n 0) 1 := by decide +kernel
theorem d61_1 : Dc q61 1 (.iload_n 1) 1 := by decide +kernel
theorem d61_2 : Dc q61 2 (.aload_n 2) 1 := by decide +kernel
theorem d61_3 : Dc q61 3 (.iload_n 3) 1 := by decide +kernel
theorem d61_4 : Dc q61 4 (.iload 4) 2 := by decide +kernel
theorem d61_6 : Dc q61 6 (.invokestatic 240) 3 := by decide +kernel
theorem d61_9 : Dc q61 9 .return_ 1 := by decide +kernel
theorem pd_9 : parseMethodDescriptor "([BI[BII)V" = some ⟨[(.array .byte), .int, (.array .byte), .int, .int], none⟩ := by decide +kernel
theorem pn_3 : plainName "java/lang/StringLatin1" = true := by first | (simp [plainName, overriddenIn]; done) | decide +kernel
theorem d62_17 : Dc q62 17 (.aload_n 2) 1 := by decide +kernel
theorem d62_18 : Dc q62 18 (.iload_n 3) 1 := by decide +kernel
theorem d62_19 : Dc q62 19 (.iinc 3 1) 3 := by decide +kernel
theorem d62_22 : Dc q62 22 (.aload_n 0) 1 := by decide +kernel
theorem d62_23 : Dc q62 23 (.iload_n 1) 1 := by decide +kernel
theorem d62_24 : Dc q62 24 (.iinc 1 1) 3 := by decide +kernel
theorem d62_27 : Dc q62 27 .baload 1 := by decide +kernel
theorem d62_28 : Dc q62 28 (.sipush 255) 3 := by decide +kernel
theorem d62_31 : Dc q62 31 .iand 1 := by decide +kernel
theorem d62_32 : Dc q62 32 (.invokestatic 111) 3 := by decide +kernel
theorem d62_35 : Dc q62 35 (.iinc 5 1) 3 := by decide +kernel
theorem d62_38 : Dc q62 38 (.goto (-28)) 3 := by decide +kernel
theorem d20_0 : Dc q20 0 (.getstatic 18) 3 := by decide +kernel
theorem d20_3 : Dc q20 3 (.ifCond .eq 14) 3 := by decide +kernel
theorem d20_6 : Dc q20 6 (.aload_n 0) 1 := by decide +kernel
theorem d20_7 : Dc q20 7 (.getfield 22) 3 := by decide +kernel
theorem d20_10 : Dc q20 10 (.ifCond .ne 7) 3 := by decide +kernel
theorem d20_13 : Dc q20 13 (.iconst 1) 1 := by decide +kernel
theorem d20_14 : Dc q20 14 (.goto 4) 3 := by decide +kernel
theorem d20_18 : Dc q20 18 .ireturn 1 := by decide +kernel
theorem pn_4 : plainName "java/lang/AbstractStringBuilder" = true := by first | (simp [plainName, overriddenIn]; done) | decide +kernel
theorem d20_17 : Dc q20 17 (.iconst 0) 1 := by decide +kernel
theorem d60_0 : Dc q60 0 (.aload_n 0) 1 := by decide +kernel
theorem d60_1 : Dc q60 1 (.invokevirtual 83) 3 := by decide +kernel
theorem d60_4 : Dc q60 4 (.ifCond .ne 4) 3 := by decide +kernel
theorem d60_8 : Dc q60 8 (.aload_n 0) 1 := by decide +kernel
theorem d60_9 : Dc q60 9 (.getfield 15) 3 := by decide +kernel
theorem d60_12 : Dc q60 12 .arraylength 1 := by decide +kernel
theorem d60_13 : Dc q60 13 (.invokestatic 26) 3 := by decide +kernel
theorem d60_16 : Dc q60 16 (.astore_n 1) 1 := by decide +kernel
theorem d60_17 : Dc q60 17 (.aload_n 0) 1 := by decide +kernel
theorem d60_18 : Dc q60 18 (.getfield 15) 3 := by decide +kernel
theorem d60_21 : Dc q60 21 (.iconst 0) 1 := by decide +kernel
theorem d60_22 : Dc q60 22 (.aload_n 1) 1 := by decide +kernel
theorem d60_23 : Dc q60 23 (.iconst 0) 1 := by decide +kernel
theorem d60_24 : Dc q60 24 (.aload_n 0) 1 := by decide +kernel
theorem d60_25 : Dc q60 25 (.getfield 79) 3 := by decide +kernel
theorem d60_28 : Dc q60 28 (.invokestatic 125) 3 := by decide +kernel
theorem d60_31 : Dc q60 31 (.aload_n 0) 1 := by decide +kernel
theorem d60_32 : Dc q60 32 (.aload_n 1) 1 := by decide +kernel
theorem d60_33 : Dc q60 33 (.putfield 15) 3 := by decide +kernel
theorem d60_36 : Dc q60 36 (.aload_n 0) 1 := by decide +kernel
theorem d60_37 : Dc q60 37 (.iconst 1) 1 := by decide +kernel
theorem d60_38 : Dc q60 38 (.putfield 22) 3 := by decide +kernel
theorem d60_41 : Dc q60 41 .return_ 1 := by decide +kernel
theorem sn_0 {Z : State} {a0 : Array Value} (hw : ∀ d ∈ tables_1, d.before a0 Z = true) : Jvm.RoadKit.slotOf Z "java/lang/AbstractStringBuilder" "coder" "B" ≠ Jvm.RoadKit.slotOf Z "java/lang/AbstractStringBuilder" "value" "[B" := slot_ne (Or.inl (ww hw 60 rfl)) (Or.inl (ww hw 58 rfl)) (by decide) (t := .byte) (t' := (.array .byte)) (by decide) (by decide)
theorem sn_1 {Z : State} {a0 : Array Value} (hw : ∀ d ∈ tables_1, d.before a0 Z = true) : Jvm.RoadKit.slotOf Z "java/lang/AbstractStringBuilder" "value" "[B" ≠ Jvm.RoadKit.slotOf Z "java/lang/AbstractStringBuilder" "coder" "B" := slot_ne (Or.inl (ww hw 58 rfl)) (Or.inl (ww hw 60 rfl)) (by decide) (t := (.array .byte)) (t' := .byte) (by decide) (by decide)
theorem sn_2 {Z : State} {a0 : Array Value} (hw : ∀ d ∈ tables_1, d.before a0 Z = true) : Jvm.RoadKit.slotOf Z "java/lang/AbstractStringBuilder" "count" "I" ≠ Jvm.RoadKit.slotOf Z "java/lang/AbstractStringBuilder" "value" "[B" := slot_ne (Or.inl (ww hw 105 rfl)) (Or.inl (ww hw 58 rfl)) (by decide) (t := .int) (t' := (.array .byte)) (by decide) (by decide)
theorem sn_3 {Z : State} {a0 : Array Value} (hw : ∀ d ∈ tables_1, d.before a0 Z = true) : Jvm.RoadKit.slotOf Z "java/lang/AbstractStringBuilder" "count" "I" ≠ Jvm.RoadKit.slotOf Z "java/lang/AbstractStringBuilder" "coder" "B" := slot_ne (Or.inl (ww hw 105 rfl)) (Or.inl (ww hw 60 rfl)) (by decide) (t := .int) (t' := .byte) (by decide) (by decide)
theorem sn_4 {Z : State} {a0 : Array Value} (hw : ∀ d ∈ tables_1, d.before a0 Z = true) : Jvm.RoadKit.slotOf Z "java/lang/AbstractStringBuilder" "maybeLatin1" "Z" ≠ Jvm.RoadKit.slotOf Z "java/lang/AbstractStringBuilder" "value" "[B" := slot_ne (Or.inl (ww hw 300 rfl)) (Or.inl (ww hw 58 rfl)) (by decide) (t := .boolean) (t' := (.array .byte)) (by decide) (by decide)
theorem sn_5 {Z : State} {a0 : Array Value} (hw : ∀ d ∈ tables_1, d.before a0 Z = true) : Jvm.RoadKit.slotOf Z "java/lang/AbstractStringBuilder" "maybeLatin1" "Z" ≠ Jvm.RoadKit.slotOf Z "java/lang/AbstractStringBuilder" "coder" "B" := slot_ne (Or.inl (ww hw 300 rfl)) (Or.inl (ww hw 60 rfl)) (by decide) (t := .boolean) (t' := .byte) (by decide) (by decide)
theorem pd_10 : parseMethodDescriptor "()Z" = some ⟨[], some .boolean⟩ := by decide +kernel
theorem pd_11 : parseMethodDescriptor "(I)[B" = some ⟨[.int], some (.array .byte)⟩ := by decide +kernel
theorem d33_0 : Dc q33 0 (.iload_n 0) 1 := by decide +kernel
theorem d33_1 : Dc q33 1 (.iload_n 1) 1 := by decide +kernel
theorem d33_2 : Dc q33 2 (.if_icmp .lt 7) 3 := by decide +kernel
theorem d33_9 : Dc q33 9 (.iload_n 1) 1 := by decide +kernel
theorem d33_10 : Dc q33 10 .ireturn 1 := by decide +kernel
theorem d35_0 : Dc q35 0 (.iload_n 0) 1 := by decide +kernel
theorem d35_1 : Dc q35 1 (.iload_n 1) 1 := by decide +kernel
theorem d35_2 : Dc q35 2 (.if_icmp .gt 7) 3 := by decide +kernel
theorem d35_5 : Dc q35 5 (.iload_n 0) 1 := by decide +kernel
theorem d35_6 : Dc q35 6 (.goto 4) 3 := by decide +kernel
theorem d35_10 : Dc q35 10 .ireturn 1 := by decide +kernel
theorem d32_0 : Dc q32 0 (.iload_n 0) 1 := by decide +kernel
theorem d32_1 : Dc q32 1 (.iload_n 1) 1 := by decide +kernel
theorem d32_2 : Dc q32 2 (.iload_n 2) 1 := by decide +kernel
theorem d32_3 : Dc q32 3 (.invokestatic 194) 3 := by decide +kernel
theorem d32_6 : Dc q32 6 .iadd 1 := by decide +kernel
theorem d32_7 : Dc q32 7 (.istore_n 3) 1 := by decide +kernel
theorem d32_8 : Dc q32 8 (.iconst 0) 1 := by decide +kernel
theorem d32_9 : Dc q32 9 (.iload_n 3) 1 := by decide +kernel
theorem d32_10 : Dc q32 10 (.if_icmp .ge 11) 3 := by decide +kernel
theorem d32_13 : Dc q32 13 (.iload_n 3) 1 := by decide +kernel
theorem d32_14 : Dc q32 14 (.ldc 200) 2 := by decide +kernel
theorem d32_16 : Dc q32 16 (.if_icmp .gt 5) 3 := by decide +kernel
theorem d32_19 : Dc q32 19 (.iload_n 3) 1 := by decide +kernel
theorem d32_20 : Dc q32 20 .ireturn 1 := by decide +kernel
theorem pd_12 : parseMethodDescriptor "(II)I" = some ⟨[.int, .int], some .int⟩ := by decide +kernel
theorem pn_5 : plainName "jdk/internal/util/ArraysSupport" = true := by first | (simp [plainName, overriddenIn]; done) | decide +kernel
theorem d34_0 : Dc q34 0 (.iload_n 1) 1 := by decide +kernel
theorem d34_1 : Dc q34 1 (.aload_n 0) 1 := by decide +kernel
theorem d34_2 : Dc q34 2 .arraylength 1 := by decide +kernel
theorem d34_3 : Dc q34 3 (.if_icmp .ne 11) 3 := by decide +kernel
theorem d34_14 : Dc q34 14 (.iload_n 1) 1 := by decide +kernel
theorem d34_15 : Dc q34 15 (.newarray .byte) 2 := by decide +kernel
theorem d34_17 : Dc q34 17 (.astore_n 2) 1 := by decide +kernel
theorem d34_18 : Dc q34 18 (.aload_n 0) 1 := by decide +kernel
theorem d34_19 : Dc q34 19 (.iconst 0) 1 := by decide +kernel
theorem d34_20 : Dc q34 20 (.aload_n 2) 1 := by decide +kernel
theorem d34_21 : Dc q34 21 (.iconst 0) 1 := by decide +kernel
theorem d34_22 : Dc q34 22 (.aload_n 0) 1 := by decide +kernel
theorem d34_23 : Dc q34 23 .arraylength 1 := by decide +kernel
theorem d34_24 : Dc q34 24 (.iload_n 1) 1 := by decide +kernel
theorem d34_25 : Dc q34 25 (.invokestatic 304) 3 := by decide +kernel
theorem d34_28 : Dc q34 28 (.invokestatic 150) 3 := by decide +kernel
theorem d34_31 : Dc q34 31 (.aload_n 2) 1 := by decide +kernel
theorem d34_32 : Dc q34 32 .areturn 1 := by decide +kernel
theorem pn_6 : plainName "java/util/Arrays" = true := by first | (simp [plainName, overriddenIn]; done) | decide +kernel
theorem d31_0 : Dc q31 0 (.aload_n 0) 1 := by decide +kernel
theorem d31_1 : Dc q31 1 (.getfield 15) 3 := by decide +kernel
theorem d31_4 : Dc q31 4 .arraylength 1 := by decide +kernel
theorem d31_5 : Dc q31 5 (.istore_n 2) 1 := by decide +kernel
theorem d31_6 : Dc q31 6 (.iload_n 1) 1 := by decide +kernel
theorem d31_7 : Dc q31 7 (.aload_n 0) 1 := by decide +kernel
theorem d31_8 : Dc q31 8 (.getfield 22) 3 := by decide +kernel
theorem d31_11 : Dc q31 11 .ishl 1 := by decide +kernel
theorem d31_12 : Dc q31 12 (.istore_n 3) 1 := by decide +kernel
theorem d31_13 : Dc q31 13 (.iload_n 3) 1 := by decide +kernel
theorem d31_14 : Dc q31 14 (.iload_n 2) 1 := by decide +kernel
theorem d31_15 : Dc q31 15 .isub 1 := by decide +kernel
theorem d31_16 : Dc q31 16 (.istore 4) 2 := by decide +kernel
theorem d31_18 : Dc q31 18 (.iload_n 2) 1 := by decide +kernel
theorem d31_19 : Dc q31 19 (.iload 4) 2 := by decide +kernel
theorem d31_21 : Dc q31 21 (.iload_n 2) 1 := by decide +kernel
theorem d31_22 : Dc q31 22 (.iconst 2) 1 := by decide +kernel
theorem d31_23 : Dc q31 23 (.aload_n 0) 1 := by decide +kernel
theorem d31_24 : Dc q31 24 (.getfield 22) 3 := by decide +kernel
theorem d31_27 : Dc q31 27 .ishl 1 := by decide +kernel
theorem d31_28 : Dc q31 28 .iadd 1 := by decide +kernel
theorem d31_29 : Dc q31 29 (.invokestatic 114) 3 := by decide +kernel
theorem d31_32 : Dc q31 32 (.istore 5) 2 := by decide +kernel
theorem d31_34 : Dc q31 34 (.iload 5) 2 := by decide +kernel
theorem d31_36 : Dc q31 36 (.ldc 39) 2 := by decide +kernel
theorem d31_38 : Dc q31 38 (.if_icmp .ne 13) 3 := by decide +kernel
theorem d31_51 : Dc q31 51 (.iload 5) 2 := by decide +kernel
theorem d31_53 : Dc q31 53 (.aload_n 0) 1 := by decide +kernel
theorem d31_54 : Dc q31 54 (.getfield 22) 3 := by decide +kernel
theorem d31_57 : Dc q31 57 .ishr 1 := by decide +kernel
theorem d31_58 : Dc q31 58 .ireturn 1 := by decide +kernel
theorem d27_0 : Dc q27 0 (.aload_n 0) 1 := by decide +kernel
theorem d27_1 : Dc q27 1 (.getfield 15) 3 := by decide +kernel
theorem d27_4 : Dc q27 4 .arraylength 1 := by decide +kernel
theorem d27_5 : Dc q27 5 (.aload_n 0) 1 := by decide +kernel
theorem d27_6 : Dc q27 6 (.getfield 22) 3 := by decide +kernel
theorem d27_9 : Dc q27 9 .ishr 1 := by decide +kernel
theorem d27_10 : Dc q27 10 (.istore_n 2) 1 := by decide +kernel
theorem d27_11 : Dc q27 11 (.iload_n 1) 1 := by decide +kernel
theorem d27_12 : Dc q27 12 (.iload_n 2) 1 := by decide +kernel
theorem d27_13 : Dc q27 13 .isub 1 := by decide +kernel
theorem d27_14 : Dc q27 14 (.ifCond .le 24) 3 := by decide +kernel
theorem d27_17 : Dc q27 17 (.aload_n 0) 1 := by decide +kernel
theorem d27_18 : Dc q27 18 (.aload_n 0) 1 := by decide +kernel
theorem d27_19 : Dc q27 19 (.getfield 15) 3 := by decide +kernel
theorem d27_22 : Dc q27 22 (.aload_n 0) 1 := by decide +kernel
theorem d27_23 : Dc q27 23 (.iload_n 1) 1 := by decide +kernel
theorem d27_24 : Dc q27 24 (.invokevirtual 104) 3 := by decide +kernel
theorem d27_27 : Dc q27 27 (.aload_n 0) 1 := by decide +kernel
theorem d27_28 : Dc q27 28 (.getfield 22) 3 := by decide +kernel
theorem d27_31 : Dc q27 31 .ishl 1 := by decide +kernel
theorem d27_32 : Dc q27 32 (.invokestatic 108) 3 := by decide +kernel
theorem d27_35 : Dc q27 35 (.putfield 15) 3 := by decide +kernel
theorem d27_38 : Dc q27 38 .return_ 1 := by decide +kernel
theorem pd_13 : parseMethodDescriptor "([BI)[B" = some ⟨[(.array .byte), .int], some (.array .byte)⟩ := by decide +kernel
theorem own_rng {k : Int32} (h : ¬ (255 : Int32) < k) (hn : nar .char k = k) : ∃ n : Fin 256, k = Int32.ofNat n.val := by
  have e : k.toUInt32.toUInt16.toUInt32.toInt32 = k := hn
  have h1 : k.toInt ≤ 255 := by
    have := Int32.not_lt.mp h
    exact Int32.le_iff_toInt_le.mp this
  have h0 : 0 ≤ k.toInt := by
    rw [← e]
    generalize k.toUInt32.toUInt16 = u
    have hu : u.toNat < 65536 := u.toNat_lt
    have : (u.toUInt32.toInt32).toInt = (u.toNat : Int) := by
      show (u.toUInt32.toBitVec).toInt = _
      rw [BitVec.toInt_eq_toNat_of_lt (by show 2 * u.toUInt32.toNat < 2 ^ 32; rw [UInt16.toNat_toUInt32]; omega)]
      show ((u.toUInt32.toNat : Nat) : Int) = _
      rw [UInt16.toNat_toUInt32]
    omega
  refine ⟨⟨k.toInt.toNat, by omega⟩, Int32.toInt_inj.mp ?_⟩
  show k.toInt = (Int32.ofNat k.toInt.toNat).toInt
  rw [Int32.toInt_ofNat_small (by omega)]
  omega
theorem own_tab : ∀ n : Fin 256, ((Int32.ofNat n.val).toInt8.toInt32 &&& 255) = Int32.ofNat n.val := by decide +kernel
theorem own_b255 {k : Int32} (h : ¬ (255 : Int32) < k) (hn : nar .char k = k) : (k.toInt8.toInt32 &&& (255 : Int32)) = k := by
  obtain ⟨n, rfl⟩ := own_rng h hn
  exact own_tab n
abbrev by8 (c : Int32) : Value := .int c.toInt8.toInt32
abbrev loB (c : Int32) : Value := .int (c >>> ((0 : Int32) &&& 31)).toInt8.toInt32
abbrev hiB (c : Int32) : Value := .int (c >>> ((8 : Int32) &&& 31)).toInt8.toInt32
def encS : Nat → List Int32 → List Value
  | 0, es => es.map by8
  | _, es => es.flatMap fun e => [loB e, hiB e]
def enc (cd z : Nat) (es : List Int32) : List Value := encS cd es ++ List.replicate (z - (encS cd es).length) (.int 0)
def sts : Nat → Nat → List (Nat × Nat × Nat)
  | 0, 0 => [(0, 0, 0)]
  | 1, 0 => [(0, 1, 0)]
  | 1, 1 => [(1, 1, 0), (1, 2, 1), (2, 4, 0)]
  | 2, 0 => [(0, 2, 0)]
  | 2, 1 => [(1, 2, 0), (1, 4, 1), (2, 2, 0)]
  | 2, 2 => [(2, 2, 0), (2, 4, 1), (3, 6, 0), (3, 12, 1), (4, 6, 0)]
  | 3, 0 => [(0, 3, 0)]
  | 3, 1 => [(1, 3, 0), (1, 6, 1), (2, 3, 0)]
  | 3, 2 => [(2, 3, 0), (2, 6, 1), (3, 3, 0), (3, 6, 1), (4, 8, 0)]
  | 3, 3 => [(3, 3, 0), (3, 6, 1), (4, 8, 0), (4, 16, 1), (5, 8, 0), (5, 16, 1), (6, 8, 0)]
  | _, _ => []
def Bld (Z : State) (h : Heap) (a b : Addr) (m N i : Nat) (es : List Int32) : Prop := ∃ (z cd : Nat) (kb : ClassId), (es.length, z, cd) ∈ sts N i ∧ Fld Z h a "java/lang/AbstractStringBuilder" "value" "[B" (.ref b) ∧ Fld Z h a "java/lang/AbstractStringBuilder" "coder" "B" (.int (Int32.ofNat cd)) ∧ Fld Z h a "java/lang/AbstractStringBuilder" "count" "I" (.int (Int32.ofNat es.length)) ∧ Fld Z h a "java/lang/AbstractStringBuilder" "maybeLatin1" "Z" (.int 0) ∧ Arv Z h b kb .byte (Int32.ofNat z) (enc cd z es) (.int 0) ∧ Exa Z h b "[B" ∧ m ≤ a ∧ m ≤ b ∧ (cd = 0 → ∀ e ∈ es, ¬ (255 : Int32) < e) ∧ ∀ e ∈ es, nar .char e = e
def StrC (Z : State) (h : Heap) (r b : Addr) (E : List Int32) : Prop := ∃ (kb : ClassId) (cd : Nat), (cd = 0 ∨ cd = 1) ∧ Fld Z h r "java/lang/String" "coder" "B" (.int (Int32.ofNat cd)) ∧ Fld Z h r "java/lang/String" "value" "[B" (.ref b) ∧ Arv Z h b kb .byte (Int32.ofNat (encS cd E).length) (encS cd E) (.int 0) ∧ Exa Z h b "[B" ∧ (cd = 0 → ∀ e ∈ E, ¬ (255 : Int32) < e) ∧ (∀ e ∈ E, nar .char e = e) ∧ E.length ≤ 6
def Lit2 (Z : State) (h : Heap) (s b : Addr) (k : Int32) : Prop := ∃ kb : ClassId, Fld Z h s "java/lang/String" "coder" "B" (.int 0) ∧ Fld Z h s "java/lang/String" "value" "[B" (.ref b) ∧ Arv Z h b kb .byte 2 [by8 92, by8 k] (.int 0) ∧ Exa Z h b "[B"
section Preds
variable {Z : State} {h h' : Heap} {a b x' : Addr} {m N i sl : Nat} {es E : List Int32} {k : Int32} {ws : List Addr} {u : Value}
theorem Bld.ext (F : Bld Z h a b m N i es) (X : Ext h h') : Bld Z h' a b m N i es := by
  obtain ⟨z, cd, kb, q, f0, f1, f2, f3, A, x, r⟩ := F
  exact ⟨z, cd, kb, q, f0.ext X, f1.ext X, f2.ext X, f3.ext X, A.ext X, x.ext X, r⟩
theorem Bld.keep (F : Bld Z h a b m N i es) (K : Keep h h' ws) (na : a ∉ ws) (nb : b ∉ ws) : Bld Z h' a b m N i es := by
  obtain ⟨z, cd, kb, q, f0, f1, f2, f3, A, x, r⟩ := F
  exact ⟨z, cd, kb, q, f0.keep K na, f1.keep K na, f2.keep K na, f3.keep K na, A.keep K nb, x.keep K, r⟩
theorem Bld.other (F : Bld Z h a b m N i es) (W : Wr h h' x' sl u) (na : a ≠ x') (nb : b ≠ x') : Bld Z h' a b m N i es := by
  obtain ⟨z, cd, kb, q, f0, f1, f2, f3, A, x, r⟩ := F
  exact ⟨z, cd, kb, q, f0.other W (Or.inl na), f1.other W (Or.inl na), f2.other W (Or.inl na), f3.other W (Or.inl na), A.other W nb, x.wr W, r⟩
theorem Bld.lt0 (F : Bld Z h a b m N i es) : a < h.size := by obtain ⟨z, cd, kb, q, f0, r⟩ := F; exact f0.lt
theorem Bld.lt1 (F : Bld Z h a b m N i es) : b < h.size := by obtain ⟨z, cd, kb, q, f0, f1, f2, f3, A, r⟩ := F; exact A.lt
theorem Bld.ma (F : Bld Z h a b m N i es) : m ≤ a := by obtain ⟨z, cd, kb, q, f0, f1, f2, f3, A, x, p, r⟩ := F; exact p
theorem Bld.mb (F : Bld Z h a b m N i es) : m ≤ b := by obtain ⟨z, cd, kb, q, f0, f1, f2, f3, A, x, p, p2, r⟩ := F; exact p2
theorem StrC.ext (F : StrC Z h a b E) (X : Ext h h') : StrC Z h' a b E := by
  obtain ⟨kb, cd, q, f0, f1, A, x, r⟩ := F
  exact ⟨kb, cd, q, f0.ext X, f1.ext X, A.ext X, x.ext X, r⟩
theorem StrC.keep (F : StrC Z h a b E) (K : Keep h h' ws) (na : a ∉ ws) (nb : b ∉ ws) : StrC Z h' a b E := by
  obtain ⟨kb, cd, q, f0, f1, A, x, r⟩ := F
  exact ⟨kb, cd, q, f0.keep K na, f1.keep K na, A.keep K nb, x.keep K, r⟩
theorem StrC.other (F : StrC Z h a b E) (W : Wr h h' x' sl u) (na : a ≠ x') (nb : b ≠ x') : StrC Z h' a b E := by
  obtain ⟨kb, cd, q, f0, f1, A, x, r⟩ := F
  exact ⟨kb, cd, q, f0.other W (Or.inl na), f1.other W (Or.inl na), A.other W nb, x.wr W, r⟩
theorem StrC.lt0 (F : StrC Z h a b E) : a < h.size := by obtain ⟨kb, cd, q, f0, r⟩ := F; exact f0.lt
theorem StrC.lt1 (F : StrC Z h a b E) : b < h.size := by obtain ⟨kb, cd, q, f0, f1, A, r⟩ := F; exact A.lt
theorem Lit2.ext (F : Lit2 Z h a b k) (X : Ext h h') : Lit2 Z h' a b k := by
  obtain ⟨kb, f0, f1, A, x⟩ := F
  exact ⟨kb, f0.ext X, f1.ext X, A.ext X, x.ext X⟩
theorem Lit2.lt0 (F : Lit2 Z h a b k) : a < h.size := by obtain ⟨kb, f0, r⟩ := F; exact f0.lt
theorem Lit2.lt1 (F : Lit2 Z h a b k) : b < h.size := by obtain ⟨kb, f0, f1, A, r⟩ := F; exact A.lt
end Preds
theorem own_z2 {z : Int32} (h : z.toNatClampNeg = 2) : z = 2 := by
  apply Int32.toInt_inj.mp
  have e : z.toInt.toNat = 2 := h
  have e2 : (2 : Int32).toInt = 2 := by decide
  omega
theorem own_nle {Z : State} {n0 : Nat} {h : Heap} (o : Old Z n0 h) : n0 ≤ h.size := o.1 ▸ o.2.1
theorem own_all {P : Int32 → Prop} {es gs : List Int32} (h1 : ∀ e ∈ es, P e) (h2 : ∀ e ∈ gs, P e) : ∀ e ∈ es ++ gs, P e := fun e he => (List.mem_append.mp he).elim (h1 e) (h2 e)
theorem own_one {P : Int32 → Prop} {c : Int32} (h : P c) : ∀ e ∈ [c], P e := fun e he => (List.mem_singleton.mp he) ▸ h
theorem own_two {P : Int32 → Prop} {c d : Int32} (h : P c) (g : P d) : ∀ e ∈ [c, d], P e := fun e he => (List.mem_cons.mp he).elim (fun q => q ▸ h) (own_one g e)
theorem sts_0_0 {n z cd : Nat} (h : (n, z, cd) ∈ sts 0 0) : (n = 0 ∧ z = 0 ∧ cd = 0) := by simpa [sts] using h
theorem sts_1_0 {n z cd : Nat} (h : (n, z, cd) ∈ sts 1 0) : (n = 0 ∧ z = 1 ∧ cd = 0) := by simpa [sts] using h
theorem sts_1_1 {n z cd : Nat} (h : (n, z, cd) ∈ sts 1 1) : (n = 1 ∧ z = 1 ∧ cd = 0) ∨ (n = 1 ∧ z = 2 ∧ cd = 1) ∨ (n = 2 ∧ z = 4 ∧ cd = 0) := by simpa [sts] using h
theorem sts_2_0 {n z cd : Nat} (h : (n, z, cd) ∈ sts 2 0) : (n = 0 ∧ z = 2 ∧ cd = 0) := by simpa [sts] using h
theorem sts_2_1 {n z cd : Nat} (h : (n, z, cd) ∈ sts 2 1) : (n = 1 ∧ z = 2 ∧ cd = 0) ∨ (n = 1 ∧ z = 4 ∧ cd = 1) ∨ (n = 2 ∧ z = 2 ∧ cd = 0) := by simpa [sts] using h
theorem sts_2_2 {n z cd : Nat} (h : (n, z, cd) ∈ sts 2 2) : (n = 2 ∧ z = 2 ∧ cd = 0) ∨ (n = 2 ∧ z = 4 ∧ cd = 1) ∨ (n = 3 ∧ z = 6 ∧ cd = 0) ∨ (n = 3 ∧ z = 12 ∧ cd = 1) ∨ (n = 4 ∧ z = 6 ∧ cd = 0) := by simpa [sts] using h
theorem sts_3_0 {n z cd : Nat} (h : (n, z, cd) ∈ sts 3 0) : (n = 0 ∧ z = 3 ∧ cd = 0) := by simpa [sts] using h
theorem sts_3_1 {n z cd : Nat} (h : (n, z, cd) ∈ sts 3 1) : (n = 1 ∧ z = 3 ∧ cd = 0) ∨ (n = 1 ∧ z = 6 ∧ cd = 1) ∨ (n = 2 ∧ z = 3 ∧ cd = 0) := by simpa [sts] using h
theorem sts_3_2 {n z cd : Nat} (h : (n, z, cd) ∈ sts 3 2) : (n = 2 ∧ z = 3 ∧ cd = 0) ∨ (n = 2 ∧ z = 6 ∧ cd = 1) ∨ (n = 3 ∧ z = 3 ∧ cd = 0) ∨ (n = 3 ∧ z = 6 ∧ cd = 1) ∨ (n = 4 ∧ z = 8 ∧ cd = 0) := by simpa [sts] using h
theorem sts_3_3 {n z cd : Nat} (h : (n, z, cd) ∈ sts 3 3) : (n = 3 ∧ z = 3 ∧ cd = 0) ∨ (n = 3 ∧ z = 6 ∧ cd = 1) ∨ (n = 4 ∧ z = 8 ∧ cd = 0) ∨ (n = 4 ∧ z = 16 ∧ cd = 1) ∨ (n = 5 ∧ z = 8 ∧ cd = 0) ∨ (n = 5 ∧ z = 16 ∧ cd = 1) ∨ (n = 6 ∧ z = 8 ∧ cd = 0) := by simpa [sts] using h
theorem len_0 {es : List Int32} (h : es.length = 0) : es = [] := by
  match es, h with
  | [], _ => exact rfl
theorem len_1 {es : List Int32} (h : es.length = 1) : ∃ e0 : Int32, es = [e0] := by
  match es, h with
  | [e0], _ => exact ⟨e0, rfl⟩
theorem len_2 {es : List Int32} (h : es.length = 2) : ∃ e0 e1 : Int32, es = [e0, e1] := by
  match es, h with
  | [e0, e1], _ => exact ⟨e0, e1, rfl⟩
theorem len_3 {es : List Int32} (h : es.length = 3) : ∃ e0 e1 e2 : Int32, es = [e0, e1, e2] := by
  match es, h with
  | [e0, e1, e2], _ => exact ⟨e0, e1, e2, rfl⟩
theorem len_4 {es : List Int32} (h : es.length = 4) : ∃ e0 e1 e2 e3 : Int32, es = [e0, e1, e2, e3] := by
  match es, h with
  | [e0, e1, e2, e3], _ => exact ⟨e0, e1, e2, e3, rfl⟩
theorem len_5 {es : List Int32} (h : es.length = 5) : ∃ e0 e1 e2 e3 e4 : Int32, es = [e0, e1, e2, e3, e4] := by
  match es, h with
  | [e0, e1, e2, e3, e4], _ => exact ⟨e0, e1, e2, e3, e4, rfl⟩
theorem len_6 {es : List Int32} (h : es.length = 6) : ∃ e0 e1 e2 e3 e4 e5 : Int32, es = [e0, e1, e2, e3, e4, e5] := by
  match es, h with
  | [e0, e1, e2, e3, e4, e5], _ => exact ⟨e0, e1, e2, e3, e4, e5, rfl⟩

theorem d48_0 : Dc q48 0 (.iload_n 0) 1 := by decide +kernel
theorem d48_1 : Dc q48 1 (.sipush 255) 3 := by decide +kernel
theorem d48_4 : Dc q48 4 (.if_icmp .gt 7) 3 := by decide +kernel
theorem d48_7 : Dc q48 7 (.iconst 1) 1 := by decide +kernel
theorem d48_8 : Dc q48 8 (.goto 4) 3 := by decide +kernel
theorem d48_12 : Dc q48 12 .ireturn 1 := by decide +kernel
theorem d48_11 : Dc q48 11 (.iconst 0) 1 := by decide +kernel
theorem d60_7 : Dc q60 7 .return_ 1 := by decide +kernel
theorem d47_0 : Dc q47 0 (.aload_n 0) 1 := by decide +kernel
theorem d47_1 : Dc q47 1 (.aload_n 0) 1 := by decide +kernel
theorem d47_2 : Dc q47 2 (.getfield 79) 3 := by decide +kernel
theorem d47_5 : Dc q47 5 (.iconst 1) 1 := by decide +kernel
theorem d47_6 : Dc q47 6 .iadd 1 := by decide +kernel
theorem d47_7 : Dc q47 7 (.invokevirtual 100) 3 := by decide +kernel
theorem d47_10 : Dc q47 10 (.aload_n 0) 1 := by decide +kernel
theorem d47_11 : Dc q47 11 (.invokevirtual 83) 3 := by decide +kernel
theorem d47_14 : Dc q47 14 (.ifCond .eq 31) 3 := by decide +kernel
theorem d47_17 : Dc q47 17 (.iload_n 1) 1 := by decide +kernel
theorem d47_18 : Dc q47 18 (.invokestatic 191) 3 := by decide +kernel
theorem d47_21 : Dc q47 21 (.ifCond .eq 24) 3 := by decide +kernel
theorem d47_24 : Dc q47 24 (.aload_n 0) 1 := by decide +kernel
theorem d47_25 : Dc q47 25 (.getfield 15) 3 := by decide +kernel
theorem d47_28 : Dc q47 28 (.aload_n 0) 1 := by decide +kernel
theorem d47_29 : Dc q47 29 .dup 1 := by decide +kernel
theorem d47_30 : Dc q47 30 (.getfield 79) 3 := by decide +kernel
theorem d47_33 : Dc q47 33 .dup_x1 1 := by decide +kernel
theorem d47_34 : Dc q47 34 (.iconst 1) 1 := by decide +kernel
theorem d47_35 : Dc q47 35 .iadd 1 := by decide +kernel
theorem d47_36 : Dc q47 36 (.putfield 79) 3 := by decide +kernel
theorem d47_39 : Dc q47 39 (.iload_n 1) 1 := by decide +kernel
theorem d47_40 : Dc q47 40 .i2b 1 := by decide +kernel
theorem d47_41 : Dc q47 41 .bastore 1 := by decide +kernel
theorem d47_42 : Dc q47 42 (.goto 33) 3 := by decide +kernel
theorem d47_75 : Dc q47 75 (.aload_n 0) 1 := by decide +kernel
theorem d47_76 : Dc q47 76 .areturn 1 := by decide +kernel
theorem sn_6 {Z : State} {a0 : Array Value} (hw : ∀ d ∈ tables_1, d.before a0 Z = true) : Jvm.RoadKit.slotOf Z "java/lang/AbstractStringBuilder" "value" "[B" ≠ Jvm.RoadKit.slotOf Z "java/lang/AbstractStringBuilder" "count" "I" := slot_ne (Or.inl (ww hw 58 rfl)) (Or.inl (ww hw 105 rfl)) (by decide) (t := (.array .byte)) (t' := .int) (by decide) (by decide)
theorem sn_7 {Z : State} {a0 : Array Value} (hw : ∀ d ∈ tables_1, d.before a0 Z = true) : Jvm.RoadKit.slotOf Z "java/lang/AbstractStringBuilder" "coder" "B" ≠ Jvm.RoadKit.slotOf Z "java/lang/AbstractStringBuilder" "count" "I" := slot_ne (Or.inl (ww hw 60 rfl)) (Or.inl (ww hw 105 rfl)) (by decide) (t := .byte) (t' := .int) (by decide) (by decide)
theorem sn_8 {Z : State} {a0 : Array Value} (hw : ∀ d ∈ tables_1, d.before a0 Z = true) : Jvm.RoadKit.slotOf Z "java/lang/AbstractStringBuilder" "maybeLatin1" "Z" ≠ Jvm.RoadKit.slotOf Z "java/lang/AbstractStringBuilder" "count" "I" := slot_ne (Or.inl (ww hw 300 rfl)) (Or.inl (ww hw 105 rfl)) (by decide) (t := .boolean) (t' := .int) (by decide) (by decide)
theorem pd_14 : parseMethodDescriptor "(I)V" = some ⟨[.int], none⟩ := by decide +kernel
theorem pd_15 : parseMethodDescriptor "(C)Z" = some ⟨[.char], some .boolean⟩ := by decide +kernel
theorem d47_45 : Dc q47 45 (.aload_n 0) 1 := by decide +kernel
theorem d47_46 : Dc q47 46 (.invokevirtual 83) 3 := by decide +kernel
theorem d47_49 : Dc q47 49 (.ifCond .eq 7) 3 := by decide +kernel
theorem d47_52 : Dc q47 52 (.aload_n 0) 1 := by decide +kernel
theorem d47_53 : Dc q47 53 (.invokevirtual 195) 3 := by decide +kernel
theorem d47_56 : Dc q47 56 (.aload_n 0) 1 := by decide +kernel
theorem d47_57 : Dc q47 57 (.getfield 15) 3 := by decide +kernel
theorem d47_60 : Dc q47 60 (.aload_n 0) 1 := by decide +kernel
theorem d47_61 : Dc q47 61 .dup 1 := by decide +kernel
theorem d47_62 : Dc q47 62 (.getfield 79) 3 := by decide +kernel
theorem d47_65 : Dc q47 65 .dup_x1 1 := by decide +kernel
theorem d47_66 : Dc q47 66 (.iconst 1) 1 := by decide +kernel
theorem d47_67 : Dc q47 67 .iadd 1 := by decide +kernel
theorem d47_68 : Dc q47 68 (.putfield 79) 3 := by decide +kernel
theorem d47_71 : Dc q47 71 (.iload_n 1) 1 := by decide +kernel
theorem d47_72 : Dc q47 72 (.invokestatic 197) 3 := by decide +kernel
theorem pd_16 : parseMethodDescriptor "()V" = some ⟨[], none⟩ := by decide +kernel
theorem d6_0 : Dc q6 0 (.aload_n 0) 1 := by decide +kernel
theorem d6_1 : Dc q6 1 (.getfield 9) 3 := by decide +kernel
theorem d6_4 : Dc q6 4 .arraylength 1 := by decide +kernel
theorem d6_5 : Dc q6 5 (.aload_n 0) 1 := by decide +kernel
theorem d6_6 : Dc q6 6 (.invokevirtual 335) 3 := by decide +kernel
theorem d6_9 : Dc q6 9 .ishr 1 := by decide +kernel
theorem d6_10 : Dc q6 10 .ireturn 1 := by decide +kernel
theorem pd_17 : parseMethodDescriptor "()B" = some ⟨[], some .byte⟩ := by decide +kernel
theorem d29_0 : Dc q29 0 (.getstatic 18) 3 := by decide +kernel
theorem d29_3 : Dc q29 3 (.ifCond .eq 18) 3 := by decide +kernel
theorem d29_6 : Dc q29 6 (.aload_n 0) 1 := by decide +kernel
theorem d29_7 : Dc q29 7 (.getfield 22) 3 := by decide +kernel
theorem d29_10 : Dc q29 10 (.aload_n 1) 1 := by decide +kernel
theorem d29_11 : Dc q29 11 (.invokevirtual 40) 3 := by decide +kernel
theorem d29_14 : Dc q29 14 (.if_icmp .eq 7) 3 := by decide +kernel
theorem d29_21 : Dc q29 21 .return_ 1 := by decide +kernel
theorem d29_17 : Dc q29 17 (.aload_n 0) 1 := by decide +kernel
theorem d29_18 : Dc q29 18 (.invokevirtual 195) 3 := by decide +kernel
theorem d30_0 : Dc q30 0 (.aload_n 0) 1 := by decide +kernel
theorem d30_1 : Dc q30 1 (.invokevirtual 335) 3 := by decide +kernel
theorem d30_4 : Dc q30 4 (.iload_n 3) 1 := by decide +kernel
theorem d30_5 : Dc q30 5 (.if_icmp .ne 23) 3 := by decide +kernel
theorem d30_8 : Dc q30 8 (.aload_n 0) 1 := by decide +kernel
theorem d30_9 : Dc q30 9 (.getfield 9) 3 := by decide +kernel
theorem d30_12 : Dc q30 12 (.iconst 0) 1 := by decide +kernel
theorem d30_13 : Dc q30 13 (.aload_n 1) 1 := by decide +kernel
theorem d30_14 : Dc q30 14 (.iload_n 2) 1 := by decide +kernel
theorem d30_15 : Dc q30 15 (.iload_n 3) 1 := by decide +kernel
theorem d30_16 : Dc q30 16 .ishl 1 := by decide +kernel
theorem d30_17 : Dc q30 17 (.aload_n 0) 1 := by decide +kernel
theorem d30_18 : Dc q30 18 (.getfield 9) 3 := by decide +kernel
theorem d30_21 : Dc q30 21 .arraylength 1 := by decide +kernel
theorem d30_22 : Dc q30 22 (.invokestatic 212) 3 := by decide +kernel
theorem d30_25 : Dc q30 25 (.goto 18) 3 := by decide +kernel
theorem d30_43 : Dc q30 43 .return_ 1 := by decide +kernel
theorem d28_0 : Dc q28 0 (.aload_n 0) 1 := by decide +kernel
theorem d28_1 : Dc q28 1 (.aload_n 2) 1 := by decide +kernel
theorem d28_2 : Dc q28 2 (.invokevirtual 397) 3 := by decide +kernel
theorem d28_5 : Dc q28 5 (.aload_n 2) 1 := by decide +kernel
theorem d28_6 : Dc q28 6 (.aload_n 0) 1 := by decide +kernel
theorem d28_7 : Dc q28 7 (.getfield 15) 3 := by decide +kernel
theorem d28_10 : Dc q28 10 (.iload_n 1) 1 := by decide +kernel
theorem d28_11 : Dc q28 11 (.aload_n 0) 1 := by decide +kernel
theorem d28_12 : Dc q28 12 (.getfield 22) 3 := by decide +kernel
theorem d28_15 : Dc q28 15 (.invokevirtual 399) 3 := by decide +kernel
theorem d28_18 : Dc q28 18 .return_ 1 := by decide +kernel
theorem pd_18 : parseMethodDescriptor "(Ljava/lang/String;)V" = some ⟨[(.object "java/lang/String")], none⟩ := by decide +kernel
theorem pd_19 : parseMethodDescriptor "([BIB)V" = some ⟨[(.array .byte), .int, .byte], none⟩ := by decide +kernel
theorem d30_28 : Dc q30 28 (.aload_n 0) 1 := by decide +kernel
theorem d30_29 : Dc q30 29 (.getfield 9) 3 := by decide +kernel
theorem d30_32 : Dc q30 32 (.iconst 0) 1 := by decide +kernel
theorem d30_33 : Dc q30 33 (.aload_n 1) 1 := by decide +kernel
theorem d30_34 : Dc q30 34 (.iload_n 2) 1 := by decide +kernel
theorem d30_35 : Dc q30 35 (.aload_n 0) 1 := by decide +kernel
theorem d30_36 : Dc q30 36 (.getfield 9) 3 := by decide +kernel
theorem d30_39 : Dc q30 39 .arraylength 1 := by decide +kernel
theorem d30_40 : Dc q30 40 (.invokestatic 106) 3 := by decide +kernel
theorem d26_0 : Dc q26 0 (.aload_n 1) 1 := by decide +kernel
theorem d26_1 : Dc q26 1 (.ifnonnull 8) 3 := by decide +kernel
theorem d26_9 : Dc q26 9 (.aload_n 1) 1 := by decide +kernel
theorem d26_10 : Dc q26 10 (.invokevirtual 32) 3 := by decide +kernel
theorem d26_13 : Dc q26 13 (.istore_n 2) 1 := by decide +kernel
theorem d26_14 : Dc q26 14 (.aload_n 0) 1 := by decide +kernel
theorem d26_15 : Dc q26 15 (.aload_n 0) 1 := by decide +kernel
theorem d26_16 : Dc q26 16 (.getfield 79) 3 := by decide +kernel
theorem d26_19 : Dc q26 19 (.iload_n 2) 1 := by decide +kernel
theorem d26_20 : Dc q26 20 .iadd 1 := by decide +kernel
theorem d26_21 : Dc q26 21 (.invokevirtual 100) 3 := by decide +kernel
theorem d26_24 : Dc q26 24 (.aload_n 0) 1 := by decide +kernel
theorem d26_25 : Dc q26 25 (.aload_n 0) 1 := by decide +kernel
theorem d26_26 : Dc q26 26 (.getfield 79) 3 := by decide +kernel
theorem d26_29 : Dc q26 29 (.aload_n 1) 1 := by decide +kernel
theorem d26_30 : Dc q26 30 (.invokevirtual 208) 3 := by decide +kernel
theorem d26_33 : Dc q26 33 (.aload_n 0) 1 := by decide +kernel
theorem d26_34 : Dc q26 34 .dup 1 := by decide +kernel
theorem d26_35 : Dc q26 35 (.getfield 79) 3 := by decide +kernel
theorem d26_38 : Dc q26 38 (.iload_n 2) 1 := by decide +kernel
theorem d26_39 : Dc q26 39 .iadd 1 := by decide +kernel
theorem d26_40 : Dc q26 40 (.putfield 79) 3 := by decide +kernel
theorem d26_43 : Dc q26 43 (.aload_n 0) 1 := by decide +kernel
theorem d26_44 : Dc q26 44 .areturn 1 := by decide +kernel
theorem pd_20 : parseMethodDescriptor "()I" = some ⟨[], some .int⟩ := by decide +kernel
theorem pd_21 : parseMethodDescriptor "(ILjava/lang/String;)V" = some ⟨[.int, (.object "java/lang/String")], none⟩ := by decide +kernel
theorem own_mb {Z : State} {h : Heap} {b d : Addr} {m : Nat} {kA : ClassId} {ty : FieldType} {z : Int32} {vs : List Value} {dv : Value} (mb : m ≤ b) (A : Arv Z h b kA ty z vs dv) (sd : h.size ≤ d) : m ≤ d := Nat.le_trans (Nat.le_of_lt (Nat.lt_of_le_of_lt mb A.lt)) sd
theorem d46_0 : Dc q46 0 (.aload_n 0) 1 := by decide +kernel
theorem d46_1 : Dc q46 1 (.iload_n 1) 1 := by decide +kernel
theorem d46_2 : Dc q46 2 (.invokespecial 50) 3 := by decide +kernel
theorem d46_5 : Dc q46 5 .pop 1 := by decide +kernel
theorem d46_6 : Dc q46 6 (.aload_n 0) 1 := by decide +kernel
theorem d46_7 : Dc q46 7 .areturn 1 := by decide +kernel
theorem pd_22 : parseMethodDescriptor "(C)Ljava/lang/AbstractStringBuilder;" = some ⟨[.char], some (.object "java/lang/AbstractStringBuilder")⟩ := by decide +kernel
theorem pn_7 : plainName "java/lang/StringBuilder" = true := by first | (simp [plainName, overriddenIn]; done) | decide +kernel
theorem d25_0 : Dc q25 0 (.aload_n 0) 1 := by decide +kernel
theorem d25_1 : Dc q25 1 (.aload_n 1) 1 := by decide +kernel
theorem d25_2 : Dc q25 2 (.invokespecial 29) 3 := by decide +kernel
theorem d25_5 : Dc q25 5 .pop 1 := by decide +kernel
theorem d25_6 : Dc q25 6 (.aload_n 0) 1 := by decide +kernel
theorem d25_7 : Dc q25 7 .areturn 1 := by decide +kernel
theorem pd_23 : parseMethodDescriptor "(Ljava/lang/String;)Ljava/lang/AbstractStringBuilder;" = some ⟨[(.object "java/lang/String")], some (.object "java/lang/AbstractStringBuilder")⟩ := by decide +kernel
theorem enc_pad (cd z : Nat) (es : List Int32) : ∀ i, (encS cd es).getD i (.int 0) = (enc cd z es).getD i (.int 0) := fun i => (pad_rep _ _ _ i).symm
theorem enc0 (E : List Int32) : (encS 0 E).length = E.length := List.length_map ..
theorem enc1 (E : List Int32) : (encS 1 E).length = 2 * E.length := u16flen E
theorem sts0 {N : Nat} (h : N ≤ 3) : (([] : List Int32).length, N, 0) ∈ sts N 0 := by
  rcases (by omega : N = 0 ∨ N = 1 ∨ N = 2 ∨ N = 3) with rfl | rfl | rfl | rfl <;> decide
theorem own_ni {N : Nat} (i : Nat) (h : i < N) (h3 : N ≤ 3) : (N, i) ∈ [(1, 0), (2, 0), (2, 1), (3, 0), (3, 1), (3, 2)] := by
  rcases (by omega : (N = 1 ∧ i = 0) ∨ (N = 2 ∧ i = 0) ∨ (N = 2 ∧ i = 1) ∨ (N = 3 ∧ i = 0) ∨ (N = 3 ∧ i = 1) ∨ (N = 3 ∧ i = 2)) with ⟨rfl, rfl⟩ | ⟨rfl, rfl⟩ | ⟨rfl, rfl⟩ | ⟨rfl, rfl⟩ | ⟨rfl, rfl⟩ | ⟨rfl, rfl⟩ <;> decide
theorem d9_0 : Dc q9 0 (.aload_n 0) 1 := by decide +kernel
theorem d9_1 : Dc q9 1 (.invokespecial 3) 3 := by decide +kernel
theorem d9_4 : Dc q9 4 (.getstatic 18) 3 := by decide +kernel
theorem d9_7 : Dc q9 7 (.ifCond .eq 18) 3 := by decide +kernel
theorem d9_10 : Dc q9 10 (.aload_n 0) 1 := by decide +kernel
theorem d9_11 : Dc q9 11 (.iload_n 1) 1 := by decide +kernel
theorem d9_12 : Dc q9 12 (.newarray .byte) 2 := by decide +kernel
theorem d9_14 : Dc q9 14 (.putfield 15) 3 := by decide +kernel
theorem d9_17 : Dc q9 17 (.aload_n 0) 1 := by decide +kernel
theorem d9_18 : Dc q9 18 (.iconst 0) 1 := by decide +kernel
theorem d9_19 : Dc q9 19 (.putfield 22) 3 := by decide +kernel
theorem d9_22 : Dc q9 22 (.goto 16) 3 := by decide +kernel
theorem d9_38 : Dc q9 38 .return_ 1 := by decide +kernel
theorem d8_0 : Dc q8 0 (.aload_n 0) 1 := by decide +kernel
theorem d8_1 : Dc q8 1 (.iload_n 1) 1 := by decide +kernel
theorem d8_2 : Dc q8 2 (.invokespecial 1) 3 := by decide +kernel
theorem d8_5 : Dc q8 5 .return_ 1 := by decide +kernel
theorem d35_9 : Dc q35 9 (.iload_n 1) 1 := by decide +kernel
theorem d37_0 : Dc q37 0 (.iload_n 1) 1 := by decide +kernel
theorem d37_1 : Dc q37 1 (.iload_n 0) 1 := by decide +kernel
theorem d37_2 : Dc q37 2 (.if_icmp .ge 35) 3 := by decide +kernel
theorem d37_37 : Dc q37 37 .return_ 1 := by decide +kernel
theorem d36_0 : Dc q36 0 (.iload_n 1) 1 := by decide +kernel
theorem d36_1 : Dc q36 1 (.iload_n 2) 1 := by decide +kernel
theorem d36_2 : Dc q36 2 (.invokestatic 343) 3 := by decide +kernel
theorem d36_5 : Dc q36 5 (.iload_n 2) 1 := by decide +kernel
theorem d36_6 : Dc q36 6 (.iload_n 1) 1 := by decide +kernel
theorem d36_7 : Dc q36 7 .isub 1 := by decide +kernel
theorem d36_8 : Dc q36 8 (.istore_n 3) 1 := by decide +kernel
theorem d36_9 : Dc q36 9 (.iload_n 3) 1 := by decide +kernel
theorem d36_10 : Dc q36 10 (.newarray .byte) 2 := by decide +kernel
theorem d36_12 : Dc q36 12 (.astore 4) 2 := by decide +kernel
theorem d36_14 : Dc q36 14 (.aload_n 0) 1 := by decide +kernel
theorem d36_15 : Dc q36 15 (.iload_n 1) 1 := by decide +kernel
theorem d36_16 : Dc q36 16 (.aload 4) 2 := by decide +kernel
theorem d36_18 : Dc q36 18 (.iconst 0) 1 := by decide +kernel
theorem d36_19 : Dc q36 19 (.aload_n 0) 1 := by decide +kernel
theorem d36_20 : Dc q36 20 .arraylength 1 := by decide +kernel
theorem d36_21 : Dc q36 21 (.iload_n 1) 1 := by decide +kernel
theorem d36_22 : Dc q36 22 .isub 1 := by decide +kernel
theorem d36_23 : Dc q36 23 (.iload_n 3) 1 := by decide +kernel
theorem d36_24 : Dc q36 24 (.invokestatic 304) 3 := by decide +kernel
theorem d36_27 : Dc q36 27 (.invokestatic 150) 3 := by decide +kernel
theorem d36_30 : Dc q36 30 (.aload 4) 2 := by decide +kernel
theorem d36_32 : Dc q36 32 .areturn 1 := by decide +kernel
theorem d21_0 : Dc q21 0 (.iload_n 1) 1 := by decide +kernel
theorem d21_1 : Dc q21 1 (.ifCond .ne 9) 3 := by decide +kernel
theorem d21_4 : Dc q21 4 (.iload_n 2) 1 := by decide +kernel
theorem d21_5 : Dc q21 5 (.aload_n 0) 1 := by decide +kernel
theorem d21_6 : Dc q21 6 .arraylength 1 := by decide +kernel
theorem d21_7 : Dc q21 7 (.if_icmp .eq 10) 3 := by decide +kernel
theorem d21_10 : Dc q21 10 (.aload_n 0) 1 := by decide +kernel
theorem d21_11 : Dc q21 11 (.iload_n 1) 1 := by decide +kernel
theorem d21_12 : Dc q21 12 (.iload_n 2) 1 := by decide +kernel
theorem d21_13 : Dc q21 13 (.invokestatic 339) 3 := by decide +kernel
theorem d21_16 : Dc q21 16 .areturn 1 := by decide +kernel
theorem pd_24 : parseMethodDescriptor "([BII)[B" = some ⟨[(.array .byte), .int, .int], some (.array .byte)⟩ := by decide +kernel
theorem d21_17 : Dc q21 17 (.aload_n 0) 1 := by decide +kernel
theorem d21_18 : Dc q21 18 (.invokevirtual 310) 3 := by decide +kernel
theorem d21_21 : Dc q21 21 (.checkcast 311) 3 := by decide +kernel
theorem d21_24 : Dc q21 24 .areturn 1 := by decide +kernel
theorem d17_0 : Dc q17 0 (.aload_n 0) 1 := by decide +kernel
theorem d17_1 : Dc q17 1 (.getfield 15) 3 := by decide +kernel
theorem d17_4 : Dc q17 4 .areturn 1 := by decide +kernel
theorem d19_0 : Dc q19 0 (.aload_n 0) 1 := by decide +kernel
theorem d19_1 : Dc q19 1 (.getfield 79) 3 := by decide +kernel
theorem d19_4 : Dc q19 4 .ireturn 1 := by decide +kernel
theorem d18_0 : Dc q18 0 (.aload_n 0) 1 := by decide +kernel
theorem d18_1 : Dc q18 1 (.invokespecial 343) 3 := by decide +kernel
theorem d18_4 : Dc q18 4 .ireturn 1 := by decide +kernel
theorem d16_0 : Dc q16 0 (.aload_n 0) 1 := by decide +kernel
theorem d16_1 : Dc q16 1 (.invokespecial 1) 3 := by decide +kernel
theorem d16_4 : Dc q16 4 (.aload_n 1) 1 := by decide +kernel
theorem d16_5 : Dc q16 5 (.invokevirtual 552) 3 := by decide +kernel
theorem d16_8 : Dc q16 8 (.astore_n 3) 1 := by decide +kernel
theorem d16_9 : Dc q16 9 (.aload_n 1) 1 := by decide +kernel
theorem d16_10 : Dc q16 10 (.invokevirtual 549) 3 := by decide +kernel
theorem d16_13 : Dc q16 13 (.istore 4) 2 := by decide +kernel
theorem d16_15 : Dc q16 15 (.aload_n 1) 1 := by decide +kernel
theorem d16_16 : Dc q16 16 (.invokevirtual 1047) 3 := by decide +kernel
theorem d16_19 : Dc q16 19 (.ifCond .eq 22) 3 := by decide +kernel
theorem d16_22 : Dc q16 22 (.aload_n 0) 1 := by decide +kernel
theorem d16_23 : Dc q16 23 (.iconst 0) 1 := by decide +kernel
theorem d16_24 : Dc q16 24 (.putfield 15) 3 := by decide +kernel
theorem d16_27 : Dc q16 27 (.aload_n 0) 1 := by decide +kernel
theorem d16_28 : Dc q16 28 (.aload_n 3) 1 := by decide +kernel
theorem d16_29 : Dc q16 29 (.iconst 0) 1 := by decide +kernel
theorem d16_30 : Dc q16 30 (.iload 4) 2 := by decide +kernel
theorem d16_32 : Dc q16 32 (.invokestatic 54) 3 := by decide +kernel
theorem d16_35 : Dc q16 35 (.putfield 9) 3 := by decide +kernel
theorem d16_38 : Dc q16 38 (.goto 59) 3 := by decide +kernel
theorem d16_97 : Dc q16 97 .return_ 1 := by decide +kernel
theorem sn_9 {Z : State} {a0 : Array Value} (hw : ∀ d ∈ tables_1, d.before a0 Z = true) : Jvm.RoadKit.slotOf Z "java/lang/String" "value" "[B" ≠ Jvm.RoadKit.slotOf Z "java/lang/String" "coder" "B" := slot_ne (Or.inr (ww hw 22 rfl)) (Or.inr (ww hw 23 rfl)) (by decide) (t := (.array .byte)) (t' := .byte) (by decide) (by decide)
theorem sn_10 {Z : State} {a0 : Array Value} (hw : ∀ d ∈ tables_1, d.before a0 Z = true) : Jvm.RoadKit.slotOf Z "java/lang/String" "coder" "B" ≠ Jvm.RoadKit.slotOf Z "java/lang/String" "value" "[B" := slot_ne (Or.inr (ww hw 23 rfl)) (Or.inr (ww hw 22 rfl)) (by decide) (t := .byte) (t' := (.array .byte)) (by decide) (by decide)
theorem pd_25 : parseMethodDescriptor "()[B" = some ⟨[], some (.array .byte)⟩ := by decide +kernel
theorem d16_41 : Dc q16 41 (.getstatic 38) 3 := by decide +kernel
theorem d16_44 : Dc q16 44 (.ifCond .eq 35) 3 := by decide +kernel
theorem d16_47 : Dc q16 47 (.aload_n 1) 1 := by decide +kernel
theorem d16_48 : Dc q16 48 (.getfield 1048) 3 := by decide +kernel
theorem d16_51 : Dc q16 51 (.ifCond .eq 28) 3 := by decide +kernel
theorem d16_79 : Dc q16 79 (.aload_n 0) 1 := by decide +kernel
theorem d16_80 : Dc q16 80 (.iconst 1) 1 := by decide +kernel
theorem d16_81 : Dc q16 81 (.putfield 15) 3 := by decide +kernel
theorem d16_84 : Dc q16 84 (.aload_n 0) 1 := by decide +kernel
theorem d16_85 : Dc q16 85 (.aload_n 3) 1 := by decide +kernel
theorem d16_86 : Dc q16 86 (.iconst 0) 1 := by decide +kernel
theorem d16_87 : Dc q16 87 (.iload 4) 2 := by decide +kernel
theorem d16_89 : Dc q16 89 (.iconst 1) 1 := by decide +kernel
theorem d16_90 : Dc q16 90 .ishl 1 := by decide +kernel
theorem d16_91 : Dc q16 91 (.invokestatic 54) 3 := by decide +kernel
theorem d16_94 : Dc q16 94 (.putfield 9) 3 := by decide +kernel
theorem d15_0 : Dc q15 0 (.aload_n 0) 1 := by decide +kernel
theorem d15_1 : Dc q15 1 (.aload_n 1) 1 := by decide +kernel
theorem d15_2 : Dc q15 2 .aconst_null 1 := by decide +kernel
theorem d15_3 : Dc q15 3 (.invokespecial 489) 3 := by decide +kernel
theorem d15_6 : Dc q15 6 .return_ 1 := by decide +kernel
theorem pd_26 : parseMethodDescriptor "(Ljava/lang/AbstractStringBuilder;Ljava/lang/Void;)V" = some ⟨[(.object "java/lang/AbstractStringBuilder"), (.object "java/lang/Void")], none⟩ := by decide +kernel
theorem d14_0 : Dc q14 0 (.new 18) 3 := by decide +kernel
theorem d14_3 : Dc q14 3 .dup 1 := by decide +kernel
theorem d14_4 : Dc q14 4 (.aload_n 0) 1 := by decide +kernel
theorem d14_5 : Dc q14 5 (.invokespecial 137) 3 := by decide +kernel
theorem d14_8 : Dc q14 8 .areturn 1 := by decide +kernel
theorem pd_27 : parseMethodDescriptor "(Ljava/lang/StringBuilder;)V" = some ⟨[(.object "java/lang/StringBuilder")], none⟩ := by decide +kernel
theorem d11_17 : Dc q11 17 (.iconst 0) 1 := by decide +kernel
theorem d13_0 : Dc q13 0 (.iconst 0) 1 := by decide +kernel
theorem d13_1 : Dc q13 1 (.istore 5) 2 := by decide +kernel
theorem d13_3 : Dc q13 3 (.iload 5) 2 := by decide +kernel
theorem d13_5 : Dc q13 5 (.iload 4) 2 := by decide +kernel
theorem d13_7 : Dc q13 7 (.if_icmp .ge 26) 3 := by decide +kernel
theorem d13_33 : Dc q13 33 .return_ 1 := by decide +kernel
theorem d55_0 : Dc q55 0 (.iload_n 1) 1 := by decide +kernel
theorem d55_1 : Dc q55 1 (.iload_n 2) 1 := by decide +kernel
theorem d55_2 : Dc q55 2 (.if_icmp .ge 11) 3 := by decide +kernel
theorem d55_13 : Dc q55 13 (.iload_n 1) 1 := by decide +kernel
theorem d55_14 : Dc q55 14 (.istore 5) 2 := by decide +kernel
theorem d55_16 : Dc q55 16 (.iload 5) 2 := by decide +kernel
theorem d55_18 : Dc q55 18 (.iload_n 2) 1 := by decide +kernel
theorem d55_19 : Dc q55 19 (.if_icmp .ge 22) 3 := by decide +kernel
theorem d55_41 : Dc q55 41 .return_ 1 := by decide +kernel
theorem d13_10 : Dc q13 10 (.aload_n 2) 1 := by decide +kernel
theorem d13_11 : Dc q13 11 (.iload_n 3) 1 := by decide +kernel
theorem d13_12 : Dc q13 12 (.iinc 3 1) 3 := by decide +kernel
theorem d13_15 : Dc q13 15 (.aload_n 0) 1 := by decide +kernel
theorem d13_16 : Dc q13 16 (.iload_n 1) 1 := by decide +kernel
theorem d13_17 : Dc q13 17 (.iinc 1 1) 3 := by decide +kernel
theorem d13_20 : Dc q13 20 .baload 1 := by decide +kernel
theorem d13_21 : Dc q13 21 (.sipush 255) 3 := by decide +kernel
theorem d13_24 : Dc q13 24 .iand 1 := by decide +kernel
theorem d13_25 : Dc q13 25 .i2c 1 := by decide +kernel
theorem d13_26 : Dc q13 26 .castore 1 := by decide +kernel
theorem d13_27 : Dc q13 27 (.iinc 5 1) 3 := by decide +kernel
theorem d13_30 : Dc q13 30 (.goto (-27)) 3 := by decide +kernel
theorem d55_5 : Dc q55 5 (.iload_n 1) 1 := by decide +kernel
theorem d55_6 : Dc q55 6 (.iload_n 2) 1 := by decide +kernel
theorem d55_7 : Dc q55 7 (.iload_n 1) 1 := by decide +kernel
theorem d55_8 : Dc q55 8 .isub 1 := by decide +kernel
theorem d55_9 : Dc q55 9 (.aload_n 0) 1 := by decide +kernel
theorem d55_10 : Dc q55 10 (.invokestatic 173) 3 := by decide +kernel
theorem d55_22 : Dc q55 22 (.aload_n 3) 1 := by decide +kernel
theorem d55_23 : Dc q55 23 (.iload 4) 2 := by decide +kernel
theorem d55_25 : Dc q55 25 (.iinc 4 1) 3 := by decide +kernel
theorem d55_28 : Dc q55 28 (.aload_n 0) 1 := by decide +kernel
theorem d55_29 : Dc q55 29 (.iload 5) 2 := by decide +kernel
theorem d55_31 : Dc q55 31 (.invokestatic 71) 3 := by decide +kernel
theorem d55_34 : Dc q55 34 .castore 1 := by decide +kernel
theorem d55_35 : Dc q55 35 (.iinc 5 1) 3 := by decide +kernel
theorem d55_38 : Dc q55 38 (.goto (-22)) 3 := by decide +kernel
theorem pd_28 : parseMethodDescriptor "([BI)C" = some ⟨[(.array .byte), .int], some .char⟩ := by decide +kernel
theorem d12_0 : Dc q12 0 (.aload_n 0) 1 := by decide +kernel
theorem d12_1 : Dc q12 1 .arraylength 1 := by decide +kernel
theorem d12_2 : Dc q12 2 (.newarray .char) 2 := by decide +kernel
theorem d12_4 : Dc q12 4 (.astore_n 1) 1 := by decide +kernel
theorem d12_5 : Dc q12 5 (.aload_n 0) 1 := by decide +kernel
theorem d12_6 : Dc q12 6 (.iconst 0) 1 := by decide +kernel
theorem d12_7 : Dc q12 7 (.aload_n 1) 1 := by decide +kernel
theorem d12_8 : Dc q12 8 (.iconst 0) 1 := by decide +kernel
theorem d12_9 : Dc q12 9 (.aload_n 0) 1 := by decide +kernel
theorem d12_10 : Dc q12 10 .arraylength 1 := by decide +kernel
theorem d12_11 : Dc q12 11 (.invokestatic 13) 3 := by decide +kernel
theorem d12_14 : Dc q12 14 (.aload_n 1) 1 := by decide +kernel
theorem d12_15 : Dc q12 15 .areturn 1 := by decide +kernel
theorem pd_29 : parseMethodDescriptor "([BI[CII)V" = some ⟨[(.array .byte), .int, (.array .char), .int, .int], none⟩ := by decide +kernel
theorem d54_0 : Dc q54 0 (.aload_n 0) 1 := by decide +kernel
theorem d54_1 : Dc q54 1 .arraylength 1 := by decide +kernel
theorem d54_2 : Dc q54 2 (.iconst 1) 1 := by decide +kernel
theorem d54_3 : Dc q54 3 .ishr 1 := by decide +kernel
theorem d54_4 : Dc q54 4 (.newarray .char) 2 := by decide +kernel
theorem d54_6 : Dc q54 6 (.astore_n 1) 1 := by decide +kernel
theorem d54_7 : Dc q54 7 (.aload_n 0) 1 := by decide +kernel
theorem d54_8 : Dc q54 8 (.iconst 0) 1 := by decide +kernel
theorem d54_9 : Dc q54 9 (.aload_n 1) 1 := by decide +kernel
theorem d54_10 : Dc q54 10 .arraylength 1 := by decide +kernel
theorem d54_11 : Dc q54 11 (.aload_n 1) 1 := by decide +kernel
theorem d54_12 : Dc q54 12 (.iconst 0) 1 := by decide +kernel
theorem d54_13 : Dc q54 13 (.invokestatic 103) 3 := by decide +kernel
theorem d54_16 : Dc q54 16 (.aload_n 1) 1 := by decide +kernel
theorem d54_17 : Dc q54 17 .areturn 1 := by decide +kernel
theorem pd_30 : parseMethodDescriptor "([BII[CI)V" = some ⟨[(.array .byte), .int, .int, (.array .char), .int], none⟩ := by decide +kernel
theorem d10_0 : Dc q10 0 (.aload_n 0) 1 := by decide +kernel
theorem d10_1 : Dc q10 1 (.invokevirtual 492) 3 := by decide +kernel
theorem d10_4 : Dc q10 4 (.ifCond .eq 13) 3 := by decide +kernel
theorem d10_7 : Dc q10 7 (.aload_n 0) 1 := by decide +kernel
theorem d10_8 : Dc q10 8 (.getfield 9) 3 := by decide +kernel
theorem d10_11 : Dc q10 11 (.invokestatic 299) 3 := by decide +kernel
theorem d10_14 : Dc q10 14 (.goto 10) 3 := by decide +kernel
theorem d10_24 : Dc q10 24 .areturn 1 := by decide +kernel
theorem pd_31 : parseMethodDescriptor "([B)[C" = some ⟨[(.array .byte)], some (.array .char)⟩ := by decide +kernel
theorem d10_17 : Dc q10 17 (.aload_n 0) 1 := by decide +kernel
theorem d10_18 : Dc q10 18 (.getfield 9) 3 := by decide +kernel
theorem d10_21 : Dc q10 21 (.invokestatic 303) 3 := by decide +kernel
theorem d42_0 : Dc q42 0 (.iload_n 1) 1 := by decide +kernel
theorem d42_1 : Dc q42 1 (.aload_n 0) 1 := by decide +kernel
theorem d42_2 : Dc q42 2 .arraylength 1 := by decide +kernel
theorem d42_3 : Dc q42 3 (.invokestatic 9) 3 := by decide +kernel
theorem d42_6 : Dc q42 6 (.aload_n 0) 1 := by decide +kernel
theorem d42_7 : Dc q42 7 (.iload_n 1) 1 := by decide +kernel
theorem d42_8 : Dc q42 8 .baload 1 := by decide +kernel
theorem d42_9 : Dc q42 9 (.sipush 255) 3 := by decide +kernel
theorem d42_12 : Dc q42 12 .iand 1 := by decide +kernel
theorem d42_13 : Dc q42 13 .i2c 1 := by decide +kernel
theorem d42_14 : Dc q42 14 .ireturn 1 := by decide +kernel
theorem d65_0 : Dc q65 0 (.iload_n 1) 1 := by decide +kernel
theorem d65_1 : Dc q65 1 (.aload_n 0) 1 := by decide +kernel
theorem d65_2 : Dc q65 2 (.invokestatic 67) 3 := by decide +kernel
theorem d65_5 : Dc q65 5 (.aload_n 0) 1 := by decide +kernel
theorem d65_6 : Dc q65 6 (.iload_n 1) 1 := by decide +kernel
theorem d65_7 : Dc q65 7 (.invokestatic 71) 3 := by decide +kernel
theorem d65_10 : Dc q65 10 .ireturn 1 := by decide +kernel
theorem d41_0 : Dc q41 0 (.aload_n 0) 1 := by decide +kernel
theorem d41_1 : Dc q41 1 (.invokevirtual 492) 3 := by decide +kernel
theorem d41_4 : Dc q41 4 (.ifCond .eq 12) 3 := by decide +kernel
theorem d41_7 : Dc q41 7 (.aload_n 0) 1 := by decide +kernel
theorem d41_8 : Dc q41 8 (.getfield 9) 3 := by decide +kernel
theorem d41_11 : Dc q41 11 (.iload_n 1) 1 := by decide +kernel
theorem d41_12 : Dc q41 12 (.invokestatic 495) 3 := by decide +kernel
theorem d41_15 : Dc q41 15 .ireturn 1 := by decide +kernel
theorem d41_16 : Dc q41 16 (.aload_n 0) 1 := by decide +kernel
theorem d41_17 : Dc q41 17 (.getfield 9) 3 := by decide +kernel
theorem d41_20 : Dc q41 20 (.iload_n 1) 1 := by decide +kernel
theorem d41_21 : Dc q41 21 (.invokestatic 498) 3 := by decide +kernel
theorem d41_24 : Dc q41 24 .ireturn 1 := by decide +kernel
theorem d23_0 : Dc q23 0 (.iconst 0) 1 := by decide +kernel
theorem d23_1 : Dc q23 1 (.istore 5) 2 := by decide +kernel
theorem d23_3 : Dc q23 3 (.iload 5) 2 := by decide +kernel
theorem d23_5 : Dc q23 5 (.iload 4) 2 := by decide +kernel
theorem d23_7 : Dc q23 7 (.if_icmp .ge 37) 3 := by decide +kernel
theorem d23_10 : Dc q23 10 (.aload_n 0) 1 := by decide +kernel
theorem d23_11 : Dc q23 11 (.iload_n 1) 1 := by decide +kernel
theorem d23_12 : Dc q23 12 .caload 1 := by decide +kernel
theorem d23_13 : Dc q23 13 (.istore 6) 2 := by decide +kernel
theorem d23_15 : Dc q23 15 (.iload 6) 2 := by decide +kernel
theorem d23_17 : Dc q23 17 (.sipush 255) 3 := by decide +kernel
theorem d23_20 : Dc q23 20 (.if_icmp .le 6) 3 := by decide +kernel
theorem d23_23 : Dc q23 23 (.iload 5) 2 := by decide +kernel
theorem d23_25 : Dc q23 25 .ireturn 1 := by decide +kernel
theorem d23_26 : Dc q23 26 (.aload_n 2) 1 := by decide +kernel
theorem d23_27 : Dc q23 27 (.iload_n 3) 1 := by decide +kernel
theorem d23_28 : Dc q23 28 (.iload 6) 2 := by decide +kernel
theorem d23_30 : Dc q23 30 .i2b 1 := by decide +kernel
theorem d23_31 : Dc q23 31 .bastore 1 := by decide +kernel
theorem d23_32 : Dc q23 32 (.iinc 1 1) 3 := by decide +kernel
theorem d23_35 : Dc q23 35 (.iinc 3 1) 3 := by decide +kernel
theorem d23_38 : Dc q23 38 (.iinc 5 1) 3 := by decide +kernel
theorem d23_41 : Dc q23 41 (.goto (-38)) 3 := by decide +kernel
theorem d23_44 : Dc q23 44 (.iload 4) 2 := by decide +kernel
theorem d23_46 : Dc q23 46 .ireturn 1 := by decide +kernel
theorem d49_0 : Dc q49 0 (.iload_n 2) 1 := by decide +kernel
theorem d49_1 : Dc q49 1 (.invokestatic 107) 3 := by decide +kernel
theorem d49_4 : Dc q49 4 (.astore_n 3) 1 := by decide +kernel
theorem d49_5 : Dc q49 5 (.iconst 0) 1 := by decide +kernel
theorem d49_6 : Dc q49 6 (.istore 4) 2 := by decide +kernel
theorem d49_8 : Dc q49 8 (.iload 4) 2 := by decide +kernel
theorem d49_10 : Dc q49 10 (.iload_n 2) 1 := by decide +kernel
theorem d49_11 : Dc q49 11 (.if_icmp .ge 21) 3 := by decide +kernel
theorem d49_14 : Dc q49 14 (.aload_n 3) 1 := by decide +kernel
theorem d49_15 : Dc q49 15 (.iload 4) 2 := by decide +kernel
theorem d49_17 : Dc q49 17 (.aload_n 0) 1 := by decide +kernel
theorem d49_18 : Dc q49 18 (.iload_n 1) 1 := by decide +kernel
theorem d49_19 : Dc q49 19 .caload 1 := by decide +kernel
theorem d49_20 : Dc q49 20 (.invokestatic 111) 3 := by decide +kernel
theorem d49_23 : Dc q49 23 (.iinc 1 1) 3 := by decide +kernel
theorem d49_26 : Dc q49 26 (.iinc 4 1) 3 := by decide +kernel
theorem d49_29 : Dc q49 29 (.goto (-21)) 3 := by decide +kernel
theorem d49_32 : Dc q49 32 (.aload_n 3) 1 := by decide +kernel
theorem d49_33 : Dc q49 33 .areturn 1 := by decide +kernel
theorem d22_0 : Dc q22 0 (.iload_n 2) 1 := by decide +kernel
theorem d22_1 : Dc q22 1 (.newarray .byte) 2 := by decide +kernel
theorem d22_3 : Dc q22 3 (.astore_n 3) 1 := by decide +kernel
theorem d22_4 : Dc q22 4 (.aload_n 0) 1 := by decide +kernel
theorem d22_5 : Dc q22 5 (.iload_n 1) 1 := by decide +kernel
theorem d22_6 : Dc q22 6 (.aload_n 3) 1 := by decide +kernel
theorem d22_7 : Dc q22 7 (.iconst 0) 1 := by decide +kernel
theorem d22_8 : Dc q22 8 (.iload_n 2) 1 := by decide +kernel
theorem d22_9 : Dc q22 9 (.invokestatic 115) 3 := by decide +kernel
theorem d22_12 : Dc q22 12 (.istore 4) 2 := by decide +kernel
theorem d22_14 : Dc q22 14 (.iload 4) 2 := by decide +kernel
theorem d22_16 : Dc q22 16 (.iload_n 2) 1 := by decide +kernel
theorem d22_17 : Dc q22 17 (.if_icmp .eq 40) 3 := by decide +kernel
theorem d22_20 : Dc q22 20 (.aload_n 0) 1 := by decide +kernel
theorem d22_21 : Dc q22 21 (.iload_n 1) 1 := by decide +kernel
theorem d22_22 : Dc q22 22 (.iload_n 2) 1 := by decide +kernel
theorem d22_23 : Dc q22 23 (.invokestatic 119) 3 := by decide +kernel
theorem d22_26 : Dc q22 26 (.astore 5) 2 := by decide +kernel
theorem d22_28 : Dc q22 28 (.aload 5) 2 := by decide +kernel
theorem d22_30 : Dc q22 30 (.iload 4) 2 := by decide +kernel
theorem d22_32 : Dc q22 32 (.invokestatic 71) 3 := by decide +kernel
theorem d22_35 : Dc q22 35 (.sipush 255) 3 := by decide +kernel
theorem d22_38 : Dc q22 38 (.if_icmp .gt 16) 3 := by decide +kernel
theorem d22_54 : Dc q22 54 (.aload 5) 2 := by decide +kernel
theorem d22_56 : Dc q22 56 .areturn 1 := by decide +kernel
theorem pd_32 : parseMethodDescriptor "([CI[BII)I" = some ⟨[(.array .char), .int, (.array .byte), .int, .int], some .int⟩ := by decide +kernel
theorem pd_33 : parseMethodDescriptor "([CII)[B" = some ⟨[(.array .char), .int, .int], some (.array .byte)⟩ := by decide +kernel
theorem d22_57 : Dc q22 57 (.aload_n 3) 1 := by decide +kernel
theorem d22_58 : Dc q22 58 .areturn 1 := by decide +kernel
theorem d24_0 : Dc q24 0 (.iload_n 1) 1 := by decide +kernel
theorem d24_1 : Dc q24 1 (.aload_n 0) 1 := by decide +kernel
theorem d24_2 : Dc q24 2 .arraylength 1 := by decide +kernel
theorem d24_3 : Dc q24 3 .isub 1 := by decide +kernel
theorem d24_4 : Dc q24 4 (.bipush 31) 2 := by decide +kernel
theorem d24_6 : Dc q24 6 .iushr 1 := by decide +kernel
theorem d24_7 : Dc q24 7 .i2b 1 := by decide +kernel
theorem d24_8 : Dc q24 8 .ireturn 1 := by decide +kernel
theorem d3_0 : Dc q3 0 (.aload_n 0) 1 := by decide +kernel
theorem d3_1 : Dc q3 1 (.invokespecial 1) 3 := by decide +kernel
theorem d3_4 : Dc q3 4 (.iload_n 3) 1 := by decide +kernel
theorem d3_5 : Dc q3 5 (.ifCond .ne 22) 3 := by decide +kernel
theorem d3_27 : Dc q3 27 (.getstatic 38) 3 := by decide +kernel
theorem d3_30 : Dc q3 30 (.ifCond .eq 28) 3 := by decide +kernel
theorem d3_33 : Dc q3 33 (.aload_n 1) 1 := by decide +kernel
theorem d3_34 : Dc q3 34 (.iload_n 2) 1 := by decide +kernel
theorem d3_35 : Dc q3 35 (.iload_n 3) 1 := by decide +kernel
theorem d3_36 : Dc q3 36 (.invokestatic 177) 3 := by decide +kernel
theorem d3_39 : Dc q3 39 (.astore 5) 2 := by decide +kernel
theorem d3_41 : Dc q3 41 (.aload_n 0) 1 := by decide +kernel
theorem d3_42 : Dc q3 42 (.aload 5) 2 := by decide +kernel
theorem d3_44 : Dc q3 44 (.iload_n 3) 1 := by decide +kernel
theorem d3_45 : Dc q3 45 (.invokestatic 47) 3 := by decide +kernel
theorem d3_48 : Dc q3 48 (.putfield 15) 3 := by decide +kernel
theorem d3_51 : Dc q3 51 (.aload_n 0) 1 := by decide +kernel
theorem d3_52 : Dc q3 52 (.aload 5) 2 := by decide +kernel
theorem d3_54 : Dc q3 54 (.putfield 9) 3 := by decide +kernel
theorem d3_57 : Dc q3 57 .return_ 1 := by decide +kernel
theorem pd_34 : parseMethodDescriptor "([BI)B" = some ⟨[(.array .byte), .int], some .byte⟩ := by decide +kernel
theorem d2_0 : Dc q2 0 (.aload_n 0) 1 := by decide +kernel
theorem d2_1 : Dc q2 1 (.aload_n 1) 1 := by decide +kernel
theorem d2_2 : Dc q2 2 (.iconst 0) 1 := by decide +kernel
theorem d2_3 : Dc q2 3 (.aload_n 1) 1 := by decide +kernel
theorem d2_4 : Dc q2 4 .arraylength 1 := by decide +kernel
theorem d2_5 : Dc q2 5 .aconst_null 1 := by decide +kernel
theorem d2_6 : Dc q2 6 (.invokespecial 27) 3 := by decide +kernel
theorem d2_9 : Dc q2 9 .return_ 1 := by decide +kernel
theorem pd_35 : parseMethodDescriptor "([CIILjava/lang/Void;)V" = some ⟨[(.array .char), .int, .int, (.object "java/lang/Void")], none⟩ := by decide +kernel
abbrev K4 : List (String × String × Nat) := [("\\\\", "com/example/aligned_index/alignedindex/inspect/Inspector", 122), ("\\t", "com/example/aligned_index/alignedindex/inspect/Inspector", 127), ("\\n", "com/example/aligned_index/alignedindex/inspect/Inspector", 129), ("\\r", "com/example/aligned_index/alignedindex/inspect/Inspector", 131)]
def Lds (Z : State) (h : Heap) (a b : Addr) (LL : List (String × Addr × String × Nat)) : Prop := ∀ x ∈ LL, (x.1, x.2.2) ∈ K4 ∧ ∃ sb, Hel Z h x.2.1 sb x.1 ∧ x.2.1 ≠ a ∧ sb ≠ a ∧ x.2.1 ≠ b ∧ sb ≠ b
theorem Lds.nil {Z : State} {h : Heap} {a b : Addr} : Lds Z h a b [] := fun x hx => by simp at hx
theorem Lds.ext {Z : State} {h h' : Heap} {a b : Addr} {LL : List (String × Addr × String × Nat)} (F : Lds Z h a b LL) (E : Ext h h') : Lds Z h' a b LL := fun x hx => by
  obtain ⟨q, sb, H, r⟩ := F x hx
  exact ⟨q, sb, H.ext E, r⟩
theorem Lds.step {Z : State} {h h' : Heap} {a b bq : Addr} {LL : List (String × Addr × String × Nat)} (F : Lds Z h a b LL) (K : Keep h h' [a, b]) (e : bq = b ∨ h.size ≤ bq) : Lds Z h' a bq LL := fun x hx => by
  obtain ⟨q, sb, H, n1, n2, n3, n4⟩ := F x hx
  refine ⟨q, sb, H.keep K (ninS n1 (ninS n3 nin0)) (ninS n2 (ninS n4 nin0)), n1, n2, ?_, ?_⟩
  · rcases e with rfl | e
    · exact n3
    · exact Nat.ne_of_lt (Nat.lt_of_lt_of_le H.lt0 e)
  · rcases e with rfl | e
    · exact n4
    · exact Nat.ne_of_lt (Nat.lt_of_lt_of_le H.lt1 e)
theorem GoS.ldcE {l : Launch} {R : Room} {Z : State} {n0 : Nat} {y : MethodName} {code : ByteArray} {ml : Nat} {ret : Option FieldType} {Q : Option Value → Heap → List (String × Addr × String × Nat) → Prop} {h0 : Heap} {LL : List (String × Addr × String × Nat)} {cells slots : Nat} {h : Heap} {pc pc' : Nat} {Ls : Array Slot} {st : List Value} {a0 : Array Value} {i cells' slots' : Nat} {text : String} {k : Int32} {a b : Addr} (w : (Jvm.Cond.stringLink y.cls i text).before a0 Z = true) (wS : ∀ a ∈ Bundle.stringAtoms, a.before a0 Z = true) (hh : Jvm.Lit.constHeld Z y.cls i) (hcw : Jvm.Lit.compactW.before a0 Z = true) (K0 : Keep h0 h []) (L : Lds Z h a b LL) (hk : (text, y.cls, i) ∈ K4) (hu : ∀ q ∈ K4, q.1 = text → q.2 = (y.cls, i))
    (ht : (∀ c ∈ text.toList, c.toNat < 256) ∧ text.toList.map (fun c => Value.int (Jvm.Lit.byteI c.toNat.toUInt16)) = [by8 92, by8 k]) (hl2 : text.toList.length = 2) (hd : decode code pc = .ok (.ldc i, 2)) (ha : h0.size ≤ a) (ha' : a < h.size) (hb : h0.size ≤ b) (hb' : b < h.size) (hc' : cells + 2 = cells') (hs' : slots + 12 = slots') (hc : cells' ≤ R.cells) (hs : slots' ≤ R.slots) (hp : pc + 2 = pc')
    (kk : ∀ (h' : Heap) (s sb : Addr) (LL' : List (String × Addr × String × Nat)), Ext h h' → Exa Z h' s "java/lang/String" → Lit2 Z h' s sb k → sb ≠ b → sb ≠ a → Lds Z h' a b LL' → GoS l R Z n0 y code ml ret Q h0 LL' cells' slots' h' pc' Ls (.ref s :: st)) : GoS l R Z n0 y code ml ret Q h0 LL cells slots h pc Ls st := by
  by_cases hx : ∃ s, (text, s, y.cls, i) ∈ LL
  · obtain ⟨s, hm⟩ := hx
    obtain ⟨-, sb, H, n1, n2, n3, n4⟩ := L _ hm
    refine GoS.more (cells' := cells') (slots' := slots') ?_ (hc' ▸ Nat.le_add_right _ _) (hs' ▸ Nat.le_add_right _ _)
    refine GoS.ldcAgain w hm hd hp ?_
    obtain ⟨kb, z, vs, x1, x2, x3, x4, x5, x6, x7⟩ := H
    have e : vs = [by8 92, by8 k] := x6.2.symm.trans ht.2
    subst e
    have ez : z = 2 := own_z2 x7
    subst ez
    exact kk h s sb LL ⟨Nat.le_refl _, fun _ _ q => q⟩ x1 ⟨kb, x2, x3, x4, x5⟩ n4 n2 L
  · refine GoS.ldcS (n := 8) (z := 2) (vs := [by8 92, by8 k]) w wS hh hcw K0 ?_ ht (by decide) rfl hd (by rw [hl2]; decide) (by decide) hc' hs' hc hs hp ?_
    · intro x hm e
      have q := hu _ (L x hm).1 e
      exact absurd ⟨x.2.1, by rw [← e]; have : x = (x.1, x.2.1, x.2.2) := rfl; rw [this, q] at hm; exact hm⟩ hx
    · intro h' s sb kb E F1 F2 F3 F4 F5 P
      have na : s ≠ a ∧ sb ≠ a ∧ s ≠ b ∧ sb ≠ b := by
        rcases P with ⟨p1, p2⟩ | ⟨p1, p2⟩
        · exact ⟨Nat.ne_of_lt (Nat.lt_of_lt_of_le p1 ha), Nat.ne_of_lt (Nat.lt_of_lt_of_le p2 ha), Nat.ne_of_lt (Nat.lt_of_lt_of_le p1 hb), Nat.ne_of_lt (Nat.lt_of_lt_of_le p2 hb)⟩
        · exact ⟨Nat.ne_of_gt (Nat.lt_of_lt_of_le ha' p1), Nat.ne_of_gt (Nat.lt_of_lt_of_le ha' p2), Nat.ne_of_gt (Nat.lt_of_lt_of_le hb' p1), Nat.ne_of_gt (Nat.lt_of_lt_of_le hb' p2)⟩
      refine kk h' s sb _ E F1 ⟨kb, F2, F3, F4, F5⟩ na.2.2.2 na.2.1 ?_
      intro x hm
      rcases List.mem_cons.mp hm with rfl | hm
      · exact ⟨hk, sb, ⟨kb, 2, _, F1, F2, F3, F4, F5, ht, rfl⟩, na⟩
      · exact L.ext E x hm
theorem Bld.toN {Z : State} {h : Heap} {a b : Addr} {m N i : Nat} {es : List Int32} (F : Bld Z h a b m N i es) (e : i = N) : Bld Z h a b m N N es := by subst e; exact F
theorem esc_end {es cs E : List Int32} {i : Nat} (h : es ++ escs (cs.drop i) = E) (hl : i = cs.length) : es = E := by subst hl; rw [← h]; simp [escs]
theorem own_tne {t b bq : Addr} {h : Heap} (n : t ≠ b) (l : t < h.size) (e : bq = b ∨ h.size ≤ bq) : t ≠ bq := by
  rcases e with rfl | e
  · exact n
  · exact Nat.ne_of_lt (Nat.lt_of_lt_of_le l e)
theorem own_ltof (i k : Nat) (h : Int32.ofNat i < Int32.ofNat k) (hk : k ≤ 3) (hi : i ≤ 3) : i < k := by
  have : ∀ k : Fin 4, ∀ i : Fin 4, Int32.ofNat i.val < Int32.ofNat k.val → i.val < k.val := by decide +kernel
  exact this ⟨k, by omega⟩ ⟨i, by omega⟩ h
theorem own_geof (i k : Nat) (h : ¬ Int32.ofNat i < Int32.ofNat k) (hk : k ≤ 3) (hi : i ≤ k) : i = k := by
  rcases Nat.lt_or_ge i k with q | q
  · exact absurd (own_lt i k q (by omega)) h
  · omega
theorem own_n3 (k : Nat) (h : k ≤ 3) : (¬ Int32.ofNat k < (0 : Int32)) ∧ (Int32.ofNat k).toNatClampNeg ≤ 3 := by
  have : ∀ k : Fin 4, (¬ Int32.ofNat k.val < (0 : Int32)) ∧ (Int32.ofNat k.val).toNatClampNeg ≤ 3 := by decide +kernel
  exact this ⟨k, Nat.lt_succ_of_le h⟩
theorem k4a_122 : ("\\\\", "com/example/aligned_index/alignedindex/inspect/Inspector", 122) ∈ K4 := by decide
theorem k4b_122 : ∀ q ∈ K4, q.1 = "\\\\" → q.2 = ("com/example/aligned_index/alignedindex/inspect/Inspector", 122) := by decide
theorem k4c_122 : (∀ c ∈ ("\\\\" : String).toList, c.toNat < 256) ∧ ("\\\\" : String).toList.map (fun c => Value.int (Jvm.Lit.byteI c.toNat.toUInt16)) = [by8 92, by8 92] := ⟨by decide, by decide⟩
theorem k4a_127 : ("\\t", "com/example/aligned_index/alignedindex/inspect/Inspector", 127) ∈ K4 := by decide
theorem k4b_127 : ∀ q ∈ K4, q.1 = "\\t" → q.2 = ("com/example/aligned_index/alignedindex/inspect/Inspector", 127) := by decide
theorem k4c_127 : (∀ c ∈ ("\\t" : String).toList, c.toNat < 256) ∧ ("\\t" : String).toList.map (fun c => Value.int (Jvm.Lit.byteI c.toNat.toUInt16)) = [by8 92, by8 116] := ⟨by decide, by decide⟩
theorem k4a_129 : ("\\n", "com/example/aligned_index/alignedindex/inspect/Inspector", 129) ∈ K4 := by decide
theorem k4b_129 : ∀ q ∈ K4, q.1 = "\\n" → q.2 = ("com/example/aligned_index/alignedindex/inspect/Inspector", 129) := by decide
theorem k4c_129 : (∀ c ∈ ("\\n" : String).toList, c.toNat < 256) ∧ ("\\n" : String).toList.map (fun c => Value.int (Jvm.Lit.byteI c.toNat.toUInt16)) = [by8 92, by8 110] := ⟨by decide, by decide⟩
theorem k4a_131 : ("\\r", "com/example/aligned_index/alignedindex/inspect/Inspector", 131) ∈ K4 := by decide
theorem k4b_131 : ∀ q ∈ K4, q.1 = "\\r" → q.2 = ("com/example/aligned_index/alignedindex/inspect/Inspector", 131) := by decide
theorem k4c_131 : (∀ c ∈ ("\\r" : String).toList, c.toNat < 256) ∧ ("\\r" : String).toList.map (fun c => Value.int (Jvm.Lit.byteI c.toNat.toUInt16)) = [by8 92, by8 114] := ⟨by decide, by decide⟩
theorem d5_23 : Dc q5 23 (.iload 4) 2 := by decide +kernel
theorem d5_25 : Dc q5 25 (.iload_n 3) 1 := by decide +kernel
theorem d5_26 : Dc q5 26 (.if_icmp .ge 107) 3 := by decide +kernel
theorem d5_133 : Dc q5 133 (.aload_n 1) 1 := by decide +kernel
theorem d5_134 : Dc q5 134 (.invokevirtual 136) 3 := by decide +kernel
theorem d5_137 : Dc q5 137 .areturn 1 := by decide +kernel
theorem pd_36 : parseMethodDescriptor "()Ljava/lang/String;" = some ⟨[], some (.object "java/lang/String")⟩ := by decide +kernel
theorem d5_29 : Dc q5 29 (.aload_n 2) 1 := by decide +kernel
theorem d5_30 : Dc q5 30 (.iload 4) 2 := by decide +kernel
theorem d5_32 : Dc q5 32 .caload 1 := by decide +kernel
theorem d5_33 : Dc q5 33 (.istore 5) 2 := by decide +kernel
theorem d5_35 : Dc q5 35 (.iload 5) 2 := by decide +kernel
theorem d5_37 : Dc q5 37 (.lookupswitch 83 #[(9, 53), (10, 63), (13, 73), (92, 43)]) 43 := by decide +kernel
theorem d5_80 : Dc q5 80 (.aload_n 1) 1 := by decide +kernel
theorem d5_81 : Dc q5 81 (.ldc 122) 2 := by decide +kernel
theorem d5_83 : Dc q5 83 (.invokevirtual 124) 3 := by decide +kernel
theorem d5_86 : Dc q5 86 .pop 1 := by decide +kernel
theorem d5_87 : Dc q5 87 (.goto 40) 3 := by decide +kernel
theorem d5_90 : Dc q5 90 (.aload_n 1) 1 := by decide +kernel
theorem d5_91 : Dc q5 91 (.ldc 127) 2 := by decide +kernel
theorem d5_93 : Dc q5 93 (.invokevirtual 124) 3 := by decide +kernel
theorem d5_96 : Dc q5 96 .pop 1 := by decide +kernel
theorem d5_97 : Dc q5 97 (.goto 30) 3 := by decide +kernel
theorem d5_100 : Dc q5 100 (.aload_n 1) 1 := by decide +kernel
theorem d5_101 : Dc q5 101 (.ldc 129) 2 := by decide +kernel
theorem d5_103 : Dc q5 103 (.invokevirtual 124) 3 := by decide +kernel
theorem d5_106 : Dc q5 106 .pop 1 := by decide +kernel
theorem d5_107 : Dc q5 107 (.goto 20) 3 := by decide +kernel
theorem d5_110 : Dc q5 110 (.aload_n 1) 1 := by decide +kernel
theorem d5_111 : Dc q5 111 (.ldc 131) 2 := by decide +kernel
theorem d5_113 : Dc q5 113 (.invokevirtual 124) 3 := by decide +kernel
theorem d5_116 : Dc q5 116 .pop 1 := by decide +kernel
theorem d5_117 : Dc q5 117 (.goto 10) 3 := by decide +kernel
theorem d5_120 : Dc q5 120 (.aload_n 1) 1 := by decide +kernel
theorem d5_121 : Dc q5 121 (.iload 5) 2 := by decide +kernel
theorem d5_123 : Dc q5 123 (.invokevirtual 133) 3 := by decide +kernel
theorem d5_126 : Dc q5 126 .pop 1 := by decide +kernel
theorem d5_127 : Dc q5 127 (.iinc 4 1) 3 := by decide +kernel
theorem d5_130 : Dc q5 130 (.goto (-107)) 3 := by decide +kernel
theorem pd_37 : parseMethodDescriptor "(Ljava/lang/String;)Ljava/lang/StringBuilder;" = some ⟨[(.object "java/lang/String")], some (.object "java/lang/StringBuilder")⟩ := by decide +kernel
theorem pd_38 : parseMethodDescriptor "(C)Ljava/lang/StringBuilder;" = some ⟨[.char], some (.object "java/lang/StringBuilder")⟩ := by decide +kernel
theorem d5_0 : Dc q5 0 (.new 107) 3 := by decide +kernel
theorem d5_3 : Dc q5 3 .dup 1 := by decide +kernel
theorem d5_4 : Dc q5 4 (.aload_n 0) 1 := by decide +kernel
theorem d5_5 : Dc q5 5 (.invokevirtual 109) 3 := by decide +kernel
theorem d5_8 : Dc q5 8 (.invokespecial 115) 3 := by decide +kernel
theorem d5_11 : Dc q5 11 (.astore_n 1) 1 := by decide +kernel
theorem d5_12 : Dc q5 12 (.aload_n 0) 1 := by decide +kernel
theorem d5_13 : Dc q5 13 (.invokevirtual 118) 3 := by decide +kernel
theorem d5_16 : Dc q5 16 (.astore_n 2) 1 := by decide +kernel
theorem d5_17 : Dc q5 17 (.aload_n 2) 1 := by decide +kernel
theorem d5_18 : Dc q5 18 .arraylength 1 := by decide +kernel
theorem d5_19 : Dc q5 19 (.istore_n 3) 1 := by decide +kernel
theorem d5_20 : Dc q5 20 (.iconst 0) 1 := by decide +kernel
theorem d5_21 : Dc q5 21 (.istore 4) 2 := by decide +kernel
theorem pd_39 : parseMethodDescriptor "()[C" = some ⟨[], some (.array .char)⟩ := by decide +kernel
theorem pn_8 : plainName "com/example/aligned_index/alignedindex/inspect/Inspector" = true := by first | (simp [plainName, overriddenIn]; done) | decide +kernel
theorem own_wd1 {c : Int32} (h : ¬ (if Spc c then (1 : Int32) else 0) = (0 : Int32)) : wd c = 2 := by
  by_cases q : Spc c
  · simp [wd, q]
  · rw [if_neg q] at h; exact absurd rfl h
theorem own_wd0 {c : Int32} (h : (if Spc c then (1 : Int32) else 0) = (0 : Int32)) : wd c = 1 := by
  by_cases q : Spc c
  · rw [if_pos q] at h; exact absurd h (by decide)
  · simp [wd, q]
theorem own_sp1 {c : Int32} (h : ¬ (if Spc c then (1 : Int32) else 0) = (0 : Int32)) : Spc c := by
  by_cases q : Spc c
  · exact q
  · rw [if_neg q] at h; exact absurd rfl h
theorem own_sp0 {c : Int32} (h : (if Spc c then (1 : Int32) else 0) = (0 : Int32)) : ¬ Spc c := fun q => by
  rw [if_pos q] at h; exact absurd h (by decide)
theorem esc_d0 (c : Int32) (cs : List Int32) : (escs (c :: cs)).drop 0 = esc c ++ escs cs := by simp [escs]
theorem esc_d1 (c d : Int32) (cs : List Int32) : (escs (c :: d :: cs)).drop (esc c).length = esc d ++ escs cs := by simp [escs]
theorem esc_d2 (c d e : Int32) (cs : List Int32) : (escs (c :: d :: e :: cs)).drop ((esc c).length + (esc d).length) = esc e ++ escs cs := by
  simp only [escs, List.flatMap_cons]
  rw [← List.append_assoc, ← List.length_append, List.drop_left]
theorem esc_l2 (c : Int32) : (esc c).length ≤ 2 := by unfold esc; split <;> simp
theorem own_three {P : Int32 → Prop} {c d e : Int32} (h : P c) (g : P d) (k : P e) : ∀ x ∈ [c, d, e], P x := fun x he => (List.mem_cons.mp he).elim (fun q => q ▸ h) (own_two g k x)
theorem d39_0 : Dc q39 0 (.iload_n 0) 1 := by decide +kernel
theorem d39_1 : Dc q39 1 (.bipush 92) 2 := by decide +kernel
theorem d39_3 : Dc q39 3 (.if_icmp .eq 21) 3 := by decide +kernel
theorem d39_6 : Dc q39 6 (.iload_n 0) 1 := by decide +kernel
theorem d39_7 : Dc q39 7 (.bipush 9) 2 := by decide +kernel
theorem d39_9 : Dc q39 9 (.if_icmp .eq 15) 3 := by decide +kernel
theorem d39_12 : Dc q39 12 (.iload_n 0) 1 := by decide +kernel
theorem d39_13 : Dc q39 13 (.bipush 10) 2 := by decide +kernel
theorem d39_15 : Dc q39 15 (.if_icmp .eq 9) 3 := by decide +kernel
theorem d39_18 : Dc q39 18 (.iload_n 0) 1 := by decide +kernel
theorem d39_19 : Dc q39 19 (.bipush 13) 2 := by decide +kernel
theorem d39_21 : Dc q39 21 (.if_icmp .ne 7) 3 := by decide +kernel
theorem d39_24 : Dc q39 24 (.iconst 1) 1 := by decide +kernel
theorem d39_25 : Dc q39 25 (.goto 4) 3 := by decide +kernel
theorem d39_28 : Dc q39 28 (.iconst 0) 1 := by decide +kernel
theorem d39_29 : Dc q39 29 .ireturn 1 := by decide +kernel
theorem pn_9 : plainName "com/example/aligned_index/alignedindex/inspect/InspectorEscapePinLaw" = true := by first | (simp [plainName, overriddenIn]; done) | decide +kernel
theorem d38_0 : Dc q38 0 (.iload_n 0) 1 := by decide +kernel
theorem d38_1 : Dc q38 1 (.invokestatic 9) 3 := by decide +kernel
theorem d38_4 : Dc q38 4 (.ifCond .eq 7) 3 := by decide +kernel
theorem d38_7 : Dc q38 7 (.iconst 2) 1 := by decide +kernel
theorem d38_8 : Dc q38 8 (.goto 4) 3 := by decide +kernel
theorem d38_11 : Dc q38 11 (.iconst 1) 1 := by decide +kernel
theorem d38_12 : Dc q38 12 .ireturn 1 := by decide +kernel
theorem d45_0 : Dc q45 0 (.iload_n 0) 1 := by decide +kernel
theorem d45_1 : Dc q45 1 (.bipush 92) 2 := by decide +kernel
theorem d45_3 : Dc q45 3 (.if_icmp .ne 6) 3 := by decide +kernel
theorem d45_6 : Dc q45 6 (.bipush 92) 2 := by decide +kernel
theorem d45_8 : Dc q45 8 .ireturn 1 := by decide +kernel
theorem d45_9 : Dc q45 9 (.iload_n 0) 1 := by decide +kernel
theorem d45_10 : Dc q45 10 (.bipush 9) 2 := by decide +kernel
theorem d45_12 : Dc q45 12 (.if_icmp .ne 6) 3 := by decide +kernel
theorem d45_15 : Dc q45 15 (.bipush 116) 2 := by decide +kernel
theorem d45_17 : Dc q45 17 .ireturn 1 := by decide +kernel
theorem d45_18 : Dc q45 18 (.iload_n 0) 1 := by decide +kernel
theorem d45_19 : Dc q45 19 (.bipush 10) 2 := by decide +kernel
theorem d45_21 : Dc q45 21 (.if_icmp .ne 6) 3 := by decide +kernel
theorem d45_24 : Dc q45 24 (.bipush 110) 2 := by decide +kernel
theorem d45_26 : Dc q45 26 .ireturn 1 := by decide +kernel
theorem d45_27 : Dc q45 27 (.bipush 114) 2 := by decide +kernel
theorem d45_29 : Dc q45 29 .ireturn 1 := by decide +kernel
theorem d40_0 : Dc q40 0 (.iload_n 2) 1 := by decide +kernel
theorem d40_1 : Dc q40 1 (.invokestatic 9) 3 := by decide +kernel
theorem d40_4 : Dc q40 4 (.ifCond .eq 33) 3 := by decide +kernel
theorem d40_7 : Dc q40 7 (.aload_n 0) 1 := by decide +kernel
theorem d40_8 : Dc q40 8 (.iload_n 1) 1 := by decide +kernel
theorem d40_9 : Dc q40 9 (.invokevirtual 15) 3 := by decide +kernel
theorem d40_12 : Dc q40 12 (.bipush 92) 2 := by decide +kernel
theorem d40_14 : Dc q40 14 (.if_icmp .ne 21) 3 := by decide +kernel
theorem d40_17 : Dc q40 17 (.aload_n 0) 1 := by decide +kernel
theorem d40_18 : Dc q40 18 (.iload_n 1) 1 := by decide +kernel
theorem d40_19 : Dc q40 19 (.iconst 1) 1 := by decide +kernel
theorem d40_20 : Dc q40 20 .iadd 1 := by decide +kernel
theorem d40_21 : Dc q40 21 (.invokevirtual 15) 3 := by decide +kernel
theorem d40_24 : Dc q40 24 (.iload_n 2) 1 := by decide +kernel
theorem d40_25 : Dc q40 25 (.invokestatic 21) 3 := by decide +kernel
theorem d40_28 : Dc q40 28 (.if_icmp .ne 7) 3 := by decide +kernel
theorem d40_31 : Dc q40 31 (.iconst 1) 1 := by decide +kernel
theorem d40_32 : Dc q40 32 (.goto 4) 3 := by decide +kernel
theorem d40_36 : Dc q40 36 .ireturn 1 := by decide +kernel
theorem d40_37 : Dc q40 37 (.aload_n 0) 1 := by decide +kernel
theorem d40_38 : Dc q40 38 (.iload_n 1) 1 := by decide +kernel
theorem d40_39 : Dc q40 39 (.invokevirtual 15) 3 := by decide +kernel
theorem d40_42 : Dc q40 42 (.iload_n 2) 1 := by decide +kernel
theorem d40_43 : Dc q40 43 (.if_icmp .ne 7) 3 := by decide +kernel
theorem d40_46 : Dc q40 46 (.iconst 1) 1 := by decide +kernel
theorem d40_47 : Dc q40 47 (.goto 4) 3 := by decide +kernel
theorem d40_51 : Dc q40 51 .ireturn 1 := by decide +kernel
theorem pd_40 : parseMethodDescriptor "(I)C" = some ⟨[.int], some .char⟩ := by decide +kernel
theorem pd_41 : parseMethodDescriptor "(C)C" = some ⟨[.char], some .char⟩ := by decide +kernel
theorem d1_0 : Dc q1 0 (.iload_n 0) 1 := by decide +kernel
theorem d1_1 : Dc q1 1 (.ldc 7) 2 := by decide +kernel
theorem d1_3 : Dc q1 3 .iand 1 := by decide +kernel
theorem d1_4 : Dc q1 4 (.ifCond .eq 33) 3 := by decide +kernel
theorem d1_7 : Dc q1 7 (.iload_n 0) 1 := by decide +kernel
theorem d1_8 : Dc q1 8 (.iconst 3) 1 := by decide +kernel
theorem d1_9 : Dc q1 9 .iand 1 := by decide +kernel
theorem d1_10 : Dc q1 10 (.istore_n 1) 1 := by decide +kernel
theorem d1_11 : Dc q1 11 (.iload_n 1) 1 := by decide +kernel
theorem d1_12 : Dc q1 12 (.ifCond .ne 6) 3 := by decide +kernel
theorem d1_15 : Dc q1 15 (.bipush 92) 2 := by decide +kernel
theorem d1_17 : Dc q1 17 .ireturn 1 := by decide +kernel
theorem d1_18 : Dc q1 18 (.iload_n 1) 1 := by decide +kernel
theorem d1_19 : Dc q1 19 (.iconst 1) 1 := by decide +kernel
theorem d1_20 : Dc q1 20 (.if_icmp .ne 6) 3 := by decide +kernel
theorem d1_23 : Dc q1 23 (.bipush 9) 2 := by decide +kernel
theorem d1_25 : Dc q1 25 .ireturn 1 := by decide +kernel
theorem d1_26 : Dc q1 26 (.iload_n 1) 1 := by decide +kernel
theorem d1_27 : Dc q1 27 (.iconst 2) 1 := by decide +kernel
theorem d1_28 : Dc q1 28 (.if_icmp .ne 6) 3 := by decide +kernel
theorem d1_31 : Dc q1 31 (.bipush 10) 2 := by decide +kernel
theorem d1_33 : Dc q1 33 .ireturn 1 := by decide +kernel
theorem d1_34 : Dc q1 34 (.bipush 13) 2 := by decide +kernel
theorem d1_36 : Dc q1 36 .ireturn 1 := by decide +kernel
theorem d1_37 : Dc q1 37 (.iload_n 0) 1 := by decide +kernel
theorem d1_38 : Dc q1 38 (.ldc 8) 2 := by decide +kernel
theorem d1_40 : Dc q1 40 .iand 1 := by decide +kernel
theorem d1_41 : Dc q1 41 .i2c 1 := by decide +kernel
theorem d1_42 : Dc q1 42 .ireturn 1 := by decide +kernel
theorem d3_8 : Dc q3 8 (.aload_n 0) 1 := by decide +kernel
theorem d3_9 : Dc q3 9 (.ldc 7) 2 := by decide +kernel
theorem d3_11 : Dc q3 11 (.getfield 9) 3 := by decide +kernel
theorem d3_14 : Dc q3 14 (.putfield 9) 3 := by decide +kernel
theorem d3_17 : Dc q3 17 (.aload_n 0) 1 := by decide +kernel
theorem d3_18 : Dc q3 18 (.ldc 7) 2 := by decide +kernel
theorem d3_20 : Dc q3 20 (.getfield 15) 3 := by decide +kernel
theorem d3_23 : Dc q3 23 (.putfield 15) 3 := by decide +kernel
theorem d3_26 : Dc q3 26 .return_ 1 := by decide +kernel
theorem tx_0 : (∀ c ∈ ("" : String).toList, c.toNat < 256) ∧ ("" : String).toList.map (fun c => Value.int (Jvm.Lit.byteI c.toNat.toUInt16)) = [] := ⟨by decide, by decide⟩
theorem pd_42 : parseMethodDescriptor "([C)V" = some ⟨[(.array .char)], none⟩ := by decide +kernel
theorem pd_43 : parseMethodDescriptor "(Ljava/lang/String;)Ljava/lang/String;" = some ⟨[(.object "java/lang/String")], some (.object "java/lang/String")⟩ := by decide +kernel
theorem pd_44 : parseMethodDescriptor "(C)I" = some ⟨[.char], some .int⟩ := by decide +kernel
theorem pd_45 : parseMethodDescriptor "(Ljava/lang/String;IC)Z" = some ⟨[(.object "java/lang/String"), .int, .char], some .boolean⟩ := by decide +kernel
theorem own_and3 (x : Int32) : (x &&& (3 : Int32)) = (0 : Int32) ∨ (x &&& (3 : Int32)) = (1 : Int32) ∨ (x &&& (3 : Int32)) = (2 : Int32) ∨ (x &&& (3 : Int32)) = (3 : Int32) := by
  obtain ⟨h1, h2⟩ := own_and3b x
  have e : (4 : Int32).toInt = 4 := by decide
  have e' : (3 : Int32).toInt = 3 := by decide
  generalize (x &&& (3 : Int32)) = z at h1 h2 ⊢
  have q : z.toInt = 0 ∨ z.toInt = 1 ∨ z.toInt = 2 ∨ z.toInt = 3 := by omega
  rcases q with q | q | q | q
  · exact Or.inl (OwnNum.eqI (q.trans (by decide)))
  · exact Or.inr (Or.inl (OwnNum.eqI (q.trans (by decide))))
  · exact Or.inr (Or.inr (Or.inl (OwnNum.eqI (q.trans (by decide)))))
  · exact Or.inr (Or.inr (Or.inr ((OwnNum.eqI (q.trans (by decide))))))
abbrev FV (Z : State) (h : Heap) (a : Addr) (v : Value) : Prop := Fld Z h a "java/lang/AbstractStringBuilder" "value" "[B" v
abbrev FK (Z : State) (h : Heap) (a : Addr) (v : Value) : Prop := Fld Z h a "java/lang/AbstractStringBuilder" "coder" "B" v
abbrev FN (Z : State) (h : Heap) (a : Addr) (v : Value) : Prop := Fld Z h a "java/lang/AbstractStringBuilder" "count" "I" v
abbrev FM (Z : State) (h : Heap) (a : Addr) (v : Value) : Prop := Fld Z h a "java/lang/AbstractStringBuilder" "maybeLatin1" "Z" v
abbrev GV (Z : State) (h : Heap) (a : Addr) (v : Value) : Prop := Fld Z h a "java/lang/String" "value" "[B" v
abbrev GK (Z : State) (h : Heap) (a : Addr) (v : Value) : Prop := Fld Z h a "java/lang/String" "coder" "B" v
abbrev Zcp (Z : State) (v : Value) : Prop := Sta Z Z.heap "java/lang/String" "COMPACT_STRINGS" "Z" v
abbrev Zad (Z : State) (v : Value) : Prop := Sta Z Z.heap "java/lang/StringUTF16" "$assertionsDisabled" "Z" v
abbrev Zhi (Z : State) (v : Value) : Prop := Sta Z Z.heap "java/lang/StringUTF16" "HI_BYTE_SHIFT" "I" v
abbrev Zlo (Z : State) (v : Value) : Prop := Sta Z Z.heap "java/lang/StringUTF16" "LO_BYTE_SHIFT" "I" v
abbrev Zfm (Z : State) (v : Value) : Prop := Sta Z Z.heap "jdk/internal/util/Preconditions" "SIOOBE_FORMATTER" "Ljava/util/function/BiFunction;" v
abbrev EB (Z : State) (h : Heap) (a : Addr) : Prop := Exa Z h a "java/lang/StringBuilder"
abbrev ES (Z : State) (h : Heap) (a : Addr) : Prop := Exa Z h a "java/lang/String"
abbrev EA (Z : State) (h : Heap) (a : Addr) : Prop := Exa Z h a "[B"
abbrev AB (Z : State) (h : Heap) (a : Addr) (k : ClassId) (z : Int32) (vs : List Value) (d : Value) : Prop := Arv Z h a k .byte z vs d
abbrev M_0 : MethodName := ⟨"java/lang/String", "coder", "()B"⟩
abbrev M_1 : MethodName := ⟨"java/lang/String", "isLatin1", "()Z"⟩
abbrev M_2 : MethodName := ⟨"jdk/internal/util/Preconditions", "checkIndex", "(IILjava/util/function/BiFunction;)I"⟩
abbrev M_3 : MethodName := ⟨"java/lang/String", "checkIndex", "(II)V"⟩
abbrev M_4 : MethodName := ⟨"java/lang/StringUTF16", "length", "([B)I"⟩
abbrev M_5 : MethodName := ⟨"java/lang/StringUTF16", "putChar", "([BII)V"⟩
abbrev M_6 : MethodName := ⟨"java/lang/StringUTF16", "getChar", "([BI)C"⟩
abbrev M_7 : MethodName := ⟨"java/lang/StringUTF16", "checkIndex", "(I[B)V"⟩
abbrev M_8 : MethodName := ⟨"jdk/internal/util/Preconditions", "checkFromIndexSize", "(IIILjava/util/function/BiFunction;)I"⟩
abbrev M_9 : MethodName := ⟨"java/lang/String", "checkBoundsOffCount", "(III)I"⟩
abbrev M_10 : MethodName := ⟨"java/lang/StringUTF16", "checkBoundsOffCount", "(II[B)V"⟩
abbrev M_11 : MethodName := ⟨"java/lang/StringUTF16", "putCharSB", "([BII)V"⟩
abbrev M_12 : MethodName := ⟨"java/lang/StringUTF16", "newBytesLength", "(I)I"⟩
abbrev M_13 : MethodName := ⟨"java/lang/StringUTF16", "newBytesFor", "(I)[B"⟩
abbrev M_14 : MethodName := ⟨"java/lang/StringUTF16", "inflate", "([BI[BII)V"⟩
abbrev M_15 : MethodName := ⟨"java/lang/StringLatin1", "inflate", "([BI[BII)V"⟩
abbrev M_16 : MethodName := ⟨"java/lang/AbstractStringBuilder", "isLatin1", "()Z"⟩
abbrev M_17 : MethodName := ⟨"java/lang/AbstractStringBuilder", "inflate", "()V"⟩
abbrev M_18 : MethodName := ⟨"java/lang/Math", "max", "(II)I"⟩
abbrev M_19 : MethodName := ⟨"java/lang/Math", "min", "(II)I"⟩
abbrev M_20 : MethodName := ⟨"jdk/internal/util/ArraysSupport", "newLength", "(III)I"⟩
abbrev M_21 : MethodName := ⟨"java/util/Arrays", "copyOf", "([BI)[B"⟩
abbrev M_22 : MethodName := ⟨"java/lang/AbstractStringBuilder", "newCapacity", "(I)I"⟩
abbrev M_23 : MethodName := ⟨"java/lang/AbstractStringBuilder", "ensureCapacityInternal", "(I)V"⟩
abbrev M_24 : MethodName := ⟨"java/lang/StringLatin1", "canEncode", "(C)Z"⟩
abbrev M_25 : MethodName := ⟨"java/lang/AbstractStringBuilder", "append", "(C)Ljava/lang/AbstractStringBuilder;"⟩
abbrev M_26 : MethodName := ⟨"java/lang/String", "length", "()I"⟩
abbrev M_27 : MethodName := ⟨"java/lang/AbstractStringBuilder", "inflateIfNeededFor", "(Ljava/lang/String;)V"⟩
abbrev M_28 : MethodName := ⟨"java/lang/String", "getBytes", "([BIB)V"⟩
abbrev M_29 : MethodName := ⟨"java/lang/AbstractStringBuilder", "putStringAt", "(ILjava/lang/String;)V"⟩
abbrev M_30 : MethodName := ⟨"java/lang/AbstractStringBuilder", "append", "(Ljava/lang/String;)Ljava/lang/AbstractStringBuilder;"⟩
abbrev M_31 : MethodName := ⟨"java/lang/StringBuilder", "append", "(C)Ljava/lang/StringBuilder;"⟩
abbrev M_32 : MethodName := ⟨"java/lang/StringBuilder", "append", "(Ljava/lang/String;)Ljava/lang/StringBuilder;"⟩
abbrev M_33 : MethodName := ⟨"java/lang/AbstractStringBuilder", "<init>", "(I)V"⟩
abbrev M_34 : MethodName := ⟨"java/lang/StringBuilder", "<init>", "(I)V"⟩
abbrev M_35 : MethodName := ⟨"java/util/Arrays", "checkLength", "(II)V"⟩
abbrev M_36 : MethodName := ⟨"java/util/Arrays", "copyOfRangeByte", "([BII)[B"⟩
abbrev M_37 : MethodName := ⟨"java/util/Arrays", "copyOfRange", "([BII)[B"⟩
abbrev M_38 : MethodName := ⟨"java/lang/AbstractStringBuilder", "getValue", "()[B"⟩
abbrev M_39 : MethodName := ⟨"java/lang/AbstractStringBuilder", "length", "()I"⟩
abbrev M_40 : MethodName := ⟨"java/lang/StringBuilder", "length", "()I"⟩
abbrev M_41 : MethodName := ⟨"java/lang/String", "<init>", "(Ljava/lang/AbstractStringBuilder;Ljava/lang/Void;)V"⟩
abbrev M_42 : MethodName := ⟨"java/lang/String", "<init>", "(Ljava/lang/StringBuilder;)V"⟩
abbrev M_43 : MethodName := ⟨"java/lang/StringBuilder", "toString", "()Ljava/lang/String;"⟩
abbrev M_44 : MethodName := ⟨"java/lang/StringLatin1", "inflate", "([BI[CII)V"⟩
abbrev M_45 : MethodName := ⟨"java/lang/StringUTF16", "getChars", "([BII[CI)V"⟩
abbrev M_46 : MethodName := ⟨"java/lang/StringLatin1", "toChars", "([B)[C"⟩
abbrev M_47 : MethodName := ⟨"java/lang/StringUTF16", "toChars", "([B)[C"⟩
abbrev M_48 : MethodName := ⟨"java/lang/String", "toCharArray", "()[C"⟩
abbrev M_49 : MethodName := ⟨"java/lang/StringLatin1", "charAt", "([BI)C"⟩
abbrev M_50 : MethodName := ⟨"java/lang/StringUTF16", "charAt", "([BI)C"⟩
abbrev M_51 : MethodName := ⟨"java/lang/String", "charAt", "(I)C"⟩
abbrev M_52 : MethodName := ⟨"java/lang/StringUTF16", "compress", "([CI[BII)I"⟩
abbrev M_53 : MethodName := ⟨"java/lang/StringUTF16", "toBytes", "([CII)[B"⟩
abbrev M_54 : MethodName := ⟨"java/lang/StringUTF16", "compress", "([CII)[B"⟩
abbrev M_55 : MethodName := ⟨"java/lang/StringUTF16", "coderFromArrayLen", "([BI)B"⟩
abbrev M_56 : MethodName := ⟨"java/lang/String", "<init>", "([CIILjava/lang/Void;)V"⟩
abbrev M_57 : MethodName := ⟨"java/lang/String", "<init>", "([C)V"⟩
abbrev M_58 : MethodName := ⟨"com/example/aligned_index/alignedindex/inspect/Inspector", "escape", "(Ljava/lang/String;)Ljava/lang/String;"⟩
abbrev M_59 : MethodName := ⟨"com/example/aligned_index/alignedindex/inspect/InspectorEscapePinLaw", "special", "(C)Z"⟩
abbrev M_60 : MethodName := ⟨"com/example/aligned_index/alignedindex/inspect/InspectorEscapePinLaw", "w", "(C)I"⟩
abbrev M_61 : MethodName := ⟨"com/example/aligned_index/alignedindex/inspect/InspectorEscapePinLaw", "code", "(C)C"⟩
abbrev M_62 : MethodName := ⟨"com/example/aligned_index/alignedindex/inspect/InspectorEscapePinLaw", "at", "(Ljava/lang/String;IC)Z"⟩
abbrev M_63 : MethodName := ⟨"com/example/aligned_index/alignedindex/inspect/InspectorEscapePinLaw", "pick", "(I)C"⟩
abbrev HW (a0 : Array Value) (Z : State) : Prop := ∀ d ∈ tables_1, d.before a0 Z = true
section Contracts
variable (l : Launch) (Z : State) (a0 : Array Value) {n0 : Nat}
theorem c_coder (hw : HW a0 Z) (h : Heap) (a : Addr) (cp : Int32) (hcp : ¬ (cp = (0 : Int32))) (scp : Zcp Z (.int cp)) (f : GK Z h a (.int 0)) :
    Con l M_0 q7 1 (some .byte) (rm4 0 0 0 0) Z n0 #[(.ref a)] h (fun v h' => v = some (.int 0) ∧ h = h') := by
  refine Con.of_go (plainFor_of_name pn_0) (Ls := #[.val (.ref a)]) ?_
  refine Go.old (fun old1 => ?_)
  refine Go.getstatic (pc' := 3) (host := "") (Or.inl (ww hw 45 rfl)) Via.refl (scp.ext old1.2) d7_0 rfl ?_
  refine Go.ifNo (pc' := 6) d7_3 (XT.i0_eq_f hcp) rfl ?_
  refine Go.aloadN (pc' := 7) d7_6 rfl rfl rfl ?_
  refine Go.getfield (pc' := 10) (host := "") (Or.inl (ww hw 27 rfl)) Via.refl f d7_7 rfl ?_
  refine Go.goto (pc' := 14) d7_10 (by decide) (by decide) ?_
  exact Go.retN (t := .byte) rfl (by simp) d7_14 ⟨rfl, rfl⟩
theorem c_isLatin1 (hw : HW a0 Z) (h : Heap) (a : Addr) (cp : Int32) (hcp : ¬ (cp = (0 : Int32))) (scp : Zcp Z (.int cp)) (f : GK Z h a (.int 0)) :
    Con l M_1 q11 1 (some .boolean) (rm4 0 0 0 0) Z n0 #[(.ref a)] h (fun v h' => v = some (.int 1) ∧ h = h') := by
  refine Con.of_go (plainFor_of_name pn_0) (Ls := #[.val (.ref a)]) ?_
  refine Go.old (fun old1 => ?_)
  refine Go.getstatic (pc' := 3) (host := "") (Or.inl (ww hw 45 rfl)) Via.refl (scp.ext old1.2) d11_0 rfl ?_
  refine Go.ifNo (pc' := 6) d11_3 (XT.i0_eq_f hcp) rfl ?_
  refine Go.aloadN (pc' := 7) d11_6 rfl rfl rfl ?_
  refine Go.getfield (pc' := 10) (host := "") (Or.inl (ww hw 27 rfl)) Via.refl f d11_7 rfl ?_
  refine Go.ifNo (pc' := 13) d11_10 (XT.i0_ne_f (by decide)) rfl ?_
  refine Go.iconst (pc' := 14) (v := 1) d11_13 rfl rfl ?_
  refine Go.goto (pc' := 18) d11_14 (by decide) (by decide) ?_
  exact Go.retN (t := .boolean) rfl (by simp) d11_18 ⟨rfl, rfl⟩
theorem c_preCheck (hw : HW a0 Z) (h : Heap) (i n : Int32) (wf : Value) (h1 : ¬ (i < (0 : Int32))) (h2 : i < n) (hwf : wf.isRef = true) :
    Con l M_2 q44 3 (some .int) (rm4 0 0 0 0) Z n0 #[(.int i), (.int n), wf] h (fun v h' => v = some (.int i) ∧ h = h') := by
  refine Con.of_go (plainFor_of_name pn_1) (Ls := #[.val (.int i), .val (.int n), .val wf]) (he := fun m => by rcases XT.refc hwf with rfl | ⟨_, rfl⟩ <;> rfl) ?_
  refine Go.iloadN (pc' := 1) d44_0 rfl rfl ?_
  refine Go.ifNo (pc' := 4) d44_1 (XT.i0_lt_f h1) rfl ?_
  refine Go.iloadN (pc' := 5) d44_4 rfl rfl ?_
  refine Go.iloadN (pc' := 6) d44_5 rfl rfl ?_
  refine Go.icmpYes (pc' := 16) d44_6 (XT.ii_lt_t h2) (by decide) (by decide) ?_
  refine Go.iloadN (pc' := 17) d44_16 rfl rfl ?_
  exact Go.retI rfl d44_17 ⟨rfl, rfl⟩
theorem c_strCheck (hw : HW a0 Z) (h : Heap) (i n : Int32) (wf : Value) (h1 : ¬ (i < (0 : Int32))) (h2 : i < n) (hwf : wf.isRef = true) (sfm : Zfm Z wf) :
    Con l M_3 q43 2 none (rm4 1 0 0 14) Z n0 #[(.int i), (.int n)] h (fun v h' => v = none ∧ h = h') := by
  refine Con.of_go (plainFor_of_name pn_0) (Ls := #[.val (.int i), .val (.int n)]) ?_
  refine Go.iloadN (pc' := 1) d43_0 rfl rfl ?_
  refine Go.iloadN (pc' := 2) d43_1 rfl rfl ?_
  refine Go.old (fun old1 => ?_)
  refine Go.getstatic (pc' := 5) (host := "") (Or.inl (ww hw 221 rfl)) Via.refl (sfm.ext old1.2) d43_2 rfl ?_
  refine Go.callS (cells' := 0) (slots' := 0) (pc' := 8) [(.int i), (.int n), wf] [] (ww hw 223 rfl) (ww hw 224 rfl) (ww hw 222 rfl) (ww hw 225 rfl) (by decide) (c_preCheck l Z a0 hw h i n wf h1 h2 hwf) pd_0 d43_5 rfl ?_
  rintro _ _ ⟨rfl, rfl⟩
  show Go _ _ _ _ _ _ _ _ _ _ _ _ 8 _ [(.int i)]
  refine Go.pop (pc' := 9) d43_8 rfl rfl ?_
  exact Go.retV rfl d43_9 ⟨rfl, rfl⟩
theorem c_u16len (hw : HW a0 Z) (h : Heap) (b : Addr) (kb : ClassId) (z : Int32) (vs : List Value) (v : AB Z h b kb z vs (.int 0)) :
    Con l M_4 q57 1 (some .int) (rm4 0 0 0 0) Z n0 #[(.ref b)] h (fun v h' => v = some (.int (z >>> ((1 : Int32) &&& 31))) ∧ h = h') := by
  refine Con.of_go (plainFor_of_name pn_2) (Ls := #[.val (.ref b)]) ?_
  refine Go.aloadN (pc' := 1) d57_0 rfl rfl rfl ?_
  refine Go.arraylength (pc' := 2) v d57_1 rfl ?_
  refine Go.iconst (pc' := 3) (v := 1) d57_2 rfl rfl ?_
  refine Go.ishr (pc' := 4) d57_3 rfl ?_
  exact Go.retI rfl d57_4 ⟨rfl, rfl⟩
theorem c_putChar (hw : HW a0 Z) (h : Heap) (b : Addr) (kb : ClassId) (z : Int32) (vs : List Value) (p u w c : Int32) (hu : (p <<< ((1 : Int32) &&& 31)) = u) (hw1 : (u + (1 : Int32)) = w) (hu0 : ¬ (u < (0 : Int32))) (hw0 : ¬ (w < (0 : Int32))) (hz0 : u < z) (hz1 : w < z) (hl0 : u.toNatClampNeg < vs.length) (hl1 : w.toNatClampNeg < vs.length) (sad : Zad Z (.int 1)) (shi : Zhi Z (.int 0)) (slo : Zlo Z (.int 8)) (ge_b : n0 ≤ b) (v : AB Z h b kb z vs (.int 0)) :
    Con l M_5 q52 3 none (rm4 0 0 0 0) Z n0 #[(.ref b), (.int p), (.int c)] h (fun v h' => v = none ∧ Keep h h' [b] ∧ AB Z h' b kb z ((vs.set u.toNatClampNeg (loB c)).set w.toNatClampNeg (hiB c)) (.int 0)) := by
  refine Con.of_go (plainFor_of_name pn_2) (Ls := #[.val (.ref b), .val (.int p), .val (.int c)]) ?_
  refine Go.old (fun old1 => ?_)
  refine Go.getstatic (pc' := 3) (host := "") (Or.inl (ww hw 256 rfl)) Via.refl (sad.ext old1.2) d52_0 rfl ?_
  refine Go.ifYes (pc' := 28) d52_3 (XT.i0_ne_t (by decide)) (by decide) (by decide) ?_
  refine Go.iloadN (pc' := 29) d52_28 rfl rfl ?_
  refine Go.iconst (pc' := 30) (v := 1) d52_29 rfl rfl ?_
  refine Go.ishl (pc' := 31) d52_30 rfl ?_
  rw [hu]
  refine Go.istoreN (pc' := 32) (Ls' := #[.val (.ref b), .val (.int u), .val (.int c)]) d52_31 rfl rfl ?_
  refine Go.aloadN (pc' := 33) d52_32 rfl rfl rfl ?_
  refine Go.iloadN (pc' := 34) d52_33 rfl rfl ?_
  refine Go.iinc (pc' := 37) (Ls' := #[.val (.ref b), .val (.int (u + (1 : Int32))), .val (.int c)]) (w := (1 : Int32)) d52_34 rfl rfl rfl rfl ?_
  rw [hw1]
  refine Go.iloadN (pc' := 38) d52_37 rfl rfl ?_
  refine Go.getstatic (pc' := 41) (host := "") (Or.inl (ww hw 257 rfl)) Via.refl (shi.ext old1.2) d52_38 rfl ?_
  refine Go.ishr (pc' := 42) d52_41 rfl ?_
  refine Go.i2b (pc' := 43) d52_42 rfl ?_
  refine Go.bastore (pc' := 44) v ge_b d52_43 hu0 hz0 (i := u.toNatClampNeg) rfl hl0 rfl ?_
  intro h2 W3 V4
  have K5 := (Keep.refl h [b]).wr W3 (Or.inl (List.mem_of_getElem? (i := 0) rfl))
  rw [OwnNum.b8] at V4
  replace V4 : AB Z h2 b kb z (vs.set u.toNatClampNeg (loB c)) (.int 0) := V4
  refine Go.aloadN (pc' := 45) d52_44 rfl rfl rfl ?_
  refine Go.iloadN (pc' := 46) d52_45 rfl rfl ?_
  refine Go.iloadN (pc' := 47) d52_46 rfl rfl ?_
  refine Go.old (fun old6 => ?_)
  refine Go.getstatic (pc' := 50) (host := "") (Or.inl (ww hw 258 rfl)) Via.refl (slo.ext old6.2) d52_47 rfl ?_
  refine Go.ishr (pc' := 51) d52_50 rfl ?_
  refine Go.i2b (pc' := 52) d52_51 rfl ?_
  refine Go.bastore (pc' := 53) V4 ge_b d52_52 hw0 hz1 (i := w.toNatClampNeg) rfl (by simp only [List.length_set]; exact hl1) rfl ?_
  intro h7 W8 V9
  have K10 := K5.wr W8 (Or.inl (List.mem_of_getElem? (i := 0) rfl))
  rw [OwnNum.b8] at V9
  replace V9 : AB Z h7 b kb z ((vs.set u.toNatClampNeg (loB c)).set w.toNatClampNeg (hiB c)) (.int 0) := V9
  exact Go.retV rfl d52_53 ⟨rfl, K10, V9⟩
theorem c_getChar (hw : HW a0 Z) (h : Heap) (b : Addr) (kb : ClassId) (z : Int32) (vs : List Value) (p u w c : Int32) (hu : (p <<< ((1 : Int32) &&& 31)) = u) (hw1 : (u + (1 : Int32)) = w) (hu0 : ¬ (u < (0 : Int32))) (hw0 : ¬ (w < (0 : Int32))) (hz0 : u < z) (hz1 : w < z) (hg0 : vs.getD u.toNatClampNeg (.int 0) = .int (c >>> ((0 : Int32) &&& 31)).toInt8.toInt32) (hg1 : vs.getD w.toNatClampNeg (.int 0) = .int (c >>> ((8 : Int32) &&& 31)).toInt8.toInt32) (hn : nar .char c = c) (sad : Zad Z (.int 1)) (shi : Zhi Z (.int 0)) (slo : Zlo Z (.int 8)) (v : AB Z h b kb z vs (.int 0)) :
    Con l M_6 q53 2 (some .char) (rm4 0 0 0 0) Z n0 #[(.ref b), (.int p)] h (fun v h' => v = some (.int c) ∧ h = h') := by
  refine Con.of_go (plainFor_of_name pn_2) (Ls := #[.val (.ref b), .val (.int p)]) ?_
  refine Go.old (fun old1 => ?_)
  refine Go.getstatic (pc' := 3) (host := "") (Or.inl (ww hw 256 rfl)) Via.refl (sad.ext old1.2) d53_0 rfl ?_
  refine Go.ifYes (pc' := 28) d53_3 (XT.i0_ne_t (by decide)) (by decide) (by decide) ?_
  refine Go.iloadN (pc' := 29) d53_28 rfl rfl ?_
  refine Go.iconst (pc' := 30) (v := 1) d53_29 rfl rfl ?_
  refine Go.ishl (pc' := 31) d53_30 rfl ?_
  rw [hu]
  refine Go.istoreN (pc' := 32) (Ls' := #[.val (.ref b), .val (.int u)]) d53_31 rfl rfl ?_
  refine Go.aloadN (pc' := 33) d53_32 rfl rfl rfl ?_
  refine Go.iloadN (pc' := 34) d53_33 rfl rfl ?_
  refine Go.iinc (pc' := 37) (Ls' := #[.val (.ref b), .val (.int (u + (1 : Int32)))]) (w := (1 : Int32)) d53_34 rfl rfl rfl rfl ?_
  rw [hw1]
  refine Go.baload (pc' := 38) (v := (c >>> ((0 : Int32) &&& 31)).toInt8.toInt32) v d53_37 hu0 hz0 hg0 rfl ?_
  refine Go.sipush (pc' := 41) (v := 255) d53_38 rfl rfl ?_
  refine Go.iand (pc' := 42) d53_41 rfl ?_
  refine Go.getstatic (pc' := 45) (host := "") (Or.inl (ww hw 257 rfl)) Via.refl (shi.ext old1.2) d53_42 rfl ?_
  refine Go.ishl (pc' := 46) d53_45 rfl ?_
  refine Go.aloadN (pc' := 47) d53_46 rfl rfl rfl ?_
  refine Go.iloadN (pc' := 48) d53_47 rfl rfl ?_
  refine Go.baload (pc' := 49) (v := (c >>> ((8 : Int32) &&& 31)).toInt8.toInt32) v d53_48 hw0 hz1 hg1 rfl ?_
  refine Go.sipush (pc' := 52) (v := 255) d53_49 rfl rfl ?_
  refine Go.iand (pc' := 53) d53_52 rfl ?_
  refine Go.getstatic (pc' := 56) (host := "") (Or.inl (ww hw 258 rfl)) Via.refl (slo.ext old1.2) d53_53 rfl ?_
  refine Go.ishl (pc' := 57) d53_56 rfl ?_
  refine Go.ior (pc' := 58) d53_57 rfl ?_
  refine Go.i2c (pc' := 59) d53_58 rfl ?_
  exact Go.retN (t := .char) rfl (by simp) d53_59 ⟨congrArg (fun z => some (Value.int z)) (by rw [show nar .char ((((c >>> ((0 : Int32) &&& 31)).toInt8.toInt32 &&& (255 : Int32)) <<< ((0 : Int32) &&& 31)) ||| (((c >>> ((8 : Int32) &&& 31)).toInt8.toInt32 &&& (255 : Int32)) <<< ((8 : Int32) &&& 31))).toUInt32.toUInt16.toUInt32.toInt32 = ((((c >>> ((0 : Int32) &&& 31)).toInt8.toInt32 &&& (255 : Int32)) <<< ((0 : Int32) &&& 31)) ||| (((c >>> ((8 : Int32) &&& 31)).toInt8.toInt32 &&& (255 : Int32)) <<< ((8 : Int32) &&& 31))).toUInt32.toUInt16.toUInt32.toInt32 from OwnNum.c16 _, OwnNum.u16 c (OwnNum.charNat hn)]; exact hn), rfl⟩
theorem c_u16chk (hw : HW a0 Z) (h : Heap) (i : Int32) (b : Addr) (kb : ClassId) (z : Int32) (vs : List Value) (wf : Value) (h1 : ¬ (i < (0 : Int32))) (h2 : i < (z >>> ((1 : Int32) &&& 31))) (hwf : wf.isRef = true) (sfm : Zfm Z wf) (v : AB Z h b kb z vs (.int 0)) :
    Con l M_7 q64 2 none (rm4 2 0 0 27) Z n0 #[(.int i), (.ref b)] h (fun v h' => v = none ∧ h = h') := by
  refine Con.of_go (plainFor_of_name pn_2) (Ls := #[.val (.int i), .val (.ref b)]) ?_
  refine Go.iloadN (pc' := 1) d64_0 rfl rfl ?_
  refine Go.aloadN (pc' := 2) d64_1 rfl rfl rfl ?_
  refine Go.callS (cells' := 0) (slots' := 0) (pc' := 5) [(.ref b)] [(.int i)] (ww hw 271 rfl) (ww hw 272 rfl) (ww hw 128 rfl) (ww hw 273 rfl) (by decide) (c_u16len l Z a0 hw h b kb z vs v) pd_1 d64_2 rfl ?_
  rintro _ _ ⟨rfl, rfl⟩
  show Go _ _ _ _ _ _ _ _ _ _ _ _ 5 _ [(.int (z >>> ((1 : Int32) &&& 31))), (.int i)]
  refine Go.callS (cells' := 0) (slots' := 0) (pc' := 8) [(.int i), (.int (z >>> ((1 : Int32) &&& 31)))] [] (ww hw 298 rfl) (ww hw 219 rfl) (ww hw 8 rfl) (ww hw 220 rfl) (by decide) (c_strCheck l Z a0 hw h i ((z >>> ((1 : Int32) &&& 31))) wf h1 h2 hwf sfm) pd_2 d64_5 rfl ?_
  rintro _ _ ⟨rfl, rfl⟩
  show Go _ _ _ _ _ _ _ _ _ _ _ _ 8 _ []
  exact Go.retV rfl d64_8 ⟨rfl, rfl⟩
theorem c_fis (hw : HW a0 Z) (h : Heap) (i m n : Int32) (wf : Value) (h1 : ¬ (((n ||| i) ||| m) < (0 : Int32))) (h2 : ¬ ((n - i) < m)) (hwf : wf.isRef = true) :
    Con l M_8 q59 4 (some .int) (rm4 0 0 0 0) Z n0 #[(.int i), (.int m), (.int n), wf] h (fun v h' => v = some (.int i) ∧ h = h') := by
  refine Con.of_go (plainFor_of_name pn_1) (Ls := #[.val (.int i), .val (.int m), .val (.int n), .val wf]) (he := fun m => by rcases XT.refc hwf with rfl | ⟨_, rfl⟩ <;> rfl) ?_
  refine Go.iloadN (pc' := 1) d59_0 rfl rfl ?_
  refine Go.iloadN (pc' := 2) d59_1 rfl rfl ?_
  refine Go.ior (pc' := 3) d59_2 rfl ?_
  refine Go.iloadN (pc' := 4) d59_3 rfl rfl ?_
  refine Go.ior (pc' := 5) d59_4 rfl ?_
  refine Go.ifNo (pc' := 8) d59_5 (XT.i0_lt_f h1) rfl ?_
  refine Go.iloadN (pc' := 9) d59_8 rfl rfl ?_
  refine Go.iloadN (pc' := 10) d59_9 rfl rfl ?_
  refine Go.iloadN (pc' := 11) d59_10 rfl rfl ?_
  refine Go.isub (pc' := 12) d59_11 rfl ?_
  refine Go.icmpYes (pc' := 23) d59_12 (XT.ii_le_t h2) (by decide) (by decide) ?_
  refine Go.iloadN (pc' := 24) d59_23 rfl rfl ?_
  exact Go.retI rfl d59_24 ⟨rfl, rfl⟩
theorem c_sboc (hw : HW a0 Z) (h : Heap) (i m n : Int32) (wf : Value) (h1 : ¬ (((n ||| i) ||| m) < (0 : Int32))) (h2 : ¬ ((n - i) < m)) (hwf : wf.isRef = true) (sfm : Zfm Z wf) :
    Con l M_9 q58 3 (some .int) (rm4 1 0 0 15) Z n0 #[(.int i), (.int m), (.int n)] h (fun v h' => v = some (.int i) ∧ h = h') := by
  refine Con.of_go (plainFor_of_name pn_0) (Ls := #[.val (.int i), .val (.int m), .val (.int n)]) ?_
  refine Go.iloadN (pc' := 1) d58_0 rfl rfl ?_
  refine Go.iloadN (pc' := 2) d58_1 rfl rfl ?_
  refine Go.iloadN (pc' := 3) d58_2 rfl rfl ?_
  refine Go.old (fun old1 => ?_)
  refine Go.getstatic (pc' := 6) (host := "") (Or.inl (ww hw 221 rfl)) Via.refl (sfm.ext old1.2) d58_3 rfl ?_
  refine Go.callS (cells' := 0) (slots' := 0) (pc' := 9) [(.int i), (.int m), (.int n), wf] [] (ww hw 277 rfl) (ww hw 278 rfl) (ww hw 222 rfl) (ww hw 279 rfl) (by decide) (c_fis l Z a0 hw h i m n wf h1 h2 hwf) pd_3 d58_6 rfl ?_
  rintro _ _ ⟨rfl, rfl⟩
  show Go _ _ _ _ _ _ _ _ _ _ _ _ 9 _ [(.int i)]
  exact Go.retI rfl d58_9 ⟨rfl, rfl⟩
theorem c_uboc (hw : HW a0 Z) (h : Heap) (i m : Int32) (b : Addr) (kb : ClassId) (z : Int32) (vs : List Value) (wf : Value) (h1 : ¬ ((((z >>> ((1 : Int32) &&& 31)) ||| i) ||| m) < (0 : Int32))) (h2 : ¬ (((z >>> ((1 : Int32) &&& 31)) - i) < m)) (hwf : wf.isRef = true) (sfm : Zfm Z wf) (v : AB Z h b kb z vs (.int 0)) :
    Con l M_10 q56 3 none (rm4 2 0 0 29) Z n0 #[(.int i), (.int m), (.ref b)] h (fun v h' => v = none ∧ h = h') := by
  refine Con.of_go (plainFor_of_name pn_2) (Ls := #[.val (.int i), .val (.int m), .val (.ref b)]) ?_
  refine Go.iloadN (pc' := 1) d56_0 rfl rfl ?_
  refine Go.iloadN (pc' := 2) d56_1 rfl rfl ?_
  refine Go.aloadN (pc' := 3) d56_2 rfl rfl rfl ?_
  refine Go.callS (cells' := 0) (slots' := 0) (pc' := 6) [(.ref b)] [(.int m), (.int i)] (ww hw 271 rfl) (ww hw 272 rfl) (ww hw 128 rfl) (ww hw 273 rfl) (by decide) (c_u16len l Z a0 hw h b kb z vs v) pd_1 d56_3 rfl ?_
  rintro _ _ ⟨rfl, rfl⟩
  show Go _ _ _ _ _ _ _ _ _ _ _ _ 6 _ [(.int (z >>> ((1 : Int32) &&& 31))), (.int m), (.int i)]
  refine Go.callS (cells' := 0) (slots' := 0) (pc' := 9) [(.int i), (.int m), (.int (z >>> ((1 : Int32) &&& 31)))] [] (ww hw 274 rfl) (ww hw 275 rfl) (ww hw 8 rfl) (ww hw 276 rfl) (by decide) (c_sboc l Z a0 hw h i m ((z >>> ((1 : Int32) &&& 31))) wf h1 h2 hwf sfm) pd_4 d56_6 rfl ?_
  rintro _ _ ⟨rfl, rfl⟩
  show Go _ _ _ _ _ _ _ _ _ _ _ _ 9 _ [(.int i)]
  refine Go.pop (pc' := 10) d56_9 rfl rfl ?_
  exact Go.retV rfl d56_10 ⟨rfl, rfl⟩
theorem c_putSB (hw : HW a0 Z) (h : Heap) (b : Addr) (kb : ClassId) (z : Int32) (vs : List Value) (p u w c : Int32) (wf : Value) (hu : (p <<< ((1 : Int32) &&& 31)) = u) (hw1 : (u + (1 : Int32)) = w) (hu0 : ¬ (u < (0 : Int32))) (hw0 : ¬ (w < (0 : Int32))) (hz0 : u < z) (hz1 : w < z) (hl0 : u.toNatClampNeg < vs.length) (hl1 : w.toNatClampNeg < vs.length) (hp0 : ¬ (p < (0 : Int32))) (hi : p < (z >>> ((1 : Int32) &&& 31))) (hwf : wf.isRef = true) (sad : Zad Z (.int 1)) (shi : Zhi Z (.int 0)) (slo : Zlo Z (.int 8)) (sfm : Zfm Z wf) (ge_b : n0 ≤ b) (v : AB Z h b kb z vs (.int 0)) :
    Con l M_11 q63 3 none (rm4 3 0 0 40) Z n0 #[(.ref b), (.int p), (.int c)] h (fun v h' => v = none ∧ Keep h h' [b] ∧ AB Z h' b kb z ((vs.set u.toNatClampNeg (loB c)).set w.toNatClampNeg (hiB c)) (.int 0)) := by
  refine Con.of_go (plainFor_of_name pn_2) (Ls := #[.val (.ref b), .val (.int p), .val (.int c)]) ?_
  refine Go.iloadN (pc' := 1) d63_0 rfl rfl ?_
  refine Go.aloadN (pc' := 2) d63_1 rfl rfl rfl ?_
  refine Go.callS (cells' := 0) (slots' := 0) (pc' := 5) [(.int p), (.ref b)] [] (ww hw 295 rfl) (ww hw 296 rfl) (ww hw 128 rfl) (ww hw 297 rfl) (by decide) (c_u16chk l Z a0 hw h p b kb z vs wf hp0 hi hwf sfm v) pd_5 d63_2 rfl ?_
  rintro _ _ ⟨rfl, rfl⟩
  show Go _ _ _ _ _ _ _ _ _ _ _ _ 5 _ []
  refine Go.aloadN (pc' := 6) d63_5 rfl rfl rfl ?_
  refine Go.iloadN (pc' := 7) d63_6 rfl rfl ?_
  refine Go.iloadN (pc' := 8) d63_7 rfl rfl ?_
  refine Go.callS (cells' := 0) (slots' := 0) (pc' := 11) [(.ref b), (.int p), (.int c)] [] (ww hw 253 rfl) (ww hw 254 rfl) (ww hw 128 rfl) (ww hw 255 rfl) (by decide) (c_putChar l Z a0 hw h b kb z vs p u w c hu hw1 hu0 hw0 hz0 hz1 hl0 hl1 sad shi slo ge_b v) pd_6 d63_8 rfl ?_
  rintro _ h2 ⟨rfl, K2, F2_0⟩
  show Go _ _ _ _ _ _ _ _ _ _ _ _ 11 _ []
  exact Go.retV rfl d63_11 ⟨rfl, K2, F2_0⟩
theorem c_nbl (hw : HW a0 Z) (h : Heap) (z : Int32) (hz0 : ¬ (z < (0 : Int32))) (hzM : z < (1073741823 : Int32)) :
    Con l M_12 q51 1 (some .int) (rm4 0 0 0 0) Z n0 #[(.int z)] h (fun v h' => v = some (.int (z <<< ((1 : Int32) &&& 31))) ∧ h = h') := by
  refine Con.of_go (plainFor_of_name pn_2) (Ls := #[.val (.int z)]) ?_
  refine Go.iloadN (pc' := 1) d51_0 rfl rfl ?_
  refine Go.ifYes (pc' := 12) d51_1 (XT.i0_ge_t hz0) (by decide) (by decide) ?_
  refine Go.iloadN (pc' := 13) d51_12 rfl rfl ?_
  refine Go.ldcI (pc' := 15) (ww hw 252 rfl) d51_13 rfl ?_
  refine Go.icmpYes (pc' := 55) d51_15 (XT.ii_lt_t hzM) (by decide) (by decide) ?_
  refine Go.iloadN (pc' := 56) d51_55 rfl rfl ?_
  refine Go.iconst (pc' := 57) (v := 1) d51_56 rfl rfl ?_
  refine Go.ishl (pc' := 58) d51_57 rfl ?_
  exact Go.retI rfl d51_58 ⟨rfl, rfl⟩
theorem c_nbf (hw : HW a0 Z) (h : Heap) (z y : Int32) (hz0 : ¬ (z < (0 : Int32))) (hzM : z < (1073741823 : Int32)) (hY : (z <<< ((1 : Int32) &&& 31)) = y) (hy0 : ¬ (y < (0 : Int32))) (hy16 : y.toNatClampNeg ≤ 16) :
    Con l M_13 q50 1 (some (.array .byte)) (rm4 1 1 16 12) Z n0 #[(.int z)] h (fun v h' => ∃ d : Addr, ∃ ky : ClassId, v = some (.ref d) ∧ Keep h h' [] ∧ n0 ≤ d ∧ h.size ≤ d ∧ AB Z h' d ky y [] (.int 0) ∧ EA Z h' d) := by
  refine Con.of_go (plainFor_of_name pn_2) (Ls := #[.val (.int z)]) ?_
  refine Go.iloadN (pc' := 1) d50_0 rfl rfl ?_
  refine Go.callS (cells' := 0) (slots' := 0) (pc' := 4) [(.int z)] [] (ww hw 249 rfl) (ww hw 250 rfl) (ww hw 128 rfl) (ww hw 251 rfl) (by decide) (c_nbl l Z a0 hw h z hz0 hzM) pd_7 d50_1 rfl ?_
  rintro _ _ ⟨rfl, rfl⟩
  show Go _ _ _ _ _ _ _ _ _ _ _ _ 4 _ [(.int (z <<< ((1 : Int32) &&& 31)))]
  rw [hY]
  refine Go.newarray (pc' := 6) (cells' := 1) (slots' := 16) (cap := 16) (ww hw 21 rfl) d50_4 (ad := "[B") (by decide) hy0 hy16 rfl rfl (by decide) (by decide) (by decide) rfl ?_
  intro h2 b2 g2 E2 ge2 kA2 A2 X2
  have K3 := (Keep.refl h []).ext E2
  exact Go.retR rfl rfl rfl rfl d50_6 ⟨b2, kA2, rfl, K3, ge2, (Nat.le_of_eq g2.symm), A2, X2⟩
theorem c_uinf0 (hw : HW a0 Z) (h : Heap) (b : Addr) (kb : ClassId) (z : Int32) (vs : List Value) (d : Addr) (ky : ClassId) (z2 : Int32) (ws : List Value) (wf : Value) (hb1 : ¬ ((((z2 >>> ((1 : Int32) &&& 31)) ||| (0 : Int32)) ||| (0 : Int32)) < (0 : Int32))) (hb2 : ¬ (((z2 >>> ((1 : Int32) &&& 31)) - (0 : Int32)) < (0 : Int32))) (hwf : wf.isRef = true) (sad : Zad Z (.int 1)) (shi : Zhi Z (.int 0)) (slo : Zlo Z (.int 8)) (sfm : Zfm Z wf) (ge_d : n0 ≤ d) (ne_b_d : b ≠ d) (v : AB Z h b kb z vs (.int 0)) (w : AB Z h d ky z2 ws (.int 0)) :
    Con l M_14 q62 6 none (rm4 3 0 0 43) Z n0 #[(.ref b), (.int 0), (.ref d), (.int 0), (.int 0)] h (fun v h' => v = none ∧ Keep h h' [d] ∧ AB Z h' d ky z2 ws (.int 0)) := by
  refine Con.of_go (plainFor_of_name pn_2) (Ls := #[.val (.ref b), .val (.int 0), .val (.ref d), .val (.int 0), .val (.int 0), .unset]) ?_
  refine Go.iloadN (pc' := 1) d62_0 rfl rfl ?_
  refine Go.iload (pc' := 3) d62_1 rfl rfl ?_
  refine Go.aloadN (pc' := 4) d62_3 rfl rfl rfl ?_
  refine Go.callS (cells' := 0) (slots' := 0) (pc' := 7) [(.int 0), (.int 0), (.ref d)] [] (ww hw 268 rfl) (ww hw 269 rfl) (ww hw 128 rfl) (ww hw 270 rfl) (by decide) (c_uboc l Z a0 hw h (0 : Int32) (0 : Int32) d ky z2 ws wf hb1 hb2 hwf sfm w) pd_8 d62_4 rfl ?_
  rintro _ _ ⟨rfl, rfl⟩
  show Go _ _ _ _ _ _ _ _ _ _ _ _ 7 _ []
  refine Go.iconst (pc' := 8) (v := 0) d62_7 rfl rfl ?_
  refine Go.istore (pc' := 10) (Ls' := #[.val (.ref b), .val (.int 0), .val (.ref d), .val (.int 0), .val (.int 0), .val (.int 0)]) d62_8 rfl rfl ?_
  refine Go.iload (pc' := 12) d62_10 rfl rfl ?_
  refine Go.iload (pc' := 14) d62_12 rfl rfl ?_
  refine Go.icmpYes (pc' := 41) d62_14 (XT.ii_ge_t (by decide)) (by decide) (by decide) ?_
  exact Go.retV rfl d62_41 ⟨rfl, (Keep.refl h [d]), w⟩
theorem c_linf0 (hw : HW a0 Z) (h : Heap) (b : Addr) (kb : ClassId) (z : Int32) (vs : List Value) (d : Addr) (ky : ClassId) (z2 : Int32) (ws : List Value) (wf : Value) (hb1 : ¬ ((((z2 >>> ((1 : Int32) &&& 31)) ||| (0 : Int32)) ||| (0 : Int32)) < (0 : Int32))) (hb2 : ¬ (((z2 >>> ((1 : Int32) &&& 31)) - (0 : Int32)) < (0 : Int32))) (hwf : wf.isRef = true) (sad : Zad Z (.int 1)) (shi : Zhi Z (.int 0)) (slo : Zlo Z (.int 8)) (sfm : Zfm Z wf) (ge_d : n0 ≤ d) (ne_b_d : b ≠ d) (v : AB Z h b kb z vs (.int 0)) (w : AB Z h d ky z2 ws (.int 0)) :
    Con l M_15 q61 5 none (rm4 4 0 0 60) Z n0 #[(.ref b), (.int 0), (.ref d), (.int 0), (.int 0)] h (fun v h' => v = none ∧ Keep h h' [d] ∧ AB Z h' d ky z2 ws (.int 0)) := by
  refine Con.of_go (plainFor_of_name pn_3) (Ls := #[.val (.ref b), .val (.int 0), .val (.ref d), .val (.int 0), .val (.int 0)]) ?_
  refine Go.aloadN (pc' := 1) d61_0 rfl rfl rfl ?_
  refine Go.iloadN (pc' := 2) d61_1 rfl rfl ?_
  refine Go.aloadN (pc' := 3) d61_2 rfl rfl rfl ?_
  refine Go.iloadN (pc' := 4) d61_3 rfl rfl ?_
  refine Go.iload (pc' := 6) d61_4 rfl rfl ?_
  refine Go.callS (cells' := 0) (slots' := 0) (pc' := 9) [(.ref b), (.int 0), (.ref d), (.int 0), (.int 0)] [] (ww hw 289 rfl) (ww hw 290 rfl) (ww hw 128 rfl) (ww hw 291 rfl) (by decide) (c_uinf0 l Z a0 hw h b kb z vs d ky z2 ws wf hb1 hb2 hwf sad shi slo sfm ge_d ne_b_d v w) pd_9 d61_6 rfl ?_
  rintro _ h1 ⟨rfl, K1, F1_0⟩
  show Go _ _ _ _ _ _ _ _ _ _ _ _ 9 _ []
  exact Go.retV rfl d61_9 ⟨rfl, K1, F1_0⟩
theorem c_uinf1 (hw : HW a0 Z) (h : Heap) (b : Addr) (kb : ClassId) (z : Int32) (vs : List Value) (d : Addr) (ky : ClassId) (z2 : Int32) (ws : List Value) (x0 e0 : Int32) (wf : Value) (hs0 : (0 : Int32) < z) (hv0 : vs.getD 0 (.int 0) = .int x0) (hq0 : (x0 &&& (255 : Int32)) = e0) (hd0 : (0 : Int32) < z2) (hm0 : 0 < ws.length) (hd1 : (1 : Int32) < z2) (hm1 : 1 < ws.length) (hb1 : ¬ ((((z2 >>> ((1 : Int32) &&& 31)) ||| (0 : Int32)) ||| (1 : Int32)) < (0 : Int32))) (hb2 : ¬ (((z2 >>> ((1 : Int32) &&& 31)) - (0 : Int32)) < (1 : Int32))) (hwf : wf.isRef = true) (sad : Zad Z (.int 1)) (shi : Zhi Z (.int 0)) (slo : Zlo Z (.int 8)) (sfm : Zfm Z wf) (ge_d : n0 ≤ d) (ne_b_d : b ≠ d) (v : AB Z h b kb z vs (.int 0)) (w : AB Z h d ky z2 ws (.int 0)) :
    Con l M_14 q62 6 none (rm4 3 0 0 43) Z n0 #[(.ref b), (.int 0), (.ref d), (.int 0), (.int 1)] h (fun v h' => v = none ∧ Keep h h' [d] ∧ AB Z h' d ky z2 ((ws.set 0 (loB e0)).set 1 (hiB e0)) (.int 0)) := by
  refine Con.of_go (plainFor_of_name pn_2) (Ls := #[.val (.ref b), .val (.int 0), .val (.ref d), .val (.int 0), .val (.int 1), .unset]) ?_
  refine Go.iloadN (pc' := 1) d62_0 rfl rfl ?_
  refine Go.iload (pc' := 3) d62_1 rfl rfl ?_
  refine Go.aloadN (pc' := 4) d62_3 rfl rfl rfl ?_
  refine Go.callS (cells' := 0) (slots' := 0) (pc' := 7) [(.int 0), (.int 1), (.ref d)] [] (ww hw 268 rfl) (ww hw 269 rfl) (ww hw 128 rfl) (ww hw 270 rfl) (by decide) (c_uboc l Z a0 hw h (0 : Int32) (1 : Int32) d ky z2 ws wf hb1 hb2 hwf sfm w) pd_8 d62_4 rfl ?_
  rintro _ _ ⟨rfl, rfl⟩
  show Go _ _ _ _ _ _ _ _ _ _ _ _ 7 _ []
  refine Go.iconst (pc' := 8) (v := 0) d62_7 rfl rfl ?_
  refine Go.istore (pc' := 10) (Ls' := #[.val (.ref b), .val (.int 0), .val (.ref d), .val (.int 0), .val (.int 1), .val (.int 0)]) d62_8 rfl rfl ?_
  refine Go.iload (pc' := 12) d62_10 rfl rfl ?_
  refine Go.iload (pc' := 14) d62_12 rfl rfl ?_
  refine Go.icmpNo (pc' := 17) d62_14 (XT.ii_ge_f (by decide)) rfl ?_
  refine Go.aloadN (pc' := 18) d62_17 rfl rfl rfl ?_
  refine Go.iloadN (pc' := 19) d62_18 rfl rfl ?_
  refine Go.iinc (pc' := 22) (Ls' := #[.val (.ref b), .val (.int 0), .val (.ref d), .val (.int ((0 : Int32) + (1 : Int32))), .val (.int 1), .val (.int 0)]) (w := (1 : Int32)) d62_19 rfl rfl rfl rfl ?_
  show Go _ _ _ _ _ _ _ _ _ _ _ _ 22 #[.val (.ref b), .val (.int 0), .val (.ref d), .val (.int 1), .val (.int 1), .val (.int 0)] [(.int 0), (.ref d)]
  refine Go.aloadN (pc' := 23) d62_22 rfl rfl rfl ?_
  refine Go.iloadN (pc' := 24) d62_23 rfl rfl ?_
  refine Go.iinc (pc' := 27) (Ls' := #[.val (.ref b), .val (.int ((0 : Int32) + (1 : Int32))), .val (.ref d), .val (.int 1), .val (.int 1), .val (.int 0)]) (w := (1 : Int32)) d62_24 rfl rfl rfl rfl ?_
  show Go _ _ _ _ _ _ _ _ _ _ _ _ 27 #[.val (.ref b), .val (.int 1), .val (.ref d), .val (.int 1), .val (.int 1), .val (.int 0)] [(.int 0), (.ref b), (.int 0), (.ref d)]
  refine Go.baload (pc' := 28) (v := x0) v d62_27 (by decide) hs0 hv0 rfl ?_
  refine Go.sipush (pc' := 31) (v := 255) d62_28 rfl rfl ?_
  refine Go.iand (pc' := 32) d62_31 rfl ?_
  rw [hq0]
  refine Go.callS (cells' := 0) (slots' := 0) (pc' := 35) [(.ref d), (.int 0), (.int e0)] [] (ww hw 253 rfl) (ww hw 254 rfl) (ww hw 128 rfl) (ww hw 255 rfl) (by decide) (c_putChar l Z a0 hw h d ky z2 ws (0 : Int32) (0 : Int32) (1 : Int32) e0 (by decide) (by decide) (by decide) (by decide) hd0 hd1 hm0 hm1 sad shi slo ge_d w) pd_6 d62_32 rfl ?_
  rintro _ h2 ⟨rfl, K2, F2_0⟩
  show Go _ _ _ _ _ _ _ _ _ _ _ _ 35 _ []
  refine Go.iinc (pc' := 38) (Ls' := #[.val (.ref b), .val (.int 1), .val (.ref d), .val (.int 1), .val (.int 1), .val (.int ((0 : Int32) + (1 : Int32)))]) (w := (1 : Int32)) d62_35 rfl rfl rfl rfl ?_
  show Go _ _ _ _ _ _ _ _ _ _ _ _ 38 #[.val (.ref b), .val (.int 1), .val (.ref d), .val (.int 1), .val (.int 1), .val (.int 1)] []
  refine Go.goto (pc' := 10) d62_38 (by decide) (by decide) ?_
  refine Go.iload (pc' := 12) d62_10 rfl rfl ?_
  refine Go.iload (pc' := 14) d62_12 rfl rfl ?_
  refine Go.icmpYes (pc' := 41) d62_14 (XT.ii_ge_t (by decide)) (by decide) (by decide) ?_
  exact Go.retV rfl d62_41 ⟨rfl, K2, F2_0⟩
theorem c_linf1 (hw : HW a0 Z) (h : Heap) (b : Addr) (kb : ClassId) (z : Int32) (vs : List Value) (d : Addr) (ky : ClassId) (z2 : Int32) (ws : List Value) (x0 e0 : Int32) (wf : Value) (hs0 : (0 : Int32) < z) (hv0 : vs.getD 0 (.int 0) = .int x0) (hq0 : (x0 &&& (255 : Int32)) = e0) (hd0 : (0 : Int32) < z2) (hm0 : 0 < ws.length) (hd1 : (1 : Int32) < z2) (hm1 : 1 < ws.length) (hb1 : ¬ ((((z2 >>> ((1 : Int32) &&& 31)) ||| (0 : Int32)) ||| (1 : Int32)) < (0 : Int32))) (hb2 : ¬ (((z2 >>> ((1 : Int32) &&& 31)) - (0 : Int32)) < (1 : Int32))) (hwf : wf.isRef = true) (sad : Zad Z (.int 1)) (shi : Zhi Z (.int 0)) (slo : Zlo Z (.int 8)) (sfm : Zfm Z wf) (ge_d : n0 ≤ d) (ne_b_d : b ≠ d) (v : AB Z h b kb z vs (.int 0)) (w : AB Z h d ky z2 ws (.int 0)) :
    Con l M_15 q61 5 none (rm4 4 0 0 60) Z n0 #[(.ref b), (.int 0), (.ref d), (.int 0), (.int 1)] h (fun v h' => v = none ∧ Keep h h' [d] ∧ AB Z h' d ky z2 ((ws.set 0 (loB e0)).set 1 (hiB e0)) (.int 0)) := by
  refine Con.of_go (plainFor_of_name pn_3) (Ls := #[.val (.ref b), .val (.int 0), .val (.ref d), .val (.int 0), .val (.int 1)]) ?_
  refine Go.aloadN (pc' := 1) d61_0 rfl rfl rfl ?_
  refine Go.iloadN (pc' := 2) d61_1 rfl rfl ?_
  refine Go.aloadN (pc' := 3) d61_2 rfl rfl rfl ?_
  refine Go.iloadN (pc' := 4) d61_3 rfl rfl ?_
  refine Go.iload (pc' := 6) d61_4 rfl rfl ?_
  refine Go.callS (cells' := 0) (slots' := 0) (pc' := 9) [(.ref b), (.int 0), (.ref d), (.int 0), (.int 1)] [] (ww hw 289 rfl) (ww hw 290 rfl) (ww hw 128 rfl) (ww hw 291 rfl) (by decide) (c_uinf1 l Z a0 hw h b kb z vs d ky z2 ws x0 e0 wf hs0 hv0 hq0 hd0 hm0 hd1 hm1 hb1 hb2 hwf sad shi slo sfm ge_d ne_b_d v w) pd_9 d61_6 rfl ?_
  rintro _ h1 ⟨rfl, K1, F1_0⟩
  show Go _ _ _ _ _ _ _ _ _ _ _ _ 9 _ []
  exact Go.retV rfl d61_9 ⟨rfl, K1, F1_0⟩
theorem c_uinf2 (hw : HW a0 Z) (h : Heap) (b : Addr) (kb : ClassId) (z : Int32) (vs : List Value) (d : Addr) (ky : ClassId) (z2 : Int32) (ws : List Value) (x0 x1 e0 e1 : Int32) (wf : Value) (hs0 : (0 : Int32) < z) (hv0 : vs.getD 0 (.int 0) = .int x0) (hq0 : (x0 &&& (255 : Int32)) = e0) (hs1 : (1 : Int32) < z) (hv1 : vs.getD 1 (.int 0) = .int x1) (hq1 : (x1 &&& (255 : Int32)) = e1) (hd0 : (0 : Int32) < z2) (hm0 : 0 < ws.length) (hd1 : (1 : Int32) < z2) (hm1 : 1 < ws.length) (hd2 : (2 : Int32) < z2) (hm2 : 2 < ws.length) (hd3 : (3 : Int32) < z2) (hm3 : 3 < ws.length) (hb1 : ¬ ((((z2 >>> ((1 : Int32) &&& 31)) ||| (0 : Int32)) ||| (2 : Int32)) < (0 : Int32))) (hb2 : ¬ (((z2 >>> ((1 : Int32) &&& 31)) - (0 : Int32)) < (2 : Int32))) (hwf : wf.isRef = true) (sad : Zad Z (.int 1)) (shi : Zhi Z (.int 0)) (slo : Zlo Z (.int 8)) (sfm : Zfm Z wf) (ge_d : n0 ≤ d) (ne_b_d : b ≠ d) (v : AB Z h b kb z vs (.int 0)) (w : AB Z h d ky z2 ws (.int 0)) :
    Con l M_14 q62 6 none (rm4 3 0 0 43) Z n0 #[(.ref b), (.int 0), (.ref d), (.int 0), (.int 2)] h (fun v h' => v = none ∧ Keep h h' [d] ∧ AB Z h' d ky z2 ((((ws.set 0 (loB e0)).set 1 (hiB e0)).set 2 (loB e1)).set 3 (hiB e1)) (.int 0)) := by
  refine Con.of_go (plainFor_of_name pn_2) (Ls := #[.val (.ref b), .val (.int 0), .val (.ref d), .val (.int 0), .val (.int 2), .unset]) ?_
  refine Go.iloadN (pc' := 1) d62_0 rfl rfl ?_
  refine Go.iload (pc' := 3) d62_1 rfl rfl ?_
  refine Go.aloadN (pc' := 4) d62_3 rfl rfl rfl ?_
  refine Go.callS (cells' := 0) (slots' := 0) (pc' := 7) [(.int 0), (.int 2), (.ref d)] [] (ww hw 268 rfl) (ww hw 269 rfl) (ww hw 128 rfl) (ww hw 270 rfl) (by decide) (c_uboc l Z a0 hw h (0 : Int32) (2 : Int32) d ky z2 ws wf hb1 hb2 hwf sfm w) pd_8 d62_4 rfl ?_
  rintro _ _ ⟨rfl, rfl⟩
  show Go _ _ _ _ _ _ _ _ _ _ _ _ 7 _ []
  refine Go.iconst (pc' := 8) (v := 0) d62_7 rfl rfl ?_
  refine Go.istore (pc' := 10) (Ls' := #[.val (.ref b), .val (.int 0), .val (.ref d), .val (.int 0), .val (.int 2), .val (.int 0)]) d62_8 rfl rfl ?_
  refine Go.iload (pc' := 12) d62_10 rfl rfl ?_
  refine Go.iload (pc' := 14) d62_12 rfl rfl ?_
  refine Go.icmpNo (pc' := 17) d62_14 (XT.ii_ge_f (by decide)) rfl ?_
  refine Go.aloadN (pc' := 18) d62_17 rfl rfl rfl ?_
  refine Go.iloadN (pc' := 19) d62_18 rfl rfl ?_
  refine Go.iinc (pc' := 22) (Ls' := #[.val (.ref b), .val (.int 0), .val (.ref d), .val (.int ((0 : Int32) + (1 : Int32))), .val (.int 2), .val (.int 0)]) (w := (1 : Int32)) d62_19 rfl rfl rfl rfl ?_
  show Go _ _ _ _ _ _ _ _ _ _ _ _ 22 #[.val (.ref b), .val (.int 0), .val (.ref d), .val (.int 1), .val (.int 2), .val (.int 0)] [(.int 0), (.ref d)]
  refine Go.aloadN (pc' := 23) d62_22 rfl rfl rfl ?_
  refine Go.iloadN (pc' := 24) d62_23 rfl rfl ?_
  refine Go.iinc (pc' := 27) (Ls' := #[.val (.ref b), .val (.int ((0 : Int32) + (1 : Int32))), .val (.ref d), .val (.int 1), .val (.int 2), .val (.int 0)]) (w := (1 : Int32)) d62_24 rfl rfl rfl rfl ?_
  show Go _ _ _ _ _ _ _ _ _ _ _ _ 27 #[.val (.ref b), .val (.int 1), .val (.ref d), .val (.int 1), .val (.int 2), .val (.int 0)] [(.int 0), (.ref b), (.int 0), (.ref d)]
  refine Go.baload (pc' := 28) (v := x0) v d62_27 (by decide) hs0 hv0 rfl ?_
  refine Go.sipush (pc' := 31) (v := 255) d62_28 rfl rfl ?_
  refine Go.iand (pc' := 32) d62_31 rfl ?_
  rw [hq0]
  refine Go.callS (cells' := 0) (slots' := 0) (pc' := 35) [(.ref d), (.int 0), (.int e0)] [] (ww hw 253 rfl) (ww hw 254 rfl) (ww hw 128 rfl) (ww hw 255 rfl) (by decide) (c_putChar l Z a0 hw h d ky z2 ws (0 : Int32) (0 : Int32) (1 : Int32) e0 (by decide) (by decide) (by decide) (by decide) hd0 hd1 hm0 hm1 sad shi slo ge_d w) pd_6 d62_32 rfl ?_
  rintro _ h2 ⟨rfl, K2, F2_0⟩
  show Go _ _ _ _ _ _ _ _ _ _ _ _ 35 _ []
  refine Go.iinc (pc' := 38) (Ls' := #[.val (.ref b), .val (.int 1), .val (.ref d), .val (.int 1), .val (.int 2), .val (.int ((0 : Int32) + (1 : Int32)))]) (w := (1 : Int32)) d62_35 rfl rfl rfl rfl ?_
  show Go _ _ _ _ _ _ _ _ _ _ _ _ 38 #[.val (.ref b), .val (.int 1), .val (.ref d), .val (.int 1), .val (.int 2), .val (.int 1)] []
  refine Go.goto (pc' := 10) d62_38 (by decide) (by decide) ?_
  refine Go.iload (pc' := 12) d62_10 rfl rfl ?_
  refine Go.iload (pc' := 14) d62_12 rfl rfl ?_
  refine Go.icmpNo (pc' := 17) d62_14 (XT.ii_ge_f (by decide)) rfl ?_
  refine Go.aloadN (pc' := 18) d62_17 rfl rfl rfl ?_
  refine Go.iloadN (pc' := 19) d62_18 rfl rfl ?_
  refine Go.iinc (pc' := 22) (Ls' := #[.val (.ref b), .val (.int 1), .val (.ref d), .val (.int ((1 : Int32) + (1 : Int32))), .val (.int 2), .val (.int 1)]) (w := (1 : Int32)) d62_19 rfl rfl rfl rfl ?_
  show Go _ _ _ _ _ _ _ _ _ _ _ _ 22 #[.val (.ref b), .val (.int 1), .val (.ref d), .val (.int 2), .val (.int 2), .val (.int 1)] [(.int 1), (.ref d)]
  refine Go.aloadN (pc' := 23) d62_22 rfl rfl rfl ?_
  refine Go.iloadN (pc' := 24) d62_23 rfl rfl ?_
  refine Go.iinc (pc' := 27) (Ls' := #[.val (.ref b), .val (.int ((1 : Int32) + (1 : Int32))), .val (.ref d), .val (.int 2), .val (.int 2), .val (.int 1)]) (w := (1 : Int32)) d62_24 rfl rfl rfl rfl ?_
  show Go _ _ _ _ _ _ _ _ _ _ _ _ 27 #[.val (.ref b), .val (.int 2), .val (.ref d), .val (.int 2), .val (.int 2), .val (.int 1)] [(.int 1), (.ref b), (.int 1), (.ref d)]
  refine Go.baload (pc' := 28) (v := x1) (v.keep K2 (ninS ne_b_d nin0)) d62_27 (by decide) hs1 hv1 rfl ?_
  refine Go.sipush (pc' := 31) (v := 255) d62_28 rfl rfl ?_
  refine Go.iand (pc' := 32) d62_31 rfl ?_
  rw [hq1]
  refine Go.callS (cells' := 0) (slots' := 0) (pc' := 35) [(.ref d), (.int 1), (.int e1)] [] (ww hw 253 rfl) (ww hw 254 rfl) (ww hw 128 rfl) (ww hw 255 rfl) (by decide) (c_putChar l Z a0 hw h2 d ky z2 (((ws.set (0 : Int32).toNatClampNeg (loB e0)).set (1 : Int32).toNatClampNeg (hiB e0))) (1 : Int32) (2 : Int32) (3 : Int32) e1 (by decide) (by decide) (by decide) (by decide) hd2 hd3 (by simp only [List.length_set]; exact hm2) (by simp only [List.length_set]; exact hm3) sad shi slo ge_d F2_0) pd_6 d62_32 rfl ?_
  rintro _ h4 ⟨rfl, K4, F4_0⟩
  have K5 := K2.trans K4 (allS (Or.inl (List.mem_of_getElem? (i := 0) rfl)) all0)
  show Go _ _ _ _ _ _ _ _ _ _ _ _ 35 _ []
  refine Go.iinc (pc' := 38) (Ls' := #[.val (.ref b), .val (.int 2), .val (.ref d), .val (.int 2), .val (.int 2), .val (.int ((1 : Int32) + (1 : Int32)))]) (w := (1 : Int32)) d62_35 rfl rfl rfl rfl ?_
  show Go _ _ _ _ _ _ _ _ _ _ _ _ 38 #[.val (.ref b), .val (.int 2), .val (.ref d), .val (.int 2), .val (.int 2), .val (.int 2)] []
  refine Go.goto (pc' := 10) d62_38 (by decide) (by decide) ?_
  refine Go.iload (pc' := 12) d62_10 rfl rfl ?_
  refine Go.iload (pc' := 14) d62_12 rfl rfl ?_
  refine Go.icmpYes (pc' := 41) d62_14 (XT.ii_ge_t (by decide)) (by decide) (by decide) ?_
  exact Go.retV rfl d62_41 ⟨rfl, K5, F4_0⟩
theorem c_linf2 (hw : HW a0 Z) (h : Heap) (b : Addr) (kb : ClassId) (z : Int32) (vs : List Value) (d : Addr) (ky : ClassId) (z2 : Int32) (ws : List Value) (x0 x1 e0 e1 : Int32) (wf : Value) (hs0 : (0 : Int32) < z) (hv0 : vs.getD 0 (.int 0) = .int x0) (hq0 : (x0 &&& (255 : Int32)) = e0) (hs1 : (1 : Int32) < z) (hv1 : vs.getD 1 (.int 0) = .int x1) (hq1 : (x1 &&& (255 : Int32)) = e1) (hd0 : (0 : Int32) < z2) (hm0 : 0 < ws.length) (hd1 : (1 : Int32) < z2) (hm1 : 1 < ws.length) (hd2 : (2 : Int32) < z2) (hm2 : 2 < ws.length) (hd3 : (3 : Int32) < z2) (hm3 : 3 < ws.length) (hb1 : ¬ ((((z2 >>> ((1 : Int32) &&& 31)) ||| (0 : Int32)) ||| (2 : Int32)) < (0 : Int32))) (hb2 : ¬ (((z2 >>> ((1 : Int32) &&& 31)) - (0 : Int32)) < (2 : Int32))) (hwf : wf.isRef = true) (sad : Zad Z (.int 1)) (shi : Zhi Z (.int 0)) (slo : Zlo Z (.int 8)) (sfm : Zfm Z wf) (ge_d : n0 ≤ d) (ne_b_d : b ≠ d) (v : AB Z h b kb z vs (.int 0)) (w : AB Z h d ky z2 ws (.int 0)) :
    Con l M_15 q61 5 none (rm4 4 0 0 60) Z n0 #[(.ref b), (.int 0), (.ref d), (.int 0), (.int 2)] h (fun v h' => v = none ∧ Keep h h' [d] ∧ AB Z h' d ky z2 ((((ws.set 0 (loB e0)).set 1 (hiB e0)).set 2 (loB e1)).set 3 (hiB e1)) (.int 0)) := by
  refine Con.of_go (plainFor_of_name pn_3) (Ls := #[.val (.ref b), .val (.int 0), .val (.ref d), .val (.int 0), .val (.int 2)]) ?_
  refine Go.aloadN (pc' := 1) d61_0 rfl rfl rfl ?_
  refine Go.iloadN (pc' := 2) d61_1 rfl rfl ?_
  refine Go.aloadN (pc' := 3) d61_2 rfl rfl rfl ?_
  refine Go.iloadN (pc' := 4) d61_3 rfl rfl ?_
  refine Go.iload (pc' := 6) d61_4 rfl rfl ?_
  refine Go.callS (cells' := 0) (slots' := 0) (pc' := 9) [(.ref b), (.int 0), (.ref d), (.int 0), (.int 2)] [] (ww hw 289 rfl) (ww hw 290 rfl) (ww hw 128 rfl) (ww hw 291 rfl) (by decide) (c_uinf2 l Z a0 hw h b kb z vs d ky z2 ws x0 x1 e0 e1 wf hs0 hv0 hq0 hs1 hv1 hq1 hd0 hm0 hd1 hm1 hd2 hm2 hd3 hm3 hb1 hb2 hwf sad shi slo sfm ge_d ne_b_d v w) pd_9 d61_6 rfl ?_
  rintro _ h1 ⟨rfl, K1, F1_0⟩
  show Go _ _ _ _ _ _ _ _ _ _ _ _ 9 _ []
  exact Go.retV rfl d61_9 ⟨rfl, K1, F1_0⟩
theorem c_uinf3 (hw : HW a0 Z) (h : Heap) (b : Addr) (kb : ClassId) (z : Int32) (vs : List Value) (d : Addr) (ky : ClassId) (z2 : Int32) (ws : List Value) (x0 x1 x2 e0 e1 e2 : Int32) (wf : Value) (hs0 : (0 : Int32) < z) (hv0 : vs.getD 0 (.int 0) = .int x0) (hq0 : (x0 &&& (255 : Int32)) = e0) (hs1 : (1 : Int32) < z) (hv1 : vs.getD 1 (.int 0) = .int x1) (hq1 : (x1 &&& (255 : Int32)) = e1) (hs2 : (2 : Int32) < z) (hv2 : vs.getD 2 (.int 0) = .int x2) (hq2 : (x2 &&& (255 : Int32)) = e2) (hd0 : (0 : Int32) < z2) (hm0 : 0 < ws.length) (hd1 : (1 : Int32) < z2) (hm1 : 1 < ws.length) (hd2 : (2 : Int32) < z2) (hm2 : 2 < ws.length) (hd3 : (3 : Int32) < z2) (hm3 : 3 < ws.length) (hd4 : (4 : Int32) < z2) (hm4 : 4 < ws.length) (hd5 : (5 : Int32) < z2) (hm5 : 5 < ws.length) (hb1 : ¬ ((((z2 >>> ((1 : Int32) &&& 31)) ||| (0 : Int32)) ||| (3 : Int32)) < (0 : Int32))) (hb2 : ¬ (((z2 >>> ((1 : Int32) &&& 31)) - (0 : Int32)) < (3 : Int32))) (hwf : wf.isRef = true) (sad : Zad Z (.int 1)) (shi : Zhi Z (.int 0)) (slo : Zlo Z (.int 8)) (sfm : Zfm Z wf) (ge_d : n0 ≤ d) (ne_b_d : b ≠ d) (v : AB Z h b kb z vs (.int 0)) (w : AB Z h d ky z2 ws (.int 0)) :
    Con l M_14 q62 6 none (rm4 3 0 0 43) Z n0 #[(.ref b), (.int 0), (.ref d), (.int 0), (.int 3)] h (fun v h' => v = none ∧ Keep h h' [d] ∧ AB Z h' d ky z2 ((((((ws.set 0 (loB e0)).set 1 (hiB e0)).set 2 (loB e1)).set 3 (hiB e1)).set 4 (loB e2)).set 5 (hiB e2)) (.int 0)) := by
  refine Con.of_go (plainFor_of_name pn_2) (Ls := #[.val (.ref b), .val (.int 0), .val (.ref d), .val (.int 0), .val (.int 3), .unset]) ?_
  refine Go.iloadN (pc' := 1) d62_0 rfl rfl ?_
  refine Go.iload (pc' := 3) d62_1 rfl rfl ?_
  refine Go.aloadN (pc' := 4) d62_3 rfl rfl rfl ?_
  refine Go.callS (cells' := 0) (slots' := 0) (pc' := 7) [(.int 0), (.int 3), (.ref d)] [] (ww hw 268 rfl) (ww hw 269 rfl) (ww hw 128 rfl) (ww hw 270 rfl) (by decide) (c_uboc l Z a0 hw h (0 : Int32) (3 : Int32) d ky z2 ws wf hb1 hb2 hwf sfm w) pd_8 d62_4 rfl ?_
  rintro _ _ ⟨rfl, rfl⟩
  show Go _ _ _ _ _ _ _ _ _ _ _ _ 7 _ []
  refine Go.iconst (pc' := 8) (v := 0) d62_7 rfl rfl ?_
  refine Go.istore (pc' := 10) (Ls' := #[.val (.ref b), .val (.int 0), .val (.ref d), .val (.int 0), .val (.int 3), .val (.int 0)]) d62_8 rfl rfl ?_
  refine Go.iload (pc' := 12) d62_10 rfl rfl ?_
  refine Go.iload (pc' := 14) d62_12 rfl rfl ?_
  refine Go.icmpNo (pc' := 17) d62_14 (XT.ii_ge_f (by decide)) rfl ?_
  refine Go.aloadN (pc' := 18) d62_17 rfl rfl rfl ?_
  refine Go.iloadN (pc' := 19) d62_18 rfl rfl ?_
  refine Go.iinc (pc' := 22) (Ls' := #[.val (.ref b), .val (.int 0), .val (.ref d), .val (.int ((0 : Int32) + (1 : Int32))), .val (.int 3), .val (.int 0)]) (w := (1 : Int32)) d62_19 rfl rfl rfl rfl ?_
  show Go _ _ _ _ _ _ _ _ _ _ _ _ 22 #[.val (.ref b), .val (.int 0), .val (.ref d), .val (.int 1), .val (.int 3), .val (.int 0)] [(.int 0), (.ref d)]
  refine Go.aloadN (pc' := 23) d62_22 rfl rfl rfl ?_
  refine Go.iloadN (pc' := 24) d62_23 rfl rfl ?_
  refine Go.iinc (pc' := 27) (Ls' := #[.val (.ref b), .val (.int ((0 : Int32) + (1 : Int32))), .val (.ref d), .val (.int 1), .val (.int 3), .val (.int 0)]) (w := (1 : Int32)) d62_24 rfl rfl rfl rfl ?_
  show Go _ _ _ _ _ _ _ _ _ _ _ _ 27 #[.val (.ref b), .val (.int 1), .val (.ref d), .val (.int 1), .val (.int 3), .val (.int 0)] [(.int 0), (.ref b), (.int 0), (.ref d)]
  refine Go.baload (pc' := 28) (v := x0) v d62_27 (by decide) hs0 hv0 rfl ?_
  refine Go.sipush (pc' := 31) (v := 255) d62_28 rfl rfl ?_
  refine Go.iand (pc' := 32) d62_31 rfl ?_
  rw [hq0]
  refine Go.callS (cells' := 0) (slots' := 0) (pc' := 35) [(.ref d), (.int 0), (.int e0)] [] (ww hw 253 rfl) (ww hw 254 rfl) (ww hw 128 rfl) (ww hw 255 rfl) (by decide) (c_putChar l Z a0 hw h d ky z2 ws (0 : Int32) (0 : Int32) (1 : Int32) e0 (by decide) (by decide) (by decide) (by decide) hd0 hd1 hm0 hm1 sad shi slo ge_d w) pd_6 d62_32 rfl ?_
  rintro _ h2 ⟨rfl, K2, F2_0⟩
  show Go _ _ _ _ _ _ _ _ _ _ _ _ 35 _ []
  refine Go.iinc (pc' := 38) (Ls' := #[.val (.ref b), .val (.int 1), .val (.ref d), .val (.int 1), .val (.int 3), .val (.int ((0 : Int32) + (1 : Int32)))]) (w := (1 : Int32)) d62_35 rfl rfl rfl rfl ?_
  show Go _ _ _ _ _ _ _ _ _ _ _ _ 38 #[.val (.ref b), .val (.int 1), .val (.ref d), .val (.int 1), .val (.int 3), .val (.int 1)] []
  refine Go.goto (pc' := 10) d62_38 (by decide) (by decide) ?_
  refine Go.iload (pc' := 12) d62_10 rfl rfl ?_
  refine Go.iload (pc' := 14) d62_12 rfl rfl ?_
  refine Go.icmpNo (pc' := 17) d62_14 (XT.ii_ge_f (by decide)) rfl ?_
  refine Go.aloadN (pc' := 18) d62_17 rfl rfl rfl ?_
  refine Go.iloadN (pc' := 19) d62_18 rfl rfl ?_
  refine Go.iinc (pc' := 22) (Ls' := #[.val (.ref b), .val (.int 1), .val (.ref d), .val (.int ((1 : Int32) + (1 : Int32))), .val (.int 3), .val (.int 1)]) (w := (1 : Int32)) d62_19 rfl rfl rfl rfl ?_
  show Go _ _ _ _ _ _ _ _ _ _ _ _ 22 #[.val (.ref b), .val (.int 1), .val (.ref d), .val (.int 2), .val (.int 3), .val (.int 1)] [(.int 1), (.ref d)]
  refine Go.aloadN (pc' := 23) d62_22 rfl rfl rfl ?_
  refine Go.iloadN (pc' := 24) d62_23 rfl rfl ?_
  refine Go.iinc (pc' := 27) (Ls' := #[.val (.ref b), .val (.int ((1 : Int32) + (1 : Int32))), .val (.ref d), .val (.int 2), .val (.int 3), .val (.int 1)]) (w := (1 : Int32)) d62_24 rfl rfl rfl rfl ?_
  show Go _ _ _ _ _ _ _ _ _ _ _ _ 27 #[.val (.ref b), .val (.int 2), .val (.ref d), .val (.int 2), .val (.int 3), .val (.int 1)] [(.int 1), (.ref b), (.int 1), (.ref d)]
  refine Go.baload (pc' := 28) (v := x1) (v.keep K2 (ninS ne_b_d nin0)) d62_27 (by decide) hs1 hv1 rfl ?_
  refine Go.sipush (pc' := 31) (v := 255) d62_28 rfl rfl ?_
  refine Go.iand (pc' := 32) d62_31 rfl ?_
  rw [hq1]
  refine Go.callS (cells' := 0) (slots' := 0) (pc' := 35) [(.ref d), (.int 1), (.int e1)] [] (ww hw 253 rfl) (ww hw 254 rfl) (ww hw 128 rfl) (ww hw 255 rfl) (by decide) (c_putChar l Z a0 hw h2 d ky z2 (((ws.set (0 : Int32).toNatClampNeg (loB e0)).set (1 : Int32).toNatClampNeg (hiB e0))) (1 : Int32) (2 : Int32) (3 : Int32) e1 (by decide) (by decide) (by decide) (by decide) hd2 hd3 (by simp only [List.length_set]; exact hm2) (by simp only [List.length_set]; exact hm3) sad shi slo ge_d F2_0) pd_6 d62_32 rfl ?_
  rintro _ h4 ⟨rfl, K4, F4_0⟩
  have K5 := K2.trans K4 (allS (Or.inl (List.mem_of_getElem? (i := 0) rfl)) all0)
  show Go _ _ _ _ _ _ _ _ _ _ _ _ 35 _ []
  refine Go.iinc (pc' := 38) (Ls' := #[.val (.ref b), .val (.int 2), .val (.ref d), .val (.int 2), .val (.int 3), .val (.int ((1 : Int32) + (1 : Int32)))]) (w := (1 : Int32)) d62_35 rfl rfl rfl rfl ?_
  show Go _ _ _ _ _ _ _ _ _ _ _ _ 38 #[.val (.ref b), .val (.int 2), .val (.ref d), .val (.int 2), .val (.int 3), .val (.int 2)] []
  refine Go.goto (pc' := 10) d62_38 (by decide) (by decide) ?_
  refine Go.iload (pc' := 12) d62_10 rfl rfl ?_
  refine Go.iload (pc' := 14) d62_12 rfl rfl ?_
  refine Go.icmpNo (pc' := 17) d62_14 (XT.ii_ge_f (by decide)) rfl ?_
  refine Go.aloadN (pc' := 18) d62_17 rfl rfl rfl ?_
  refine Go.iloadN (pc' := 19) d62_18 rfl rfl ?_
  refine Go.iinc (pc' := 22) (Ls' := #[.val (.ref b), .val (.int 2), .val (.ref d), .val (.int ((2 : Int32) + (1 : Int32))), .val (.int 3), .val (.int 2)]) (w := (1 : Int32)) d62_19 rfl rfl rfl rfl ?_
  show Go _ _ _ _ _ _ _ _ _ _ _ _ 22 #[.val (.ref b), .val (.int 2), .val (.ref d), .val (.int 3), .val (.int 3), .val (.int 2)] [(.int 2), (.ref d)]
  refine Go.aloadN (pc' := 23) d62_22 rfl rfl rfl ?_
  refine Go.iloadN (pc' := 24) d62_23 rfl rfl ?_
  refine Go.iinc (pc' := 27) (Ls' := #[.val (.ref b), .val (.int ((2 : Int32) + (1 : Int32))), .val (.ref d), .val (.int 3), .val (.int 3), .val (.int 2)]) (w := (1 : Int32)) d62_24 rfl rfl rfl rfl ?_
  show Go _ _ _ _ _ _ _ _ _ _ _ _ 27 #[.val (.ref b), .val (.int 3), .val (.ref d), .val (.int 3), .val (.int 3), .val (.int 2)] [(.int 2), (.ref b), (.int 2), (.ref d)]
  have f6 := ((v.keep K2 (ninS ne_b_d nin0)).keep K4 (ninS ne_b_d nin0))
  refine Go.baload (pc' := 28) (v := x2) f6 d62_27 (by decide) hs2 hv2 rfl ?_
  refine Go.sipush (pc' := 31) (v := 255) d62_28 rfl rfl ?_
  refine Go.iand (pc' := 32) d62_31 rfl ?_
  rw [hq2]
  refine Go.callS (cells' := 0) (slots' := 0) (pc' := 35) [(.ref d), (.int 2), (.int e2)] [] (ww hw 253 rfl) (ww hw 254 rfl) (ww hw 128 rfl) (ww hw 255 rfl) (by decide) (c_putChar l Z a0 hw h4 d ky z2 (((((ws.set (0 : Int32).toNatClampNeg (loB e0)).set (1 : Int32).toNatClampNeg (hiB e0)).set (2 : Int32).toNatClampNeg (loB e1)).set (3 : Int32).toNatClampNeg (hiB e1))) (2 : Int32) (4 : Int32) (5 : Int32) e2 (by decide) (by decide) (by decide) (by decide) hd4 hd5 (by simp only [List.length_set]; exact hm4) (by simp only [List.length_set]; exact hm5) sad shi slo ge_d F4_0) pd_6 d62_32 rfl ?_
  rintro _ h7 ⟨rfl, K7, F7_0⟩
  have K8 := K5.trans K7 (allS (Or.inl (List.mem_of_getElem? (i := 0) rfl)) all0)
  show Go _ _ _ _ _ _ _ _ _ _ _ _ 35 _ []
  refine Go.iinc (pc' := 38) (Ls' := #[.val (.ref b), .val (.int 3), .val (.ref d), .val (.int 3), .val (.int 3), .val (.int ((2 : Int32) + (1 : Int32)))]) (w := (1 : Int32)) d62_35 rfl rfl rfl rfl ?_
  show Go _ _ _ _ _ _ _ _ _ _ _ _ 38 #[.val (.ref b), .val (.int 3), .val (.ref d), .val (.int 3), .val (.int 3), .val (.int 3)] []
  refine Go.goto (pc' := 10) d62_38 (by decide) (by decide) ?_
  refine Go.iload (pc' := 12) d62_10 rfl rfl ?_
  refine Go.iload (pc' := 14) d62_12 rfl rfl ?_
  refine Go.icmpYes (pc' := 41) d62_14 (XT.ii_ge_t (by decide)) (by decide) (by decide) ?_
  exact Go.retV rfl d62_41 ⟨rfl, K8, F7_0⟩
theorem c_linf3 (hw : HW a0 Z) (h : Heap) (b : Addr) (kb : ClassId) (z : Int32) (vs : List Value) (d : Addr) (ky : ClassId) (z2 : Int32) (ws : List Value) (x0 x1 x2 e0 e1 e2 : Int32) (wf : Value) (hs0 : (0 : Int32) < z) (hv0 : vs.getD 0 (.int 0) = .int x0) (hq0 : (x0 &&& (255 : Int32)) = e0) (hs1 : (1 : Int32) < z) (hv1 : vs.getD 1 (.int 0) = .int x1) (hq1 : (x1 &&& (255 : Int32)) = e1) (hs2 : (2 : Int32) < z) (hv2 : vs.getD 2 (.int 0) = .int x2) (hq2 : (x2 &&& (255 : Int32)) = e2) (hd0 : (0 : Int32) < z2) (hm0 : 0 < ws.length) (hd1 : (1 : Int32) < z2) (hm1 : 1 < ws.length) (hd2 : (2 : Int32) < z2) (hm2 : 2 < ws.length) (hd3 : (3 : Int32) < z2) (hm3 : 3 < ws.length) (hd4 : (4 : Int32) < z2) (hm4 : 4 < ws.length) (hd5 : (5 : Int32) < z2) (hm5 : 5 < ws.length) (hb1 : ¬ ((((z2 >>> ((1 : Int32) &&& 31)) ||| (0 : Int32)) ||| (3 : Int32)) < (0 : Int32))) (hb2 : ¬ (((z2 >>> ((1 : Int32) &&& 31)) - (0 : Int32)) < (3 : Int32))) (hwf : wf.isRef = true) (sad : Zad Z (.int 1)) (shi : Zhi Z (.int 0)) (slo : Zlo Z (.int 8)) (sfm : Zfm Z wf) (ge_d : n0 ≤ d) (ne_b_d : b ≠ d) (v : AB Z h b kb z vs (.int 0)) (w : AB Z h d ky z2 ws (.int 0)) :
    Con l M_15 q61 5 none (rm4 4 0 0 60) Z n0 #[(.ref b), (.int 0), (.ref d), (.int 0), (.int 3)] h (fun v h' => v = none ∧ Keep h h' [d] ∧ AB Z h' d ky z2 ((((((ws.set 0 (loB e0)).set 1 (hiB e0)).set 2 (loB e1)).set 3 (hiB e1)).set 4 (loB e2)).set 5 (hiB e2)) (.int 0)) := by
  refine Con.of_go (plainFor_of_name pn_3) (Ls := #[.val (.ref b), .val (.int 0), .val (.ref d), .val (.int 0), .val (.int 3)]) ?_
  refine Go.aloadN (pc' := 1) d61_0 rfl rfl rfl ?_
  refine Go.iloadN (pc' := 2) d61_1 rfl rfl ?_
  refine Go.aloadN (pc' := 3) d61_2 rfl rfl rfl ?_
  refine Go.iloadN (pc' := 4) d61_3 rfl rfl ?_
  refine Go.iload (pc' := 6) d61_4 rfl rfl ?_
  refine Go.callS (cells' := 0) (slots' := 0) (pc' := 9) [(.ref b), (.int 0), (.ref d), (.int 0), (.int 3)] [] (ww hw 289 rfl) (ww hw 290 rfl) (ww hw 128 rfl) (ww hw 291 rfl) (by decide) (c_uinf3 l Z a0 hw h b kb z vs d ky z2 ws x0 x1 x2 e0 e1 e2 wf hs0 hv0 hq0 hs1 hv1 hq1 hs2 hv2 hq2 hd0 hm0 hd1 hm1 hd2 hm2 hd3 hm3 hd4 hm4 hd5 hm5 hb1 hb2 hwf sad shi slo sfm ge_d ne_b_d v w) pd_9 d61_6 rfl ?_
  rintro _ h1 ⟨rfl, K1, F1_0⟩
  show Go _ _ _ _ _ _ _ _ _ _ _ _ 9 _ []
  exact Go.retV rfl d61_9 ⟨rfl, K1, F1_0⟩
theorem c_uinf4 (hw : HW a0 Z) (h : Heap) (b : Addr) (kb : ClassId) (z : Int32) (vs : List Value) (d : Addr) (ky : ClassId) (z2 : Int32) (ws : List Value) (x0 x1 x2 x3 e0 e1 e2 e3 : Int32) (wf : Value) (hs0 : (0 : Int32) < z) (hv0 : vs.getD 0 (.int 0) = .int x0) (hq0 : (x0 &&& (255 : Int32)) = e0) (hs1 : (1 : Int32) < z) (hv1 : vs.getD 1 (.int 0) = .int x1) (hq1 : (x1 &&& (255 : Int32)) = e1) (hs2 : (2 : Int32) < z) (hv2 : vs.getD 2 (.int 0) = .int x2) (hq2 : (x2 &&& (255 : Int32)) = e2) (hs3 : (3 : Int32) < z) (hv3 : vs.getD 3 (.int 0) = .int x3) (hq3 : (x3 &&& (255 : Int32)) = e3) (hd0 : (0 : Int32) < z2) (hm0 : 0 < ws.length) (hd1 : (1 : Int32) < z2) (hm1 : 1 < ws.length) (hd2 : (2 : Int32) < z2) (hm2 : 2 < ws.length) (hd3 : (3 : Int32) < z2) (hm3 : 3 < ws.length) (hd4 : (4 : Int32) < z2) (hm4 : 4 < ws.length) (hd5 : (5 : Int32) < z2) (hm5 : 5 < ws.length) (hd6 : (6 : Int32) < z2) (hm6 : 6 < ws.length) (hd7 : (7 : Int32) < z2) (hm7 : 7 < ws.length) (hb1 : ¬ ((((z2 >>> ((1 : Int32) &&& 31)) ||| (0 : Int32)) ||| (4 : Int32)) < (0 : Int32))) (hb2 : ¬ (((z2 >>> ((1 : Int32) &&& 31)) - (0 : Int32)) < (4 : Int32))) (hwf : wf.isRef = true) (sad : Zad Z (.int 1)) (shi : Zhi Z (.int 0)) (slo : Zlo Z (.int 8)) (sfm : Zfm Z wf) (ge_d : n0 ≤ d) (ne_b_d : b ≠ d) (v : AB Z h b kb z vs (.int 0)) (w : AB Z h d ky z2 ws (.int 0)) :
    Con l M_14 q62 6 none (rm4 3 0 0 43) Z n0 #[(.ref b), (.int 0), (.ref d), (.int 0), (.int 4)] h (fun v h' => v = none ∧ Keep h h' [d] ∧ AB Z h' d ky z2 ((((((((ws.set 0 (loB e0)).set 1 (hiB e0)).set 2 (loB e1)).set 3 (hiB e1)).set 4 (loB e2)).set 5 (hiB e2)).set 6 (loB e3)).set 7 (hiB e3)) (.int 0)) := by
  refine Con.of_go (plainFor_of_name pn_2) (Ls := #[.val (.ref b), .val (.int 0), .val (.ref d), .val (.int 0), .val (.int 4), .unset]) ?_
  refine Go.iloadN (pc' := 1) d62_0 rfl rfl ?_
  refine Go.iload (pc' := 3) d62_1 rfl rfl ?_
  refine Go.aloadN (pc' := 4) d62_3 rfl rfl rfl ?_
  refine Go.callS (cells' := 0) (slots' := 0) (pc' := 7) [(.int 0), (.int 4), (.ref d)] [] (ww hw 268 rfl) (ww hw 269 rfl) (ww hw 128 rfl) (ww hw 270 rfl) (by decide) (c_uboc l Z a0 hw h (0 : Int32) (4 : Int32) d ky z2 ws wf hb1 hb2 hwf sfm w) pd_8 d62_4 rfl ?_
  rintro _ _ ⟨rfl, rfl⟩
  show Go _ _ _ _ _ _ _ _ _ _ _ _ 7 _ []
  refine Go.iconst (pc' := 8) (v := 0) d62_7 rfl rfl ?_
  refine Go.istore (pc' := 10) (Ls' := #[.val (.ref b), .val (.int 0), .val (.ref d), .val (.int 0), .val (.int 4), .val (.int 0)]) d62_8 rfl rfl ?_
  refine Go.iload (pc' := 12) d62_10 rfl rfl ?_
  refine Go.iload (pc' := 14) d62_12 rfl rfl ?_
  refine Go.icmpNo (pc' := 17) d62_14 (XT.ii_ge_f (by decide)) rfl ?_
  refine Go.aloadN (pc' := 18) d62_17 rfl rfl rfl ?_
  refine Go.iloadN (pc' := 19) d62_18 rfl rfl ?_
  refine Go.iinc (pc' := 22) (Ls' := #[.val (.ref b), .val (.int 0), .val (.ref d), .val (.int ((0 : Int32) + (1 : Int32))), .val (.int 4), .val (.int 0)]) (w := (1 : Int32)) d62_19 rfl rfl rfl rfl ?_
  show Go _ _ _ _ _ _ _ _ _ _ _ _ 22 #[.val (.ref b), .val (.int 0), .val (.ref d), .val (.int 1), .val (.int 4), .val (.int 0)] [(.int 0), (.ref d)]
  refine Go.aloadN (pc' := 23) d62_22 rfl rfl rfl ?_
  refine Go.iloadN (pc' := 24) d62_23 rfl rfl ?_
  refine Go.iinc (pc' := 27) (Ls' := #[.val (.ref b), .val (.int ((0 : Int32) + (1 : Int32))), .val (.ref d), .val (.int 1), .val (.int 4), .val (.int 0)]) (w := (1 : Int32)) d62_24 rfl rfl rfl rfl ?_
  show Go _ _ _ _ _ _ _ _ _ _ _ _ 27 #[.val (.ref b), .val (.int 1), .val (.ref d), .val (.int 1), .val (.int 4), .val (.int 0)] [(.int 0), (.ref b), (.int 0), (.ref d)]
  refine Go.baload (pc' := 28) (v := x0) v d62_27 (by decide) hs0 hv0 rfl ?_
  refine Go.sipush (pc' := 31) (v := 255) d62_28 rfl rfl ?_
  refine Go.iand (pc' := 32) d62_31 rfl ?_
  rw [hq0]
  refine Go.callS (cells' := 0) (slots' := 0) (pc' := 35) [(.ref d), (.int 0), (.int e0)] [] (ww hw 253 rfl) (ww hw 254 rfl) (ww hw 128 rfl) (ww hw 255 rfl) (by decide) (c_putChar l Z a0 hw h d ky z2 ws (0 : Int32) (0 : Int32) (1 : Int32) e0 (by decide) (by decide) (by decide) (by decide) hd0 hd1 hm0 hm1 sad shi slo ge_d w) pd_6 d62_32 rfl ?_
  rintro _ h2 ⟨rfl, K2, F2_0⟩
  show Go _ _ _ _ _ _ _ _ _ _ _ _ 35 _ []
  refine Go.iinc (pc' := 38) (Ls' := #[.val (.ref b), .val (.int 1), .val (.ref d), .val (.int 1), .val (.int 4), .val (.int ((0 : Int32) + (1 : Int32)))]) (w := (1 : Int32)) d62_35 rfl rfl rfl rfl ?_
  show Go _ _ _ _ _ _ _ _ _ _ _ _ 38 #[.val (.ref b), .val (.int 1), .val (.ref d), .val (.int 1), .val (.int 4), .val (.int 1)] []
  refine Go.goto (pc' := 10) d62_38 (by decide) (by decide) ?_
  refine Go.iload (pc' := 12) d62_10 rfl rfl ?_
  refine Go.iload (pc' := 14) d62_12 rfl rfl ?_
  refine Go.icmpNo (pc' := 17) d62_14 (XT.ii_ge_f (by decide)) rfl ?_
  refine Go.aloadN (pc' := 18) d62_17 rfl rfl rfl ?_
  refine Go.iloadN (pc' := 19) d62_18 rfl rfl ?_
  refine Go.iinc (pc' := 22) (Ls' := #[.val (.ref b), .val (.int 1), .val (.ref d), .val (.int ((1 : Int32) + (1 : Int32))), .val (.int 4), .val (.int 1)]) (w := (1 : Int32)) d62_19 rfl rfl rfl rfl ?_
  show Go _ _ _ _ _ _ _ _ _ _ _ _ 22 #[.val (.ref b), .val (.int 1), .val (.ref d), .val (.int 2), .val (.int 4), .val (.int 1)] [(.int 1), (.ref d)]
  refine Go.aloadN (pc' := 23) d62_22 rfl rfl rfl ?_
  refine Go.iloadN (pc' := 24) d62_23 rfl rfl ?_
  refine Go.iinc (pc' := 27) (Ls' := #[.val (.ref b), .val (.int ((1 : Int32) + (1 : Int32))), .val (.ref d), .val (.int 2), .val (.int 4), .val (.int 1)]) (w := (1 : Int32)) d62_24 rfl rfl rfl rfl ?_
  show Go _ _ _ _ _ _ _ _ _ _ _ _ 27 #[.val (.ref b), .val (.int 2), .val (.ref d), .val (.int 2), .val (.int 4), .val (.int 1)] [(.int 1), (.ref b), (.int 1), (.ref d)]
  refine Go.baload (pc' := 28) (v := x1) (v.keep K2 (ninS ne_b_d nin0)) d62_27 (by decide) hs1 hv1 rfl ?_
  refine Go.sipush (pc' := 31) (v := 255) d62_28 rfl rfl ?_
  refine Go.iand (pc' := 32) d62_31 rfl ?_
  rw [hq1]
  refine Go.callS (cells' := 0) (slots' := 0) (pc' := 35) [(.ref d), (.int 1), (.int e1)] [] (ww hw 253 rfl) (ww hw 254 rfl) (ww hw 128 rfl) (ww hw 255 rfl) (by decide) (c_putChar l Z a0 hw h2 d ky z2 (((ws.set (0 : Int32).toNatClampNeg (loB e0)).set (1 : Int32).toNatClampNeg (hiB e0))) (1 : Int32) (2 : Int32) (3 : Int32) e1 (by decide) (by decide) (by decide) (by decide) hd2 hd3 (by simp only [List.length_set]; exact hm2) (by simp only [List.length_set]; exact hm3) sad shi slo ge_d F2_0) pd_6 d62_32 rfl ?_
  rintro _ h4 ⟨rfl, K4, F4_0⟩
  have K5 := K2.trans K4 (allS (Or.inl (List.mem_of_getElem? (i := 0) rfl)) all0)
  show Go _ _ _ _ _ _ _ _ _ _ _ _ 35 _ []
  refine Go.iinc (pc' := 38) (Ls' := #[.val (.ref b), .val (.int 2), .val (.ref d), .val (.int 2), .val (.int 4), .val (.int ((1 : Int32) + (1 : Int32)))]) (w := (1 : Int32)) d62_35 rfl rfl rfl rfl ?_
  show Go _ _ _ _ _ _ _ _ _ _ _ _ 38 #[.val (.ref b), .val (.int 2), .val (.ref d), .val (.int 2), .val (.int 4), .val (.int 2)] []
  refine Go.goto (pc' := 10) d62_38 (by decide) (by decide) ?_
  refine Go.iload (pc' := 12) d62_10 rfl rfl ?_
  refine Go.iload (pc' := 14) d62_12 rfl rfl ?_
  refine Go.icmpNo (pc' := 17) d62_14 (XT.ii_ge_f (by decide)) rfl ?_
  refine Go.aloadN (pc' := 18) d62_17 rfl rfl rfl ?_
  refine Go.iloadN (pc' := 19) d62_18 rfl rfl ?_
  refine Go.iinc (pc' := 22) (Ls' := #[.val (.ref b), .val (.int 2), .val (.ref d), .val (.int ((2 : Int32) + (1 : Int32))), .val (.int 4), .val (.int 2)]) (w := (1 : Int32)) d62_19 rfl rfl rfl rfl ?_
  show Go _ _ _ _ _ _ _ _ _ _ _ _ 22 #[.val (.ref b), .val (.int 2), .val (.ref d), .val (.int 3), .val (.int 4), .val (.int 2)] [(.int 2), (.ref d)]
  refine Go.aloadN (pc' := 23) d62_22 rfl rfl rfl ?_
  refine Go.iloadN (pc' := 24) d62_23 rfl rfl ?_
  refine Go.iinc (pc' := 27) (Ls' := #[.val (.ref b), .val (.int ((2 : Int32) + (1 : Int32))), .val (.ref d), .val (.int 3), .val (.int 4), .val (.int 2)]) (w := (1 : Int32)) d62_24 rfl rfl rfl rfl ?_
  show Go _ _ _ _ _ _ _ _ _ _ _ _ 27 #[.val (.ref b), .val (.int 3), .val (.ref d), .val (.int 3), .val (.int 4), .val (.int 2)] [(.int 2), (.ref b), (.int 2), (.ref d)]
  have f6 := ((v.keep K2 (ninS ne_b_d nin0)).keep K4 (ninS ne_b_d nin0))
  refine Go.baload (pc' := 28) (v := x2) f6 d62_27 (by decide) hs2 hv2 rfl ?_
  refine Go.sipush (pc' := 31) (v := 255) d62_28 rfl rfl ?_
  refine Go.iand (pc' := 32) d62_31 rfl ?_
  rw [hq2]
  refine Go.callS (cells' := 0) (slots' := 0) (pc' := 35) [(.ref d), (.int 2), (.int e2)] [] (ww hw 253 rfl) (ww hw 254 rfl) (ww hw 128 rfl) (ww hw 255 rfl) (by decide) (c_putChar l Z a0 hw h4 d ky z2 (((((ws.set (0 : Int32).toNatClampNeg (loB e0)).set (1 : Int32).toNatClampNeg (hiB e0)).set (2 : Int32).toNatClampNeg (loB e1)).set (3 : Int32).toNatClampNeg (hiB e1))) (2 : Int32) (4 : Int32) (5 : Int32) e2 (by decide) (by decide) (by decide) (by decide) hd4 hd5 (by simp only [List.length_set]; exact hm4) (by simp only [List.length_set]; exact hm5) sad shi slo ge_d F4_0) pd_6 d62_32 rfl ?_
  rintro _ h7 ⟨rfl, K7, F7_0⟩
  have K8 := K5.trans K7 (allS (Or.inl (List.mem_of_getElem? (i := 0) rfl)) all0)
  show Go _ _ _ _ _ _ _ _ _ _ _ _ 35 _ []
  refine Go.iinc (pc' := 38) (Ls' := #[.val (.ref b), .val (.int 3), .val (.ref d), .val (.int 3), .val (.int 4), .val (.int ((2 : Int32) + (1 : Int32)))]) (w := (1 : Int32)) d62_35 rfl rfl rfl rfl ?_
  show Go _ _ _ _ _ _ _ _ _ _ _ _ 38 #[.val (.ref b), .val (.int 3), .val (.ref d), .val (.int 3), .val (.int 4), .val (.int 3)] []
  refine Go.goto (pc' := 10) d62_38 (by decide) (by decide) ?_
  refine Go.iload (pc' := 12) d62_10 rfl rfl ?_
  refine Go.iload (pc' := 14) d62_12 rfl rfl ?_
  refine Go.icmpNo (pc' := 17) d62_14 (XT.ii_ge_f (by decide)) rfl ?_
  refine Go.aloadN (pc' := 18) d62_17 rfl rfl rfl ?_
  refine Go.iloadN (pc' := 19) d62_18 rfl rfl ?_
  refine Go.iinc (pc' := 22) (Ls' := #[.val (.ref b), .val (.int 3), .val (.ref d), .val (.int ((3 : Int32) + (1 : Int32))), .val (.int 4), .val (.int 3)]) (w := (1 : Int32)) d62_19 rfl rfl rfl rfl ?_
  show Go _ _ _ _ _ _ _ _ _ _ _ _ 22 #[.val (.ref b), .val (.int 3), .val (.ref d), .val (.int 4), .val (.int 4), .val (.int 3)] [(.int 3), (.ref d)]
  refine Go.aloadN (pc' := 23) d62_22 rfl rfl rfl ?_
  refine Go.iloadN (pc' := 24) d62_23 rfl rfl ?_
  refine Go.iinc (pc' := 27) (Ls' := #[.val (.ref b), .val (.int ((3 : Int32) + (1 : Int32))), .val (.ref d), .val (.int 4), .val (.int 4), .val (.int 3)]) (w := (1 : Int32)) d62_24 rfl rfl rfl rfl ?_
  show Go _ _ _ _ _ _ _ _ _ _ _ _ 27 #[.val (.ref b), .val (.int 4), .val (.ref d), .val (.int 4), .val (.int 4), .val (.int 3)] [(.int 3), (.ref b), (.int 3), (.ref d)]
  refine Go.baload (pc' := 28) (v := x3) (f6.keep K7 (ninS ne_b_d nin0)) d62_27 (by decide) hs3 hv3 rfl ?_
  refine Go.sipush (pc' := 31) (v := 255) d62_28 rfl rfl ?_
  refine Go.iand (pc' := 32) d62_31 rfl ?_
  rw [hq3]
  refine Go.callS (cells' := 0) (slots' := 0) (pc' := 35) [(.ref d), (.int 3), (.int e3)] [] (ww hw 253 rfl) (ww hw 254 rfl) (ww hw 128 rfl) (ww hw 255 rfl) (by decide) (c_putChar l Z a0 hw h7 d ky z2 (((((((ws.set (0 : Int32).toNatClampNeg (loB e0)).set (1 : Int32).toNatClampNeg (hiB e0)).set (2 : Int32).toNatClampNeg (loB e1)).set (3 : Int32).toNatClampNeg (hiB e1)).set (4 : Int32).toNatClampNeg (loB e2)).set (5 : Int32).toNatClampNeg (hiB e2))) (3 : Int32) (6 : Int32) (7 : Int32) e3 (by decide) (by decide) (by decide) (by decide) hd6 hd7 (by simp only [List.length_set]; exact hm6) (by simp only [List.length_set]; exact hm7) sad shi slo ge_d F7_0) pd_6 d62_32 rfl ?_
  rintro _ h9 ⟨rfl, K9, F9_0⟩
  have K10 := K8.trans K9 (allS (Or.inl (List.mem_of_getElem? (i := 0) rfl)) all0)
  show Go _ _ _ _ _ _ _ _ _ _ _ _ 35 _ []
  refine Go.iinc (pc' := 38) (Ls' := #[.val (.ref b), .val (.int 4), .val (.ref d), .val (.int 4), .val (.int 4), .val (.int ((3 : Int32) + (1 : Int32)))]) (w := (1 : Int32)) d62_35 rfl rfl rfl rfl ?_
  show Go _ _ _ _ _ _ _ _ _ _ _ _ 38 #[.val (.ref b), .val (.int 4), .val (.ref d), .val (.int 4), .val (.int 4), .val (.int 4)] []
  refine Go.goto (pc' := 10) d62_38 (by decide) (by decide) ?_
  refine Go.iload (pc' := 12) d62_10 rfl rfl ?_
  refine Go.iload (pc' := 14) d62_12 rfl rfl ?_
  refine Go.icmpYes (pc' := 41) d62_14 (XT.ii_ge_t (by decide)) (by decide) (by decide) ?_
  exact Go.retV rfl d62_41 ⟨rfl, K10, F9_0⟩
theorem c_linf4 (hw : HW a0 Z) (h : Heap) (b : Addr) (kb : ClassId) (z : Int32) (vs : List Value) (d : Addr) (ky : ClassId) (z2 : Int32) (ws : List Value) (x0 x1 x2 x3 e0 e1 e2 e3 : Int32) (wf : Value) (hs0 : (0 : Int32) < z) (hv0 : vs.getD 0 (.int 0) = .int x0) (hq0 : (x0 &&& (255 : Int32)) = e0) (hs1 : (1 : Int32) < z) (hv1 : vs.getD 1 (.int 0) = .int x1) (hq1 : (x1 &&& (255 : Int32)) = e1) (hs2 : (2 : Int32) < z) (hv2 : vs.getD 2 (.int 0) = .int x2) (hq2 : (x2 &&& (255 : Int32)) = e2) (hs3 : (3 : Int32) < z) (hv3 : vs.getD 3 (.int 0) = .int x3) (hq3 : (x3 &&& (255 : Int32)) = e3) (hd0 : (0 : Int32) < z2) (hm0 : 0 < ws.length) (hd1 : (1 : Int32) < z2) (hm1 : 1 < ws.length) (hd2 : (2 : Int32) < z2) (hm2 : 2 < ws.length) (hd3 : (3 : Int32) < z2) (hm3 : 3 < ws.length) (hd4 : (4 : Int32) < z2) (hm4 : 4 < ws.length) (hd5 : (5 : Int32) < z2) (hm5 : 5 < ws.length) (hd6 : (6 : Int32) < z2) (hm6 : 6 < ws.length) (hd7 : (7 : Int32) < z2) (hm7 : 7 < ws.length) (hb1 : ¬ ((((z2 >>> ((1 : Int32) &&& 31)) ||| (0 : Int32)) ||| (4 : Int32)) < (0 : Int32))) (hb2 : ¬ (((z2 >>> ((1 : Int32) &&& 31)) - (0 : Int32)) < (4 : Int32))) (hwf : wf.isRef = true) (sad : Zad Z (.int 1)) (shi : Zhi Z (.int 0)) (slo : Zlo Z (.int 8)) (sfm : Zfm Z wf) (ge_d : n0 ≤ d) (ne_b_d : b ≠ d) (v : AB Z h b kb z vs (.int 0)) (w : AB Z h d ky z2 ws (.int 0)) :
    Con l M_15 q61 5 none (rm4 4 0 0 60) Z n0 #[(.ref b), (.int 0), (.ref d), (.int 0), (.int 4)] h (fun v h' => v = none ∧ Keep h h' [d] ∧ AB Z h' d ky z2 ((((((((ws.set 0 (loB e0)).set 1 (hiB e0)).set 2 (loB e1)).set 3 (hiB e1)).set 4 (loB e2)).set 5 (hiB e2)).set 6 (loB e3)).set 7 (hiB e3)) (.int 0)) := by
  refine Con.of_go (plainFor_of_name pn_3) (Ls := #[.val (.ref b), .val (.int 0), .val (.ref d), .val (.int 0), .val (.int 4)]) ?_
  refine Go.aloadN (pc' := 1) d61_0 rfl rfl rfl ?_
  refine Go.iloadN (pc' := 2) d61_1 rfl rfl ?_
  refine Go.aloadN (pc' := 3) d61_2 rfl rfl rfl ?_
  refine Go.iloadN (pc' := 4) d61_3 rfl rfl ?_
  refine Go.iload (pc' := 6) d61_4 rfl rfl ?_
  refine Go.callS (cells' := 0) (slots' := 0) (pc' := 9) [(.ref b), (.int 0), (.ref d), (.int 0), (.int 4)] [] (ww hw 289 rfl) (ww hw 290 rfl) (ww hw 128 rfl) (ww hw 291 rfl) (by decide) (c_uinf4 l Z a0 hw h b kb z vs d ky z2 ws x0 x1 x2 x3 e0 e1 e2 e3 wf hs0 hv0 hq0 hs1 hv1 hq1 hs2 hv2 hq2 hs3 hv3 hq3 hd0 hm0 hd1 hm1 hd2 hm2 hd3 hm3 hd4 hm4 hd5 hm5 hd6 hm6 hd7 hm7 hb1 hb2 hwf sad shi slo sfm ge_d ne_b_d v w) pd_9 d61_6 rfl ?_
  rintro _ h1 ⟨rfl, K1, F1_0⟩
  show Go _ _ _ _ _ _ _ _ _ _ _ _ 9 _ []
  exact Go.retV rfl d61_9 ⟨rfl, K1, F1_0⟩
theorem c_uinfS (hw : HW a0 Z) (h : Heap) (b : Addr) (kb : ClassId) (z : Int32) (vs : List Value) (d : Addr) (ky : ClassId) (z2 : Int32) (ws : List Value) (x0 x1 e0 e1 off o1 u0 w0 u1 w1 : Int32) (wf : Value) (hs0 : (0 : Int32) < z) (hv0 : vs.getD 0 (.int 0) = .int x0) (hq0 : (x0 &&& (255 : Int32)) = e0) (hs1 : (1 : Int32) < z) (hv1 : vs.getD 1 (.int 0) = .int x1) (hq1 : (x1 &&& (255 : Int32)) = e1) (ho : (off + (1 : Int32)) = o1) (hu0 : (off <<< ((1 : Int32) &&& 31)) = u0) (hw10 : (u0 + (1 : Int32)) = w0) (hu00 : ¬ (u0 < (0 : Int32))) (hw00 : ¬ (w0 < (0 : Int32))) (hz00 : u0 < z2) (hz10 : w0 < z2) (hu1 : (o1 <<< ((1 : Int32) &&& 31)) = u1) (hw11 : (u1 + (1 : Int32)) = w1) (hu01 : ¬ (u1 < (0 : Int32))) (hw01 : ¬ (w1 < (0 : Int32))) (hz01 : u1 < z2) (hz11 : w1 < z2) (hmu0 : u0.toNatClampNeg < ws.length) (hmw0 : w0.toNatClampNeg < ws.length) (hmu1 : u1.toNatClampNeg < ws.length) (hmw1 : w1.toNatClampNeg < ws.length) (hb1 : ¬ ((((z2 >>> ((1 : Int32) &&& 31)) ||| off) ||| (2 : Int32)) < (0 : Int32))) (hb2 : ¬ (((z2 >>> ((1 : Int32) &&& 31)) - off) < (2 : Int32))) (hwf : wf.isRef = true) (sad : Zad Z (.int 1)) (shi : Zhi Z (.int 0)) (slo : Zlo Z (.int 8)) (sfm : Zfm Z wf) (ge_d : n0 ≤ d) (ne_b_d : b ≠ d) (v : AB Z h b kb z vs (.int 0)) (w : AB Z h d ky z2 ws (.int 0)) :
    Con l M_14 q62 6 none (rm4 3 0 0 43) Z n0 #[(.ref b), (.int 0), (.ref d), (.int off), (.int 2)] h (fun v h' => v = none ∧ Keep h h' [d] ∧ AB Z h' d ky z2 ((((ws.set u0.toNatClampNeg (loB e0)).set w0.toNatClampNeg (hiB e0)).set u1.toNatClampNeg (loB e1)).set w1.toNatClampNeg (hiB e1)) (.int 0)) := by
  refine Con.of_go (plainFor_of_name pn_2) (Ls := #[.val (.ref b), .val (.int 0), .val (.ref d), .val (.int off), .val (.int 2), .unset]) ?_
  refine Go.iloadN (pc' := 1) d62_0 rfl rfl ?_
  refine Go.iload (pc' := 3) d62_1 rfl rfl ?_
  refine Go.aloadN (pc' := 4) d62_3 rfl rfl rfl ?_
  refine Go.callS (cells' := 0) (slots' := 0) (pc' := 7) [(.int off), (.int 2), (.ref d)] [] (ww hw 268 rfl) (ww hw 269 rfl) (ww hw 128 rfl) (ww hw 270 rfl) (by decide) (c_uboc l Z a0 hw h off (2 : Int32) d ky z2 ws wf hb1 hb2 hwf sfm w) pd_8 d62_4 rfl ?_
  rintro _ _ ⟨rfl, rfl⟩
  show Go _ _ _ _ _ _ _ _ _ _ _ _ 7 _ []
  refine Go.iconst (pc' := 8) (v := 0) d62_7 rfl rfl ?_
  refine Go.istore (pc' := 10) (Ls' := #[.val (.ref b), .val (.int 0), .val (.ref d), .val (.int off), .val (.int 2), .val (.int 0)]) d62_8 rfl rfl ?_
  refine Go.iload (pc' := 12) d62_10 rfl rfl ?_
  refine Go.iload (pc' := 14) d62_12 rfl rfl ?_
  refine Go.icmpNo (pc' := 17) d62_14 (XT.ii_ge_f (by decide)) rfl ?_
  refine Go.aloadN (pc' := 18) d62_17 rfl rfl rfl ?_
  refine Go.iloadN (pc' := 19) d62_18 rfl rfl ?_
  refine Go.iinc (pc' := 22) (Ls' := #[.val (.ref b), .val (.int 0), .val (.ref d), .val (.int (off + (1 : Int32))), .val (.int 2), .val (.int 0)]) (w := (1 : Int32)) d62_19 rfl rfl rfl rfl ?_
  rw [ho]
  refine Go.aloadN (pc' := 23) d62_22 rfl rfl rfl ?_
  refine Go.iloadN (pc' := 24) d62_23 rfl rfl ?_
  refine Go.iinc (pc' := 27) (Ls' := #[.val (.ref b), .val (.int ((0 : Int32) + (1 : Int32))), .val (.ref d), .val (.int o1), .val (.int 2), .val (.int 0)]) (w := (1 : Int32)) d62_24 rfl rfl rfl rfl ?_
  show Go _ _ _ _ _ _ _ _ _ _ _ _ 27 #[.val (.ref b), .val (.int 1), .val (.ref d), .val (.int o1), .val (.int 2), .val (.int 0)] [(.int 0), (.ref b), (.int off), (.ref d)]
  refine Go.baload (pc' := 28) (v := x0) v d62_27 (by decide) hs0 hv0 rfl ?_
  refine Go.sipush (pc' := 31) (v := 255) d62_28 rfl rfl ?_
  refine Go.iand (pc' := 32) d62_31 rfl ?_
  rw [hq0]
  refine Go.callS (cells' := 0) (slots' := 0) (pc' := 35) [(.ref d), (.int off), (.int e0)] [] (ww hw 253 rfl) (ww hw 254 rfl) (ww hw 128 rfl) (ww hw 255 rfl) (by decide) (c_putChar l Z a0 hw h d ky z2 ws off u0 w0 e0 hu0 hw10 hu00 hw00 hz00 hz10 hmu0 hmw0 sad shi slo ge_d w) pd_6 d62_32 rfl ?_
  rintro _ h2 ⟨rfl, K2, F2_0⟩
  show Go _ _ _ _ _ _ _ _ _ _ _ _ 35 _ []
  refine Go.iinc (pc' := 38) (Ls' := #[.val (.ref b), .val (.int 1), .val (.ref d), .val (.int o1), .val (.int 2), .val (.int ((0 : Int32) + (1 : Int32)))]) (w := (1 : Int32)) d62_35 rfl rfl rfl rfl ?_
  show Go _ _ _ _ _ _ _ _ _ _ _ _ 38 #[.val (.ref b), .val (.int 1), .val (.ref d), .val (.int o1), .val (.int 2), .val (.int 1)] []
  refine Go.goto (pc' := 10) d62_38 (by decide) (by decide) ?_
  refine Go.iload (pc' := 12) d62_10 rfl rfl ?_
  refine Go.iload (pc' := 14) d62_12 rfl rfl ?_
  refine Go.icmpNo (pc' := 17) d62_14 (XT.ii_ge_f (by decide)) rfl ?_
  refine Go.aloadN (pc' := 18) d62_17 rfl rfl rfl ?_
  refine Go.iloadN (pc' := 19) d62_18 rfl rfl ?_
  refine Go.iinc (pc' := 22) (Ls' := #[.val (.ref b), .val (.int 1), .val (.ref d), .val (.int (o1 + (1 : Int32))), .val (.int 2), .val (.int 1)]) (w := (1 : Int32)) d62_19 rfl rfl rfl rfl ?_
  refine Go.aloadN (pc' := 23) d62_22 rfl rfl rfl ?_
  refine Go.iloadN (pc' := 24) d62_23 rfl rfl ?_
  refine Go.iinc (pc' := 27) (Ls' := #[.val (.ref b), .val (.int ((1 : Int32) + (1 : Int32))), .val (.ref d), .val (.int (o1 + (1 : Int32))), .val (.int 2), .val (.int 1)]) (w := (1 : Int32)) d62_24 rfl rfl rfl rfl ?_
  show Go _ _ _ _ _ _ _ _ _ _ _ _ 27 #[.val (.ref b), .val (.int 2), .val (.ref d), .val (.int (o1 + (1 : Int32))), .val (.int 2), .val (.int 1)] [(.int 1), (.ref b), (.int o1), (.ref d)]
  refine Go.baload (pc' := 28) (v := x1) (v.keep K2 (ninS ne_b_d nin0)) d62_27 (by decide) hs1 hv1 rfl ?_
  refine Go.sipush (pc' := 31) (v := 255) d62_28 rfl rfl ?_
  refine Go.iand (pc' := 32) d62_31 rfl ?_
  rw [hq1]
  refine Go.callS (cells' := 0) (slots' := 0) (pc' := 35) [(.ref d), (.int o1), (.int e1)] [] (ww hw 253 rfl) (ww hw 254 rfl) (ww hw 128 rfl) (ww hw 255 rfl) (by decide) (c_putChar l Z a0 hw h2 d ky z2 (((ws.set u0.toNatClampNeg (loB e0)).set w0.toNatClampNeg (hiB e0))) o1 u1 w1 e1 hu1 hw11 hu01 hw01 hz01 hz11 (by simp only [List.length_set]; exact hmu1) (by simp only [List.length_set]; exact hmw1) sad shi slo ge_d F2_0) pd_6 d62_32 rfl ?_
  rintro _ h4 ⟨rfl, K4, F4_0⟩
  have K5 := K2.trans K4 (allS (Or.inl (List.mem_of_getElem? (i := 0) rfl)) all0)
  show Go _ _ _ _ _ _ _ _ _ _ _ _ 35 _ []
  refine Go.iinc (pc' := 38) (Ls' := #[.val (.ref b), .val (.int 2), .val (.ref d), .val (.int (o1 + (1 : Int32))), .val (.int 2), .val (.int ((1 : Int32) + (1 : Int32)))]) (w := (1 : Int32)) d62_35 rfl rfl rfl rfl ?_
  show Go _ _ _ _ _ _ _ _ _ _ _ _ 38 #[.val (.ref b), .val (.int 2), .val (.ref d), .val (.int (o1 + (1 : Int32))), .val (.int 2), .val (.int 2)] []
  refine Go.goto (pc' := 10) d62_38 (by decide) (by decide) ?_
  refine Go.iload (pc' := 12) d62_10 rfl rfl ?_
  refine Go.iload (pc' := 14) d62_12 rfl rfl ?_
  refine Go.icmpYes (pc' := 41) d62_14 (XT.ii_ge_t (by decide)) (by decide) (by decide) ?_
  exact Go.retV rfl d62_41 ⟨rfl, K5, F4_0⟩
theorem c_linfS (hw : HW a0 Z) (h : Heap) (b : Addr) (kb : ClassId) (z : Int32) (vs : List Value) (d : Addr) (ky : ClassId) (z2 : Int32) (ws : List Value) (x0 x1 e0 e1 off o1 u0 w0 u1 w1 : Int32) (wf : Value) (hs0 : (0 : Int32) < z) (hv0 : vs.getD 0 (.int 0) = .int x0) (hq0 : (x0 &&& (255 : Int32)) = e0) (hs1 : (1 : Int32) < z) (hv1 : vs.getD 1 (.int 0) = .int x1) (hq1 : (x1 &&& (255 : Int32)) = e1) (ho : (off + (1 : Int32)) = o1) (hu0 : (off <<< ((1 : Int32) &&& 31)) = u0) (hw10 : (u0 + (1 : Int32)) = w0) (hu00 : ¬ (u0 < (0 : Int32))) (hw00 : ¬ (w0 < (0 : Int32))) (hz00 : u0 < z2) (hz10 : w0 < z2) (hu1 : (o1 <<< ((1 : Int32) &&& 31)) = u1) (hw11 : (u1 + (1 : Int32)) = w1) (hu01 : ¬ (u1 < (0 : Int32))) (hw01 : ¬ (w1 < (0 : Int32))) (hz01 : u1 < z2) (hz11 : w1 < z2) (hmu0 : u0.toNatClampNeg < ws.length) (hmw0 : w0.toNatClampNeg < ws.length) (hmu1 : u1.toNatClampNeg < ws.length) (hmw1 : w1.toNatClampNeg < ws.length) (hb1 : ¬ ((((z2 >>> ((1 : Int32) &&& 31)) ||| off) ||| (2 : Int32)) < (0 : Int32))) (hb2 : ¬ (((z2 >>> ((1 : Int32) &&& 31)) - off) < (2 : Int32))) (hwf : wf.isRef = true) (sad : Zad Z (.int 1)) (shi : Zhi Z (.int 0)) (slo : Zlo Z (.int 8)) (sfm : Zfm Z wf) (ge_d : n0 ≤ d) (ne_b_d : b ≠ d) (v : AB Z h b kb z vs (.int 0)) (w : AB Z h d ky z2 ws (.int 0)) :
    Con l M_15 q61 5 none (rm4 4 0 0 60) Z n0 #[(.ref b), (.int 0), (.ref d), (.int off), (.int 2)] h (fun v h' => v = none ∧ Keep h h' [d] ∧ AB Z h' d ky z2 ((((ws.set u0.toNatClampNeg (loB e0)).set w0.toNatClampNeg (hiB e0)).set u1.toNatClampNeg (loB e1)).set w1.toNatClampNeg (hiB e1)) (.int 0)) := by
  refine Con.of_go (plainFor_of_name pn_3) (Ls := #[.val (.ref b), .val (.int 0), .val (.ref d), .val (.int off), .val (.int 2)]) ?_
  refine Go.aloadN (pc' := 1) d61_0 rfl rfl rfl ?_
  refine Go.iloadN (pc' := 2) d61_1 rfl rfl ?_
  refine Go.aloadN (pc' := 3) d61_2 rfl rfl rfl ?_
  refine Go.iloadN (pc' := 4) d61_3 rfl rfl ?_
  refine Go.iload (pc' := 6) d61_4 rfl rfl ?_
  refine Go.callS (cells' := 0) (slots' := 0) (pc' := 9) [(.ref b), (.int 0), (.ref d), (.int off), (.int 2)] [] (ww hw 289 rfl) (ww hw 290 rfl) (ww hw 128 rfl) (ww hw 291 rfl) (by decide) (c_uinfS l Z a0 hw h b kb z vs d ky z2 ws x0 x1 e0 e1 off o1 u0 w0 u1 w1 wf hs0 hv0 hq0 hs1 hv1 hq1 ho hu0 hw10 hu00 hw00 hz00 hz10 hu1 hw11 hu01 hw01 hz01 hz11 hmu0 hmw0 hmu1 hmw1 hb1 hb2 hwf sad shi slo sfm ge_d ne_b_d v w) pd_9 d61_6 rfl ?_
  rintro _ h1 ⟨rfl, K1, F1_0⟩
  show Go _ _ _ _ _ _ _ _ _ _ _ _ 9 _ []
  exact Go.retV rfl d61_9 ⟨rfl, K1, F1_0⟩
theorem c_asbLat0 (hw : HW a0 Z) (h : Heap) (a : Addr) (cp : Int32) (hcp : ¬ (cp = (0 : Int32))) (scp : Zcp Z (.int cp)) (f : FK Z h a (.int 0)) :
    Con l M_16 q20 1 (some .boolean) (rm4 0 0 0 0) Z n0 #[(.ref a)] h (fun v h' => v = some (.int 1) ∧ h = h') := by
  refine Con.of_go (plainFor_of_name pn_4) (Ls := #[.val (.ref a)]) ?_
  refine Go.old (fun old1 => ?_)
  refine Go.getstatic (pc' := 3) (host := "") (Or.inl (ww hw 56 rfl)) Via.refl (scp.ext old1.2) d20_0 rfl ?_
  refine Go.ifNo (pc' := 6) d20_3 (XT.i0_eq_f hcp) rfl ?_
  refine Go.aloadN (pc' := 7) d20_6 rfl rfl rfl ?_
  refine Go.getfield (pc' := 10) (host := "") (Or.inl (ww hw 59 rfl)) Via.refl f d20_7 rfl ?_
  refine Go.ifNo (pc' := 13) d20_10 (XT.i0_ne_f (by decide)) rfl ?_
  refine Go.iconst (pc' := 14) (v := 1) d20_13 rfl rfl ?_
  refine Go.goto (pc' := 18) d20_14 (by decide) (by decide) ?_
  exact Go.retN (t := .boolean) rfl (by simp) d20_18 ⟨rfl, rfl⟩
theorem c_asbLat1 (hw : HW a0 Z) (h : Heap) (a : Addr) (cp : Int32) (hcp : ¬ (cp = (0 : Int32))) (scp : Zcp Z (.int cp)) (f : FK Z h a (.int 1)) :
    Con l M_16 q20 1 (some .boolean) (rm4 0 0 0 0) Z n0 #[(.ref a)] h (fun v h' => v = some (.int 0) ∧ h = h') := by
  refine Con.of_go (plainFor_of_name pn_4) (Ls := #[.val (.ref a)]) ?_
  refine Go.old (fun old1 => ?_)
  refine Go.getstatic (pc' := 3) (host := "") (Or.inl (ww hw 56 rfl)) Via.refl (scp.ext old1.2) d20_0 rfl ?_
  refine Go.ifNo (pc' := 6) d20_3 (XT.i0_eq_f hcp) rfl ?_
  refine Go.aloadN (pc' := 7) d20_6 rfl rfl rfl ?_
  refine Go.getfield (pc' := 10) (host := "") (Or.inl (ww hw 59 rfl)) Via.refl f d20_7 rfl ?_
  refine Go.ifYes (pc' := 17) d20_10 (XT.i0_ne_t (by decide)) (by decide) (by decide) ?_
  refine Go.iconst (pc' := 18) (v := 0) d20_17 rfl rfl ?_
  exact Go.retN (t := .boolean) rfl (by simp) d20_18 ⟨rfl, rfl⟩
theorem c_infl0 (hw : HW a0 Z) (h : Heap) (a b : Addr) (kb : ClassId) (z : Int32) (vs : List Value) (y cp : Int32) (wf : Value) (hcp : ¬ (cp = (0 : Int32))) (hwf : wf.isRef = true) (hz0 : ¬ (z < (0 : Int32))) (hzM : z < (1073741823 : Int32)) (hY : (z <<< ((1 : Int32) &&& 31)) = y) (hy0 : ¬ (y < (0 : Int32))) (hy16 : y.toNatClampNeg ≤ 16) (hb1 : ¬ ((((y >>> ((1 : Int32) &&& 31)) ||| (0 : Int32)) ||| (0 : Int32)) < (0 : Int32))) (hb2 : ¬ (((y >>> ((1 : Int32) &&& 31)) - (0 : Int32)) < (0 : Int32))) (scp : Zcp Z (.int cp)) (sad : Zad Z (.int 1)) (shi : Zhi Z (.int 0)) (slo : Zlo Z (.int 8)) (sfm : Zfm Z wf) (ge_a : n0 ≤ a) (xa : EB Z h a) (pf0 : FV Z h a (.ref b)) (pf1 : FK Z h a (.int 0)) (pf2 : FN Z h a (.int 0)) (pf3 : FM Z h a (.int 0)) (v : AB Z h b kb z vs (.int 0)) :
    Con l M_17 q60 2 none (rm4 5 1 16 76) Z n0 #[(.ref a)] h (fun v h' => ∃ d : Addr, ∃ ky : ClassId, v = none ∧ Keep h h' [a] ∧ n0 ≤ d ∧ h.size ≤ d ∧ FV Z h' a (.ref d) ∧ FK Z h' a (.int 1) ∧ FN Z h' a (.int 0) ∧ FM Z h' a (.int 0) ∧ AB Z h' d ky y [(.int 0), (.int 0)] (.int 0) ∧ EA Z h' d) := by
  refine Con.of_go (plainFor_of_name pn_4) (Ls := #[.val (.ref a), .unset]) ?_
  refine Go.aloadN (pc' := 1) d60_0 rfl rfl rfl ?_
  refine Go.callV (cells' := 0) (slots' := 0) (pc' := 4) [] [] xa (ww hw 238 rfl) (ww hw 107 rfl) (nfS (ww hw 109 rfl)) (ww hw 109 rfl) (ww hw 108 rfl) (ww hw 53 rfl) (ww hw 110 rfl) (by decide) (c_asbLat0 l Z a0 hw h a cp hcp scp pf1) pd_10 d60_1 rfl ?_
  rintro _ _ ⟨rfl, rfl⟩
  show Go _ _ _ _ _ _ _ _ _ _ _ _ 4 _ [(.int 1)]
  refine Go.ifYes (pc' := 8) d60_4 (XT.i0_ne_t (by decide)) (by decide) (by decide) ?_
  refine Go.aloadN (pc' := 9) d60_8 rfl rfl rfl ?_
  refine Go.getfield (pc' := 12) (host := "") (Or.inl (ww hw 57 rfl)) Via.refl pf0 d60_9 rfl ?_
  refine Go.arraylength (pc' := 13) v d60_12 rfl ?_
  refine Go.callS (cells' := 1) (slots' := 16) (pc' := 16) [(.int z)] [] (ww hw 285 rfl) (ww hw 247 rfl) (ww hw 128 rfl) (ww hw 248 rfl) (by decide) (c_nbf l Z a0 hw h z y hz0 hzM hY hy0 hy16) pd_11 d60_13 rfl ?_
  rintro _ h2 ⟨d_2, ky_2, rfl, K2, ge_d_2, sz_d_2, F2_0, F2_1⟩
  have K3 := (Keep.refl h [a]).trans K2 all0
  show Go _ _ _ _ _ _ _ _ _ _ _ _ 16 _ [(.ref d_2)]
  have V4 : AB Z h2 d_2 ky_2 y [(.int 0), (.int 0)] (.int 0) := Arv.pad F2_0 (pad_rep [] (.int 0) 2)
  refine Go.astoreN (pc' := 17) (Ls' := #[.val (.ref a), .val (.ref d_2)]) d60_16 rfl rfl rfl ?_
  refine Go.aloadN (pc' := 18) d60_17 rfl rfl rfl ?_
  refine Go.getfield (pc' := 21) (host := "") (Or.inl (ww hw 57 rfl)) Via.refl (pf0.keep K2 nin0) d60_18 rfl ?_
  refine Go.iconst (pc' := 22) (v := 0) d60_21 rfl rfl ?_
  refine Go.aloadN (pc' := 23) d60_22 rfl rfl rfl ?_
  refine Go.iconst (pc' := 24) (v := 0) d60_23 rfl rfl ?_
  refine Go.aloadN (pc' := 25) d60_24 rfl rfl rfl ?_
  refine Go.getfield (pc' := 28) (host := "") (Or.inl (ww hw 104 rfl)) Via.refl (pf2.keep K2 nin0) d60_25 rfl ?_
  have ne5 := (Nat.ne_of_lt (Nat.lt_of_lt_of_le v.lt sz_d_2))
  refine Go.callS (cells' := 1) (slots' := 16) (pc' := 31) [(.ref b), (.int 0), (.ref d_2), (.int 0), (.int 0)] [] (ww hw 286 rfl) (ww hw 287 rfl) (ww hw 73 rfl) (ww hw 288 rfl) (by decide) (c_linf0 l Z a0 hw h2 b kb z vs d_2 ky_2 y ([(.int 0), (.int 0)]) wf hb1 hb2 hwf sad shi slo sfm ge_d_2 ne5 (v.keep K2 nin0) V4) pd_9 d60_28 rfl ?_
  rintro _ h6 ⟨rfl, K6, F6_0⟩
  have K7 := K3.trans K6 (allS (Or.inr sz_d_2) all0)
  show Go _ _ _ _ _ _ _ _ _ _ _ _ 31 _ []
  refine Go.aloadN (pc' := 32) d60_31 rfl rfl rfl ?_
  refine Go.aloadN (pc' := 33) d60_32 rfl rfl rfl ?_
  have ne8 := (Nat.ne_of_lt (Nat.lt_of_lt_of_le pf3.lt sz_d_2))
  have f9 := ((pf0.keep K2 nin0).keep K6 (ninS ne8 nin0))
  refine Go.putfield (pc' := 36) (host := "") (Or.inl (ww hw 57 rfl)) Via.refl f9 ((xa.keep K2).keep K6) (Or.inl (ww hw 58 rfl)) (ww hw 33 rfl) (ty := (.array .byte)) (by decide) rfl rfl ge_a d60_33 rfl ?_
  intro h10 W11
  have K12 := K7.wr W11 (Or.inl (List.mem_of_getElem? (i := 0) rfl))
  have f13 := f9.same W11
  refine Go.aloadN (pc' := 37) d60_36 rfl rfl rfl ?_
  refine Go.iconst (pc' := 38) (v := 1) d60_37 rfl rfl ?_
  have f14 := (((pf1.keep K2 nin0).keep K6 (ninS ne8 nin0)).other W11 (Or.inr (sn_0 hw)))
  refine Go.putfieldN (pc' := 41) (ww hw 59 rfl) Via.refl f14 (((xa.keep K2).keep K6).wr W11) (Or.inl (ww hw 60 rfl)) (ww hw 33 rfl) (ty := .byte) (v' := (1 : Int32)) (by decide) (by first | rfl | decide) (by first | rfl | decide | exact fits_nar_byte _) ge_a d60_38 rfl ?_
  intro h15 W16
  have K17 := K12.wr W16 (Or.inl (List.mem_of_getElem? (i := 0) rfl))
  have f18 := f14.same W16
  have f19 := ((((pf2.keep K2 nin0).keep K6 (ninS ne8 nin0)).other W11 (Or.inr (sn_2 hw))).other W16 (Or.inr (sn_3 hw)))
  have f20 := ((((pf3.keep K2 nin0).keep K6 (ninS ne8 nin0)).other W11 (Or.inr (sn_4 hw))).other W16 (Or.inr (sn_5 hw)))
  have f21 := ((F6_0.other W11 (Ne.symm ne8)).other W16 (Ne.symm ne8))
  exact Go.retV rfl d60_41 ⟨d_2, ky_2, rfl, K17, ge_d_2, sz_d_2, (f13.other W16 (Or.inr (sn_1 hw))), f18, f19, f20, f21, (((F2_1.keep K6).wr W11).wr W16)⟩
theorem c_infl1 (hw : HW a0 Z) (h : Heap) (a b : Addr) (kb : ClassId) (z : Int32) (vs : List Value) (y e0 cp : Int32) (wf : Value) (hcp : ¬ (cp = (0 : Int32))) (hwf : wf.isRef = true) (hz0 : ¬ (z < (0 : Int32))) (hzM : z < (1073741823 : Int32)) (hY : (z <<< ((1 : Int32) &&& 31)) = y) (hy0 : ¬ (y < (0 : Int32))) (hy16 : y.toNatClampNeg ≤ 16) (hs0 : (0 : Int32) < z) (hv0 : vs.getD 0 (.int 0) = .int e0.toInt8.toInt32) (hq0 : (e0.toInt8.toInt32 &&& (255 : Int32)) = e0) (hd0 : (0 : Int32) < y) (hd1 : (1 : Int32) < y) (hb1 : ¬ ((((y >>> ((1 : Int32) &&& 31)) ||| (0 : Int32)) ||| (1 : Int32)) < (0 : Int32))) (hb2 : ¬ (((y >>> ((1 : Int32) &&& 31)) - (0 : Int32)) < (1 : Int32))) (scp : Zcp Z (.int cp)) (sad : Zad Z (.int 1)) (shi : Zhi Z (.int 0)) (slo : Zlo Z (.int 8)) (sfm : Zfm Z wf) (ge_a : n0 ≤ a) (xa : EB Z h a) (pf0 : FV Z h a (.ref b)) (pf1 : FK Z h a (.int 0)) (pf2 : FN Z h a (.int 1)) (pf3 : FM Z h a (.int 0)) (v : AB Z h b kb z vs (.int 0)) :
    Con l M_17 q60 2 none (rm4 5 1 16 76) Z n0 #[(.ref a)] h (fun v h' => ∃ d : Addr, ∃ ky : ClassId, v = none ∧ Keep h h' [a] ∧ n0 ≤ d ∧ h.size ≤ d ∧ FV Z h' a (.ref d) ∧ FK Z h' a (.int 1) ∧ FN Z h' a (.int 1) ∧ FM Z h' a (.int 0) ∧ AB Z h' d ky y [(loB e0), (hiB e0), (.int 0), (.int 0)] (.int 0) ∧ EA Z h' d) := by
  refine Con.of_go (plainFor_of_name pn_4) (Ls := #[.val (.ref a), .unset]) ?_
  refine Go.aloadN (pc' := 1) d60_0 rfl rfl rfl ?_
  refine Go.callV (cells' := 0) (slots' := 0) (pc' := 4) [] [] xa (ww hw 238 rfl) (ww hw 107 rfl) (nfS (ww hw 109 rfl)) (ww hw 109 rfl) (ww hw 108 rfl) (ww hw 53 rfl) (ww hw 110 rfl) (by decide) (c_asbLat0 l Z a0 hw h a cp hcp scp pf1) pd_10 d60_1 rfl ?_
  rintro _ _ ⟨rfl, rfl⟩
  show Go _ _ _ _ _ _ _ _ _ _ _ _ 4 _ [(.int 1)]
  refine Go.ifYes (pc' := 8) d60_4 (XT.i0_ne_t (by decide)) (by decide) (by decide) ?_
  refine Go.aloadN (pc' := 9) d60_8 rfl rfl rfl ?_
  refine Go.getfield (pc' := 12) (host := "") (Or.inl (ww hw 57 rfl)) Via.refl pf0 d60_9 rfl ?_
  refine Go.arraylength (pc' := 13) v d60_12 rfl ?_
  refine Go.callS (cells' := 1) (slots' := 16) (pc' := 16) [(.int z)] [] (ww hw 285 rfl) (ww hw 247 rfl) (ww hw 128 rfl) (ww hw 248 rfl) (by decide) (c_nbf l Z a0 hw h z y hz0 hzM hY hy0 hy16) pd_11 d60_13 rfl ?_
  rintro _ h2 ⟨d_2, ky_2, rfl, K2, ge_d_2, sz_d_2, F2_0, F2_1⟩
  have K3 := (Keep.refl h [a]).trans K2 all0
  show Go _ _ _ _ _ _ _ _ _ _ _ _ 16 _ [(.ref d_2)]
  have V4 : AB Z h2 d_2 ky_2 y [(.int 0), (.int 0), (.int 0), (.int 0)] (.int 0) := Arv.pad F2_0 (pad_rep [] (.int 0) 4)
  refine Go.astoreN (pc' := 17) (Ls' := #[.val (.ref a), .val (.ref d_2)]) d60_16 rfl rfl rfl ?_
  refine Go.aloadN (pc' := 18) d60_17 rfl rfl rfl ?_
  refine Go.getfield (pc' := 21) (host := "") (Or.inl (ww hw 57 rfl)) Via.refl (pf0.keep K2 nin0) d60_18 rfl ?_
  refine Go.iconst (pc' := 22) (v := 0) d60_21 rfl rfl ?_
  refine Go.aloadN (pc' := 23) d60_22 rfl rfl rfl ?_
  refine Go.iconst (pc' := 24) (v := 0) d60_23 rfl rfl ?_
  refine Go.aloadN (pc' := 25) d60_24 rfl rfl rfl ?_
  refine Go.getfield (pc' := 28) (host := "") (Or.inl (ww hw 104 rfl)) Via.refl (pf2.keep K2 nin0) d60_25 rfl ?_
  have ne5 := (Nat.ne_of_lt (Nat.lt_of_lt_of_le v.lt sz_d_2))
  refine Go.callS (cells' := 1) (slots' := 16) (pc' := 31) [(.ref b), (.int 0), (.ref d_2), (.int 0), (.int 1)] [] (ww hw 286 rfl) (ww hw 287 rfl) (ww hw 73 rfl) (ww hw 288 rfl) (by decide) (c_linf1 l Z a0 hw h2 b kb z vs d_2 ky_2 y ([(.int 0), (.int 0), (.int 0), (.int 0)]) e0.toInt8.toInt32 e0 wf hs0 hv0 hq0 hd0 (nl rfl) hd1 (nl rfl) hb1 hb2 hwf sad shi slo sfm ge_d_2 ne5 (v.keep K2 nin0) V4) pd_9 d60_28 rfl ?_
  rintro _ h6 ⟨rfl, K6, F6_0⟩
  have K7 := K3.trans K6 (allS (Or.inr sz_d_2) all0)
  have VL8 : AB Z h6 d_2 ky_2 y [(loB e0), (hiB e0), (.int 0), (.int 0)] (.int 0) := F6_0
  show Go _ _ _ _ _ _ _ _ _ _ _ _ 31 _ []
  refine Go.aloadN (pc' := 32) d60_31 rfl rfl rfl ?_
  refine Go.aloadN (pc' := 33) d60_32 rfl rfl rfl ?_
  have ne9 := (Nat.ne_of_lt (Nat.lt_of_lt_of_le pf3.lt sz_d_2))
  have f10 := ((pf0.keep K2 nin0).keep K6 (ninS ne9 nin0))
  refine Go.putfield (pc' := 36) (host := "") (Or.inl (ww hw 57 rfl)) Via.refl f10 ((xa.keep K2).keep K6) (Or.inl (ww hw 58 rfl)) (ww hw 33 rfl) (ty := (.array .byte)) (by decide) rfl rfl ge_a d60_33 rfl ?_
  intro h11 W12
  have K13 := K7.wr W12 (Or.inl (List.mem_of_getElem? (i := 0) rfl))
  have f14 := f10.same W12
  refine Go.aloadN (pc' := 37) d60_36 rfl rfl rfl ?_
  refine Go.iconst (pc' := 38) (v := 1) d60_37 rfl rfl ?_
  have f15 := (((pf1.keep K2 nin0).keep K6 (ninS ne9 nin0)).other W12 (Or.inr (sn_0 hw)))
  refine Go.putfieldN (pc' := 41) (ww hw 59 rfl) Via.refl f15 (((xa.keep K2).keep K6).wr W12) (Or.inl (ww hw 60 rfl)) (ww hw 33 rfl) (ty := .byte) (v' := (1 : Int32)) (by decide) (by first | rfl | decide) (by first | rfl | decide | exact fits_nar_byte _) ge_a d60_38 rfl ?_
  intro h16 W17
  have K18 := K13.wr W17 (Or.inl (List.mem_of_getElem? (i := 0) rfl))
  have f19 := f15.same W17
  have f20 := ((((pf2.keep K2 nin0).keep K6 (ninS ne9 nin0)).other W12 (Or.inr (sn_2 hw))).other W17 (Or.inr (sn_3 hw)))
  have f21 := ((((pf3.keep K2 nin0).keep K6 (ninS ne9 nin0)).other W12 (Or.inr (sn_4 hw))).other W17 (Or.inr (sn_5 hw)))
  have f22 := ((VL8.other W12 (Ne.symm ne9)).other W17 (Ne.symm ne9))
  exact Go.retV rfl d60_41 ⟨d_2, ky_2, rfl, K18, ge_d_2, sz_d_2, (f14.other W17 (Or.inr (sn_1 hw))), f19, f20, f21, f22, (((F2_1.keep K6).wr W12).wr W17)⟩
theorem c_infl2 (hw : HW a0 Z) (h : Heap) (a b : Addr) (kb : ClassId) (z : Int32) (vs : List Value) (y e0 e1 cp : Int32) (wf : Value) (hcp : ¬ (cp = (0 : Int32))) (hwf : wf.isRef = true) (hz0 : ¬ (z < (0 : Int32))) (hzM : z < (1073741823 : Int32)) (hY : (z <<< ((1 : Int32) &&& 31)) = y) (hy0 : ¬ (y < (0 : Int32))) (hy16 : y.toNatClampNeg ≤ 16) (hs0 : (0 : Int32) < z) (hv0 : vs.getD 0 (.int 0) = .int e0.toInt8.toInt32) (hq0 : (e0.toInt8.toInt32 &&& (255 : Int32)) = e0) (hs1 : (1 : Int32) < z) (hv1 : vs.getD 1 (.int 0) = .int e1.toInt8.toInt32) (hq1 : (e1.toInt8.toInt32 &&& (255 : Int32)) = e1) (hd0 : (0 : Int32) < y) (hd1 : (1 : Int32) < y) (hd2 : (2 : Int32) < y) (hd3 : (3 : Int32) < y) (hb1 : ¬ ((((y >>> ((1 : Int32) &&& 31)) ||| (0 : Int32)) ||| (2 : Int32)) < (0 : Int32))) (hb2 : ¬ (((y >>> ((1 : Int32) &&& 31)) - (0 : Int32)) < (2 : Int32))) (scp : Zcp Z (.int cp)) (sad : Zad Z (.int 1)) (shi : Zhi Z (.int 0)) (slo : Zlo Z (.int 8)) (sfm : Zfm Z wf) (ge_a : n0 ≤ a) (xa : EB Z h a) (pf0 : FV Z h a (.ref b)) (pf1 : FK Z h a (.int 0)) (pf2 : FN Z h a (.int 2)) (pf3 : FM Z h a (.int 0)) (v : AB Z h b kb z vs (.int 0)) :
    Con l M_17 q60 2 none (rm4 5 1 16 76) Z n0 #[(.ref a)] h (fun v h' => ∃ d : Addr, ∃ ky : ClassId, v = none ∧ Keep h h' [a] ∧ n0 ≤ d ∧ h.size ≤ d ∧ FV Z h' a (.ref d) ∧ FK Z h' a (.int 1) ∧ FN Z h' a (.int 2) ∧ FM Z h' a (.int 0) ∧ AB Z h' d ky y [(loB e0), (hiB e0), (loB e1), (hiB e1), (.int 0), (.int 0)] (.int 0) ∧ EA Z h' d) := by
  refine Con.of_go (plainFor_of_name pn_4) (Ls := #[.val (.ref a), .unset]) ?_
  refine Go.aloadN (pc' := 1) d60_0 rfl rfl rfl ?_
  refine Go.callV (cells' := 0) (slots' := 0) (pc' := 4) [] [] xa (ww hw 238 rfl) (ww hw 107 rfl) (nfS (ww hw 109 rfl)) (ww hw 109 rfl) (ww hw 108 rfl) (ww hw 53 rfl) (ww hw 110 rfl) (by decide) (c_asbLat0 l Z a0 hw h a cp hcp scp pf1) pd_10 d60_1 rfl ?_
  rintro _ _ ⟨rfl, rfl⟩
  show Go _ _ _ _ _ _ _ _ _ _ _ _ 4 _ [(.int 1)]
  refine Go.ifYes (pc' := 8) d60_4 (XT.i0_ne_t (by decide)) (by decide) (by decide) ?_
  refine Go.aloadN (pc' := 9) d60_8 rfl rfl rfl ?_
  refine Go.getfield (pc' := 12) (host := "") (Or.inl (ww hw 57 rfl)) Via.refl pf0 d60_9 rfl ?_
  refine Go.arraylength (pc' := 13) v d60_12 rfl ?_
  refine Go.callS (cells' := 1) (slots' := 16) (pc' := 16) [(.int z)] [] (ww hw 285 rfl) (ww hw 247 rfl) (ww hw 128 rfl) (ww hw 248 rfl) (by decide) (c_nbf l Z a0 hw h z y hz0 hzM hY hy0 hy16) pd_11 d60_13 rfl ?_
  rintro _ h2 ⟨d_2, ky_2, rfl, K2, ge_d_2, sz_d_2, F2_0, F2_1⟩
  have K3 := (Keep.refl h [a]).trans K2 all0
  show Go _ _ _ _ _ _ _ _ _ _ _ _ 16 _ [(.ref d_2)]
  have V4 : AB Z h2 d_2 ky_2 y [(.int 0), (.int 0), (.int 0), (.int 0), (.int 0), (.int 0)] (.int 0) := Arv.pad F2_0 (pad_rep [] (.int 0) 6)
  refine Go.astoreN (pc' := 17) (Ls' := #[.val (.ref a), .val (.ref d_2)]) d60_16 rfl rfl rfl ?_
  refine Go.aloadN (pc' := 18) d60_17 rfl rfl rfl ?_
  refine Go.getfield (pc' := 21) (host := "") (Or.inl (ww hw 57 rfl)) Via.refl (pf0.keep K2 nin0) d60_18 rfl ?_
  refine Go.iconst (pc' := 22) (v := 0) d60_21 rfl rfl ?_
  refine Go.aloadN (pc' := 23) d60_22 rfl rfl rfl ?_
  refine Go.iconst (pc' := 24) (v := 0) d60_23 rfl rfl ?_
  refine Go.aloadN (pc' := 25) d60_24 rfl rfl rfl ?_
  refine Go.getfield (pc' := 28) (host := "") (Or.inl (ww hw 104 rfl)) Via.refl (pf2.keep K2 nin0) d60_25 rfl ?_
  have ne5 := (Nat.ne_of_lt (Nat.lt_of_lt_of_le v.lt sz_d_2))
  refine Go.callS (cells' := 1) (slots' := 16) (pc' := 31) [(.ref b), (.int 0), (.ref d_2), (.int 0), (.int 2)] [] (ww hw 286 rfl) (ww hw 287 rfl) (ww hw 73 rfl) (ww hw 288 rfl) (by decide) (c_linf2 l Z a0 hw h2 b kb z vs d_2 ky_2 y ([(.int 0), (.int 0), (.int 0), (.int 0), (.int 0), (.int 0)]) e0.toInt8.toInt32 e1.toInt8.toInt32 e0 e1 wf hs0 hv0 hq0 hs1 hv1 hq1 hd0 (nl rfl) hd1 (nl rfl) hd2 (nl rfl) hd3 (nl rfl) hb1 hb2 hwf sad shi slo sfm ge_d_2 ne5 (v.keep K2 nin0) V4) pd_9 d60_28 rfl ?_
  rintro _ h6 ⟨rfl, K6, F6_0⟩
  have K7 := K3.trans K6 (allS (Or.inr sz_d_2) all0)
  have VL8 : AB Z h6 d_2 ky_2 y [(loB e0), (hiB e0), (loB e1), (hiB e1), (.int 0), (.int 0)] (.int 0) := F6_0
  show Go _ _ _ _ _ _ _ _ _ _ _ _ 31 _ []
  refine Go.aloadN (pc' := 32) d60_31 rfl rfl rfl ?_
  refine Go.aloadN (pc' := 33) d60_32 rfl rfl rfl ?_
  have ne9 := (Nat.ne_of_lt (Nat.lt_of_lt_of_le pf3.lt sz_d_2))
  have f10 := ((pf0.keep K2 nin0).keep K6 (ninS ne9 nin0))
  refine Go.putfield (pc' := 36) (host := "") (Or.inl (ww hw 57 rfl)) Via.refl f10 ((xa.keep K2).keep K6) (Or.inl (ww hw 58 rfl)) (ww hw 33 rfl) (ty := (.array .byte)) (by decide) rfl rfl ge_a d60_33 rfl ?_
  intro h11 W12
  have K13 := K7.wr W12 (Or.inl (List.mem_of_getElem? (i := 0) rfl))
  have f14 := f10.same W12
  refine Go.aloadN (pc' := 37) d60_36 rfl rfl rfl ?_
  refine Go.iconst (pc' := 38) (v := 1) d60_37 rfl rfl ?_
  have f15 := (((pf1.keep K2 nin0).keep K6 (ninS ne9 nin0)).other W12 (Or.inr (sn_0 hw)))
  refine Go.putfieldN (pc' := 41) (ww hw 59 rfl) Via.refl f15 (((xa.keep K2).keep K6).wr W12) (Or.inl (ww hw 60 rfl)) (ww hw 33 rfl) (ty := .byte) (v' := (1 : Int32)) (by decide) (by first | rfl | decide) (by first | rfl | decide | exact fits_nar_byte _) ge_a d60_38 rfl ?_
  intro h16 W17
  have K18 := K13.wr W17 (Or.inl (List.mem_of_getElem? (i := 0) rfl))
  have f19 := f15.same W17
  have f20 := ((((pf2.keep K2 nin0).keep K6 (ninS ne9 nin0)).other W12 (Or.inr (sn_2 hw))).other W17 (Or.inr (sn_3 hw)))
  have f21 := ((((pf3.keep K2 nin0).keep K6 (ninS ne9 nin0)).other W12 (Or.inr (sn_4 hw))).other W17 (Or.inr (sn_5 hw)))
  have f22 := ((VL8.other W12 (Ne.symm ne9)).other W17 (Ne.symm ne9))
  exact Go.retV rfl d60_41 ⟨d_2, ky_2, rfl, K18, ge_d_2, sz_d_2, (f14.other W17 (Or.inr (sn_1 hw))), f19, f20, f21, f22, (((F2_1.keep K6).wr W12).wr W17)⟩
theorem c_infl3 (hw : HW a0 Z) (h : Heap) (a b : Addr) (kb : ClassId) (z : Int32) (vs : List Value) (y e0 e1 e2 cp : Int32) (wf : Value) (hcp : ¬ (cp = (0 : Int32))) (hwf : wf.isRef = true) (hz0 : ¬ (z < (0 : Int32))) (hzM : z < (1073741823 : Int32)) (hY : (z <<< ((1 : Int32) &&& 31)) = y) (hy0 : ¬ (y < (0 : Int32))) (hy16 : y.toNatClampNeg ≤ 16) (hs0 : (0 : Int32) < z) (hv0 : vs.getD 0 (.int 0) = .int e0.toInt8.toInt32) (hq0 : (e0.toInt8.toInt32 &&& (255 : Int32)) = e0) (hs1 : (1 : Int32) < z) (hv1 : vs.getD 1 (.int 0) = .int e1.toInt8.toInt32) (hq1 : (e1.toInt8.toInt32 &&& (255 : Int32)) = e1) (hs2 : (2 : Int32) < z) (hv2 : vs.getD 2 (.int 0) = .int e2.toInt8.toInt32) (hq2 : (e2.toInt8.toInt32 &&& (255 : Int32)) = e2) (hd0 : (0 : Int32) < y) (hd1 : (1 : Int32) < y) (hd2 : (2 : Int32) < y) (hd3 : (3 : Int32) < y) (hd4 : (4 : Int32) < y) (hd5 : (5 : Int32) < y) (hb1 : ¬ ((((y >>> ((1 : Int32) &&& 31)) ||| (0 : Int32)) ||| (3 : Int32)) < (0 : Int32))) (hb2 : ¬ (((y >>> ((1 : Int32) &&& 31)) - (0 : Int32)) < (3 : Int32))) (scp : Zcp Z (.int cp)) (sad : Zad Z (.int 1)) (shi : Zhi Z (.int 0)) (slo : Zlo Z (.int 8)) (sfm : Zfm Z wf) (ge_a : n0 ≤ a) (xa : EB Z h a) (pf0 : FV Z h a (.ref b)) (pf1 : FK Z h a (.int 0)) (pf2 : FN Z h a (.int 3)) (pf3 : FM Z h a (.int 0)) (v : AB Z h b kb z vs (.int 0)) :
    Con l M_17 q60 2 none (rm4 5 1 16 76) Z n0 #[(.ref a)] h (fun v h' => ∃ d : Addr, ∃ ky : ClassId, v = none ∧ Keep h h' [a] ∧ n0 ≤ d ∧ h.size ≤ d ∧ FV Z h' a (.ref d) ∧ FK Z h' a (.int 1) ∧ FN Z h' a (.int 3) ∧ FM Z h' a (.int 0) ∧ AB Z h' d ky y [(loB e0), (hiB e0), (loB e1), (hiB e1), (loB e2), (hiB e2), (.int 0), (.int 0)] (.int 0) ∧ EA Z h' d) := by
  refine Con.of_go (plainFor_of_name pn_4) (Ls := #[.val (.ref a), .unset]) ?_
  refine Go.aloadN (pc' := 1) d60_0 rfl rfl rfl ?_
  refine Go.callV (cells' := 0) (slots' := 0) (pc' := 4) [] [] xa (ww hw 238 rfl) (ww hw 107 rfl) (nfS (ww hw 109 rfl)) (ww hw 109 rfl) (ww hw 108 rfl) (ww hw 53 rfl) (ww hw 110 rfl) (by decide) (c_asbLat0 l Z a0 hw h a cp hcp scp pf1) pd_10 d60_1 rfl ?_
  rintro _ _ ⟨rfl, rfl⟩
  show Go _ _ _ _ _ _ _ _ _ _ _ _ 4 _ [(.int 1)]
  refine Go.ifYes (pc' := 8) d60_4 (XT.i0_ne_t (by decide)) (by decide) (by decide) ?_
  refine Go.aloadN (pc' := 9) d60_8 rfl rfl rfl ?_
  refine Go.getfield (pc' := 12) (host := "") (Or.inl (ww hw 57 rfl)) Via.refl pf0 d60_9 rfl ?_
  refine Go.arraylength (pc' := 13) v d60_12 rfl ?_
  refine Go.callS (cells' := 1) (slots' := 16) (pc' := 16) [(.int z)] [] (ww hw 285 rfl) (ww hw 247 rfl) (ww hw 128 rfl) (ww hw 248 rfl) (by decide) (c_nbf l Z a0 hw h z y hz0 hzM hY hy0 hy16) pd_11 d60_13 rfl ?_
  rintro _ h2 ⟨d_2, ky_2, rfl, K2, ge_d_2, sz_d_2, F2_0, F2_1⟩
  have K3 := (Keep.refl h [a]).trans K2 all0
  show Go _ _ _ _ _ _ _ _ _ _ _ _ 16 _ [(.ref d_2)]
  have V4 : AB Z h2 d_2 ky_2 y [(.int 0), (.int 0), (.int 0), (.int 0), (.int 0), (.int 0), (.int 0), (.int 0)] (.int 0) := Arv.pad F2_0 (pad_rep [] (.int 0) 8)
  refine Go.astoreN (pc' := 17) (Ls' := #[.val (.ref a), .val (.ref d_2)]) d60_16 rfl rfl rfl ?_
  refine Go.aloadN (pc' := 18) d60_17 rfl rfl rfl ?_
  refine Go.getfield (pc' := 21) (host := "") (Or.inl (ww hw 57 rfl)) Via.refl (pf0.keep K2 nin0) d60_18 rfl ?_
  refine Go.iconst (pc' := 22) (v := 0) d60_21 rfl rfl ?_
  refine Go.aloadN (pc' := 23) d60_22 rfl rfl rfl ?_
  refine Go.iconst (pc' := 24) (v := 0) d60_23 rfl rfl ?_
  refine Go.aloadN (pc' := 25) d60_24 rfl rfl rfl ?_
  refine Go.getfield (pc' := 28) (host := "") (Or.inl (ww hw 104 rfl)) Via.refl (pf2.keep K2 nin0) d60_25 rfl ?_
  have ne5 := (Nat.ne_of_lt (Nat.lt_of_lt_of_le v.lt sz_d_2))
  refine Go.callS (cells' := 1) (slots' := 16) (pc' := 31) [(.ref b), (.int 0), (.ref d_2), (.int 0), (.int 3)] [] (ww hw 286 rfl) (ww hw 287 rfl) (ww hw 73 rfl) (ww hw 288 rfl) (by decide) (c_linf3 l Z a0 hw h2 b kb z vs d_2 ky_2 y ([(.int 0), (.int 0), (.int 0), (.int 0), (.int 0), (.int 0), (.int 0), (.int 0)]) e0.toInt8.toInt32 e1.toInt8.toInt32 e2.toInt8.toInt32 e0 e1 e2 wf hs0 hv0 hq0 hs1 hv1 hq1 hs2 hv2 hq2 hd0 (nl rfl) hd1 (nl rfl) hd2 (nl rfl) hd3 (nl rfl) hd4 (nl rfl) hd5 (nl rfl) hb1 hb2 hwf sad shi slo sfm ge_d_2 ne5 (v.keep K2 nin0) V4) pd_9 d60_28 rfl ?_
  rintro _ h6 ⟨rfl, K6, F6_0⟩
  have K7 := K3.trans K6 (allS (Or.inr sz_d_2) all0)
  have VL8 : AB Z h6 d_2 ky_2 y [(loB e0), (hiB e0), (loB e1), (hiB e1), (loB e2), (hiB e2), (.int 0), (.int 0)] (.int 0) := F6_0
  show Go _ _ _ _ _ _ _ _ _ _ _ _ 31 _ []
  refine Go.aloadN (pc' := 32) d60_31 rfl rfl rfl ?_
  refine Go.aloadN (pc' := 33) d60_32 rfl rfl rfl ?_
  have ne9 := (Nat.ne_of_lt (Nat.lt_of_lt_of_le pf3.lt sz_d_2))
  have f10 := ((pf0.keep K2 nin0).keep K6 (ninS ne9 nin0))
  refine Go.putfield (pc' := 36) (host := "") (Or.inl (ww hw 57 rfl)) Via.refl f10 ((xa.keep K2).keep K6) (Or.inl (ww hw 58 rfl)) (ww hw 33 rfl) (ty := (.array .byte)) (by decide) rfl rfl ge_a d60_33 rfl ?_
  intro h11 W12
  have K13 := K7.wr W12 (Or.inl (List.mem_of_getElem? (i := 0) rfl))
  have f14 := f10.same W12
  refine Go.aloadN (pc' := 37) d60_36 rfl rfl rfl ?_
  refine Go.iconst (pc' := 38) (v := 1) d60_37 rfl rfl ?_
  have f15 := (((pf1.keep K2 nin0).keep K6 (ninS ne9 nin0)).other W12 (Or.inr (sn_0 hw)))
  refine Go.putfieldN (pc' := 41) (ww hw 59 rfl) Via.refl f15 (((xa.keep K2).keep K6).wr W12) (Or.inl (ww hw 60 rfl)) (ww hw 33 rfl) (ty := .byte) (v' := (1 : Int32)) (by decide) (by first | rfl | decide) (by first | rfl | decide | exact fits_nar_byte _) ge_a d60_38 rfl ?_
  intro h16 W17
  have K18 := K13.wr W17 (Or.inl (List.mem_of_getElem? (i := 0) rfl))
  have f19 := f15.same W17
  have f20 := ((((pf2.keep K2 nin0).keep K6 (ninS ne9 nin0)).other W12 (Or.inr (sn_2 hw))).other W17 (Or.inr (sn_3 hw)))
  have f21 := ((((pf3.keep K2 nin0).keep K6 (ninS ne9 nin0)).other W12 (Or.inr (sn_4 hw))).other W17 (Or.inr (sn_5 hw)))
  have f22 := ((VL8.other W12 (Ne.symm ne9)).other W17 (Ne.symm ne9))
  exact Go.retV rfl d60_41 ⟨d_2, ky_2, rfl, K18, ge_d_2, sz_d_2, (f14.other W17 (Or.inr (sn_1 hw))), f19, f20, f21, f22, (((F2_1.keep K6).wr W12).wr W17)⟩
theorem c_infl4 (hw : HW a0 Z) (h : Heap) (a b : Addr) (kb : ClassId) (z : Int32) (vs : List Value) (y e0 e1 e2 e3 cp : Int32) (wf : Value) (hcp : ¬ (cp = (0 : Int32))) (hwf : wf.isRef = true) (hz0 : ¬ (z < (0 : Int32))) (hzM : z < (1073741823 : Int32)) (hY : (z <<< ((1 : Int32) &&& 31)) = y) (hy0 : ¬ (y < (0 : Int32))) (hy16 : y.toNatClampNeg ≤ 16) (hs0 : (0 : Int32) < z) (hv0 : vs.getD 0 (.int 0) = .int e0.toInt8.toInt32) (hq0 : (e0.toInt8.toInt32 &&& (255 : Int32)) = e0) (hs1 : (1 : Int32) < z) (hv1 : vs.getD 1 (.int 0) = .int e1.toInt8.toInt32) (hq1 : (e1.toInt8.toInt32 &&& (255 : Int32)) = e1) (hs2 : (2 : Int32) < z) (hv2 : vs.getD 2 (.int 0) = .int e2.toInt8.toInt32) (hq2 : (e2.toInt8.toInt32 &&& (255 : Int32)) = e2) (hs3 : (3 : Int32) < z) (hv3 : vs.getD 3 (.int 0) = .int e3.toInt8.toInt32) (hq3 : (e3.toInt8.toInt32 &&& (255 : Int32)) = e3) (hd0 : (0 : Int32) < y) (hd1 : (1 : Int32) < y) (hd2 : (2 : Int32) < y) (hd3 : (3 : Int32) < y) (hd4 : (4 : Int32) < y) (hd5 : (5 : Int32) < y) (hd6 : (6 : Int32) < y) (hd7 : (7 : Int32) < y) (hb1 : ¬ ((((y >>> ((1 : Int32) &&& 31)) ||| (0 : Int32)) ||| (4 : Int32)) < (0 : Int32))) (hb2 : ¬ (((y >>> ((1 : Int32) &&& 31)) - (0 : Int32)) < (4 : Int32))) (scp : Zcp Z (.int cp)) (sad : Zad Z (.int 1)) (shi : Zhi Z (.int 0)) (slo : Zlo Z (.int 8)) (sfm : Zfm Z wf) (ge_a : n0 ≤ a) (xa : EB Z h a) (pf0 : FV Z h a (.ref b)) (pf1 : FK Z h a (.int 0)) (pf2 : FN Z h a (.int 4)) (pf3 : FM Z h a (.int 0)) (v : AB Z h b kb z vs (.int 0)) :
    Con l M_17 q60 2 none (rm4 5 1 16 76) Z n0 #[(.ref a)] h (fun v h' => ∃ d : Addr, ∃ ky : ClassId, v = none ∧ Keep h h' [a] ∧ n0 ≤ d ∧ h.size ≤ d ∧ FV Z h' a (.ref d) ∧ FK Z h' a (.int 1) ∧ FN Z h' a (.int 4) ∧ FM Z h' a (.int 0) ∧ AB Z h' d ky y [(loB e0), (hiB e0), (loB e1), (hiB e1), (loB e2), (hiB e2), (loB e3), (hiB e3), (.int 0), (.int 0)] (.int 0) ∧ EA Z h' d) := by
  refine Con.of_go (plainFor_of_name pn_4) (Ls := #[.val (.ref a), .unset]) ?_
  refine Go.aloadN (pc' := 1) d60_0 rfl rfl rfl ?_
  refine Go.callV (cells' := 0) (slots' := 0) (pc' := 4) [] [] xa (ww hw 238 rfl) (ww hw 107 rfl) (nfS (ww hw 109 rfl)) (ww hw 109 rfl) (ww hw 108 rfl) (ww hw 53 rfl) (ww hw 110 rfl) (by decide) (c_asbLat0 l Z a0 hw h a cp hcp scp pf1) pd_10 d60_1 rfl ?_
  rintro _ _ ⟨rfl, rfl⟩
  show Go _ _ _ _ _ _ _ _ _ _ _ _ 4 _ [(.int 1)]
  refine Go.ifYes (pc' := 8) d60_4 (XT.i0_ne_t (by decide)) (by decide) (by decide) ?_
  refine Go.aloadN (pc' := 9) d60_8 rfl rfl rfl ?_
  refine Go.getfield (pc' := 12) (host := "") (Or.inl (ww hw 57 rfl)) Via.refl pf0 d60_9 rfl ?_
  refine Go.arraylength (pc' := 13) v d60_12 rfl ?_
  refine Go.callS (cells' := 1) (slots' := 16) (pc' := 16) [(.int z)] [] (ww hw 285 rfl) (ww hw 247 rfl) (ww hw 128 rfl) (ww hw 248 rfl) (by decide) (c_nbf l Z a0 hw h z y hz0 hzM hY hy0 hy16) pd_11 d60_13 rfl ?_
  rintro _ h2 ⟨d_2, ky_2, rfl, K2, ge_d_2, sz_d_2, F2_0, F2_1⟩
  have K3 := (Keep.refl h [a]).trans K2 all0
  show Go _ _ _ _ _ _ _ _ _ _ _ _ 16 _ [(.ref d_2)]
  have V4 : AB Z h2 d_2 ky_2 y [(.int 0), (.int 0), (.int 0), (.int 0), (.int 0), (.int 0), (.int 0), (.int 0), (.int 0), (.int 0)] (.int 0) := Arv.pad F2_0 (pad_rep [] (.int 0) 10)
  refine Go.astoreN (pc' := 17) (Ls' := #[.val (.ref a), .val (.ref d_2)]) d60_16 rfl rfl rfl ?_
  refine Go.aloadN (pc' := 18) d60_17 rfl rfl rfl ?_
  refine Go.getfield (pc' := 21) (host := "") (Or.inl (ww hw 57 rfl)) Via.refl (pf0.keep K2 nin0) d60_18 rfl ?_
  refine Go.iconst (pc' := 22) (v := 0) d60_21 rfl rfl ?_
  refine Go.aloadN (pc' := 23) d60_22 rfl rfl rfl ?_
  refine Go.iconst (pc' := 24) (v := 0) d60_23 rfl rfl ?_
  refine Go.aloadN (pc' := 25) d60_24 rfl rfl rfl ?_
  refine Go.getfield (pc' := 28) (host := "") (Or.inl (ww hw 104 rfl)) Via.refl (pf2.keep K2 nin0) d60_25 rfl ?_
  have ne5 := (Nat.ne_of_lt (Nat.lt_of_lt_of_le v.lt sz_d_2))
  refine Go.callS (cells' := 1) (slots' := 16) (pc' := 31) [(.ref b), (.int 0), (.ref d_2), (.int 0), (.int 4)] [] (ww hw 286 rfl) (ww hw 287 rfl) (ww hw 73 rfl) (ww hw 288 rfl) (by decide) (c_linf4 l Z a0 hw h2 b kb z vs d_2 ky_2 y ([(.int 0), (.int 0), (.int 0), (.int 0), (.int 0), (.int 0), (.int 0), (.int 0), (.int 0), (.int 0)]) e0.toInt8.toInt32 e1.toInt8.toInt32 e2.toInt8.toInt32 e3.toInt8.toInt32 e0 e1 e2 e3 wf hs0 hv0 hq0 hs1 hv1 hq1 hs2 hv2 hq2 hs3 hv3 hq3 hd0 (nl rfl) hd1 (nl rfl) hd2 (nl rfl) hd3 (nl rfl) hd4 (nl rfl) hd5 (nl rfl) hd6 (nl rfl) hd7 (nl rfl) hb1 hb2 hwf sad shi slo sfm ge_d_2 ne5 (v.keep K2 nin0) V4) pd_9 d60_28 rfl ?_
  rintro _ h6 ⟨rfl, K6, F6_0⟩
  have K7 := K3.trans K6 (allS (Or.inr sz_d_2) all0)
  have VL8 : AB Z h6 d_2 ky_2 y [(loB e0), (hiB e0), (loB e1), (hiB e1), (loB e2), (hiB e2), (loB e3), (hiB e3), (.int 0), (.int 0)] (.int 0) := F6_0
  show Go _ _ _ _ _ _ _ _ _ _ _ _ 31 _ []
  refine Go.aloadN (pc' := 32) d60_31 rfl rfl rfl ?_
  refine Go.aloadN (pc' := 33) d60_32 rfl rfl rfl ?_
  have ne9 := (Nat.ne_of_lt (Nat.lt_of_lt_of_le pf3.lt sz_d_2))
  have f10 := ((pf0.keep K2 nin0).keep K6 (ninS ne9 nin0))
  refine Go.putfield (pc' := 36) (host := "") (Or.inl (ww hw 57 rfl)) Via.refl f10 ((xa.keep K2).keep K6) (Or.inl (ww hw 58 rfl)) (ww hw 33 rfl) (ty := (.array .byte)) (by decide) rfl rfl ge_a d60_33 rfl ?_
  intro h11 W12
  have K13 := K7.wr W12 (Or.inl (List.mem_of_getElem? (i := 0) rfl))
  have f14 := f10.same W12
  refine Go.aloadN (pc' := 37) d60_36 rfl rfl rfl ?_
  refine Go.iconst (pc' := 38) (v := 1) d60_37 rfl rfl ?_
  have f15 := (((pf1.keep K2 nin0).keep K6 (ninS ne9 nin0)).other W12 (Or.inr (sn_0 hw)))
  refine Go.putfieldN (pc' := 41) (ww hw 59 rfl) Via.refl f15 (((xa.keep K2).keep K6).wr W12) (Or.inl (ww hw 60 rfl)) (ww hw 33 rfl) (ty := .byte) (v' := (1 : Int32)) (by decide) (by first | rfl | decide) (by first | rfl | decide | exact fits_nar_byte _) ge_a d60_38 rfl ?_
  intro h16 W17
  have K18 := K13.wr W17 (Or.inl (List.mem_of_getElem? (i := 0) rfl))
  have f19 := f15.same W17
  have f20 := ((((pf2.keep K2 nin0).keep K6 (ninS ne9 nin0)).other W12 (Or.inr (sn_2 hw))).other W17 (Or.inr (sn_3 hw)))
  have f21 := ((((pf3.keep K2 nin0).keep K6 (ninS ne9 nin0)).other W12 (Or.inr (sn_4 hw))).other W17 (Or.inr (sn_5 hw)))
  have f22 := ((VL8.other W12 (Ne.symm ne9)).other W17 (Ne.symm ne9))
  exact Go.retV rfl d60_41 ⟨d_2, ky_2, rfl, K18, ge_d_2, sz_d_2, (f14.other W17 (Or.inr (sn_1 hw))), f19, f20, f21, f22, (((F2_1.keep K6).wr W12).wr W17)⟩
theorem c_maxg (hw : HW a0 Z) (h : Heap) (p q : Int32) (hpq : p < q) :
    Con l M_18 q33 2 (some .int) (rm4 0 0 0 0) Z n0 #[(.int p), (.int q)] h (fun v h' => v = some (.int q) ∧ h = h') := by
  refine Con.of_go (Jvm.Free.JP.mathPlain rfl (by decide +kernel)) (Ls := #[.val (.int p), .val (.int q)]) ?_
  refine Go.iloadN (pc' := 1) d33_0 rfl rfl ?_
  refine Go.iloadN (pc' := 2) d33_1 rfl rfl ?_
  refine Go.icmpYes (pc' := 9) d33_2 (XT.ii_lt_t hpq) (by decide) (by decide) ?_
  refine Go.iloadN (pc' := 10) d33_9 rfl rfl ?_
  exact Go.retI rfl d33_10 ⟨rfl, rfl⟩
theorem c_ming (hw : HW a0 Z) (h : Heap) (p q : Int32) (hpq : ¬ (q < p)) :
    Con l M_19 q35 2 (some .int) (rm4 0 0 0 0) Z n0 #[(.int p), (.int q)] h (fun v h' => v = some (.int p) ∧ h = h') := by
  refine Con.of_go (Jvm.Free.JP.mathPlain rfl (by decide +kernel)) (Ls := #[.val (.int p), .val (.int q)]) ?_
  refine Go.iloadN (pc' := 1) d35_0 rfl rfl ?_
  refine Go.iloadN (pc' := 2) d35_1 rfl rfl ?_
  refine Go.icmpNo (pc' := 5) d35_2 (XT.ii_gt_f hpq) rfl ?_
  refine Go.iloadN (pc' := 6) d35_5 rfl rfl ?_
  refine Go.goto (pc' := 10) d35_6 (by decide) (by decide) ?_
  exact Go.retI rfl d35_10 ⟨rfl, rfl⟩
theorem c_newLen (hw : HW a0 Z) (h : Heap) (p q r : Int32) (h1 : q < r) (h2 : (0 : Int32) < (p + r)) (h3 : ¬ ((2147483639 : Int32) < (p + r))) :
    Con l M_20 q32 4 (some .int) (rm4 1 0 0 14) Z n0 #[(.int p), (.int q), (.int r)] h (fun v h' => v = some (.int (p + r)) ∧ h = h') := by
  refine Con.of_go (plainFor_of_name pn_5) (Ls := #[.val (.int p), .val (.int q), .val (.int r), .unset]) ?_
  refine Go.iloadN (pc' := 1) d32_0 rfl rfl ?_
  refine Go.iloadN (pc' := 2) d32_1 rfl rfl ?_
  refine Go.iloadN (pc' := 3) d32_2 rfl rfl ?_
  refine Go.callS (cells' := 0) (slots' := 0) (pc' := 6) [(.int q), (.int r)] [(.int p)] (ww hw 182 rfl) (ww hw 183 rfl) (ww hw 184 rfl) (ww hw 185 rfl) (by decide) (c_maxg l Z a0 hw h q r h1) pd_12 d32_3 rfl ?_
  rintro _ _ ⟨rfl, rfl⟩
  show Go _ _ _ _ _ _ _ _ _ _ _ _ 6 _ [(.int r), (.int p)]
  refine Go.iadd (pc' := 7) d32_6 rfl ?_
  refine Go.istoreN (pc' := 8) (Ls' := #[.val (.int p), .val (.int q), .val (.int r), .val (.int (p + r))]) d32_7 rfl rfl ?_
  refine Go.iconst (pc' := 9) (v := 0) d32_8 rfl rfl ?_
  refine Go.iloadN (pc' := 10) d32_9 rfl rfl ?_
  refine Go.icmpNo (pc' := 13) d32_10 (XT.ii_ge_f h2) rfl ?_
  refine Go.iloadN (pc' := 14) d32_13 rfl rfl ?_
  refine Go.ldcI (pc' := 16) (ww hw 186 rfl) d32_14 rfl ?_
  refine Go.icmpNo (pc' := 19) d32_16 (XT.ii_gt_f h3) rfl ?_
  refine Go.iloadN (pc' := 20) d32_19 rfl rfl ?_
  exact Go.retI rfl d32_20 ⟨rfl, rfl⟩
theorem c_cpo (hw : HW a0 Z) (h : Heap) (b : Addr) (kb : ClassId) (z : Int32) (vs : List Value) (N : Int32) (pd : Nat) (hNz : ¬ (N = z)) (hN0 : ¬ (N < (0 : Int32))) (hN16 : N.toNatClampNeg ≤ 16) (hNle : ¬ (N < z)) (hz0 : ¬ (z < (0 : Int32))) (hvz : vs.length ≤ z.toNatClampNeg) (v : AB Z h b kb z vs (.int 0)) :
    Con l M_21 q34 3 (some (.array .byte)) (rm4 1 1 16 18) Z n0 #[(.ref b), (.int N)] h (fun v h' => ∃ d : Addr, ∃ ky : ClassId, v = some (.ref d) ∧ Keep h h' [] ∧ n0 ≤ d ∧ h.size ≤ d ∧ AB Z h' d ky N (vs ++ List.replicate pd (Value.int 0)) (.int 0) ∧ EA Z h' d) := by
  refine Con.of_go (plainFor_of_name pn_6) (Ls := #[.val (.ref b), .val (.int N), .unset]) ?_
  refine Go.iloadN (pc' := 1) d34_0 rfl rfl ?_
  refine Go.aloadN (pc' := 2) d34_1 rfl rfl rfl ?_
  refine Go.arraylength (pc' := 3) v d34_2 rfl ?_
  refine Go.icmpYes (pc' := 14) d34_3 (XT.ii_ne_t hNz) (by decide) (by decide) ?_
  refine Go.iloadN (pc' := 15) d34_14 rfl rfl ?_
  refine Go.newarray (pc' := 17) (cells' := 1) (slots' := 16) (cap := 16) (ww hw 21 rfl) d34_15 (ad := "[B") (by decide) hN0 hN16 rfl rfl (by decide) (by decide) (by decide) rfl ?_
  intro h1 b1 g1 E1 ge1 kA1 A1 X1
  have K2 := (Keep.refl h []).ext E1
  refine Go.astoreN (pc' := 18) (Ls' := #[.val (.ref b), .val (.int N), .val (.ref b1)]) d34_17 rfl rfl rfl ?_
  refine Go.aloadN (pc' := 19) d34_18 rfl rfl rfl ?_
  refine Go.iconst (pc' := 20) (v := 0) d34_19 rfl rfl ?_
  refine Go.aloadN (pc' := 21) d34_20 rfl rfl rfl ?_
  refine Go.iconst (pc' := 22) (v := 0) d34_21 rfl rfl ?_
  refine Go.aloadN (pc' := 23) d34_22 rfl rfl rfl ?_
  refine Go.arraylength (pc' := 24) (v.ext E1) d34_23 rfl ?_
  refine Go.iloadN (pc' := 25) d34_24 rfl rfl ?_
  refine Go.callS (cells' := 1) (slots' := 16) (pc' := 28) [(.int z), (.int N)] [(.int 0), (.ref b1), (.int 0), (.ref b)] (ww hw 191 rfl) (ww hw 192 rfl) (ww hw 184 rfl) (ww hw 193 rfl) (by decide) (c_ming l Z a0 hw h1 z N hNle) pd_12 d34_25 rfl ?_
  rintro _ _ ⟨rfl, rfl⟩
  show Go _ _ _ _ _ _ _ _ _ _ _ _ 28 _ [(.int z), (.int 0), (.ref b1), (.int 0), (.ref b)]
  have P4 : AB Z h1 b1 kA1 N (List.replicate N.toNatClampNeg (.int 0)) (.int 0) := Arv.pad A1 (pad_rep [] (.int 0) N.toNatClampNeg)
  refine Go.arraycopy (pc' := 31) (us := (List.range z.toNatClampNeg).map fun i => vs.getD ((0 : Int32).toNatClampNeg + i) (.int 0)) (ww hw 194 rfl) (ww hw 171 rfl) (ww hw 169 rfl) (ww hw 170 rfl) (v.ext E1) P4 (Or.inl ⟨rfl, rfl⟩) (by decide) (by decide) hz0 (Nat.le_of_eq (by rw [own_i0, Nat.zero_add])) (own_le hNle hz0) rfl (by rw [List.length_replicate]; exact own_le hNle hz0) rfl ge1 d34_28 rfl (nl rfl) (nl rfl) rfl ?_
  intro h5 K6 V7
  have K9 := K2.trans K6 (allS (Or.inr (Nat.le_of_eq g1.symm)) all0)
  have V8 : AB Z h5 b1 kA1 N (vs ++ List.replicate pd (Value.int 0)) (.int 0) := Arv.low V7 (fun i hi => own_cp2 hvz i hi)
  refine Go.aloadN (pc' := 32) d34_31 rfl rfl rfl ?_
  exact Go.retR rfl rfl rfl rfl d34_32 ⟨b1, kA1, rfl, K9, ge1, (Nat.le_of_eq g1.symm), V8, (X1.keep K6)⟩
theorem c_nc0 (hw : HW a0 Z) (h : Heap) (a : Addr) (m : Int32) (b : Addr) (kb : ClassId) (z : Int32) (vs : List Value) (h1 : ((m <<< ((0 : Int32) &&& 31)) - z) < (z + (2 : Int32))) (h2 : (0 : Int32) < (z + (z + (2 : Int32)))) (h3 : ¬ ((2147483639 : Int32) < (z + (z + (2 : Int32))))) (h4 : ¬ ((z + (z + (2 : Int32))) = (2147483647 : Int32))) (f0 : FV Z h a (.ref b)) (f1 : FK Z h a (.int 0)) (v : AB Z h b kb z vs (.int 0)) :
    Con l M_22 q31 6 (some .int) (rm4 2 0 0 29) Z n0 #[(.ref a), (.int m)] h (fun v h' => v = some (.int ((z + (z + (2 : Int32))) >>> ((0 : Int32) &&& 31))) ∧ h = h') := by
  refine Con.of_go (plainFor_of_name pn_4) (Ls := #[.val (.ref a), .val (.int m), .unset, .unset, .unset, .unset]) ?_
  refine Go.aloadN (pc' := 1) d31_0 rfl rfl rfl ?_
  refine Go.getfield (pc' := 4) (host := "") (Or.inl (ww hw 57 rfl)) Via.refl f0 d31_1 rfl ?_
  refine Go.arraylength (pc' := 5) v d31_4 rfl ?_
  refine Go.istoreN (pc' := 6) (Ls' := #[.val (.ref a), .val (.int m), .val (.int z), .unset, .unset, .unset]) d31_5 rfl rfl ?_
  refine Go.iloadN (pc' := 7) d31_6 rfl rfl ?_
  refine Go.aloadN (pc' := 8) d31_7 rfl rfl rfl ?_
  refine Go.getfield (pc' := 11) (host := "") (Or.inl (ww hw 59 rfl)) Via.refl f1 d31_8 rfl ?_
  refine Go.ishl (pc' := 12) d31_11 rfl ?_
  refine Go.istoreN (pc' := 13) (Ls' := #[.val (.ref a), .val (.int m), .val (.int z), .val (.int (m <<< ((0 : Int32) &&& 31))), .unset, .unset]) d31_12 rfl rfl ?_
  refine Go.iloadN (pc' := 14) d31_13 rfl rfl ?_
  refine Go.iloadN (pc' := 15) d31_14 rfl rfl ?_
  refine Go.isub (pc' := 16) d31_15 rfl ?_
  refine Go.istore (pc' := 18) (Ls' := #[.val (.ref a), .val (.int m), .val (.int z), .val (.int (m <<< ((0 : Int32) &&& 31))), .val (.int ((m <<< ((0 : Int32) &&& 31)) - z)), .unset]) d31_16 rfl rfl ?_
  refine Go.iloadN (pc' := 19) d31_18 rfl rfl ?_
  refine Go.iload (pc' := 21) d31_19 rfl rfl ?_
  refine Go.iloadN (pc' := 22) d31_21 rfl rfl ?_
  refine Go.iconst (pc' := 23) (v := 2) d31_22 rfl rfl ?_
  refine Go.aloadN (pc' := 24) d31_23 rfl rfl rfl ?_
  refine Go.getfield (pc' := 27) (host := "") (Or.inl (ww hw 59 rfl)) Via.refl f1 d31_24 rfl ?_
  refine Go.ishl (pc' := 28) d31_27 rfl ?_
  show Go _ _ _ _ _ _ _ _ _ _ _ _ 28 _ [(.int 2), (.int z), (.int ((m <<< ((0 : Int32) &&& 31)) - z)), (.int z)]
  refine Go.iadd (pc' := 29) d31_28 rfl ?_
  refine Go.callS (cells' := 0) (slots' := 0) (pc' := 32) [(.int z), (.int ((m <<< ((0 : Int32) &&& 31)) - z)), (.int (z + (2 : Int32)))] [] (ww hw 178 rfl) (ww hw 179 rfl) (ww hw 180 rfl) (ww hw 181 rfl) (by decide) (c_newLen l Z a0 hw h z (((m <<< ((0 : Int32) &&& 31)) - z)) ((z + (2 : Int32))) h1 h2 h3) pd_4 d31_29 rfl ?_
  rintro _ _ ⟨rfl, rfl⟩
  show Go _ _ _ _ _ _ _ _ _ _ _ _ 32 _ [(.int (z + (z + (2 : Int32))))]
  refine Go.istore (pc' := 34) (Ls' := #[.val (.ref a), .val (.int m), .val (.int z), .val (.int (m <<< ((0 : Int32) &&& 31))), .val (.int ((m <<< ((0 : Int32) &&& 31)) - z)), .val (.int (z + (z + (2 : Int32))))]) d31_32 rfl rfl ?_
  refine Go.iload (pc' := 36) d31_34 rfl rfl ?_
  refine Go.ldcI (pc' := 38) (ww hw 187 rfl) d31_36 rfl ?_
  refine Go.icmpYes (pc' := 51) d31_38 (XT.ii_ne_t h4) (by decide) (by decide) ?_
  refine Go.iload (pc' := 53) d31_51 rfl rfl ?_
  refine Go.aloadN (pc' := 54) d31_53 rfl rfl rfl ?_
  refine Go.getfield (pc' := 57) (host := "") (Or.inl (ww hw 59 rfl)) Via.refl f1 d31_54 rfl ?_
  refine Go.ishr (pc' := 58) d31_57 rfl ?_
  exact Go.retI rfl d31_58 ⟨rfl, rfl⟩
theorem c_ensG0 (hw : HW a0 Z) (h : Heap) (a : Addr) (m n : Int32) (b : Addr) (kb : ClassId) (z : Int32) (vs : List Value) (N : Int32) (pd : Nat) (hgr : (0 : Int32) < (m - (z >>> ((0 : Int32) &&& 31)))) (h1 : ((m <<< ((0 : Int32) &&& 31)) - z) < (z + (2 : Int32))) (h2 : (0 : Int32) < (z + (z + (2 : Int32)))) (h3 : ¬ ((2147483639 : Int32) < (z + (z + (2 : Int32))))) (h4 : ¬ ((z + (z + (2 : Int32))) = (2147483647 : Int32))) (hNe : (((z + (z + (2 : Int32))) >>> ((0 : Int32) &&& 31)) <<< ((0 : Int32) &&& 31)) = N) (hNz : ¬ (N = z)) (hN0 : ¬ (N < (0 : Int32))) (hN16 : N.toNatClampNeg ≤ 16) (hNle : ¬ (N < z)) (hz0 : ¬ (z < (0 : Int32))) (hvz : vs.length ≤ z.toNatClampNeg) (ge_a : n0 ≤ a) (xa : EB Z h a) (pf0 : FV Z h a (.ref b)) (pf1 : FK Z h a (.int 0)) (pf2 : FN Z h a (.int n)) (pf3 : FM Z h a (.int 0)) (v : AB Z h b kb z vs (.int 0)) :
    Con l M_23 q27 3 none (rm4 3 1 16 48) Z n0 #[(.ref a), (.int m)] h (fun v h' => ∃ d : Addr, ∃ ky : ClassId, v = none ∧ Keep h h' [a] ∧ n0 ≤ d ∧ h.size ≤ d ∧ FV Z h' a (.ref d) ∧ FK Z h' a (.int 0) ∧ FN Z h' a (.int n) ∧ FM Z h' a (.int 0) ∧ AB Z h' d ky N (vs ++ List.replicate pd (Value.int 0)) (.int 0) ∧ EA Z h' d) := by
  refine Con.of_go (plainFor_of_name pn_4) (Ls := #[.val (.ref a), .val (.int m), .unset]) ?_
  refine Go.aloadN (pc' := 1) d27_0 rfl rfl rfl ?_
  refine Go.getfield (pc' := 4) (host := "") (Or.inl (ww hw 57 rfl)) Via.refl pf0 d27_1 rfl ?_
  refine Go.arraylength (pc' := 5) v d27_4 rfl ?_
  refine Go.aloadN (pc' := 6) d27_5 rfl rfl rfl ?_
  refine Go.getfield (pc' := 9) (host := "") (Or.inl (ww hw 59 rfl)) Via.refl pf1 d27_6 rfl ?_
  refine Go.ishr (pc' := 10) d27_9 rfl ?_
  refine Go.istoreN (pc' := 11) (Ls' := #[.val (.ref a), .val (.int m), .val (.int (z >>> ((0 : Int32) &&& 31)))]) d27_10 rfl rfl ?_
  refine Go.iloadN (pc' := 12) d27_11 rfl rfl ?_
  refine Go.iloadN (pc' := 13) d27_12 rfl rfl ?_
  refine Go.isub (pc' := 14) d27_13 rfl ?_
  refine Go.ifNo (pc' := 17) d27_14 (XT.i0_le_f hgr) rfl ?_
  refine Go.aloadN (pc' := 18) d27_17 rfl rfl rfl ?_
  refine Go.aloadN (pc' := 19) d27_18 rfl rfl rfl ?_
  refine Go.getfield (pc' := 22) (host := "") (Or.inl (ww hw 57 rfl)) Via.refl pf0 d27_19 rfl ?_
  refine Go.aloadN (pc' := 23) d27_22 rfl rfl rfl ?_
  refine Go.iloadN (pc' := 24) d27_23 rfl rfl ?_
  refine Go.callP (cells' := 0) (slots' := 0) (pc' := 27) [(.int m)] [(.ref b), (.ref a)] xa (ww hw 173 rfl) (ww hw 174 rfl) (own_selP (ww hw 176 rfl) (ww hw 174 rfl) (ww hw 175 rfl) (by decide)) (ww hw 175 rfl) (ww hw 53 rfl) (ww hw 177 rfl) (by decide) (c_nc0 l Z a0 hw h a m b kb z vs h1 h2 h3 h4 pf0 pf1 v) pd_7 d27_24 rfl ?_
  rintro _ _ ⟨rfl, rfl⟩
  show Go _ _ _ _ _ _ _ _ _ _ _ _ 27 _ [(.int ((z + (z + (2 : Int32))) >>> ((0 : Int32) &&& 31))), (.ref b), (.ref a)]
  refine Go.aloadN (pc' := 28) d27_27 rfl rfl rfl ?_
  refine Go.getfield (pc' := 31) (host := "") (Or.inl (ww hw 59 rfl)) Via.refl pf1 d27_28 rfl ?_
  refine Go.ishl (pc' := 32) d27_31 rfl ?_
  rw [hNe]
  refine Go.callS (cells' := 1) (slots' := 16) (pc' := 35) [(.ref b), (.int N)] [(.ref a)] (ww hw 188 rfl) (ww hw 189 rfl) (ww hw 113 rfl) (ww hw 190 rfl) (by decide) (c_cpo l Z a0 hw h b kb z vs N pd hNz hN0 hN16 hNle hz0 hvz v) pd_13 d27_32 rfl ?_
  rintro _ h2 ⟨d_2, ky_2, rfl, K2, ge_d_2, sz_d_2, F2_0, F2_1⟩
  have K3 := (Keep.refl h [a]).trans K2 all0
  show Go _ _ _ _ _ _ _ _ _ _ _ _ 35 _ [(.ref d_2), (.ref a)]
  refine Go.putfield (pc' := 38) (host := "") (Or.inl (ww hw 57 rfl)) Via.refl (pf0.keep K2 nin0) (xa.keep K2) (Or.inl (ww hw 58 rfl)) (ww hw 33 rfl) (ty := (.array .byte)) (by decide) rfl rfl ge_a d27_35 rfl ?_
  intro h4 W5
  have K6 := K3.wr W5 (Or.inl (List.mem_of_getElem? (i := 0) rfl))
  have f7 := (pf0.keep K2 nin0).same W5
  have f8 := ((pf1.keep K2 nin0).other W5 (Or.inr (sn_0 hw)))
  have f9 := ((pf2.keep K2 nin0).other W5 (Or.inr (sn_2 hw)))
  have f10 := ((pf3.keep K2 nin0).other W5 (Or.inr (sn_4 hw)))
  have ne11 := (Nat.ne_of_lt (Nat.lt_of_lt_of_le pf3.lt sz_d_2))
  exact Go.retV rfl d27_38 ⟨d_2, ky_2, rfl, K6, ge_d_2, sz_d_2, f7, f8, f9, f10, (F2_0.other W5 (Ne.symm ne11)), (F2_1.wr W5)⟩
theorem c_nc1 (hw : HW a0 Z) (h : Heap) (a : Addr) (m : Int32) (b : Addr) (kb : ClassId) (z : Int32) (vs : List Value) (h1 : ((m <<< ((1 : Int32) &&& 31)) - z) < (z + (4 : Int32))) (h2 : (0 : Int32) < (z + (z + (4 : Int32)))) (h3 : ¬ ((2147483639 : Int32) < (z + (z + (4 : Int32))))) (h4 : ¬ ((z + (z + (4 : Int32))) = (2147483647 : Int32))) (f0 : FV Z h a (.ref b)) (f1 : FK Z h a (.int 1)) (v : AB Z h b kb z vs (.int 0)) :
    Con l M_22 q31 6 (some .int) (rm4 2 0 0 29) Z n0 #[(.ref a), (.int m)] h (fun v h' => v = some (.int ((z + (z + (4 : Int32))) >>> ((1 : Int32) &&& 31))) ∧ h = h') := by
  refine Con.of_go (plainFor_of_name pn_4) (Ls := #[.val (.ref a), .val (.int m), .unset, .unset, .unset, .unset]) ?_
  refine Go.aloadN (pc' := 1) d31_0 rfl rfl rfl ?_
  refine Go.getfield (pc' := 4) (host := "") (Or.inl (ww hw 57 rfl)) Via.refl f0 d31_1 rfl ?_
  refine Go.arraylength (pc' := 5) v d31_4 rfl ?_
  refine Go.istoreN (pc' := 6) (Ls' := #[.val (.ref a), .val (.int m), .val (.int z), .unset, .unset, .unset]) d31_5 rfl rfl ?_
  refine Go.iloadN (pc' := 7) d31_6 rfl rfl ?_
  refine Go.aloadN (pc' := 8) d31_7 rfl rfl rfl ?_
  refine Go.getfield (pc' := 11) (host := "") (Or.inl (ww hw 59 rfl)) Via.refl f1 d31_8 rfl ?_
  refine Go.ishl (pc' := 12) d31_11 rfl ?_
  refine Go.istoreN (pc' := 13) (Ls' := #[.val (.ref a), .val (.int m), .val (.int z), .val (.int (m <<< ((1 : Int32) &&& 31))), .unset, .unset]) d31_12 rfl rfl ?_
  refine Go.iloadN (pc' := 14) d31_13 rfl rfl ?_
  refine Go.iloadN (pc' := 15) d31_14 rfl rfl ?_
  refine Go.isub (pc' := 16) d31_15 rfl ?_
  refine Go.istore (pc' := 18) (Ls' := #[.val (.ref a), .val (.int m), .val (.int z), .val (.int (m <<< ((1 : Int32) &&& 31))), .val (.int ((m <<< ((1 : Int32) &&& 31)) - z)), .unset]) d31_16 rfl rfl ?_
  refine Go.iloadN (pc' := 19) d31_18 rfl rfl ?_
  refine Go.iload (pc' := 21) d31_19 rfl rfl ?_
  refine Go.iloadN (pc' := 22) d31_21 rfl rfl ?_
  refine Go.iconst (pc' := 23) (v := 2) d31_22 rfl rfl ?_
  refine Go.aloadN (pc' := 24) d31_23 rfl rfl rfl ?_
  refine Go.getfield (pc' := 27) (host := "") (Or.inl (ww hw 59 rfl)) Via.refl f1 d31_24 rfl ?_
  refine Go.ishl (pc' := 28) d31_27 rfl ?_
  show Go _ _ _ _ _ _ _ _ _ _ _ _ 28 _ [(.int 4), (.int z), (.int ((m <<< ((1 : Int32) &&& 31)) - z)), (.int z)]
  refine Go.iadd (pc' := 29) d31_28 rfl ?_
  refine Go.callS (cells' := 0) (slots' := 0) (pc' := 32) [(.int z), (.int ((m <<< ((1 : Int32) &&& 31)) - z)), (.int (z + (4 : Int32)))] [] (ww hw 178 rfl) (ww hw 179 rfl) (ww hw 180 rfl) (ww hw 181 rfl) (by decide) (c_newLen l Z a0 hw h z (((m <<< ((1 : Int32) &&& 31)) - z)) ((z + (4 : Int32))) h1 h2 h3) pd_4 d31_29 rfl ?_
  rintro _ _ ⟨rfl, rfl⟩
  show Go _ _ _ _ _ _ _ _ _ _ _ _ 32 _ [(.int (z + (z + (4 : Int32))))]
  refine Go.istore (pc' := 34) (Ls' := #[.val (.ref a), .val (.int m), .val (.int z), .val (.int (m <<< ((1 : Int32) &&& 31))), .val (.int ((m <<< ((1 : Int32) &&& 31)) - z)), .val (.int (z + (z + (4 : Int32))))]) d31_32 rfl rfl ?_
  refine Go.iload (pc' := 36) d31_34 rfl rfl ?_
  refine Go.ldcI (pc' := 38) (ww hw 187 rfl) d31_36 rfl ?_
  refine Go.icmpYes (pc' := 51) d31_38 (XT.ii_ne_t h4) (by decide) (by decide) ?_
  refine Go.iload (pc' := 53) d31_51 rfl rfl ?_
  refine Go.aloadN (pc' := 54) d31_53 rfl rfl rfl ?_
  refine Go.getfield (pc' := 57) (host := "") (Or.inl (ww hw 59 rfl)) Via.refl f1 d31_54 rfl ?_
  refine Go.ishr (pc' := 58) d31_57 rfl ?_
  exact Go.retI rfl d31_58 ⟨rfl, rfl⟩
theorem c_ensG1 (hw : HW a0 Z) (h : Heap) (a : Addr) (m n : Int32) (b : Addr) (kb : ClassId) (z : Int32) (vs : List Value) (N : Int32) (pd : Nat) (hgr : (0 : Int32) < (m - (z >>> ((1 : Int32) &&& 31)))) (h1 : ((m <<< ((1 : Int32) &&& 31)) - z) < (z + (4 : Int32))) (h2 : (0 : Int32) < (z + (z + (4 : Int32)))) (h3 : ¬ ((2147483639 : Int32) < (z + (z + (4 : Int32))))) (h4 : ¬ ((z + (z + (4 : Int32))) = (2147483647 : Int32))) (hNe : (((z + (z + (4 : Int32))) >>> ((1 : Int32) &&& 31)) <<< ((1 : Int32) &&& 31)) = N) (hNz : ¬ (N = z)) (hN0 : ¬ (N < (0 : Int32))) (hN16 : N.toNatClampNeg ≤ 16) (hNle : ¬ (N < z)) (hz0 : ¬ (z < (0 : Int32))) (hvz : vs.length ≤ z.toNatClampNeg) (ge_a : n0 ≤ a) (xa : EB Z h a) (pf0 : FV Z h a (.ref b)) (pf1 : FK Z h a (.int 1)) (pf2 : FN Z h a (.int n)) (pf3 : FM Z h a (.int 0)) (v : AB Z h b kb z vs (.int 0)) :
    Con l M_23 q27 3 none (rm4 3 1 16 48) Z n0 #[(.ref a), (.int m)] h (fun v h' => ∃ d : Addr, ∃ ky : ClassId, v = none ∧ Keep h h' [a] ∧ n0 ≤ d ∧ h.size ≤ d ∧ FV Z h' a (.ref d) ∧ FK Z h' a (.int 1) ∧ FN Z h' a (.int n) ∧ FM Z h' a (.int 0) ∧ AB Z h' d ky N (vs ++ List.replicate pd (Value.int 0)) (.int 0) ∧ EA Z h' d) := by
  refine Con.of_go (plainFor_of_name pn_4) (Ls := #[.val (.ref a), .val (.int m), .unset]) ?_
  refine Go.aloadN (pc' := 1) d27_0 rfl rfl rfl ?_
  refine Go.getfield (pc' := 4) (host := "") (Or.inl (ww hw 57 rfl)) Via.refl pf0 d27_1 rfl ?_
  refine Go.arraylength (pc' := 5) v d27_4 rfl ?_
  refine Go.aloadN (pc' := 6) d27_5 rfl rfl rfl ?_
  refine Go.getfield (pc' := 9) (host := "") (Or.inl (ww hw 59 rfl)) Via.refl pf1 d27_6 rfl ?_
  refine Go.ishr (pc' := 10) d27_9 rfl ?_
  refine Go.istoreN (pc' := 11) (Ls' := #[.val (.ref a), .val (.int m), .val (.int (z >>> ((1 : Int32) &&& 31)))]) d27_10 rfl rfl ?_
  refine Go.iloadN (pc' := 12) d27_11 rfl rfl ?_
  refine Go.iloadN (pc' := 13) d27_12 rfl rfl ?_
  refine Go.isub (pc' := 14) d27_13 rfl ?_
  refine Go.ifNo (pc' := 17) d27_14 (XT.i0_le_f hgr) rfl ?_
  refine Go.aloadN (pc' := 18) d27_17 rfl rfl rfl ?_
  refine Go.aloadN (pc' := 19) d27_18 rfl rfl rfl ?_
  refine Go.getfield (pc' := 22) (host := "") (Or.inl (ww hw 57 rfl)) Via.refl pf0 d27_19 rfl ?_
  refine Go.aloadN (pc' := 23) d27_22 rfl rfl rfl ?_
  refine Go.iloadN (pc' := 24) d27_23 rfl rfl ?_
  refine Go.callP (cells' := 0) (slots' := 0) (pc' := 27) [(.int m)] [(.ref b), (.ref a)] xa (ww hw 173 rfl) (ww hw 174 rfl) (own_selP (ww hw 176 rfl) (ww hw 174 rfl) (ww hw 175 rfl) (by decide)) (ww hw 175 rfl) (ww hw 53 rfl) (ww hw 177 rfl) (by decide) (c_nc1 l Z a0 hw h a m b kb z vs h1 h2 h3 h4 pf0 pf1 v) pd_7 d27_24 rfl ?_
  rintro _ _ ⟨rfl, rfl⟩
  show Go _ _ _ _ _ _ _ _ _ _ _ _ 27 _ [(.int ((z + (z + (4 : Int32))) >>> ((1 : Int32) &&& 31))), (.ref b), (.ref a)]
  refine Go.aloadN (pc' := 28) d27_27 rfl rfl rfl ?_
  refine Go.getfield (pc' := 31) (host := "") (Or.inl (ww hw 59 rfl)) Via.refl pf1 d27_28 rfl ?_
  refine Go.ishl (pc' := 32) d27_31 rfl ?_
  rw [hNe]
  refine Go.callS (cells' := 1) (slots' := 16) (pc' := 35) [(.ref b), (.int N)] [(.ref a)] (ww hw 188 rfl) (ww hw 189 rfl) (ww hw 113 rfl) (ww hw 190 rfl) (by decide) (c_cpo l Z a0 hw h b kb z vs N pd hNz hN0 hN16 hNle hz0 hvz v) pd_13 d27_32 rfl ?_
  rintro _ h2 ⟨d_2, ky_2, rfl, K2, ge_d_2, sz_d_2, F2_0, F2_1⟩
  have K3 := (Keep.refl h [a]).trans K2 all0
  show Go _ _ _ _ _ _ _ _ _ _ _ _ 35 _ [(.ref d_2), (.ref a)]
  refine Go.putfield (pc' := 38) (host := "") (Or.inl (ww hw 57 rfl)) Via.refl (pf0.keep K2 nin0) (xa.keep K2) (Or.inl (ww hw 58 rfl)) (ww hw 33 rfl) (ty := (.array .byte)) (by decide) rfl rfl ge_a d27_35 rfl ?_
  intro h4 W5
  have K6 := K3.wr W5 (Or.inl (List.mem_of_getElem? (i := 0) rfl))
  have f7 := (pf0.keep K2 nin0).same W5
  have f8 := ((pf1.keep K2 nin0).other W5 (Or.inr (sn_0 hw)))
  have f9 := ((pf2.keep K2 nin0).other W5 (Or.inr (sn_2 hw)))
  have f10 := ((pf3.keep K2 nin0).other W5 (Or.inr (sn_4 hw)))
  have ne11 := (Nat.ne_of_lt (Nat.lt_of_lt_of_le pf3.lt sz_d_2))
  exact Go.retV rfl d27_38 ⟨d_2, ky_2, rfl, K6, ge_d_2, sz_d_2, f7, f8, f9, f10, (F2_0.other W5 (Ne.symm ne11)), (F2_1.wr W5)⟩
theorem c_ensN0 (hw : HW a0 Z) (h : Heap) (a : Addr) (m : Int32) (b : Addr) (kb : ClassId) (z : Int32) (vs : List Value) (hle : ¬ ((0 : Int32) < (m - (z >>> ((0 : Int32) &&& 31))))) (f0 : FV Z h a (.ref b)) (f1 : FK Z h a (.int 0)) (v : AB Z h b kb z vs (.int 0)) :
    Con l M_23 q27 3 none (rm4 0 0 0 0) Z n0 #[(.ref a), (.int m)] h (fun v h' => v = none ∧ h = h') := by
  refine Con.of_go (plainFor_of_name pn_4) (Ls := #[.val (.ref a), .val (.int m), .unset]) ?_
  refine Go.aloadN (pc' := 1) d27_0 rfl rfl rfl ?_
  refine Go.getfield (pc' := 4) (host := "") (Or.inl (ww hw 57 rfl)) Via.refl f0 d27_1 rfl ?_
  refine Go.arraylength (pc' := 5) v d27_4 rfl ?_
  refine Go.aloadN (pc' := 6) d27_5 rfl rfl rfl ?_
  refine Go.getfield (pc' := 9) (host := "") (Or.inl (ww hw 59 rfl)) Via.refl f1 d27_6 rfl ?_
  refine Go.ishr (pc' := 10) d27_9 rfl ?_
  refine Go.istoreN (pc' := 11) (Ls' := #[.val (.ref a), .val (.int m), .val (.int (z >>> ((0 : Int32) &&& 31)))]) d27_10 rfl rfl ?_
  refine Go.iloadN (pc' := 12) d27_11 rfl rfl ?_
  refine Go.iloadN (pc' := 13) d27_12 rfl rfl ?_
  refine Go.isub (pc' := 14) d27_13 rfl ?_
  refine Go.ifYes (pc' := 38) d27_14 (XT.i0_le_t hle) (by decide) (by decide) ?_
  exact Go.retV rfl d27_38 ⟨rfl, rfl⟩
theorem c_ensN1 (hw : HW a0 Z) (h : Heap) (a : Addr) (m : Int32) (b : Addr) (kb : ClassId) (z : Int32) (vs : List Value) (hle : ¬ ((0 : Int32) < (m - (z >>> ((1 : Int32) &&& 31))))) (f0 : FV Z h a (.ref b)) (f1 : FK Z h a (.int 1)) (v : AB Z h b kb z vs (.int 0)) :
    Con l M_23 q27 3 none (rm4 0 0 0 0) Z n0 #[(.ref a), (.int m)] h (fun v h' => v = none ∧ h = h') := by
  refine Con.of_go (plainFor_of_name pn_4) (Ls := #[.val (.ref a), .val (.int m), .unset]) ?_
  refine Go.aloadN (pc' := 1) d27_0 rfl rfl rfl ?_
  refine Go.getfield (pc' := 4) (host := "") (Or.inl (ww hw 57 rfl)) Via.refl f0 d27_1 rfl ?_
  refine Go.arraylength (pc' := 5) v d27_4 rfl ?_
  refine Go.aloadN (pc' := 6) d27_5 rfl rfl rfl ?_
  refine Go.getfield (pc' := 9) (host := "") (Or.inl (ww hw 59 rfl)) Via.refl f1 d27_6 rfl ?_
  refine Go.ishr (pc' := 10) d27_9 rfl ?_
  refine Go.istoreN (pc' := 11) (Ls' := #[.val (.ref a), .val (.int m), .val (.int (z >>> ((1 : Int32) &&& 31)))]) d27_10 rfl rfl ?_
  refine Go.iloadN (pc' := 12) d27_11 rfl rfl ?_
  refine Go.iloadN (pc' := 13) d27_12 rfl rfl ?_
  refine Go.isub (pc' := 14) d27_13 rfl ?_
  refine Go.ifYes (pc' := 38) d27_14 (XT.i0_le_t hle) (by decide) (by decide) ?_
  exact Go.retV rfl d27_38 ⟨rfl, rfl⟩
theorem c_canL (hw : HW a0 Z) (h : Heap) (c : Int32) (hcl : ¬ ((255 : Int32) < c)) :
    Con l M_24 q48 1 (some .boolean) (rm4 0 0 0 0) Z n0 #[(.int c)] h (fun v h' => v = some (.int 1) ∧ h = h') := by
  refine Con.of_go (plainFor_of_name pn_3) (Ls := #[.val (.int c)]) ?_
  refine Go.iloadN (pc' := 1) d48_0 rfl rfl ?_
  refine Go.sipush (pc' := 4) (v := 255) d48_1 rfl rfl ?_
  refine Go.icmpNo (pc' := 7) d48_4 (XT.ii_gt_f hcl) rfl ?_
  refine Go.iconst (pc' := 8) (v := 1) d48_7 rfl rfl ?_
  refine Go.goto (pc' := 12) d48_8 (by decide) (by decide) ?_
  exact Go.retN (t := .boolean) rfl (by simp) d48_12 ⟨rfl, rfl⟩
theorem c_canU (hw : HW a0 Z) (h : Heap) (c : Int32) (hcl : (255 : Int32) < c) :
    Con l M_24 q48 1 (some .boolean) (rm4 0 0 0 0) Z n0 #[(.int c)] h (fun v h' => v = some (.int 0) ∧ h = h') := by
  refine Con.of_go (plainFor_of_name pn_3) (Ls := #[.val (.int c)]) ?_
  refine Go.iloadN (pc' := 1) d48_0 rfl rfl ?_
  refine Go.sipush (pc' := 4) (v := 255) d48_1 rfl rfl ?_
  refine Go.icmpYes (pc' := 11) d48_4 (XT.ii_gt_t hcl) (by decide) (by decide) ?_
  refine Go.iconst (pc' := 12) (v := 0) d48_11 rfl rfl ?_
  exact Go.retN (t := .boolean) rfl (by simp) d48_12 ⟨rfl, rfl⟩
theorem c_infl1_ (hw : HW a0 Z) (h : Heap) (a : Addr) (cp : Int32) (hcp : ¬ (cp = (0 : Int32))) (scp : Zcp Z (.int cp)) (xa : EB Z h a) (f : FK Z h a (.int 1)) :
    Con l M_17 q60 2 none (rm4 1 0 0 12) Z n0 #[(.ref a)] h (fun v h' => v = none ∧ h = h') := by
  refine Con.of_go (plainFor_of_name pn_4) (Ls := #[.val (.ref a), .unset]) ?_
  refine Go.aloadN (pc' := 1) d60_0 rfl rfl rfl ?_
  refine Go.callV (cells' := 0) (slots' := 0) (pc' := 4) [] [] xa (ww hw 238 rfl) (ww hw 107 rfl) (nfS (ww hw 109 rfl)) (ww hw 109 rfl) (ww hw 108 rfl) (ww hw 53 rfl) (ww hw 110 rfl) (by decide) (c_asbLat1 l Z a0 hw h a cp hcp scp f) pd_10 d60_1 rfl ?_
  rintro _ _ ⟨rfl, rfl⟩
  show Go _ _ _ _ _ _ _ _ _ _ _ _ 4 _ [(.int 0)]
  refine Go.ifNo (pc' := 7) d60_4 (XT.i0_ne_f (by decide)) rfl ?_
  exact Go.retV rfl d60_7 ⟨rfl, rfl⟩
theorem c_apLN (hw : HW a0 Z) (h : Heap) (a b : Addr) (kb : ClassId) (z : Int32) (vs : List Value) (n c cp : Int32) (wf : Value) (hcp : ¬ (cp = (0 : Int32))) (hcl : ¬ ((255 : Int32) < c)) (hle : ¬ ((0 : Int32) < ((n + (1 : Int32)) - (z >>> ((0 : Int32) &&& 31))))) (hn0 : ¬ (n < (0 : Int32))) (hnz : n < z) (hnl : n.toNatClampNeg < vs.length) (scp : Zcp Z (.int cp)) (sad : Zad Z (.int 1)) (shi : Zhi Z (.int 0)) (slo : Zlo Z (.int 8)) (sfm : Zfm Z wf) (ge_a : n0 ≤ a) (ge_b : n0 ≤ b) (xa : EB Z h a) (xb : EA Z h b) (pf0 : FV Z h a (.ref b)) (pf1 : FK Z h a (.int 0)) (pf2 : FN Z h a (.int n)) (pf3 : FM Z h a (.int 0)) (v : AB Z h b kb z vs (.int 0)) :
    Con l M_25 q47 2 (some (.object "java/lang/AbstractStringBuilder")) (rm4 6 2 32 89) Z n0 #[(.ref a), (.int c)] h (fun v h' => v = some (.ref a) ∧ Keep h h' [a, b] ∧ FV Z h' a (.ref b) ∧ FK Z h' a (.int 0) ∧ FN Z h' a (.int (n + (1 : Int32))) ∧ FM Z h' a (.int 0) ∧ AB Z h' b kb z (vs.set n.toNatClampNeg (by8 c)) (.int 0) ∧ EA Z h' b) := by
  refine Con.of_go (plainFor_of_name pn_4) (Ls := #[.val (.ref a), .val (.int c)]) ?_
  refine Go.aloadN (pc' := 1) d47_0 rfl rfl rfl ?_
  refine Go.aloadN (pc' := 2) d47_1 rfl rfl rfl ?_
  refine Go.getfield (pc' := 5) (host := "") (Or.inl (ww hw 104 rfl)) Via.refl pf2 d47_2 rfl ?_
  refine Go.iconst (pc' := 6) (v := 1) d47_5 rfl rfl ?_
  refine Go.iadd (pc' := 7) d47_6 rfl ?_
  refine Go.callP (cells' := 0) (slots' := 0) (pc' := 10) [(.int (n + (1 : Int32)))] [] xa (ww hw 147 rfl) (ww hw 148 rfl) (own_selP (ww hw 150 rfl) (ww hw 148 rfl) (ww hw 149 rfl) (by decide)) (ww hw 149 rfl) (ww hw 53 rfl) (ww hw 151 rfl) (by decide) (c_ensN0 l Z a0 hw h a ((n + (1 : Int32))) b kb z vs hle pf0 pf1 v) pd_14 d47_7 rfl ?_
  rintro _ _ ⟨rfl, rfl⟩
  show Go _ _ _ _ _ _ _ _ _ _ _ _ 10 _ []
  refine Go.aloadN (pc' := 11) d47_10 rfl rfl rfl ?_
  refine Go.callV (cells' := 0) (slots' := 0) (pc' := 14) [] [] xa (ww hw 238 rfl) (ww hw 107 rfl) (nfS (ww hw 109 rfl)) (ww hw 109 rfl) (ww hw 108 rfl) (ww hw 53 rfl) (ww hw 110 rfl) (by decide) (c_asbLat0 l Z a0 hw h a cp hcp scp pf1) pd_10 d47_11 rfl ?_
  rintro _ _ ⟨rfl, rfl⟩
  show Go _ _ _ _ _ _ _ _ _ _ _ _ 14 _ [(.int 1)]
  refine Go.ifNo (pc' := 17) d47_14 (XT.i0_eq_f (by decide)) rfl ?_
  refine Go.iloadN (pc' := 18) d47_17 rfl rfl ?_
  refine Go.callS (cells' := 0) (slots' := 0) (pc' := 21) [(.int c)] [] (ww hw 239 rfl) (ww hw 240 rfl) (ww hw 73 rfl) (ww hw 241 rfl) (by decide) (c_canL l Z a0 hw h c hcl) pd_15 d47_18 rfl ?_
  rintro _ _ ⟨rfl, rfl⟩
  show Go _ _ _ _ _ _ _ _ _ _ _ _ 21 _ [(.int 1)]
  refine Go.ifNo (pc' := 24) d47_21 (XT.i0_eq_f (by decide)) rfl ?_
  refine Go.aloadN (pc' := 25) d47_24 rfl rfl rfl ?_
  refine Go.getfield (pc' := 28) (host := "") (Or.inl (ww hw 57 rfl)) Via.refl pf0 d47_25 rfl ?_
  refine Go.aloadN (pc' := 29) d47_28 rfl rfl rfl ?_
  refine Go.dup (pc' := 30) d47_29 rfl rfl ?_
  refine Go.getfield (pc' := 33) (host := "") (Or.inl (ww hw 104 rfl)) Via.refl pf2 d47_30 rfl ?_
  refine Go.dupX1 (pc' := 34) d47_33 rfl rfl rfl ?_
  refine Go.iconst (pc' := 35) (v := 1) d47_34 rfl rfl ?_
  refine Go.iadd (pc' := 36) d47_35 rfl ?_
  refine Go.putfield (pc' := 39) (host := "") (Or.inl (ww hw 104 rfl)) Via.refl pf2 xa (Or.inl (ww hw 105 rfl)) (ww hw 33 rfl) (ty := .int) (by decide) rfl rfl ge_a d47_36 rfl ?_
  intro h4 W5
  have K6 := (Keep.refl h [a, b]).wr W5 (Or.inl (List.mem_of_getElem? (i := 0) rfl))
  have f7 := pf2.same W5
  refine Go.iloadN (pc' := 40) d47_39 rfl rfl ?_
  refine Go.i2b (pc' := 41) d47_40 rfl ?_
  have ne8 := ne_exa (xb.wr W5) (xa.wr W5) (by decide)
  refine Go.bastore (pc' := 42) (v.other W5 ne8) ge_b d47_41 hn0 hnz (i := n.toNatClampNeg) rfl hnl rfl ?_
  intro h9 W10 V11
  have K12 := K6.wr W10 (Or.inl (List.mem_of_getElem? (i := 1) rfl))
  rw [OwnNum.b8] at V11
  replace V11 : AB Z h9 b kb z (vs.set n.toNatClampNeg (by8 c)) (.int 0) := V11
  refine Go.goto (pc' := 75) d47_42 (by decide) (by decide) ?_
  refine Go.aloadN (pc' := 76) d47_75 rfl rfl rfl ?_
  have f13 := ((pf0.other W5 (Or.inr (sn_6 hw))).other W10 (Or.inl (Ne.symm ne8)))
  have f14 := ((pf1.other W5 (Or.inr (sn_7 hw))).other W10 (Or.inl (Ne.symm ne8)))
  have f15 := ((pf3.other W5 (Or.inr (sn_8 hw))).other W10 (Or.inl (Ne.symm ne8)))
  exact Go.retR rfl rfl rfl rfl d47_76 ⟨rfl, K12, f13, f14, (f7.other W10 (Or.inl (Ne.symm ne8))), f15, V11, ((xb.wr W5).wr W10)⟩
theorem c_apLG (hw : HW a0 Z) (h : Heap) (a b : Addr) (kb : ClassId) (z : Int32) (vs : List Value) (n c N : Int32) (pd : Nat) (cp : Int32) (wf : Value) (hcp : ¬ (cp = (0 : Int32))) (hcl : ¬ ((255 : Int32) < c)) (hgr : (0 : Int32) < ((n + (1 : Int32)) - (z >>> ((0 : Int32) &&& 31)))) (h1 : (((n + (1 : Int32)) <<< ((0 : Int32) &&& 31)) - z) < (z + (2 : Int32))) (h2 : (0 : Int32) < (z + (z + (2 : Int32)))) (h3 : ¬ ((2147483639 : Int32) < (z + (z + (2 : Int32))))) (h4 : ¬ ((z + (z + (2 : Int32))) = (2147483647 : Int32))) (hNe : (((z + (z + (2 : Int32))) >>> ((0 : Int32) &&& 31)) <<< ((0 : Int32) &&& 31)) = N) (hNz : ¬ (N = z)) (hN0 : ¬ (N < (0 : Int32))) (hN16 : N.toNatClampNeg ≤ 16) (hNle : ¬ (N < z)) (hz0 : ¬ (z < (0 : Int32))) (hvz : vs.length ≤ z.toNatClampNeg) (hn0 : ¬ (n < (0 : Int32))) (hnz : n < N) (hnl : n.toNatClampNeg < (vs ++ List.replicate pd (Value.int 0)).length) (scp : Zcp Z (.int cp)) (sad : Zad Z (.int 1)) (shi : Zhi Z (.int 0)) (slo : Zlo Z (.int 8)) (sfm : Zfm Z wf) (ge_a : n0 ≤ a) (ge_b : n0 ≤ b) (xa : EB Z h a) (xb : EA Z h b) (pf0 : FV Z h a (.ref b)) (pf1 : FK Z h a (.int 0)) (pf2 : FN Z h a (.int n)) (pf3 : FM Z h a (.int 0)) (v : AB Z h b kb z vs (.int 0)) :
    Con l M_25 q47 2 (some (.object "java/lang/AbstractStringBuilder")) (rm4 6 2 32 89) Z n0 #[(.ref a), (.int c)] h (fun v h' => ∃ d : Addr, ∃ ky : ClassId, v = some (.ref a) ∧ Keep h h' [a, b] ∧ n0 ≤ d ∧ h.size ≤ d ∧ FV Z h' a (.ref d) ∧ FK Z h' a (.int 0) ∧ FN Z h' a (.int (n + (1 : Int32))) ∧ FM Z h' a (.int 0) ∧ AB Z h' d ky N ((vs ++ List.replicate pd (Value.int 0)).set n.toNatClampNeg (by8 c)) (.int 0) ∧ EA Z h' d) := by
  refine Con.of_go (plainFor_of_name pn_4) (Ls := #[.val (.ref a), .val (.int c)]) ?_
  refine Go.aloadN (pc' := 1) d47_0 rfl rfl rfl ?_
  refine Go.aloadN (pc' := 2) d47_1 rfl rfl rfl ?_
  refine Go.getfield (pc' := 5) (host := "") (Or.inl (ww hw 104 rfl)) Via.refl pf2 d47_2 rfl ?_
  refine Go.iconst (pc' := 6) (v := 1) d47_5 rfl rfl ?_
  refine Go.iadd (pc' := 7) d47_6 rfl ?_
  refine Go.callP (cells' := 1) (slots' := 16) (pc' := 10) [(.int (n + (1 : Int32)))] [] xa (ww hw 147 rfl) (ww hw 148 rfl) (own_selP (ww hw 150 rfl) (ww hw 148 rfl) (ww hw 149 rfl) (by decide)) (ww hw 149 rfl) (ww hw 53 rfl) (ww hw 151 rfl) (by decide) (c_ensG0 l Z a0 hw h a ((n + (1 : Int32))) n b kb z vs N pd hgr h1 h2 h3 h4 hNe hNz hN0 hN16 hNle hz0 hvz ge_a xa pf0 pf1 pf2 pf3 v) pd_14 d47_7 rfl ?_
  rintro _ h1 ⟨d_1, ky_1, rfl, K1, ge_d_1, sz_d_1, F1_0, F1_1, F1_2, F1_3, F1_4, F1_5⟩
  have K2 := (Keep.refl h [a, b]).trans K1 (allS (Or.inl (List.mem_of_getElem? (i := 0) rfl)) all0)
  show Go _ _ _ _ _ _ _ _ _ _ _ _ 10 _ []
  refine Go.aloadN (pc' := 11) d47_10 rfl rfl rfl ?_
  refine Go.callV (cells' := 1) (slots' := 16) (pc' := 14) [] [] (xa.keep K1) (ww hw 238 rfl) (ww hw 107 rfl) (nfS (ww hw 109 rfl)) (ww hw 109 rfl) (ww hw 108 rfl) (ww hw 53 rfl) (ww hw 110 rfl) (by decide) (c_asbLat0 l Z a0 hw h1 a cp hcp scp F1_1) pd_10 d47_11 rfl ?_
  rintro _ _ ⟨rfl, rfl⟩
  show Go _ _ _ _ _ _ _ _ _ _ _ _ 14 _ [(.int 1)]
  refine Go.ifNo (pc' := 17) d47_14 (XT.i0_eq_f (by decide)) rfl ?_
  refine Go.iloadN (pc' := 18) d47_17 rfl rfl ?_
  refine Go.callS (cells' := 1) (slots' := 16) (pc' := 21) [(.int c)] [] (ww hw 239 rfl) (ww hw 240 rfl) (ww hw 73 rfl) (ww hw 241 rfl) (by decide) (c_canL l Z a0 hw h1 c hcl) pd_15 d47_18 rfl ?_
  rintro _ _ ⟨rfl, rfl⟩
  show Go _ _ _ _ _ _ _ _ _ _ _ _ 21 _ [(.int 1)]
  refine Go.ifNo (pc' := 24) d47_21 (XT.i0_eq_f (by decide)) rfl ?_
  refine Go.aloadN (pc' := 25) d47_24 rfl rfl rfl ?_
  refine Go.getfield (pc' := 28) (host := "") (Or.inl (ww hw 57 rfl)) Via.refl F1_0 d47_25 rfl ?_
  refine Go.aloadN (pc' := 29) d47_28 rfl rfl rfl ?_
  refine Go.dup (pc' := 30) d47_29 rfl rfl ?_
  refine Go.getfield (pc' := 33) (host := "") (Or.inl (ww hw 104 rfl)) Via.refl F1_2 d47_30 rfl ?_
  refine Go.dupX1 (pc' := 34) d47_33 rfl rfl rfl ?_
  refine Go.iconst (pc' := 35) (v := 1) d47_34 rfl rfl ?_
  refine Go.iadd (pc' := 36) d47_35 rfl ?_
  refine Go.putfield (pc' := 39) (host := "") (Or.inl (ww hw 104 rfl)) Via.refl F1_2 (xa.keep K1) (Or.inl (ww hw 105 rfl)) (ww hw 33 rfl) (ty := .int) (by decide) rfl rfl ge_a d47_36 rfl ?_
  intro h5 W6
  have K7 := K2.wr W6 (Or.inl (List.mem_of_getElem? (i := 0) rfl))
  have f8 := F1_2.same W6
  refine Go.iloadN (pc' := 40) d47_39 rfl rfl ?_
  refine Go.i2b (pc' := 41) d47_40 rfl ?_
  have ne9 := (Nat.ne_of_lt (Nat.lt_of_lt_of_le xa.lt sz_d_1))
  refine Go.bastore (pc' := 42) (F1_4.other W6 (Ne.symm ne9)) ge_d_1 d47_41 hn0 hnz (i := n.toNatClampNeg) rfl hnl rfl ?_
  intro h10 W11 V12
  have K13 := K7.wr W11 (Or.inr sz_d_1)
  rw [OwnNum.b8] at V12
  replace V12 : AB Z h10 d_1 ky_1 N ((vs ++ List.replicate pd (Value.int 0)).set n.toNatClampNeg (by8 c)) (.int 0) := V12
  refine Go.goto (pc' := 75) d47_42 (by decide) (by decide) ?_
  refine Go.aloadN (pc' := 76) d47_75 rfl rfl rfl ?_
  have f14 := ((F1_0.other W6 (Or.inr (sn_6 hw))).other W11 (Or.inl ne9))
  have f15 := ((F1_1.other W6 (Or.inr (sn_7 hw))).other W11 (Or.inl ne9))
  have f16 := ((F1_3.other W6 (Or.inr (sn_8 hw))).other W11 (Or.inl ne9))
  exact Go.retR rfl rfl rfl rfl d47_76 ⟨d_1, ky_1, rfl, K13, ge_d_1, sz_d_1, f14, f15, (f8.other W11 (Or.inl ne9)), f16, V12, ((F1_5.wr W6).wr W11)⟩
theorem c_apUN0 (hw : HW a0 Z) (h : Heap) (a b : Addr) (kb : ClassId) (z : Int32) (vs : List Value) (y c cp : Int32) (wf : Value) (hcp : ¬ (cp = (0 : Int32))) (hwf : wf.isRef = true) (hcl : (255 : Int32) < c) (hle : ¬ ((0 : Int32) < ((1 : Int32) - (z >>> ((0 : Int32) &&& 31))))) (hz0 : ¬ (z < (0 : Int32))) (hzM : z < (1073741823 : Int32)) (hY : (z <<< ((1 : Int32) &&& 31)) = y) (hy0 : ¬ (y < (0 : Int32))) (hy16 : y.toNatClampNeg ≤ 16) (hb1 : ¬ ((((y >>> ((1 : Int32) &&& 31)) ||| (0 : Int32)) ||| (0 : Int32)) < (0 : Int32))) (hb2 : ¬ (((y >>> ((1 : Int32) &&& 31)) - (0 : Int32)) < (0 : Int32))) (phz0 : (0 : Int32) < y) (phz1 : (1 : Int32) < y) (phi : (0 : Int32) < (y >>> ((1 : Int32) &&& 31))) (scp : Zcp Z (.int cp)) (sad : Zad Z (.int 1)) (shi : Zhi Z (.int 0)) (slo : Zlo Z (.int 8)) (sfm : Zfm Z wf) (ge_a : n0 ≤ a) (ge_b : n0 ≤ b) (xa : EB Z h a) (xb : EA Z h b) (pf0 : FV Z h a (.ref b)) (pf1 : FK Z h a (.int 0)) (pf2 : FN Z h a (.int 0)) (pf3 : FM Z h a (.int 0)) (v : AB Z h b kb z vs (.int 0)) :
    Con l M_25 q47 2 (some (.object "java/lang/AbstractStringBuilder")) (rm4 6 2 32 89) Z n0 #[(.ref a), (.int c)] h (fun v h' => ∃ d : Addr, ∃ ky : ClassId, v = some (.ref a) ∧ Keep h h' [a, b] ∧ n0 ≤ d ∧ h.size ≤ d ∧ FV Z h' a (.ref d) ∧ FK Z h' a (.int 1) ∧ FN Z h' a (.int 1) ∧ FM Z h' a (.int 0) ∧ AB Z h' d ky y [(loB c), (hiB c)] (.int 0) ∧ EA Z h' d) := by
  refine Con.of_go (plainFor_of_name pn_4) (Ls := #[.val (.ref a), .val (.int c)]) ?_
  refine Go.aloadN (pc' := 1) d47_0 rfl rfl rfl ?_
  refine Go.aloadN (pc' := 2) d47_1 rfl rfl rfl ?_
  refine Go.getfield (pc' := 5) (host := "") (Or.inl (ww hw 104 rfl)) Via.refl pf2 d47_2 rfl ?_
  refine Go.iconst (pc' := 6) (v := 1) d47_5 rfl rfl ?_
  refine Go.iadd (pc' := 7) d47_6 rfl ?_
  show Go _ _ _ _ _ _ _ _ _ _ _ _ 7 _ [(.int 1), (.ref a)]
  refine Go.callP (cells' := 0) (slots' := 0) (pc' := 10) [(.int 1)] [] xa (ww hw 147 rfl) (ww hw 148 rfl) (own_selP (ww hw 150 rfl) (ww hw 148 rfl) (ww hw 149 rfl) (by decide)) (ww hw 149 rfl) (ww hw 53 rfl) (ww hw 151 rfl) (by decide) (c_ensN0 l Z a0 hw h a (1 : Int32) b kb z vs hle pf0 pf1 v) pd_14 d47_7 rfl ?_
  rintro _ _ ⟨rfl, rfl⟩
  show Go _ _ _ _ _ _ _ _ _ _ _ _ 10 _ []
  refine Go.aloadN (pc' := 11) d47_10 rfl rfl rfl ?_
  refine Go.callV (cells' := 0) (slots' := 0) (pc' := 14) [] [] xa (ww hw 238 rfl) (ww hw 107 rfl) (nfS (ww hw 109 rfl)) (ww hw 109 rfl) (ww hw 108 rfl) (ww hw 53 rfl) (ww hw 110 rfl) (by decide) (c_asbLat0 l Z a0 hw h a cp hcp scp pf1) pd_10 d47_11 rfl ?_
  rintro _ _ ⟨rfl, rfl⟩
  show Go _ _ _ _ _ _ _ _ _ _ _ _ 14 _ [(.int 1)]
  refine Go.ifNo (pc' := 17) d47_14 (XT.i0_eq_f (by decide)) rfl ?_
  refine Go.iloadN (pc' := 18) d47_17 rfl rfl ?_
  refine Go.callS (cells' := 0) (slots' := 0) (pc' := 21) [(.int c)] [] (ww hw 239 rfl) (ww hw 240 rfl) (ww hw 73 rfl) (ww hw 241 rfl) (by decide) (c_canU l Z a0 hw h c hcl) pd_15 d47_18 rfl ?_
  rintro _ _ ⟨rfl, rfl⟩
  show Go _ _ _ _ _ _ _ _ _ _ _ _ 21 _ [(.int 0)]
  refine Go.ifYes (pc' := 45) d47_21 (XT.i0_eq_t (by decide)) (by decide) (by decide) ?_
  refine Go.aloadN (pc' := 46) d47_45 rfl rfl rfl ?_
  refine Go.callV (cells' := 0) (slots' := 0) (pc' := 49) [] [] xa (ww hw 238 rfl) (ww hw 107 rfl) (nfS (ww hw 109 rfl)) (ww hw 109 rfl) (ww hw 108 rfl) (ww hw 53 rfl) (ww hw 110 rfl) (by decide) (c_asbLat0 l Z a0 hw h a cp hcp scp pf1) pd_10 d47_46 rfl ?_
  rintro _ _ ⟨rfl, rfl⟩
  show Go _ _ _ _ _ _ _ _ _ _ _ _ 49 _ [(.int 1)]
  refine Go.ifNo (pc' := 52) d47_49 (XT.i0_eq_f (by decide)) rfl ?_
  refine Go.aloadN (pc' := 53) d47_52 rfl rfl rfl ?_
  refine Go.callP (cells' := 1) (slots' := 16) (pc' := 56) [] [] xa (ww hw 280 rfl) (ww hw 281 rfl) (own_selP (ww hw 283 rfl) (ww hw 281 rfl) (ww hw 282 rfl) (by decide)) (ww hw 282 rfl) (ww hw 53 rfl) (ww hw 284 rfl) (by decide) (c_infl0 l Z a0 hw h a b kb z vs y cp wf hcp hwf hz0 hzM hY hy0 hy16 hb1 hb2 scp sad shi slo sfm ge_a xa pf0 pf1 pf2 pf3 v) pd_16 d47_53 rfl ?_
  rintro _ h5 ⟨d_5, ky_5, rfl, K5, ge_d_5, sz_d_5, F5_0, F5_1, F5_2, F5_3, F5_4, F5_5⟩
  have K6 := (Keep.refl h [a, b]).trans K5 (allS (Or.inl (List.mem_of_getElem? (i := 0) rfl)) all0)
  show Go _ _ _ _ _ _ _ _ _ _ _ _ 56 _ []
  refine Go.aloadN (pc' := 57) d47_56 rfl rfl rfl ?_
  refine Go.getfield (pc' := 60) (host := "") (Or.inl (ww hw 57 rfl)) Via.refl F5_0 d47_57 rfl ?_
  refine Go.aloadN (pc' := 61) d47_60 rfl rfl rfl ?_
  refine Go.dup (pc' := 62) d47_61 rfl rfl ?_
  refine Go.getfield (pc' := 65) (host := "") (Or.inl (ww hw 104 rfl)) Via.refl F5_2 d47_62 rfl ?_
  refine Go.dupX1 (pc' := 66) d47_65 rfl rfl rfl ?_
  refine Go.iconst (pc' := 67) (v := 1) d47_66 rfl rfl ?_
  refine Go.iadd (pc' := 68) d47_67 rfl ?_
  show Go _ _ _ _ _ _ _ _ _ _ _ _ 68 _ [(.int 1), (.ref a), (.int 0), (.ref d_5)]
  refine Go.putfield (pc' := 71) (host := "") (Or.inl (ww hw 104 rfl)) Via.refl F5_2 (xa.keep K5) (Or.inl (ww hw 105 rfl)) (ww hw 33 rfl) (ty := .int) (by decide) rfl rfl ge_a d47_68 rfl ?_
  intro h7 W8
  have K9 := K6.wr W8 (Or.inl (List.mem_of_getElem? (i := 0) rfl))
  have f10 := F5_2.same W8
  refine Go.iloadN (pc' := 72) d47_71 rfl rfl ?_
  have ne11 := (Nat.ne_of_lt (Nat.lt_of_lt_of_le xa.lt sz_d_5))
  refine Go.callS (cells' := 1) (slots' := 16) (pc' := 75) [(.ref d_5), (.int 0), (.int c)] [] (ww hw 292 rfl) (ww hw 293 rfl) (ww hw 128 rfl) (ww hw 294 rfl) (by decide) (c_putSB l Z a0 hw h7 d_5 ky_5 y ([(.int 0), (.int 0)]) (0 : Int32) (0 : Int32) (1 : Int32) c wf (by decide) (by decide) (by decide) (by decide) phz0 phz1 (nl rfl) (nl rfl) (by decide) phi hwf sad shi slo sfm ge_d_5 ((F5_4.other W8 (Ne.symm ne11)))) pd_6 d47_72 rfl ?_
  rintro _ h12 ⟨rfl, K12, F12_0⟩
  have K13 := K9.trans K12 (allS (Or.inr sz_d_5) all0)
  have VL14 : AB Z h12 d_5 ky_5 y [(loB c), (hiB c)] (.int 0) := F12_0
  show Go _ _ _ _ _ _ _ _ _ _ _ _ 75 _ []
  refine Go.aloadN (pc' := 76) d47_75 rfl rfl rfl ?_
  have f15 := ((F5_0.other W8 (Or.inr (sn_6 hw))).keep K12 (ninS ne11 nin0))
  have f16 := ((F5_1.other W8 (Or.inr (sn_7 hw))).keep K12 (ninS ne11 nin0))
  have f17 := ((F5_3.other W8 (Or.inr (sn_8 hw))).keep K12 (ninS ne11 nin0))
  exact Go.retR rfl rfl rfl rfl d47_76 ⟨d_5, ky_5, rfl, K13, ge_d_5, sz_d_5, f15, f16, (f10.keep K12 (ninS ne11 nin0)), f17, VL14, ((F5_5.wr W8).keep K12)⟩
theorem c_apUN1 (hw : HW a0 Z) (h : Heap) (a b : Addr) (kb : ClassId) (z : Int32) (vs : List Value) (y e0 c cp : Int32) (wf : Value) (hcp : ¬ (cp = (0 : Int32))) (hwf : wf.isRef = true) (hcl : (255 : Int32) < c) (hle : ¬ ((0 : Int32) < ((2 : Int32) - (z >>> ((0 : Int32) &&& 31))))) (hz0 : ¬ (z < (0 : Int32))) (hzM : z < (1073741823 : Int32)) (hY : (z <<< ((1 : Int32) &&& 31)) = y) (hy0 : ¬ (y < (0 : Int32))) (hy16 : y.toNatClampNeg ≤ 16) (hs0 : (0 : Int32) < z) (hv0 : vs.getD 0 (.int 0) = .int e0.toInt8.toInt32) (hq0 : (e0.toInt8.toInt32 &&& (255 : Int32)) = e0) (hd0 : (0 : Int32) < y) (hd1 : (1 : Int32) < y) (hb1 : ¬ ((((y >>> ((1 : Int32) &&& 31)) ||| (0 : Int32)) ||| (1 : Int32)) < (0 : Int32))) (hb2 : ¬ (((y >>> ((1 : Int32) &&& 31)) - (0 : Int32)) < (1 : Int32))) (phz0 : (2 : Int32) < y) (phz1 : (3 : Int32) < y) (phi : (1 : Int32) < (y >>> ((1 : Int32) &&& 31))) (scp : Zcp Z (.int cp)) (sad : Zad Z (.int 1)) (shi : Zhi Z (.int 0)) (slo : Zlo Z (.int 8)) (sfm : Zfm Z wf) (ge_a : n0 ≤ a) (ge_b : n0 ≤ b) (xa : EB Z h a) (xb : EA Z h b) (pf0 : FV Z h a (.ref b)) (pf1 : FK Z h a (.int 0)) (pf2 : FN Z h a (.int 1)) (pf3 : FM Z h a (.int 0)) (v : AB Z h b kb z vs (.int 0)) :
    Con l M_25 q47 2 (some (.object "java/lang/AbstractStringBuilder")) (rm4 6 2 32 89) Z n0 #[(.ref a), (.int c)] h (fun v h' => ∃ d : Addr, ∃ ky : ClassId, v = some (.ref a) ∧ Keep h h' [a, b] ∧ n0 ≤ d ∧ h.size ≤ d ∧ FV Z h' a (.ref d) ∧ FK Z h' a (.int 1) ∧ FN Z h' a (.int 2) ∧ FM Z h' a (.int 0) ∧ AB Z h' d ky y [(loB e0), (hiB e0), (loB c), (hiB c)] (.int 0) ∧ EA Z h' d) := by
  refine Con.of_go (plainFor_of_name pn_4) (Ls := #[.val (.ref a), .val (.int c)]) ?_
  refine Go.aloadN (pc' := 1) d47_0 rfl rfl rfl ?_
  refine Go.aloadN (pc' := 2) d47_1 rfl rfl rfl ?_
  refine Go.getfield (pc' := 5) (host := "") (Or.inl (ww hw 104 rfl)) Via.refl pf2 d47_2 rfl ?_
  refine Go.iconst (pc' := 6) (v := 1) d47_5 rfl rfl ?_
  refine Go.iadd (pc' := 7) d47_6 rfl ?_
  show Go _ _ _ _ _ _ _ _ _ _ _ _ 7 _ [(.int 2), (.ref a)]
  refine Go.callP (cells' := 0) (slots' := 0) (pc' := 10) [(.int 2)] [] xa (ww hw 147 rfl) (ww hw 148 rfl) (own_selP (ww hw 150 rfl) (ww hw 148 rfl) (ww hw 149 rfl) (by decide)) (ww hw 149 rfl) (ww hw 53 rfl) (ww hw 151 rfl) (by decide) (c_ensN0 l Z a0 hw h a (2 : Int32) b kb z vs hle pf0 pf1 v) pd_14 d47_7 rfl ?_
  rintro _ _ ⟨rfl, rfl⟩
  show Go _ _ _ _ _ _ _ _ _ _ _ _ 10 _ []
  refine Go.aloadN (pc' := 11) d47_10 rfl rfl rfl ?_
  refine Go.callV (cells' := 0) (slots' := 0) (pc' := 14) [] [] xa (ww hw 238 rfl) (ww hw 107 rfl) (nfS (ww hw 109 rfl)) (ww hw 109 rfl) (ww hw 108 rfl) (ww hw 53 rfl) (ww hw 110 rfl) (by decide) (c_asbLat0 l Z a0 hw h a cp hcp scp pf1) pd_10 d47_11 rfl ?_
  rintro _ _ ⟨rfl, rfl⟩
  show Go _ _ _ _ _ _ _ _ _ _ _ _ 14 _ [(.int 1)]
  refine Go.ifNo (pc' := 17) d47_14 (XT.i0_eq_f (by decide)) rfl ?_
  refine Go.iloadN (pc' := 18) d47_17 rfl rfl ?_
  refine Go.callS (cells' := 0) (slots' := 0) (pc' := 21) [(.int c)] [] (ww hw 239 rfl) (ww hw 240 rfl) (ww hw 73 rfl) (ww hw 241 rfl) (by decide) (c_canU l Z a0 hw h c hcl) pd_15 d47_18 rfl ?_
  rintro _ _ ⟨rfl, rfl⟩
  show Go _ _ _ _ _ _ _ _ _ _ _ _ 21 _ [(.int 0)]
  refine Go.ifYes (pc' := 45) d47_21 (XT.i0_eq_t (by decide)) (by decide) (by decide) ?_
  refine Go.aloadN (pc' := 46) d47_45 rfl rfl rfl ?_
  refine Go.callV (cells' := 0) (slots' := 0) (pc' := 49) [] [] xa (ww hw 238 rfl) (ww hw 107 rfl) (nfS (ww hw 109 rfl)) (ww hw 109 rfl) (ww hw 108 rfl) (ww hw 53 rfl) (ww hw 110 rfl) (by decide) (c_asbLat0 l Z a0 hw h a cp hcp scp pf1) pd_10 d47_46 rfl ?_
  rintro _ _ ⟨rfl, rfl⟩
  show Go _ _ _ _ _ _ _ _ _ _ _ _ 49 _ [(.int 1)]
  refine Go.ifNo (pc' := 52) d47_49 (XT.i0_eq_f (by decide)) rfl ?_
  refine Go.aloadN (pc' := 53) d47_52 rfl rfl rfl ?_
  refine Go.callP (cells' := 1) (slots' := 16) (pc' := 56) [] [] xa (ww hw 280 rfl) (ww hw 281 rfl) (own_selP (ww hw 283 rfl) (ww hw 281 rfl) (ww hw 282 rfl) (by decide)) (ww hw 282 rfl) (ww hw 53 rfl) (ww hw 284 rfl) (by decide) (c_infl1 l Z a0 hw h a b kb z vs y e0 cp wf hcp hwf hz0 hzM hY hy0 hy16 hs0 hv0 hq0 hd0 hd1 hb1 hb2 scp sad shi slo sfm ge_a xa pf0 pf1 pf2 pf3 v) pd_16 d47_53 rfl ?_
  rintro _ h5 ⟨d_5, ky_5, rfl, K5, ge_d_5, sz_d_5, F5_0, F5_1, F5_2, F5_3, F5_4, F5_5⟩
  have K6 := (Keep.refl h [a, b]).trans K5 (allS (Or.inl (List.mem_of_getElem? (i := 0) rfl)) all0)
  show Go _ _ _ _ _ _ _ _ _ _ _ _ 56 _ []
  refine Go.aloadN (pc' := 57) d47_56 rfl rfl rfl ?_
  refine Go.getfield (pc' := 60) (host := "") (Or.inl (ww hw 57 rfl)) Via.refl F5_0 d47_57 rfl ?_
  refine Go.aloadN (pc' := 61) d47_60 rfl rfl rfl ?_
  refine Go.dup (pc' := 62) d47_61 rfl rfl ?_
  refine Go.getfield (pc' := 65) (host := "") (Or.inl (ww hw 104 rfl)) Via.refl F5_2 d47_62 rfl ?_
  refine Go.dupX1 (pc' := 66) d47_65 rfl rfl rfl ?_
  refine Go.iconst (pc' := 67) (v := 1) d47_66 rfl rfl ?_
  refine Go.iadd (pc' := 68) d47_67 rfl ?_
  show Go _ _ _ _ _ _ _ _ _ _ _ _ 68 _ [(.int 2), (.ref a), (.int 1), (.ref d_5)]
  refine Go.putfield (pc' := 71) (host := "") (Or.inl (ww hw 104 rfl)) Via.refl F5_2 (xa.keep K5) (Or.inl (ww hw 105 rfl)) (ww hw 33 rfl) (ty := .int) (by decide) rfl rfl ge_a d47_68 rfl ?_
  intro h7 W8
  have K9 := K6.wr W8 (Or.inl (List.mem_of_getElem? (i := 0) rfl))
  have f10 := F5_2.same W8
  refine Go.iloadN (pc' := 72) d47_71 rfl rfl ?_
  have ne11 := (Nat.ne_of_lt (Nat.lt_of_lt_of_le xa.lt sz_d_5))
  refine Go.callS (cells' := 1) (slots' := 16) (pc' := 75) [(.ref d_5), (.int 1), (.int c)] [] (ww hw 292 rfl) (ww hw 293 rfl) (ww hw 128 rfl) (ww hw 294 rfl) (by decide) (c_putSB l Z a0 hw h7 d_5 ky_5 y ([(loB e0), (hiB e0), (.int 0), (.int 0)]) (1 : Int32) (2 : Int32) (3 : Int32) c wf (by decide) (by decide) (by decide) (by decide) phz0 phz1 (nl rfl) (nl rfl) (by decide) phi hwf sad shi slo sfm ge_d_5 ((F5_4.other W8 (Ne.symm ne11)))) pd_6 d47_72 rfl ?_
  rintro _ h12 ⟨rfl, K12, F12_0⟩
  have K13 := K9.trans K12 (allS (Or.inr sz_d_5) all0)
  have VL14 : AB Z h12 d_5 ky_5 y [(loB e0), (hiB e0), (loB c), (hiB c)] (.int 0) := F12_0
  show Go _ _ _ _ _ _ _ _ _ _ _ _ 75 _ []
  refine Go.aloadN (pc' := 76) d47_75 rfl rfl rfl ?_
  have f15 := ((F5_0.other W8 (Or.inr (sn_6 hw))).keep K12 (ninS ne11 nin0))
  have f16 := ((F5_1.other W8 (Or.inr (sn_7 hw))).keep K12 (ninS ne11 nin0))
  have f17 := ((F5_3.other W8 (Or.inr (sn_8 hw))).keep K12 (ninS ne11 nin0))
  exact Go.retR rfl rfl rfl rfl d47_76 ⟨d_5, ky_5, rfl, K13, ge_d_5, sz_d_5, f15, f16, (f10.keep K12 (ninS ne11 nin0)), f17, VL14, ((F5_5.wr W8).keep K12)⟩
theorem c_apUN2 (hw : HW a0 Z) (h : Heap) (a b : Addr) (kb : ClassId) (z : Int32) (vs : List Value) (y e0 e1 c cp : Int32) (wf : Value) (hcp : ¬ (cp = (0 : Int32))) (hwf : wf.isRef = true) (hcl : (255 : Int32) < c) (hle : ¬ ((0 : Int32) < ((3 : Int32) - (z >>> ((0 : Int32) &&& 31))))) (hz0 : ¬ (z < (0 : Int32))) (hzM : z < (1073741823 : Int32)) (hY : (z <<< ((1 : Int32) &&& 31)) = y) (hy0 : ¬ (y < (0 : Int32))) (hy16 : y.toNatClampNeg ≤ 16) (hs0 : (0 : Int32) < z) (hv0 : vs.getD 0 (.int 0) = .int e0.toInt8.toInt32) (hq0 : (e0.toInt8.toInt32 &&& (255 : Int32)) = e0) (hs1 : (1 : Int32) < z) (hv1 : vs.getD 1 (.int 0) = .int e1.toInt8.toInt32) (hq1 : (e1.toInt8.toInt32 &&& (255 : Int32)) = e1) (hd0 : (0 : Int32) < y) (hd1 : (1 : Int32) < y) (hd2 : (2 : Int32) < y) (hd3 : (3 : Int32) < y) (hb1 : ¬ ((((y >>> ((1 : Int32) &&& 31)) ||| (0 : Int32)) ||| (2 : Int32)) < (0 : Int32))) (hb2 : ¬ (((y >>> ((1 : Int32) &&& 31)) - (0 : Int32)) < (2 : Int32))) (phz0 : (4 : Int32) < y) (phz1 : (5 : Int32) < y) (phi : (2 : Int32) < (y >>> ((1 : Int32) &&& 31))) (scp : Zcp Z (.int cp)) (sad : Zad Z (.int 1)) (shi : Zhi Z (.int 0)) (slo : Zlo Z (.int 8)) (sfm : Zfm Z wf) (ge_a : n0 ≤ a) (ge_b : n0 ≤ b) (xa : EB Z h a) (xb : EA Z h b) (pf0 : FV Z h a (.ref b)) (pf1 : FK Z h a (.int 0)) (pf2 : FN Z h a (.int 2)) (pf3 : FM Z h a (.int 0)) (v : AB Z h b kb z vs (.int 0)) :
    Con l M_25 q47 2 (some (.object "java/lang/AbstractStringBuilder")) (rm4 6 2 32 89) Z n0 #[(.ref a), (.int c)] h (fun v h' => ∃ d : Addr, ∃ ky : ClassId, v = some (.ref a) ∧ Keep h h' [a, b] ∧ n0 ≤ d ∧ h.size ≤ d ∧ FV Z h' a (.ref d) ∧ FK Z h' a (.int 1) ∧ FN Z h' a (.int 3) ∧ FM Z h' a (.int 0) ∧ AB Z h' d ky y [(loB e0), (hiB e0), (loB e1), (hiB e1), (loB c), (hiB c)] (.int 0) ∧ EA Z h' d) := by
  refine Con.of_go (plainFor_of_name pn_4) (Ls := #[.val (.ref a), .val (.int c)]) ?_
  refine Go.aloadN (pc' := 1) d47_0 rfl rfl rfl ?_
  refine Go.aloadN (pc' := 2) d47_1 rfl rfl rfl ?_
  refine Go.getfield (pc' := 5) (host := "") (Or.inl (ww hw 104 rfl)) Via.refl pf2 d47_2 rfl ?_
  refine Go.iconst (pc' := 6) (v := 1) d47_5 rfl rfl ?_
  refine Go.iadd (pc' := 7) d47_6 rfl ?_
  show Go _ _ _ _ _ _ _ _ _ _ _ _ 7 _ [(.int 3), (.ref a)]
  refine Go.callP (cells' := 0) (slots' := 0) (pc' := 10) [(.int 3)] [] xa (ww hw 147 rfl) (ww hw 148 rfl) (own_selP (ww hw 150 rfl) (ww hw 148 rfl) (ww hw 149 rfl) (by decide)) (ww hw 149 rfl) (ww hw 53 rfl) (ww hw 151 rfl) (by decide) (c_ensN0 l Z a0 hw h a (3 : Int32) b kb z vs hle pf0 pf1 v) pd_14 d47_7 rfl ?_
  rintro _ _ ⟨rfl, rfl⟩
  show Go _ _ _ _ _ _ _ _ _ _ _ _ 10 _ []
  refine Go.aloadN (pc' := 11) d47_10 rfl rfl rfl ?_
  refine Go.callV (cells' := 0) (slots' := 0) (pc' := 14) [] [] xa (ww hw 238 rfl) (ww hw 107 rfl) (nfS (ww hw 109 rfl)) (ww hw 109 rfl) (ww hw 108 rfl) (ww hw 53 rfl) (ww hw 110 rfl) (by decide) (c_asbLat0 l Z a0 hw h a cp hcp scp pf1) pd_10 d47_11 rfl ?_
  rintro _ _ ⟨rfl, rfl⟩
  show Go _ _ _ _ _ _ _ _ _ _ _ _ 14 _ [(.int 1)]
  refine Go.ifNo (pc' := 17) d47_14 (XT.i0_eq_f (by decide)) rfl ?_
  refine Go.iloadN (pc' := 18) d47_17 rfl rfl ?_
  refine Go.callS (cells' := 0) (slots' := 0) (pc' := 21) [(.int c)] [] (ww hw 239 rfl) (ww hw 240 rfl) (ww hw 73 rfl) (ww hw 241 rfl) (by decide) (c_canU l Z a0 hw h c hcl) pd_15 d47_18 rfl ?_
  rintro _ _ ⟨rfl, rfl⟩
  show Go _ _ _ _ _ _ _ _ _ _ _ _ 21 _ [(.int 0)]
  refine Go.ifYes (pc' := 45) d47_21 (XT.i0_eq_t (by decide)) (by decide) (by decide) ?_
  refine Go.aloadN (pc' := 46) d47_45 rfl rfl rfl ?_
  refine Go.callV (cells' := 0) (slots' := 0) (pc' := 49) [] [] xa (ww hw 238 rfl) (ww hw 107 rfl) (nfS (ww hw 109 rfl)) (ww hw 109 rfl) (ww hw 108 rfl) (ww hw 53 rfl) (ww hw 110 rfl) (by decide) (c_asbLat0 l Z a0 hw h a cp hcp scp pf1) pd_10 d47_46 rfl ?_
  rintro _ _ ⟨rfl, rfl⟩
  show Go _ _ _ _ _ _ _ _ _ _ _ _ 49 _ [(.int 1)]
  refine Go.ifNo (pc' := 52) d47_49 (XT.i0_eq_f (by decide)) rfl ?_
  refine Go.aloadN (pc' := 53) d47_52 rfl rfl rfl ?_
  refine Go.callP (cells' := 1) (slots' := 16) (pc' := 56) [] [] xa (ww hw 280 rfl) (ww hw 281 rfl) (own_selP (ww hw 283 rfl) (ww hw 281 rfl) (ww hw 282 rfl) (by decide)) (ww hw 282 rfl) (ww hw 53 rfl) (ww hw 284 rfl) (by decide) (c_infl2 l Z a0 hw h a b kb z vs y e0 e1 cp wf hcp hwf hz0 hzM hY hy0 hy16 hs0 hv0 hq0 hs1 hv1 hq1 hd0 hd1 hd2 hd3 hb1 hb2 scp sad shi slo sfm ge_a xa pf0 pf1 pf2 pf3 v) pd_16 d47_53 rfl ?_
  rintro _ h5 ⟨d_5, ky_5, rfl, K5, ge_d_5, sz_d_5, F5_0, F5_1, F5_2, F5_3, F5_4, F5_5⟩
  have K6 := (Keep.refl h [a, b]).trans K5 (allS (Or.inl (List.mem_of_getElem? (i := 0) rfl)) all0)
  show Go _ _ _ _ _ _ _ _ _ _ _ _ 56 _ []
  refine Go.aloadN (pc' := 57) d47_56 rfl rfl rfl ?_
  refine Go.getfield (pc' := 60) (host := "") (Or.inl (ww hw 57 rfl)) Via.refl F5_0 d47_57 rfl ?_
  refine Go.aloadN (pc' := 61) d47_60 rfl rfl rfl ?_
  refine Go.dup (pc' := 62) d47_61 rfl rfl ?_
  refine Go.getfield (pc' := 65) (host := "") (Or.inl (ww hw 104 rfl)) Via.refl F5_2 d47_62 rfl ?_
  refine Go.dupX1 (pc' := 66) d47_65 rfl rfl rfl ?_
  refine Go.iconst (pc' := 67) (v := 1) d47_66 rfl rfl ?_
  refine Go.iadd (pc' := 68) d47_67 rfl ?_
  show Go _ _ _ _ _ _ _ _ _ _ _ _ 68 _ [(.int 3), (.ref a), (.int 2), (.ref d_5)]
  refine Go.putfield (pc' := 71) (host := "") (Or.inl (ww hw 104 rfl)) Via.refl F5_2 (xa.keep K5) (Or.inl (ww hw 105 rfl)) (ww hw 33 rfl) (ty := .int) (by decide) rfl rfl ge_a d47_68 rfl ?_
  intro h7 W8
  have K9 := K6.wr W8 (Or.inl (List.mem_of_getElem? (i := 0) rfl))
  have f10 := F5_2.same W8
  refine Go.iloadN (pc' := 72) d47_71 rfl rfl ?_
  have ne11 := (Nat.ne_of_lt (Nat.lt_of_lt_of_le xa.lt sz_d_5))
  refine Go.callS (cells' := 1) (slots' := 16) (pc' := 75) [(.ref d_5), (.int 2), (.int c)] [] (ww hw 292 rfl) (ww hw 293 rfl) (ww hw 128 rfl) (ww hw 294 rfl) (by decide) (c_putSB l Z a0 hw h7 d_5 ky_5 y ([(loB e0), (hiB e0), (loB e1), (hiB e1), (.int 0), (.int 0)]) (2 : Int32) (4 : Int32) (5 : Int32) c wf (by decide) (by decide) (by decide) (by decide) phz0 phz1 (nl rfl) (nl rfl) (by decide) phi hwf sad shi slo sfm ge_d_5 ((F5_4.other W8 (Ne.symm ne11)))) pd_6 d47_72 rfl ?_
  rintro _ h12 ⟨rfl, K12, F12_0⟩
  have K13 := K9.trans K12 (allS (Or.inr sz_d_5) all0)
  have VL14 : AB Z h12 d_5 ky_5 y [(loB e0), (hiB e0), (loB e1), (hiB e1), (loB c), (hiB c)] (.int 0) := F12_0
  show Go _ _ _ _ _ _ _ _ _ _ _ _ 75 _ []
  refine Go.aloadN (pc' := 76) d47_75 rfl rfl rfl ?_
  have f15 := ((F5_0.other W8 (Or.inr (sn_6 hw))).keep K12 (ninS ne11 nin0))
  have f16 := ((F5_1.other W8 (Or.inr (sn_7 hw))).keep K12 (ninS ne11 nin0))
  have f17 := ((F5_3.other W8 (Or.inr (sn_8 hw))).keep K12 (ninS ne11 nin0))
  exact Go.retR rfl rfl rfl rfl d47_76 ⟨d_5, ky_5, rfl, K13, ge_d_5, sz_d_5, f15, f16, (f10.keep K12 (ninS ne11 nin0)), f17, VL14, ((F5_5.wr W8).keep K12)⟩
theorem c_apUN4 (hw : HW a0 Z) (h : Heap) (a b : Addr) (kb : ClassId) (z : Int32) (vs : List Value) (y e0 e1 e2 e3 c cp : Int32) (wf : Value) (hcp : ¬ (cp = (0 : Int32))) (hwf : wf.isRef = true) (hcl : (255 : Int32) < c) (hle : ¬ ((0 : Int32) < ((5 : Int32) - (z >>> ((0 : Int32) &&& 31))))) (hz0 : ¬ (z < (0 : Int32))) (hzM : z < (1073741823 : Int32)) (hY : (z <<< ((1 : Int32) &&& 31)) = y) (hy0 : ¬ (y < (0 : Int32))) (hy16 : y.toNatClampNeg ≤ 16) (hs0 : (0 : Int32) < z) (hv0 : vs.getD 0 (.int 0) = .int e0.toInt8.toInt32) (hq0 : (e0.toInt8.toInt32 &&& (255 : Int32)) = e0) (hs1 : (1 : Int32) < z) (hv1 : vs.getD 1 (.int 0) = .int e1.toInt8.toInt32) (hq1 : (e1.toInt8.toInt32 &&& (255 : Int32)) = e1) (hs2 : (2 : Int32) < z) (hv2 : vs.getD 2 (.int 0) = .int e2.toInt8.toInt32) (hq2 : (e2.toInt8.toInt32 &&& (255 : Int32)) = e2) (hs3 : (3 : Int32) < z) (hv3 : vs.getD 3 (.int 0) = .int e3.toInt8.toInt32) (hq3 : (e3.toInt8.toInt32 &&& (255 : Int32)) = e3) (hd0 : (0 : Int32) < y) (hd1 : (1 : Int32) < y) (hd2 : (2 : Int32) < y) (hd3 : (3 : Int32) < y) (hd4 : (4 : Int32) < y) (hd5 : (5 : Int32) < y) (hd6 : (6 : Int32) < y) (hd7 : (7 : Int32) < y) (hb1 : ¬ ((((y >>> ((1 : Int32) &&& 31)) ||| (0 : Int32)) ||| (4 : Int32)) < (0 : Int32))) (hb2 : ¬ (((y >>> ((1 : Int32) &&& 31)) - (0 : Int32)) < (4 : Int32))) (phz0 : (8 : Int32) < y) (phz1 : (9 : Int32) < y) (phi : (4 : Int32) < (y >>> ((1 : Int32) &&& 31))) (scp : Zcp Z (.int cp)) (sad : Zad Z (.int 1)) (shi : Zhi Z (.int 0)) (slo : Zlo Z (.int 8)) (sfm : Zfm Z wf) (ge_a : n0 ≤ a) (ge_b : n0 ≤ b) (xa : EB Z h a) (xb : EA Z h b) (pf0 : FV Z h a (.ref b)) (pf1 : FK Z h a (.int 0)) (pf2 : FN Z h a (.int 4)) (pf3 : FM Z h a (.int 0)) (v : AB Z h b kb z vs (.int 0)) :
    Con l M_25 q47 2 (some (.object "java/lang/AbstractStringBuilder")) (rm4 6 2 32 89) Z n0 #[(.ref a), (.int c)] h (fun v h' => ∃ d : Addr, ∃ ky : ClassId, v = some (.ref a) ∧ Keep h h' [a, b] ∧ n0 ≤ d ∧ h.size ≤ d ∧ FV Z h' a (.ref d) ∧ FK Z h' a (.int 1) ∧ FN Z h' a (.int 5) ∧ FM Z h' a (.int 0) ∧ AB Z h' d ky y [(loB e0), (hiB e0), (loB e1), (hiB e1), (loB e2), (hiB e2), (loB e3), (hiB e3), (loB c), (hiB c)] (.int 0) ∧ EA Z h' d) := by
  refine Con.of_go (plainFor_of_name pn_4) (Ls := #[.val (.ref a), .val (.int c)]) ?_
  refine Go.aloadN (pc' := 1) d47_0 rfl rfl rfl ?_
  refine Go.aloadN (pc' := 2) d47_1 rfl rfl rfl ?_
  refine Go.getfield (pc' := 5) (host := "") (Or.inl (ww hw 104 rfl)) Via.refl pf2 d47_2 rfl ?_
  refine Go.iconst (pc' := 6) (v := 1) d47_5 rfl rfl ?_
  refine Go.iadd (pc' := 7) d47_6 rfl ?_
  show Go _ _ _ _ _ _ _ _ _ _ _ _ 7 _ [(.int 5), (.ref a)]
  refine Go.callP (cells' := 0) (slots' := 0) (pc' := 10) [(.int 5)] [] xa (ww hw 147 rfl) (ww hw 148 rfl) (own_selP (ww hw 150 rfl) (ww hw 148 rfl) (ww hw 149 rfl) (by decide)) (ww hw 149 rfl) (ww hw 53 rfl) (ww hw 151 rfl) (by decide) (c_ensN0 l Z a0 hw h a (5 : Int32) b kb z vs hle pf0 pf1 v) pd_14 d47_7 rfl ?_
  rintro _ _ ⟨rfl, rfl⟩
  show Go _ _ _ _ _ _ _ _ _ _ _ _ 10 _ []
  refine Go.aloadN (pc' := 11) d47_10 rfl rfl rfl ?_
  refine Go.callV (cells' := 0) (slots' := 0) (pc' := 14) [] [] xa (ww hw 238 rfl) (ww hw 107 rfl) (nfS (ww hw 109 rfl)) (ww hw 109 rfl) (ww hw 108 rfl) (ww hw 53 rfl) (ww hw 110 rfl) (by decide) (c_asbLat0 l Z a0 hw h a cp hcp scp pf1) pd_10 d47_11 rfl ?_
  rintro _ _ ⟨rfl, rfl⟩
  show Go _ _ _ _ _ _ _ _ _ _ _ _ 14 _ [(.int 1)]
  refine Go.ifNo (pc' := 17) d47_14 (XT.i0_eq_f (by decide)) rfl ?_
  refine Go.iloadN (pc' := 18) d47_17 rfl rfl ?_
  refine Go.callS (cells' := 0) (slots' := 0) (pc' := 21) [(.int c)] [] (ww hw 239 rfl) (ww hw 240 rfl) (ww hw 73 rfl) (ww hw 241 rfl) (by decide) (c_canU l Z a0 hw h c hcl) pd_15 d47_18 rfl ?_
  rintro _ _ ⟨rfl, rfl⟩
  show Go _ _ _ _ _ _ _ _ _ _ _ _ 21 _ [(.int 0)]
  refine Go.ifYes (pc' := 45) d47_21 (XT.i0_eq_t (by decide)) (by decide) (by decide) ?_
  refine Go.aloadN (pc' := 46) d47_45 rfl rfl rfl ?_
  refine Go.callV (cells' := 0) (slots' := 0) (pc' := 49) [] [] xa (ww hw 238 rfl) (ww hw 107 rfl) (nfS (ww hw 109 rfl)) (ww hw 109 rfl) (ww hw 108 rfl) (ww hw 53 rfl) (ww hw 110 rfl) (by decide) (c_asbLat0 l Z a0 hw h a cp hcp scp pf1) pd_10 d47_46 rfl ?_
  rintro _ _ ⟨rfl, rfl⟩
  show Go _ _ _ _ _ _ _ _ _ _ _ _ 49 _ [(.int 1)]
  refine Go.ifNo (pc' := 52) d47_49 (XT.i0_eq_f (by decide)) rfl ?_
  refine Go.aloadN (pc' := 53) d47_52 rfl rfl rfl ?_
  refine Go.callP (cells' := 1) (slots' := 16) (pc' := 56) [] [] xa (ww hw 280 rfl) (ww hw 281 rfl) (own_selP (ww hw 283 rfl) (ww hw 281 rfl) (ww hw 282 rfl) (by decide)) (ww hw 282 rfl) (ww hw 53 rfl) (ww hw 284 rfl) (by decide) (c_infl4 l Z a0 hw h a b kb z vs y e0 e1 e2 e3 cp wf hcp hwf hz0 hzM hY hy0 hy16 hs0 hv0 hq0 hs1 hv1 hq1 hs2 hv2 hq2 hs3 hv3 hq3 hd0 hd1 hd2 hd3 hd4 hd5 hd6 hd7 hb1 hb2 scp sad shi slo sfm ge_a xa pf0 pf1 pf2 pf3 v) pd_16 d47_53 rfl ?_
  rintro _ h5 ⟨d_5, ky_5, rfl, K5, ge_d_5, sz_d_5, F5_0, F5_1, F5_2, F5_3, F5_4, F5_5⟩
  have K6 := (Keep.refl h [a, b]).trans K5 (allS (Or.inl (List.mem_of_getElem? (i := 0) rfl)) all0)
  show Go _ _ _ _ _ _ _ _ _ _ _ _ 56 _ []
  refine Go.aloadN (pc' := 57) d47_56 rfl rfl rfl ?_
  refine Go.getfield (pc' := 60) (host := "") (Or.inl (ww hw 57 rfl)) Via.refl F5_0 d47_57 rfl ?_
  refine Go.aloadN (pc' := 61) d47_60 rfl rfl rfl ?_
  refine Go.dup (pc' := 62) d47_61 rfl rfl ?_
  refine Go.getfield (pc' := 65) (host := "") (Or.inl (ww hw 104 rfl)) Via.refl F5_2 d47_62 rfl ?_
  refine Go.dupX1 (pc' := 66) d47_65 rfl rfl rfl ?_
  refine Go.iconst (pc' := 67) (v := 1) d47_66 rfl rfl ?_
  refine Go.iadd (pc' := 68) d47_67 rfl ?_
  show Go _ _ _ _ _ _ _ _ _ _ _ _ 68 _ [(.int 5), (.ref a), (.int 4), (.ref d_5)]
  refine Go.putfield (pc' := 71) (host := "") (Or.inl (ww hw 104 rfl)) Via.refl F5_2 (xa.keep K5) (Or.inl (ww hw 105 rfl)) (ww hw 33 rfl) (ty := .int) (by decide) rfl rfl ge_a d47_68 rfl ?_
  intro h7 W8
  have K9 := K6.wr W8 (Or.inl (List.mem_of_getElem? (i := 0) rfl))
  have f10 := F5_2.same W8
  refine Go.iloadN (pc' := 72) d47_71 rfl rfl ?_
  have ne11 := (Nat.ne_of_lt (Nat.lt_of_lt_of_le xa.lt sz_d_5))
  refine Go.callS (cells' := 1) (slots' := 16) (pc' := 75) [(.ref d_5), (.int 4), (.int c)] [] (ww hw 292 rfl) (ww hw 293 rfl) (ww hw 128 rfl) (ww hw 294 rfl) (by decide) (c_putSB l Z a0 hw h7 d_5 ky_5 y ([(loB e0), (hiB e0), (loB e1), (hiB e1), (loB e2), (hiB e2), (loB e3), (hiB e3), (.int 0), (.int 0)]) (4 : Int32) (8 : Int32) (9 : Int32) c wf (by decide) (by decide) (by decide) (by decide) phz0 phz1 (nl rfl) (nl rfl) (by decide) phi hwf sad shi slo sfm ge_d_5 ((F5_4.other W8 (Ne.symm ne11)))) pd_6 d47_72 rfl ?_
  rintro _ h12 ⟨rfl, K12, F12_0⟩
  have K13 := K9.trans K12 (allS (Or.inr sz_d_5) all0)
  have VL14 : AB Z h12 d_5 ky_5 y [(loB e0), (hiB e0), (loB e1), (hiB e1), (loB e2), (hiB e2), (loB e3), (hiB e3), (loB c), (hiB c)] (.int 0) := F12_0
  show Go _ _ _ _ _ _ _ _ _ _ _ _ 75 _ []
  refine Go.aloadN (pc' := 76) d47_75 rfl rfl rfl ?_
  have f15 := ((F5_0.other W8 (Or.inr (sn_6 hw))).keep K12 (ninS ne11 nin0))
  have f16 := ((F5_1.other W8 (Or.inr (sn_7 hw))).keep K12 (ninS ne11 nin0))
  have f17 := ((F5_3.other W8 (Or.inr (sn_8 hw))).keep K12 (ninS ne11 nin0))
  exact Go.retR rfl rfl rfl rfl d47_76 ⟨d_5, ky_5, rfl, K13, ge_d_5, sz_d_5, f15, f16, (f10.keep K12 (ninS ne11 nin0)), f17, VL14, ((F5_5.wr W8).keep K12)⟩
theorem c_apUG2 (hw : HW a0 Z) (h : Heap) (a b : Addr) (kb : ClassId) (z : Int32) (vs : List Value) (N : Int32) (pd : Nat) (y e0 e1 c cp : Int32) (wf : Value) (hcp : ¬ (cp = (0 : Int32))) (hwf : wf.isRef = true) (hcl : (255 : Int32) < c) (hgr : (0 : Int32) < ((3 : Int32) - (z >>> ((0 : Int32) &&& 31)))) (h1 : (((3 : Int32) <<< ((0 : Int32) &&& 31)) - z) < (z + (2 : Int32))) (h2 : (0 : Int32) < (z + (z + (2 : Int32)))) (h3 : ¬ ((2147483639 : Int32) < (z + (z + (2 : Int32))))) (h4 : ¬ ((z + (z + (2 : Int32))) = (2147483647 : Int32))) (hNe : (((z + (z + (2 : Int32))) >>> ((0 : Int32) &&& 31)) <<< ((0 : Int32) &&& 31)) = N) (hNz : ¬ (N = z)) (hN0 : ¬ (N < (0 : Int32))) (hN16 : N.toNatClampNeg ≤ 16) (hNle : ¬ (N < z)) (hz0 : ¬ (z < (0 : Int32))) (hvz : vs.length ≤ z.toNatClampNeg) (hz0' : ¬ (N < (0 : Int32))) (hzM : N < (1073741823 : Int32)) (hY : (N <<< ((1 : Int32) &&& 31)) = y) (hy0 : ¬ (y < (0 : Int32))) (hy16 : y.toNatClampNeg ≤ 16) (hs0 : (0 : Int32) < N) (hv0 : (vs ++ List.replicate pd (Value.int 0)).getD 0 (.int 0) = .int e0.toInt8.toInt32) (hq0 : (e0.toInt8.toInt32 &&& (255 : Int32)) = e0) (hs1 : (1 : Int32) < N) (hv1 : (vs ++ List.replicate pd (Value.int 0)).getD 1 (.int 0) = .int e1.toInt8.toInt32) (hq1 : (e1.toInt8.toInt32 &&& (255 : Int32)) = e1) (hd0 : (0 : Int32) < y) (hd1 : (1 : Int32) < y) (hd2 : (2 : Int32) < y) (hd3 : (3 : Int32) < y) (hb1 : ¬ ((((y >>> ((1 : Int32) &&& 31)) ||| (0 : Int32)) ||| (2 : Int32)) < (0 : Int32))) (hb2 : ¬ (((y >>> ((1 : Int32) &&& 31)) - (0 : Int32)) < (2 : Int32))) (phz0 : (4 : Int32) < y) (phz1 : (5 : Int32) < y) (phi : (2 : Int32) < (y >>> ((1 : Int32) &&& 31))) (scp : Zcp Z (.int cp)) (sad : Zad Z (.int 1)) (shi : Zhi Z (.int 0)) (slo : Zlo Z (.int 8)) (sfm : Zfm Z wf) (ge_a : n0 ≤ a) (ge_b : n0 ≤ b) (xa : EB Z h a) (xb : EA Z h b) (pf0 : FV Z h a (.ref b)) (pf1 : FK Z h a (.int 0)) (pf2 : FN Z h a (.int 2)) (pf3 : FM Z h a (.int 0)) (v : AB Z h b kb z vs (.int 0)) :
    Con l M_25 q47 2 (some (.object "java/lang/AbstractStringBuilder")) (rm4 6 2 32 89) Z n0 #[(.ref a), (.int c)] h (fun v h' => ∃ d : Addr, ∃ ky : ClassId, v = some (.ref a) ∧ Keep h h' [a, b] ∧ n0 ≤ d ∧ h.size ≤ d ∧ FV Z h' a (.ref d) ∧ FK Z h' a (.int 1) ∧ FN Z h' a (.int 3) ∧ FM Z h' a (.int 0) ∧ AB Z h' d ky y [(loB e0), (hiB e0), (loB e1), (hiB e1), (loB c), (hiB c)] (.int 0) ∧ EA Z h' d) := by
  refine Con.of_go (plainFor_of_name pn_4) (Ls := #[.val (.ref a), .val (.int c)]) ?_
  refine Go.aloadN (pc' := 1) d47_0 rfl rfl rfl ?_
  refine Go.aloadN (pc' := 2) d47_1 rfl rfl rfl ?_
  refine Go.getfield (pc' := 5) (host := "") (Or.inl (ww hw 104 rfl)) Via.refl pf2 d47_2 rfl ?_
  refine Go.iconst (pc' := 6) (v := 1) d47_5 rfl rfl ?_
  refine Go.iadd (pc' := 7) d47_6 rfl ?_
  show Go _ _ _ _ _ _ _ _ _ _ _ _ 7 _ [(.int 3), (.ref a)]
  refine Go.callP (cells' := 1) (slots' := 16) (pc' := 10) [(.int 3)] [] xa (ww hw 147 rfl) (ww hw 148 rfl) (own_selP (ww hw 150 rfl) (ww hw 148 rfl) (ww hw 149 rfl) (by decide)) (ww hw 149 rfl) (ww hw 53 rfl) (ww hw 151 rfl) (by decide) (c_ensG0 l Z a0 hw h a (3 : Int32) (2 : Int32) b kb z vs N pd hgr h1 h2 h3 h4 hNe hNz (hz0') hN16 hNle hz0 hvz ge_a xa pf0 pf1 pf2 pf3 v) pd_14 d47_7 rfl ?_
  rintro _ h1 ⟨d_1, ky_1, rfl, K1, ge_d_1, sz_d_1, F1_0, F1_1, F1_2, F1_3, F1_4, F1_5⟩
  have K2 := (Keep.refl h [a, b]).trans K1 (allS (Or.inl (List.mem_of_getElem? (i := 0) rfl)) all0)
  show Go _ _ _ _ _ _ _ _ _ _ _ _ 10 _ []
  refine Go.aloadN (pc' := 11) d47_10 rfl rfl rfl ?_
  refine Go.callV (cells' := 1) (slots' := 16) (pc' := 14) [] [] (xa.keep K1) (ww hw 238 rfl) (ww hw 107 rfl) (nfS (ww hw 109 rfl)) (ww hw 109 rfl) (ww hw 108 rfl) (ww hw 53 rfl) (ww hw 110 rfl) (by decide) (c_asbLat0 l Z a0 hw h1 a cp hcp scp F1_1) pd_10 d47_11 rfl ?_
  rintro _ _ ⟨rfl, rfl⟩
  show Go _ _ _ _ _ _ _ _ _ _ _ _ 14 _ [(.int 1)]
  refine Go.ifNo (pc' := 17) d47_14 (XT.i0_eq_f (by decide)) rfl ?_
  refine Go.iloadN (pc' := 18) d47_17 rfl rfl ?_
  refine Go.callS (cells' := 1) (slots' := 16) (pc' := 21) [(.int c)] [] (ww hw 239 rfl) (ww hw 240 rfl) (ww hw 73 rfl) (ww hw 241 rfl) (by decide) (c_canU l Z a0 hw h1 c hcl) pd_15 d47_18 rfl ?_
  rintro _ _ ⟨rfl, rfl⟩
  show Go _ _ _ _ _ _ _ _ _ _ _ _ 21 _ [(.int 0)]
  refine Go.ifYes (pc' := 45) d47_21 (XT.i0_eq_t (by decide)) (by decide) (by decide) ?_
  refine Go.aloadN (pc' := 46) d47_45 rfl rfl rfl ?_
  refine Go.callV (cells' := 1) (slots' := 16) (pc' := 49) [] [] (xa.keep K1) (ww hw 238 rfl) (ww hw 107 rfl) (nfS (ww hw 109 rfl)) (ww hw 109 rfl) (ww hw 108 rfl) (ww hw 53 rfl) (ww hw 110 rfl) (by decide) (c_asbLat0 l Z a0 hw h1 a cp hcp scp F1_1) pd_10 d47_46 rfl ?_
  rintro _ _ ⟨rfl, rfl⟩
  show Go _ _ _ _ _ _ _ _ _ _ _ _ 49 _ [(.int 1)]
  refine Go.ifNo (pc' := 52) d47_49 (XT.i0_eq_f (by decide)) rfl ?_
  refine Go.aloadN (pc' := 53) d47_52 rfl rfl rfl ?_
  refine Go.callP (cells' := 2) (slots' := 32) (pc' := 56) [] [] (xa.keep K1) (ww hw 280 rfl) (ww hw 281 rfl) (own_selP (ww hw 283 rfl) (ww hw 281 rfl) (ww hw 282 rfl) (by decide)) (ww hw 282 rfl) (ww hw 53 rfl) (ww hw 284 rfl) (by decide) (c_infl2 l Z a0 hw h1 a d_1 ky_1 N ((vs ++ List.replicate pd (Value.int 0))) y e0 e1 cp wf hcp hwf (hz0') hzM hY hy0 hy16 hs0 hv0 hq0 hs1 hv1 hq1 hd0 hd1 hd2 hd3 hb1 hb2 scp sad shi slo sfm ge_a (xa.keep K1) F1_0 F1_1 F1_2 F1_3 F1_4) pd_16 d47_53 rfl ?_
  rintro _ h6 ⟨d_6, ky_6, rfl, K6, ge_d_6, sz_d_6, F6_0, F6_1, F6_2, F6_3, F6_4, F6_5⟩
  have sz7 : h.size ≤ d_6 := Nat.le_trans K2.1 sz_d_6
  have K8 := K2.trans K6 (allS (Or.inl (List.mem_of_getElem? (i := 0) rfl)) all0)
  show Go _ _ _ _ _ _ _ _ _ _ _ _ 56 _ []
  refine Go.aloadN (pc' := 57) d47_56 rfl rfl rfl ?_
  refine Go.getfield (pc' := 60) (host := "") (Or.inl (ww hw 57 rfl)) Via.refl F6_0 d47_57 rfl ?_
  refine Go.aloadN (pc' := 61) d47_60 rfl rfl rfl ?_
  refine Go.dup (pc' := 62) d47_61 rfl rfl ?_
  refine Go.getfield (pc' := 65) (host := "") (Or.inl (ww hw 104 rfl)) Via.refl F6_2 d47_62 rfl ?_
  refine Go.dupX1 (pc' := 66) d47_65 rfl rfl rfl ?_
  refine Go.iconst (pc' := 67) (v := 1) d47_66 rfl rfl ?_
  refine Go.iadd (pc' := 68) d47_67 rfl ?_
  show Go _ _ _ _ _ _ _ _ _ _ _ _ 68 _ [(.int 3), (.ref a), (.int 2), (.ref d_6)]
  refine Go.putfield (pc' := 71) (host := "") (Or.inl (ww hw 104 rfl)) Via.refl F6_2 ((xa.keep K1).keep K6) (Or.inl (ww hw 105 rfl)) (ww hw 33 rfl) (ty := .int) (by decide) rfl rfl ge_a d47_68 rfl ?_
  intro h9 W10
  have K11 := K8.wr W10 (Or.inl (List.mem_of_getElem? (i := 0) rfl))
  have f12 := F6_2.same W10
  refine Go.iloadN (pc' := 72) d47_71 rfl rfl ?_
  have ne13 := (Nat.ne_of_lt (Nat.lt_of_lt_of_le (xa.keep K1).lt sz_d_6))
  refine Go.callS (cells' := 2) (slots' := 32) (pc' := 75) [(.ref d_6), (.int 2), (.int c)] [] (ww hw 292 rfl) (ww hw 293 rfl) (ww hw 128 rfl) (ww hw 294 rfl) (by decide) (c_putSB l Z a0 hw h9 d_6 ky_6 y ([(loB e0), (hiB e0), (loB e1), (hiB e1), (.int 0), (.int 0)]) (2 : Int32) (4 : Int32) (5 : Int32) c wf (by decide) (by decide) (by decide) (by decide) phz0 phz1 (nl rfl) (nl rfl) (by decide) phi hwf sad shi slo sfm ge_d_6 ((F6_4.other W10 (Ne.symm ne13)))) pd_6 d47_72 rfl ?_
  rintro _ h14 ⟨rfl, K14, F14_0⟩
  have K15 := K11.trans K14 (allS (Or.inr sz7) all0)
  have VL16 : AB Z h14 d_6 ky_6 y [(loB e0), (hiB e0), (loB e1), (hiB e1), (loB c), (hiB c)] (.int 0) := F14_0
  show Go _ _ _ _ _ _ _ _ _ _ _ _ 75 _ []
  refine Go.aloadN (pc' := 76) d47_75 rfl rfl rfl ?_
  have f17 := ((F6_0.other W10 (Or.inr (sn_6 hw))).keep K14 (ninS ne13 nin0))
  have f18 := ((F6_1.other W10 (Or.inr (sn_7 hw))).keep K14 (ninS ne13 nin0))
  have f19 := ((F6_3.other W10 (Or.inr (sn_8 hw))).keep K14 (ninS ne13 nin0))
  exact Go.retR rfl rfl rfl rfl d47_76 ⟨d_6, ky_6, rfl, K15, ge_d_6, sz7, f17, f18, (f12.keep K14 (ninS ne13 nin0)), f19, VL16, ((F6_5.wr W10).keep K14)⟩
theorem c_apUG3 (hw : HW a0 Z) (h : Heap) (a b : Addr) (kb : ClassId) (z : Int32) (vs : List Value) (N : Int32) (pd : Nat) (y e0 e1 e2 c cp : Int32) (wf : Value) (hcp : ¬ (cp = (0 : Int32))) (hwf : wf.isRef = true) (hcl : (255 : Int32) < c) (hgr : (0 : Int32) < ((4 : Int32) - (z >>> ((0 : Int32) &&& 31)))) (h1 : (((4 : Int32) <<< ((0 : Int32) &&& 31)) - z) < (z + (2 : Int32))) (h2 : (0 : Int32) < (z + (z + (2 : Int32)))) (h3 : ¬ ((2147483639 : Int32) < (z + (z + (2 : Int32))))) (h4 : ¬ ((z + (z + (2 : Int32))) = (2147483647 : Int32))) (hNe : (((z + (z + (2 : Int32))) >>> ((0 : Int32) &&& 31)) <<< ((0 : Int32) &&& 31)) = N) (hNz : ¬ (N = z)) (hN0 : ¬ (N < (0 : Int32))) (hN16 : N.toNatClampNeg ≤ 16) (hNle : ¬ (N < z)) (hz0 : ¬ (z < (0 : Int32))) (hvz : vs.length ≤ z.toNatClampNeg) (hz0' : ¬ (N < (0 : Int32))) (hzM : N < (1073741823 : Int32)) (hY : (N <<< ((1 : Int32) &&& 31)) = y) (hy0 : ¬ (y < (0 : Int32))) (hy16 : y.toNatClampNeg ≤ 16) (hs0 : (0 : Int32) < N) (hv0 : (vs ++ List.replicate pd (Value.int 0)).getD 0 (.int 0) = .int e0.toInt8.toInt32) (hq0 : (e0.toInt8.toInt32 &&& (255 : Int32)) = e0) (hs1 : (1 : Int32) < N) (hv1 : (vs ++ List.replicate pd (Value.int 0)).getD 1 (.int 0) = .int e1.toInt8.toInt32) (hq1 : (e1.toInt8.toInt32 &&& (255 : Int32)) = e1) (hs2 : (2 : Int32) < N) (hv2 : (vs ++ List.replicate pd (Value.int 0)).getD 2 (.int 0) = .int e2.toInt8.toInt32) (hq2 : (e2.toInt8.toInt32 &&& (255 : Int32)) = e2) (hd0 : (0 : Int32) < y) (hd1 : (1 : Int32) < y) (hd2 : (2 : Int32) < y) (hd3 : (3 : Int32) < y) (hd4 : (4 : Int32) < y) (hd5 : (5 : Int32) < y) (hb1 : ¬ ((((y >>> ((1 : Int32) &&& 31)) ||| (0 : Int32)) ||| (3 : Int32)) < (0 : Int32))) (hb2 : ¬ (((y >>> ((1 : Int32) &&& 31)) - (0 : Int32)) < (3 : Int32))) (phz0 : (6 : Int32) < y) (phz1 : (7 : Int32) < y) (phi : (3 : Int32) < (y >>> ((1 : Int32) &&& 31))) (scp : Zcp Z (.int cp)) (sad : Zad Z (.int 1)) (shi : Zhi Z (.int 0)) (slo : Zlo Z (.int 8)) (sfm : Zfm Z wf) (ge_a : n0 ≤ a) (ge_b : n0 ≤ b) (xa : EB Z h a) (xb : EA Z h b) (pf0 : FV Z h a (.ref b)) (pf1 : FK Z h a (.int 0)) (pf2 : FN Z h a (.int 3)) (pf3 : FM Z h a (.int 0)) (v : AB Z h b kb z vs (.int 0)) :
    Con l M_25 q47 2 (some (.object "java/lang/AbstractStringBuilder")) (rm4 6 2 32 89) Z n0 #[(.ref a), (.int c)] h (fun v h' => ∃ d : Addr, ∃ ky : ClassId, v = some (.ref a) ∧ Keep h h' [a, b] ∧ n0 ≤ d ∧ h.size ≤ d ∧ FV Z h' a (.ref d) ∧ FK Z h' a (.int 1) ∧ FN Z h' a (.int 4) ∧ FM Z h' a (.int 0) ∧ AB Z h' d ky y [(loB e0), (hiB e0), (loB e1), (hiB e1), (loB e2), (hiB e2), (loB c), (hiB c)] (.int 0) ∧ EA Z h' d) := by
  refine Con.of_go (plainFor_of_name pn_4) (Ls := #[.val (.ref a), .val (.int c)]) ?_
  refine Go.aloadN (pc' := 1) d47_0 rfl rfl rfl ?_
  refine Go.aloadN (pc' := 2) d47_1 rfl rfl rfl ?_
  refine Go.getfield (pc' := 5) (host := "") (Or.inl (ww hw 104 rfl)) Via.refl pf2 d47_2 rfl ?_
  refine Go.iconst (pc' := 6) (v := 1) d47_5 rfl rfl ?_
  refine Go.iadd (pc' := 7) d47_6 rfl ?_
  show Go _ _ _ _ _ _ _ _ _ _ _ _ 7 _ [(.int 4), (.ref a)]
  refine Go.callP (cells' := 1) (slots' := 16) (pc' := 10) [(.int 4)] [] xa (ww hw 147 rfl) (ww hw 148 rfl) (own_selP (ww hw 150 rfl) (ww hw 148 rfl) (ww hw 149 rfl) (by decide)) (ww hw 149 rfl) (ww hw 53 rfl) (ww hw 151 rfl) (by decide) (c_ensG0 l Z a0 hw h a (4 : Int32) (3 : Int32) b kb z vs N pd hgr h1 h2 h3 h4 hNe hNz (hz0') hN16 hNle hz0 hvz ge_a xa pf0 pf1 pf2 pf3 v) pd_14 d47_7 rfl ?_
  rintro _ h1 ⟨d_1, ky_1, rfl, K1, ge_d_1, sz_d_1, F1_0, F1_1, F1_2, F1_3, F1_4, F1_5⟩
  have K2 := (Keep.refl h [a, b]).trans K1 (allS (Or.inl (List.mem_of_getElem? (i := 0) rfl)) all0)
  show Go _ _ _ _ _ _ _ _ _ _ _ _ 10 _ []
  refine Go.aloadN (pc' := 11) d47_10 rfl rfl rfl ?_
  refine Go.callV (cells' := 1) (slots' := 16) (pc' := 14) [] [] (xa.keep K1) (ww hw 238 rfl) (ww hw 107 rfl) (nfS (ww hw 109 rfl)) (ww hw 109 rfl) (ww hw 108 rfl) (ww hw 53 rfl) (ww hw 110 rfl) (by decide) (c_asbLat0 l Z a0 hw h1 a cp hcp scp F1_1) pd_10 d47_11 rfl ?_
  rintro _ _ ⟨rfl, rfl⟩
  show Go _ _ _ _ _ _ _ _ _ _ _ _ 14 _ [(.int 1)]
  refine Go.ifNo (pc' := 17) d47_14 (XT.i0_eq_f (by decide)) rfl ?_
  refine Go.iloadN (pc' := 18) d47_17 rfl rfl ?_
  refine Go.callS (cells' := 1) (slots' := 16) (pc' := 21) [(.int c)] [] (ww hw 239 rfl) (ww hw 240 rfl) (ww hw 73 rfl) (ww hw 241 rfl) (by decide) (c_canU l Z a0 hw h1 c hcl) pd_15 d47_18 rfl ?_
  rintro _ _ ⟨rfl, rfl⟩
  show Go _ _ _ _ _ _ _ _ _ _ _ _ 21 _ [(.int 0)]
  refine Go.ifYes (pc' := 45) d47_21 (XT.i0_eq_t (by decide)) (by decide) (by decide) ?_
  refine Go.aloadN (pc' := 46) d47_45 rfl rfl rfl ?_
  refine Go.callV (cells' := 1) (slots' := 16) (pc' := 49) [] [] (xa.keep K1) (ww hw 238 rfl) (ww hw 107 rfl) (nfS (ww hw 109 rfl)) (ww hw 109 rfl) (ww hw 108 rfl) (ww hw 53 rfl) (ww hw 110 rfl) (by decide) (c_asbLat0 l Z a0 hw h1 a cp hcp scp F1_1) pd_10 d47_46 rfl ?_
  rintro _ _ ⟨rfl, rfl⟩
  show Go _ _ _ _ _ _ _ _ _ _ _ _ 49 _ [(.int 1)]
  refine Go.ifNo (pc' := 52) d47_49 (XT.i0_eq_f (by decide)) rfl ?_
  refine Go.aloadN (pc' := 53) d47_52 rfl rfl rfl ?_
  refine Go.callP (cells' := 2) (slots' := 32) (pc' := 56) [] [] (xa.keep K1) (ww hw 280 rfl) (ww hw 281 rfl) (own_selP (ww hw 283 rfl) (ww hw 281 rfl) (ww hw 282 rfl) (by decide)) (ww hw 282 rfl) (ww hw 53 rfl) (ww hw 284 rfl) (by decide) (c_infl3 l Z a0 hw h1 a d_1 ky_1 N ((vs ++ List.replicate pd (Value.int 0))) y e0 e1 e2 cp wf hcp hwf (hz0') hzM hY hy0 hy16 hs0 hv0 hq0 hs1 hv1 hq1 hs2 hv2 hq2 hd0 hd1 hd2 hd3 hd4 hd5 hb1 hb2 scp sad shi slo sfm ge_a (xa.keep K1) F1_0 F1_1 F1_2 F1_3 F1_4) pd_16 d47_53 rfl ?_
  rintro _ h6 ⟨d_6, ky_6, rfl, K6, ge_d_6, sz_d_6, F6_0, F6_1, F6_2, F6_3, F6_4, F6_5⟩
  have sz7 : h.size ≤ d_6 := Nat.le_trans K2.1 sz_d_6
  have K8 := K2.trans K6 (allS (Or.inl (List.mem_of_getElem? (i := 0) rfl)) all0)
  show Go _ _ _ _ _ _ _ _ _ _ _ _ 56 _ []
  refine Go.aloadN (pc' := 57) d47_56 rfl rfl rfl ?_
  refine Go.getfield (pc' := 60) (host := "") (Or.inl (ww hw 57 rfl)) Via.refl F6_0 d47_57 rfl ?_
  refine Go.aloadN (pc' := 61) d47_60 rfl rfl rfl ?_
  refine Go.dup (pc' := 62) d47_61 rfl rfl ?_
  refine Go.getfield (pc' := 65) (host := "") (Or.inl (ww hw 104 rfl)) Via.refl F6_2 d47_62 rfl ?_
  refine Go.dupX1 (pc' := 66) d47_65 rfl rfl rfl ?_
  refine Go.iconst (pc' := 67) (v := 1) d47_66 rfl rfl ?_
  refine Go.iadd (pc' := 68) d47_67 rfl ?_
  show Go _ _ _ _ _ _ _ _ _ _ _ _ 68 _ [(.int 4), (.ref a), (.int 3), (.ref d_6)]
  refine Go.putfield (pc' := 71) (host := "") (Or.inl (ww hw 104 rfl)) Via.refl F6_2 ((xa.keep K1).keep K6) (Or.inl (ww hw 105 rfl)) (ww hw 33 rfl) (ty := .int) (by decide) rfl rfl ge_a d47_68 rfl ?_
  intro h9 W10
  have K11 := K8.wr W10 (Or.inl (List.mem_of_getElem? (i := 0) rfl))
  have f12 := F6_2.same W10
  refine Go.iloadN (pc' := 72) d47_71 rfl rfl ?_
  have ne13 := (Nat.ne_of_lt (Nat.lt_of_lt_of_le (xa.keep K1).lt sz_d_6))
  refine Go.callS (cells' := 2) (slots' := 32) (pc' := 75) [(.ref d_6), (.int 3), (.int c)] [] (ww hw 292 rfl) (ww hw 293 rfl) (ww hw 128 rfl) (ww hw 294 rfl) (by decide) (c_putSB l Z a0 hw h9 d_6 ky_6 y ([(loB e0), (hiB e0), (loB e1), (hiB e1), (loB e2), (hiB e2), (.int 0), (.int 0)]) (3 : Int32) (6 : Int32) (7 : Int32) c wf (by decide) (by decide) (by decide) (by decide) phz0 phz1 (nl rfl) (nl rfl) (by decide) phi hwf sad shi slo sfm ge_d_6 ((F6_4.other W10 (Ne.symm ne13)))) pd_6 d47_72 rfl ?_
  rintro _ h14 ⟨rfl, K14, F14_0⟩
  have K15 := K11.trans K14 (allS (Or.inr sz7) all0)
  have VL16 : AB Z h14 d_6 ky_6 y [(loB e0), (hiB e0), (loB e1), (hiB e1), (loB e2), (hiB e2), (loB c), (hiB c)] (.int 0) := F14_0
  show Go _ _ _ _ _ _ _ _ _ _ _ _ 75 _ []
  refine Go.aloadN (pc' := 76) d47_75 rfl rfl rfl ?_
  have f17 := ((F6_0.other W10 (Or.inr (sn_6 hw))).keep K14 (ninS ne13 nin0))
  have f18 := ((F6_1.other W10 (Or.inr (sn_7 hw))).keep K14 (ninS ne13 nin0))
  have f19 := ((F6_3.other W10 (Or.inr (sn_8 hw))).keep K14 (ninS ne13 nin0))
  exact Go.retR rfl rfl rfl rfl d47_76 ⟨d_6, ky_6, rfl, K15, ge_d_6, sz7, f17, f18, (f12.keep K14 (ninS ne13 nin0)), f19, VL16, ((F6_5.wr W10).keep K14)⟩
theorem c_apCN (hw : HW a0 Z) (h : Heap) (a b : Addr) (kb : ClassId) (z : Int32) (vs : List Value) (n u w c cp : Int32) (wf : Value) (hcp : ¬ (cp = (0 : Int32))) (hwf : wf.isRef = true) (hle : ¬ ((0 : Int32) < ((n + (1 : Int32)) - (z >>> ((1 : Int32) &&& 31))))) (phu : (n <<< ((1 : Int32) &&& 31)) = u) (phw1 : (u + (1 : Int32)) = w) (phu0 : ¬ (u < (0 : Int32))) (phw0 : ¬ (w < (0 : Int32))) (phz0 : u < z) (phz1 : w < z) (phl0 : u.toNatClampNeg < vs.length) (phl1 : w.toNatClampNeg < vs.length) (php0 : ¬ (n < (0 : Int32))) (phi : n < (z >>> ((1 : Int32) &&& 31))) (scp : Zcp Z (.int cp)) (sad : Zad Z (.int 1)) (shi : Zhi Z (.int 0)) (slo : Zlo Z (.int 8)) (sfm : Zfm Z wf) (ge_a : n0 ≤ a) (ge_b : n0 ≤ b) (xa : EB Z h a) (xb : EA Z h b) (pf0 : FV Z h a (.ref b)) (pf1 : FK Z h a (.int 1)) (pf2 : FN Z h a (.int n)) (pf3 : FM Z h a (.int 0)) (v : AB Z h b kb z vs (.int 0)) :
    Con l M_25 q47 2 (some (.object "java/lang/AbstractStringBuilder")) (rm4 6 2 32 89) Z n0 #[(.ref a), (.int c)] h (fun v h' => v = some (.ref a) ∧ Keep h h' [a, b] ∧ FV Z h' a (.ref b) ∧ FK Z h' a (.int 1) ∧ FN Z h' a (.int (n + (1 : Int32))) ∧ FM Z h' a (.int 0) ∧ AB Z h' b kb z ((vs.set u.toNatClampNeg (loB c)).set w.toNatClampNeg (hiB c)) (.int 0) ∧ EA Z h' b) := by
  refine Con.of_go (plainFor_of_name pn_4) (Ls := #[.val (.ref a), .val (.int c)]) ?_
  refine Go.aloadN (pc' := 1) d47_0 rfl rfl rfl ?_
  refine Go.aloadN (pc' := 2) d47_1 rfl rfl rfl ?_
  refine Go.getfield (pc' := 5) (host := "") (Or.inl (ww hw 104 rfl)) Via.refl pf2 d47_2 rfl ?_
  refine Go.iconst (pc' := 6) (v := 1) d47_5 rfl rfl ?_
  refine Go.iadd (pc' := 7) d47_6 rfl ?_
  refine Go.callP (cells' := 0) (slots' := 0) (pc' := 10) [(.int (n + (1 : Int32)))] [] xa (ww hw 147 rfl) (ww hw 148 rfl) (own_selP (ww hw 150 rfl) (ww hw 148 rfl) (ww hw 149 rfl) (by decide)) (ww hw 149 rfl) (ww hw 53 rfl) (ww hw 151 rfl) (by decide) (c_ensN1 l Z a0 hw h a ((n + (1 : Int32))) b kb z vs hle pf0 pf1 v) pd_14 d47_7 rfl ?_
  rintro _ _ ⟨rfl, rfl⟩
  show Go _ _ _ _ _ _ _ _ _ _ _ _ 10 _ []
  refine Go.aloadN (pc' := 11) d47_10 rfl rfl rfl ?_
  refine Go.callV (cells' := 0) (slots' := 0) (pc' := 14) [] [] xa (ww hw 238 rfl) (ww hw 107 rfl) (nfS (ww hw 109 rfl)) (ww hw 109 rfl) (ww hw 108 rfl) (ww hw 53 rfl) (ww hw 110 rfl) (by decide) (c_asbLat1 l Z a0 hw h a cp hcp scp pf1) pd_10 d47_11 rfl ?_
  rintro _ _ ⟨rfl, rfl⟩
  show Go _ _ _ _ _ _ _ _ _ _ _ _ 14 _ [(.int 0)]
  refine Go.ifYes (pc' := 45) d47_14 (XT.i0_eq_t (by decide)) (by decide) (by decide) ?_
  refine Go.aloadN (pc' := 46) d47_45 rfl rfl rfl ?_
  refine Go.callV (cells' := 0) (slots' := 0) (pc' := 49) [] [] xa (ww hw 238 rfl) (ww hw 107 rfl) (nfS (ww hw 109 rfl)) (ww hw 109 rfl) (ww hw 108 rfl) (ww hw 53 rfl) (ww hw 110 rfl) (by decide) (c_asbLat1 l Z a0 hw h a cp hcp scp pf1) pd_10 d47_46 rfl ?_
  rintro _ _ ⟨rfl, rfl⟩
  show Go _ _ _ _ _ _ _ _ _ _ _ _ 49 _ [(.int 0)]
  refine Go.ifYes (pc' := 56) d47_49 (XT.i0_eq_t (by decide)) (by decide) (by decide) ?_
  refine Go.aloadN (pc' := 57) d47_56 rfl rfl rfl ?_
  refine Go.getfield (pc' := 60) (host := "") (Or.inl (ww hw 57 rfl)) Via.refl pf0 d47_57 rfl ?_
  refine Go.aloadN (pc' := 61) d47_60 rfl rfl rfl ?_
  refine Go.dup (pc' := 62) d47_61 rfl rfl ?_
  refine Go.getfield (pc' := 65) (host := "") (Or.inl (ww hw 104 rfl)) Via.refl pf2 d47_62 rfl ?_
  refine Go.dupX1 (pc' := 66) d47_65 rfl rfl rfl ?_
  refine Go.iconst (pc' := 67) (v := 1) d47_66 rfl rfl ?_
  refine Go.iadd (pc' := 68) d47_67 rfl ?_
  refine Go.putfield (pc' := 71) (host := "") (Or.inl (ww hw 104 rfl)) Via.refl pf2 xa (Or.inl (ww hw 105 rfl)) (ww hw 33 rfl) (ty := .int) (by decide) rfl rfl ge_a d47_68 rfl ?_
  intro h4 W5
  have K6 := (Keep.refl h [a, b]).wr W5 (Or.inl (List.mem_of_getElem? (i := 0) rfl))
  have f7 := pf2.same W5
  refine Go.iloadN (pc' := 72) d47_71 rfl rfl ?_
  have ne8 := ne_exa (xb.wr W5) (xa.wr W5) (by decide)
  refine Go.callS (cells' := 0) (slots' := 0) (pc' := 75) [(.ref b), (.int n), (.int c)] [] (ww hw 292 rfl) (ww hw 293 rfl) (ww hw 128 rfl) (ww hw 294 rfl) (by decide) (c_putSB l Z a0 hw h4 b kb z vs n u w c wf phu phw1 phu0 phw0 phz0 phz1 phl0 phl1 php0 phi hwf sad shi slo sfm ge_b (v.other W5 ne8)) pd_6 d47_72 rfl ?_
  rintro _ h9 ⟨rfl, K9, F9_0⟩
  have K10 := K6.trans K9 (allS (Or.inl (List.mem_of_getElem? (i := 1) rfl)) all0)
  show Go _ _ _ _ _ _ _ _ _ _ _ _ 75 _ []
  refine Go.aloadN (pc' := 76) d47_75 rfl rfl rfl ?_
  have f11 := ((pf0.other W5 (Or.inr (sn_6 hw))).keep K9 (ninS (Ne.symm ne8) nin0))
  have f12 := ((pf1.other W5 (Or.inr (sn_7 hw))).keep K9 (ninS (Ne.symm ne8) nin0))
  have f13 := ((pf3.other W5 (Or.inr (sn_8 hw))).keep K9 (ninS (Ne.symm ne8) nin0))
  exact Go.retR rfl rfl rfl rfl d47_76 ⟨rfl, K10, f11, f12, (f7.keep K9 (ninS (Ne.symm ne8) nin0)), f13, F9_0, ((xb.wr W5).keep K9)⟩
theorem c_apCG (hw : HW a0 Z) (h : Heap) (a b : Addr) (kb : ClassId) (z : Int32) (vs : List Value) (n N : Int32) (pd : Nat) (u w c cp : Int32) (wf : Value) (hcp : ¬ (cp = (0 : Int32))) (hwf : wf.isRef = true) (hgr : (0 : Int32) < ((n + (1 : Int32)) - (z >>> ((1 : Int32) &&& 31)))) (h1 : (((n + (1 : Int32)) <<< ((1 : Int32) &&& 31)) - z) < (z + (4 : Int32))) (h2 : (0 : Int32) < (z + (z + (4 : Int32)))) (h3 : ¬ ((2147483639 : Int32) < (z + (z + (4 : Int32))))) (h4 : ¬ ((z + (z + (4 : Int32))) = (2147483647 : Int32))) (hNe : (((z + (z + (4 : Int32))) >>> ((1 : Int32) &&& 31)) <<< ((1 : Int32) &&& 31)) = N) (hNz : ¬ (N = z)) (hN0 : ¬ (N < (0 : Int32))) (hN16 : N.toNatClampNeg ≤ 16) (hNle : ¬ (N < z)) (hz0 : ¬ (z < (0 : Int32))) (hvz : vs.length ≤ z.toNatClampNeg) (phu : (n <<< ((1 : Int32) &&& 31)) = u) (phw1 : (u + (1 : Int32)) = w) (phu0 : ¬ (u < (0 : Int32))) (phw0 : ¬ (w < (0 : Int32))) (phz0 : u < N) (phz1 : w < N) (phl0 : u.toNatClampNeg < (vs ++ List.replicate pd (Value.int 0)).length) (phl1 : w.toNatClampNeg < (vs ++ List.replicate pd (Value.int 0)).length) (php0 : ¬ (n < (0 : Int32))) (phi : n < (N >>> ((1 : Int32) &&& 31))) (scp : Zcp Z (.int cp)) (sad : Zad Z (.int 1)) (shi : Zhi Z (.int 0)) (slo : Zlo Z (.int 8)) (sfm : Zfm Z wf) (ge_a : n0 ≤ a) (ge_b : n0 ≤ b) (xa : EB Z h a) (xb : EA Z h b) (pf0 : FV Z h a (.ref b)) (pf1 : FK Z h a (.int 1)) (pf2 : FN Z h a (.int n)) (pf3 : FM Z h a (.int 0)) (v : AB Z h b kb z vs (.int 0)) :
    Con l M_25 q47 2 (some (.object "java/lang/AbstractStringBuilder")) (rm4 6 2 32 89) Z n0 #[(.ref a), (.int c)] h (fun v h' => ∃ d : Addr, ∃ ky : ClassId, v = some (.ref a) ∧ Keep h h' [a, b] ∧ n0 ≤ d ∧ h.size ≤ d ∧ FV Z h' a (.ref d) ∧ FK Z h' a (.int 1) ∧ FN Z h' a (.int (n + (1 : Int32))) ∧ FM Z h' a (.int 0) ∧ AB Z h' d ky N (((vs ++ List.replicate pd (Value.int 0)).set u.toNatClampNeg (loB c)).set w.toNatClampNeg (hiB c)) (.int 0) ∧ EA Z h' d) := by
  refine Con.of_go (plainFor_of_name pn_4) (Ls := #[.val (.ref a), .val (.int c)]) ?_
  refine Go.aloadN (pc' := 1) d47_0 rfl rfl rfl ?_
  refine Go.aloadN (pc' := 2) d47_1 rfl rfl rfl ?_
  refine Go.getfield (pc' := 5) (host := "") (Or.inl (ww hw 104 rfl)) Via.refl pf2 d47_2 rfl ?_
  refine Go.iconst (pc' := 6) (v := 1) d47_5 rfl rfl ?_
  refine Go.iadd (pc' := 7) d47_6 rfl ?_
  refine Go.callP (cells' := 1) (slots' := 16) (pc' := 10) [(.int (n + (1 : Int32)))] [] xa (ww hw 147 rfl) (ww hw 148 rfl) (own_selP (ww hw 150 rfl) (ww hw 148 rfl) (ww hw 149 rfl) (by decide)) (ww hw 149 rfl) (ww hw 53 rfl) (ww hw 151 rfl) (by decide) (c_ensG1 l Z a0 hw h a ((n + (1 : Int32))) n b kb z vs N pd hgr h1 h2 h3 h4 hNe hNz hN0 hN16 hNle hz0 hvz ge_a xa pf0 pf1 pf2 pf3 v) pd_14 d47_7 rfl ?_
  rintro _ h1 ⟨d_1, ky_1, rfl, K1, ge_d_1, sz_d_1, F1_0, F1_1, F1_2, F1_3, F1_4, F1_5⟩
  have K2 := (Keep.refl h [a, b]).trans K1 (allS (Or.inl (List.mem_of_getElem? (i := 0) rfl)) all0)
  show Go _ _ _ _ _ _ _ _ _ _ _ _ 10 _ []
  refine Go.aloadN (pc' := 11) d47_10 rfl rfl rfl ?_
  refine Go.callV (cells' := 1) (slots' := 16) (pc' := 14) [] [] (xa.keep K1) (ww hw 238 rfl) (ww hw 107 rfl) (nfS (ww hw 109 rfl)) (ww hw 109 rfl) (ww hw 108 rfl) (ww hw 53 rfl) (ww hw 110 rfl) (by decide) (c_asbLat1 l Z a0 hw h1 a cp hcp scp F1_1) pd_10 d47_11 rfl ?_
  rintro _ _ ⟨rfl, rfl⟩
  show Go _ _ _ _ _ _ _ _ _ _ _ _ 14 _ [(.int 0)]
  refine Go.ifYes (pc' := 45) d47_14 (XT.i0_eq_t (by decide)) (by decide) (by decide) ?_
  refine Go.aloadN (pc' := 46) d47_45 rfl rfl rfl ?_
  refine Go.callV (cells' := 1) (slots' := 16) (pc' := 49) [] [] (xa.keep K1) (ww hw 238 rfl) (ww hw 107 rfl) (nfS (ww hw 109 rfl)) (ww hw 109 rfl) (ww hw 108 rfl) (ww hw 53 rfl) (ww hw 110 rfl) (by decide) (c_asbLat1 l Z a0 hw h1 a cp hcp scp F1_1) pd_10 d47_46 rfl ?_
  rintro _ _ ⟨rfl, rfl⟩
  show Go _ _ _ _ _ _ _ _ _ _ _ _ 49 _ [(.int 0)]
  refine Go.ifYes (pc' := 56) d47_49 (XT.i0_eq_t (by decide)) (by decide) (by decide) ?_
  refine Go.aloadN (pc' := 57) d47_56 rfl rfl rfl ?_
  refine Go.getfield (pc' := 60) (host := "") (Or.inl (ww hw 57 rfl)) Via.refl F1_0 d47_57 rfl ?_
  refine Go.aloadN (pc' := 61) d47_60 rfl rfl rfl ?_
  refine Go.dup (pc' := 62) d47_61 rfl rfl ?_
  refine Go.getfield (pc' := 65) (host := "") (Or.inl (ww hw 104 rfl)) Via.refl F1_2 d47_62 rfl ?_
  refine Go.dupX1 (pc' := 66) d47_65 rfl rfl rfl ?_
  refine Go.iconst (pc' := 67) (v := 1) d47_66 rfl rfl ?_
  refine Go.iadd (pc' := 68) d47_67 rfl ?_
  refine Go.putfield (pc' := 71) (host := "") (Or.inl (ww hw 104 rfl)) Via.refl F1_2 (xa.keep K1) (Or.inl (ww hw 105 rfl)) (ww hw 33 rfl) (ty := .int) (by decide) rfl rfl ge_a d47_68 rfl ?_
  intro h5 W6
  have K7 := K2.wr W6 (Or.inl (List.mem_of_getElem? (i := 0) rfl))
  have f8 := F1_2.same W6
  refine Go.iloadN (pc' := 72) d47_71 rfl rfl ?_
  have ne9 := (Nat.ne_of_lt (Nat.lt_of_lt_of_le xa.lt sz_d_1))
  refine Go.callS (cells' := 1) (slots' := 16) (pc' := 75) [(.ref d_1), (.int n), (.int c)] [] (ww hw 292 rfl) (ww hw 293 rfl) (ww hw 128 rfl) (ww hw 294 rfl) (by decide) (c_putSB l Z a0 hw h5 d_1 ky_1 N ((vs ++ List.replicate pd (Value.int 0))) n u w c wf phu phw1 phu0 phw0 phz0 phz1 phl0 phl1 php0 phi hwf sad shi slo sfm ge_d_1 ((F1_4.other W6 (Ne.symm ne9)))) pd_6 d47_72 rfl ?_
  rintro _ h10 ⟨rfl, K10, F10_0⟩
  have K11 := K7.trans K10 (allS (Or.inr sz_d_1) all0)
  show Go _ _ _ _ _ _ _ _ _ _ _ _ 75 _ []
  refine Go.aloadN (pc' := 76) d47_75 rfl rfl rfl ?_
  have f12 := ((F1_0.other W6 (Or.inr (sn_6 hw))).keep K10 (ninS ne9 nin0))
  have f13 := ((F1_1.other W6 (Or.inr (sn_7 hw))).keep K10 (ninS ne9 nin0))
  have f14 := ((F1_3.other W6 (Or.inr (sn_8 hw))).keep K10 (ninS ne9 nin0))
  exact Go.retR rfl rfl rfl rfl d47_76 ⟨d_1, ky_1, rfl, K11, ge_d_1, sz_d_1, f12, f13, (f8.keep K10 (ninS ne9 nin0)), f14, F10_0, ((F1_5.wr W6).keep K10)⟩
theorem c_strLen2 (hw : HW a0 Z) (h : Heap) (a b : Addr) (kb : ClassId) (x0 x1 cp : Int32) (hcp : ¬ (cp = (0 : Int32))) (scp : Zcp Z (.int cp)) (e : ES Z h a) (f : GK Z h a (.int 0)) (g : GV Z h a (.ref b)) (v : AB Z h b kb (2 : Int32) [(.int x0), (.int x1)] (.int 0)) :
    Con l M_26 q6 1 (some .int) (rm4 1 0 0 13) Z n0 #[(.ref a)] h (fun v h' => v = some (.int 2) ∧ h = h') := by
  refine Con.of_go (plainFor_of_name pn_0) (Ls := #[.val (.ref a)]) ?_
  refine Go.aloadN (pc' := 1) d6_0 rfl rfl rfl ?_
  refine Go.getfield (pc' := 4) (host := "") (Or.inl (ww hw 26 rfl)) Via.refl g d6_1 rfl ?_
  refine Go.arraylength (pc' := 5) v d6_4 rfl ?_
  refine Go.aloadN (pc' := 6) d6_5 rfl rfl rfl ?_
  refine Go.callV (cells' := 0) (slots' := 0) (pc' := 9) [] [(.int 2)] e (ww hw 40 rfl) (ww hw 41 rfl) (nfS (ww hw 43 rfl)) (ww hw 43 rfl) (ww hw 42 rfl) (ww hw 8 rfl) (ww hw 44 rfl) (by decide) (c_coder l Z a0 hw h a cp hcp scp f) pd_17 d6_6 rfl ?_
  rintro _ _ ⟨rfl, rfl⟩
  show Go _ _ _ _ _ _ _ _ _ _ _ _ 9 _ [(.int 0), (.int 2)]
  refine Go.ishr (pc' := 10) d6_9 rfl ?_
  show Go _ _ _ _ _ _ _ _ _ _ _ _ 10 _ [(.int 2)]
  exact Go.retI rfl d6_10 ⟨rfl, rfl⟩
theorem c_iin0 (hw : HW a0 Z) (h : Heap) (a s : Addr) (cp : Int32) (hcp : ¬ (cp = (0 : Int32))) (scp : Zcp Z (.int cp)) (f : FK Z h a (.int 0)) (xs : ES Z h s) (fs : GK Z h s (.int 0)) :
    Con l M_27 q29 2 none (rm4 1 0 0 13) Z n0 #[(.ref a), (.ref s)] h (fun v h' => v = none ∧ h = h') := by
  refine Con.of_go (plainFor_of_name pn_4) (Ls := #[.val (.ref a), .val (.ref s)]) ?_
  refine Go.old (fun old1 => ?_)
  refine Go.getstatic (pc' := 3) (host := "") (Or.inl (ww hw 56 rfl)) Via.refl (scp.ext old1.2) d29_0 rfl ?_
  refine Go.ifNo (pc' := 6) d29_3 (XT.i0_eq_f hcp) rfl ?_
  refine Go.aloadN (pc' := 7) d29_6 rfl rfl rfl ?_
  refine Go.getfield (pc' := 10) (host := "") (Or.inl (ww hw 59 rfl)) Via.refl f d29_7 rfl ?_
  refine Go.aloadN (pc' := 11) d29_10 rfl rfl rfl ?_
  refine Go.callV (cells' := 0) (slots' := 0) (pc' := 14) [] [(.int 0)] xs (ww hw 162 rfl) (ww hw 41 rfl) (nfS (ww hw 43 rfl)) (ww hw 43 rfl) (ww hw 42 rfl) (ww hw 8 rfl) (ww hw 44 rfl) (by decide) (c_coder l Z a0 hw h s cp hcp scp fs) pd_17 d29_11 rfl ?_
  rintro _ _ ⟨rfl, rfl⟩
  show Go _ _ _ _ _ _ _ _ _ _ _ _ 14 _ [(.int 0), (.int 0)]
  refine Go.icmpYes (pc' := 21) d29_14 (XT.ii_eq_t (by decide)) (by decide) (by decide) ?_
  exact Go.retV rfl d29_21 ⟨rfl, rfl⟩
theorem c_iin1 (hw : HW a0 Z) (h : Heap) (a s : Addr) (cp : Int32) (hcp : ¬ (cp = (0 : Int32))) (scp : Zcp Z (.int cp)) (xa : EB Z h a) (f : FK Z h a (.int 1)) (xs : ES Z h s) (fs : GK Z h s (.int 0)) :
    Con l M_27 q29 2 none (rm4 2 0 0 25) Z n0 #[(.ref a), (.ref s)] h (fun v h' => v = none ∧ h = h') := by
  refine Con.of_go (plainFor_of_name pn_4) (Ls := #[.val (.ref a), .val (.ref s)]) ?_
  refine Go.old (fun old1 => ?_)
  refine Go.getstatic (pc' := 3) (host := "") (Or.inl (ww hw 56 rfl)) Via.refl (scp.ext old1.2) d29_0 rfl ?_
  refine Go.ifNo (pc' := 6) d29_3 (XT.i0_eq_f hcp) rfl ?_
  refine Go.aloadN (pc' := 7) d29_6 rfl rfl rfl ?_
  refine Go.getfield (pc' := 10) (host := "") (Or.inl (ww hw 59 rfl)) Via.refl f d29_7 rfl ?_
  refine Go.aloadN (pc' := 11) d29_10 rfl rfl rfl ?_
  refine Go.callV (cells' := 0) (slots' := 0) (pc' := 14) [] [(.int 1)] xs (ww hw 162 rfl) (ww hw 41 rfl) (nfS (ww hw 43 rfl)) (ww hw 43 rfl) (ww hw 42 rfl) (ww hw 8 rfl) (ww hw 44 rfl) (by decide) (c_coder l Z a0 hw h s cp hcp scp fs) pd_17 d29_11 rfl ?_
  rintro _ _ ⟨rfl, rfl⟩
  show Go _ _ _ _ _ _ _ _ _ _ _ _ 14 _ [(.int 0), (.int 1)]
  refine Go.icmpNo (pc' := 17) d29_14 (XT.ii_eq_f (by decide)) rfl ?_
  refine Go.aloadN (pc' := 18) d29_17 rfl rfl rfl ?_
  refine Go.callP (cells' := 0) (slots' := 0) (pc' := 21) [] [] xa (ww hw 280 rfl) (ww hw 281 rfl) (own_selP (ww hw 283 rfl) (ww hw 281 rfl) (ww hw 282 rfl) (by decide)) (ww hw 282 rfl) (ww hw 53 rfl) (ww hw 284 rfl) (by decide) (c_infl1_ l Z a0 hw h a cp hcp scp xa f) pd_16 d29_18 rfl ?_
  rintro _ _ ⟨rfl, rfl⟩
  show Go _ _ _ _ _ _ _ _ _ _ _ _ 21 _ []
  exact Go.retV rfl d29_21 ⟨rfl, rfl⟩
theorem c_gb0 (hw : HW a0 Z) (h : Heap) (b : Addr) (kb : ClassId) (z : Int32) (vs : List Value) (n : Int32) (s sb : Addr) (ks : ClassId) (x0 x1 cp : Int32) (hcp : ¬ (cp = (0 : Int32))) (hn0 : ¬ (n < (0 : Int32))) (hz : n.toNatClampNeg + 2 ≤ z.toNatClampNeg) (hl : n.toNatClampNeg + 2 ≤ vs.length) (scp : Zcp Z (.int cp)) (ge_b : n0 ≤ b) (ne_sb_b : sb ≠ b) (xs : ES Z h s) (fs : GK Z h s (.int 0)) (gs : GV Z h s (.ref sb)) (w : AB Z h sb ks (2 : Int32) [(.int x0), (.int x1)] (.int 0)) (xsb : EA Z h sb) (v : AB Z h b kb z vs (.int 0)) :
    Con l M_28 q30 4 none (rm4 1 0 0 18) Z n0 #[(.ref s), (.ref b), (.int n), (.int 0)] h (fun v h' => v = none ∧ Keep h h' [b] ∧ AB Z h' b kb z (vs.take n.toNatClampNeg ++ [(.int x0), (.int x1)] ++ vs.drop (n.toNatClampNeg + 2)) (.int 0)) := by
  refine Con.of_go (plainFor_of_name pn_0) (Ls := #[.val (.ref s), .val (.ref b), .val (.int n), .val (.int 0)]) ?_
  refine Go.aloadN (pc' := 1) d30_0 rfl rfl rfl ?_
  refine Go.callV (cells' := 0) (slots' := 0) (pc' := 4) [] [] xs (ww hw 40 rfl) (ww hw 41 rfl) (nfS (ww hw 43 rfl)) (ww hw 43 rfl) (ww hw 42 rfl) (ww hw 8 rfl) (ww hw 44 rfl) (by decide) (c_coder l Z a0 hw h s cp hcp scp fs) pd_17 d30_1 rfl ?_
  rintro _ _ ⟨rfl, rfl⟩
  show Go _ _ _ _ _ _ _ _ _ _ _ _ 4 _ [(.int 0)]
  refine Go.iloadN (pc' := 5) d30_4 rfl rfl ?_
  refine Go.icmpNo (pc' := 8) d30_5 (XT.ii_ne_f (by decide)) rfl ?_
  refine Go.aloadN (pc' := 9) d30_8 rfl rfl rfl ?_
  refine Go.getfield (pc' := 12) (host := "") (Or.inl (ww hw 26 rfl)) Via.refl gs d30_9 rfl ?_
  refine Go.iconst (pc' := 13) (v := 0) d30_12 rfl rfl ?_
  refine Go.aloadN (pc' := 14) d30_13 rfl rfl rfl ?_
  refine Go.iloadN (pc' := 15) d30_14 rfl rfl ?_
  refine Go.iloadN (pc' := 16) d30_15 rfl rfl ?_
  refine Go.ishl (pc' := 17) d30_16 rfl ?_
  rw [own_sh0]
  refine Go.aloadN (pc' := 18) d30_17 rfl rfl rfl ?_
  refine Go.getfield (pc' := 21) (host := "") (Or.inl (ww hw 26 rfl)) Via.refl gs d30_18 rfl ?_
  refine Go.arraylength (pc' := 22) w d30_21 rfl ?_
  refine Go.arraycopy (pc' := 25) (us := [(.int x0), (.int x1)]) (vd' := (vs.take n.toNatClampNeg ++ [(.int x0), (.int x1)] ++ vs.drop (n.toNatClampNeg + 2))) (ww hw 168 rfl) (ww hw 171 rfl) (ww hw 169 rfl) (ww hw 170 rfl) w v (Or.inl ⟨rfl, rfl⟩) (by decide) hn0 (by decide) (by decide) hz rfl hl rfl ge_b d30_22 rfl (nl rfl) (nl rfl) rfl ?_
  intro h2 K3 V4
  refine Go.goto (pc' := 43) d30_25 (by decide) (by decide) ?_
  exact Go.retV rfl d30_43 ⟨rfl, K3, V4⟩
theorem c_psa0 (hw : HW a0 Z) (h : Heap) (a b : Addr) (kb : ClassId) (z : Int32) (vs : List Value) (n : Int32) (s sb : Addr) (ks : ClassId) (x0 x1 cp : Int32) (hcp : ¬ (cp = (0 : Int32))) (hn0 : ¬ (n < (0 : Int32))) (hz : n.toNatClampNeg + 2 ≤ z.toNatClampNeg) (hl : n.toNatClampNeg + 2 ≤ vs.length) (scp : Zcp Z (.int cp)) (ge_b : n0 ≤ b) (ne_sb_b : sb ≠ b) (xa : EB Z h a) (f0 : FV Z h a (.ref b)) (f1 : FK Z h a (.int 0)) (xs : ES Z h s) (fs : GK Z h s (.int 0)) (gs : GV Z h s (.ref sb)) (w : AB Z h sb ks (2 : Int32) [(.int x0), (.int x1)] (.int 0)) (xsb : EA Z h sb) (v : AB Z h b kb z vs (.int 0)) :
    Con l M_29 q28 3 none (rm4 2 0 0 33) Z n0 #[(.ref a), (.int n), (.ref s)] h (fun v h' => v = none ∧ Keep h h' [b] ∧ AB Z h' b kb z (vs.take n.toNatClampNeg ++ [(.int x0), (.int x1)] ++ vs.drop (n.toNatClampNeg + 2)) (.int 0)) := by
  refine Con.of_go (plainFor_of_name pn_4) (Ls := #[.val (.ref a), .val (.int n), .val (.ref s)]) ?_
  refine Go.aloadN (pc' := 1) d28_0 rfl rfl rfl ?_
  refine Go.aloadN (pc' := 2) d28_1 rfl rfl rfl ?_
  refine Go.callP (cells' := 0) (slots' := 0) (pc' := 5) [(.ref s)] [] xa (ww hw 157 rfl) (ww hw 158 rfl) (own_selP (ww hw 160 rfl) (ww hw 158 rfl) (ww hw 159 rfl) (by decide)) (ww hw 159 rfl) (ww hw 53 rfl) (ww hw 161 rfl) (by decide) (c_iin0 l Z a0 hw h a s cp hcp scp f1 xs fs) pd_18 d28_2 rfl ?_
  rintro _ _ ⟨rfl, rfl⟩
  show Go _ _ _ _ _ _ _ _ _ _ _ _ 5 _ []
  refine Go.aloadN (pc' := 6) d28_5 rfl rfl rfl ?_
  refine Go.aloadN (pc' := 7) d28_6 rfl rfl rfl ?_
  refine Go.getfield (pc' := 10) (host := "") (Or.inl (ww hw 57 rfl)) Via.refl f0 d28_7 rfl ?_
  refine Go.iloadN (pc' := 11) d28_10 rfl rfl ?_
  refine Go.aloadN (pc' := 12) d28_11 rfl rfl rfl ?_
  refine Go.getfield (pc' := 15) (host := "") (Or.inl (ww hw 59 rfl)) Via.refl f1 d28_12 rfl ?_
  refine Go.callV (cells' := 0) (slots' := 0) (pc' := 18) [(.ref b), (.int n), (.int 0)] [] xs (ww hw 163 rfl) (ww hw 164 rfl) (nfS (ww hw 166 rfl)) (ww hw 166 rfl) (ww hw 165 rfl) (ww hw 8 rfl) (ww hw 167 rfl) (by decide) (c_gb0 l Z a0 hw h b kb z vs n s sb ks x0 x1 cp hcp hn0 hz hl scp ge_b ne_sb_b xs fs gs w xsb v) pd_19 d28_15 rfl ?_
  rintro _ h2 ⟨rfl, K2, F2_0⟩
  show Go _ _ _ _ _ _ _ _ _ _ _ _ 18 _ []
  exact Go.retV rfl d28_18 ⟨rfl, K2, F2_0⟩
theorem c_gb1 (hw : HW a0 Z) (h : Heap) (b : Addr) (kb : ClassId) (z : Int32) (vs : List Value) (n : Int32) (s sb : Addr) (ks : ClassId) (x0 x1 e0 e1 o1 u0 w0 u1 w1 cp : Int32) (wf : Value) (hcp : ¬ (cp = (0 : Int32))) (hwf : wf.isRef = true) (hq0 : (x0 &&& (255 : Int32)) = e0) (hq1 : (x1 &&& (255 : Int32)) = e1) (ho : (n + (1 : Int32)) = o1) (hu0 : (n <<< ((1 : Int32) &&& 31)) = u0) (hw10 : (u0 + (1 : Int32)) = w0) (hu00 : ¬ (u0 < (0 : Int32))) (hw00 : ¬ (w0 < (0 : Int32))) (hz00 : u0 < z) (hz10 : w0 < z) (hu1 : (o1 <<< ((1 : Int32) &&& 31)) = u1) (hw11 : (u1 + (1 : Int32)) = w1) (hu01 : ¬ (u1 < (0 : Int32))) (hw01 : ¬ (w1 < (0 : Int32))) (hz01 : u1 < z) (hz11 : w1 < z) (hmu0 : u0.toNatClampNeg < vs.length) (hmw0 : w0.toNatClampNeg < vs.length) (hmu1 : u1.toNatClampNeg < vs.length) (hmw1 : w1.toNatClampNeg < vs.length) (hb1 : ¬ ((((z >>> ((1 : Int32) &&& 31)) ||| n) ||| (2 : Int32)) < (0 : Int32))) (hb2 : ¬ (((z >>> ((1 : Int32) &&& 31)) - n) < (2 : Int32))) (scp : Zcp Z (.int cp)) (sad : Zad Z (.int 1)) (shi : Zhi Z (.int 0)) (slo : Zlo Z (.int 8)) (sfm : Zfm Z wf) (ge_b : n0 ≤ b) (ne_sb_b : sb ≠ b) (xs : ES Z h s) (fs : GK Z h s (.int 0)) (gs : GV Z h s (.ref sb)) (w : AB Z h sb ks (2 : Int32) [(.int x0), (.int x1)] (.int 0)) (xsb : EA Z h sb) (v : AB Z h b kb z vs (.int 0)) :
    Con l M_28 q30 4 none (rm4 5 0 0 76) Z n0 #[(.ref s), (.ref b), (.int n), (.int 1)] h (fun v h' => v = none ∧ Keep h h' [b] ∧ AB Z h' b kb z ((((vs.set u0.toNatClampNeg (loB e0)).set w0.toNatClampNeg (hiB e0)).set u1.toNatClampNeg (loB e1)).set w1.toNatClampNeg (hiB e1)) (.int 0)) := by
  refine Con.of_go (plainFor_of_name pn_0) (Ls := #[.val (.ref s), .val (.ref b), .val (.int n), .val (.int 1)]) ?_
  refine Go.aloadN (pc' := 1) d30_0 rfl rfl rfl ?_
  refine Go.callV (cells' := 0) (slots' := 0) (pc' := 4) [] [] xs (ww hw 40 rfl) (ww hw 41 rfl) (nfS (ww hw 43 rfl)) (ww hw 43 rfl) (ww hw 42 rfl) (ww hw 8 rfl) (ww hw 44 rfl) (by decide) (c_coder l Z a0 hw h s cp hcp scp fs) pd_17 d30_1 rfl ?_
  rintro _ _ ⟨rfl, rfl⟩
  show Go _ _ _ _ _ _ _ _ _ _ _ _ 4 _ [(.int 0)]
  refine Go.iloadN (pc' := 5) d30_4 rfl rfl ?_
  refine Go.icmpYes (pc' := 28) d30_5 (XT.ii_ne_t (by decide)) (by decide) (by decide) ?_
  refine Go.aloadN (pc' := 29) d30_28 rfl rfl rfl ?_
  refine Go.getfield (pc' := 32) (host := "") (Or.inl (ww hw 26 rfl)) Via.refl gs d30_29 rfl ?_
  refine Go.iconst (pc' := 33) (v := 0) d30_32 rfl rfl ?_
  refine Go.aloadN (pc' := 34) d30_33 rfl rfl rfl ?_
  refine Go.iloadN (pc' := 35) d30_34 rfl rfl ?_
  refine Go.aloadN (pc' := 36) d30_35 rfl rfl rfl ?_
  refine Go.getfield (pc' := 39) (host := "") (Or.inl (ww hw 26 rfl)) Via.refl gs d30_36 rfl ?_
  refine Go.arraylength (pc' := 40) w d30_39 rfl ?_
  refine Go.callS (cells' := 0) (slots' := 0) (pc' := 43) [(.ref sb), (.int 0), (.ref b), (.int n), (.int 2)] [] (ww hw 305 rfl) (ww hw 287 rfl) (ww hw 73 rfl) (ww hw 288 rfl) (by decide) (c_linfS l Z a0 hw h sb ks (2 : Int32) ([(.int x0), (.int x1)]) b kb z vs x0 x1 e0 e1 n o1 u0 w0 u1 w1 wf (by decide) rfl hq0 (by decide) rfl hq1 ho hu0 hw10 hu00 hw00 hz00 hz10 hu1 hw11 hu01 hw01 hz01 hz11 hmu0 hmw0 hmu1 hmw1 hb1 hb2 hwf sad shi slo sfm ge_b ne_sb_b w v) pd_9 d30_40 rfl ?_
  rintro _ h2 ⟨rfl, K2, F2_0⟩
  show Go _ _ _ _ _ _ _ _ _ _ _ _ 43 _ []
  exact Go.retV rfl d30_43 ⟨rfl, K2, F2_0⟩
theorem c_psa1 (hw : HW a0 Z) (h : Heap) (a b : Addr) (kb : ClassId) (z : Int32) (vs : List Value) (n : Int32) (s sb : Addr) (ks : ClassId) (x0 x1 e0 e1 o1 u0 w0 u1 w1 cp : Int32) (wf : Value) (hcp : ¬ (cp = (0 : Int32))) (hwf : wf.isRef = true) (hq0 : (x0 &&& (255 : Int32)) = e0) (hq1 : (x1 &&& (255 : Int32)) = e1) (ho : (n + (1 : Int32)) = o1) (hu0 : (n <<< ((1 : Int32) &&& 31)) = u0) (hw10 : (u0 + (1 : Int32)) = w0) (hu00 : ¬ (u0 < (0 : Int32))) (hw00 : ¬ (w0 < (0 : Int32))) (hz00 : u0 < z) (hz10 : w0 < z) (hu1 : (o1 <<< ((1 : Int32) &&& 31)) = u1) (hw11 : (u1 + (1 : Int32)) = w1) (hu01 : ¬ (u1 < (0 : Int32))) (hw01 : ¬ (w1 < (0 : Int32))) (hz01 : u1 < z) (hz11 : w1 < z) (hmu0 : u0.toNatClampNeg < vs.length) (hmw0 : w0.toNatClampNeg < vs.length) (hmu1 : u1.toNatClampNeg < vs.length) (hmw1 : w1.toNatClampNeg < vs.length) (hb1 : ¬ ((((z >>> ((1 : Int32) &&& 31)) ||| n) ||| (2 : Int32)) < (0 : Int32))) (hb2 : ¬ (((z >>> ((1 : Int32) &&& 31)) - n) < (2 : Int32))) (scp : Zcp Z (.int cp)) (sad : Zad Z (.int 1)) (shi : Zhi Z (.int 0)) (slo : Zlo Z (.int 8)) (sfm : Zfm Z wf) (ge_b : n0 ≤ b) (ne_sb_b : sb ≠ b) (xa : EB Z h a) (f0 : FV Z h a (.ref b)) (f1 : FK Z h a (.int 1)) (xs : ES Z h s) (fs : GK Z h s (.int 0)) (gs : GV Z h s (.ref sb)) (w : AB Z h sb ks (2 : Int32) [(.int x0), (.int x1)] (.int 0)) (xsb : EA Z h sb) (v : AB Z h b kb z vs (.int 0)) :
    Con l M_29 q28 3 none (rm4 6 0 0 91) Z n0 #[(.ref a), (.int n), (.ref s)] h (fun v h' => v = none ∧ Keep h h' [b] ∧ AB Z h' b kb z ((((vs.set u0.toNatClampNeg (loB e0)).set w0.toNatClampNeg (hiB e0)).set u1.toNatClampNeg (loB e1)).set w1.toNatClampNeg (hiB e1)) (.int 0)) := by
  refine Con.of_go (plainFor_of_name pn_4) (Ls := #[.val (.ref a), .val (.int n), .val (.ref s)]) ?_
  refine Go.aloadN (pc' := 1) d28_0 rfl rfl rfl ?_
  refine Go.aloadN (pc' := 2) d28_1 rfl rfl rfl ?_
  refine Go.callP (cells' := 0) (slots' := 0) (pc' := 5) [(.ref s)] [] xa (ww hw 157 rfl) (ww hw 158 rfl) (own_selP (ww hw 160 rfl) (ww hw 158 rfl) (ww hw 159 rfl) (by decide)) (ww hw 159 rfl) (ww hw 53 rfl) (ww hw 161 rfl) (by decide) (c_iin1 l Z a0 hw h a s cp hcp scp xa f1 xs fs) pd_18 d28_2 rfl ?_
  rintro _ _ ⟨rfl, rfl⟩
  show Go _ _ _ _ _ _ _ _ _ _ _ _ 5 _ []
  refine Go.aloadN (pc' := 6) d28_5 rfl rfl rfl ?_
  refine Go.aloadN (pc' := 7) d28_6 rfl rfl rfl ?_
  refine Go.getfield (pc' := 10) (host := "") (Or.inl (ww hw 57 rfl)) Via.refl f0 d28_7 rfl ?_
  refine Go.iloadN (pc' := 11) d28_10 rfl rfl ?_
  refine Go.aloadN (pc' := 12) d28_11 rfl rfl rfl ?_
  refine Go.getfield (pc' := 15) (host := "") (Or.inl (ww hw 59 rfl)) Via.refl f1 d28_12 rfl ?_
  refine Go.callV (cells' := 0) (slots' := 0) (pc' := 18) [(.ref b), (.int n), (.int 1)] [] xs (ww hw 163 rfl) (ww hw 164 rfl) (nfS (ww hw 166 rfl)) (ww hw 166 rfl) (ww hw 165 rfl) (ww hw 8 rfl) (ww hw 167 rfl) (by decide) (c_gb1 l Z a0 hw h b kb z vs n s sb ks x0 x1 e0 e1 o1 u0 w0 u1 w1 cp wf hcp hwf hq0 hq1 ho hu0 hw10 hu00 hw00 hz00 hz10 hu1 hw11 hu01 hw01 hz01 hz11 hmu0 hmw0 hmu1 hmw1 hb1 hb2 scp sad shi slo sfm ge_b ne_sb_b xs fs gs w xsb v) pd_19 d28_15 rfl ?_
  rintro _ h2 ⟨rfl, K2, F2_0⟩
  show Go _ _ _ _ _ _ _ _ _ _ _ _ 18 _ []
  exact Go.retV rfl d28_18 ⟨rfl, K2, F2_0⟩
theorem c_apSN0 (hw : HW a0 Z) (h : Heap) (a b : Addr) (kb : ClassId) (z : Int32) (vs : List Value) (n : Int32) (s sb : Addr) (ks : ClassId) (x0 x1 cp : Int32) (wf : Value) (hcp : ¬ (cp = (0 : Int32))) (hwf : wf.isRef = true) (hn0 : ¬ (n < (0 : Int32))) (hz : n.toNatClampNeg + 2 ≤ z.toNatClampNeg) (hl : n.toNatClampNeg + 2 ≤ vs.length) (hle : ¬ ((0 : Int32) < ((n + (2 : Int32)) - (z >>> ((0 : Int32) &&& 31))))) (scp : Zcp Z (.int cp)) (sad : Zad Z (.int 1)) (shi : Zhi Z (.int 0)) (slo : Zlo Z (.int 8)) (sfm : Zfm Z wf) (ge_a : n0 ≤ a) (ge_b : n0 ≤ b) (ne_sb_b : sb ≠ b) (xa : EB Z h a) (xb : EA Z h b) (pf0 : FV Z h a (.ref b)) (pf1 : FK Z h a (.int 0)) (pf2 : FN Z h a (.int n)) (pf3 : FM Z h a (.int 0)) (xs : ES Z h s) (fs : GK Z h s (.int 0)) (gs : GV Z h s (.ref sb)) (w : AB Z h sb ks (2 : Int32) [(.int x0), (.int x1)] (.int 0)) (xsb : EA Z h sb) (v : AB Z h b kb z vs (.int 0)) :
    Con l M_30 q26 3 (some (.object "java/lang/AbstractStringBuilder")) (rm4 7 1 16 105) Z n0 #[(.ref a), (.ref s)] h (fun v h' => v = some (.ref a) ∧ Keep h h' [a, b] ∧ FV Z h' a (.ref b) ∧ FK Z h' a (.int 0) ∧ FN Z h' a (.int (n + (2 : Int32))) ∧ FM Z h' a (.int 0) ∧ AB Z h' b kb z (vs.take n.toNatClampNeg ++ [(.int x0), (.int x1)] ++ vs.drop (n.toNatClampNeg + 2)) (.int 0) ∧ EA Z h' b) := by
  refine Con.of_go (plainFor_of_name pn_4) (Ls := #[.val (.ref a), .val (.ref s), .unset]) ?_
  refine Go.aloadN (pc' := 1) d26_0 rfl rfl rfl ?_
  refine Go.nonnullYes (pc' := 9) d26_1 rfl nofun (by decide) (by decide) ?_
  refine Go.aloadN (pc' := 10) d26_9 rfl rfl rfl ?_
  refine Go.callV (cells' := 0) (slots' := 0) (pc' := 13) [] [] xs (ww hw 146 rfl) (ww hw 36 rfl) (nfS (ww hw 38 rfl)) (ww hw 38 rfl) (ww hw 37 rfl) (ww hw 8 rfl) (ww hw 39 rfl) (by decide) (c_strLen2 l Z a0 hw h s sb ks x0 x1 cp hcp scp xs fs gs w) pd_20 d26_10 rfl ?_
  rintro _ _ ⟨rfl, rfl⟩
  show Go _ _ _ _ _ _ _ _ _ _ _ _ 13 _ [(.int 2)]
  refine Go.istoreN (pc' := 14) (Ls' := #[.val (.ref a), .val (.ref s), .val (.int 2)]) d26_13 rfl rfl ?_
  refine Go.aloadN (pc' := 15) d26_14 rfl rfl rfl ?_
  refine Go.aloadN (pc' := 16) d26_15 rfl rfl rfl ?_
  refine Go.getfield (pc' := 19) (host := "") (Or.inl (ww hw 104 rfl)) Via.refl pf2 d26_16 rfl ?_
  refine Go.iloadN (pc' := 20) d26_19 rfl rfl ?_
  refine Go.iadd (pc' := 21) d26_20 rfl ?_
  refine Go.callP (cells' := 0) (slots' := 0) (pc' := 24) [(.int (n + (2 : Int32)))] [] xa (ww hw 147 rfl) (ww hw 148 rfl) (own_selP (ww hw 150 rfl) (ww hw 148 rfl) (ww hw 149 rfl) (by decide)) (ww hw 149 rfl) (ww hw 53 rfl) (ww hw 151 rfl) (by decide) (c_ensN0 l Z a0 hw h a ((n + (2 : Int32))) b kb z vs hle pf0 pf1 v) pd_14 d26_21 rfl ?_
  rintro _ _ ⟨rfl, rfl⟩
  show Go _ _ _ _ _ _ _ _ _ _ _ _ 24 _ []
  refine Go.aloadN (pc' := 25) d26_24 rfl rfl rfl ?_
  refine Go.aloadN (pc' := 26) d26_25 rfl rfl rfl ?_
  refine Go.getfield (pc' := 29) (host := "") (Or.inl (ww hw 104 rfl)) Via.refl pf2 d26_26 rfl ?_
  refine Go.aloadN (pc' := 30) d26_29 rfl rfl rfl ?_
  refine Go.callP (cells' := 0) (slots' := 0) (pc' := 33) [(.int n), (.ref s)] [] xa (ww hw 152 rfl) (ww hw 153 rfl) (own_selP (ww hw 155 rfl) (ww hw 153 rfl) (ww hw 154 rfl) (by decide)) (ww hw 154 rfl) (ww hw 53 rfl) (ww hw 156 rfl) (by decide) (c_psa0 l Z a0 hw h a b kb z vs n s sb ks x0 x1 cp hcp hn0 hz hl scp ge_b ne_sb_b xa pf0 pf1 xs fs gs w xsb v) pd_21 d26_30 rfl ?_
  rintro _ h3 ⟨rfl, K3, F3_0⟩
  have K4 := (Keep.refl h [a, b]).trans K3 (allS (Or.inl (List.mem_of_getElem? (i := 1) rfl)) all0)
  show Go _ _ _ _ _ _ _ _ _ _ _ _ 33 _ []
  refine Go.aloadN (pc' := 34) d26_33 rfl rfl rfl ?_
  refine Go.dup (pc' := 35) d26_34 rfl rfl ?_
  have ne5 := ne_exa (xa.keep K3) (xb.keep K3) (by decide)
  refine Go.getfield (pc' := 38) (host := "") (Or.inl (ww hw 104 rfl)) Via.refl (pf2.keep K3 (ninS ne5 nin0)) d26_35 rfl ?_
  refine Go.iloadN (pc' := 39) d26_38 rfl rfl ?_
  refine Go.iadd (pc' := 40) d26_39 rfl ?_
  refine Go.putfield (pc' := 43) (host := "") (Or.inl (ww hw 104 rfl)) Via.refl (pf2.keep K3 (ninS ne5 nin0)) (xa.keep K3) (Or.inl (ww hw 105 rfl)) (ww hw 33 rfl) (ty := .int) (by decide) rfl rfl ge_a d26_40 rfl ?_
  intro h6 W7
  have K8 := K4.wr W7 (Or.inl (List.mem_of_getElem? (i := 0) rfl))
  have f9 := (pf2.keep K3 (ninS ne5 nin0)).same W7
  refine Go.aloadN (pc' := 44) d26_43 rfl rfl rfl ?_
  have f10 := ((pf0.keep K3 (ninS ne5 nin0)).other W7 (Or.inr (sn_6 hw)))
  have f11 := ((pf1.keep K3 (ninS ne5 nin0)).other W7 (Or.inr (sn_7 hw)))
  have f12 := ((pf3.keep K3 (ninS ne5 nin0)).other W7 (Or.inr (sn_8 hw)))
  exact Go.retR rfl rfl rfl rfl d26_44 ⟨rfl, K8, f10, f11, f9, f12, (F3_0.other W7 (Ne.symm ne5)), ((xb.keep K3).wr W7)⟩
theorem c_apSG0 (hw : HW a0 Z) (h : Heap) (a b : Addr) (kb : ClassId) (z : Int32) (vs : List Value) (n N : Int32) (pd : Nat) (s sb : Addr) (ks : ClassId) (x0 x1 cp : Int32) (wf : Value) (hcp : ¬ (cp = (0 : Int32))) (hwf : wf.isRef = true) (hn0 : ¬ (n < (0 : Int32))) (hz : n.toNatClampNeg + 2 ≤ N.toNatClampNeg) (hl : n.toNatClampNeg + 2 ≤ (vs ++ List.replicate pd (Value.int 0)).length) (hgr : (0 : Int32) < ((n + (2 : Int32)) - (z >>> ((0 : Int32) &&& 31)))) (h1 : (((n + (2 : Int32)) <<< ((0 : Int32) &&& 31)) - z) < (z + (2 : Int32))) (h2 : (0 : Int32) < (z + (z + (2 : Int32)))) (h3 : ¬ ((2147483639 : Int32) < (z + (z + (2 : Int32))))) (h4 : ¬ ((z + (z + (2 : Int32))) = (2147483647 : Int32))) (hNe : (((z + (z + (2 : Int32))) >>> ((0 : Int32) &&& 31)) <<< ((0 : Int32) &&& 31)) = N) (hNz : ¬ (N = z)) (hN0 : ¬ (N < (0 : Int32))) (hN16 : N.toNatClampNeg ≤ 16) (hNle : ¬ (N < z)) (hz0 : ¬ (z < (0 : Int32))) (hvz : vs.length ≤ z.toNatClampNeg) (scp : Zcp Z (.int cp)) (sad : Zad Z (.int 1)) (shi : Zhi Z (.int 0)) (slo : Zlo Z (.int 8)) (sfm : Zfm Z wf) (ge_a : n0 ≤ a) (ge_b : n0 ≤ b) (ne_sb_b : sb ≠ b) (xa : EB Z h a) (xb : EA Z h b) (pf0 : FV Z h a (.ref b)) (pf1 : FK Z h a (.int 0)) (pf2 : FN Z h a (.int n)) (pf3 : FM Z h a (.int 0)) (xs : ES Z h s) (fs : GK Z h s (.int 0)) (gs : GV Z h s (.ref sb)) (w : AB Z h sb ks (2 : Int32) [(.int x0), (.int x1)] (.int 0)) (xsb : EA Z h sb) (v : AB Z h b kb z vs (.int 0)) :
    Con l M_30 q26 3 (some (.object "java/lang/AbstractStringBuilder")) (rm4 7 1 16 105) Z n0 #[(.ref a), (.ref s)] h (fun v h' => ∃ d : Addr, ∃ ky : ClassId, v = some (.ref a) ∧ Keep h h' [a, b] ∧ n0 ≤ d ∧ h.size ≤ d ∧ FV Z h' a (.ref d) ∧ FK Z h' a (.int 0) ∧ FN Z h' a (.int (n + (2 : Int32))) ∧ FM Z h' a (.int 0) ∧ AB Z h' d ky N ((vs ++ List.replicate pd (Value.int 0)).take n.toNatClampNeg ++ [(.int x0), (.int x1)] ++ (vs ++ List.replicate pd (Value.int 0)).drop (n.toNatClampNeg + 2)) (.int 0) ∧ EA Z h' d) := by
  refine Con.of_go (plainFor_of_name pn_4) (Ls := #[.val (.ref a), .val (.ref s), .unset]) ?_
  refine Go.aloadN (pc' := 1) d26_0 rfl rfl rfl ?_
  refine Go.nonnullYes (pc' := 9) d26_1 rfl nofun (by decide) (by decide) ?_
  refine Go.aloadN (pc' := 10) d26_9 rfl rfl rfl ?_
  refine Go.callV (cells' := 0) (slots' := 0) (pc' := 13) [] [] xs (ww hw 146 rfl) (ww hw 36 rfl) (nfS (ww hw 38 rfl)) (ww hw 38 rfl) (ww hw 37 rfl) (ww hw 8 rfl) (ww hw 39 rfl) (by decide) (c_strLen2 l Z a0 hw h s sb ks x0 x1 cp hcp scp xs fs gs w) pd_20 d26_10 rfl ?_
  rintro _ _ ⟨rfl, rfl⟩
  show Go _ _ _ _ _ _ _ _ _ _ _ _ 13 _ [(.int 2)]
  refine Go.istoreN (pc' := 14) (Ls' := #[.val (.ref a), .val (.ref s), .val (.int 2)]) d26_13 rfl rfl ?_
  refine Go.aloadN (pc' := 15) d26_14 rfl rfl rfl ?_
  refine Go.aloadN (pc' := 16) d26_15 rfl rfl rfl ?_
  refine Go.getfield (pc' := 19) (host := "") (Or.inl (ww hw 104 rfl)) Via.refl pf2 d26_16 rfl ?_
  refine Go.iloadN (pc' := 20) d26_19 rfl rfl ?_
  refine Go.iadd (pc' := 21) d26_20 rfl ?_
  refine Go.callP (cells' := 1) (slots' := 16) (pc' := 24) [(.int (n + (2 : Int32)))] [] xa (ww hw 147 rfl) (ww hw 148 rfl) (own_selP (ww hw 150 rfl) (ww hw 148 rfl) (ww hw 149 rfl) (by decide)) (ww hw 149 rfl) (ww hw 53 rfl) (ww hw 151 rfl) (by decide) (c_ensG0 l Z a0 hw h a ((n + (2 : Int32))) n b kb z vs N pd hgr h1 h2 h3 h4 hNe hNz hN0 hN16 hNle hz0 hvz ge_a xa pf0 pf1 pf2 pf3 v) pd_14 d26_21 rfl ?_
  rintro _ h2 ⟨d_2, ky_2, rfl, K2, ge_d_2, sz_d_2, F2_0, F2_1, F2_2, F2_3, F2_4, F2_5⟩
  have K3 := (Keep.refl h [a, b]).trans K2 (allS (Or.inl (List.mem_of_getElem? (i := 0) rfl)) all0)
  show Go _ _ _ _ _ _ _ _ _ _ _ _ 24 _ []
  refine Go.aloadN (pc' := 25) d26_24 rfl rfl rfl ?_
  refine Go.aloadN (pc' := 26) d26_25 rfl rfl rfl ?_
  refine Go.getfield (pc' := 29) (host := "") (Or.inl (ww hw 104 rfl)) Via.refl F2_2 d26_26 rfl ?_
  refine Go.aloadN (pc' := 30) d26_29 rfl rfl rfl ?_
  have ne4 := ne_exa (xs.keep K2) (xa.keep K2) (by decide)
  have ne5 := ne_exa (xsb.keep K2) (xa.keep K2) (by decide)
  have ne6 := (Nat.ne_of_lt (Nat.lt_of_lt_of_le w.lt sz_d_2))
  refine Go.callP (cells' := 1) (slots' := 16) (pc' := 33) [(.int n), (.ref s)] [] (xa.keep K2) (ww hw 152 rfl) (ww hw 153 rfl) (own_selP (ww hw 155 rfl) (ww hw 153 rfl) (ww hw 154 rfl) (by decide)) (ww hw 154 rfl) (ww hw 53 rfl) (ww hw 156 rfl) (by decide) (c_psa0 l Z a0 hw h2 a d_2 ky_2 N ((vs ++ List.replicate pd (Value.int 0))) n s sb ks x0 x1 cp hcp hn0 hz hl scp ge_d_2 ne6 (xa.keep K2) F2_0 F2_1 (xs.keep K2) ((fs.keep K2 (ninS ne4 nin0))) ((gs.keep K2 (ninS ne4 nin0))) ((w.keep K2 (ninS ne5 nin0))) (xsb.keep K2) F2_4) pd_21 d26_30 rfl ?_
  rintro _ h7 ⟨rfl, K7, F7_0⟩
  have K8 := K3.trans K7 (allS (Or.inr sz_d_2) all0)
  show Go _ _ _ _ _ _ _ _ _ _ _ _ 33 _ []
  refine Go.aloadN (pc' := 34) d26_33 rfl rfl rfl ?_
  refine Go.dup (pc' := 35) d26_34 rfl rfl ?_
  have ne9 := (Nat.ne_of_lt (Nat.lt_of_lt_of_le xa.lt sz_d_2))
  refine Go.getfield (pc' := 38) (host := "") (Or.inl (ww hw 104 rfl)) Via.refl (F2_2.keep K7 (ninS ne9 nin0)) d26_35 rfl ?_
  refine Go.iloadN (pc' := 39) d26_38 rfl rfl ?_
  refine Go.iadd (pc' := 40) d26_39 rfl ?_
  refine Go.putfield (pc' := 43) (host := "") (Or.inl (ww hw 104 rfl)) Via.refl (F2_2.keep K7 (ninS ne9 nin0)) ((xa.keep K2).keep K7) (Or.inl (ww hw 105 rfl)) (ww hw 33 rfl) (ty := .int) (by decide) rfl rfl ge_a d26_40 rfl ?_
  intro h10 W11
  have K12 := K8.wr W11 (Or.inl (List.mem_of_getElem? (i := 0) rfl))
  have f13 := (F2_2.keep K7 (ninS ne9 nin0)).same W11
  refine Go.aloadN (pc' := 44) d26_43 rfl rfl rfl ?_
  have f14 := ((F2_0.keep K7 (ninS ne9 nin0)).other W11 (Or.inr (sn_6 hw)))
  have f15 := ((F2_1.keep K7 (ninS ne9 nin0)).other W11 (Or.inr (sn_7 hw)))
  have f16 := ((F2_3.keep K7 (ninS ne9 nin0)).other W11 (Or.inr (sn_8 hw)))
  exact Go.retR rfl rfl rfl rfl d26_44 ⟨d_2, ky_2, rfl, K12, ge_d_2, sz_d_2, f14, f15, f13, f16, (F7_0.other W11 (Ne.symm ne9)), ((F2_5.keep K7).wr W11)⟩
theorem c_apSN1 (hw : HW a0 Z) (h : Heap) (a b : Addr) (kb : ClassId) (z : Int32) (vs : List Value) (n : Int32) (s sb : Addr) (ks : ClassId) (x0 x1 e0 e1 o1 u0 w0 u1 w1 cp : Int32) (wf : Value) (hcp : ¬ (cp = (0 : Int32))) (hwf : wf.isRef = true) (hq0 : (x0 &&& (255 : Int32)) = e0) (hq1 : (x1 &&& (255 : Int32)) = e1) (ho : (n + (1 : Int32)) = o1) (hu0 : (n <<< ((1 : Int32) &&& 31)) = u0) (hw10 : (u0 + (1 : Int32)) = w0) (hu00 : ¬ (u0 < (0 : Int32))) (hw00 : ¬ (w0 < (0 : Int32))) (hz00 : u0 < z) (hz10 : w0 < z) (hu1 : (o1 <<< ((1 : Int32) &&& 31)) = u1) (hw11 : (u1 + (1 : Int32)) = w1) (hu01 : ¬ (u1 < (0 : Int32))) (hw01 : ¬ (w1 < (0 : Int32))) (hz01 : u1 < z) (hz11 : w1 < z) (hmu0 : u0.toNatClampNeg < vs.length) (hmw0 : w0.toNatClampNeg < vs.length) (hmu1 : u1.toNatClampNeg < vs.length) (hmw1 : w1.toNatClampNeg < vs.length) (hb1 : ¬ ((((z >>> ((1 : Int32) &&& 31)) ||| n) ||| (2 : Int32)) < (0 : Int32))) (hb2 : ¬ (((z >>> ((1 : Int32) &&& 31)) - n) < (2 : Int32))) (hle : ¬ ((0 : Int32) < ((n + (2 : Int32)) - (z >>> ((1 : Int32) &&& 31))))) (scp : Zcp Z (.int cp)) (sad : Zad Z (.int 1)) (shi : Zhi Z (.int 0)) (slo : Zlo Z (.int 8)) (sfm : Zfm Z wf) (ge_a : n0 ≤ a) (ge_b : n0 ≤ b) (ne_sb_b : sb ≠ b) (xa : EB Z h a) (xb : EA Z h b) (pf0 : FV Z h a (.ref b)) (pf1 : FK Z h a (.int 1)) (pf2 : FN Z h a (.int n)) (pf3 : FM Z h a (.int 0)) (xs : ES Z h s) (fs : GK Z h s (.int 0)) (gs : GV Z h s (.ref sb)) (w : AB Z h sb ks (2 : Int32) [(.int x0), (.int x1)] (.int 0)) (xsb : EA Z h sb) (v : AB Z h b kb z vs (.int 0)) :
    Con l M_30 q26 3 (some (.object "java/lang/AbstractStringBuilder")) (rm4 7 1 16 105) Z n0 #[(.ref a), (.ref s)] h (fun v h' => v = some (.ref a) ∧ Keep h h' [a, b] ∧ FV Z h' a (.ref b) ∧ FK Z h' a (.int 1) ∧ FN Z h' a (.int (n + (2 : Int32))) ∧ FM Z h' a (.int 0) ∧ AB Z h' b kb z ((((vs.set u0.toNatClampNeg (loB e0)).set w0.toNatClampNeg (hiB e0)).set u1.toNatClampNeg (loB e1)).set w1.toNatClampNeg (hiB e1)) (.int 0) ∧ EA Z h' b) := by
  refine Con.of_go (plainFor_of_name pn_4) (Ls := #[.val (.ref a), .val (.ref s), .unset]) ?_
  refine Go.aloadN (pc' := 1) d26_0 rfl rfl rfl ?_
  refine Go.nonnullYes (pc' := 9) d26_1 rfl nofun (by decide) (by decide) ?_
  refine Go.aloadN (pc' := 10) d26_9 rfl rfl rfl ?_
  refine Go.callV (cells' := 0) (slots' := 0) (pc' := 13) [] [] xs (ww hw 146 rfl) (ww hw 36 rfl) (nfS (ww hw 38 rfl)) (ww hw 38 rfl) (ww hw 37 rfl) (ww hw 8 rfl) (ww hw 39 rfl) (by decide) (c_strLen2 l Z a0 hw h s sb ks x0 x1 cp hcp scp xs fs gs w) pd_20 d26_10 rfl ?_
  rintro _ _ ⟨rfl, rfl⟩
  show Go _ _ _ _ _ _ _ _ _ _ _ _ 13 _ [(.int 2)]
  refine Go.istoreN (pc' := 14) (Ls' := #[.val (.ref a), .val (.ref s), .val (.int 2)]) d26_13 rfl rfl ?_
  refine Go.aloadN (pc' := 15) d26_14 rfl rfl rfl ?_
  refine Go.aloadN (pc' := 16) d26_15 rfl rfl rfl ?_
  refine Go.getfield (pc' := 19) (host := "") (Or.inl (ww hw 104 rfl)) Via.refl pf2 d26_16 rfl ?_
  refine Go.iloadN (pc' := 20) d26_19 rfl rfl ?_
  refine Go.iadd (pc' := 21) d26_20 rfl ?_
  refine Go.callP (cells' := 0) (slots' := 0) (pc' := 24) [(.int (n + (2 : Int32)))] [] xa (ww hw 147 rfl) (ww hw 148 rfl) (own_selP (ww hw 150 rfl) (ww hw 148 rfl) (ww hw 149 rfl) (by decide)) (ww hw 149 rfl) (ww hw 53 rfl) (ww hw 151 rfl) (by decide) (c_ensN1 l Z a0 hw h a ((n + (2 : Int32))) b kb z vs hle pf0 pf1 v) pd_14 d26_21 rfl ?_
  rintro _ _ ⟨rfl, rfl⟩
  show Go _ _ _ _ _ _ _ _ _ _ _ _ 24 _ []
  refine Go.aloadN (pc' := 25) d26_24 rfl rfl rfl ?_
  refine Go.aloadN (pc' := 26) d26_25 rfl rfl rfl ?_
  refine Go.getfield (pc' := 29) (host := "") (Or.inl (ww hw 104 rfl)) Via.refl pf2 d26_26 rfl ?_
  refine Go.aloadN (pc' := 30) d26_29 rfl rfl rfl ?_
  refine Go.callP (cells' := 0) (slots' := 0) (pc' := 33) [(.int n), (.ref s)] [] xa (ww hw 152 rfl) (ww hw 153 rfl) (own_selP (ww hw 155 rfl) (ww hw 153 rfl) (ww hw 154 rfl) (by decide)) (ww hw 154 rfl) (ww hw 53 rfl) (ww hw 156 rfl) (by decide) (c_psa1 l Z a0 hw h a b kb z vs n s sb ks x0 x1 e0 e1 o1 u0 w0 u1 w1 cp wf hcp hwf hq0 hq1 ho hu0 hw10 hu00 hw00 hz00 hz10 hu1 hw11 hu01 hw01 hz01 hz11 hmu0 hmw0 hmu1 hmw1 hb1 hb2 scp sad shi slo sfm ge_b ne_sb_b xa pf0 pf1 xs fs gs w xsb v) pd_21 d26_30 rfl ?_
  rintro _ h3 ⟨rfl, K3, F3_0⟩
  have K4 := (Keep.refl h [a, b]).trans K3 (allS (Or.inl (List.mem_of_getElem? (i := 1) rfl)) all0)
  show Go _ _ _ _ _ _ _ _ _ _ _ _ 33 _ []
  refine Go.aloadN (pc' := 34) d26_33 rfl rfl rfl ?_
  refine Go.dup (pc' := 35) d26_34 rfl rfl ?_
  have ne5 := ne_exa (xa.keep K3) (xb.keep K3) (by decide)
  refine Go.getfield (pc' := 38) (host := "") (Or.inl (ww hw 104 rfl)) Via.refl (pf2.keep K3 (ninS ne5 nin0)) d26_35 rfl ?_
  refine Go.iloadN (pc' := 39) d26_38 rfl rfl ?_
  refine Go.iadd (pc' := 40) d26_39 rfl ?_
  refine Go.putfield (pc' := 43) (host := "") (Or.inl (ww hw 104 rfl)) Via.refl (pf2.keep K3 (ninS ne5 nin0)) (xa.keep K3) (Or.inl (ww hw 105 rfl)) (ww hw 33 rfl) (ty := .int) (by decide) rfl rfl ge_a d26_40 rfl ?_
  intro h6 W7
  have K8 := K4.wr W7 (Or.inl (List.mem_of_getElem? (i := 0) rfl))
  have f9 := (pf2.keep K3 (ninS ne5 nin0)).same W7
  refine Go.aloadN (pc' := 44) d26_43 rfl rfl rfl ?_
  have f10 := ((pf0.keep K3 (ninS ne5 nin0)).other W7 (Or.inr (sn_6 hw)))
  have f11 := ((pf1.keep K3 (ninS ne5 nin0)).other W7 (Or.inr (sn_7 hw)))
  have f12 := ((pf3.keep K3 (ninS ne5 nin0)).other W7 (Or.inr (sn_8 hw)))
  exact Go.retR rfl rfl rfl rfl d26_44 ⟨rfl, K8, f10, f11, f9, f12, (F3_0.other W7 (Ne.symm ne5)), ((xb.keep K3).wr W7)⟩
theorem c_apSG1 (hw : HW a0 Z) (h : Heap) (a b : Addr) (kb : ClassId) (z : Int32) (vs : List Value) (n N : Int32) (pd : Nat) (s sb : Addr) (ks : ClassId) (x0 x1 e0 e1 o1 u0 w0 u1 w1 cp : Int32) (wf : Value) (hcp : ¬ (cp = (0 : Int32))) (hwf : wf.isRef = true) (hq0 : (x0 &&& (255 : Int32)) = e0) (hq1 : (x1 &&& (255 : Int32)) = e1) (ho : (n + (1 : Int32)) = o1) (hu0 : (n <<< ((1 : Int32) &&& 31)) = u0) (hw10 : (u0 + (1 : Int32)) = w0) (hu00 : ¬ (u0 < (0 : Int32))) (hw00 : ¬ (w0 < (0 : Int32))) (hz00 : u0 < N) (hz10 : w0 < N) (hu1 : (o1 <<< ((1 : Int32) &&& 31)) = u1) (hw11 : (u1 + (1 : Int32)) = w1) (hu01 : ¬ (u1 < (0 : Int32))) (hw01 : ¬ (w1 < (0 : Int32))) (hz01 : u1 < N) (hz11 : w1 < N) (hmu0 : u0.toNatClampNeg < (vs ++ List.replicate pd (Value.int 0)).length) (hmw0 : w0.toNatClampNeg < (vs ++ List.replicate pd (Value.int 0)).length) (hmu1 : u1.toNatClampNeg < (vs ++ List.replicate pd (Value.int 0)).length) (hmw1 : w1.toNatClampNeg < (vs ++ List.replicate pd (Value.int 0)).length) (hb1 : ¬ ((((N >>> ((1 : Int32) &&& 31)) ||| n) ||| (2 : Int32)) < (0 : Int32))) (hb2 : ¬ (((N >>> ((1 : Int32) &&& 31)) - n) < (2 : Int32))) (hgr : (0 : Int32) < ((n + (2 : Int32)) - (z >>> ((1 : Int32) &&& 31)))) (h1 : (((n + (2 : Int32)) <<< ((1 : Int32) &&& 31)) - z) < (z + (4 : Int32))) (h2 : (0 : Int32) < (z + (z + (4 : Int32)))) (h3 : ¬ ((2147483639 : Int32) < (z + (z + (4 : Int32))))) (h4 : ¬ ((z + (z + (4 : Int32))) = (2147483647 : Int32))) (hNe : (((z + (z + (4 : Int32))) >>> ((1 : Int32) &&& 31)) <<< ((1 : Int32) &&& 31)) = N) (hNz : ¬ (N = z)) (hN0 : ¬ (N < (0 : Int32))) (hN16 : N.toNatClampNeg ≤ 16) (hNle : ¬ (N < z)) (hz0 : ¬ (z < (0 : Int32))) (hvz : vs.length ≤ z.toNatClampNeg) (scp : Zcp Z (.int cp)) (sad : Zad Z (.int 1)) (shi : Zhi Z (.int 0)) (slo : Zlo Z (.int 8)) (sfm : Zfm Z wf) (ge_a : n0 ≤ a) (ge_b : n0 ≤ b) (ne_sb_b : sb ≠ b) (xa : EB Z h a) (xb : EA Z h b) (pf0 : FV Z h a (.ref b)) (pf1 : FK Z h a (.int 1)) (pf2 : FN Z h a (.int n)) (pf3 : FM Z h a (.int 0)) (xs : ES Z h s) (fs : GK Z h s (.int 0)) (gs : GV Z h s (.ref sb)) (w : AB Z h sb ks (2 : Int32) [(.int x0), (.int x1)] (.int 0)) (xsb : EA Z h sb) (v : AB Z h b kb z vs (.int 0)) :
    Con l M_30 q26 3 (some (.object "java/lang/AbstractStringBuilder")) (rm4 7 1 16 105) Z n0 #[(.ref a), (.ref s)] h (fun v h' => ∃ d : Addr, ∃ ky : ClassId, v = some (.ref a) ∧ Keep h h' [a, b] ∧ n0 ≤ d ∧ h.size ≤ d ∧ FV Z h' a (.ref d) ∧ FK Z h' a (.int 1) ∧ FN Z h' a (.int (n + (2 : Int32))) ∧ FM Z h' a (.int 0) ∧ AB Z h' d ky N (((((vs ++ List.replicate pd (Value.int 0)).set u0.toNatClampNeg (loB e0)).set w0.toNatClampNeg (hiB e0)).set u1.toNatClampNeg (loB e1)).set w1.toNatClampNeg (hiB e1)) (.int 0) ∧ EA Z h' d) := by
  refine Con.of_go (plainFor_of_name pn_4) (Ls := #[.val (.ref a), .val (.ref s), .unset]) ?_
  refine Go.aloadN (pc' := 1) d26_0 rfl rfl rfl ?_
  refine Go.nonnullYes (pc' := 9) d26_1 rfl nofun (by decide) (by decide) ?_
  refine Go.aloadN (pc' := 10) d26_9 rfl rfl rfl ?_
  refine Go.callV (cells' := 0) (slots' := 0) (pc' := 13) [] [] xs (ww hw 146 rfl) (ww hw 36 rfl) (nfS (ww hw 38 rfl)) (ww hw 38 rfl) (ww hw 37 rfl) (ww hw 8 rfl) (ww hw 39 rfl) (by decide) (c_strLen2 l Z a0 hw h s sb ks x0 x1 cp hcp scp xs fs gs w) pd_20 d26_10 rfl ?_
  rintro _ _ ⟨rfl, rfl⟩
  show Go _ _ _ _ _ _ _ _ _ _ _ _ 13 _ [(.int 2)]
  refine Go.istoreN (pc' := 14) (Ls' := #[.val (.ref a), .val (.ref s), .val (.int 2)]) d26_13 rfl rfl ?_
  refine Go.aloadN (pc' := 15) d26_14 rfl rfl rfl ?_
  refine Go.aloadN (pc' := 16) d26_15 rfl rfl rfl ?_
  refine Go.getfield (pc' := 19) (host := "") (Or.inl (ww hw 104 rfl)) Via.refl pf2 d26_16 rfl ?_
  refine Go.iloadN (pc' := 20) d26_19 rfl rfl ?_
  refine Go.iadd (pc' := 21) d26_20 rfl ?_
  refine Go.callP (cells' := 1) (slots' := 16) (pc' := 24) [(.int (n + (2 : Int32)))] [] xa (ww hw 147 rfl) (ww hw 148 rfl) (own_selP (ww hw 150 rfl) (ww hw 148 rfl) (ww hw 149 rfl) (by decide)) (ww hw 149 rfl) (ww hw 53 rfl) (ww hw 151 rfl) (by decide) (c_ensG1 l Z a0 hw h a ((n + (2 : Int32))) n b kb z vs N pd hgr h1 h2 h3 h4 hNe hNz hN0 hN16 hNle hz0 hvz ge_a xa pf0 pf1 pf2 pf3 v) pd_14 d26_21 rfl ?_
  rintro _ h2 ⟨d_2, ky_2, rfl, K2, ge_d_2, sz_d_2, F2_0, F2_1, F2_2, F2_3, F2_4, F2_5⟩
  have K3 := (Keep.refl h [a, b]).trans K2 (allS (Or.inl (List.mem_of_getElem? (i := 0) rfl)) all0)
  show Go _ _ _ _ _ _ _ _ _ _ _ _ 24 _ []
  refine Go.aloadN (pc' := 25) d26_24 rfl rfl rfl ?_
  refine Go.aloadN (pc' := 26) d26_25 rfl rfl rfl ?_
  refine Go.getfield (pc' := 29) (host := "") (Or.inl (ww hw 104 rfl)) Via.refl F2_2 d26_26 rfl ?_
  refine Go.aloadN (pc' := 30) d26_29 rfl rfl rfl ?_
  have ne4 := ne_exa (xs.keep K2) (xa.keep K2) (by decide)
  have ne5 := ne_exa (xsb.keep K2) (xa.keep K2) (by decide)
  have ne6 := (Nat.ne_of_lt (Nat.lt_of_lt_of_le w.lt sz_d_2))
  refine Go.callP (cells' := 1) (slots' := 16) (pc' := 33) [(.int n), (.ref s)] [] (xa.keep K2) (ww hw 152 rfl) (ww hw 153 rfl) (own_selP (ww hw 155 rfl) (ww hw 153 rfl) (ww hw 154 rfl) (by decide)) (ww hw 154 rfl) (ww hw 53 rfl) (ww hw 156 rfl) (by decide) (c_psa1 l Z a0 hw h2 a d_2 ky_2 N ((vs ++ List.replicate pd (Value.int 0))) n s sb ks x0 x1 e0 e1 o1 u0 w0 u1 w1 cp wf hcp hwf hq0 hq1 ho hu0 hw10 hu00 hw00 hz00 hz10 hu1 hw11 hu01 hw01 hz01 hz11 hmu0 hmw0 hmu1 hmw1 hb1 hb2 scp sad shi slo sfm ge_d_2 ne6 (xa.keep K2) F2_0 F2_1 (xs.keep K2) ((fs.keep K2 (ninS ne4 nin0))) ((gs.keep K2 (ninS ne4 nin0))) ((w.keep K2 (ninS ne5 nin0))) (xsb.keep K2) F2_4) pd_21 d26_30 rfl ?_
  rintro _ h7 ⟨rfl, K7, F7_0⟩
  have K8 := K3.trans K7 (allS (Or.inr sz_d_2) all0)
  show Go _ _ _ _ _ _ _ _ _ _ _ _ 33 _ []
  refine Go.aloadN (pc' := 34) d26_33 rfl rfl rfl ?_
  refine Go.dup (pc' := 35) d26_34 rfl rfl ?_
  have ne9 := (Nat.ne_of_lt (Nat.lt_of_lt_of_le xa.lt sz_d_2))
  refine Go.getfield (pc' := 38) (host := "") (Or.inl (ww hw 104 rfl)) Via.refl (F2_2.keep K7 (ninS ne9 nin0)) d26_35 rfl ?_
  refine Go.iloadN (pc' := 39) d26_38 rfl rfl ?_
  refine Go.iadd (pc' := 40) d26_39 rfl ?_
  refine Go.putfield (pc' := 43) (host := "") (Or.inl (ww hw 104 rfl)) Via.refl (F2_2.keep K7 (ninS ne9 nin0)) ((xa.keep K2).keep K7) (Or.inl (ww hw 105 rfl)) (ww hw 33 rfl) (ty := .int) (by decide) rfl rfl ge_a d26_40 rfl ?_
  intro h10 W11
  have K12 := K8.wr W11 (Or.inl (List.mem_of_getElem? (i := 0) rfl))
  have f13 := (F2_2.keep K7 (ninS ne9 nin0)).same W11
  refine Go.aloadN (pc' := 44) d26_43 rfl rfl rfl ?_
  have f14 := ((F2_0.keep K7 (ninS ne9 nin0)).other W11 (Or.inr (sn_6 hw)))
  have f15 := ((F2_1.keep K7 (ninS ne9 nin0)).other W11 (Or.inr (sn_7 hw)))
  have f16 := ((F2_3.keep K7 (ninS ne9 nin0)).other W11 (Or.inr (sn_8 hw)))
  exact Go.retR rfl rfl rfl rfl d26_44 ⟨d_2, ky_2, rfl, K12, ge_d_2, sz_d_2, f14, f15, f13, f16, (F7_0.other W11 (Ne.symm ne9)), ((F2_5.keep K7).wr W11)⟩
theorem c_jC (hw : HW a0 Z) (h : Heap) (a b : Addr) (m : Nat) (N : Nat) (i : Nat) (es : List Int32) (c cp : Int32) (wf : Value) (hm : n0 ≤ m) (hNi : (N, i) ∈ [(1, 0), (2, 0), (2, 1), (3, 0), (3, 1), (3, 2)]) (hnc : nar .char c = c) (hcp : ¬ (cp = (0 : Int32))) (hwf : wf.isRef = true) (scp : Zcp Z (.int cp)) (sad : Zad Z (.int 1)) (shi : Zhi Z (.int 0)) (slo : Zlo Z (.int 8)) (sfm : Zfm Z wf) (xa : EB Z h a) (bd : Bld Z h a b m N i es) :
    Con l M_25 q47 2 (some (.object "java/lang/AbstractStringBuilder")) (rm4 6 2 32 89) Z n0 #[(.ref a), (.int c)] h (fun v h' => ∃ bq : Addr, v = some (.ref a) ∧ Keep h h' [a, b] ∧ Bld Z h' a bq m N (i + 1) (es ++ [c]) ∧ (bq = b ∨ h.size ≤ bq)) := by
  obtain ⟨z, cd, kb, hst, f0, f1, f2, f3, A, xb, ma, mb, hL, hn⟩ := bd
  have ga : n0 ≤ a := Nat.le_trans hm ma
  have gb : n0 ≤ b := Nat.le_trans hm mb
  simp only [List.mem_cons, List.not_mem_nil, or_false, Prod.mk.injEq] at hNi
  rcases hNi with ⟨rfl, rfl⟩ | ⟨rfl, rfl⟩ | ⟨rfl, rfl⟩ | ⟨rfl, rfl⟩ | ⟨rfl, rfl⟩ | ⟨rfl, rfl⟩
  · rcases sts_1_0 hst with ⟨hl, rfl, rfl⟩
    · obtain rfl := len_0 hl
      by_cases hc : (255 : Int32) < c
      · exact (c_apUN0 l Z a0 hw h a b kb (1 : Int32) ([(.int 0)]) (2 : Int32) c cp wf hcp hwf hc (by decide) (by decide) (by decide) (by decide) (by decide) (by decide) (by decide) (by decide) (by decide) (by decide) (by decide) scp sad shi slo sfm ga gb xa xb f0 f1 f2 f3 A).mono (fun v h' q => by
        obtain ⟨d, ky, rfl, K, gd, sd, F0, F1, F2, F3, A2, X2⟩ := q
        exact ⟨d, rfl, K, ⟨2, 1, ky, (show ((1 : Nat), (2 : Nat), (1 : Nat)) ∈ sts 1 1 from by decide), F0, F1, F2.cI (v' := (1 : Int32)) (by decide), F3, (A2.pad (pad_rep (encS 1 [c]) (.int 0) 0)), X2, ma, (own_mb mb A sd), (fun q => absurd q (by decide)), (own_all hn (own_one hnc))⟩, Or.inr sd⟩)
      · exact (c_apLN l Z a0 hw h a b kb (1 : Int32) ([(.int 0)]) (0 : Int32) c cp wf hcp hc (by decide) (by decide) (by decide) (nl rfl) scp sad shi slo sfm ga gb xa xb f0 f1 f2 f3 A).mono (fun v h' q => by
        obtain ⟨rfl, K, F0, F1, F2, F3, A2, X2⟩ := q
        exact ⟨b, rfl, K, ⟨1, 0, kb, (show ((1 : Nat), (1 : Nat), (0 : Nat)) ∈ sts 1 1 from by decide), F0, F1, F2.cI (v' := (1 : Int32)) (by decide), F3, A2, X2, ma, mb, (fun _ => own_all (hL rfl) (own_one hc)), (own_all hn (own_one hnc))⟩, Or.inl rfl⟩)
  · rcases sts_2_0 hst with ⟨hl, rfl, rfl⟩
    · obtain rfl := len_0 hl
      by_cases hc : (255 : Int32) < c
      · exact (c_apUN0 l Z a0 hw h a b kb (2 : Int32) ([(.int 0), (.int 0)]) (4 : Int32) c cp wf hcp hwf hc (by decide) (by decide) (by decide) (by decide) (by decide) (by decide) (by decide) (by decide) (by decide) (by decide) (by decide) scp sad shi slo sfm ga gb xa xb f0 f1 f2 f3 A).mono (fun v h' q => by
        obtain ⟨d, ky, rfl, K, gd, sd, F0, F1, F2, F3, A2, X2⟩ := q
        exact ⟨d, rfl, K, ⟨4, 1, ky, (show ((1 : Nat), (4 : Nat), (1 : Nat)) ∈ sts 2 1 from by decide), F0, F1, F2.cI (v' := (1 : Int32)) (by decide), F3, (A2.pad (pad_rep (encS 1 [c]) (.int 0) 2)), X2, ma, (own_mb mb A sd), (fun q => absurd q (by decide)), (own_all hn (own_one hnc))⟩, Or.inr sd⟩)
      · exact (c_apLN l Z a0 hw h a b kb (2 : Int32) ([(.int 0), (.int 0)]) (0 : Int32) c cp wf hcp hc (by decide) (by decide) (by decide) (nl rfl) scp sad shi slo sfm ga gb xa xb f0 f1 f2 f3 A).mono (fun v h' q => by
        obtain ⟨rfl, K, F0, F1, F2, F3, A2, X2⟩ := q
        exact ⟨b, rfl, K, ⟨2, 0, kb, (show ((1 : Nat), (2 : Nat), (0 : Nat)) ∈ sts 2 1 from by decide), F0, F1, F2.cI (v' := (1 : Int32)) (by decide), F3, A2, X2, ma, mb, (fun _ => own_all (hL rfl) (own_one hc)), (own_all hn (own_one hnc))⟩, Or.inl rfl⟩)
  · rcases sts_2_1 hst with ⟨hl, rfl, rfl⟩ | ⟨hl, rfl, rfl⟩ | ⟨hl, rfl, rfl⟩
    · obtain ⟨e0, rfl⟩ := len_1 hl
      by_cases hc : (255 : Int32) < c
      · exact (c_apUN1 l Z a0 hw h a b kb (2 : Int32) ([(by8 e0), (.int 0)]) (4 : Int32) e0 c cp wf hcp hwf hc (by decide) (by decide) (by decide) (by decide) (by decide) (by decide) (by decide) rfl ((own_b255 (hL rfl e0 (by simp)) (hn e0 (by simp)))) (by decide) (by decide) (by decide) (by decide) (by decide) (by decide) (by decide) scp sad shi slo sfm ga gb xa xb f0 f1 f2 f3 A).mono (fun v h' q => by
        obtain ⟨d, ky, rfl, K, gd, sd, F0, F1, F2, F3, A2, X2⟩ := q
        exact ⟨d, rfl, K, ⟨4, 1, ky, (show ((2 : Nat), (4 : Nat), (1 : Nat)) ∈ sts 2 2 from by decide), F0, F1, F2.cI (v' := (2 : Int32)) (by decide), F3, (A2.pad (pad_rep (encS 1 [e0, c]) (.int 0) 0)), X2, ma, (own_mb mb A sd), (fun q => absurd q (by decide)), (own_all hn (own_one hnc))⟩, Or.inr sd⟩)
      · exact (c_apLN l Z a0 hw h a b kb (2 : Int32) ([(by8 e0), (.int 0)]) (1 : Int32) c cp wf hcp hc (by decide) (by decide) (by decide) (nl rfl) scp sad shi slo sfm ga gb xa xb f0 f1 f2 f3 A).mono (fun v h' q => by
        obtain ⟨rfl, K, F0, F1, F2, F3, A2, X2⟩ := q
        exact ⟨b, rfl, K, ⟨2, 0, kb, (show ((2 : Nat), (2 : Nat), (0 : Nat)) ∈ sts 2 2 from by decide), F0, F1, F2.cI (v' := (2 : Int32)) (by decide), F3, A2, X2, ma, mb, (fun _ => own_all (hL rfl) (own_one hc)), (own_all hn (own_one hnc))⟩, Or.inl rfl⟩)
    · obtain ⟨e0, rfl⟩ := len_1 hl
      exact (c_apCN l Z a0 hw h a b kb (4 : Int32) ([(loB e0), (hiB e0), (.int 0), (.int 0)]) (1 : Int32) (2 : Int32) (3 : Int32) c cp wf hcp hwf (by decide) (by decide) (by decide) (by decide) (by decide) (by decide) (by decide) (nl rfl) (nl rfl) (by decide) (by decide) scp sad shi slo sfm ga gb xa xb f0 f1 f2 f3 A).mono (fun v h' q => by
        obtain ⟨rfl, K, F0, F1, F2, F3, A2, X2⟩ := q
        exact ⟨b, rfl, K, ⟨4, 1, kb, (show ((2 : Nat), (4 : Nat), (1 : Nat)) ∈ sts 2 2 from by decide), F0, F1, F2.cI (v' := (2 : Int32)) (by decide), F3, A2, X2, ma, mb, (fun q => absurd q (by decide)), (own_all hn (own_one hnc))⟩, Or.inl rfl⟩)
    · obtain ⟨e0, e1, rfl⟩ := len_2 hl
      by_cases hc : (255 : Int32) < c
      · exact (c_apUG2 l Z a0 hw h a b kb (2 : Int32) ([(by8 e0), (by8 e1)]) (6 : Int32) 4 (12 : Int32) e0 e1 c cp wf hcp hwf hc (by decide) (by decide) (by decide) (by decide) (by decide) (by decide) (by decide) (by decide) (by decide) (by decide) (by decide) (nl rfl) (by decide) (by decide) (by decide) (by decide) (by decide) (by decide) rfl ((own_b255 (hL rfl e0 (by simp)) (hn e0 (by simp)))) (by decide) rfl ((own_b255 (hL rfl e1 (by simp)) (hn e1 (by simp)))) (by decide) (by decide) (by decide) (by decide) (by decide) (by decide) (by decide) (by decide) (by decide) scp sad shi slo sfm ga gb xa xb f0 f1 f2 f3 A).mono (fun v h' q => by
        obtain ⟨d, ky, rfl, K, gd, sd, F0, F1, F2, F3, A2, X2⟩ := q
        exact ⟨d, rfl, K, ⟨12, 1, ky, (show ((3 : Nat), (12 : Nat), (1 : Nat)) ∈ sts 2 2 from by decide), F0, F1, F2.cI (v' := (3 : Int32)) (by decide), F3, (A2.pad (pad_rep (encS 1 [e0, e1, c]) (.int 0) 6)), X2, ma, (own_mb mb A sd), (fun q => absurd q (by decide)), (own_all hn (own_one hnc))⟩, Or.inr sd⟩)
      · exact (c_apLG l Z a0 hw h a b kb (2 : Int32) ([(by8 e0), (by8 e1)]) (2 : Int32) c (6 : Int32) 4 cp wf hcp hc (by decide) (by decide) (by decide) (by decide) (by decide) (by decide) (by decide) (by decide) (by decide) (by decide) (by decide) (nl rfl) (by decide) (by decide) (nl rfl) scp sad shi slo sfm ga gb xa xb f0 f1 f2 f3 A).mono (fun v h' q => by
        obtain ⟨d, ky, rfl, K, gd, sd, F0, F1, F2, F3, A2, X2⟩ := q
        exact ⟨d, rfl, K, ⟨6, 0, ky, (show ((3 : Nat), (6 : Nat), (0 : Nat)) ∈ sts 2 2 from by decide), F0, F1, F2.cI (v' := (3 : Int32)) (by decide), F3, A2, X2, ma, (own_mb mb A sd), (fun _ => own_all (hL rfl) (own_one hc)), (own_all hn (own_one hnc))⟩, Or.inr sd⟩)
  · rcases sts_3_0 hst with ⟨hl, rfl, rfl⟩
    · obtain rfl := len_0 hl
      by_cases hc : (255 : Int32) < c
      · exact (c_apUN0 l Z a0 hw h a b kb (3 : Int32) ([(.int 0), (.int 0), (.int 0)]) (6 : Int32) c cp wf hcp hwf hc (by decide) (by decide) (by decide) (by decide) (by decide) (by decide) (by decide) (by decide) (by decide) (by decide) (by decide) scp sad shi slo sfm ga gb xa xb f0 f1 f2 f3 A).mono (fun v h' q => by
        obtain ⟨d, ky, rfl, K, gd, sd, F0, F1, F2, F3, A2, X2⟩ := q
        exact ⟨d, rfl, K, ⟨6, 1, ky, (show ((1 : Nat), (6 : Nat), (1 : Nat)) ∈ sts 3 1 from by decide), F0, F1, F2.cI (v' := (1 : Int32)) (by decide), F3, (A2.pad (pad_rep (encS 1 [c]) (.int 0) 4)), X2, ma, (own_mb mb A sd), (fun q => absurd q (by decide)), (own_all hn (own_one hnc))⟩, Or.inr sd⟩)
      · exact (c_apLN l Z a0 hw h a b kb (3 : Int32) ([(.int 0), (.int 0), (.int 0)]) (0 : Int32) c cp wf hcp hc (by decide) (by decide) (by decide) (nl rfl) scp sad shi slo sfm ga gb xa xb f0 f1 f2 f3 A).mono (fun v h' q => by
        obtain ⟨rfl, K, F0, F1, F2, F3, A2, X2⟩ := q
        exact ⟨b, rfl, K, ⟨3, 0, kb, (show ((1 : Nat), (3 : Nat), (0 : Nat)) ∈ sts 3 1 from by decide), F0, F1, F2.cI (v' := (1 : Int32)) (by decide), F3, A2, X2, ma, mb, (fun _ => own_all (hL rfl) (own_one hc)), (own_all hn (own_one hnc))⟩, Or.inl rfl⟩)
  · rcases sts_3_1 hst with ⟨hl, rfl, rfl⟩ | ⟨hl, rfl, rfl⟩ | ⟨hl, rfl, rfl⟩
    · obtain ⟨e0, rfl⟩ := len_1 hl
      by_cases hc : (255 : Int32) < c
      · exact (c_apUN1 l Z a0 hw h a b kb (3 : Int32) ([(by8 e0), (.int 0), (.int 0)]) (6 : Int32) e0 c cp wf hcp hwf hc (by decide) (by decide) (by decide) (by decide) (by decide) (by decide) (by decide) rfl ((own_b255 (hL rfl e0 (by simp)) (hn e0 (by simp)))) (by decide) (by decide) (by decide) (by decide) (by decide) (by decide) (by decide) scp sad shi slo sfm ga gb xa xb f0 f1 f2 f3 A).mono (fun v h' q => by
        obtain ⟨d, ky, rfl, K, gd, sd, F0, F1, F2, F3, A2, X2⟩ := q
        exact ⟨d, rfl, K, ⟨6, 1, ky, (show ((2 : Nat), (6 : Nat), (1 : Nat)) ∈ sts 3 2 from by decide), F0, F1, F2.cI (v' := (2 : Int32)) (by decide), F3, (A2.pad (pad_rep (encS 1 [e0, c]) (.int 0) 2)), X2, ma, (own_mb mb A sd), (fun q => absurd q (by decide)), (own_all hn (own_one hnc))⟩, Or.inr sd⟩)
      · exact (c_apLN l Z a0 hw h a b kb (3 : Int32) ([(by8 e0), (.int 0), (.int 0)]) (1 : Int32) c cp wf hcp hc (by decide) (by decide) (by decide) (nl rfl) scp sad shi slo sfm ga gb xa xb f0 f1 f2 f3 A).mono (fun v h' q => by
        obtain ⟨rfl, K, F0, F1, F2, F3, A2, X2⟩ := q
        exact ⟨b, rfl, K, ⟨3, 0, kb, (show ((2 : Nat), (3 : Nat), (0 : Nat)) ∈ sts 3 2 from by decide), F0, F1, F2.cI (v' := (2 : Int32)) (by decide), F3, A2, X2, ma, mb, (fun _ => own_all (hL rfl) (own_one hc)), (own_all hn (own_one hnc))⟩, Or.inl rfl⟩)
    · obtain ⟨e0, rfl⟩ := len_1 hl
      exact (c_apCN l Z a0 hw h a b kb (6 : Int32) ([(loB e0), (hiB e0), (.int 0), (.int 0), (.int 0), (.int 0)]) (1 : Int32) (2 : Int32) (3 : Int32) c cp wf hcp hwf (by decide) (by decide) (by decide) (by decide) (by decide) (by decide) (by decide) (nl rfl) (nl rfl) (by decide) (by decide) scp sad shi slo sfm ga gb xa xb f0 f1 f2 f3 A).mono (fun v h' q => by
        obtain ⟨rfl, K, F0, F1, F2, F3, A2, X2⟩ := q
        exact ⟨b, rfl, K, ⟨6, 1, kb, (show ((2 : Nat), (6 : Nat), (1 : Nat)) ∈ sts 3 2 from by decide), F0, F1, F2.cI (v' := (2 : Int32)) (by decide), F3, A2, X2, ma, mb, (fun q => absurd q (by decide)), (own_all hn (own_one hnc))⟩, Or.inl rfl⟩)
    · obtain ⟨e0, e1, rfl⟩ := len_2 hl
      by_cases hc : (255 : Int32) < c
      · exact (c_apUN2 l Z a0 hw h a b kb (3 : Int32) ([(by8 e0), (by8 e1), (.int 0)]) (6 : Int32) e0 e1 c cp wf hcp hwf hc (by decide) (by decide) (by decide) (by decide) (by decide) (by decide) (by decide) rfl ((own_b255 (hL rfl e0 (by simp)) (hn e0 (by simp)))) (by decide) rfl ((own_b255 (hL rfl e1 (by simp)) (hn e1 (by simp)))) (by decide) (by decide) (by decide) (by decide) (by decide) (by decide) (by decide) (by decide) (by decide) scp sad shi slo sfm ga gb xa xb f0 f1 f2 f3 A).mono (fun v h' q => by
        obtain ⟨d, ky, rfl, K, gd, sd, F0, F1, F2, F3, A2, X2⟩ := q
        exact ⟨d, rfl, K, ⟨6, 1, ky, (show ((3 : Nat), (6 : Nat), (1 : Nat)) ∈ sts 3 2 from by decide), F0, F1, F2.cI (v' := (3 : Int32)) (by decide), F3, (A2.pad (pad_rep (encS 1 [e0, e1, c]) (.int 0) 0)), X2, ma, (own_mb mb A sd), (fun q => absurd q (by decide)), (own_all hn (own_one hnc))⟩, Or.inr sd⟩)
      · exact (c_apLN l Z a0 hw h a b kb (3 : Int32) ([(by8 e0), (by8 e1), (.int 0)]) (2 : Int32) c cp wf hcp hc (by decide) (by decide) (by decide) (nl rfl) scp sad shi slo sfm ga gb xa xb f0 f1 f2 f3 A).mono (fun v h' q => by
        obtain ⟨rfl, K, F0, F1, F2, F3, A2, X2⟩ := q
        exact ⟨b, rfl, K, ⟨3, 0, kb, (show ((3 : Nat), (3 : Nat), (0 : Nat)) ∈ sts 3 2 from by decide), F0, F1, F2.cI (v' := (3 : Int32)) (by decide), F3, A2, X2, ma, mb, (fun _ => own_all (hL rfl) (own_one hc)), (own_all hn (own_one hnc))⟩, Or.inl rfl⟩)
  · rcases sts_3_2 hst with ⟨hl, rfl, rfl⟩ | ⟨hl, rfl, rfl⟩ | ⟨hl, rfl, rfl⟩ | ⟨hl, rfl, rfl⟩ | ⟨hl, rfl, rfl⟩
    · obtain ⟨e0, e1, rfl⟩ := len_2 hl
      by_cases hc : (255 : Int32) < c
      · exact (c_apUN2 l Z a0 hw h a b kb (3 : Int32) ([(by8 e0), (by8 e1), (.int 0)]) (6 : Int32) e0 e1 c cp wf hcp hwf hc (by decide) (by decide) (by decide) (by decide) (by decide) (by decide) (by decide) rfl ((own_b255 (hL rfl e0 (by simp)) (hn e0 (by simp)))) (by decide) rfl ((own_b255 (hL rfl e1 (by simp)) (hn e1 (by simp)))) (by decide) (by decide) (by decide) (by decide) (by decide) (by decide) (by decide) (by decide) (by decide) scp sad shi slo sfm ga gb xa xb f0 f1 f2 f3 A).mono (fun v h' q => by
        obtain ⟨d, ky, rfl, K, gd, sd, F0, F1, F2, F3, A2, X2⟩ := q
        exact ⟨d, rfl, K, ⟨6, 1, ky, (show ((3 : Nat), (6 : Nat), (1 : Nat)) ∈ sts 3 3 from by decide), F0, F1, F2.cI (v' := (3 : Int32)) (by decide), F3, (A2.pad (pad_rep (encS 1 [e0, e1, c]) (.int 0) 0)), X2, ma, (own_mb mb A sd), (fun q => absurd q (by decide)), (own_all hn (own_one hnc))⟩, Or.inr sd⟩)
      · exact (c_apLN l Z a0 hw h a b kb (3 : Int32) ([(by8 e0), (by8 e1), (.int 0)]) (2 : Int32) c cp wf hcp hc (by decide) (by decide) (by decide) (nl rfl) scp sad shi slo sfm ga gb xa xb f0 f1 f2 f3 A).mono (fun v h' q => by
        obtain ⟨rfl, K, F0, F1, F2, F3, A2, X2⟩ := q
        exact ⟨b, rfl, K, ⟨3, 0, kb, (show ((3 : Nat), (3 : Nat), (0 : Nat)) ∈ sts 3 3 from by decide), F0, F1, F2.cI (v' := (3 : Int32)) (by decide), F3, A2, X2, ma, mb, (fun _ => own_all (hL rfl) (own_one hc)), (own_all hn (own_one hnc))⟩, Or.inl rfl⟩)
    · obtain ⟨e0, e1, rfl⟩ := len_2 hl
      exact (c_apCN l Z a0 hw h a b kb (6 : Int32) ([(loB e0), (hiB e0), (loB e1), (hiB e1), (.int 0), (.int 0)]) (2 : Int32) (4 : Int32) (5 : Int32) c cp wf hcp hwf (by decide) (by decide) (by decide) (by decide) (by decide) (by decide) (by decide) (nl rfl) (nl rfl) (by decide) (by decide) scp sad shi slo sfm ga gb xa xb f0 f1 f2 f3 A).mono (fun v h' q => by
        obtain ⟨rfl, K, F0, F1, F2, F3, A2, X2⟩ := q
        exact ⟨b, rfl, K, ⟨6, 1, kb, (show ((3 : Nat), (6 : Nat), (1 : Nat)) ∈ sts 3 3 from by decide), F0, F1, F2.cI (v' := (3 : Int32)) (by decide), F3, A2, X2, ma, mb, (fun q => absurd q (by decide)), (own_all hn (own_one hnc))⟩, Or.inl rfl⟩)
    · obtain ⟨e0, e1, e2, rfl⟩ := len_3 hl
      by_cases hc : (255 : Int32) < c
      · exact (c_apUG3 l Z a0 hw h a b kb (3 : Int32) ([(by8 e0), (by8 e1), (by8 e2)]) (8 : Int32) 5 (16 : Int32) e0 e1 e2 c cp wf hcp hwf hc (by decide) (by decide) (by decide) (by decide) (by decide) (by decide) (by decide) (by decide) (by decide) (by decide) (by decide) (nl rfl) (by decide) (by decide) (by decide) (by decide) (by decide) (by decide) rfl ((own_b255 (hL rfl e0 (by simp)) (hn e0 (by simp)))) (by decide) rfl ((own_b255 (hL rfl e1 (by simp)) (hn e1 (by simp)))) (by decide) rfl ((own_b255 (hL rfl e2 (by simp)) (hn e2 (by simp)))) (by decide) (by decide) (by decide) (by decide) (by decide) (by decide) (by decide) (by decide) (by decide) (by decide) (by decide) scp sad shi slo sfm ga gb xa xb f0 f1 f2 f3 A).mono (fun v h' q => by
        obtain ⟨d, ky, rfl, K, gd, sd, F0, F1, F2, F3, A2, X2⟩ := q
        exact ⟨d, rfl, K, ⟨16, 1, ky, (show ((4 : Nat), (16 : Nat), (1 : Nat)) ∈ sts 3 3 from by decide), F0, F1, F2.cI (v' := (4 : Int32)) (by decide), F3, (A2.pad (pad_rep (encS 1 [e0, e1, e2, c]) (.int 0) 8)), X2, ma, (own_mb mb A sd), (fun q => absurd q (by decide)), (own_all hn (own_one hnc))⟩, Or.inr sd⟩)
      · exact (c_apLG l Z a0 hw h a b kb (3 : Int32) ([(by8 e0), (by8 e1), (by8 e2)]) (3 : Int32) c (8 : Int32) 5 cp wf hcp hc (by decide) (by decide) (by decide) (by decide) (by decide) (by decide) (by decide) (by decide) (by decide) (by decide) (by decide) (nl rfl) (by decide) (by decide) (nl rfl) scp sad shi slo sfm ga gb xa xb f0 f1 f2 f3 A).mono (fun v h' q => by
        obtain ⟨d, ky, rfl, K, gd, sd, F0, F1, F2, F3, A2, X2⟩ := q
        exact ⟨d, rfl, K, ⟨8, 0, ky, (show ((4 : Nat), (8 : Nat), (0 : Nat)) ∈ sts 3 3 from by decide), F0, F1, F2.cI (v' := (4 : Int32)) (by decide), F3, A2, X2, ma, (own_mb mb A sd), (fun _ => own_all (hL rfl) (own_one hc)), (own_all hn (own_one hnc))⟩, Or.inr sd⟩)
    · obtain ⟨e0, e1, e2, rfl⟩ := len_3 hl
      exact (c_apCG l Z a0 hw h a b kb (6 : Int32) ([(loB e0), (hiB e0), (loB e1), (hiB e1), (loB e2), (hiB e2)]) (3 : Int32) (16 : Int32) 10 (6 : Int32) (7 : Int32) c cp wf hcp hwf (by decide) (by decide) (by decide) (by decide) (by decide) (by decide) (by decide) (by decide) (by decide) (by decide) (by decide) (nl rfl) (by decide) (by decide) (by decide) (by decide) (by decide) (by decide) (nl rfl) (nl rfl) (by decide) (by decide) scp sad shi slo sfm ga gb xa xb f0 f1 f2 f3 A).mono (fun v h' q => by
        obtain ⟨d, ky, rfl, K, gd, sd, F0, F1, F2, F3, A2, X2⟩ := q
        exact ⟨d, rfl, K, ⟨16, 1, ky, (show ((4 : Nat), (16 : Nat), (1 : Nat)) ∈ sts 3 3 from by decide), F0, F1, F2.cI (v' := (4 : Int32)) (by decide), F3, A2, X2, ma, (own_mb mb A sd), (fun q => absurd q (by decide)), (own_all hn (own_one hnc))⟩, Or.inr sd⟩)
    · obtain ⟨e0, e1, e2, e3, rfl⟩ := len_4 hl
      by_cases hc : (255 : Int32) < c
      · exact (c_apUN4 l Z a0 hw h a b kb (8 : Int32) ([(by8 e0), (by8 e1), (by8 e2), (by8 e3), (.int 0), (.int 0), (.int 0), (.int 0)]) (16 : Int32) e0 e1 e2 e3 c cp wf hcp hwf hc (by decide) (by decide) (by decide) (by decide) (by decide) (by decide) (by decide) rfl ((own_b255 (hL rfl e0 (by simp)) (hn e0 (by simp)))) (by decide) rfl ((own_b255 (hL rfl e1 (by simp)) (hn e1 (by simp)))) (by decide) rfl ((own_b255 (hL rfl e2 (by simp)) (hn e2 (by simp)))) (by decide) rfl ((own_b255 (hL rfl e3 (by simp)) (hn e3 (by simp)))) (by decide) (by decide) (by decide) (by decide) (by decide) (by decide) (by decide) (by decide) (by decide) (by decide) (by decide) (by decide) (by decide) scp sad shi slo sfm ga gb xa xb f0 f1 f2 f3 A).mono (fun v h' q => by
        obtain ⟨d, ky, rfl, K, gd, sd, F0, F1, F2, F3, A2, X2⟩ := q
        exact ⟨d, rfl, K, ⟨16, 1, ky, (show ((5 : Nat), (16 : Nat), (1 : Nat)) ∈ sts 3 3 from by decide), F0, F1, F2.cI (v' := (5 : Int32)) (by decide), F3, (A2.pad (pad_rep (encS 1 [e0, e1, e2, e3, c]) (.int 0) 6)), X2, ma, (own_mb mb A sd), (fun q => absurd q (by decide)), (own_all hn (own_one hnc))⟩, Or.inr sd⟩)
      · exact (c_apLN l Z a0 hw h a b kb (8 : Int32) ([(by8 e0), (by8 e1), (by8 e2), (by8 e3), (.int 0), (.int 0), (.int 0), (.int 0)]) (4 : Int32) c cp wf hcp hc (by decide) (by decide) (by decide) (nl rfl) scp sad shi slo sfm ga gb xa xb f0 f1 f2 f3 A).mono (fun v h' q => by
        obtain ⟨rfl, K, F0, F1, F2, F3, A2, X2⟩ := q
        exact ⟨b, rfl, K, ⟨8, 0, kb, (show ((5 : Nat), (8 : Nat), (0 : Nat)) ∈ sts 3 3 from by decide), F0, F1, F2.cI (v' := (5 : Int32)) (by decide), F3, A2, X2, ma, mb, (fun _ => own_all (hL rfl) (own_one hc)), (own_all hn (own_one hnc))⟩, Or.inl rfl⟩)
theorem c_jS (hw : HW a0 Z) (h : Heap) (a b : Addr) (m : Nat) (N : Nat) (i : Nat) (es : List Int32) (s sb : Addr) (k cp : Int32) (wf : Value) (hm : n0 ≤ m) (hNi : (N, i) ∈ [(1, 0), (2, 0), (2, 1), (3, 0), (3, 1), (3, 2)]) (hk : (k.toInt8.toInt32 &&& (255 : Int32)) = k) (hnk : nar .char k = k) (hkl : ¬ ((255 : Int32) < k)) (hcp : ¬ (cp = (0 : Int32))) (hwf : wf.isRef = true) (scp : Zcp Z (.int cp)) (sad : Zad Z (.int 1)) (shi : Zhi Z (.int 0)) (slo : Zlo Z (.int 8)) (sfm : Zfm Z wf) (ne_sb_b : sb ≠ b) (xa : EB Z h a) (bd : Bld Z h a b m N i es) (xs : ES Z h s) (lt : Lit2 Z h s sb k) :
    Con l M_30 q26 3 (some (.object "java/lang/AbstractStringBuilder")) (rm4 7 1 16 105) Z n0 #[(.ref a), (.ref s)] h (fun v h' => ∃ bq : Addr, v = some (.ref a) ∧ Keep h h' [a, b] ∧ Bld Z h' a bq m N (i + 1) (es ++ [(92 : Int32), k]) ∧ (bq = b ∨ h.size ≤ bq)) := by
  obtain ⟨ks, fs, gs, w, xsb⟩ := lt
  have nsb := ne_sb_b
  obtain ⟨z, cd, kb, hst, f0, f1, f2, f3, A, xb, ma, mb, hL, hn⟩ := bd
  have ga : n0 ≤ a := Nat.le_trans hm ma
  have gb : n0 ≤ b := Nat.le_trans hm mb
  simp only [List.mem_cons, List.not_mem_nil, or_false, Prod.mk.injEq] at hNi
  rcases hNi with ⟨rfl, rfl⟩ | ⟨rfl, rfl⟩ | ⟨rfl, rfl⟩ | ⟨rfl, rfl⟩ | ⟨rfl, rfl⟩ | ⟨rfl, rfl⟩
  · rcases sts_1_0 hst with ⟨hl, rfl, rfl⟩
    · obtain rfl := len_0 hl
      exact (c_apSG0 l Z a0 hw h a b kb (1 : Int32) ([(.int 0)]) (0 : Int32) (4 : Int32) 3 s sb ks ((92 : Int32).toInt8.toInt32) k.toInt8.toInt32 cp wf hcp hwf (by decide) (by decide) (nl rfl) (by decide) (by decide) (by decide) (by decide) (by decide) (by decide) (by decide) (by decide) (by decide) (by decide) (by decide) (nl rfl) scp sad shi slo sfm ga gb nsb xa xb f0 f1 f2 f3 xs fs gs w xsb A).mono (fun v h' q => by
        obtain ⟨d, ky, rfl, K, gd, sd, F0, F1, F2, F3, A2, X2⟩ := q
        exact ⟨d, rfl, K, ⟨4, 0, ky, (show ((2 : Nat), (4 : Nat), (0 : Nat)) ∈ sts 1 1 from by decide), F0, F1, F2.cI (v' := (2 : Int32)) (by decide), F3, A2, X2, ma, (own_mb mb A sd), (fun _ => own_all (hL rfl) (own_two (by decide) hkl)), (own_all hn (own_two (by decide) hnk))⟩, Or.inr sd⟩)
  · rcases sts_2_0 hst with ⟨hl, rfl, rfl⟩
    · obtain rfl := len_0 hl
      exact (c_apSN0 l Z a0 hw h a b kb (2 : Int32) ([(.int 0), (.int 0)]) (0 : Int32) s sb ks ((92 : Int32).toInt8.toInt32) k.toInt8.toInt32 cp wf hcp hwf (by decide) (by decide) (nl rfl) (by decide) scp sad shi slo sfm ga gb nsb xa xb f0 f1 f2 f3 xs fs gs w xsb A).mono (fun v h' q => by
        obtain ⟨rfl, K, F0, F1, F2, F3, A2, X2⟩ := q
        exact ⟨b, rfl, K, ⟨2, 0, kb, (show ((2 : Nat), (2 : Nat), (0 : Nat)) ∈ sts 2 1 from by decide), F0, F1, F2.cI (v' := (2 : Int32)) (by decide), F3, A2, X2, ma, mb, (fun _ => own_all (hL rfl) (own_two (by decide) hkl)), (own_all hn (own_two (by decide) hnk))⟩, Or.inl rfl⟩)
  · rcases sts_2_1 hst with ⟨hl, rfl, rfl⟩ | ⟨hl, rfl, rfl⟩ | ⟨hl, rfl, rfl⟩
    · obtain ⟨e0, rfl⟩ := len_1 hl
      exact (c_apSG0 l Z a0 hw h a b kb (2 : Int32) ([(by8 e0), (.int 0)]) (1 : Int32) (6 : Int32) 4 s sb ks ((92 : Int32).toInt8.toInt32) k.toInt8.toInt32 cp wf hcp hwf (by decide) (by decide) (nl rfl) (by decide) (by decide) (by decide) (by decide) (by decide) (by decide) (by decide) (by decide) (by decide) (by decide) (by decide) (nl rfl) scp sad shi slo sfm ga gb nsb xa xb f0 f1 f2 f3 xs fs gs w xsb A).mono (fun v h' q => by
        obtain ⟨d, ky, rfl, K, gd, sd, F0, F1, F2, F3, A2, X2⟩ := q
        exact ⟨d, rfl, K, ⟨6, 0, ky, (show ((3 : Nat), (6 : Nat), (0 : Nat)) ∈ sts 2 2 from by decide), F0, F1, F2.cI (v' := (3 : Int32)) (by decide), F3, A2, X2, ma, (own_mb mb A sd), (fun _ => own_all (hL rfl) (own_two (by decide) hkl)), (own_all hn (own_two (by decide) hnk))⟩, Or.inr sd⟩)
    · obtain ⟨e0, rfl⟩ := len_1 hl
      exact (c_apSG1 l Z a0 hw h a b kb (4 : Int32) ([(loB e0), (hiB e0), (.int 0), (.int 0)]) (1 : Int32) (12 : Int32) 8 s sb ks ((92 : Int32).toInt8.toInt32) k.toInt8.toInt32 (92 : Int32) k (2 : Int32) (2 : Int32) (3 : Int32) (4 : Int32) (5 : Int32) cp wf hcp hwf (by decide) hk (by decide) (by decide) (by decide) (by decide) (by decide) (by decide) (by decide) (by decide) (by decide) (by decide) (by decide) (by decide) (by decide) (nl rfl) (nl rfl) (nl rfl) (nl rfl) (by decide) (by decide) (by decide) (by decide) (by decide) (by decide) (by decide) (by decide) (by decide) (by decide) (by decide) (by decide) (by decide) (nl rfl) scp sad shi slo sfm ga gb nsb xa xb f0 f1 f2 f3 xs fs gs w xsb A).mono (fun v h' q => by
        obtain ⟨d, ky, rfl, K, gd, sd, F0, F1, F2, F3, A2, X2⟩ := q
        exact ⟨d, rfl, K, ⟨12, 1, ky, (show ((3 : Nat), (12 : Nat), (1 : Nat)) ∈ sts 2 2 from by decide), F0, F1, F2.cI (v' := (3 : Int32)) (by decide), F3, A2, X2, ma, (own_mb mb A sd), (fun q => absurd q (by decide)), (own_all hn (own_two (by decide) hnk))⟩, Or.inr sd⟩)
    · obtain ⟨e0, e1, rfl⟩ := len_2 hl
      exact (c_apSG0 l Z a0 hw h a b kb (2 : Int32) ([(by8 e0), (by8 e1)]) (2 : Int32) (6 : Int32) 4 s sb ks ((92 : Int32).toInt8.toInt32) k.toInt8.toInt32 cp wf hcp hwf (by decide) (by decide) (nl rfl) (by decide) (by decide) (by decide) (by decide) (by decide) (by decide) (by decide) (by decide) (by decide) (by decide) (by decide) (nl rfl) scp sad shi slo sfm ga gb nsb xa xb f0 f1 f2 f3 xs fs gs w xsb A).mono (fun v h' q => by
        obtain ⟨d, ky, rfl, K, gd, sd, F0, F1, F2, F3, A2, X2⟩ := q
        exact ⟨d, rfl, K, ⟨6, 0, ky, (show ((4 : Nat), (6 : Nat), (0 : Nat)) ∈ sts 2 2 from by decide), F0, F1, F2.cI (v' := (4 : Int32)) (by decide), F3, A2, X2, ma, (own_mb mb A sd), (fun _ => own_all (hL rfl) (own_two (by decide) hkl)), (own_all hn (own_two (by decide) hnk))⟩, Or.inr sd⟩)
  · rcases sts_3_0 hst with ⟨hl, rfl, rfl⟩
    · obtain rfl := len_0 hl
      exact (c_apSN0 l Z a0 hw h a b kb (3 : Int32) ([(.int 0), (.int 0), (.int 0)]) (0 : Int32) s sb ks ((92 : Int32).toInt8.toInt32) k.toInt8.toInt32 cp wf hcp hwf (by decide) (by decide) (nl rfl) (by decide) scp sad shi slo sfm ga gb nsb xa xb f0 f1 f2 f3 xs fs gs w xsb A).mono (fun v h' q => by
        obtain ⟨rfl, K, F0, F1, F2, F3, A2, X2⟩ := q
        exact ⟨b, rfl, K, ⟨3, 0, kb, (show ((2 : Nat), (3 : Nat), (0 : Nat)) ∈ sts 3 1 from by decide), F0, F1, F2.cI (v' := (2 : Int32)) (by decide), F3, A2, X2, ma, mb, (fun _ => own_all (hL rfl) (own_two (by decide) hkl)), (own_all hn (own_two (by decide) hnk))⟩, Or.inl rfl⟩)
  · rcases sts_3_1 hst with ⟨hl, rfl, rfl⟩ | ⟨hl, rfl, rfl⟩ | ⟨hl, rfl, rfl⟩
    · obtain ⟨e0, rfl⟩ := len_1 hl
      exact (c_apSN0 l Z a0 hw h a b kb (3 : Int32) ([(by8 e0), (.int 0), (.int 0)]) (1 : Int32) s sb ks ((92 : Int32).toInt8.toInt32) k.toInt8.toInt32 cp wf hcp hwf (by decide) (by decide) (nl rfl) (by decide) scp sad shi slo sfm ga gb nsb xa xb f0 f1 f2 f3 xs fs gs w xsb A).mono (fun v h' q => by
        obtain ⟨rfl, K, F0, F1, F2, F3, A2, X2⟩ := q
        exact ⟨b, rfl, K, ⟨3, 0, kb, (show ((3 : Nat), (3 : Nat), (0 : Nat)) ∈ sts 3 2 from by decide), F0, F1, F2.cI (v' := (3 : Int32)) (by decide), F3, A2, X2, ma, mb, (fun _ => own_all (hL rfl) (own_two (by decide) hkl)), (own_all hn (own_two (by decide) hnk))⟩, Or.inl rfl⟩)
    · obtain ⟨e0, rfl⟩ := len_1 hl
      exact (c_apSN1 l Z a0 hw h a b kb (6 : Int32) ([(loB e0), (hiB e0), (.int 0), (.int 0), (.int 0), (.int 0)]) (1 : Int32) s sb ks ((92 : Int32).toInt8.toInt32) k.toInt8.toInt32 (92 : Int32) k (2 : Int32) (2 : Int32) (3 : Int32) (4 : Int32) (5 : Int32) cp wf hcp hwf (by decide) hk (by decide) (by decide) (by decide) (by decide) (by decide) (by decide) (by decide) (by decide) (by decide) (by decide) (by decide) (by decide) (by decide) (nl rfl) (nl rfl) (nl rfl) (nl rfl) (by decide) (by decide) (by decide) scp sad shi slo sfm ga gb nsb xa xb f0 f1 f2 f3 xs fs gs w xsb A).mono (fun v h' q => by
        obtain ⟨rfl, K, F0, F1, F2, F3, A2, X2⟩ := q
        exact ⟨b, rfl, K, ⟨6, 1, kb, (show ((3 : Nat), (6 : Nat), (1 : Nat)) ∈ sts 3 2 from by decide), F0, F1, F2.cI (v' := (3 : Int32)) (by decide), F3, A2, X2, ma, mb, (fun q => absurd q (by decide)), (own_all hn (own_two (by decide) hnk))⟩, Or.inl rfl⟩)
    · obtain ⟨e0, e1, rfl⟩ := len_2 hl
      exact (c_apSG0 l Z a0 hw h a b kb (3 : Int32) ([(by8 e0), (by8 e1), (.int 0)]) (2 : Int32) (8 : Int32) 5 s sb ks ((92 : Int32).toInt8.toInt32) k.toInt8.toInt32 cp wf hcp hwf (by decide) (by decide) (nl rfl) (by decide) (by decide) (by decide) (by decide) (by decide) (by decide) (by decide) (by decide) (by decide) (by decide) (by decide) (nl rfl) scp sad shi slo sfm ga gb nsb xa xb f0 f1 f2 f3 xs fs gs w xsb A).mono (fun v h' q => by
        obtain ⟨d, ky, rfl, K, gd, sd, F0, F1, F2, F3, A2, X2⟩ := q
        exact ⟨d, rfl, K, ⟨8, 0, ky, (show ((4 : Nat), (8 : Nat), (0 : Nat)) ∈ sts 3 2 from by decide), F0, F1, F2.cI (v' := (4 : Int32)) (by decide), F3, A2, X2, ma, (own_mb mb A sd), (fun _ => own_all (hL rfl) (own_two (by decide) hkl)), (own_all hn (own_two (by decide) hnk))⟩, Or.inr sd⟩)
  · rcases sts_3_2 hst with ⟨hl, rfl, rfl⟩ | ⟨hl, rfl, rfl⟩ | ⟨hl, rfl, rfl⟩ | ⟨hl, rfl, rfl⟩ | ⟨hl, rfl, rfl⟩
    · obtain ⟨e0, e1, rfl⟩ := len_2 hl
      exact (c_apSG0 l Z a0 hw h a b kb (3 : Int32) ([(by8 e0), (by8 e1), (.int 0)]) (2 : Int32) (8 : Int32) 5 s sb ks ((92 : Int32).toInt8.toInt32) k.toInt8.toInt32 cp wf hcp hwf (by decide) (by decide) (nl rfl) (by decide) (by decide) (by decide) (by decide) (by decide) (by decide) (by decide) (by decide) (by decide) (by decide) (by decide) (nl rfl) scp sad shi slo sfm ga gb nsb xa xb f0 f1 f2 f3 xs fs gs w xsb A).mono (fun v h' q => by
        obtain ⟨d, ky, rfl, K, gd, sd, F0, F1, F2, F3, A2, X2⟩ := q
        exact ⟨d, rfl, K, ⟨8, 0, ky, (show ((4 : Nat), (8 : Nat), (0 : Nat)) ∈ sts 3 3 from by decide), F0, F1, F2.cI (v' := (4 : Int32)) (by decide), F3, A2, X2, ma, (own_mb mb A sd), (fun _ => own_all (hL rfl) (own_two (by decide) hkl)), (own_all hn (own_two (by decide) hnk))⟩, Or.inr sd⟩)
    · obtain ⟨e0, e1, rfl⟩ := len_2 hl
      exact (c_apSG1 l Z a0 hw h a b kb (6 : Int32) ([(loB e0), (hiB e0), (loB e1), (hiB e1), (.int 0), (.int 0)]) (2 : Int32) (16 : Int32) 10 s sb ks ((92 : Int32).toInt8.toInt32) k.toInt8.toInt32 (92 : Int32) k (3 : Int32) (4 : Int32) (5 : Int32) (6 : Int32) (7 : Int32) cp wf hcp hwf (by decide) hk (by decide) (by decide) (by decide) (by decide) (by decide) (by decide) (by decide) (by decide) (by decide) (by decide) (by decide) (by decide) (by decide) (nl rfl) (nl rfl) (nl rfl) (nl rfl) (by decide) (by decide) (by decide) (by decide) (by decide) (by decide) (by decide) (by decide) (by decide) (by decide) (by decide) (by decide) (by decide) (nl rfl) scp sad shi slo sfm ga gb nsb xa xb f0 f1 f2 f3 xs fs gs w xsb A).mono (fun v h' q => by
        obtain ⟨d, ky, rfl, K, gd, sd, F0, F1, F2, F3, A2, X2⟩ := q
        exact ⟨d, rfl, K, ⟨16, 1, ky, (show ((4 : Nat), (16 : Nat), (1 : Nat)) ∈ sts 3 3 from by decide), F0, F1, F2.cI (v' := (4 : Int32)) (by decide), F3, A2, X2, ma, (own_mb mb A sd), (fun q => absurd q (by decide)), (own_all hn (own_two (by decide) hnk))⟩, Or.inr sd⟩)
    · obtain ⟨e0, e1, e2, rfl⟩ := len_3 hl
      exact (c_apSG0 l Z a0 hw h a b kb (3 : Int32) ([(by8 e0), (by8 e1), (by8 e2)]) (3 : Int32) (8 : Int32) 5 s sb ks ((92 : Int32).toInt8.toInt32) k.toInt8.toInt32 cp wf hcp hwf (by decide) (by decide) (nl rfl) (by decide) (by decide) (by decide) (by decide) (by decide) (by decide) (by decide) (by decide) (by decide) (by decide) (by decide) (nl rfl) scp sad shi slo sfm ga gb nsb xa xb f0 f1 f2 f3 xs fs gs w xsb A).mono (fun v h' q => by
        obtain ⟨d, ky, rfl, K, gd, sd, F0, F1, F2, F3, A2, X2⟩ := q
        exact ⟨d, rfl, K, ⟨8, 0, ky, (show ((5 : Nat), (8 : Nat), (0 : Nat)) ∈ sts 3 3 from by decide), F0, F1, F2.cI (v' := (5 : Int32)) (by decide), F3, A2, X2, ma, (own_mb mb A sd), (fun _ => own_all (hL rfl) (own_two (by decide) hkl)), (own_all hn (own_two (by decide) hnk))⟩, Or.inr sd⟩)
    · obtain ⟨e0, e1, e2, rfl⟩ := len_3 hl
      exact (c_apSG1 l Z a0 hw h a b kb (6 : Int32) ([(loB e0), (hiB e0), (loB e1), (hiB e1), (loB e2), (hiB e2)]) (3 : Int32) (16 : Int32) 10 s sb ks ((92 : Int32).toInt8.toInt32) k.toInt8.toInt32 (92 : Int32) k (4 : Int32) (6 : Int32) (7 : Int32) (8 : Int32) (9 : Int32) cp wf hcp hwf (by decide) hk (by decide) (by decide) (by decide) (by decide) (by decide) (by decide) (by decide) (by decide) (by decide) (by decide) (by decide) (by decide) (by decide) (nl rfl) (nl rfl) (nl rfl) (nl rfl) (by decide) (by decide) (by decide) (by decide) (by decide) (by decide) (by decide) (by decide) (by decide) (by decide) (by decide) (by decide) (by decide) (nl rfl) scp sad shi slo sfm ga gb nsb xa xb f0 f1 f2 f3 xs fs gs w xsb A).mono (fun v h' q => by
        obtain ⟨d, ky, rfl, K, gd, sd, F0, F1, F2, F3, A2, X2⟩ := q
        exact ⟨d, rfl, K, ⟨16, 1, ky, (show ((5 : Nat), (16 : Nat), (1 : Nat)) ∈ sts 3 3 from by decide), F0, F1, F2.cI (v' := (5 : Int32)) (by decide), F3, A2, X2, ma, (own_mb mb A sd), (fun q => absurd q (by decide)), (own_all hn (own_two (by decide) hnk))⟩, Or.inr sd⟩)
    · obtain ⟨e0, e1, e2, e3, rfl⟩ := len_4 hl
      exact (c_apSN0 l Z a0 hw h a b kb (8 : Int32) ([(by8 e0), (by8 e1), (by8 e2), (by8 e3), (.int 0), (.int 0), (.int 0), (.int 0)]) (4 : Int32) s sb ks ((92 : Int32).toInt8.toInt32) k.toInt8.toInt32 cp wf hcp hwf (by decide) (by decide) (nl rfl) (by decide) scp sad shi slo sfm ga gb nsb xa xb f0 f1 f2 f3 xs fs gs w xsb A).mono (fun v h' q => by
        obtain ⟨rfl, K, F0, F1, F2, F3, A2, X2⟩ := q
        exact ⟨b, rfl, K, ⟨8, 0, kb, (show ((6 : Nat), (8 : Nat), (0 : Nat)) ∈ sts 3 3 from by decide), F0, F1, F2.cI (v' := (6 : Int32)) (by decide), F3, A2, X2, ma, mb, (fun _ => own_all (hL rfl) (own_two (by decide) hkl)), (own_all hn (own_two (by decide) hnk))⟩, Or.inl rfl⟩)
theorem c_sbC (hw : HW a0 Z) (h : Heap) (a b : Addr) (m : Nat) (N : Nat) (i : Nat) (es : List Int32) (c cp : Int32) (wf : Value) (hm : n0 ≤ m) (hNi : (N, i) ∈ [(1, 0), (2, 0), (2, 1), (3, 0), (3, 1), (3, 2)]) (hnc : nar .char c = c) (hcp : ¬ (cp = (0 : Int32))) (hwf : wf.isRef = true) (scp : Zcp Z (.int cp)) (sad : Zad Z (.int 1)) (shi : Zhi Z (.int 0)) (slo : Zlo Z (.int 8)) (sfm : Zfm Z wf) (xa : EB Z h a) (bd : Bld Z h a b m N i es) :
    Con l M_31 q46 2 (some (.object "java/lang/StringBuilder")) (rm4 7 2 32 102) Z n0 #[(.ref a), (.int c)] h (fun v h' => ∃ bq : Addr, v = some (.ref a) ∧ Keep h h' [a, b] ∧ Bld Z h' a bq m N (i + 1) (es ++ [c]) ∧ (bq = b ∨ h.size ≤ bq)) := by
  refine Con.of_go (plainFor_of_name pn_7) (Ls := #[.val (.ref a), .val (.int c)]) ?_
  refine Go.aloadN (pc' := 1) d46_0 rfl rfl rfl ?_
  refine Go.iloadN (pc' := 2) d46_1 rfl rfl ?_
  refine Go.callSup (cells' := 2) (slots' := 32) (pc' := 5) [(.int c)] [] (Ins.self xa) (ww hw 234 rfl) (own_sameM (ww hw 236 rfl) (own_nfQ (ww hw 93 rfl) (ww hw 91 rfl) rfl) (by decide)) (ww hw 235 rfl) (ww hw 102 rfl) (ww hw 53 rfl) (ww hw 237 rfl) (by decide) (c_jC l Z a0 hw h a b m N i es c cp wf hm hNi hnc hcp hwf scp sad shi slo sfm xa bd) pd_22 d46_2 rfl ?_
  rintro _ h1 ⟨bq_1, rfl, K1, F1_0, P1_0⟩
  show Go _ _ _ _ _ _ _ _ _ _ _ _ 5 _ [(.ref a)]
  refine Go.pop (pc' := 6) d46_5 rfl rfl ?_
  refine Go.aloadN (pc' := 7) d46_6 rfl rfl rfl ?_
  exact Go.retR rfl rfl rfl rfl d46_7 ⟨bq_1, rfl, K1, F1_0, P1_0⟩
theorem c_sbS (hw : HW a0 Z) (h : Heap) (a b : Addr) (m : Nat) (N : Nat) (i : Nat) (es : List Int32) (s sb : Addr) (k cp : Int32) (wf : Value) (hm : n0 ≤ m) (hNi : (N, i) ∈ [(1, 0), (2, 0), (2, 1), (3, 0), (3, 1), (3, 2)]) (hk : (k.toInt8.toInt32 &&& (255 : Int32)) = k) (hnk : nar .char k = k) (hkl : ¬ ((255 : Int32) < k)) (hcp : ¬ (cp = (0 : Int32))) (hwf : wf.isRef = true) (scp : Zcp Z (.int cp)) (sad : Zad Z (.int 1)) (shi : Zhi Z (.int 0)) (slo : Zlo Z (.int 8)) (sfm : Zfm Z wf) (ne_sb_b : sb ≠ b) (xa : EB Z h a) (bd : Bld Z h a b m N i es) (xs : ES Z h s) (lt : Lit2 Z h s sb k) :
    Con l M_32 q25 2 (some (.object "java/lang/StringBuilder")) (rm4 8 1 16 119) Z n0 #[(.ref a), (.ref s)] h (fun v h' => ∃ bq : Addr, v = some (.ref a) ∧ Keep h h' [a, b] ∧ Bld Z h' a bq m N (i + 1) (es ++ [(92 : Int32), k]) ∧ (bq = b ∨ h.size ≤ bq)) := by
  refine Con.of_go (plainFor_of_name pn_7) (Ls := #[.val (.ref a), .val (.ref s)]) ?_
  refine Go.aloadN (pc' := 1) d25_0 rfl rfl rfl ?_
  refine Go.aloadN (pc' := 2) d25_1 rfl rfl rfl ?_
  refine Go.callSup (cells' := 1) (slots' := 16) (pc' := 5) [(.ref s)] [] (Ins.self xa) (ww hw 142 rfl) (own_sameM (ww hw 144 rfl) (own_nfQ (ww hw 93 rfl) (ww hw 91 rfl) rfl) (by decide)) (ww hw 143 rfl) (ww hw 102 rfl) (ww hw 53 rfl) (ww hw 145 rfl) (by decide) (c_jS l Z a0 hw h a b m N i es s sb k cp wf hm hNi hk hnk hkl hcp hwf scp sad shi slo sfm ne_sb_b xa bd xs lt) pd_23 d25_2 rfl ?_
  rintro _ h1 ⟨bq_1, rfl, K1, F1_0, P1_0⟩
  show Go _ _ _ _ _ _ _ _ _ _ _ _ 5 _ [(.ref a)]
  refine Go.pop (pc' := 6) d25_5 rfl rfl ?_
  refine Go.aloadN (pc' := 7) d25_6 rfl rfl rfl ?_
  exact Go.retR rfl rfl rfl rfl d25_7 ⟨bq_1, rfl, K1, F1_0, P1_0⟩
theorem c_asbInit (hw : HW a0 Z) (h : Heap) (a : Addr) (n cp : Int32) (hcp : ¬ (cp = (0 : Int32))) (hn0 : ¬ (n < (0 : Int32))) (hn3 : n.toNatClampNeg ≤ 3) (scp : Zcp Z (.int cp)) (ge_a : n0 ≤ a) (xa : EB Z h a) (pf0 : FV Z h a .null) (pf1 : FK Z h a (.int 0)) (pf2 : FN Z h a (.int 0)) (pf3 : FM Z h a (.int 0)) :
    Con l M_33 q9 2 none (rm4 1 1 3 12) Z n0 #[(.ref a), (.int n)] h (fun v h' => ∃ b : Addr, ∃ kb : ClassId, v = none ∧ Keep h h' [a] ∧ n0 ≤ b ∧ h.size ≤ b ∧ FV Z h' a (.ref b) ∧ FK Z h' a (.int 0) ∧ FN Z h' a (.int 0) ∧ FM Z h' a (.int 0) ∧ AB Z h' b kb n [] (.int 0) ∧ EA Z h' b) := by
  refine Con.of_go (plainFor_of_name pn_4) (Ls := #[.val (.ref a), .val (.int n)]) ?_
  refine Go.aloadN (pc' := 1) d9_0 rfl rfl rfl ?_
  refine Go.initO (pc' := 4) (ww hw 55 rfl) (ww hw 18 rfl) (ww hw 19 rfl) d9_1 rfl (nl rfl) (nl rfl) rfl ?_
  refine Go.old (fun old1 => ?_)
  refine Go.getstatic (pc' := 7) (host := "") (Or.inl (ww hw 56 rfl)) Via.refl (scp.ext old1.2) d9_4 rfl ?_
  refine Go.ifNo (pc' := 10) d9_7 (XT.i0_eq_f hcp) rfl ?_
  refine Go.aloadN (pc' := 11) d9_10 rfl rfl rfl ?_
  refine Go.iloadN (pc' := 12) d9_11 rfl rfl ?_
  refine Go.newarray (pc' := 14) (cells' := 1) (slots' := 3) (cap := 3) (ww hw 21 rfl) d9_12 (ad := "[B") (by decide) hn0 hn3 rfl rfl (by decide) (by decide) (by decide) rfl ?_
  intro h2 b2 g2 E2 ge2 kA2 A2 X2
  have K3 := (Keep.refl h [a]).ext E2
  refine Go.putfield (pc' := 17) (host := "") (Or.inl (ww hw 57 rfl)) Via.refl (pf0.ext E2) (xa.ext E2) (Or.inl (ww hw 58 rfl)) (ww hw 33 rfl) (ty := (.array .byte)) (by decide) rfl rfl ge_a d9_14 rfl ?_
  intro h4 W5
  have K6 := K3.wr W5 (Or.inl (List.mem_of_getElem? (i := 0) rfl))
  have f7 := (pf0.ext E2).same W5
  refine Go.aloadN (pc' := 18) d9_17 rfl rfl rfl ?_
  refine Go.iconst (pc' := 19) (v := 0) d9_18 rfl rfl ?_
  have f8 := ((pf1.ext E2).other W5 (Or.inr (sn_0 hw)))
  refine Go.putfieldN (pc' := 22) (ww hw 59 rfl) Via.refl f8 ((xa.ext E2).wr W5) (Or.inl (ww hw 60 rfl)) (ww hw 33 rfl) (ty := .byte) (v' := (0 : Int32)) (by decide) (by first | rfl | decide) (by first | rfl | decide | exact fits_nar_byte _) ge_a d9_19 rfl ?_
  intro h9 W10
  have K11 := K6.wr W10 (Or.inl (List.mem_of_getElem? (i := 0) rfl))
  have f12 := f8.same W10
  refine Go.goto (pc' := 38) d9_22 (by decide) (by decide) ?_
  have f13 := (((pf2.ext E2).other W5 (Or.inr (sn_2 hw))).other W10 (Or.inr (sn_3 hw)))
  have f14 := (((pf3.ext E2).other W5 (Or.inr (sn_4 hw))).other W10 (Or.inr (sn_5 hw)))
  have ne15 := (Nat.ne_of_lt (Nat.lt_of_lt_of_le pf3.lt (Nat.le_of_eq g2.symm)))
  have f16 := ((A2.other W5 (Ne.symm ne15)).other W10 (Ne.symm ne15))
  exact Go.retV rfl d9_38 ⟨b2, kA2, rfl, K11, ge2, (Nat.le_of_eq g2.symm), (f7.other W10 (Or.inr (sn_1 hw))), f12, f13, f14, f16, ((X2.wr W5).wr W10)⟩
theorem c_sbInit (hw : HW a0 Z) (h : Heap) (a : Addr) (n cp : Int32) (hcp : ¬ (cp = (0 : Int32))) (hn0 : ¬ (n < (0 : Int32))) (hn3 : n.toNatClampNeg ≤ 3) (scp : Zcp Z (.int cp)) (ge_a : n0 ≤ a) (xa : EB Z h a) (pf0 : FV Z h a .null) (pf1 : FK Z h a (.int 0)) (pf2 : FN Z h a (.int 0)) (pf3 : FM Z h a (.int 0)) :
    Con l M_34 q8 2 none (rm4 2 1 3 25) Z n0 #[(.ref a), (.int n)] h (fun v h' => ∃ b : Addr, ∃ kb : ClassId, v = none ∧ Keep h h' [a] ∧ n0 ≤ b ∧ h.size ≤ b ∧ FV Z h' a (.ref b) ∧ FK Z h' a (.int 0) ∧ FN Z h' a (.int 0) ∧ FM Z h' a (.int 0) ∧ AB Z h' b kb n [] (.int 0) ∧ EA Z h' b) := by
  refine Con.of_go (plainFor_of_name pn_7) (Ls := #[.val (.ref a), .val (.int n)]) ?_
  refine Go.aloadN (pc' := 1) d8_0 rfl rfl rfl ?_
  refine Go.iloadN (pc' := 2) d8_1 rfl rfl ?_
  refine Go.callC (cells' := 1) (slots' := 3) (pc' := 5) [(.int n)] [] (a := a) rfl rfl (ww hw 49 rfl) (ww hw 50 rfl) (ww hw 53 rfl) (ww hw 54 rfl) (by decide) (c_asbInit l Z a0 hw h a n cp hcp hn0 hn3 scp ge_a xa pf0 pf1 pf2 pf3) pd_14 d8_2 rfl ?_
  rintro _ h1 ⟨b_1, kb_1, rfl, K1, ge_b_1, sz_b_1, F1_0, F1_1, F1_2, F1_3, F1_4, F1_5⟩
  show Go _ _ _ _ _ _ _ _ _ _ _ _ 5 _ []
  exact Go.retV rfl d8_5 ⟨b_1, kb_1, rfl, K1, ge_b_1, sz_b_1, F1_0, F1_1, F1_2, F1_3, F1_4, F1_5⟩
theorem c_min2 (hw : HW a0 Z) (h : Heap) (p q : Int32) (hpq : q < p) :
    Con l M_19 q35 2 (some .int) (rm4 0 0 0 0) Z n0 #[(.int p), (.int q)] h (fun v h' => v = some (.int q) ∧ h = h') := by
  refine Con.of_go (Jvm.Free.JP.mathPlain rfl (by decide +kernel)) (Ls := #[.val (.int p), .val (.int q)]) ?_
  refine Go.iloadN (pc' := 1) d35_0 rfl rfl ?_
  refine Go.iloadN (pc' := 2) d35_1 rfl rfl ?_
  refine Go.icmpYes (pc' := 9) d35_2 (XT.ii_gt_t hpq) (by decide) (by decide) ?_
  refine Go.iloadN (pc' := 10) d35_9 rfl rfl ?_
  exact Go.retI rfl d35_10 ⟨rfl, rfl⟩
theorem c_ckl (hw : HW a0 Z) (h : Heap) (m : Int32) (hm0 : ¬ (m < (0 : Int32))) :
    Con l M_35 q37 2 none (rm4 0 0 0 0) Z n0 #[(.int 0), (.int m)] h (fun v h' => v = none ∧ h = h') := by
  refine Con.of_go (plainFor_of_name pn_6) (Ls := #[.val (.int 0), .val (.int m)]) ?_
  refine Go.iloadN (pc' := 1) d37_0 rfl rfl ?_
  refine Go.iloadN (pc' := 2) d37_1 rfl rfl ?_
  refine Go.icmpYes (pc' := 37) d37_2 (XT.ii_ge_t hm0) (by decide) (by decide) ?_
  exact Go.retV rfl d37_37 ⟨rfl, rfl⟩
theorem c_crb (hw : HW a0 Z) (h : Heap) (b : Addr) (kb : ClassId) (z : Int32) (vs : List Value) (m : Int32) (hm0 : ¬ (m < (0 : Int32))) (hm16 : m.toNatClampNeg ≤ 16) (hmz : m < z) (v : AB Z h b kb z vs (.int 0)) :
    Con l M_36 q36 5 (some (.array .byte)) (rm4 1 1 16 18) Z n0 #[(.ref b), (.int 0), (.int m)] h (fun v h' => ∃ d : Addr, ∃ ky : ClassId, v = some (.ref d) ∧ Keep h h' [] ∧ n0 ≤ d ∧ h.size ≤ d ∧ AB Z h' d ky m vs (.int 0) ∧ EA Z h' d) := by
  refine Con.of_go (plainFor_of_name pn_6) (Ls := #[.val (.ref b), .val (.int 0), .val (.int m), .unset, .unset]) ?_
  refine Go.iloadN (pc' := 1) d36_0 rfl rfl ?_
  refine Go.iloadN (pc' := 2) d36_1 rfl rfl ?_
  refine Go.callS (cells' := 0) (slots' := 0) (pc' := 5) [(.int 0), (.int m)] [] (ww hw 198 rfl) (ww hw 199 rfl) (ww hw 113 rfl) (ww hw 200 rfl) (by decide) (c_ckl l Z a0 hw h m hm0) pd_2 d36_2 rfl ?_
  rintro _ _ ⟨rfl, rfl⟩
  show Go _ _ _ _ _ _ _ _ _ _ _ _ 5 _ []
  refine Go.iloadN (pc' := 6) d36_5 rfl rfl ?_
  refine Go.iloadN (pc' := 7) d36_6 rfl rfl ?_
  refine Go.isub (pc' := 8) d36_7 rfl ?_
  rw [show (m - (0 : Int32)) = m from Int32.sub_zero _]
  refine Go.istoreN (pc' := 9) (Ls' := #[.val (.ref b), .val (.int 0), .val (.int m), .val (.int m), .unset]) d36_8 rfl rfl ?_
  refine Go.iloadN (pc' := 10) d36_9 rfl rfl ?_
  refine Go.newarray (pc' := 12) (cells' := 1) (slots' := 16) (cap := 16) (ww hw 21 rfl) d36_10 (ad := "[B") (by decide) hm0 hm16 rfl rfl (by decide) (by decide) (by decide) rfl ?_
  intro h2 b2 g2 E2 ge2 kA2 A2 X2
  have K3 := (Keep.refl h []).ext E2
  refine Go.astore (pc' := 14) (Ls' := #[.val (.ref b), .val (.int 0), .val (.int m), .val (.int m), .val (.ref b2)]) d36_12 rfl rfl rfl ?_
  refine Go.aloadN (pc' := 15) d36_14 rfl rfl rfl ?_
  refine Go.iloadN (pc' := 16) d36_15 rfl rfl ?_
  refine Go.aload (pc' := 18) d36_16 rfl rfl rfl ?_
  refine Go.iconst (pc' := 19) (v := 0) d36_18 rfl rfl ?_
  refine Go.aloadN (pc' := 20) d36_19 rfl rfl rfl ?_
  refine Go.arraylength (pc' := 21) (v.ext E2) d36_20 rfl ?_
  refine Go.iloadN (pc' := 22) d36_21 rfl rfl ?_
  refine Go.isub (pc' := 23) d36_22 rfl ?_
  rw [show (z - (0 : Int32)) = z from Int32.sub_zero _]
  refine Go.iloadN (pc' := 24) d36_23 rfl rfl ?_
  refine Go.callS (cells' := 1) (slots' := 16) (pc' := 27) [(.int z), (.int m)] [(.int 0), (.ref b2), (.int 0), (.ref b)] (ww hw 191 rfl) (ww hw 192 rfl) (ww hw 184 rfl) (ww hw 193 rfl) (by decide) (c_min2 l Z a0 hw h2 z m hmz) pd_12 d36_24 rfl ?_
  rintro _ _ ⟨rfl, rfl⟩
  show Go _ _ _ _ _ _ _ _ _ _ _ _ 27 _ [(.int m), (.int 0), (.ref b2), (.int 0), (.ref b)]
  have P5 : AB Z h2 b2 kA2 m (List.replicate m.toNatClampNeg (.int 0)) (.int 0) := Arv.pad A2 (pad_rep [] (.int 0) m.toNatClampNeg)
  refine Go.arraycopy (pc' := 30) (us := (List.range m.toNatClampNeg).map fun i => vs.getD ((0 : Int32).toNatClampNeg + i) (.int 0)) (ww hw 194 rfl) (ww hw 171 rfl) (ww hw 169 rfl) (ww hw 170 rfl) (v.ext E2) P5 (Or.inl ⟨rfl, rfl⟩) (by decide) (by decide) hm0 (own_mz hmz hm0) (Nat.le_of_eq (by rw [own_i0, Nat.zero_add])) rfl (Nat.le_of_eq (by rw [own_i0, Nat.zero_add, List.length_replicate])) rfl ge2 d36_27 rfl (nl rfl) (nl rfl) rfl ?_
  intro h6 K7 V8
  have K10 := K3.trans K7 (allS (Or.inr (Nat.le_of_eq g2.symm)) all0)
  have V9 : AB Z h6 b2 kA2 m vs (.int 0) := Arv.low V8 (fun i hi => own_cp i hi)
  refine Go.aload (pc' := 32) d36_30 rfl rfl rfl ?_
  exact Go.retR rfl rfl rfl rfl d36_32 ⟨b2, kA2, rfl, K10, ge2, (Nat.le_of_eq g2.symm), V9, (X2.keep K7)⟩
theorem c_corN (hw : HW a0 Z) (h : Heap) (b : Addr) (kb : ClassId) (z : Int32) (vs : List Value) (m : Int32) (hm0 : ¬ (m < (0 : Int32))) (hm16 : m.toNatClampNeg ≤ 16) (hmz : m < z) (hne : ¬ (m = z)) (v : AB Z h b kb z vs (.int 0)) :
    Con l M_37 q21 3 (some (.array .byte)) (rm4 2 1 16 34) Z n0 #[(.ref b), (.int 0), (.int m)] h (fun v h' => ∃ d : Addr, ∃ ky : ClassId, v = some (.ref d) ∧ Keep h h' [] ∧ n0 ≤ d ∧ h.size ≤ d ∧ AB Z h' d ky m vs (.int 0) ∧ EA Z h' d) := by
  refine Con.of_go (plainFor_of_name pn_6) (Ls := #[.val (.ref b), .val (.int 0), .val (.int m)]) ?_
  refine Go.iloadN (pc' := 1) d21_0 rfl rfl ?_
  refine Go.ifNo (pc' := 4) d21_1 (XT.i0_ne_f (by decide)) rfl ?_
  refine Go.iloadN (pc' := 5) d21_4 rfl rfl ?_
  refine Go.aloadN (pc' := 6) d21_5 rfl rfl rfl ?_
  refine Go.arraylength (pc' := 7) v d21_6 rfl ?_
  refine Go.icmpNo (pc' := 10) d21_7 (XT.ii_eq_f hne) rfl ?_
  refine Go.aloadN (pc' := 11) d21_10 rfl rfl rfl ?_
  refine Go.iloadN (pc' := 12) d21_11 rfl rfl ?_
  refine Go.iloadN (pc' := 13) d21_12 rfl rfl ?_
  refine Go.callS (cells' := 1) (slots' := 16) (pc' := 16) [(.ref b), (.int 0), (.int m)] [] (ww hw 195 rfl) (ww hw 196 rfl) (ww hw 113 rfl) (ww hw 197 rfl) (by decide) (c_crb l Z a0 hw h b kb z vs m hm0 hm16 hmz v) pd_24 d21_13 rfl ?_
  rintro _ h1 ⟨d_1, ky_1, rfl, K1, ge_d_1, sz_d_1, F1_0, F1_1⟩
  show Go _ _ _ _ _ _ _ _ _ _ _ _ 16 _ [(.ref d_1)]
  exact Go.retR rfl rfl rfl rfl d21_16 ⟨d_1, ky_1, rfl, K1, ge_d_1, sz_d_1, F1_0, F1_1⟩
theorem c_corC (hw : HW a0 Z) (h : Heap) (b : Addr) (kb : ClassId) (z : Int32) (vs : List Value) (hm16 : z.toNatClampNeg ≤ 16) (v : AB Z h b kb z vs (.int 0)) (xb : EA Z h b) :
    Con l M_37 q21 3 (some (.array .byte)) (rm4 1 1 16 14) Z n0 #[(.ref b), (.int 0), (.int z)] h (fun v h' => ∃ d : Addr, ∃ ky : ClassId, v = some (.ref d) ∧ Keep h h' [] ∧ n0 ≤ d ∧ h.size ≤ d ∧ AB Z h' d ky z vs (.int 0) ∧ EA Z h' d) := by
  refine Con.of_go (plainFor_of_name pn_6) (Ls := #[.val (.ref b), .val (.int 0), .val (.int z)]) ?_
  refine Go.iloadN (pc' := 1) d21_0 rfl rfl ?_
  refine Go.ifNo (pc' := 4) d21_1 (XT.i0_ne_f (by decide)) rfl ?_
  refine Go.iloadN (pc' := 5) d21_4 rfl rfl ?_
  refine Go.aloadN (pc' := 6) d21_5 rfl rfl rfl ?_
  refine Go.arraylength (pc' := 7) v d21_6 rfl ?_
  refine Go.icmpYes (pc' := 17) d21_7 (XT.ii_eq_t rfl) (by decide) (by decide) ?_
  refine Go.aloadN (pc' := 18) d21_17 rfl rfl rfl ?_
  refine Go.clone (pc' := 21) (cells' := 1) (slots' := 16) (cap := 16) (ww hw 115 rfl) (ww hw 116 rfl) (ww hw 120 rfl) (ww hw 118 rfl) (ww hw 119 rfl) (ww hw 121 rfl) v xb d21_18 rfl (nl rfl) (nl rfl) hm16 rfl rfl (nl rfl) (nl rfl) rfl ?_
  intro h1 b1 g1 E1 ge1 V1 X1
  have K2 := (Keep.refl h []).ext E1
  refine Go.castY (pc' := 24) (ww hw 122 rfl) (Ins.self X1) d21_21 rfl ?_
  exact Go.retR rfl rfl rfl rfl d21_24 ⟨b1, kb, rfl, K2, ge1, (Nat.le_of_eq g1.symm), V1, X1⟩
theorem c_getV (hw : HW a0 Z) (h : Heap) (a b : Addr) (f : FV Z h a (.ref b)) :
    Con l M_38 q17 1 (some (.array .byte)) (rm4 0 0 0 0) Z n0 #[(.ref a)] h (fun v h' => v = some (.ref b) ∧ h = h') := by
  refine Con.of_go (plainFor_of_name pn_4) (Ls := #[.val (.ref a)]) ?_
  refine Go.aloadN (pc' := 1) d17_0 rfl rfl rfl ?_
  refine Go.getfield (pc' := 4) (host := "") (Or.inl (ww hw 57 rfl)) Via.refl f d17_1 rfl ?_
  exact Go.retR rfl rfl rfl rfl d17_4 ⟨rfl, rfl⟩
theorem c_asbLen (hw : HW a0 Z) (h : Heap) (a : Addr) (n : Int32) (f : FN Z h a (.int n)) :
    Con l M_39 q19 1 (some .int) (rm4 0 0 0 0) Z n0 #[(.ref a)] h (fun v h' => v = some (.int n) ∧ h = h') := by
  refine Con.of_go (plainFor_of_name pn_4) (Ls := #[.val (.ref a)]) ?_
  refine Go.aloadN (pc' := 1) d19_0 rfl rfl rfl ?_
  refine Go.getfield (pc' := 4) (host := "") (Or.inl (ww hw 104 rfl)) Via.refl f d19_1 rfl ?_
  exact Go.retI rfl d19_4 ⟨rfl, rfl⟩
theorem c_sbLen (hw : HW a0 Z) (h : Heap) (a : Addr) (n : Int32) (xa : EB Z h a) (f : FN Z h a (.int n)) :
    Con l M_40 q18 1 (some .int) (rm4 1 0 0 12) Z n0 #[(.ref a)] h (fun v h' => v = some (.int n) ∧ h = h') := by
  refine Con.of_go (plainFor_of_name pn_7) (Ls := #[.val (.ref a)]) ?_
  refine Go.aloadN (pc' := 1) d18_0 rfl rfl rfl ?_
  refine Go.callSup (cells' := 0) (slots' := 0) (pc' := 4) [] [] (Ins.self xa) (ww hw 101 rfl) (own_sameM (ww hw 96 rfl) (own_nfQ (ww hw 93 rfl) (ww hw 91 rfl) rfl) (by decide)) (ww hw 97 rfl) (ww hw 102 rfl) (ww hw 53 rfl) (ww hw 103 rfl) (by decide) (c_asbLen l Z a0 hw h a n f) pd_20 d18_1 rfl ?_
  rintro _ _ ⟨rfl, rfl⟩
  show Go _ _ _ _ _ _ _ _ _ _ _ _ 4 _ [(.int n)]
  exact Go.retI rfl d18_4 ⟨rfl, rfl⟩
theorem c_strB0N (hw : HW a0 Z) (h : Heap) (r a b : Addr) (kb : ClassId) (z : Int32) (vs : List Value) (n cp : Int32) (hcp : ¬ (cp = (0 : Int32))) (hm0 : ¬ (n < (0 : Int32))) (hm16 : n.toNatClampNeg ≤ 16) (hmz : n < z) (hne : ¬ (n = z)) (scp : Zcp Z (.int cp)) (ge_r : n0 ≤ r) (xr : ES Z h r) (rf0 : GV Z h r .null) (rf1 : GK Z h r (.int 0)) (xa : EB Z h a) (pf0 : FV Z h a (.ref b)) (pf1 : FK Z h a (.int 0)) (pf2 : FN Z h a (.int n)) (pf3 : FM Z h a (.int 0)) (v : AB Z h b kb z vs (.int 0)) (xb : EA Z h b) :
    Con l M_41 q16 5 none (rm4 3 1 16 49) Z n0 #[(.ref r), (.ref a), .null] h (fun v h' => ∃ d : Addr, ∃ ky : ClassId, v = none ∧ Keep h h' [r] ∧ n0 ≤ d ∧ h.size ≤ d ∧ GV Z h' r (.ref d) ∧ GK Z h' r (.int 0) ∧ AB Z h' d ky n vs (.int 0) ∧ EA Z h' d) := by
  refine Con.of_go (plainFor_of_name pn_0) (Ls := #[.val (.ref r), .val (.ref a), .val .null, .unset, .unset]) ?_
  refine Go.aloadN (pc' := 1) d16_0 rfl rfl rfl ?_
  refine Go.initO (pc' := 4) (ww hw 17 rfl) (ww hw 18 rfl) (ww hw 19 rfl) d16_1 rfl (nl rfl) (nl rfl) rfl ?_
  refine Go.aloadN (pc' := 5) d16_4 rfl rfl rfl ?_
  refine Go.callV (cells' := 0) (slots' := 0) (pc' := 8) [] [] xa (ww hw 90 rfl) (ww hw 91 rfl) (nfS (ww hw 93 rfl)) (ww hw 93 rfl) (ww hw 92 rfl) (ww hw 53 rfl) (ww hw 94 rfl) (by decide) (c_getV l Z a0 hw h a b pf0) pd_25 d16_5 rfl ?_
  rintro _ _ ⟨rfl, rfl⟩
  show Go _ _ _ _ _ _ _ _ _ _ _ _ 8 _ [(.ref b)]
  refine Go.astoreN (pc' := 9) (Ls' := #[.val (.ref r), .val (.ref a), .val .null, .val (.ref b), .unset]) d16_8 rfl rfl rfl ?_
  refine Go.aloadN (pc' := 10) d16_9 rfl rfl rfl ?_
  refine Go.callV (cells' := 0) (slots' := 0) (pc' := 13) [] [] xa (ww hw 95 rfl) (ww hw 96 rfl) (own_nfQ (ww hw 93 rfl) (ww hw 91 rfl) rfl) (ww hw 98 rfl) (ww hw 99 rfl) (ww hw 34 rfl) (ww hw 100 rfl) (by decide) (c_sbLen l Z a0 hw h a n xa pf2) pd_20 d16_10 rfl ?_
  rintro _ _ ⟨rfl, rfl⟩
  show Go _ _ _ _ _ _ _ _ _ _ _ _ 13 _ [(.int n)]
  refine Go.istore (pc' := 15) (Ls' := #[.val (.ref r), .val (.ref a), .val .null, .val (.ref b), .val (.int n)]) d16_13 rfl rfl ?_
  refine Go.aloadN (pc' := 16) d16_15 rfl rfl rfl ?_
  refine Go.callV (cells' := 0) (slots' := 0) (pc' := 19) [] [] xa (ww hw 106 rfl) (ww hw 107 rfl) (nfS (ww hw 109 rfl)) (ww hw 109 rfl) (ww hw 108 rfl) (ww hw 53 rfl) (ww hw 110 rfl) (by decide) (c_asbLat0 l Z a0 hw h a cp hcp scp pf1) pd_10 d16_16 rfl ?_
  rintro _ _ ⟨rfl, rfl⟩
  show Go _ _ _ _ _ _ _ _ _ _ _ _ 19 _ [(.int 1)]
  refine Go.ifNo (pc' := 22) d16_19 (XT.i0_eq_f (by decide)) rfl ?_
  refine Go.aloadN (pc' := 23) d16_22 rfl rfl rfl ?_
  refine Go.iconst (pc' := 24) (v := 0) d16_23 rfl rfl ?_
  refine Go.putfieldN (pc' := 27) (ww hw 27 rfl) Via.refl rf1 xr (Or.inr ⟨(ww hw 23 rfl), rfl, rfl⟩) (ww hw 7 rfl) (ty := .byte) (v' := (0 : Int32)) (by decide) (by first | rfl | decide) (by first | rfl | decide | exact fits_nar_byte _) ge_r d16_24 rfl ?_
  intro h4 W5
  have K6 := (Keep.refl h [r]).wr W5 (Or.inl (List.mem_of_getElem? (i := 0) rfl))
  have f7 := rf1.same W5
  refine Go.aloadN (pc' := 28) d16_27 rfl rfl rfl ?_
  refine Go.aloadN (pc' := 29) d16_28 rfl rfl rfl ?_
  refine Go.iconst (pc' := 30) (v := 0) d16_29 rfl rfl ?_
  refine Go.iload (pc' := 32) d16_30 rfl rfl ?_
  have ne8 := ne_exa (xb.wr W5) (xr.wr W5) (by decide)
  refine Go.callS (cells' := 1) (slots' := 16) (pc' := 35) [(.ref b), (.int 0), (.int n)] [(.ref r)] (ww hw 111 rfl) (ww hw 112 rfl) (ww hw 113 rfl) (ww hw 114 rfl) (by decide) (c_corN l Z a0 hw h4 b kb z vs n hm0 hm16 hmz hne (v.other W5 ne8)) pd_24 d16_32 rfl ?_
  rintro _ h9 ⟨d_9, ky_9, rfl, K9, ge_d_9, sz_d_9, F9_0, F9_1⟩
  have sz10 : h.size ≤ d_9 := Nat.le_trans K6.1 sz_d_9
  have K11 := K6.trans K9 all0
  show Go _ _ _ _ _ _ _ _ _ _ _ _ 35 _ [(.ref d_9), (.ref r)]
  have f12 := ((rf0.other W5 (Or.inr (sn_9 hw))).keep K9 nin0)
  refine Go.putfield (pc' := 38) (host := "") (Or.inl (ww hw 26 rfl)) Via.refl f12 ((xr.wr W5).keep K9) (Or.inr ⟨(ww hw 22 rfl), rfl, rfl⟩) (ww hw 7 rfl) (ty := (.array .byte)) (by decide) rfl rfl ge_r d16_35 rfl ?_
  intro h13 W14
  have K15 := K11.wr W14 (Or.inl (List.mem_of_getElem? (i := 0) rfl))
  have f16 := f12.same W14
  refine Go.goto (pc' := 97) d16_38 (by decide) (by decide) ?_
  have f17 := ((f7.keep K9 nin0).other W14 (Or.inr (sn_10 hw)))
  have ne18 := (Nat.ne_of_lt (Nat.lt_of_lt_of_le f7.lt sz_d_9))
  exact Go.retV rfl d16_97 ⟨d_9, ky_9, rfl, K15, ge_d_9, sz10, f16, f17, (F9_0.other W14 (Ne.symm ne18)), (F9_1.wr W14)⟩
theorem c_strB0C (hw : HW a0 Z) (h : Heap) (r a b : Addr) (kb : ClassId) (vs : List Value) (n cp : Int32) (hcp : ¬ (cp = (0 : Int32))) (hm16 : n.toNatClampNeg ≤ 16) (scp : Zcp Z (.int cp)) (ge_r : n0 ≤ r) (xr : ES Z h r) (rf0 : GV Z h r .null) (rf1 : GK Z h r (.int 0)) (xa : EB Z h a) (pf0 : FV Z h a (.ref b)) (pf1 : FK Z h a (.int 0)) (pf2 : FN Z h a (.int n)) (pf3 : FM Z h a (.int 0)) (v : AB Z h b kb n vs (.int 0)) (xb : EA Z h b) :
    Con l M_41 q16 5 none (rm4 3 1 16 49) Z n0 #[(.ref r), (.ref a), .null] h (fun v h' => ∃ d : Addr, ∃ ky : ClassId, v = none ∧ Keep h h' [r] ∧ n0 ≤ d ∧ h.size ≤ d ∧ GV Z h' r (.ref d) ∧ GK Z h' r (.int 0) ∧ AB Z h' d ky n vs (.int 0) ∧ EA Z h' d) := by
  refine Con.of_go (plainFor_of_name pn_0) (Ls := #[.val (.ref r), .val (.ref a), .val .null, .unset, .unset]) ?_
  refine Go.aloadN (pc' := 1) d16_0 rfl rfl rfl ?_
  refine Go.initO (pc' := 4) (ww hw 17 rfl) (ww hw 18 rfl) (ww hw 19 rfl) d16_1 rfl (nl rfl) (nl rfl) rfl ?_
  refine Go.aloadN (pc' := 5) d16_4 rfl rfl rfl ?_
  refine Go.callV (cells' := 0) (slots' := 0) (pc' := 8) [] [] xa (ww hw 90 rfl) (ww hw 91 rfl) (nfS (ww hw 93 rfl)) (ww hw 93 rfl) (ww hw 92 rfl) (ww hw 53 rfl) (ww hw 94 rfl) (by decide) (c_getV l Z a0 hw h a b pf0) pd_25 d16_5 rfl ?_
  rintro _ _ ⟨rfl, rfl⟩
  show Go _ _ _ _ _ _ _ _ _ _ _ _ 8 _ [(.ref b)]
  refine Go.astoreN (pc' := 9) (Ls' := #[.val (.ref r), .val (.ref a), .val .null, .val (.ref b), .unset]) d16_8 rfl rfl rfl ?_
  refine Go.aloadN (pc' := 10) d16_9 rfl rfl rfl ?_
  refine Go.callV (cells' := 0) (slots' := 0) (pc' := 13) [] [] xa (ww hw 95 rfl) (ww hw 96 rfl) (own_nfQ (ww hw 93 rfl) (ww hw 91 rfl) rfl) (ww hw 98 rfl) (ww hw 99 rfl) (ww hw 34 rfl) (ww hw 100 rfl) (by decide) (c_sbLen l Z a0 hw h a n xa pf2) pd_20 d16_10 rfl ?_
  rintro _ _ ⟨rfl, rfl⟩
  show Go _ _ _ _ _ _ _ _ _ _ _ _ 13 _ [(.int n)]
  refine Go.istore (pc' := 15) (Ls' := #[.val (.ref r), .val (.ref a), .val .null, .val (.ref b), .val (.int n)]) d16_13 rfl rfl ?_
  refine Go.aloadN (pc' := 16) d16_15 rfl rfl rfl ?_
  refine Go.callV (cells' := 0) (slots' := 0) (pc' := 19) [] [] xa (ww hw 106 rfl) (ww hw 107 rfl) (nfS (ww hw 109 rfl)) (ww hw 109 rfl) (ww hw 108 rfl) (ww hw 53 rfl) (ww hw 110 rfl) (by decide) (c_asbLat0 l Z a0 hw h a cp hcp scp pf1) pd_10 d16_16 rfl ?_
  rintro _ _ ⟨rfl, rfl⟩
  show Go _ _ _ _ _ _ _ _ _ _ _ _ 19 _ [(.int 1)]
  refine Go.ifNo (pc' := 22) d16_19 (XT.i0_eq_f (by decide)) rfl ?_
  refine Go.aloadN (pc' := 23) d16_22 rfl rfl rfl ?_
  refine Go.iconst (pc' := 24) (v := 0) d16_23 rfl rfl ?_
  refine Go.putfieldN (pc' := 27) (ww hw 27 rfl) Via.refl rf1 xr (Or.inr ⟨(ww hw 23 rfl), rfl, rfl⟩) (ww hw 7 rfl) (ty := .byte) (v' := (0 : Int32)) (by decide) (by first | rfl | decide) (by first | rfl | decide | exact fits_nar_byte _) ge_r d16_24 rfl ?_
  intro h4 W5
  have K6 := (Keep.refl h [r]).wr W5 (Or.inl (List.mem_of_getElem? (i := 0) rfl))
  have f7 := rf1.same W5
  refine Go.aloadN (pc' := 28) d16_27 rfl rfl rfl ?_
  refine Go.aloadN (pc' := 29) d16_28 rfl rfl rfl ?_
  refine Go.iconst (pc' := 30) (v := 0) d16_29 rfl rfl ?_
  refine Go.iload (pc' := 32) d16_30 rfl rfl ?_
  have ne8 := ne_exa (xb.wr W5) (xr.wr W5) (by decide)
  refine Go.callS (cells' := 1) (slots' := 16) (pc' := 35) [(.ref b), (.int 0), (.int n)] [(.ref r)] (ww hw 111 rfl) (ww hw 112 rfl) (ww hw 113 rfl) (ww hw 114 rfl) (by decide) (c_corC l Z a0 hw h4 b kb n vs hm16 (v.other W5 ne8) (xb.wr W5)) pd_24 d16_32 rfl ?_
  rintro _ h9 ⟨d_9, ky_9, rfl, K9, ge_d_9, sz_d_9, F9_0, F9_1⟩
  have sz10 : h.size ≤ d_9 := Nat.le_trans K6.1 sz_d_9
  have K11 := K6.trans K9 all0
  show Go _ _ _ _ _ _ _ _ _ _ _ _ 35 _ [(.ref d_9), (.ref r)]
  have f12 := ((rf0.other W5 (Or.inr (sn_9 hw))).keep K9 nin0)
  refine Go.putfield (pc' := 38) (host := "") (Or.inl (ww hw 26 rfl)) Via.refl f12 ((xr.wr W5).keep K9) (Or.inr ⟨(ww hw 22 rfl), rfl, rfl⟩) (ww hw 7 rfl) (ty := (.array .byte)) (by decide) rfl rfl ge_r d16_35 rfl ?_
  intro h13 W14
  have K15 := K11.wr W14 (Or.inl (List.mem_of_getElem? (i := 0) rfl))
  have f16 := f12.same W14
  refine Go.goto (pc' := 97) d16_38 (by decide) (by decide) ?_
  have f17 := ((f7.keep K9 nin0).other W14 (Or.inr (sn_10 hw)))
  have ne18 := (Nat.ne_of_lt (Nat.lt_of_lt_of_le f7.lt sz_d_9))
  exact Go.retV rfl d16_97 ⟨d_9, ky_9, rfl, K15, ge_d_9, sz10, f16, f17, (F9_0.other W14 (Ne.symm ne18)), (F9_1.wr W14)⟩
theorem c_strB1N (hw : HW a0 Z) (h : Heap) (r a b : Addr) (kb : ClassId) (z : Int32) (vs : List Value) (n cp : Int32) (hcp : ¬ (cp = (0 : Int32))) (hm0 : ¬ ((n <<< ((1 : Int32) &&& 31)) < (0 : Int32))) (hm16 : (n <<< ((1 : Int32) &&& 31)).toNatClampNeg ≤ 16) (hmz : (n <<< ((1 : Int32) &&& 31)) < z) (hne : ¬ ((n <<< ((1 : Int32) &&& 31)) = z)) (scp : Zcp Z (.int cp)) (ge_r : n0 ≤ r) (xr : ES Z h r) (rf0 : GV Z h r .null) (rf1 : GK Z h r (.int 0)) (xa : EB Z h a) (pf0 : FV Z h a (.ref b)) (pf1 : FK Z h a (.int 1)) (pf2 : FN Z h a (.int n)) (pf3 : FM Z h a (.int 0)) (v : AB Z h b kb z vs (.int 0)) (xb : EA Z h b) :
    Con l M_41 q16 5 none (rm4 3 1 16 49) Z n0 #[(.ref r), (.ref a), .null] h (fun v h' => ∃ d : Addr, ∃ ky : ClassId, v = none ∧ Keep h h' [r] ∧ n0 ≤ d ∧ h.size ≤ d ∧ GV Z h' r (.ref d) ∧ GK Z h' r (.int 1) ∧ Arv Z h' d ky .byte (n <<< ((1 : Int32) &&& 31)) vs (.int 0) ∧ EA Z h' d) := by
  refine Con.of_go (plainFor_of_name pn_0) (Ls := #[.val (.ref r), .val (.ref a), .val .null, .unset, .unset]) ?_
  refine Go.aloadN (pc' := 1) d16_0 rfl rfl rfl ?_
  refine Go.initO (pc' := 4) (ww hw 17 rfl) (ww hw 18 rfl) (ww hw 19 rfl) d16_1 rfl (nl rfl) (nl rfl) rfl ?_
  refine Go.aloadN (pc' := 5) d16_4 rfl rfl rfl ?_
  refine Go.callV (cells' := 0) (slots' := 0) (pc' := 8) [] [] xa (ww hw 90 rfl) (ww hw 91 rfl) (nfS (ww hw 93 rfl)) (ww hw 93 rfl) (ww hw 92 rfl) (ww hw 53 rfl) (ww hw 94 rfl) (by decide) (c_getV l Z a0 hw h a b pf0) pd_25 d16_5 rfl ?_
  rintro _ _ ⟨rfl, rfl⟩
  show Go _ _ _ _ _ _ _ _ _ _ _ _ 8 _ [(.ref b)]
  refine Go.astoreN (pc' := 9) (Ls' := #[.val (.ref r), .val (.ref a), .val .null, .val (.ref b), .unset]) d16_8 rfl rfl rfl ?_
  refine Go.aloadN (pc' := 10) d16_9 rfl rfl rfl ?_
  refine Go.callV (cells' := 0) (slots' := 0) (pc' := 13) [] [] xa (ww hw 95 rfl) (ww hw 96 rfl) (own_nfQ (ww hw 93 rfl) (ww hw 91 rfl) rfl) (ww hw 98 rfl) (ww hw 99 rfl) (ww hw 34 rfl) (ww hw 100 rfl) (by decide) (c_sbLen l Z a0 hw h a n xa pf2) pd_20 d16_10 rfl ?_
  rintro _ _ ⟨rfl, rfl⟩
  show Go _ _ _ _ _ _ _ _ _ _ _ _ 13 _ [(.int n)]
  refine Go.istore (pc' := 15) (Ls' := #[.val (.ref r), .val (.ref a), .val .null, .val (.ref b), .val (.int n)]) d16_13 rfl rfl ?_
  refine Go.aloadN (pc' := 16) d16_15 rfl rfl rfl ?_
  refine Go.callV (cells' := 0) (slots' := 0) (pc' := 19) [] [] xa (ww hw 106 rfl) (ww hw 107 rfl) (nfS (ww hw 109 rfl)) (ww hw 109 rfl) (ww hw 108 rfl) (ww hw 53 rfl) (ww hw 110 rfl) (by decide) (c_asbLat1 l Z a0 hw h a cp hcp scp pf1) pd_10 d16_16 rfl ?_
  rintro _ _ ⟨rfl, rfl⟩
  show Go _ _ _ _ _ _ _ _ _ _ _ _ 19 _ [(.int 0)]
  refine Go.ifYes (pc' := 41) d16_19 (XT.i0_eq_t (by decide)) (by decide) (by decide) ?_
  refine Go.old (fun old4 => ?_)
  refine Go.getstatic (pc' := 44) (host := "") (Or.inl (ww hw 45 rfl)) Via.refl (scp.ext old4.2) d16_41 rfl ?_
  refine Go.ifNo (pc' := 47) d16_44 (XT.i0_eq_f hcp) rfl ?_
  refine Go.aloadN (pc' := 48) d16_47 rfl rfl rfl ?_
  refine Go.getfield (pc' := 51) (host := "") (Or.inl (ww hw 299 rfl)) Via.refl pf3 d16_48 rfl ?_
  refine Go.ifYes (pc' := 79) d16_51 (XT.i0_eq_t (by decide)) (by decide) (by decide) ?_
  refine Go.aloadN (pc' := 80) d16_79 rfl rfl rfl ?_
  refine Go.iconst (pc' := 81) (v := 1) d16_80 rfl rfl ?_
  refine Go.putfieldN (pc' := 84) (ww hw 27 rfl) Via.refl rf1 xr (Or.inr ⟨(ww hw 23 rfl), rfl, rfl⟩) (ww hw 7 rfl) (ty := .byte) (v' := (1 : Int32)) (by decide) (by first | rfl | decide) (by first | rfl | decide | exact fits_nar_byte _) ge_r d16_81 rfl ?_
  intro h5 W6
  have K7 := (Keep.refl h [r]).wr W6 (Or.inl (List.mem_of_getElem? (i := 0) rfl))
  have f8 := rf1.same W6
  refine Go.aloadN (pc' := 85) d16_84 rfl rfl rfl ?_
  refine Go.aloadN (pc' := 86) d16_85 rfl rfl rfl ?_
  refine Go.iconst (pc' := 87) (v := 0) d16_86 rfl rfl ?_
  refine Go.iload (pc' := 89) d16_87 rfl rfl ?_
  refine Go.iconst (pc' := 90) (v := 1) d16_89 rfl rfl ?_
  refine Go.ishl (pc' := 91) d16_90 rfl ?_
  have ne9 := ne_exa (xb.wr W6) (xr.wr W6) (by decide)
  refine Go.callS (cells' := 1) (slots' := 16) (pc' := 94) [(.ref b), (.int 0), (.int (n <<< ((1 : Int32) &&& 31)))] [(.ref r)] (ww hw 111 rfl) (ww hw 112 rfl) (ww hw 113 rfl) (ww hw 114 rfl) (by decide) (c_corN l Z a0 hw h5 b kb z vs ((n <<< ((1 : Int32) &&& 31))) hm0 hm16 hmz hne (v.other W6 ne9)) pd_24 d16_91 rfl ?_
  rintro _ h10 ⟨d_10, ky_10, rfl, K10, ge_d_10, sz_d_10, F10_0, F10_1⟩
  have sz11 : h.size ≤ d_10 := Nat.le_trans K7.1 sz_d_10
  have K12 := K7.trans K10 all0
  show Go _ _ _ _ _ _ _ _ _ _ _ _ 94 _ [(.ref d_10), (.ref r)]
  have f13 := ((rf0.other W6 (Or.inr (sn_9 hw))).keep K10 nin0)
  refine Go.putfield (pc' := 97) (host := "") (Or.inl (ww hw 26 rfl)) Via.refl f13 ((xr.wr W6).keep K10) (Or.inr ⟨(ww hw 22 rfl), rfl, rfl⟩) (ww hw 7 rfl) (ty := (.array .byte)) (by decide) rfl rfl ge_r d16_94 rfl ?_
  intro h14 W15
  have K16 := K12.wr W15 (Or.inl (List.mem_of_getElem? (i := 0) rfl))
  have f17 := f13.same W15
  have f18 := ((f8.keep K10 nin0).other W15 (Or.inr (sn_10 hw)))
  have ne19 := (Nat.ne_of_lt (Nat.lt_of_lt_of_le f8.lt sz_d_10))
  exact Go.retV rfl d16_97 ⟨d_10, ky_10, rfl, K16, ge_d_10, sz11, f17, f18, (F10_0.other W15 (Ne.symm ne19)), (F10_1.wr W15)⟩
theorem c_strB1C (hw : HW a0 Z) (h : Heap) (r a b : Addr) (kb : ClassId) (vs : List Value) (n cp : Int32) (hcp : ¬ (cp = (0 : Int32))) (hm16 : (n <<< ((1 : Int32) &&& 31)).toNatClampNeg ≤ 16) (scp : Zcp Z (.int cp)) (ge_r : n0 ≤ r) (xr : ES Z h r) (rf0 : GV Z h r .null) (rf1 : GK Z h r (.int 0)) (xa : EB Z h a) (pf0 : FV Z h a (.ref b)) (pf1 : FK Z h a (.int 1)) (pf2 : FN Z h a (.int n)) (pf3 : FM Z h a (.int 0)) (v : Arv Z h b kb .byte (n <<< ((1 : Int32) &&& 31)) vs (.int 0)) (xb : EA Z h b) :
    Con l M_41 q16 5 none (rm4 3 1 16 49) Z n0 #[(.ref r), (.ref a), .null] h (fun v h' => ∃ d : Addr, ∃ ky : ClassId, v = none ∧ Keep h h' [r] ∧ n0 ≤ d ∧ h.size ≤ d ∧ GV Z h' r (.ref d) ∧ GK Z h' r (.int 1) ∧ Arv Z h' d ky .byte (n <<< ((1 : Int32) &&& 31)) vs (.int 0) ∧ EA Z h' d) := by
  refine Con.of_go (plainFor_of_name pn_0) (Ls := #[.val (.ref r), .val (.ref a), .val .null, .unset, .unset]) ?_
  refine Go.aloadN (pc' := 1) d16_0 rfl rfl rfl ?_
  refine Go.initO (pc' := 4) (ww hw 17 rfl) (ww hw 18 rfl) (ww hw 19 rfl) d16_1 rfl (nl rfl) (nl rfl) rfl ?_
  refine Go.aloadN (pc' := 5) d16_4 rfl rfl rfl ?_
  refine Go.callV (cells' := 0) (slots' := 0) (pc' := 8) [] [] xa (ww hw 90 rfl) (ww hw 91 rfl) (nfS (ww hw 93 rfl)) (ww hw 93 rfl) (ww hw 92 rfl) (ww hw 53 rfl) (ww hw 94 rfl) (by decide) (c_getV l Z a0 hw h a b pf0) pd_25 d16_5 rfl ?_
  rintro _ _ ⟨rfl, rfl⟩
  show Go _ _ _ _ _ _ _ _ _ _ _ _ 8 _ [(.ref b)]
  refine Go.astoreN (pc' := 9) (Ls' := #[.val (.ref r), .val (.ref a), .val .null, .val (.ref b), .unset]) d16_8 rfl rfl rfl ?_
  refine Go.aloadN (pc' := 10) d16_9 rfl rfl rfl ?_
  refine Go.callV (cells' := 0) (slots' := 0) (pc' := 13) [] [] xa (ww hw 95 rfl) (ww hw 96 rfl) (own_nfQ (ww hw 93 rfl) (ww hw 91 rfl) rfl) (ww hw 98 rfl) (ww hw 99 rfl) (ww hw 34 rfl) (ww hw 100 rfl) (by decide) (c_sbLen l Z a0 hw h a n xa pf2) pd_20 d16_10 rfl ?_
  rintro _ _ ⟨rfl, rfl⟩
  show Go _ _ _ _ _ _ _ _ _ _ _ _ 13 _ [(.int n)]
  refine Go.istore (pc' := 15) (Ls' := #[.val (.ref r), .val (.ref a), .val .null, .val (.ref b), .val (.int n)]) d16_13 rfl rfl ?_
  refine Go.aloadN (pc' := 16) d16_15 rfl rfl rfl ?_
  refine Go.callV (cells' := 0) (slots' := 0) (pc' := 19) [] [] xa (ww hw 106 rfl) (ww hw 107 rfl) (nfS (ww hw 109 rfl)) (ww hw 109 rfl) (ww hw 108 rfl) (ww hw 53 rfl) (ww hw 110 rfl) (by decide) (c_asbLat1 l Z a0 hw h a cp hcp scp pf1) pd_10 d16_16 rfl ?_
  rintro _ _ ⟨rfl, rfl⟩
  show Go _ _ _ _ _ _ _ _ _ _ _ _ 19 _ [(.int 0)]
  refine Go.ifYes (pc' := 41) d16_19 (XT.i0_eq_t (by decide)) (by decide) (by decide) ?_
  refine Go.old (fun old4 => ?_)
  refine Go.getstatic (pc' := 44) (host := "") (Or.inl (ww hw 45 rfl)) Via.refl (scp.ext old4.2) d16_41 rfl ?_
  refine Go.ifNo (pc' := 47) d16_44 (XT.i0_eq_f hcp) rfl ?_
  refine Go.aloadN (pc' := 48) d16_47 rfl rfl rfl ?_
  refine Go.getfield (pc' := 51) (host := "") (Or.inl (ww hw 299 rfl)) Via.refl pf3 d16_48 rfl ?_
  refine Go.ifYes (pc' := 79) d16_51 (XT.i0_eq_t (by decide)) (by decide) (by decide) ?_
  refine Go.aloadN (pc' := 80) d16_79 rfl rfl rfl ?_
  refine Go.iconst (pc' := 81) (v := 1) d16_80 rfl rfl ?_
  refine Go.putfieldN (pc' := 84) (ww hw 27 rfl) Via.refl rf1 xr (Or.inr ⟨(ww hw 23 rfl), rfl, rfl⟩) (ww hw 7 rfl) (ty := .byte) (v' := (1 : Int32)) (by decide) (by first | rfl | decide) (by first | rfl | decide | exact fits_nar_byte _) ge_r d16_81 rfl ?_
  intro h5 W6
  have K7 := (Keep.refl h [r]).wr W6 (Or.inl (List.mem_of_getElem? (i := 0) rfl))
  have f8 := rf1.same W6
  refine Go.aloadN (pc' := 85) d16_84 rfl rfl rfl ?_
  refine Go.aloadN (pc' := 86) d16_85 rfl rfl rfl ?_
  refine Go.iconst (pc' := 87) (v := 0) d16_86 rfl rfl ?_
  refine Go.iload (pc' := 89) d16_87 rfl rfl ?_
  refine Go.iconst (pc' := 90) (v := 1) d16_89 rfl rfl ?_
  refine Go.ishl (pc' := 91) d16_90 rfl ?_
  have ne9 := ne_exa (xb.wr W6) (xr.wr W6) (by decide)
  refine Go.callS (cells' := 1) (slots' := 16) (pc' := 94) [(.ref b), (.int 0), (.int (n <<< ((1 : Int32) &&& 31)))] [(.ref r)] (ww hw 111 rfl) (ww hw 112 rfl) (ww hw 113 rfl) (ww hw 114 rfl) (by decide) (c_corC l Z a0 hw h5 b kb ((n <<< ((1 : Int32) &&& 31))) vs hm16 (v.other W6 ne9) (xb.wr W6)) pd_24 d16_91 rfl ?_
  rintro _ h10 ⟨d_10, ky_10, rfl, K10, ge_d_10, sz_d_10, F10_0, F10_1⟩
  have sz11 : h.size ≤ d_10 := Nat.le_trans K7.1 sz_d_10
  have K12 := K7.trans K10 all0
  show Go _ _ _ _ _ _ _ _ _ _ _ _ 94 _ [(.ref d_10), (.ref r)]
  have f13 := ((rf0.other W6 (Or.inr (sn_9 hw))).keep K10 nin0)
  refine Go.putfield (pc' := 97) (host := "") (Or.inl (ww hw 26 rfl)) Via.refl f13 ((xr.wr W6).keep K10) (Or.inr ⟨(ww hw 22 rfl), rfl, rfl⟩) (ww hw 7 rfl) (ty := (.array .byte)) (by decide) rfl rfl ge_r d16_94 rfl ?_
  intro h14 W15
  have K16 := K12.wr W15 (Or.inl (List.mem_of_getElem? (i := 0) rfl))
  have f17 := f13.same W15
  have f18 := ((f8.keep K10 nin0).other W15 (Or.inr (sn_10 hw)))
  have ne19 := (Nat.ne_of_lt (Nat.lt_of_lt_of_le f8.lt sz_d_10))
  exact Go.retV rfl d16_97 ⟨d_10, ky_10, rfl, K16, ge_d_10, sz11, f17, f18, (F10_0.other W15 (Ne.symm ne19)), (F10_1.wr W15)⟩
theorem c_jB (hw : HW a0 Z) (h : Heap) (r a b : Addr) (m : Nat) (N : Nat) (es : List Int32) (cp : Int32) (hN : N ≤ 3) (hcp : ¬ (cp = (0 : Int32))) (scp : Zcp Z (.int cp)) (ge_r : n0 ≤ r) (xr : ES Z h r) (rf0 : GV Z h r .null) (rf1 : GK Z h r (.int 0)) (xa : EB Z h a) (bd : Bld Z h a b m N N es) :
    Con l M_41 q16 5 none (rm4 3 1 16 49) Z n0 #[(.ref r), (.ref a), .null] h (fun v h' => ∃ d : Addr, v = none ∧ Keep h h' [r] ∧ n0 ≤ d ∧ h.size ≤ d ∧ StrC Z h' r d es) := by
  obtain ⟨z, cd, kb, hst, f0, f1, f2, f3, A, xb, ma, mb, hL, hn⟩ := bd
  rcases (by omega : N = 0 ∨ N = 1 ∨ N = 2 ∨ N = 3) with rfl | rfl | rfl | rfl
  · rcases sts_0_0 hst with ⟨hl, rfl, rfl⟩
    · obtain rfl := len_0 hl
      exact (c_strB0C l Z a0 hw h r a b kb (enc 0 0 []) (0 : Int32) cp hcp (by decide) scp ge_r xr rf0 rf1 xa f0 f1 f2 f3 A xb).mono (fun v h' q => by
        obtain ⟨d, ky, rfl, K, gd, sd, F0, F1, A2, X2⟩ := q
        exact ⟨d, rfl, K, gd, sd, ky, 0, Or.inl rfl, F1, F0, (A2.pad (enc_pad 0 0 [])), X2, hL, hn, (by simp)⟩)
  · rcases sts_1_1 hst with ⟨hl, rfl, rfl⟩ | ⟨hl, rfl, rfl⟩ | ⟨hl, rfl, rfl⟩
    · obtain ⟨e0, rfl⟩ := len_1 hl
      exact (c_strB0C l Z a0 hw h r a b kb (enc 0 1 [e0]) (1 : Int32) cp hcp (by decide) scp ge_r xr rf0 rf1 xa f0 f1 f2 f3 A xb).mono (fun v h' q => by
        obtain ⟨d, ky, rfl, K, gd, sd, F0, F1, A2, X2⟩ := q
        exact ⟨d, rfl, K, gd, sd, ky, 0, Or.inl rfl, F1, F0, (A2.pad (enc_pad 0 1 [e0])), X2, hL, hn, (by simp)⟩)
    · obtain ⟨e0, rfl⟩ := len_1 hl
      exact (c_strB1C l Z a0 hw h r a b kb (enc 1 2 [e0]) (1 : Int32) cp hcp (by decide) scp ge_r xr rf0 rf1 xa f0 f1 f2 f3 ((A.cZ (show (2 : Int32) = ((1 : Int32) <<< ((1 : Int32) &&& 31)) from by decide))) xb).mono (fun v h' q => by
        obtain ⟨d, ky, rfl, K, gd, sd, F0, F1, A2, X2⟩ := q
        exact ⟨d, rfl, K, gd, sd, ky, 1, Or.inr rfl, F1, F0, ((A2.pad (enc_pad 1 2 [e0])).cZ (show ((1 : Int32) <<< ((1 : Int32) &&& 31)) = (2 : Int32) from by decide)), X2, hL, hn, (by simp)⟩)
    · obtain ⟨e0, e1, rfl⟩ := len_2 hl
      exact (c_strB0N l Z a0 hw h r a b kb (4 : Int32) (enc 0 4 [e0, e1]) (2 : Int32) cp hcp (by decide) (by decide) (by decide) (by decide) scp ge_r xr rf0 rf1 xa f0 f1 f2 f3 A xb).mono (fun v h' q => by
        obtain ⟨d, ky, rfl, K, gd, sd, F0, F1, A2, X2⟩ := q
        exact ⟨d, rfl, K, gd, sd, ky, 0, Or.inl rfl, F1, F0, (A2.pad (enc_pad 0 4 [e0, e1])), X2, hL, hn, (by simp)⟩)
  · rcases sts_2_2 hst with ⟨hl, rfl, rfl⟩ | ⟨hl, rfl, rfl⟩ | ⟨hl, rfl, rfl⟩ | ⟨hl, rfl, rfl⟩ | ⟨hl, rfl, rfl⟩
    · obtain ⟨e0, e1, rfl⟩ := len_2 hl
      exact (c_strB0C l Z a0 hw h r a b kb (enc 0 2 [e0, e1]) (2 : Int32) cp hcp (by decide) scp ge_r xr rf0 rf1 xa f0 f1 f2 f3 A xb).mono (fun v h' q => by
        obtain ⟨d, ky, rfl, K, gd, sd, F0, F1, A2, X2⟩ := q
        exact ⟨d, rfl, K, gd, sd, ky, 0, Or.inl rfl, F1, F0, (A2.pad (enc_pad 0 2 [e0, e1])), X2, hL, hn, (by simp)⟩)
    · obtain ⟨e0, e1, rfl⟩ := len_2 hl
      exact (c_strB1C l Z a0 hw h r a b kb (enc 1 4 [e0, e1]) (2 : Int32) cp hcp (by decide) scp ge_r xr rf0 rf1 xa f0 f1 f2 f3 ((A.cZ (show (4 : Int32) = ((2 : Int32) <<< ((1 : Int32) &&& 31)) from by decide))) xb).mono (fun v h' q => by
        obtain ⟨d, ky, rfl, K, gd, sd, F0, F1, A2, X2⟩ := q
        exact ⟨d, rfl, K, gd, sd, ky, 1, Or.inr rfl, F1, F0, ((A2.pad (enc_pad 1 4 [e0, e1])).cZ (show ((2 : Int32) <<< ((1 : Int32) &&& 31)) = (4 : Int32) from by decide)), X2, hL, hn, (by simp)⟩)
    · obtain ⟨e0, e1, e2, rfl⟩ := len_3 hl
      exact (c_strB0N l Z a0 hw h r a b kb (6 : Int32) (enc 0 6 [e0, e1, e2]) (3 : Int32) cp hcp (by decide) (by decide) (by decide) (by decide) scp ge_r xr rf0 rf1 xa f0 f1 f2 f3 A xb).mono (fun v h' q => by
        obtain ⟨d, ky, rfl, K, gd, sd, F0, F1, A2, X2⟩ := q
        exact ⟨d, rfl, K, gd, sd, ky, 0, Or.inl rfl, F1, F0, (A2.pad (enc_pad 0 6 [e0, e1, e2])), X2, hL, hn, (by simp)⟩)
    · obtain ⟨e0, e1, e2, rfl⟩ := len_3 hl
      exact (c_strB1N l Z a0 hw h r a b kb (12 : Int32) (enc 1 12 [e0, e1, e2]) (3 : Int32) cp hcp (by decide) (by decide) (by decide) (by decide) scp ge_r xr rf0 rf1 xa f0 f1 f2 f3 A xb).mono (fun v h' q => by
        obtain ⟨d, ky, rfl, K, gd, sd, F0, F1, A2, X2⟩ := q
        exact ⟨d, rfl, K, gd, sd, ky, 1, Or.inr rfl, F1, F0, ((A2.pad (enc_pad 1 12 [e0, e1, e2])).cZ (show ((3 : Int32) <<< ((1 : Int32) &&& 31)) = (6 : Int32) from by decide)), X2, hL, hn, (by simp)⟩)
    · obtain ⟨e0, e1, e2, e3, rfl⟩ := len_4 hl
      exact (c_strB0N l Z a0 hw h r a b kb (6 : Int32) (enc 0 6 [e0, e1, e2, e3]) (4 : Int32) cp hcp (by decide) (by decide) (by decide) (by decide) scp ge_r xr rf0 rf1 xa f0 f1 f2 f3 A xb).mono (fun v h' q => by
        obtain ⟨d, ky, rfl, K, gd, sd, F0, F1, A2, X2⟩ := q
        exact ⟨d, rfl, K, gd, sd, ky, 0, Or.inl rfl, F1, F0, (A2.pad (enc_pad 0 6 [e0, e1, e2, e3])), X2, hL, hn, (by simp)⟩)
  · rcases sts_3_3 hst with ⟨hl, rfl, rfl⟩ | ⟨hl, rfl, rfl⟩ | ⟨hl, rfl, rfl⟩ | ⟨hl, rfl, rfl⟩ | ⟨hl, rfl, rfl⟩ | ⟨hl, rfl, rfl⟩ | ⟨hl, rfl, rfl⟩
    · obtain ⟨e0, e1, e2, rfl⟩ := len_3 hl
      exact (c_strB0C l Z a0 hw h r a b kb (enc 0 3 [e0, e1, e2]) (3 : Int32) cp hcp (by decide) scp ge_r xr rf0 rf1 xa f0 f1 f2 f3 A xb).mono (fun v h' q => by
        obtain ⟨d, ky, rfl, K, gd, sd, F0, F1, A2, X2⟩ := q
        exact ⟨d, rfl, K, gd, sd, ky, 0, Or.inl rfl, F1, F0, (A2.pad (enc_pad 0 3 [e0, e1, e2])), X2, hL, hn, (by simp)⟩)
    · obtain ⟨e0, e1, e2, rfl⟩ := len_3 hl
      exact (c_strB1C l Z a0 hw h r a b kb (enc 1 6 [e0, e1, e2]) (3 : Int32) cp hcp (by decide) scp ge_r xr rf0 rf1 xa f0 f1 f2 f3 ((A.cZ (show (6 : Int32) = ((3 : Int32) <<< ((1 : Int32) &&& 31)) from by decide))) xb).mono (fun v h' q => by
        obtain ⟨d, ky, rfl, K, gd, sd, F0, F1, A2, X2⟩ := q
        exact ⟨d, rfl, K, gd, sd, ky, 1, Or.inr rfl, F1, F0, ((A2.pad (enc_pad 1 6 [e0, e1, e2])).cZ (show ((3 : Int32) <<< ((1 : Int32) &&& 31)) = (6 : Int32) from by decide)), X2, hL, hn, (by simp)⟩)
    · obtain ⟨e0, e1, e2, e3, rfl⟩ := len_4 hl
      exact (c_strB0N l Z a0 hw h r a b kb (8 : Int32) (enc 0 8 [e0, e1, e2, e3]) (4 : Int32) cp hcp (by decide) (by decide) (by decide) (by decide) scp ge_r xr rf0 rf1 xa f0 f1 f2 f3 A xb).mono (fun v h' q => by
        obtain ⟨d, ky, rfl, K, gd, sd, F0, F1, A2, X2⟩ := q
        exact ⟨d, rfl, K, gd, sd, ky, 0, Or.inl rfl, F1, F0, (A2.pad (enc_pad 0 8 [e0, e1, e2, e3])), X2, hL, hn, (by simp)⟩)
    · obtain ⟨e0, e1, e2, e3, rfl⟩ := len_4 hl
      exact (c_strB1N l Z a0 hw h r a b kb (16 : Int32) (enc 1 16 [e0, e1, e2, e3]) (4 : Int32) cp hcp (by decide) (by decide) (by decide) (by decide) scp ge_r xr rf0 rf1 xa f0 f1 f2 f3 A xb).mono (fun v h' q => by
        obtain ⟨d, ky, rfl, K, gd, sd, F0, F1, A2, X2⟩ := q
        exact ⟨d, rfl, K, gd, sd, ky, 1, Or.inr rfl, F1, F0, ((A2.pad (enc_pad 1 16 [e0, e1, e2, e3])).cZ (show ((4 : Int32) <<< ((1 : Int32) &&& 31)) = (8 : Int32) from by decide)), X2, hL, hn, (by simp)⟩)
    · obtain ⟨e0, e1, e2, e3, e4, rfl⟩ := len_5 hl
      exact (c_strB0N l Z a0 hw h r a b kb (8 : Int32) (enc 0 8 [e0, e1, e2, e3, e4]) (5 : Int32) cp hcp (by decide) (by decide) (by decide) (by decide) scp ge_r xr rf0 rf1 xa f0 f1 f2 f3 A xb).mono (fun v h' q => by
        obtain ⟨d, ky, rfl, K, gd, sd, F0, F1, A2, X2⟩ := q
        exact ⟨d, rfl, K, gd, sd, ky, 0, Or.inl rfl, F1, F0, (A2.pad (enc_pad 0 8 [e0, e1, e2, e3, e4])), X2, hL, hn, (by simp)⟩)
    · obtain ⟨e0, e1, e2, e3, e4, rfl⟩ := len_5 hl
      exact (c_strB1N l Z a0 hw h r a b kb (16 : Int32) (enc 1 16 [e0, e1, e2, e3, e4]) (5 : Int32) cp hcp (by decide) (by decide) (by decide) (by decide) scp ge_r xr rf0 rf1 xa f0 f1 f2 f3 A xb).mono (fun v h' q => by
        obtain ⟨d, ky, rfl, K, gd, sd, F0, F1, A2, X2⟩ := q
        exact ⟨d, rfl, K, gd, sd, ky, 1, Or.inr rfl, F1, F0, ((A2.pad (enc_pad 1 16 [e0, e1, e2, e3, e4])).cZ (show ((5 : Int32) <<< ((1 : Int32) &&& 31)) = (10 : Int32) from by decide)), X2, hL, hn, (by simp)⟩)
    · obtain ⟨e0, e1, e2, e3, e4, e5, rfl⟩ := len_6 hl
      exact (c_strB0N l Z a0 hw h r a b kb (8 : Int32) (enc 0 8 [e0, e1, e2, e3, e4, e5]) (6 : Int32) cp hcp (by decide) (by decide) (by decide) (by decide) scp ge_r xr rf0 rf1 xa f0 f1 f2 f3 A xb).mono (fun v h' q => by
        obtain ⟨d, ky, rfl, K, gd, sd, F0, F1, A2, X2⟩ := q
        exact ⟨d, rfl, K, gd, sd, ky, 0, Or.inl rfl, F1, F0, (A2.pad (enc_pad 0 8 [e0, e1, e2, e3, e4, e5])), X2, hL, hn, (by simp)⟩)
theorem c_strSB (hw : HW a0 Z) (h : Heap) (r a b : Addr) (m : Nat) (N : Nat) (es : List Int32) (cp : Int32) (hN : N ≤ 3) (hcp : ¬ (cp = (0 : Int32))) (scp : Zcp Z (.int cp)) (ge_r : n0 ≤ r) (xr : ES Z h r) (rf0 : GV Z h r .null) (rf1 : GK Z h r (.int 0)) (xa : EB Z h a) (bd : Bld Z h a b m N N es) :
    Con l M_42 q15 2 none (rm4 4 1 16 65) Z n0 #[(.ref r), (.ref a)] h (fun v h' => ∃ d : Addr, v = none ∧ Keep h h' [r] ∧ n0 ≤ d ∧ h.size ≤ d ∧ StrC Z h' r d es) := by
  refine Con.of_go (plainFor_of_name pn_0) (Ls := #[.val (.ref r), .val (.ref a)]) ?_
  refine Go.aloadN (pc' := 1) d15_0 rfl rfl rfl ?_
  refine Go.aloadN (pc' := 2) d15_1 rfl rfl rfl ?_
  refine Go.aconstNull (pc' := 3) d15_2 rfl ?_
  refine Go.callC (cells' := 1) (slots' := 16) (pc' := 6) [(.ref a), .null] [] (a := r) rfl rfl (ww hw 87 rfl) (ww hw 88 rfl) (ww hw 8 rfl) (ww hw 89 rfl) (by decide) (c_jB l Z a0 hw h r a b m N es cp hN hcp scp ge_r xr rf0 rf1 xa bd) pd_26 d15_3 rfl ?_
  rintro _ h1 ⟨d_1, rfl, K1, ge_d_1, sz_d_1, F1_0⟩
  show Go _ _ _ _ _ _ _ _ _ _ _ _ 6 _ []
  exact Go.retV rfl d15_6 ⟨d_1, rfl, K1, ge_d_1, sz_d_1, F1_0⟩
theorem c_toStr (hw : HW a0 Z) (h : Heap) (a b : Addr) (m : Nat) (N : Nat) (es : List Int32) (cp : Int32) (hN : N ≤ 3) (hcp : ¬ (cp = (0 : Int32))) (scp : Zcp Z (.int cp)) (xa : EB Z h a) (bd : Bld Z h a b m N N es) :
    Con l M_43 q14 1 (some (.object "java/lang/String")) (rm4 5 2 20 79) Z n0 #[(.ref a)] h (fun v h' => ∃ r : Addr, ∃ d : Addr, v = some (.ref r) ∧ Keep h h' [] ∧ n0 ≤ r ∧ h.size ≤ r ∧ n0 ≤ d ∧ h.size ≤ d ∧ ES Z h' r ∧ StrC Z h' r d es) := by
  refine Con.of_go (plainFor_of_name pn_7) (Ls := #[.val (.ref a)]) ?_
  refine Go.new (pc' := 3) (cells' := 1) (slots' := 4) (ww hw 83 rfl) (ww hw 7 rfl) (ww hw 8 rfl) d14_0 rfl rfl (by decide) (by decide) rfl ?_
  intro h1 b1 g1 E1 ge1 A1 D1
  have K2 := (Keep.refl h []).ext E1
  refine Go.dup (pc' := 4) d14_3 rfl rfl ?_
  refine Go.aloadN (pc' := 5) d14_4 rfl rfl rfl ?_
  refine Go.callC (cells' := 2) (slots' := 20) (pc' := 8) [(.ref a)] [(.ref b1)] (a := b1) rfl rfl (ww hw 84 rfl) (ww hw 85 rfl) (ww hw 8 rfl) (ww hw 86 rfl) (by decide) (c_strSB l Z a0 hw h1 b1 a b m N es cp hN hcp scp ge1 A1 ((D1 (Or.inr (ww hw 22 rfl)) (ty := (.array .byte)) (by decide) : GV Z h1 b1 .null)) ((D1 (Or.inr (ww hw 23 rfl)) (ty := .byte) (by decide) : GK Z h1 b1 (.int 0))) (xa.ext E1) (bd.ext E1)) pd_27 d14_5 rfl ?_
  rintro _ h3 ⟨d_3, rfl, K3, ge_d_3, sz_d_3, F3_0⟩
  have sz4 : h.size ≤ d_3 := Nat.le_trans K2.1 sz_d_3
  have K5 := K2.trans K3 (allS (Or.inr (Nat.le_of_eq g1.symm)) all0)
  show Go _ _ _ _ _ _ _ _ _ _ _ _ 8 _ [(.ref b1)]
  exact Go.retR rfl rfl rfl rfl d14_8 ⟨b1, d_3, rfl, K5, ge1, (Nat.le_of_eq g1.symm), ge_d_3, sz4, (A1.keep K3), F3_0⟩
theorem c_coder1 (hw : HW a0 Z) (h : Heap) (a : Addr) (cp : Int32) (hcp : ¬ (cp = (0 : Int32))) (scp : Zcp Z (.int cp)) (f : GK Z h a (.int 1)) :
    Con l M_0 q7 1 (some .byte) (rm4 0 0 0 0) Z n0 #[(.ref a)] h (fun v h' => v = some (.int 1) ∧ h = h') := by
  refine Con.of_go (plainFor_of_name pn_0) (Ls := #[.val (.ref a)]) ?_
  refine Go.old (fun old1 => ?_)
  refine Go.getstatic (pc' := 3) (host := "") (Or.inl (ww hw 45 rfl)) Via.refl (scp.ext old1.2) d7_0 rfl ?_
  refine Go.ifNo (pc' := 6) d7_3 (XT.i0_eq_f hcp) rfl ?_
  refine Go.aloadN (pc' := 7) d7_6 rfl rfl rfl ?_
  refine Go.getfield (pc' := 10) (host := "") (Or.inl (ww hw 27 rfl)) Via.refl f d7_7 rfl ?_
  refine Go.goto (pc' := 14) d7_10 (by decide) (by decide) ?_
  exact Go.retN (t := .byte) rfl (by simp) d7_14 ⟨rfl, rfl⟩
theorem c_isLat1 (hw : HW a0 Z) (h : Heap) (a : Addr) (cp : Int32) (hcp : ¬ (cp = (0 : Int32))) (scp : Zcp Z (.int cp)) (f : GK Z h a (.int 1)) :
    Con l M_1 q11 1 (some .boolean) (rm4 0 0 0 0) Z n0 #[(.ref a)] h (fun v h' => v = some (.int 0) ∧ h = h') := by
  refine Con.of_go (plainFor_of_name pn_0) (Ls := #[.val (.ref a)]) ?_
  refine Go.old (fun old1 => ?_)
  refine Go.getstatic (pc' := 3) (host := "") (Or.inl (ww hw 45 rfl)) Via.refl (scp.ext old1.2) d11_0 rfl ?_
  refine Go.ifNo (pc' := 6) d11_3 (XT.i0_eq_f hcp) rfl ?_
  refine Go.aloadN (pc' := 7) d11_6 rfl rfl rfl ?_
  refine Go.getfield (pc' := 10) (host := "") (Or.inl (ww hw 27 rfl)) Via.refl f d11_7 rfl ?_
  refine Go.ifYes (pc' := 17) d11_10 (XT.i0_ne_t (by decide)) (by decide) (by decide) ?_
  refine Go.iconst (pc' := 18) (v := 0) d11_17 rfl rfl ?_
  exact Go.retN (t := .boolean) rfl (by simp) d11_18 ⟨rfl, rfl⟩
theorem c_slen0 (hw : HW a0 Z) (h : Heap) (r b : Addr) (kb : ClassId) (z : Int32) (vs : List Value) (cp : Int32) (hcp : ¬ (cp = (0 : Int32))) (scp : Zcp Z (.int cp)) (xr : ES Z h r) (f : GK Z h r (.int 0)) (g : GV Z h r (.ref b)) (v : AB Z h b kb z vs (.int 0)) :
    Con l M_26 q6 1 (some .int) (rm4 1 0 0 13) Z n0 #[(.ref r)] h (fun v h' => v = some (.int (z >>> ((0 : Int32) &&& 31))) ∧ h = h') := by
  refine Con.of_go (plainFor_of_name pn_0) (Ls := #[.val (.ref r)]) ?_
  refine Go.aloadN (pc' := 1) d6_0 rfl rfl rfl ?_
  refine Go.getfield (pc' := 4) (host := "") (Or.inl (ww hw 26 rfl)) Via.refl g d6_1 rfl ?_
  refine Go.arraylength (pc' := 5) v d6_4 rfl ?_
  refine Go.aloadN (pc' := 6) d6_5 rfl rfl rfl ?_
  refine Go.callV (cells' := 0) (slots' := 0) (pc' := 9) [] [(.int z)] xr (ww hw 40 rfl) (ww hw 41 rfl) (nfS (ww hw 43 rfl)) (ww hw 43 rfl) (ww hw 42 rfl) (ww hw 8 rfl) (ww hw 44 rfl) (by decide) (c_coder l Z a0 hw h r cp hcp scp f) pd_17 d6_6 rfl ?_
  rintro _ _ ⟨rfl, rfl⟩
  show Go _ _ _ _ _ _ _ _ _ _ _ _ 9 _ [(.int 0), (.int z)]
  refine Go.ishr (pc' := 10) d6_9 rfl ?_
  exact Go.retI rfl d6_10 ⟨rfl, rfl⟩
theorem c_slen1 (hw : HW a0 Z) (h : Heap) (r b : Addr) (kb : ClassId) (z : Int32) (vs : List Value) (cp : Int32) (hcp : ¬ (cp = (0 : Int32))) (scp : Zcp Z (.int cp)) (xr : ES Z h r) (f : GK Z h r (.int 1)) (g : GV Z h r (.ref b)) (v : AB Z h b kb z vs (.int 0)) :
    Con l M_26 q6 1 (some .int) (rm4 1 0 0 13) Z n0 #[(.ref r)] h (fun v h' => v = some (.int (z >>> ((1 : Int32) &&& 31))) ∧ h = h') := by
  refine Con.of_go (plainFor_of_name pn_0) (Ls := #[.val (.ref r)]) ?_
  refine Go.aloadN (pc' := 1) d6_0 rfl rfl rfl ?_
  refine Go.getfield (pc' := 4) (host := "") (Or.inl (ww hw 26 rfl)) Via.refl g d6_1 rfl ?_
  refine Go.arraylength (pc' := 5) v d6_4 rfl ?_
  refine Go.aloadN (pc' := 6) d6_5 rfl rfl rfl ?_
  refine Go.callV (cells' := 0) (slots' := 0) (pc' := 9) [] [(.int z)] xr (ww hw 40 rfl) (ww hw 41 rfl) (nfS (ww hw 43 rfl)) (ww hw 43 rfl) (ww hw 42 rfl) (ww hw 8 rfl) (ww hw 44 rfl) (by decide) (c_coder1 l Z a0 hw h r cp hcp scp f) pd_17 d6_6 rfl ?_
  rintro _ _ ⟨rfl, rfl⟩
  show Go _ _ _ _ _ _ _ _ _ _ _ _ 9 _ [(.int 1), (.int z)]
  refine Go.ishr (pc' := 10) d6_9 rfl ?_
  exact Go.retI rfl d6_10 ⟨rfl, rfl⟩
theorem c_jlen (hw : HW a0 Z) (h : Heap) (r b : Addr) (E : List Int32) (cp : Int32) (hcp : ¬ (cp = (0 : Int32))) (scp : Zcp Z (.int cp)) (x : ES Z h r) (sc : StrC Z h r b E) :
    Con l M_26 q6 1 (some .int) (rm4 1 0 0 13) Z n0 #[(.ref r)] h (fun v h' => v = some (.int (Int32.ofNat E.length)) ∧ h = h') := by
  obtain ⟨kb, cd, hcd, f, g, A, xb, hL, hn, h6⟩ := sc
  rcases hcd with rfl | rfl
  · exact (c_slen0 l Z a0 hw h r b kb _ _ cp hcp scp x f g A).mono (fun v h' q => ⟨q.1.trans (congrArg (fun z => some (Value.int z)) (by rw [enc0]; exact own_l0 _ h6)), q.2⟩)
  · exact (c_slen1 l Z a0 hw h r b kb _ _ cp hcp scp x f g A).mono (fun v h' q => ⟨q.1.trans (congrArg (fun z => some (Value.int z)) (by rw [enc1]; exact own_l1 _ h6)), q.2⟩)
theorem c_cinf0 (hw : HW a0 Z) (h : Heap) (b : Addr) (kb : ClassId) (t : Addr) (kt : ClassId) (ge_t : n0 ≤ t) (ne_b_t : b ≠ t) (v : AB Z h b kb (0 : Int32) [] (.int 0)) (w : Arv Z h t kt .char (0 : Int32) [] (.int 0)) :
    Con l M_44 q13 6 none (rm4 0 0 0 0) Z n0 #[(.ref b), (.int 0), (.ref t), (.int 0), (.int 0)] h (fun v h' => v = none ∧ Keep h h' [t] ∧ Arv Z h' t kt .char (0 : Int32) [] (.int 0)) := by
  refine Con.of_go (plainFor_of_name pn_3) (Ls := #[.val (.ref b), .val (.int 0), .val (.ref t), .val (.int 0), .val (.int 0), .unset]) ?_
  refine Go.iconst (pc' := 1) (v := 0) d13_0 rfl rfl ?_
  refine Go.istore (pc' := 3) (Ls' := #[.val (.ref b), .val (.int 0), .val (.ref t), .val (.int 0), .val (.int 0), .val (.int 0)]) d13_1 rfl rfl ?_
  refine Go.iload (pc' := 5) d13_3 rfl rfl ?_
  refine Go.iload (pc' := 7) d13_5 rfl rfl ?_
  refine Go.icmpYes (pc' := 33) d13_7 (XT.ii_ge_t (by decide)) (by decide) (by decide) ?_
  exact Go.retV rfl d13_33 ⟨rfl, (Keep.refl h [t]), w⟩
theorem c_gcs0 (hw : HW a0 Z) (h : Heap) (b : Addr) (kb : ClassId) (t : Addr) (kt : ClassId) (wf : Value) (hwf : wf.isRef = true) (sad : Zad Z (.int 1)) (shi : Zhi Z (.int 0)) (slo : Zlo Z (.int 8)) (sfm : Zfm Z wf) (ge_t : n0 ≤ t) (ne_b_t : b ≠ t) (v : AB Z h b kb (0 : Int32) [] (.int 0)) (w : Arv Z h t kt .char (0 : Int32) [] (.int 0)) :
    Con l M_45 q55 6 none (rm4 0 0 0 0) Z n0 #[(.ref b), (.int 0), (.int 0), (.ref t), (.int 0)] h (fun v h' => v = none ∧ Keep h h' [t] ∧ Arv Z h' t kt .char (0 : Int32) [] (.int 0)) := by
  refine Con.of_go (plainFor_of_name pn_2) (Ls := #[.val (.ref b), .val (.int 0), .val (.int 0), .val (.ref t), .val (.int 0), .unset]) ?_
  refine Go.iloadN (pc' := 1) d55_0 rfl rfl ?_
  refine Go.iloadN (pc' := 2) d55_1 rfl rfl ?_
  refine Go.icmpYes (pc' := 13) d55_2 (XT.ii_ge_t (by decide)) (by decide) (by decide) ?_
  refine Go.iloadN (pc' := 14) d55_13 rfl rfl ?_
  refine Go.istore (pc' := 16) (Ls' := #[.val (.ref b), .val (.int 0), .val (.int 0), .val (.ref t), .val (.int 0), .val (.int 0)]) d55_14 rfl rfl ?_
  refine Go.iload (pc' := 18) d55_16 rfl rfl ?_
  refine Go.iloadN (pc' := 19) d55_18 rfl rfl ?_
  refine Go.icmpYes (pc' := 41) d55_19 (XT.ii_ge_t (by decide)) (by decide) (by decide) ?_
  exact Go.retV rfl d55_41 ⟨rfl, (Keep.refl h [t]), w⟩
theorem c_cinf1 (hw : HW a0 Z) (h : Heap) (b : Addr) (kb : ClassId) (t : Addr) (kt : ClassId) (k0 : Int32) (hq0 : (k0.toInt8.toInt32 &&& (255 : Int32)) = k0) (hn0 : nar .char k0 = k0) (ge_t : n0 ≤ t) (ne_b_t : b ≠ t) (v : AB Z h b kb (1 : Int32) [(by8 k0)] (.int 0)) (w : Arv Z h t kt .char (1 : Int32) [(.int 0)] (.int 0)) :
    Con l M_44 q13 6 none (rm4 0 0 0 0) Z n0 #[(.ref b), (.int 0), (.ref t), (.int 0), (.int 1)] h (fun v h' => v = none ∧ Keep h h' [t] ∧ Arv Z h' t kt .char (1 : Int32) [(.int k0)] (.int 0)) := by
  refine Con.of_go (plainFor_of_name pn_3) (Ls := #[.val (.ref b), .val (.int 0), .val (.ref t), .val (.int 0), .val (.int 1), .unset]) ?_
  refine Go.iconst (pc' := 1) (v := 0) d13_0 rfl rfl ?_
  refine Go.istore (pc' := 3) (Ls' := #[.val (.ref b), .val (.int 0), .val (.ref t), .val (.int 0), .val (.int 1), .val (.int 0)]) d13_1 rfl rfl ?_
  refine Go.iload (pc' := 5) d13_3 rfl rfl ?_
  refine Go.iload (pc' := 7) d13_5 rfl rfl ?_
  refine Go.icmpNo (pc' := 10) d13_7 (XT.ii_ge_f (by decide)) rfl ?_
  refine Go.aloadN (pc' := 11) d13_10 rfl rfl rfl ?_
  refine Go.iloadN (pc' := 12) d13_11 rfl rfl ?_
  refine Go.iinc (pc' := 15) (Ls' := #[.val (.ref b), .val (.int 0), .val (.ref t), .val (.int ((0 : Int32) + (1 : Int32))), .val (.int 1), .val (.int 0)]) (w := (1 : Int32)) d13_12 rfl rfl rfl rfl ?_
  show Go _ _ _ _ _ _ _ _ _ _ _ _ 15 #[.val (.ref b), .val (.int 0), .val (.ref t), .val (.int 1), .val (.int 1), .val (.int 0)] [(.int 0), (.ref t)]
  refine Go.aloadN (pc' := 16) d13_15 rfl rfl rfl ?_
  refine Go.iloadN (pc' := 17) d13_16 rfl rfl ?_
  refine Go.iinc (pc' := 20) (Ls' := #[.val (.ref b), .val (.int ((0 : Int32) + (1 : Int32))), .val (.ref t), .val (.int 1), .val (.int 1), .val (.int 0)]) (w := (1 : Int32)) d13_17 rfl rfl rfl rfl ?_
  show Go _ _ _ _ _ _ _ _ _ _ _ _ 20 #[.val (.ref b), .val (.int 1), .val (.ref t), .val (.int 1), .val (.int 1), .val (.int 0)] [(.int 0), (.ref b), (.int 0), (.ref t)]
  refine Go.baload (pc' := 21) (v := k0.toInt8.toInt32) v d13_20 (by decide) (by decide) rfl rfl ?_
  refine Go.sipush (pc' := 24) (v := 255) d13_21 rfl rfl ?_
  refine Go.iand (pc' := 25) d13_24 rfl ?_
  refine Go.i2c (pc' := 26) d13_25 rfl ?_
  rw [i2c_mask]
  rw [hq0]
  refine Go.castore (pc' := 27) w ge_t d13_26 (by decide) (by decide) (i := 0) rfl (nl rfl) rfl ?_
  intro h1 W2 V3
  have K4 := (Keep.refl h [t]).wr W2 (Or.inl (List.mem_of_getElem? (i := 0) rfl))
  rw [hn0] at V3
  replace V3 : Arv Z h1 t kt .char (1 : Int32) [(.int k0)] (.int 0) := V3
  refine Go.iinc (pc' := 30) (Ls' := #[.val (.ref b), .val (.int 1), .val (.ref t), .val (.int 1), .val (.int 1), .val (.int ((0 : Int32) + (1 : Int32)))]) (w := (1 : Int32)) d13_27 rfl rfl rfl rfl ?_
  show Go _ _ _ _ _ _ _ _ _ _ _ _ 30 #[.val (.ref b), .val (.int 1), .val (.ref t), .val (.int 1), .val (.int 1), .val (.int 1)] []
  refine Go.goto (pc' := 3) d13_30 (by decide) (by decide) ?_
  refine Go.iload (pc' := 5) d13_3 rfl rfl ?_
  refine Go.iload (pc' := 7) d13_5 rfl rfl ?_
  refine Go.icmpYes (pc' := 33) d13_7 (XT.ii_ge_t (by decide)) (by decide) (by decide) ?_
  exact Go.retV rfl d13_33 ⟨rfl, K4, V3⟩
theorem c_gcs1 (hw : HW a0 Z) (h : Heap) (b : Addr) (kb : ClassId) (t : Addr) (kt : ClassId) (k0 : Int32) (wf : Value) (hn0 : nar .char k0 = k0) (hwf : wf.isRef = true) (sad : Zad Z (.int 1)) (shi : Zhi Z (.int 0)) (slo : Zlo Z (.int 8)) (sfm : Zfm Z wf) (ge_t : n0 ≤ t) (ne_b_t : b ≠ t) (v : AB Z h b kb (2 : Int32) [(loB k0), (hiB k0)] (.int 0)) (w : Arv Z h t kt .char (1 : Int32) [(.int 0)] (.int 0)) :
    Con l M_45 q55 6 none (rm4 3 0 0 43) Z n0 #[(.ref b), (.int 0), (.int 1), (.ref t), (.int 0)] h (fun v h' => v = none ∧ Keep h h' [t] ∧ Arv Z h' t kt .char (1 : Int32) [(.int k0)] (.int 0)) := by
  refine Con.of_go (plainFor_of_name pn_2) (Ls := #[.val (.ref b), .val (.int 0), .val (.int 1), .val (.ref t), .val (.int 0), .unset]) ?_
  refine Go.iloadN (pc' := 1) d55_0 rfl rfl ?_
  refine Go.iloadN (pc' := 2) d55_1 rfl rfl ?_
  refine Go.icmpNo (pc' := 5) d55_2 (XT.ii_ge_f (by decide)) rfl ?_
  refine Go.iloadN (pc' := 6) d55_5 rfl rfl ?_
  refine Go.iloadN (pc' := 7) d55_6 rfl rfl ?_
  refine Go.iloadN (pc' := 8) d55_7 rfl rfl ?_
  refine Go.isub (pc' := 9) d55_8 rfl ?_
  show Go _ _ _ _ _ _ _ _ _ _ _ _ 9 _ [(.int 1), (.int 0)]
  refine Go.aloadN (pc' := 10) d55_9 rfl rfl rfl ?_
  refine Go.callS (cells' := 0) (slots' := 0) (pc' := 13) [(.int 0), (.int 1), (.ref b)] [] (ww hw 268 rfl) (ww hw 269 rfl) (ww hw 128 rfl) (ww hw 270 rfl) (by decide) (c_uboc l Z a0 hw h (0 : Int32) (1 : Int32) b kb (2 : Int32) ([(loB k0), (hiB k0)]) wf (by decide) (by decide) hwf sfm v) pd_8 d55_10 rfl ?_
  rintro _ _ ⟨rfl, rfl⟩
  show Go _ _ _ _ _ _ _ _ _ _ _ _ 13 _ []
  refine Go.iloadN (pc' := 14) d55_13 rfl rfl ?_
  refine Go.istore (pc' := 16) (Ls' := #[.val (.ref b), .val (.int 0), .val (.int 1), .val (.ref t), .val (.int 0), .val (.int 0)]) d55_14 rfl rfl ?_
  refine Go.iload (pc' := 18) d55_16 rfl rfl ?_
  refine Go.iloadN (pc' := 19) d55_18 rfl rfl ?_
  refine Go.icmpNo (pc' := 22) d55_19 (XT.ii_ge_f (by decide)) rfl ?_
  refine Go.aloadN (pc' := 23) d55_22 rfl rfl rfl ?_
  refine Go.iload (pc' := 25) d55_23 rfl rfl ?_
  refine Go.iinc (pc' := 28) (Ls' := #[.val (.ref b), .val (.int 0), .val (.int 1), .val (.ref t), .val (.int ((0 : Int32) + (1 : Int32))), .val (.int 0)]) (w := (1 : Int32)) d55_25 rfl rfl rfl rfl ?_
  show Go _ _ _ _ _ _ _ _ _ _ _ _ 28 #[.val (.ref b), .val (.int 0), .val (.int 1), .val (.ref t), .val (.int 1), .val (.int 0)] [(.int 0), (.ref t)]
  refine Go.aloadN (pc' := 29) d55_28 rfl rfl rfl ?_
  refine Go.iload (pc' := 31) d55_29 rfl rfl ?_
  refine Go.callS (cells' := 0) (slots' := 0) (pc' := 34) [(.ref b), (.int 0)] [(.int 0), (.ref t)] (ww hw 259 rfl) (ww hw 260 rfl) (ww hw 128 rfl) (ww hw 261 rfl) (by decide) (c_getChar l Z a0 hw h b kb (2 : Int32) ([(loB k0), (hiB k0)]) (0 : Int32) (0 : Int32) (1 : Int32) k0 (by decide) (by decide) (by decide) (by decide) (by decide) (by decide) rfl rfl hn0 sad shi slo v) pd_28 d55_31 rfl ?_
  rintro _ _ ⟨rfl, rfl⟩
  show Go _ _ _ _ _ _ _ _ _ _ _ _ 34 _ [(.int k0), (.int 0), (.ref t)]
  refine Go.castore (pc' := 35) w ge_t d55_34 (by decide) (by decide) (i := 0) rfl (nl rfl) rfl ?_
  intro h3 W4 V5
  have K6 := (Keep.refl h [t]).wr W4 (Or.inl (List.mem_of_getElem? (i := 0) rfl))
  rw [hn0] at V5
  replace V5 : Arv Z h3 t kt .char (1 : Int32) [(.int k0)] (.int 0) := V5
  refine Go.iinc (pc' := 38) (Ls' := #[.val (.ref b), .val (.int 0), .val (.int 1), .val (.ref t), .val (.int 1), .val (.int ((0 : Int32) + (1 : Int32)))]) (w := (1 : Int32)) d55_35 rfl rfl rfl rfl ?_
  show Go _ _ _ _ _ _ _ _ _ _ _ _ 38 #[.val (.ref b), .val (.int 0), .val (.int 1), .val (.ref t), .val (.int 1), .val (.int 1)] []
  refine Go.goto (pc' := 16) d55_38 (by decide) (by decide) ?_
  refine Go.iload (pc' := 18) d55_16 rfl rfl ?_
  refine Go.iloadN (pc' := 19) d55_18 rfl rfl ?_
  refine Go.icmpYes (pc' := 41) d55_19 (XT.ii_ge_t (by decide)) (by decide) (by decide) ?_
  exact Go.retV rfl d55_41 ⟨rfl, K6, V5⟩
theorem c_cinf2 (hw : HW a0 Z) (h : Heap) (b : Addr) (kb : ClassId) (t : Addr) (kt : ClassId) (k0 k1 : Int32) (hq0 : (k0.toInt8.toInt32 &&& (255 : Int32)) = k0) (hq1 : (k1.toInt8.toInt32 &&& (255 : Int32)) = k1) (hn0 : nar .char k0 = k0) (hn1 : nar .char k1 = k1) (ge_t : n0 ≤ t) (ne_b_t : b ≠ t) (v : AB Z h b kb (2 : Int32) [(by8 k0), (by8 k1)] (.int 0)) (w : Arv Z h t kt .char (2 : Int32) [(.int 0), (.int 0)] (.int 0)) :
    Con l M_44 q13 6 none (rm4 0 0 0 0) Z n0 #[(.ref b), (.int 0), (.ref t), (.int 0), (.int 2)] h (fun v h' => v = none ∧ Keep h h' [t] ∧ Arv Z h' t kt .char (2 : Int32) [(.int k0), (.int k1)] (.int 0)) := by
  refine Con.of_go (plainFor_of_name pn_3) (Ls := #[.val (.ref b), .val (.int 0), .val (.ref t), .val (.int 0), .val (.int 2), .unset]) ?_
  refine Go.iconst (pc' := 1) (v := 0) d13_0 rfl rfl ?_
  refine Go.istore (pc' := 3) (Ls' := #[.val (.ref b), .val (.int 0), .val (.ref t), .val (.int 0), .val (.int 2), .val (.int 0)]) d13_1 rfl rfl ?_
  refine Go.iload (pc' := 5) d13_3 rfl rfl ?_
  refine Go.iload (pc' := 7) d13_5 rfl rfl ?_
  refine Go.icmpNo (pc' := 10) d13_7 (XT.ii_ge_f (by decide)) rfl ?_
  refine Go.aloadN (pc' := 11) d13_10 rfl rfl rfl ?_
  refine Go.iloadN (pc' := 12) d13_11 rfl rfl ?_
  refine Go.iinc (pc' := 15) (Ls' := #[.val (.ref b), .val (.int 0), .val (.ref t), .val (.int ((0 : Int32) + (1 : Int32))), .val (.int 2), .val (.int 0)]) (w := (1 : Int32)) d13_12 rfl rfl rfl rfl ?_
  show Go _ _ _ _ _ _ _ _ _ _ _ _ 15 #[.val (.ref b), .val (.int 0), .val (.ref t), .val (.int 1), .val (.int 2), .val (.int 0)] [(.int 0), (.ref t)]
  refine Go.aloadN (pc' := 16) d13_15 rfl rfl rfl ?_
  refine Go.iloadN (pc' := 17) d13_16 rfl rfl ?_
  refine Go.iinc (pc' := 20) (Ls' := #[.val (.ref b), .val (.int ((0 : Int32) + (1 : Int32))), .val (.ref t), .val (.int 1), .val (.int 2), .val (.int 0)]) (w := (1 : Int32)) d13_17 rfl rfl rfl rfl ?_
  show Go _ _ _ _ _ _ _ _ _ _ _ _ 20 #[.val (.ref b), .val (.int 1), .val (.ref t), .val (.int 1), .val (.int 2), .val (.int 0)] [(.int 0), (.ref b), (.int 0), (.ref t)]
  refine Go.baload (pc' := 21) (v := k0.toInt8.toInt32) v d13_20 (by decide) (by decide) rfl rfl ?_
  refine Go.sipush (pc' := 24) (v := 255) d13_21 rfl rfl ?_
  refine Go.iand (pc' := 25) d13_24 rfl ?_
  refine Go.i2c (pc' := 26) d13_25 rfl ?_
  rw [i2c_mask]
  rw [hq0]
  refine Go.castore (pc' := 27) w ge_t d13_26 (by decide) (by decide) (i := 0) rfl (nl rfl) rfl ?_
  intro h1 W2 V3
  have K4 := (Keep.refl h [t]).wr W2 (Or.inl (List.mem_of_getElem? (i := 0) rfl))
  rw [hn0] at V3
  replace V3 : Arv Z h1 t kt .char (2 : Int32) [(.int k0), (.int 0)] (.int 0) := V3
  refine Go.iinc (pc' := 30) (Ls' := #[.val (.ref b), .val (.int 1), .val (.ref t), .val (.int 1), .val (.int 2), .val (.int ((0 : Int32) + (1 : Int32)))]) (w := (1 : Int32)) d13_27 rfl rfl rfl rfl ?_
  show Go _ _ _ _ _ _ _ _ _ _ _ _ 30 #[.val (.ref b), .val (.int 1), .val (.ref t), .val (.int 1), .val (.int 2), .val (.int 1)] []
  refine Go.goto (pc' := 3) d13_30 (by decide) (by decide) ?_
  refine Go.iload (pc' := 5) d13_3 rfl rfl ?_
  refine Go.iload (pc' := 7) d13_5 rfl rfl ?_
  refine Go.icmpNo (pc' := 10) d13_7 (XT.ii_ge_f (by decide)) rfl ?_
  refine Go.aloadN (pc' := 11) d13_10 rfl rfl rfl ?_
  refine Go.iloadN (pc' := 12) d13_11 rfl rfl ?_
  refine Go.iinc (pc' := 15) (Ls' := #[.val (.ref b), .val (.int 1), .val (.ref t), .val (.int ((1 : Int32) + (1 : Int32))), .val (.int 2), .val (.int 1)]) (w := (1 : Int32)) d13_12 rfl rfl rfl rfl ?_
  show Go _ _ _ _ _ _ _ _ _ _ _ _ 15 #[.val (.ref b), .val (.int 1), .val (.ref t), .val (.int 2), .val (.int 2), .val (.int 1)] [(.int 1), (.ref t)]
  refine Go.aloadN (pc' := 16) d13_15 rfl rfl rfl ?_
  refine Go.iloadN (pc' := 17) d13_16 rfl rfl ?_
  refine Go.iinc (pc' := 20) (Ls' := #[.val (.ref b), .val (.int ((1 : Int32) + (1 : Int32))), .val (.ref t), .val (.int 2), .val (.int 2), .val (.int 1)]) (w := (1 : Int32)) d13_17 rfl rfl rfl rfl ?_
  show Go _ _ _ _ _ _ _ _ _ _ _ _ 20 #[.val (.ref b), .val (.int 2), .val (.ref t), .val (.int 2), .val (.int 2), .val (.int 1)] [(.int 1), (.ref b), (.int 1), (.ref t)]
  refine Go.baload (pc' := 21) (v := k1.toInt8.toInt32) (v.other W2 ne_b_t) d13_20 (by decide) (by decide) rfl rfl ?_
  refine Go.sipush (pc' := 24) (v := 255) d13_21 rfl rfl ?_
  refine Go.iand (pc' := 25) d13_24 rfl ?_
  refine Go.i2c (pc' := 26) d13_25 rfl ?_
  rw [i2c_mask]
  rw [hq1]
  refine Go.castore (pc' := 27) V3 ge_t d13_26 (by decide) (by decide) (i := 1) rfl (nl rfl) rfl ?_
  intro h5 W6 V7
  have K8 := K4.wr W6 (Or.inl (List.mem_of_getElem? (i := 0) rfl))
  rw [hn1] at V7
  replace V7 : Arv Z h5 t kt .char (2 : Int32) [(.int k0), (.int k1)] (.int 0) := V7
  refine Go.iinc (pc' := 30) (Ls' := #[.val (.ref b), .val (.int 2), .val (.ref t), .val (.int 2), .val (.int 2), .val (.int ((1 : Int32) + (1 : Int32)))]) (w := (1 : Int32)) d13_27 rfl rfl rfl rfl ?_
  show Go _ _ _ _ _ _ _ _ _ _ _ _ 30 #[.val (.ref b), .val (.int 2), .val (.ref t), .val (.int 2), .val (.int 2), .val (.int 2)] []
  refine Go.goto (pc' := 3) d13_30 (by decide) (by decide) ?_
  refine Go.iload (pc' := 5) d13_3 rfl rfl ?_
  refine Go.iload (pc' := 7) d13_5 rfl rfl ?_
  refine Go.icmpYes (pc' := 33) d13_7 (XT.ii_ge_t (by decide)) (by decide) (by decide) ?_
  exact Go.retV rfl d13_33 ⟨rfl, K8, V7⟩
theorem c_gcs2 (hw : HW a0 Z) (h : Heap) (b : Addr) (kb : ClassId) (t : Addr) (kt : ClassId) (k0 k1 : Int32) (wf : Value) (hn0 : nar .char k0 = k0) (hn1 : nar .char k1 = k1) (hwf : wf.isRef = true) (sad : Zad Z (.int 1)) (shi : Zhi Z (.int 0)) (slo : Zlo Z (.int 8)) (sfm : Zfm Z wf) (ge_t : n0 ≤ t) (ne_b_t : b ≠ t) (v : AB Z h b kb (4 : Int32) [(loB k0), (hiB k0), (loB k1), (hiB k1)] (.int 0)) (w : Arv Z h t kt .char (2 : Int32) [(.int 0), (.int 0)] (.int 0)) :
    Con l M_45 q55 6 none (rm4 3 0 0 43) Z n0 #[(.ref b), (.int 0), (.int 2), (.ref t), (.int 0)] h (fun v h' => v = none ∧ Keep h h' [t] ∧ Arv Z h' t kt .char (2 : Int32) [(.int k0), (.int k1)] (.int 0)) := by
  refine Con.of_go (plainFor_of_name pn_2) (Ls := #[.val (.ref b), .val (.int 0), .val (.int 2), .val (.ref t), .val (.int 0), .unset]) ?_
  refine Go.iloadN (pc' := 1) d55_0 rfl rfl ?_
  refine Go.iloadN (pc' := 2) d55_1 rfl rfl ?_
  refine Go.icmpNo (pc' := 5) d55_2 (XT.ii_ge_f (by decide)) rfl ?_
  refine Go.iloadN (pc' := 6) d55_5 rfl rfl ?_
  refine Go.iloadN (pc' := 7) d55_6 rfl rfl ?_
  refine Go.iloadN (pc' := 8) d55_7 rfl rfl ?_
  refine Go.isub (pc' := 9) d55_8 rfl ?_
  show Go _ _ _ _ _ _ _ _ _ _ _ _ 9 _ [(.int 2), (.int 0)]
  refine Go.aloadN (pc' := 10) d55_9 rfl rfl rfl ?_
  refine Go.callS (cells' := 0) (slots' := 0) (pc' := 13) [(.int 0), (.int 2), (.ref b)] [] (ww hw 268 rfl) (ww hw 269 rfl) (ww hw 128 rfl) (ww hw 270 rfl) (by decide) (c_uboc l Z a0 hw h (0 : Int32) (2 : Int32) b kb (4 : Int32) ([(loB k0), (hiB k0), (loB k1), (hiB k1)]) wf (by decide) (by decide) hwf sfm v) pd_8 d55_10 rfl ?_
  rintro _ _ ⟨rfl, rfl⟩
  show Go _ _ _ _ _ _ _ _ _ _ _ _ 13 _ []
  refine Go.iloadN (pc' := 14) d55_13 rfl rfl ?_
  refine Go.istore (pc' := 16) (Ls' := #[.val (.ref b), .val (.int 0), .val (.int 2), .val (.ref t), .val (.int 0), .val (.int 0)]) d55_14 rfl rfl ?_
  refine Go.iload (pc' := 18) d55_16 rfl rfl ?_
  refine Go.iloadN (pc' := 19) d55_18 rfl rfl ?_
  refine Go.icmpNo (pc' := 22) d55_19 (XT.ii_ge_f (by decide)) rfl ?_
  refine Go.aloadN (pc' := 23) d55_22 rfl rfl rfl ?_
  refine Go.iload (pc' := 25) d55_23 rfl rfl ?_
  refine Go.iinc (pc' := 28) (Ls' := #[.val (.ref b), .val (.int 0), .val (.int 2), .val (.ref t), .val (.int ((0 : Int32) + (1 : Int32))), .val (.int 0)]) (w := (1 : Int32)) d55_25 rfl rfl rfl rfl ?_
  show Go _ _ _ _ _ _ _ _ _ _ _ _ 28 #[.val (.ref b), .val (.int 0), .val (.int 2), .val (.ref t), .val (.int 1), .val (.int 0)] [(.int 0), (.ref t)]
  refine Go.aloadN (pc' := 29) d55_28 rfl rfl rfl ?_
  refine Go.iload (pc' := 31) d55_29 rfl rfl ?_
  refine Go.callS (cells' := 0) (slots' := 0) (pc' := 34) [(.ref b), (.int 0)] [(.int 0), (.ref t)] (ww hw 259 rfl) (ww hw 260 rfl) (ww hw 128 rfl) (ww hw 261 rfl) (by decide) (c_getChar l Z a0 hw h b kb (4 : Int32) ([(loB k0), (hiB k0), (loB k1), (hiB k1)]) (0 : Int32) (0 : Int32) (1 : Int32) k0 (by decide) (by decide) (by decide) (by decide) (by decide) (by decide) rfl rfl hn0 sad shi slo v) pd_28 d55_31 rfl ?_
  rintro _ _ ⟨rfl, rfl⟩
  show Go _ _ _ _ _ _ _ _ _ _ _ _ 34 _ [(.int k0), (.int 0), (.ref t)]
  refine Go.castore (pc' := 35) w ge_t d55_34 (by decide) (by decide) (i := 0) rfl (nl rfl) rfl ?_
  intro h3 W4 V5
  have K6 := (Keep.refl h [t]).wr W4 (Or.inl (List.mem_of_getElem? (i := 0) rfl))
  rw [hn0] at V5
  replace V5 : Arv Z h3 t kt .char (2 : Int32) [(.int k0), (.int 0)] (.int 0) := V5
  refine Go.iinc (pc' := 38) (Ls' := #[.val (.ref b), .val (.int 0), .val (.int 2), .val (.ref t), .val (.int 1), .val (.int ((0 : Int32) + (1 : Int32)))]) (w := (1 : Int32)) d55_35 rfl rfl rfl rfl ?_
  show Go _ _ _ _ _ _ _ _ _ _ _ _ 38 #[.val (.ref b), .val (.int 0), .val (.int 2), .val (.ref t), .val (.int 1), .val (.int 1)] []
  refine Go.goto (pc' := 16) d55_38 (by decide) (by decide) ?_
  refine Go.iload (pc' := 18) d55_16 rfl rfl ?_
  refine Go.iloadN (pc' := 19) d55_18 rfl rfl ?_
  refine Go.icmpNo (pc' := 22) d55_19 (XT.ii_ge_f (by decide)) rfl ?_
  refine Go.aloadN (pc' := 23) d55_22 rfl rfl rfl ?_
  refine Go.iload (pc' := 25) d55_23 rfl rfl ?_
  refine Go.iinc (pc' := 28) (Ls' := #[.val (.ref b), .val (.int 0), .val (.int 2), .val (.ref t), .val (.int ((1 : Int32) + (1 : Int32))), .val (.int 1)]) (w := (1 : Int32)) d55_25 rfl rfl rfl rfl ?_
  show Go _ _ _ _ _ _ _ _ _ _ _ _ 28 #[.val (.ref b), .val (.int 0), .val (.int 2), .val (.ref t), .val (.int 2), .val (.int 1)] [(.int 1), (.ref t)]
  refine Go.aloadN (pc' := 29) d55_28 rfl rfl rfl ?_
  refine Go.iload (pc' := 31) d55_29 rfl rfl ?_
  refine Go.callS (cells' := 0) (slots' := 0) (pc' := 34) [(.ref b), (.int 1)] [(.int 1), (.ref t)] (ww hw 259 rfl) (ww hw 260 rfl) (ww hw 128 rfl) (ww hw 261 rfl) (by decide) (c_getChar l Z a0 hw h3 b kb (4 : Int32) ([(loB k0), (hiB k0), (loB k1), (hiB k1)]) (1 : Int32) (2 : Int32) (3 : Int32) k1 (by decide) (by decide) (by decide) (by decide) (by decide) (by decide) rfl rfl hn1 sad shi slo (v.other W4 ne_b_t)) pd_28 d55_31 rfl ?_
  rintro _ _ ⟨rfl, rfl⟩
  show Go _ _ _ _ _ _ _ _ _ _ _ _ 34 _ [(.int k1), (.int 1), (.ref t)]
  refine Go.castore (pc' := 35) V5 ge_t d55_34 (by decide) (by decide) (i := 1) rfl (nl rfl) rfl ?_
  intro h8 W9 V10
  have K11 := K6.wr W9 (Or.inl (List.mem_of_getElem? (i := 0) rfl))
  rw [hn1] at V10
  replace V10 : Arv Z h8 t kt .char (2 : Int32) [(.int k0), (.int k1)] (.int 0) := V10
  refine Go.iinc (pc' := 38) (Ls' := #[.val (.ref b), .val (.int 0), .val (.int 2), .val (.ref t), .val (.int 2), .val (.int ((1 : Int32) + (1 : Int32)))]) (w := (1 : Int32)) d55_35 rfl rfl rfl rfl ?_
  show Go _ _ _ _ _ _ _ _ _ _ _ _ 38 #[.val (.ref b), .val (.int 0), .val (.int 2), .val (.ref t), .val (.int 2), .val (.int 2)] []
  refine Go.goto (pc' := 16) d55_38 (by decide) (by decide) ?_
  refine Go.iload (pc' := 18) d55_16 rfl rfl ?_
  refine Go.iloadN (pc' := 19) d55_18 rfl rfl ?_
  refine Go.icmpYes (pc' := 41) d55_19 (XT.ii_ge_t (by decide)) (by decide) (by decide) ?_
  exact Go.retV rfl d55_41 ⟨rfl, K11, V10⟩
theorem c_cinf3 (hw : HW a0 Z) (h : Heap) (b : Addr) (kb : ClassId) (t : Addr) (kt : ClassId) (k0 k1 k2 : Int32) (hq0 : (k0.toInt8.toInt32 &&& (255 : Int32)) = k0) (hq1 : (k1.toInt8.toInt32 &&& (255 : Int32)) = k1) (hq2 : (k2.toInt8.toInt32 &&& (255 : Int32)) = k2) (hn0 : nar .char k0 = k0) (hn1 : nar .char k1 = k1) (hn2 : nar .char k2 = k2) (ge_t : n0 ≤ t) (ne_b_t : b ≠ t) (v : AB Z h b kb (3 : Int32) [(by8 k0), (by8 k1), (by8 k2)] (.int 0)) (w : Arv Z h t kt .char (3 : Int32) [(.int 0), (.int 0), (.int 0)] (.int 0)) :
    Con l M_44 q13 6 none (rm4 0 0 0 0) Z n0 #[(.ref b), (.int 0), (.ref t), (.int 0), (.int 3)] h (fun v h' => v = none ∧ Keep h h' [t] ∧ Arv Z h' t kt .char (3 : Int32) [(.int k0), (.int k1), (.int k2)] (.int 0)) := by
  refine Con.of_go (plainFor_of_name pn_3) (Ls := #[.val (.ref b), .val (.int 0), .val (.ref t), .val (.int 0), .val (.int 3), .unset]) ?_
  refine Go.iconst (pc' := 1) (v := 0) d13_0 rfl rfl ?_
  refine Go.istore (pc' := 3) (Ls' := #[.val (.ref b), .val (.int 0), .val (.ref t), .val (.int 0), .val (.int 3), .val (.int 0)]) d13_1 rfl rfl ?_
  refine Go.iload (pc' := 5) d13_3 rfl rfl ?_
  refine Go.iload (pc' := 7) d13_5 rfl rfl ?_
  refine Go.icmpNo (pc' := 10) d13_7 (XT.ii_ge_f (by decide)) rfl ?_
  refine Go.aloadN (pc' := 11) d13_10 rfl rfl rfl ?_
  refine Go.iloadN (pc' := 12) d13_11 rfl rfl ?_
  refine Go.iinc (pc' := 15) (Ls' := #[.val (.ref b), .val (.int 0), .val (.ref t), .val (.int ((0 : Int32) + (1 : Int32))), .val (.int 3), .val (.int 0)]) (w := (1 : Int32)) d13_12 rfl rfl rfl rfl ?_
  show Go _ _ _ _ _ _ _ _ _ _ _ _ 15 #[.val (.ref b), .val (.int 0), .val (.ref t), .val (.int 1), .val (.int 3), .val (.int 0)] [(.int 0), (.ref t)]
  refine Go.aloadN (pc' := 16) d13_15 rfl rfl rfl ?_
  refine Go.iloadN (pc' := 17) d13_16 rfl rfl ?_
  refine Go.iinc (pc' := 20) (Ls' := #[.val (.ref b), .val (.int ((0 : Int32) + (1 : Int32))), .val (.ref t), .val (.int 1), .val (.int 3), .val (.int 0)]) (w := (1 : Int32)) d13_17 rfl rfl rfl rfl ?_
  show Go _ _ _ _ _ _ _ _ _ _ _ _ 20 #[.val (.ref b), .val (.int 1), .val (.ref t), .val (.int 1), .val (.int 3), .val (.int 0)] [(.int 0), (.ref b), (.int 0), (.ref t)]
  refine Go.baload (pc' := 21) (v := k0.toInt8.toInt32) v d13_20 (by decide) (by decide) rfl rfl ?_
  refine Go.sipush (pc' := 24) (v := 255) d13_21 rfl rfl ?_
  refine Go.iand (pc' := 25) d13_24 rfl ?_
  refine Go.i2c (pc' := 26) d13_25 rfl ?_
  rw [i2c_mask]
  rw [hq0]
  refine Go.castore (pc' := 27) w ge_t d13_26 (by decide) (by decide) (i := 0) rfl (nl rfl) rfl ?_
  intro h1 W2 V3
  have K4 := (Keep.refl h [t]).wr W2 (Or.inl (List.mem_of_getElem? (i := 0) rfl))
  rw [hn0] at V3
  replace V3 : Arv Z h1 t kt .char (3 : Int32) [(.int k0), (.int 0), (.int 0)] (.int 0) := V3
  refine Go.iinc (pc' := 30) (Ls' := #[.val (.ref b), .val (.int 1), .val (.ref t), .val (.int 1), .val (.int 3), .val (.int ((0 : Int32) + (1 : Int32)))]) (w := (1 : Int32)) d13_27 rfl rfl rfl rfl ?_
  show Go _ _ _ _ _ _ _ _ _ _ _ _ 30 #[.val (.ref b), .val (.int 1), .val (.ref t), .val (.int 1), .val (.int 3), .val (.int 1)] []
  refine Go.goto (pc' := 3) d13_30 (by decide) (by decide) ?_
  refine Go.iload (pc' := 5) d13_3 rfl rfl ?_
  refine Go.iload (pc' := 7) d13_5 rfl rfl ?_
  refine Go.icmpNo (pc' := 10) d13_7 (XT.ii_ge_f (by decide)) rfl ?_
  refine Go.aloadN (pc' := 11) d13_10 rfl rfl rfl ?_
  refine Go.iloadN (pc' := 12) d13_11 rfl rfl ?_
  refine Go.iinc (pc' := 15) (Ls' := #[.val (.ref b), .val (.int 1), .val (.ref t), .val (.int ((1 : Int32) + (1 : Int32))), .val (.int 3), .val (.int 1)]) (w := (1 : Int32)) d13_12 rfl rfl rfl rfl ?_
  show Go _ _ _ _ _ _ _ _ _ _ _ _ 15 #[.val (.ref b), .val (.int 1), .val (.ref t), .val (.int 2), .val (.int 3), .val (.int 1)] [(.int 1), (.ref t)]
  refine Go.aloadN (pc' := 16) d13_15 rfl rfl rfl ?_
  refine Go.iloadN (pc' := 17) d13_16 rfl rfl ?_
  refine Go.iinc (pc' := 20) (Ls' := #[.val (.ref b), .val (.int ((1 : Int32) + (1 : Int32))), .val (.ref t), .val (.int 2), .val (.int 3), .val (.int 1)]) (w := (1 : Int32)) d13_17 rfl rfl rfl rfl ?_
  show Go _ _ _ _ _ _ _ _ _ _ _ _ 20 #[.val (.ref b), .val (.int 2), .val (.ref t), .val (.int 2), .val (.int 3), .val (.int 1)] [(.int 1), (.ref b), (.int 1), (.ref t)]
  refine Go.baload (pc' := 21) (v := k1.toInt8.toInt32) (v.other W2 ne_b_t) d13_20 (by decide) (by decide) rfl rfl ?_
  refine Go.sipush (pc' := 24) (v := 255) d13_21 rfl rfl ?_
  refine Go.iand (pc' := 25) d13_24 rfl ?_
  refine Go.i2c (pc' := 26) d13_25 rfl ?_
  rw [i2c_mask]
  rw [hq1]
  refine Go.castore (pc' := 27) V3 ge_t d13_26 (by decide) (by decide) (i := 1) rfl (nl rfl) rfl ?_
  intro h5 W6 V7
  have K8 := K4.wr W6 (Or.inl (List.mem_of_getElem? (i := 0) rfl))
  rw [hn1] at V7
  replace V7 : Arv Z h5 t kt .char (3 : Int32) [(.int k0), (.int k1), (.int 0)] (.int 0) := V7
  refine Go.iinc (pc' := 30) (Ls' := #[.val (.ref b), .val (.int 2), .val (.ref t), .val (.int 2), .val (.int 3), .val (.int ((1 : Int32) + (1 : Int32)))]) (w := (1 : Int32)) d13_27 rfl rfl rfl rfl ?_
  show Go _ _ _ _ _ _ _ _ _ _ _ _ 30 #[.val (.ref b), .val (.int 2), .val (.ref t), .val (.int 2), .val (.int 3), .val (.int 2)] []
  refine Go.goto (pc' := 3) d13_30 (by decide) (by decide) ?_
  refine Go.iload (pc' := 5) d13_3 rfl rfl ?_
  refine Go.iload (pc' := 7) d13_5 rfl rfl ?_
  refine Go.icmpNo (pc' := 10) d13_7 (XT.ii_ge_f (by decide)) rfl ?_
  refine Go.aloadN (pc' := 11) d13_10 rfl rfl rfl ?_
  refine Go.iloadN (pc' := 12) d13_11 rfl rfl ?_
  refine Go.iinc (pc' := 15) (Ls' := #[.val (.ref b), .val (.int 2), .val (.ref t), .val (.int ((2 : Int32) + (1 : Int32))), .val (.int 3), .val (.int 2)]) (w := (1 : Int32)) d13_12 rfl rfl rfl rfl ?_
  show Go _ _ _ _ _ _ _ _ _ _ _ _ 15 #[.val (.ref b), .val (.int 2), .val (.ref t), .val (.int 3), .val (.int 3), .val (.int 2)] [(.int 2), (.ref t)]
  refine Go.aloadN (pc' := 16) d13_15 rfl rfl rfl ?_
  refine Go.iloadN (pc' := 17) d13_16 rfl rfl ?_
  refine Go.iinc (pc' := 20) (Ls' := #[.val (.ref b), .val (.int ((2 : Int32) + (1 : Int32))), .val (.ref t), .val (.int 3), .val (.int 3), .val (.int 2)]) (w := (1 : Int32)) d13_17 rfl rfl rfl rfl ?_
  show Go _ _ _ _ _ _ _ _ _ _ _ _ 20 #[.val (.ref b), .val (.int 3), .val (.ref t), .val (.int 3), .val (.int 3), .val (.int 2)] [(.int 2), (.ref b), (.int 2), (.ref t)]
  refine Go.baload (pc' := 21) (v := k2.toInt8.toInt32) ((v.other W2 ne_b_t).other W6 ne_b_t) d13_20 (by decide) (by decide) rfl rfl ?_
  refine Go.sipush (pc' := 24) (v := 255) d13_21 rfl rfl ?_
  refine Go.iand (pc' := 25) d13_24 rfl ?_
  refine Go.i2c (pc' := 26) d13_25 rfl ?_
  rw [i2c_mask]
  rw [hq2]
  refine Go.castore (pc' := 27) V7 ge_t d13_26 (by decide) (by decide) (i := 2) rfl (nl rfl) rfl ?_
  intro h9 W10 V11
  have K12 := K8.wr W10 (Or.inl (List.mem_of_getElem? (i := 0) rfl))
  rw [hn2] at V11
  replace V11 : Arv Z h9 t kt .char (3 : Int32) [(.int k0), (.int k1), (.int k2)] (.int 0) := V11
  refine Go.iinc (pc' := 30) (Ls' := #[.val (.ref b), .val (.int 3), .val (.ref t), .val (.int 3), .val (.int 3), .val (.int ((2 : Int32) + (1 : Int32)))]) (w := (1 : Int32)) d13_27 rfl rfl rfl rfl ?_
  show Go _ _ _ _ _ _ _ _ _ _ _ _ 30 #[.val (.ref b), .val (.int 3), .val (.ref t), .val (.int 3), .val (.int 3), .val (.int 3)] []
  refine Go.goto (pc' := 3) d13_30 (by decide) (by decide) ?_
  refine Go.iload (pc' := 5) d13_3 rfl rfl ?_
  refine Go.iload (pc' := 7) d13_5 rfl rfl ?_
  refine Go.icmpYes (pc' := 33) d13_7 (XT.ii_ge_t (by decide)) (by decide) (by decide) ?_
  exact Go.retV rfl d13_33 ⟨rfl, K12, V11⟩
theorem c_gcs3 (hw : HW a0 Z) (h : Heap) (b : Addr) (kb : ClassId) (t : Addr) (kt : ClassId) (k0 k1 k2 : Int32) (wf : Value) (hn0 : nar .char k0 = k0) (hn1 : nar .char k1 = k1) (hn2 : nar .char k2 = k2) (hwf : wf.isRef = true) (sad : Zad Z (.int 1)) (shi : Zhi Z (.int 0)) (slo : Zlo Z (.int 8)) (sfm : Zfm Z wf) (ge_t : n0 ≤ t) (ne_b_t : b ≠ t) (v : AB Z h b kb (6 : Int32) [(loB k0), (hiB k0), (loB k1), (hiB k1), (loB k2), (hiB k2)] (.int 0)) (w : Arv Z h t kt .char (3 : Int32) [(.int 0), (.int 0), (.int 0)] (.int 0)) :
    Con l M_45 q55 6 none (rm4 3 0 0 43) Z n0 #[(.ref b), (.int 0), (.int 3), (.ref t), (.int 0)] h (fun v h' => v = none ∧ Keep h h' [t] ∧ Arv Z h' t kt .char (3 : Int32) [(.int k0), (.int k1), (.int k2)] (.int 0)) := by
  refine Con.of_go (plainFor_of_name pn_2) (Ls := #[.val (.ref b), .val (.int 0), .val (.int 3), .val (.ref t), .val (.int 0), .unset]) ?_
  refine Go.iloadN (pc' := 1) d55_0 rfl rfl ?_
  refine Go.iloadN (pc' := 2) d55_1 rfl rfl ?_
  refine Go.icmpNo (pc' := 5) d55_2 (XT.ii_ge_f (by decide)) rfl ?_
  refine Go.iloadN (pc' := 6) d55_5 rfl rfl ?_
  refine Go.iloadN (pc' := 7) d55_6 rfl rfl ?_
  refine Go.iloadN (pc' := 8) d55_7 rfl rfl ?_
  refine Go.isub (pc' := 9) d55_8 rfl ?_
  show Go _ _ _ _ _ _ _ _ _ _ _ _ 9 _ [(.int 3), (.int 0)]
  refine Go.aloadN (pc' := 10) d55_9 rfl rfl rfl ?_
  refine Go.callS (cells' := 0) (slots' := 0) (pc' := 13) [(.int 0), (.int 3), (.ref b)] [] (ww hw 268 rfl) (ww hw 269 rfl) (ww hw 128 rfl) (ww hw 270 rfl) (by decide) (c_uboc l Z a0 hw h (0 : Int32) (3 : Int32) b kb (6 : Int32) ([(loB k0), (hiB k0), (loB k1), (hiB k1), (loB k2), (hiB k2)]) wf (by decide) (by decide) hwf sfm v) pd_8 d55_10 rfl ?_
  rintro _ _ ⟨rfl, rfl⟩
  show Go _ _ _ _ _ _ _ _ _ _ _ _ 13 _ []
  refine Go.iloadN (pc' := 14) d55_13 rfl rfl ?_
  refine Go.istore (pc' := 16) (Ls' := #[.val (.ref b), .val (.int 0), .val (.int 3), .val (.ref t), .val (.int 0), .val (.int 0)]) d55_14 rfl rfl ?_
  refine Go.iload (pc' := 18) d55_16 rfl rfl ?_
  refine Go.iloadN (pc' := 19) d55_18 rfl rfl ?_
  refine Go.icmpNo (pc' := 22) d55_19 (XT.ii_ge_f (by decide)) rfl ?_
  refine Go.aloadN (pc' := 23) d55_22 rfl rfl rfl ?_
  refine Go.iload (pc' := 25) d55_23 rfl rfl ?_
  refine Go.iinc (pc' := 28) (Ls' := #[.val (.ref b), .val (.int 0), .val (.int 3), .val (.ref t), .val (.int ((0 : Int32) + (1 : Int32))), .val (.int 0)]) (w := (1 : Int32)) d55_25 rfl rfl rfl rfl ?_
  show Go _ _ _ _ _ _ _ _ _ _ _ _ 28 #[.val (.ref b), .val (.int 0), .val (.int 3), .val (.ref t), .val (.int 1), .val (.int 0)] [(.int 0), (.ref t)]
  refine Go.aloadN (pc' := 29) d55_28 rfl rfl rfl ?_
  refine Go.iload (pc' := 31) d55_29 rfl rfl ?_
  refine Go.callS (cells' := 0) (slots' := 0) (pc' := 34) [(.ref b), (.int 0)] [(.int 0), (.ref t)] (ww hw 259 rfl) (ww hw 260 rfl) (ww hw 128 rfl) (ww hw 261 rfl) (by decide) (c_getChar l Z a0 hw h b kb (6 : Int32) ([(loB k0), (hiB k0), (loB k1), (hiB k1), (loB k2), (hiB k2)]) (0 : Int32) (0 : Int32) (1 : Int32) k0 (by decide) (by decide) (by decide) (by decide) (by decide) (by decide) rfl rfl hn0 sad shi slo v) pd_28 d55_31 rfl ?_
  rintro _ _ ⟨rfl, rfl⟩
  show Go _ _ _ _ _ _ _ _ _ _ _ _ 34 _ [(.int k0), (.int 0), (.ref t)]
  refine Go.castore (pc' := 35) w ge_t d55_34 (by decide) (by decide) (i := 0) rfl (nl rfl) rfl ?_
  intro h3 W4 V5
  have K6 := (Keep.refl h [t]).wr W4 (Or.inl (List.mem_of_getElem? (i := 0) rfl))
  rw [hn0] at V5
  replace V5 : Arv Z h3 t kt .char (3 : Int32) [(.int k0), (.int 0), (.int 0)] (.int 0) := V5
  refine Go.iinc (pc' := 38) (Ls' := #[.val (.ref b), .val (.int 0), .val (.int 3), .val (.ref t), .val (.int 1), .val (.int ((0 : Int32) + (1 : Int32)))]) (w := (1 : Int32)) d55_35 rfl rfl rfl rfl ?_
  show Go _ _ _ _ _ _ _ _ _ _ _ _ 38 #[.val (.ref b), .val (.int 0), .val (.int 3), .val (.ref t), .val (.int 1), .val (.int 1)] []
  refine Go.goto (pc' := 16) d55_38 (by decide) (by decide) ?_
  refine Go.iload (pc' := 18) d55_16 rfl rfl ?_
  refine Go.iloadN (pc' := 19) d55_18 rfl rfl ?_
  refine Go.icmpNo (pc' := 22) d55_19 (XT.ii_ge_f (by decide)) rfl ?_
  refine Go.aloadN (pc' := 23) d55_22 rfl rfl rfl ?_
  refine Go.iload (pc' := 25) d55_23 rfl rfl ?_
  refine Go.iinc (pc' := 28) (Ls' := #[.val (.ref b), .val (.int 0), .val (.int 3), .val (.ref t), .val (.int ((1 : Int32) + (1 : Int32))), .val (.int 1)]) (w := (1 : Int32)) d55_25 rfl rfl rfl rfl ?_
  show Go _ _ _ _ _ _ _ _ _ _ _ _ 28 #[.val (.ref b), .val (.int 0), .val (.int 3), .val (.ref t), .val (.int 2), .val (.int 1)] [(.int 1), (.ref t)]
  refine Go.aloadN (pc' := 29) d55_28 rfl rfl rfl ?_
  refine Go.iload (pc' := 31) d55_29 rfl rfl ?_
  refine Go.callS (cells' := 0) (slots' := 0) (pc' := 34) [(.ref b), (.int 1)] [(.int 1), (.ref t)] (ww hw 259 rfl) (ww hw 260 rfl) (ww hw 128 rfl) (ww hw 261 rfl) (by decide) (c_getChar l Z a0 hw h3 b kb (6 : Int32) ([(loB k0), (hiB k0), (loB k1), (hiB k1), (loB k2), (hiB k2)]) (1 : Int32) (2 : Int32) (3 : Int32) k1 (by decide) (by decide) (by decide) (by decide) (by decide) (by decide) rfl rfl hn1 sad shi slo (v.other W4 ne_b_t)) pd_28 d55_31 rfl ?_
  rintro _ _ ⟨rfl, rfl⟩
  show Go _ _ _ _ _ _ _ _ _ _ _ _ 34 _ [(.int k1), (.int 1), (.ref t)]
  refine Go.castore (pc' := 35) V5 ge_t d55_34 (by decide) (by decide) (i := 1) rfl (nl rfl) rfl ?_
  intro h8 W9 V10
  have K11 := K6.wr W9 (Or.inl (List.mem_of_getElem? (i := 0) rfl))
  rw [hn1] at V10
  replace V10 : Arv Z h8 t kt .char (3 : Int32) [(.int k0), (.int k1), (.int 0)] (.int 0) := V10
  refine Go.iinc (pc' := 38) (Ls' := #[.val (.ref b), .val (.int 0), .val (.int 3), .val (.ref t), .val (.int 2), .val (.int ((1 : Int32) + (1 : Int32)))]) (w := (1 : Int32)) d55_35 rfl rfl rfl rfl ?_
  show Go _ _ _ _ _ _ _ _ _ _ _ _ 38 #[.val (.ref b), .val (.int 0), .val (.int 3), .val (.ref t), .val (.int 2), .val (.int 2)] []
  refine Go.goto (pc' := 16) d55_38 (by decide) (by decide) ?_
  refine Go.iload (pc' := 18) d55_16 rfl rfl ?_
  refine Go.iloadN (pc' := 19) d55_18 rfl rfl ?_
  refine Go.icmpNo (pc' := 22) d55_19 (XT.ii_ge_f (by decide)) rfl ?_
  refine Go.aloadN (pc' := 23) d55_22 rfl rfl rfl ?_
  refine Go.iload (pc' := 25) d55_23 rfl rfl ?_
  refine Go.iinc (pc' := 28) (Ls' := #[.val (.ref b), .val (.int 0), .val (.int 3), .val (.ref t), .val (.int ((2 : Int32) + (1 : Int32))), .val (.int 2)]) (w := (1 : Int32)) d55_25 rfl rfl rfl rfl ?_
  show Go _ _ _ _ _ _ _ _ _ _ _ _ 28 #[.val (.ref b), .val (.int 0), .val (.int 3), .val (.ref t), .val (.int 3), .val (.int 2)] [(.int 2), (.ref t)]
  refine Go.aloadN (pc' := 29) d55_28 rfl rfl rfl ?_
  refine Go.iload (pc' := 31) d55_29 rfl rfl ?_
  refine Go.callS (cells' := 0) (slots' := 0) (pc' := 34) [(.ref b), (.int 2)] [(.int 2), (.ref t)] (ww hw 259 rfl) (ww hw 260 rfl) (ww hw 128 rfl) (ww hw 261 rfl) (by decide) (c_getChar l Z a0 hw h8 b kb (6 : Int32) ([(loB k0), (hiB k0), (loB k1), (hiB k1), (loB k2), (hiB k2)]) (2 : Int32) (4 : Int32) (5 : Int32) k2 (by decide) (by decide) (by decide) (by decide) (by decide) (by decide) rfl rfl hn2 sad shi slo (((v.other W4 ne_b_t).other W9 ne_b_t))) pd_28 d55_31 rfl ?_
  rintro _ _ ⟨rfl, rfl⟩
  show Go _ _ _ _ _ _ _ _ _ _ _ _ 34 _ [(.int k2), (.int 2), (.ref t)]
  refine Go.castore (pc' := 35) V10 ge_t d55_34 (by decide) (by decide) (i := 2) rfl (nl rfl) rfl ?_
  intro h13 W14 V15
  have K16 := K11.wr W14 (Or.inl (List.mem_of_getElem? (i := 0) rfl))
  rw [hn2] at V15
  replace V15 : Arv Z h13 t kt .char (3 : Int32) [(.int k0), (.int k1), (.int k2)] (.int 0) := V15
  refine Go.iinc (pc' := 38) (Ls' := #[.val (.ref b), .val (.int 0), .val (.int 3), .val (.ref t), .val (.int 3), .val (.int ((2 : Int32) + (1 : Int32)))]) (w := (1 : Int32)) d55_35 rfl rfl rfl rfl ?_
  show Go _ _ _ _ _ _ _ _ _ _ _ _ 38 #[.val (.ref b), .val (.int 0), .val (.int 3), .val (.ref t), .val (.int 3), .val (.int 3)] []
  refine Go.goto (pc' := 16) d55_38 (by decide) (by decide) ?_
  refine Go.iload (pc' := 18) d55_16 rfl rfl ?_
  refine Go.iloadN (pc' := 19) d55_18 rfl rfl ?_
  refine Go.icmpYes (pc' := 41) d55_19 (XT.ii_ge_t (by decide)) (by decide) (by decide) ?_
  exact Go.retV rfl d55_41 ⟨rfl, K16, V15⟩
theorem c_tcL0 (hw : HW a0 Z) (h : Heap) (b : Addr) (kb : ClassId) (v : AB Z h b kb (0 : Int32) [] (.int 0)) :
    Con l M_46 q12 2 (some (.array .char)) (rm4 1 1 3 17) Z n0 #[(.ref b)] h (fun v h' => ∃ t : Addr, ∃ kt : ClassId, v = some (.ref t) ∧ Keep h h' [] ∧ n0 ≤ t ∧ h.size ≤ t ∧ Arv Z h' t kt .char (0 : Int32) [] (.int 0)) := by
  refine Con.of_go (plainFor_of_name pn_3) (Ls := #[.val (.ref b), .unset]) ?_
  refine Go.aloadN (pc' := 1) d12_0 rfl rfl rfl ?_
  refine Go.arraylength (pc' := 2) v d12_1 rfl ?_
  refine Go.newarray (pc' := 4) (cells' := 1) (slots' := 0) (cap := 0) (ww hw 9 rfl) d12_2 (ad := "[C") (by decide) (by decide) (by decide) rfl rfl (by decide) (by decide) (by decide) rfl ?_
  intro h1 b1 g1 E1 ge1 kA1 A1 X1
  have K2 := (Keep.refl h []).ext E1
  have V1 : Arv Z h1 b1 kA1 .char (0 : Int32) [] (.int 0) := Arv.pad A1 (pad_rep [] (.int 0) 0)
  refine Go.astoreN (pc' := 5) (Ls' := #[.val (.ref b), .val (.ref b1)]) d12_4 rfl rfl rfl ?_
  refine Go.aloadN (pc' := 6) d12_5 rfl rfl rfl ?_
  refine Go.iconst (pc' := 7) (v := 0) d12_6 rfl rfl ?_
  refine Go.aloadN (pc' := 8) d12_7 rfl rfl rfl ?_
  refine Go.iconst (pc' := 9) (v := 0) d12_8 rfl rfl ?_
  refine Go.aloadN (pc' := 10) d12_9 rfl rfl rfl ?_
  refine Go.arraylength (pc' := 11) (v.ext E1) d12_10 rfl ?_
  have ne3 := (Nat.ne_of_lt (Nat.lt_of_lt_of_le v.lt (Nat.le_of_eq g1.symm)))
  refine Go.callS (cells' := 1) (slots' := 0) (pc' := 14) [(.ref b), (.int 0), (.ref b1), (.int 0), (.int 0)] [] (ww hw 75 rfl) (ww hw 76 rfl) (ww hw 73 rfl) (ww hw 77 rfl) (by decide) (c_cinf0 l Z a0 hw h1 b kb b1 kA1 ge1 ne3 (v.ext E1) V1) pd_29 d12_11 rfl ?_
  rintro _ h4 ⟨rfl, K4, F4_0⟩
  have K5 := K2.trans K4 (allS (Or.inr (Nat.le_of_eq g1.symm)) all0)
  show Go _ _ _ _ _ _ _ _ _ _ _ _ 14 _ []
  refine Go.aloadN (pc' := 15) d12_14 rfl rfl rfl ?_
  exact Go.retR rfl rfl rfl rfl d12_15 ⟨b1, kA1, rfl, K5, ge1, (Nat.le_of_eq g1.symm), F4_0⟩
theorem c_tcL1 (hw : HW a0 Z) (h : Heap) (b : Addr) (kb : ClassId) (k0 : Int32) (hq0 : (k0.toInt8.toInt32 &&& (255 : Int32)) = k0) (hn0 : nar .char k0 = k0) (v : AB Z h b kb (1 : Int32) [(by8 k0)] (.int 0)) :
    Con l M_46 q12 2 (some (.array .char)) (rm4 1 1 3 17) Z n0 #[(.ref b)] h (fun v h' => ∃ t : Addr, ∃ kt : ClassId, v = some (.ref t) ∧ Keep h h' [] ∧ n0 ≤ t ∧ h.size ≤ t ∧ Arv Z h' t kt .char (1 : Int32) [(.int k0)] (.int 0)) := by
  refine Con.of_go (plainFor_of_name pn_3) (Ls := #[.val (.ref b), .unset]) ?_
  refine Go.aloadN (pc' := 1) d12_0 rfl rfl rfl ?_
  refine Go.arraylength (pc' := 2) v d12_1 rfl ?_
  refine Go.newarray (pc' := 4) (cells' := 1) (slots' := 1) (cap := 1) (ww hw 9 rfl) d12_2 (ad := "[C") (by decide) (by decide) (by decide) rfl rfl (by decide) (by decide) (by decide) rfl ?_
  intro h1 b1 g1 E1 ge1 kA1 A1 X1
  have K2 := (Keep.refl h []).ext E1
  have V1 : Arv Z h1 b1 kA1 .char (1 : Int32) [(.int 0)] (.int 0) := Arv.pad A1 (pad_rep [] (.int 0) 1)
  refine Go.astoreN (pc' := 5) (Ls' := #[.val (.ref b), .val (.ref b1)]) d12_4 rfl rfl rfl ?_
  refine Go.aloadN (pc' := 6) d12_5 rfl rfl rfl ?_
  refine Go.iconst (pc' := 7) (v := 0) d12_6 rfl rfl ?_
  refine Go.aloadN (pc' := 8) d12_7 rfl rfl rfl ?_
  refine Go.iconst (pc' := 9) (v := 0) d12_8 rfl rfl ?_
  refine Go.aloadN (pc' := 10) d12_9 rfl rfl rfl ?_
  refine Go.arraylength (pc' := 11) (v.ext E1) d12_10 rfl ?_
  have ne3 := (Nat.ne_of_lt (Nat.lt_of_lt_of_le v.lt (Nat.le_of_eq g1.symm)))
  refine Go.callS (cells' := 1) (slots' := 1) (pc' := 14) [(.ref b), (.int 0), (.ref b1), (.int 0), (.int 1)] [] (ww hw 75 rfl) (ww hw 76 rfl) (ww hw 73 rfl) (ww hw 77 rfl) (by decide) (c_cinf1 l Z a0 hw h1 b kb b1 kA1 k0 hq0 hn0 ge1 ne3 (v.ext E1) V1) pd_29 d12_11 rfl ?_
  rintro _ h4 ⟨rfl, K4, F4_0⟩
  have K5 := K2.trans K4 (allS (Or.inr (Nat.le_of_eq g1.symm)) all0)
  show Go _ _ _ _ _ _ _ _ _ _ _ _ 14 _ []
  refine Go.aloadN (pc' := 15) d12_14 rfl rfl rfl ?_
  exact Go.retR rfl rfl rfl rfl d12_15 ⟨b1, kA1, rfl, K5, ge1, (Nat.le_of_eq g1.symm), F4_0⟩
theorem c_tcL2 (hw : HW a0 Z) (h : Heap) (b : Addr) (kb : ClassId) (k0 k1 : Int32) (hq0 : (k0.toInt8.toInt32 &&& (255 : Int32)) = k0) (hq1 : (k1.toInt8.toInt32 &&& (255 : Int32)) = k1) (hn0 : nar .char k0 = k0) (hn1 : nar .char k1 = k1) (v : AB Z h b kb (2 : Int32) [(by8 k0), (by8 k1)] (.int 0)) :
    Con l M_46 q12 2 (some (.array .char)) (rm4 1 1 3 17) Z n0 #[(.ref b)] h (fun v h' => ∃ t : Addr, ∃ kt : ClassId, v = some (.ref t) ∧ Keep h h' [] ∧ n0 ≤ t ∧ h.size ≤ t ∧ Arv Z h' t kt .char (2 : Int32) [(.int k0), (.int k1)] (.int 0)) := by
  refine Con.of_go (plainFor_of_name pn_3) (Ls := #[.val (.ref b), .unset]) ?_
  refine Go.aloadN (pc' := 1) d12_0 rfl rfl rfl ?_
  refine Go.arraylength (pc' := 2) v d12_1 rfl ?_
  refine Go.newarray (pc' := 4) (cells' := 1) (slots' := 2) (cap := 2) (ww hw 9 rfl) d12_2 (ad := "[C") (by decide) (by decide) (by decide) rfl rfl (by decide) (by decide) (by decide) rfl ?_
  intro h1 b1 g1 E1 ge1 kA1 A1 X1
  have K2 := (Keep.refl h []).ext E1
  have V1 : Arv Z h1 b1 kA1 .char (2 : Int32) [(.int 0), (.int 0)] (.int 0) := Arv.pad A1 (pad_rep [] (.int 0) 2)
  refine Go.astoreN (pc' := 5) (Ls' := #[.val (.ref b), .val (.ref b1)]) d12_4 rfl rfl rfl ?_
  refine Go.aloadN (pc' := 6) d12_5 rfl rfl rfl ?_
  refine Go.iconst (pc' := 7) (v := 0) d12_6 rfl rfl ?_
  refine Go.aloadN (pc' := 8) d12_7 rfl rfl rfl ?_
  refine Go.iconst (pc' := 9) (v := 0) d12_8 rfl rfl ?_
  refine Go.aloadN (pc' := 10) d12_9 rfl rfl rfl ?_
  refine Go.arraylength (pc' := 11) (v.ext E1) d12_10 rfl ?_
  have ne3 := (Nat.ne_of_lt (Nat.lt_of_lt_of_le v.lt (Nat.le_of_eq g1.symm)))
  refine Go.callS (cells' := 1) (slots' := 2) (pc' := 14) [(.ref b), (.int 0), (.ref b1), (.int 0), (.int 2)] [] (ww hw 75 rfl) (ww hw 76 rfl) (ww hw 73 rfl) (ww hw 77 rfl) (by decide) (c_cinf2 l Z a0 hw h1 b kb b1 kA1 k0 k1 hq0 hq1 hn0 hn1 ge1 ne3 (v.ext E1) V1) pd_29 d12_11 rfl ?_
  rintro _ h4 ⟨rfl, K4, F4_0⟩
  have K5 := K2.trans K4 (allS (Or.inr (Nat.le_of_eq g1.symm)) all0)
  show Go _ _ _ _ _ _ _ _ _ _ _ _ 14 _ []
  refine Go.aloadN (pc' := 15) d12_14 rfl rfl rfl ?_
  exact Go.retR rfl rfl rfl rfl d12_15 ⟨b1, kA1, rfl, K5, ge1, (Nat.le_of_eq g1.symm), F4_0⟩
theorem c_tcL3 (hw : HW a0 Z) (h : Heap) (b : Addr) (kb : ClassId) (k0 k1 k2 : Int32) (hq0 : (k0.toInt8.toInt32 &&& (255 : Int32)) = k0) (hq1 : (k1.toInt8.toInt32 &&& (255 : Int32)) = k1) (hq2 : (k2.toInt8.toInt32 &&& (255 : Int32)) = k2) (hn0 : nar .char k0 = k0) (hn1 : nar .char k1 = k1) (hn2 : nar .char k2 = k2) (v : AB Z h b kb (3 : Int32) [(by8 k0), (by8 k1), (by8 k2)] (.int 0)) :
    Con l M_46 q12 2 (some (.array .char)) (rm4 1 1 3 17) Z n0 #[(.ref b)] h (fun v h' => ∃ t : Addr, ∃ kt : ClassId, v = some (.ref t) ∧ Keep h h' [] ∧ n0 ≤ t ∧ h.size ≤ t ∧ Arv Z h' t kt .char (3 : Int32) [(.int k0), (.int k1), (.int k2)] (.int 0)) := by
  refine Con.of_go (plainFor_of_name pn_3) (Ls := #[.val (.ref b), .unset]) ?_
  refine Go.aloadN (pc' := 1) d12_0 rfl rfl rfl ?_
  refine Go.arraylength (pc' := 2) v d12_1 rfl ?_
  refine Go.newarray (pc' := 4) (cells' := 1) (slots' := 3) (cap := 3) (ww hw 9 rfl) d12_2 (ad := "[C") (by decide) (by decide) (by decide) rfl rfl (by decide) (by decide) (by decide) rfl ?_
  intro h1 b1 g1 E1 ge1 kA1 A1 X1
  have K2 := (Keep.refl h []).ext E1
  have V1 : Arv Z h1 b1 kA1 .char (3 : Int32) [(.int 0), (.int 0), (.int 0)] (.int 0) := Arv.pad A1 (pad_rep [] (.int 0) 3)
  refine Go.astoreN (pc' := 5) (Ls' := #[.val (.ref b), .val (.ref b1)]) d12_4 rfl rfl rfl ?_
  refine Go.aloadN (pc' := 6) d12_5 rfl rfl rfl ?_
  refine Go.iconst (pc' := 7) (v := 0) d12_6 rfl rfl ?_
  refine Go.aloadN (pc' := 8) d12_7 rfl rfl rfl ?_
  refine Go.iconst (pc' := 9) (v := 0) d12_8 rfl rfl ?_
  refine Go.aloadN (pc' := 10) d12_9 rfl rfl rfl ?_
  refine Go.arraylength (pc' := 11) (v.ext E1) d12_10 rfl ?_
  have ne3 := (Nat.ne_of_lt (Nat.lt_of_lt_of_le v.lt (Nat.le_of_eq g1.symm)))
  refine Go.callS (cells' := 1) (slots' := 3) (pc' := 14) [(.ref b), (.int 0), (.ref b1), (.int 0), (.int 3)] [] (ww hw 75 rfl) (ww hw 76 rfl) (ww hw 73 rfl) (ww hw 77 rfl) (by decide) (c_cinf3 l Z a0 hw h1 b kb b1 kA1 k0 k1 k2 hq0 hq1 hq2 hn0 hn1 hn2 ge1 ne3 (v.ext E1) V1) pd_29 d12_11 rfl ?_
  rintro _ h4 ⟨rfl, K4, F4_0⟩
  have K5 := K2.trans K4 (allS (Or.inr (Nat.le_of_eq g1.symm)) all0)
  show Go _ _ _ _ _ _ _ _ _ _ _ _ 14 _ []
  refine Go.aloadN (pc' := 15) d12_14 rfl rfl rfl ?_
  exact Go.retR rfl rfl rfl rfl d12_15 ⟨b1, kA1, rfl, K5, ge1, (Nat.le_of_eq g1.symm), F4_0⟩
theorem c_tcU0 (hw : HW a0 Z) (h : Heap) (b : Addr) (kb : ClassId) (wf : Value) (hwf : wf.isRef = true) (sad : Zad Z (.int 1)) (shi : Zhi Z (.int 0)) (slo : Zlo Z (.int 8)) (sfm : Zfm Z wf) (v : AB Z h b kb (0 : Int32) [] (.int 0)) :
    Con l M_47 q54 2 (some (.array .char)) (rm4 4 1 3 60) Z n0 #[(.ref b)] h (fun v h' => ∃ t : Addr, ∃ kt : ClassId, v = some (.ref t) ∧ Keep h h' [] ∧ n0 ≤ t ∧ h.size ≤ t ∧ Arv Z h' t kt .char (0 : Int32) [] (.int 0)) := by
  refine Con.of_go (plainFor_of_name pn_2) (Ls := #[.val (.ref b), .unset]) ?_
  refine Go.aloadN (pc' := 1) d54_0 rfl rfl rfl ?_
  refine Go.arraylength (pc' := 2) v d54_1 rfl ?_
  refine Go.iconst (pc' := 3) (v := 1) d54_2 rfl rfl ?_
  refine Go.ishr (pc' := 4) d54_3 rfl ?_
  show Go _ _ _ _ _ _ _ _ _ _ _ _ 4 _ [(.int 0)]
  refine Go.newarray (pc' := 6) (cells' := 1) (slots' := 0) (cap := 0) (ww hw 9 rfl) d54_4 (ad := "[C") (by decide) (by decide) (by decide) rfl rfl (by decide) (by decide) (by decide) rfl ?_
  intro h1 b1 g1 E1 ge1 kA1 A1 X1
  have K2 := (Keep.refl h []).ext E1
  have V1 : Arv Z h1 b1 kA1 .char (0 : Int32) [] (.int 0) := Arv.pad A1 (pad_rep [] (.int 0) 0)
  refine Go.astoreN (pc' := 7) (Ls' := #[.val (.ref b), .val (.ref b1)]) d54_6 rfl rfl rfl ?_
  refine Go.aloadN (pc' := 8) d54_7 rfl rfl rfl ?_
  refine Go.iconst (pc' := 9) (v := 0) d54_8 rfl rfl ?_
  refine Go.aloadN (pc' := 10) d54_9 rfl rfl rfl ?_
  refine Go.arraylength (pc' := 11) V1 d54_10 rfl ?_
  refine Go.aloadN (pc' := 12) d54_11 rfl rfl rfl ?_
  refine Go.iconst (pc' := 13) (v := 0) d54_12 rfl rfl ?_
  have ne3 := (Nat.ne_of_lt (Nat.lt_of_lt_of_le v.lt (Nat.le_of_eq g1.symm)))
  refine Go.callS (cells' := 1) (slots' := 0) (pc' := 16) [(.ref b), (.int 0), (.int 0), (.ref b1), (.int 0)] [] (ww hw 265 rfl) (ww hw 266 rfl) (ww hw 128 rfl) (ww hw 267 rfl) (by decide) (c_gcs0 l Z a0 hw h1 b kb b1 kA1 wf hwf sad shi slo sfm ge1 ne3 (v.ext E1) V1) pd_30 d54_13 rfl ?_
  rintro _ h4 ⟨rfl, K4, F4_0⟩
  have K5 := K2.trans K4 (allS (Or.inr (Nat.le_of_eq g1.symm)) all0)
  show Go _ _ _ _ _ _ _ _ _ _ _ _ 16 _ []
  refine Go.aloadN (pc' := 17) d54_16 rfl rfl rfl ?_
  exact Go.retR rfl rfl rfl rfl d54_17 ⟨b1, kA1, rfl, K5, ge1, (Nat.le_of_eq g1.symm), F4_0⟩
theorem c_tcU1 (hw : HW a0 Z) (h : Heap) (b : Addr) (kb : ClassId) (k0 : Int32) (wf : Value) (hn0 : nar .char k0 = k0) (hwf : wf.isRef = true) (sad : Zad Z (.int 1)) (shi : Zhi Z (.int 0)) (slo : Zlo Z (.int 8)) (sfm : Zfm Z wf) (v : AB Z h b kb (2 : Int32) [(loB k0), (hiB k0)] (.int 0)) :
    Con l M_47 q54 2 (some (.array .char)) (rm4 4 1 3 60) Z n0 #[(.ref b)] h (fun v h' => ∃ t : Addr, ∃ kt : ClassId, v = some (.ref t) ∧ Keep h h' [] ∧ n0 ≤ t ∧ h.size ≤ t ∧ Arv Z h' t kt .char (1 : Int32) [(.int k0)] (.int 0)) := by
  refine Con.of_go (plainFor_of_name pn_2) (Ls := #[.val (.ref b), .unset]) ?_
  refine Go.aloadN (pc' := 1) d54_0 rfl rfl rfl ?_
  refine Go.arraylength (pc' := 2) v d54_1 rfl ?_
  refine Go.iconst (pc' := 3) (v := 1) d54_2 rfl rfl ?_
  refine Go.ishr (pc' := 4) d54_3 rfl ?_
  show Go _ _ _ _ _ _ _ _ _ _ _ _ 4 _ [(.int 1)]
  refine Go.newarray (pc' := 6) (cells' := 1) (slots' := 1) (cap := 1) (ww hw 9 rfl) d54_4 (ad := "[C") (by decide) (by decide) (by decide) rfl rfl (by decide) (by decide) (by decide) rfl ?_
  intro h1 b1 g1 E1 ge1 kA1 A1 X1
  have K2 := (Keep.refl h []).ext E1
  have V1 : Arv Z h1 b1 kA1 .char (1 : Int32) [(.int 0)] (.int 0) := Arv.pad A1 (pad_rep [] (.int 0) 1)
  refine Go.astoreN (pc' := 7) (Ls' := #[.val (.ref b), .val (.ref b1)]) d54_6 rfl rfl rfl ?_
  refine Go.aloadN (pc' := 8) d54_7 rfl rfl rfl ?_
  refine Go.iconst (pc' := 9) (v := 0) d54_8 rfl rfl ?_
  refine Go.aloadN (pc' := 10) d54_9 rfl rfl rfl ?_
  refine Go.arraylength (pc' := 11) V1 d54_10 rfl ?_
  refine Go.aloadN (pc' := 12) d54_11 rfl rfl rfl ?_
  refine Go.iconst (pc' := 13) (v := 0) d54_12 rfl rfl ?_
  have ne3 := (Nat.ne_of_lt (Nat.lt_of_lt_of_le v.lt (Nat.le_of_eq g1.symm)))
  refine Go.callS (cells' := 1) (slots' := 1) (pc' := 16) [(.ref b), (.int 0), (.int 1), (.ref b1), (.int 0)] [] (ww hw 265 rfl) (ww hw 266 rfl) (ww hw 128 rfl) (ww hw 267 rfl) (by decide) (c_gcs1 l Z a0 hw h1 b kb b1 kA1 k0 wf hn0 hwf sad shi slo sfm ge1 ne3 (v.ext E1) V1) pd_30 d54_13 rfl ?_
  rintro _ h4 ⟨rfl, K4, F4_0⟩
  have K5 := K2.trans K4 (allS (Or.inr (Nat.le_of_eq g1.symm)) all0)
  show Go _ _ _ _ _ _ _ _ _ _ _ _ 16 _ []
  refine Go.aloadN (pc' := 17) d54_16 rfl rfl rfl ?_
  exact Go.retR rfl rfl rfl rfl d54_17 ⟨b1, kA1, rfl, K5, ge1, (Nat.le_of_eq g1.symm), F4_0⟩
theorem c_tcU2 (hw : HW a0 Z) (h : Heap) (b : Addr) (kb : ClassId) (k0 k1 : Int32) (wf : Value) (hn0 : nar .char k0 = k0) (hn1 : nar .char k1 = k1) (hwf : wf.isRef = true) (sad : Zad Z (.int 1)) (shi : Zhi Z (.int 0)) (slo : Zlo Z (.int 8)) (sfm : Zfm Z wf) (v : AB Z h b kb (4 : Int32) [(loB k0), (hiB k0), (loB k1), (hiB k1)] (.int 0)) :
    Con l M_47 q54 2 (some (.array .char)) (rm4 4 1 3 60) Z n0 #[(.ref b)] h (fun v h' => ∃ t : Addr, ∃ kt : ClassId, v = some (.ref t) ∧ Keep h h' [] ∧ n0 ≤ t ∧ h.size ≤ t ∧ Arv Z h' t kt .char (2 : Int32) [(.int k0), (.int k1)] (.int 0)) := by
  refine Con.of_go (plainFor_of_name pn_2) (Ls := #[.val (.ref b), .unset]) ?_
  refine Go.aloadN (pc' := 1) d54_0 rfl rfl rfl ?_
  refine Go.arraylength (pc' := 2) v d54_1 rfl ?_
  refine Go.iconst (pc' := 3) (v := 1) d54_2 rfl rfl ?_
  refine Go.ishr (pc' := 4) d54_3 rfl ?_
  show Go _ _ _ _ _ _ _ _ _ _ _ _ 4 _ [(.int 2)]
  refine Go.newarray (pc' := 6) (cells' := 1) (slots' := 2) (cap := 2) (ww hw 9 rfl) d54_4 (ad := "[C") (by decide) (by decide) (by decide) rfl rfl (by decide) (by decide) (by decide) rfl ?_
  intro h1 b1 g1 E1 ge1 kA1 A1 X1
  have K2 := (Keep.refl h []).ext E1
  have V1 : Arv Z h1 b1 kA1 .char (2 : Int32) [(.int 0), (.int 0)] (.int 0) := Arv.pad A1 (pad_rep [] (.int 0) 2)
  refine Go.astoreN (pc' := 7) (Ls' := #[.val (.ref b), .val (.ref b1)]) d54_6 rfl rfl rfl ?_
  refine Go.aloadN (pc' := 8) d54_7 rfl rfl rfl ?_
  refine Go.iconst (pc' := 9) (v := 0) d54_8 rfl rfl ?_
  refine Go.aloadN (pc' := 10) d54_9 rfl rfl rfl ?_
  refine Go.arraylength (pc' := 11) V1 d54_10 rfl ?_
  refine Go.aloadN (pc' := 12) d54_11 rfl rfl rfl ?_
  refine Go.iconst (pc' := 13) (v := 0) d54_12 rfl rfl ?_
  have ne3 := (Nat.ne_of_lt (Nat.lt_of_lt_of_le v.lt (Nat.le_of_eq g1.symm)))
  refine Go.callS (cells' := 1) (slots' := 2) (pc' := 16) [(.ref b), (.int 0), (.int 2), (.ref b1), (.int 0)] [] (ww hw 265 rfl) (ww hw 266 rfl) (ww hw 128 rfl) (ww hw 267 rfl) (by decide) (c_gcs2 l Z a0 hw h1 b kb b1 kA1 k0 k1 wf hn0 hn1 hwf sad shi slo sfm ge1 ne3 (v.ext E1) V1) pd_30 d54_13 rfl ?_
  rintro _ h4 ⟨rfl, K4, F4_0⟩
  have K5 := K2.trans K4 (allS (Or.inr (Nat.le_of_eq g1.symm)) all0)
  show Go _ _ _ _ _ _ _ _ _ _ _ _ 16 _ []
  refine Go.aloadN (pc' := 17) d54_16 rfl rfl rfl ?_
  exact Go.retR rfl rfl rfl rfl d54_17 ⟨b1, kA1, rfl, K5, ge1, (Nat.le_of_eq g1.symm), F4_0⟩
theorem c_tcU3 (hw : HW a0 Z) (h : Heap) (b : Addr) (kb : ClassId) (k0 k1 k2 : Int32) (wf : Value) (hn0 : nar .char k0 = k0) (hn1 : nar .char k1 = k1) (hn2 : nar .char k2 = k2) (hwf : wf.isRef = true) (sad : Zad Z (.int 1)) (shi : Zhi Z (.int 0)) (slo : Zlo Z (.int 8)) (sfm : Zfm Z wf) (v : AB Z h b kb (6 : Int32) [(loB k0), (hiB k0), (loB k1), (hiB k1), (loB k2), (hiB k2)] (.int 0)) :
    Con l M_47 q54 2 (some (.array .char)) (rm4 4 1 3 60) Z n0 #[(.ref b)] h (fun v h' => ∃ t : Addr, ∃ kt : ClassId, v = some (.ref t) ∧ Keep h h' [] ∧ n0 ≤ t ∧ h.size ≤ t ∧ Arv Z h' t kt .char (3 : Int32) [(.int k0), (.int k1), (.int k2)] (.int 0)) := by
  refine Con.of_go (plainFor_of_name pn_2) (Ls := #[.val (.ref b), .unset]) ?_
  refine Go.aloadN (pc' := 1) d54_0 rfl rfl rfl ?_
  refine Go.arraylength (pc' := 2) v d54_1 rfl ?_
  refine Go.iconst (pc' := 3) (v := 1) d54_2 rfl rfl ?_
  refine Go.ishr (pc' := 4) d54_3 rfl ?_
  show Go _ _ _ _ _ _ _ _ _ _ _ _ 4 _ [(.int 3)]
  refine Go.newarray (pc' := 6) (cells' := 1) (slots' := 3) (cap := 3) (ww hw 9 rfl) d54_4 (ad := "[C") (by decide) (by decide) (by decide) rfl rfl (by decide) (by decide) (by decide) rfl ?_
  intro h1 b1 g1 E1 ge1 kA1 A1 X1
  have K2 := (Keep.refl h []).ext E1
  have V1 : Arv Z h1 b1 kA1 .char (3 : Int32) [(.int 0), (.int 0), (.int 0)] (.int 0) := Arv.pad A1 (pad_rep [] (.int 0) 3)
  refine Go.astoreN (pc' := 7) (Ls' := #[.val (.ref b), .val (.ref b1)]) d54_6 rfl rfl rfl ?_
  refine Go.aloadN (pc' := 8) d54_7 rfl rfl rfl ?_
  refine Go.iconst (pc' := 9) (v := 0) d54_8 rfl rfl ?_
  refine Go.aloadN (pc' := 10) d54_9 rfl rfl rfl ?_
  refine Go.arraylength (pc' := 11) V1 d54_10 rfl ?_
  refine Go.aloadN (pc' := 12) d54_11 rfl rfl rfl ?_
  refine Go.iconst (pc' := 13) (v := 0) d54_12 rfl rfl ?_
  have ne3 := (Nat.ne_of_lt (Nat.lt_of_lt_of_le v.lt (Nat.le_of_eq g1.symm)))
  refine Go.callS (cells' := 1) (slots' := 3) (pc' := 16) [(.ref b), (.int 0), (.int 3), (.ref b1), (.int 0)] [] (ww hw 265 rfl) (ww hw 266 rfl) (ww hw 128 rfl) (ww hw 267 rfl) (by decide) (c_gcs3 l Z a0 hw h1 b kb b1 kA1 k0 k1 k2 wf hn0 hn1 hn2 hwf sad shi slo sfm ge1 ne3 (v.ext E1) V1) pd_30 d54_13 rfl ?_
  rintro _ h4 ⟨rfl, K4, F4_0⟩
  have K5 := K2.trans K4 (allS (Or.inr (Nat.le_of_eq g1.symm)) all0)
  show Go _ _ _ _ _ _ _ _ _ _ _ _ 16 _ []
  refine Go.aloadN (pc' := 17) d54_16 rfl rfl rfl ?_
  exact Go.retR rfl rfl rfl rfl d54_17 ⟨b1, kA1, rfl, K5, ge1, (Nat.le_of_eq g1.symm), F4_0⟩
theorem c_jtL (hw : HW a0 Z) (h : Heap) (b : Addr) (kb : ClassId) (cs : List Int32) (h3 : cs.length ≤ 3) (hn : ∀ e ∈ cs, nar .char e = e) (hL : ∀ e ∈ cs, ¬ (255 : Int32) < e) (A : Arv Z h b kb .byte (Int32.ofNat (encS 0 cs).length) (encS 0 cs) (.int 0)) :
    Con l M_46 q12 2 (some (.array .char)) (rm4 1 1 3 17) Z n0 #[(.ref b)] h (fun v h' => ∃ t : Addr, ∃ kt : ClassId, v = some (.ref t) ∧ Keep h h' [] ∧ n0 ≤ t ∧ h.size ≤ t ∧ Arv Z h' t kt .char (Int32.ofNat cs.length) (cs.map Value.int) (.int 0)) := by
  rcases (by omega : cs.length = 0 ∨ cs.length = 1 ∨ cs.length = 2 ∨ cs.length = 3) with hl | hl | hl | hl
  · obtain rfl := len_0 hl
    exact (c_tcL0 l Z a0 hw h b kb A)
  · obtain ⟨k0, rfl⟩ := len_1 hl
    exact (c_tcL1 l Z a0 hw h b kb k0 ((own_b255 (hL k0 (by simp)) (hn k0 (by simp)))) ((hn k0 (by simp))) A)
  · obtain ⟨k0, k1, rfl⟩ := len_2 hl
    exact (c_tcL2 l Z a0 hw h b kb k0 k1 ((own_b255 (hL k0 (by simp)) (hn k0 (by simp)))) ((own_b255 (hL k1 (by simp)) (hn k1 (by simp)))) ((hn k0 (by simp))) ((hn k1 (by simp))) A)
  · obtain ⟨k0, k1, k2, rfl⟩ := len_3 hl
    exact (c_tcL3 l Z a0 hw h b kb k0 k1 k2 ((own_b255 (hL k0 (by simp)) (hn k0 (by simp)))) ((own_b255 (hL k1 (by simp)) (hn k1 (by simp)))) ((own_b255 (hL k2 (by simp)) (hn k2 (by simp)))) ((hn k0 (by simp))) ((hn k1 (by simp))) ((hn k2 (by simp))) A)
theorem c_jtU (hw : HW a0 Z) (h : Heap) (b : Addr) (kb : ClassId) (cs : List Int32) (wf : Value) (h3 : cs.length ≤ 3) (hn : ∀ e ∈ cs, nar .char e = e) (hwf : wf.isRef = true) (sad : Zad Z (.int 1)) (shi : Zhi Z (.int 0)) (slo : Zlo Z (.int 8)) (sfm : Zfm Z wf) (A : Arv Z h b kb .byte (Int32.ofNat (encS 1 cs).length) (encS 1 cs) (.int 0)) :
    Con l M_47 q54 2 (some (.array .char)) (rm4 4 1 3 60) Z n0 #[(.ref b)] h (fun v h' => ∃ t : Addr, ∃ kt : ClassId, v = some (.ref t) ∧ Keep h h' [] ∧ n0 ≤ t ∧ h.size ≤ t ∧ Arv Z h' t kt .char (Int32.ofNat cs.length) (cs.map Value.int) (.int 0)) := by
  rcases (by omega : cs.length = 0 ∨ cs.length = 1 ∨ cs.length = 2 ∨ cs.length = 3) with hl | hl | hl | hl
  · obtain rfl := len_0 hl
    exact (c_tcU0 l Z a0 hw h b kb wf hwf sad shi slo sfm A)
  · obtain ⟨k0, rfl⟩ := len_1 hl
    exact (c_tcU1 l Z a0 hw h b kb k0 wf ((hn k0 (by simp))) hwf sad shi slo sfm A)
  · obtain ⟨k0, k1, rfl⟩ := len_2 hl
    exact (c_tcU2 l Z a0 hw h b kb k0 k1 wf ((hn k0 (by simp))) ((hn k1 (by simp))) hwf sad shi slo sfm A)
  · obtain ⟨k0, k1, k2, rfl⟩ := len_3 hl
    exact (c_tcU3 l Z a0 hw h b kb k0 k1 k2 wf ((hn k0 (by simp))) ((hn k1 (by simp))) ((hn k2 (by simp))) hwf sad shi slo sfm A)
theorem c_tca0 (hw : HW a0 Z) (h : Heap) (r b : Addr) (kb : ClassId) (cs : List Int32) (cp : Int32) (wf : Value) (hcp : ¬ (cp = (0 : Int32))) (hwf : wf.isRef = true) (h3 : cs.length ≤ 3) (hn : ∀ e ∈ cs, nar .char e = e) (hL : ∀ e ∈ cs, ¬ (255 : Int32) < e) (scp : Zcp Z (.int cp)) (sad : Zad Z (.int 1)) (shi : Zhi Z (.int 0)) (slo : Zlo Z (.int 8)) (sfm : Zfm Z wf) (xr : ES Z h r) (f : GK Z h r (.int 0)) (g : GV Z h r (.ref b)) (A : Arv Z h b kb .byte (Int32.ofNat (encS 0 cs).length) (encS 0 cs) (.int 0)) :
    Con l M_48 q10 1 (some (.array .char)) (rm4 5 1 3 73) Z n0 #[(.ref r)] h (fun v h' => ∃ t : Addr, ∃ kt : ClassId, v = some (.ref t) ∧ Keep h h' [] ∧ n0 ≤ t ∧ h.size ≤ t ∧ Arv Z h' t kt .char (Int32.ofNat cs.length) (cs.map Value.int) (.int 0)) := by
  refine Con.of_go (plainFor_of_name pn_0) (Ls := #[.val (.ref r)]) ?_
  refine Go.aloadN (pc' := 1) d10_0 rfl rfl rfl ?_
  refine Go.callV (cells' := 0) (slots' := 0) (pc' := 4) [] [] xr (ww hw 66 rfl) (ww hw 67 rfl) (nfS (ww hw 69 rfl)) (ww hw 69 rfl) (ww hw 68 rfl) (ww hw 8 rfl) (ww hw 70 rfl) (by decide) (c_isLatin1 l Z a0 hw h r cp hcp scp f) pd_10 d10_1 rfl ?_
  rintro _ _ ⟨rfl, rfl⟩
  show Go _ _ _ _ _ _ _ _ _ _ _ _ 4 _ [(.int 1)]
  refine Go.ifNo (pc' := 7) d10_4 (XT.i0_eq_f (by decide)) rfl ?_
  refine Go.aloadN (pc' := 8) d10_7 rfl rfl rfl ?_
  refine Go.getfield (pc' := 11) (host := "") (Or.inl (ww hw 26 rfl)) Via.refl g d10_8 rfl ?_
  refine Go.callS (cells' := 1) (slots' := 3) (pc' := 14) [(.ref b)] [] (ww hw 71 rfl) (ww hw 72 rfl) (ww hw 73 rfl) (ww hw 74 rfl) (by decide) (c_jtL l Z a0 hw h b kb cs h3 hn hL A) pd_31 d10_11 rfl ?_
  rintro _ h2 ⟨t_2, kt_2, rfl, K2, ge_t_2, sz_t_2, F2_0⟩
  show Go _ _ _ _ _ _ _ _ _ _ _ _ 14 _ [(.ref t_2)]
  refine Go.goto (pc' := 24) d10_14 (by decide) (by decide) ?_
  exact Go.retR rfl rfl rfl rfl d10_24 ⟨t_2, kt_2, rfl, K2, ge_t_2, sz_t_2, F2_0⟩
theorem c_tca1 (hw : HW a0 Z) (h : Heap) (r b : Addr) (kb : ClassId) (cs : List Int32) (cp : Int32) (wf : Value) (hcp : ¬ (cp = (0 : Int32))) (hwf : wf.isRef = true) (h3 : cs.length ≤ 3) (hn : ∀ e ∈ cs, nar .char e = e) (scp : Zcp Z (.int cp)) (sad : Zad Z (.int 1)) (shi : Zhi Z (.int 0)) (slo : Zlo Z (.int 8)) (sfm : Zfm Z wf) (xr : ES Z h r) (f : GK Z h r (.int 1)) (g : GV Z h r (.ref b)) (A : Arv Z h b kb .byte (Int32.ofNat (encS 1 cs).length) (encS 1 cs) (.int 0)) :
    Con l M_48 q10 1 (some (.array .char)) (rm4 5 1 3 73) Z n0 #[(.ref r)] h (fun v h' => ∃ t : Addr, ∃ kt : ClassId, v = some (.ref t) ∧ Keep h h' [] ∧ n0 ≤ t ∧ h.size ≤ t ∧ Arv Z h' t kt .char (Int32.ofNat cs.length) (cs.map Value.int) (.int 0)) := by
  refine Con.of_go (plainFor_of_name pn_0) (Ls := #[.val (.ref r)]) ?_
  refine Go.aloadN (pc' := 1) d10_0 rfl rfl rfl ?_
  refine Go.callV (cells' := 0) (slots' := 0) (pc' := 4) [] [] xr (ww hw 66 rfl) (ww hw 67 rfl) (nfS (ww hw 69 rfl)) (ww hw 69 rfl) (ww hw 68 rfl) (ww hw 8 rfl) (ww hw 70 rfl) (by decide) (c_isLat1 l Z a0 hw h r cp hcp scp f) pd_10 d10_1 rfl ?_
  rintro _ _ ⟨rfl, rfl⟩
  show Go _ _ _ _ _ _ _ _ _ _ _ _ 4 _ [(.int 0)]
  refine Go.ifYes (pc' := 17) d10_4 (XT.i0_eq_t (by decide)) (by decide) (by decide) ?_
  refine Go.aloadN (pc' := 18) d10_17 rfl rfl rfl ?_
  refine Go.getfield (pc' := 21) (host := "") (Or.inl (ww hw 26 rfl)) Via.refl g d10_18 rfl ?_
  refine Go.callS (cells' := 1) (slots' := 3) (pc' := 24) [(.ref b)] [] (ww hw 262 rfl) (ww hw 263 rfl) (ww hw 128 rfl) (ww hw 264 rfl) (by decide) (c_jtU l Z a0 hw h b kb cs wf h3 hn hwf sad shi slo sfm A) pd_31 d10_21 rfl ?_
  rintro _ h2 ⟨t_2, kt_2, rfl, K2, ge_t_2, sz_t_2, F2_0⟩
  show Go _ _ _ _ _ _ _ _ _ _ _ _ 24 _ [(.ref t_2)]
  exact Go.retR rfl rfl rfl rfl d10_24 ⟨t_2, kt_2, rfl, K2, ge_t_2, sz_t_2, F2_0⟩
theorem c_jtca (hw : HW a0 Z) (h : Heap) (r b : Addr) (cs : List Int32) (cp : Int32) (wf : Value) (hcp : ¬ (cp = (0 : Int32))) (hwf : wf.isRef = true) (h3 : cs.length ≤ 3) (scp : Zcp Z (.int cp)) (sad : Zad Z (.int 1)) (shi : Zhi Z (.int 0)) (slo : Zlo Z (.int 8)) (sfm : Zfm Z wf) (x : ES Z h r) (sc : StrC Z h r b cs) :
    Con l M_48 q10 1 (some (.array .char)) (rm4 5 1 3 73) Z n0 #[(.ref r)] h (fun v h' => ∃ t : Addr, ∃ kt : ClassId, v = some (.ref t) ∧ Keep h h' [] ∧ n0 ≤ t ∧ h.size ≤ t ∧ Arv Z h' t kt .char (Int32.ofNat cs.length) (cs.map Value.int) (.int 0)) := by
  obtain ⟨kb, cd, hcd, f, g, A, xb, hL, hn, h6⟩ := sc
  rcases hcd with rfl | rfl
  · exact (c_tca0 l Z a0 hw h r b kb cs cp wf hcp hwf h3 hn (hL rfl) scp sad shi slo sfm x f g A)
  · exact (c_tca1 l Z a0 hw h r b kb cs cp wf hcp hwf h3 hn scp sad shi slo sfm x f g A)
theorem c_latAt (hw : HW a0 Z) (h : Heap) (b : Addr) (kb : ClassId) (z : Int32) (vs : List Value) (p x : Int32) (wf : Value) (hwf : wf.isRef = true) (hp0 : ¬ (p < (0 : Int32))) (hz : p < z) (hx : vs.getD p.toNatClampNeg (.int 0) = .int x) (sfm : Zfm Z wf) (v : AB Z h b kb z vs (.int 0)) :
    Con l M_49 q42 2 (some .char) (rm4 2 0 0 27) Z n0 #[(.ref b), (.int p)] h (fun v h' => v = some (.int (x &&& (255 : Int32))) ∧ h = h') := by
  refine Con.of_go (plainFor_of_name pn_3) (Ls := #[.val (.ref b), .val (.int p)]) ?_
  refine Go.iloadN (pc' := 1) d42_0 rfl rfl ?_
  refine Go.aloadN (pc' := 2) d42_1 rfl rfl rfl ?_
  refine Go.arraylength (pc' := 3) v d42_2 rfl ?_
  refine Go.callS (cells' := 0) (slots' := 0) (pc' := 6) [(.int p), (.int z)] [] (ww hw 218 rfl) (ww hw 219 rfl) (ww hw 8 rfl) (ww hw 220 rfl) (by decide) (c_strCheck l Z a0 hw h p z wf hp0 hz hwf sfm) pd_2 d42_3 rfl ?_
  rintro _ _ ⟨rfl, rfl⟩
  show Go _ _ _ _ _ _ _ _ _ _ _ _ 6 _ []
  refine Go.aloadN (pc' := 7) d42_6 rfl rfl rfl ?_
  refine Go.iloadN (pc' := 8) d42_7 rfl rfl ?_
  refine Go.baload (pc' := 9) (v := x) v d42_8 hp0 hz hx rfl ?_
  refine Go.sipush (pc' := 12) (v := 255) d42_9 rfl rfl ?_
  refine Go.iand (pc' := 13) d42_12 rfl ?_
  refine Go.i2c (pc' := 14) d42_13 rfl ?_
  rw [i2c_mask]
  exact Go.retN (t := .char) rfl (by simp) d42_14 ⟨(congrArg (fun z => some (Value.int z)) (show nar .char (x &&& (255 : Int32)) = (x &&& (255 : Int32)) from i2c_mask _)), rfl⟩
theorem c_uAt (hw : HW a0 Z) (h : Heap) (b : Addr) (kb : ClassId) (z : Int32) (vs : List Value) (p u w c : Int32) (wf : Value) (hu : (p <<< ((1 : Int32) &&& 31)) = u) (hw1 : (u + (1 : Int32)) = w) (hu0 : ¬ (u < (0 : Int32))) (hw0 : ¬ (w < (0 : Int32))) (hz0 : u < z) (hz1 : w < z) (hg0 : vs.getD u.toNatClampNeg (.int 0) = .int (c >>> ((0 : Int32) &&& 31)).toInt8.toInt32) (hg1 : vs.getD w.toNatClampNeg (.int 0) = .int (c >>> ((8 : Int32) &&& 31)).toInt8.toInt32) (hnc : nar .char c = c) (hp0 : ¬ (p < (0 : Int32))) (hi : p < (z >>> ((1 : Int32) &&& 31))) (hwf : wf.isRef = true) (sad : Zad Z (.int 1)) (shi : Zhi Z (.int 0)) (slo : Zlo Z (.int 8)) (sfm : Zfm Z wf) (v : AB Z h b kb z vs (.int 0)) :
    Con l M_50 q65 2 (some .char) (rm4 3 0 0 40) Z n0 #[(.ref b), (.int p)] h (fun v h' => v = some (.int c) ∧ h = h') := by
  refine Con.of_go (plainFor_of_name pn_2) (Ls := #[.val (.ref b), .val (.int p)]) ?_
  refine Go.iloadN (pc' := 1) d65_0 rfl rfl ?_
  refine Go.aloadN (pc' := 2) d65_1 rfl rfl rfl ?_
  refine Go.callS (cells' := 0) (slots' := 0) (pc' := 5) [(.int p), (.ref b)] [] (ww hw 295 rfl) (ww hw 296 rfl) (ww hw 128 rfl) (ww hw 297 rfl) (by decide) (c_u16chk l Z a0 hw h p b kb z vs wf hp0 hi hwf sfm v) pd_5 d65_2 rfl ?_
  rintro _ _ ⟨rfl, rfl⟩
  show Go _ _ _ _ _ _ _ _ _ _ _ _ 5 _ []
  refine Go.aloadN (pc' := 6) d65_5 rfl rfl rfl ?_
  refine Go.iloadN (pc' := 7) d65_6 rfl rfl ?_
  refine Go.callS (cells' := 0) (slots' := 0) (pc' := 10) [(.ref b), (.int p)] [] (ww hw 259 rfl) (ww hw 260 rfl) (ww hw 128 rfl) (ww hw 261 rfl) (by decide) (c_getChar l Z a0 hw h b kb z vs p u w c hu hw1 hu0 hw0 hz0 hz1 hg0 hg1 hnc sad shi slo v) pd_28 d65_7 rfl ?_
  rintro _ _ ⟨rfl, rfl⟩
  show Go _ _ _ _ _ _ _ _ _ _ _ _ 10 _ [(.int c)]
  exact Go.retN (t := .char) rfl (by simp) d65_10 ⟨(congrArg (fun z => some (Value.int z)) hnc), rfl⟩
theorem c_cAtL (hw : HW a0 Z) (h : Heap) (r b : Addr) (kb : ClassId) (z : Int32) (vs : List Value) (p x cp : Int32) (wf : Value) (hcp : ¬ (cp = (0 : Int32))) (hwf : wf.isRef = true) (hp0 : ¬ (p < (0 : Int32))) (hz : p < z) (hx : vs.getD p.toNatClampNeg (.int 0) = .int x) (scp : Zcp Z (.int cp)) (sad : Zad Z (.int 1)) (shi : Zhi Z (.int 0)) (slo : Zlo Z (.int 8)) (sfm : Zfm Z wf) (xr : ES Z h r) (f : GK Z h r (.int 0)) (g : GV Z h r (.ref b)) (v : AB Z h b kb z vs (.int 0)) :
    Con l M_51 q41 2 (some .char) (rm4 4 0 0 53) Z n0 #[(.ref r), (.int p)] h (fun v h' => v = some (.int (x &&& (255 : Int32))) ∧ h = h') := by
  refine Con.of_go (plainFor_of_name pn_0) (Ls := #[.val (.ref r), .val (.int p)]) ?_
  refine Go.aloadN (pc' := 1) d41_0 rfl rfl rfl ?_
  refine Go.callV (cells' := 0) (slots' := 0) (pc' := 4) [] [] xr (ww hw 66 rfl) (ww hw 67 rfl) (nfS (ww hw 69 rfl)) (ww hw 69 rfl) (ww hw 68 rfl) (ww hw 8 rfl) (ww hw 70 rfl) (by decide) (c_isLatin1 l Z a0 hw h r cp hcp scp f) pd_10 d41_1 rfl ?_
  rintro _ _ ⟨rfl, rfl⟩
  show Go _ _ _ _ _ _ _ _ _ _ _ _ 4 _ [(.int 1)]
  refine Go.ifNo (pc' := 7) d41_4 (XT.i0_eq_f (by decide)) rfl ?_
  refine Go.aloadN (pc' := 8) d41_7 rfl rfl rfl ?_
  refine Go.getfield (pc' := 11) (host := "") (Or.inl (ww hw 26 rfl)) Via.refl g d41_8 rfl ?_
  refine Go.iloadN (pc' := 12) d41_11 rfl rfl ?_
  refine Go.callS (cells' := 0) (slots' := 0) (pc' := 15) [(.ref b), (.int p)] [] (ww hw 215 rfl) (ww hw 216 rfl) (ww hw 73 rfl) (ww hw 217 rfl) (by decide) (c_latAt l Z a0 hw h b kb z vs p x wf hwf hp0 hz hx sfm v) pd_28 d41_12 rfl ?_
  rintro _ _ ⟨rfl, rfl⟩
  show Go _ _ _ _ _ _ _ _ _ _ _ _ 15 _ [(.int (x &&& (255 : Int32)))]
  exact Go.retN (t := .char) rfl (by simp) d41_15 ⟨(congrArg (fun z => some (Value.int z)) (show nar .char (x &&& (255 : Int32)) = (x &&& (255 : Int32)) from i2c_mask _)), rfl⟩
theorem c_cAtU (hw : HW a0 Z) (h : Heap) (r b : Addr) (kb : ClassId) (z : Int32) (vs : List Value) (p u w c cp : Int32) (wf : Value) (hcp : ¬ (cp = (0 : Int32))) (hwf : wf.isRef = true) (hu : (p <<< ((1 : Int32) &&& 31)) = u) (hw1 : (u + (1 : Int32)) = w) (hu0 : ¬ (u < (0 : Int32))) (hw0 : ¬ (w < (0 : Int32))) (hz0 : u < z) (hz1 : w < z) (hg0 : vs.getD u.toNatClampNeg (.int 0) = .int (c >>> ((0 : Int32) &&& 31)).toInt8.toInt32) (hg1 : vs.getD w.toNatClampNeg (.int 0) = .int (c >>> ((8 : Int32) &&& 31)).toInt8.toInt32) (hnc : nar .char c = c) (hp0 : ¬ (p < (0 : Int32))) (hi : p < (z >>> ((1 : Int32) &&& 31))) (scp : Zcp Z (.int cp)) (sad : Zad Z (.int 1)) (shi : Zhi Z (.int 0)) (slo : Zlo Z (.int 8)) (sfm : Zfm Z wf) (xr : ES Z h r) (f : GK Z h r (.int 1)) (g : GV Z h r (.ref b)) (v : AB Z h b kb z vs (.int 0)) :
    Con l M_51 q41 2 (some .char) (rm4 4 0 0 53) Z n0 #[(.ref r), (.int p)] h (fun v h' => v = some (.int c) ∧ h = h') := by
  refine Con.of_go (plainFor_of_name pn_0) (Ls := #[.val (.ref r), .val (.int p)]) ?_
  refine Go.aloadN (pc' := 1) d41_0 rfl rfl rfl ?_
  refine Go.callV (cells' := 0) (slots' := 0) (pc' := 4) [] [] xr (ww hw 66 rfl) (ww hw 67 rfl) (nfS (ww hw 69 rfl)) (ww hw 69 rfl) (ww hw 68 rfl) (ww hw 8 rfl) (ww hw 70 rfl) (by decide) (c_isLat1 l Z a0 hw h r cp hcp scp f) pd_10 d41_1 rfl ?_
  rintro _ _ ⟨rfl, rfl⟩
  show Go _ _ _ _ _ _ _ _ _ _ _ _ 4 _ [(.int 0)]
  refine Go.ifYes (pc' := 16) d41_4 (XT.i0_eq_t (by decide)) (by decide) (by decide) ?_
  refine Go.aloadN (pc' := 17) d41_16 rfl rfl rfl ?_
  refine Go.getfield (pc' := 20) (host := "") (Or.inl (ww hw 26 rfl)) Via.refl g d41_17 rfl ?_
  refine Go.iloadN (pc' := 21) d41_20 rfl rfl ?_
  refine Go.callS (cells' := 0) (slots' := 0) (pc' := 24) [(.ref b), (.int p)] [] (ww hw 301 rfl) (ww hw 302 rfl) (ww hw 128 rfl) (ww hw 303 rfl) (by decide) (c_uAt l Z a0 hw h b kb z vs p u w c wf hu hw1 hu0 hw0 hz0 hz1 hg0 hg1 hnc hp0 hi hwf sad shi slo sfm v) pd_28 d41_21 rfl ?_
  rintro _ _ ⟨rfl, rfl⟩
  show Go _ _ _ _ _ _ _ _ _ _ _ _ 24 _ [(.int c)]
  exact Go.retN (t := .char) rfl (by simp) d41_24 ⟨(congrArg (fun z => some (Value.int z)) hnc), rfl⟩
theorem c_jat (hw : HW a0 Z) (h : Heap) (r b : Addr) (E : List Int32) (p : Int32) (q : Nat) (c cp : Int32) (wf : Value) (hcp : ¬ (cp = (0 : Int32))) (hwf : wf.isRef = true) (hpq : p = Int32.ofNat q) (hq : q < E.length) (hc : E.getD q 0 = c) (scp : Zcp Z (.int cp)) (sad : Zad Z (.int 1)) (shi : Zhi Z (.int 0)) (slo : Zlo Z (.int 8)) (sfm : Zfm Z wf) (x : ES Z h r) (sc : StrC Z h r b E) :
    Con l M_51 q41 2 (some .char) (rm4 4 0 0 53) Z n0 #[(.ref r), (.int p)] h (fun v h' => v = some (.int c) ∧ h = h') := by
  subst hpq
  have hm : c ∈ E := own_memD hq hc
  have h12 : q ≤ 6 := by
    obtain ⟨kb, cd, hcd, f, g, A, xb, hL, hn, h6⟩ := sc
    omega
  obtain ⟨t0, t1, t2, t3, t4, t5, t6, t7⟩ := own_ofs q h12
  obtain ⟨kb, cd, hcd, f, g, A, xb, hL, hn, h6⟩ := sc
  rcases hcd with rfl | rfl
  · have hc' : (encS 0 E).getD (Int32.ofNat q).toNatClampNeg (.int 0) = .int c.toInt8.toInt32 := by rw [t1]; exact mapget E q c hq hc
    exact (c_cAtL l Z a0 hw h r b kb _ _ (Int32.ofNat q) c.toInt8.toInt32 cp wf hcp hwf t0 ((own_lt q _ (by rw [enc0]; exact hq) (by rw [enc0]; omega))) (hc') scp sad shi slo sfm x f g A).mono (fun v h' q => ⟨q.1.trans (congrArg (fun z => some (Value.int z)) (own_b255 (hL rfl c hm) (hn c hm))), q.2⟩)
  · obtain ⟨g0, g1⟩ := u16get (f := loB) (g := hiB) (d := Value.int 0) E q c hq hc
    exact (c_cAtU l Z a0 hw h r b kb _ _ (Int32.ofNat q) ((Int32.ofNat (2 * q))) ((Int32.ofNat (2 * q + 1))) c cp wf hcp hwf t2 t3 t4 t5 ((own_lt (2 * q) _ (by rw [enc1]; omega) (by rw [enc1]; omega))) ((own_lt (2 * q + 1) _ (by rw [enc1]; omega) (by rw [enc1]; omega))) (t6 ▸ g0) (t7 ▸ g1) (hn c hm) t0 (by rw [enc1]; exact own_u1 q _ h6 hq) scp sad shi slo sfm x f g A)
theorem c_cmpU0 (hw : HW a0 Z) (h : Heap) (t : Addr) (kt : ClassId) (vt : List Value) (b : Addr) (kb : ClassId) (vs : List Value) (nn k0 : Int32) (hk0 : (255 : Int32) < k0) (hz0 : (0 : Int32) < nn) (hv0 : vt.getD 0 (.int 0) = .int k0) (ge_b : n0 ≤ b) (ne_t_b : t ≠ b) (v : Arv Z h t kt .char nn vt (.int 0)) (w : AB Z h b kb nn vs (.int 0)) :
    Con l M_52 q23 7 (some .int) (rm4 0 0 0 0) Z n0 #[(.ref t), (.int 0), (.ref b), (.int 0), (.int nn)] h (fun v h' => v = some (.int 0) ∧ Keep h h' [b]) := by
  refine Con.of_go (plainFor_of_name pn_2) (Ls := #[.val (.ref t), .val (.int 0), .val (.ref b), .val (.int 0), .val (.int nn), .unset, .unset]) ?_
  refine Go.iconst (pc' := 1) (v := 0) d23_0 rfl rfl ?_
  refine Go.istore (pc' := 3) (Ls' := #[.val (.ref t), .val (.int 0), .val (.ref b), .val (.int 0), .val (.int nn), .val (.int 0), .unset]) d23_1 rfl rfl ?_
  refine Go.iload (pc' := 5) d23_3 rfl rfl ?_
  refine Go.iload (pc' := 7) d23_5 rfl rfl ?_
  refine Go.icmpNo (pc' := 10) d23_7 (XT.ii_ge_f hz0) rfl ?_
  refine Go.aloadN (pc' := 11) d23_10 rfl rfl rfl ?_
  refine Go.iloadN (pc' := 12) d23_11 rfl rfl ?_
  refine Go.caload (pc' := 13) (v := k0) v d23_12 (by decide) hz0 hv0 rfl ?_
  refine Go.istore (pc' := 15) (Ls' := #[.val (.ref t), .val (.int 0), .val (.ref b), .val (.int 0), .val (.int nn), .val (.int 0), .val (.int k0)]) d23_13 rfl rfl ?_
  refine Go.iload (pc' := 17) d23_15 rfl rfl ?_
  refine Go.sipush (pc' := 20) (v := 255) d23_17 rfl rfl ?_
  refine Go.icmpNo (pc' := 23) d23_20 (XT.ii_le_f hk0) rfl ?_
  refine Go.iload (pc' := 25) d23_23 rfl rfl ?_
  exact Go.retI rfl d23_25 ⟨rfl, (Keep.refl h [b])⟩
theorem c_cmpU1 (hw : HW a0 Z) (h : Heap) (t : Addr) (kt : ClassId) (vt : List Value) (b : Addr) (kb : ClassId) (vs : List Value) (nn k0 k1 : Int32) (hk0 : ¬ ((255 : Int32) < k0)) (hk1 : (255 : Int32) < k1) (hz0 : (0 : Int32) < nn) (hv0 : vt.getD 0 (.int 0) = .int k0) (hz1 : (1 : Int32) < nn) (hv1 : vt.getD 1 (.int 0) = .int k1) (hl0 : 0 < vs.length) (ge_b : n0 ≤ b) (ne_t_b : t ≠ b) (v : Arv Z h t kt .char nn vt (.int 0)) (w : AB Z h b kb nn vs (.int 0)) :
    Con l M_52 q23 7 (some .int) (rm4 0 0 0 0) Z n0 #[(.ref t), (.int 0), (.ref b), (.int 0), (.int nn)] h (fun v h' => v = some (.int 1) ∧ Keep h h' [b]) := by
  refine Con.of_go (plainFor_of_name pn_2) (Ls := #[.val (.ref t), .val (.int 0), .val (.ref b), .val (.int 0), .val (.int nn), .unset, .unset]) ?_
  refine Go.iconst (pc' := 1) (v := 0) d23_0 rfl rfl ?_
  refine Go.istore (pc' := 3) (Ls' := #[.val (.ref t), .val (.int 0), .val (.ref b), .val (.int 0), .val (.int nn), .val (.int 0), .unset]) d23_1 rfl rfl ?_
  refine Go.iload (pc' := 5) d23_3 rfl rfl ?_
  refine Go.iload (pc' := 7) d23_5 rfl rfl ?_
  refine Go.icmpNo (pc' := 10) d23_7 (XT.ii_ge_f hz0) rfl ?_
  refine Go.aloadN (pc' := 11) d23_10 rfl rfl rfl ?_
  refine Go.iloadN (pc' := 12) d23_11 rfl rfl ?_
  refine Go.caload (pc' := 13) (v := k0) v d23_12 (by decide) hz0 hv0 rfl ?_
  refine Go.istore (pc' := 15) (Ls' := #[.val (.ref t), .val (.int 0), .val (.ref b), .val (.int 0), .val (.int nn), .val (.int 0), .val (.int k0)]) d23_13 rfl rfl ?_
  refine Go.iload (pc' := 17) d23_15 rfl rfl ?_
  refine Go.sipush (pc' := 20) (v := 255) d23_17 rfl rfl ?_
  refine Go.icmpYes (pc' := 26) d23_20 (XT.ii_le_t hk0) (by decide) (by decide) ?_
  refine Go.aloadN (pc' := 27) d23_26 rfl rfl rfl ?_
  refine Go.iloadN (pc' := 28) d23_27 rfl rfl ?_
  refine Go.iload (pc' := 30) d23_28 rfl rfl ?_
  refine Go.i2b (pc' := 31) d23_30 rfl ?_
  refine Go.bastore (pc' := 32) w ge_b d23_31 (by decide) hz0 (i := 0) rfl hl0 rfl ?_
  intro h1 W2 V3
  have K4 := (Keep.refl h [b]).wr W2 (Or.inl (List.mem_of_getElem? (i := 0) rfl))
  rw [OwnNum.b8] at V3
  replace V3 : AB Z h1 b kb nn (vs.set 0 (by8 k0)) (.int 0) := V3
  refine Go.iinc (pc' := 35) (Ls' := #[.val (.ref t), .val (.int ((0 : Int32) + (1 : Int32))), .val (.ref b), .val (.int 0), .val (.int nn), .val (.int 0), .val (.int k0)]) (w := (1 : Int32)) d23_32 rfl rfl rfl rfl ?_
  show Go _ _ _ _ _ _ _ _ _ _ _ _ 35 #[.val (.ref t), .val (.int 1), .val (.ref b), .val (.int 0), .val (.int nn), .val (.int 0), .val (.int k0)] []
  refine Go.iinc (pc' := 38) (Ls' := #[.val (.ref t), .val (.int 1), .val (.ref b), .val (.int ((0 : Int32) + (1 : Int32))), .val (.int nn), .val (.int 0), .val (.int k0)]) (w := (1 : Int32)) d23_35 rfl rfl rfl rfl ?_
  show Go _ _ _ _ _ _ _ _ _ _ _ _ 38 #[.val (.ref t), .val (.int 1), .val (.ref b), .val (.int 1), .val (.int nn), .val (.int 0), .val (.int k0)] []
  refine Go.iinc (pc' := 41) (Ls' := #[.val (.ref t), .val (.int 1), .val (.ref b), .val (.int 1), .val (.int nn), .val (.int ((0 : Int32) + (1 : Int32))), .val (.int k0)]) (w := (1 : Int32)) d23_38 rfl rfl rfl rfl ?_
  show Go _ _ _ _ _ _ _ _ _ _ _ _ 41 #[.val (.ref t), .val (.int 1), .val (.ref b), .val (.int 1), .val (.int nn), .val (.int 1), .val (.int k0)] []
  refine Go.goto (pc' := 3) d23_41 (by decide) (by decide) ?_
  refine Go.iload (pc' := 5) d23_3 rfl rfl ?_
  refine Go.iload (pc' := 7) d23_5 rfl rfl ?_
  refine Go.icmpNo (pc' := 10) d23_7 (XT.ii_ge_f hz1) rfl ?_
  refine Go.aloadN (pc' := 11) d23_10 rfl rfl rfl ?_
  refine Go.iloadN (pc' := 12) d23_11 rfl rfl ?_
  refine Go.caload (pc' := 13) (v := k1) (v.other W2 ne_t_b) d23_12 (by decide) hz1 hv1 rfl ?_
  refine Go.istore (pc' := 15) (Ls' := #[.val (.ref t), .val (.int 1), .val (.ref b), .val (.int 1), .val (.int nn), .val (.int 1), .val (.int k1)]) d23_13 rfl rfl ?_
  refine Go.iload (pc' := 17) d23_15 rfl rfl ?_
  refine Go.sipush (pc' := 20) (v := 255) d23_17 rfl rfl ?_
  refine Go.icmpNo (pc' := 23) d23_20 (XT.ii_le_f hk1) rfl ?_
  refine Go.iload (pc' := 25) d23_23 rfl rfl ?_
  exact Go.retI rfl d23_25 ⟨rfl, K4⟩
theorem c_cmpU2 (hw : HW a0 Z) (h : Heap) (t : Addr) (kt : ClassId) (vt : List Value) (b : Addr) (kb : ClassId) (vs : List Value) (nn k0 k1 k2 : Int32) (hk0 : ¬ ((255 : Int32) < k0)) (hk1 : ¬ ((255 : Int32) < k1)) (hk2 : (255 : Int32) < k2) (hz0 : (0 : Int32) < nn) (hv0 : vt.getD 0 (.int 0) = .int k0) (hz1 : (1 : Int32) < nn) (hv1 : vt.getD 1 (.int 0) = .int k1) (hz2 : (2 : Int32) < nn) (hv2 : vt.getD 2 (.int 0) = .int k2) (hl0 : 0 < vs.length) (hl1 : 1 < vs.length) (ge_b : n0 ≤ b) (ne_t_b : t ≠ b) (v : Arv Z h t kt .char nn vt (.int 0)) (w : AB Z h b kb nn vs (.int 0)) :
    Con l M_52 q23 7 (some .int) (rm4 0 0 0 0) Z n0 #[(.ref t), (.int 0), (.ref b), (.int 0), (.int nn)] h (fun v h' => v = some (.int 2) ∧ Keep h h' [b]) := by
  refine Con.of_go (plainFor_of_name pn_2) (Ls := #[.val (.ref t), .val (.int 0), .val (.ref b), .val (.int 0), .val (.int nn), .unset, .unset]) ?_
  refine Go.iconst (pc' := 1) (v := 0) d23_0 rfl rfl ?_
  refine Go.istore (pc' := 3) (Ls' := #[.val (.ref t), .val (.int 0), .val (.ref b), .val (.int 0), .val (.int nn), .val (.int 0), .unset]) d23_1 rfl rfl ?_
  refine Go.iload (pc' := 5) d23_3 rfl rfl ?_
  refine Go.iload (pc' := 7) d23_5 rfl rfl ?_
  refine Go.icmpNo (pc' := 10) d23_7 (XT.ii_ge_f hz0) rfl ?_
  refine Go.aloadN (pc' := 11) d23_10 rfl rfl rfl ?_
  refine Go.iloadN (pc' := 12) d23_11 rfl rfl ?_
  refine Go.caload (pc' := 13) (v := k0) v d23_12 (by decide) hz0 hv0 rfl ?_
  refine Go.istore (pc' := 15) (Ls' := #[.val (.ref t), .val (.int 0), .val (.ref b), .val (.int 0), .val (.int nn), .val (.int 0), .val (.int k0)]) d23_13 rfl rfl ?_
  refine Go.iload (pc' := 17) d23_15 rfl rfl ?_
  refine Go.sipush (pc' := 20) (v := 255) d23_17 rfl rfl ?_
  refine Go.icmpYes (pc' := 26) d23_20 (XT.ii_le_t hk0) (by decide) (by decide) ?_
  refine Go.aloadN (pc' := 27) d23_26 rfl rfl rfl ?_
  refine Go.iloadN (pc' := 28) d23_27 rfl rfl ?_
  refine Go.iload (pc' := 30) d23_28 rfl rfl ?_
  refine Go.i2b (pc' := 31) d23_30 rfl ?_
  refine Go.bastore (pc' := 32) w ge_b d23_31 (by decide) hz0 (i := 0) rfl hl0 rfl ?_
  intro h1 W2 V3
  have K4 := (Keep.refl h [b]).wr W2 (Or.inl (List.mem_of_getElem? (i := 0) rfl))
  rw [OwnNum.b8] at V3
  replace V3 : AB Z h1 b kb nn (vs.set 0 (by8 k0)) (.int 0) := V3
  refine Go.iinc (pc' := 35) (Ls' := #[.val (.ref t), .val (.int ((0 : Int32) + (1 : Int32))), .val (.ref b), .val (.int 0), .val (.int nn), .val (.int 0), .val (.int k0)]) (w := (1 : Int32)) d23_32 rfl rfl rfl rfl ?_
  show Go _ _ _ _ _ _ _ _ _ _ _ _ 35 #[.val (.ref t), .val (.int 1), .val (.ref b), .val (.int 0), .val (.int nn), .val (.int 0), .val (.int k0)] []
  refine Go.iinc (pc' := 38) (Ls' := #[.val (.ref t), .val (.int 1), .val (.ref b), .val (.int ((0 : Int32) + (1 : Int32))), .val (.int nn), .val (.int 0), .val (.int k0)]) (w := (1 : Int32)) d23_35 rfl rfl rfl rfl ?_
  show Go _ _ _ _ _ _ _ _ _ _ _ _ 38 #[.val (.ref t), .val (.int 1), .val (.ref b), .val (.int 1), .val (.int nn), .val (.int 0), .val (.int k0)] []
  refine Go.iinc (pc' := 41) (Ls' := #[.val (.ref t), .val (.int 1), .val (.ref b), .val (.int 1), .val (.int nn), .val (.int ((0 : Int32) + (1 : Int32))), .val (.int k0)]) (w := (1 : Int32)) d23_38 rfl rfl rfl rfl ?_
  show Go _ _ _ _ _ _ _ _ _ _ _ _ 41 #[.val (.ref t), .val (.int 1), .val (.ref b), .val (.int 1), .val (.int nn), .val (.int 1), .val (.int k0)] []
  refine Go.goto (pc' := 3) d23_41 (by decide) (by decide) ?_
  refine Go.iload (pc' := 5) d23_3 rfl rfl ?_
  refine Go.iload (pc' := 7) d23_5 rfl rfl ?_
  refine Go.icmpNo (pc' := 10) d23_7 (XT.ii_ge_f hz1) rfl ?_
  refine Go.aloadN (pc' := 11) d23_10 rfl rfl rfl ?_
  refine Go.iloadN (pc' := 12) d23_11 rfl rfl ?_
  refine Go.caload (pc' := 13) (v := k1) (v.other W2 ne_t_b) d23_12 (by decide) hz1 hv1 rfl ?_
  refine Go.istore (pc' := 15) (Ls' := #[.val (.ref t), .val (.int 1), .val (.ref b), .val (.int 1), .val (.int nn), .val (.int 1), .val (.int k1)]) d23_13 rfl rfl ?_
  refine Go.iload (pc' := 17) d23_15 rfl rfl ?_
  refine Go.sipush (pc' := 20) (v := 255) d23_17 rfl rfl ?_
  refine Go.icmpYes (pc' := 26) d23_20 (XT.ii_le_t hk1) (by decide) (by decide) ?_
  refine Go.aloadN (pc' := 27) d23_26 rfl rfl rfl ?_
  refine Go.iloadN (pc' := 28) d23_27 rfl rfl ?_
  refine Go.iload (pc' := 30) d23_28 rfl rfl ?_
  refine Go.i2b (pc' := 31) d23_30 rfl ?_
  refine Go.bastore (pc' := 32) V3 ge_b d23_31 (by decide) hz1 (i := 1) rfl (by simp only [List.length_set]; exact hl1) rfl ?_
  intro h5 W6 V7
  have K8 := K4.wr W6 (Or.inl (List.mem_of_getElem? (i := 0) rfl))
  rw [OwnNum.b8] at V7
  replace V7 : AB Z h5 b kb nn ((vs.set 0 (by8 k0)).set 1 (by8 k1)) (.int 0) := V7
  refine Go.iinc (pc' := 35) (Ls' := #[.val (.ref t), .val (.int ((1 : Int32) + (1 : Int32))), .val (.ref b), .val (.int 1), .val (.int nn), .val (.int 1), .val (.int k1)]) (w := (1 : Int32)) d23_32 rfl rfl rfl rfl ?_
  show Go _ _ _ _ _ _ _ _ _ _ _ _ 35 #[.val (.ref t), .val (.int 2), .val (.ref b), .val (.int 1), .val (.int nn), .val (.int 1), .val (.int k1)] []
  refine Go.iinc (pc' := 38) (Ls' := #[.val (.ref t), .val (.int 2), .val (.ref b), .val (.int ((1 : Int32) + (1 : Int32))), .val (.int nn), .val (.int 1), .val (.int k1)]) (w := (1 : Int32)) d23_35 rfl rfl rfl rfl ?_
  show Go _ _ _ _ _ _ _ _ _ _ _ _ 38 #[.val (.ref t), .val (.int 2), .val (.ref b), .val (.int 2), .val (.int nn), .val (.int 1), .val (.int k1)] []
  refine Go.iinc (pc' := 41) (Ls' := #[.val (.ref t), .val (.int 2), .val (.ref b), .val (.int 2), .val (.int nn), .val (.int ((1 : Int32) + (1 : Int32))), .val (.int k1)]) (w := (1 : Int32)) d23_38 rfl rfl rfl rfl ?_
  show Go _ _ _ _ _ _ _ _ _ _ _ _ 41 #[.val (.ref t), .val (.int 2), .val (.ref b), .val (.int 2), .val (.int nn), .val (.int 2), .val (.int k1)] []
  refine Go.goto (pc' := 3) d23_41 (by decide) (by decide) ?_
  refine Go.iload (pc' := 5) d23_3 rfl rfl ?_
  refine Go.iload (pc' := 7) d23_5 rfl rfl ?_
  refine Go.icmpNo (pc' := 10) d23_7 (XT.ii_ge_f hz2) rfl ?_
  refine Go.aloadN (pc' := 11) d23_10 rfl rfl rfl ?_
  refine Go.iloadN (pc' := 12) d23_11 rfl rfl ?_
  refine Go.caload (pc' := 13) (v := k2) ((v.other W2 ne_t_b).other W6 ne_t_b) d23_12 (by decide) hz2 hv2 rfl ?_
  refine Go.istore (pc' := 15) (Ls' := #[.val (.ref t), .val (.int 2), .val (.ref b), .val (.int 2), .val (.int nn), .val (.int 2), .val (.int k2)]) d23_13 rfl rfl ?_
  refine Go.iload (pc' := 17) d23_15 rfl rfl ?_
  refine Go.sipush (pc' := 20) (v := 255) d23_17 rfl rfl ?_
  refine Go.icmpNo (pc' := 23) d23_20 (XT.ii_le_f hk2) rfl ?_
  refine Go.iload (pc' := 25) d23_23 rfl rfl ?_
  exact Go.retI rfl d23_25 ⟨rfl, K8⟩
theorem c_cmpL1 (hw : HW a0 Z) (h : Heap) (t : Addr) (kt : ClassId) (b : Addr) (kb : ClassId) (k0 : Int32) (hk0 : ¬ ((255 : Int32) < k0)) (ge_b : n0 ≤ b) (ne_t_b : t ≠ b) (vt : Arv Z h t kt .char (1 : Int32) [(.int k0)] (.int 0)) (vb : AB Z h b kb (1 : Int32) [(.int 0)] (.int 0)) :
    Con l M_52 q23 7 (some .int) (rm4 0 0 0 0) Z n0 #[(.ref t), (.int 0), (.ref b), (.int 0), (.int 1)] h (fun v h' => v = some (.int 1) ∧ Keep h h' [b] ∧ AB Z h' b kb (1 : Int32) [(by8 k0)] (.int 0)) := by
  refine Con.of_go (plainFor_of_name pn_2) (Ls := #[.val (.ref t), .val (.int 0), .val (.ref b), .val (.int 0), .val (.int 1), .unset, .unset]) ?_
  refine Go.iconst (pc' := 1) (v := 0) d23_0 rfl rfl ?_
  refine Go.istore (pc' := 3) (Ls' := #[.val (.ref t), .val (.int 0), .val (.ref b), .val (.int 0), .val (.int 1), .val (.int 0), .unset]) d23_1 rfl rfl ?_
  refine Go.iload (pc' := 5) d23_3 rfl rfl ?_
  refine Go.iload (pc' := 7) d23_5 rfl rfl ?_
  refine Go.icmpNo (pc' := 10) d23_7 (XT.ii_ge_f (by decide)) rfl ?_
  refine Go.aloadN (pc' := 11) d23_10 rfl rfl rfl ?_
  refine Go.iloadN (pc' := 12) d23_11 rfl rfl ?_
  refine Go.caload (pc' := 13) (v := k0) vt d23_12 (by decide) (by decide) rfl rfl ?_
  refine Go.istore (pc' := 15) (Ls' := #[.val (.ref t), .val (.int 0), .val (.ref b), .val (.int 0), .val (.int 1), .val (.int 0), .val (.int k0)]) d23_13 rfl rfl ?_
  refine Go.iload (pc' := 17) d23_15 rfl rfl ?_
  refine Go.sipush (pc' := 20) (v := 255) d23_17 rfl rfl ?_
  refine Go.icmpYes (pc' := 26) d23_20 (XT.ii_le_t hk0) (by decide) (by decide) ?_
  refine Go.aloadN (pc' := 27) d23_26 rfl rfl rfl ?_
  refine Go.iloadN (pc' := 28) d23_27 rfl rfl ?_
  refine Go.iload (pc' := 30) d23_28 rfl rfl ?_
  refine Go.i2b (pc' := 31) d23_30 rfl ?_
  refine Go.bastore (pc' := 32) vb ge_b d23_31 (by decide) (by decide) (i := 0) rfl (nl rfl) rfl ?_
  intro h1 W2 V3
  have K4 := (Keep.refl h [b]).wr W2 (Or.inl (List.mem_of_getElem? (i := 0) rfl))
  rw [OwnNum.b8] at V3
  replace V3 : AB Z h1 b kb (1 : Int32) [(by8 k0)] (.int 0) := V3
  refine Go.iinc (pc' := 35) (Ls' := #[.val (.ref t), .val (.int ((0 : Int32) + (1 : Int32))), .val (.ref b), .val (.int 0), .val (.int 1), .val (.int 0), .val (.int k0)]) (w := (1 : Int32)) d23_32 rfl rfl rfl rfl ?_
  show Go _ _ _ _ _ _ _ _ _ _ _ _ 35 #[.val (.ref t), .val (.int 1), .val (.ref b), .val (.int 0), .val (.int 1), .val (.int 0), .val (.int k0)] []
  refine Go.iinc (pc' := 38) (Ls' := #[.val (.ref t), .val (.int 1), .val (.ref b), .val (.int ((0 : Int32) + (1 : Int32))), .val (.int 1), .val (.int 0), .val (.int k0)]) (w := (1 : Int32)) d23_35 rfl rfl rfl rfl ?_
  show Go _ _ _ _ _ _ _ _ _ _ _ _ 38 #[.val (.ref t), .val (.int 1), .val (.ref b), .val (.int 1), .val (.int 1), .val (.int 0), .val (.int k0)] []
  refine Go.iinc (pc' := 41) (Ls' := #[.val (.ref t), .val (.int 1), .val (.ref b), .val (.int 1), .val (.int 1), .val (.int ((0 : Int32) + (1 : Int32))), .val (.int k0)]) (w := (1 : Int32)) d23_38 rfl rfl rfl rfl ?_
  show Go _ _ _ _ _ _ _ _ _ _ _ _ 41 #[.val (.ref t), .val (.int 1), .val (.ref b), .val (.int 1), .val (.int 1), .val (.int 1), .val (.int k0)] []
  refine Go.goto (pc' := 3) d23_41 (by decide) (by decide) ?_
  refine Go.iload (pc' := 5) d23_3 rfl rfl ?_
  refine Go.iload (pc' := 7) d23_5 rfl rfl ?_
  refine Go.icmpYes (pc' := 44) d23_7 (XT.ii_ge_t (by decide)) (by decide) (by decide) ?_
  refine Go.iload (pc' := 46) d23_44 rfl rfl ?_
  exact Go.retI rfl d23_46 ⟨rfl, K4, V3⟩
theorem c_toB1 (hw : HW a0 Z) (h : Heap) (t : Addr) (kt : ClassId) (k0 : Int32) (sad : Zad Z (.int 1)) (shi : Zhi Z (.int 0)) (slo : Zlo Z (.int 8)) (vt : Arv Z h t kt .char (1 : Int32) [(.int k0)] (.int 0)) :
    Con l M_53 q49 5 (some (.array .byte)) (rm4 2 1 16 24) Z n0 #[(.ref t), (.int 0), (.int 1)] h (fun v h' => ∃ d : Addr, ∃ ky : ClassId, v = some (.ref d) ∧ Keep h h' [] ∧ n0 ≤ d ∧ h.size ≤ d ∧ AB Z h' d ky (2 : Int32) [(loB k0), (hiB k0)] (.int 0) ∧ EA Z h' d) := by
  refine Con.of_go (plainFor_of_name pn_2) (Ls := #[.val (.ref t), .val (.int 0), .val (.int 1), .unset, .unset]) ?_
  refine Go.iloadN (pc' := 1) d49_0 rfl rfl ?_
  refine Go.callS (cells' := 1) (slots' := 16) (pc' := 4) [(.int 1)] [] (ww hw 246 rfl) (ww hw 247 rfl) (ww hw 128 rfl) (ww hw 248 rfl) (by decide) (c_nbf l Z a0 hw h (1 : Int32) (2 : Int32) (by decide) (by decide) (by decide) (by decide) (by decide)) pd_11 d49_1 rfl ?_
  rintro _ h1 ⟨d_1, ky_1, rfl, K1, ge_d_1, sz_d_1, F1_0, F1_1⟩
  show Go _ _ _ _ _ _ _ _ _ _ _ _ 4 _ [(.ref d_1)]
  have V3 : AB Z h1 d_1 ky_1 (2 : Int32) [(.int 0), (.int 0)] (.int 0) := Arv.pad F1_0 (pad_rep [] (.int 0) 2)
  refine Go.astoreN (pc' := 5) (Ls' := #[.val (.ref t), .val (.int 0), .val (.int 1), .val (.ref d_1), .unset]) d49_4 rfl rfl rfl ?_
  refine Go.iconst (pc' := 6) (v := 0) d49_5 rfl rfl ?_
  refine Go.istore (pc' := 8) (Ls' := #[.val (.ref t), .val (.int 0), .val (.int 1), .val (.ref d_1), .val (.int 0)]) d49_6 rfl rfl ?_
  refine Go.iload (pc' := 10) d49_8 rfl rfl ?_
  refine Go.iloadN (pc' := 11) d49_10 rfl rfl ?_
  refine Go.icmpNo (pc' := 14) d49_11 (XT.ii_ge_f (by decide)) rfl ?_
  refine Go.aloadN (pc' := 15) d49_14 rfl rfl rfl ?_
  refine Go.iload (pc' := 17) d49_15 rfl rfl ?_
  refine Go.aloadN (pc' := 18) d49_17 rfl rfl rfl ?_
  refine Go.iloadN (pc' := 19) d49_18 rfl rfl ?_
  refine Go.caload (pc' := 20) (v := k0) (vt.keep K1 nin0) d49_19 (by decide) (by decide) rfl rfl ?_
  refine Go.callS (cells' := 1) (slots' := 16) (pc' := 23) [(.ref d_1), (.int 0), (.int k0)] [] (ww hw 253 rfl) (ww hw 254 rfl) (ww hw 128 rfl) (ww hw 255 rfl) (by decide) (c_putChar l Z a0 hw h1 d_1 ky_1 (2 : Int32) ([(.int 0), (.int 0)]) (0 : Int32) (0 : Int32) (1 : Int32) k0 (by decide) (by decide) (by decide) (by decide) (by decide) (by decide) (nl rfl) (nl rfl) sad shi slo ge_d_1 V3) pd_6 d49_20 rfl ?_
  rintro _ h4 ⟨rfl, K4, F4_0⟩
  have K5 := K1.trans K4 (allS (Or.inr sz_d_1) all0)
  have VL6 : AB Z h4 d_1 ky_1 (2 : Int32) [(loB k0), (hiB k0)] (.int 0) := F4_0
  show Go _ _ _ _ _ _ _ _ _ _ _ _ 23 _ []
  refine Go.iinc (pc' := 26) (Ls' := #[.val (.ref t), .val (.int ((0 : Int32) + (1 : Int32))), .val (.int 1), .val (.ref d_1), .val (.int 0)]) (w := (1 : Int32)) d49_23 rfl rfl rfl rfl ?_
  show Go _ _ _ _ _ _ _ _ _ _ _ _ 26 #[.val (.ref t), .val (.int 1), .val (.int 1), .val (.ref d_1), .val (.int 0)] []
  refine Go.iinc (pc' := 29) (Ls' := #[.val (.ref t), .val (.int 1), .val (.int 1), .val (.ref d_1), .val (.int ((0 : Int32) + (1 : Int32)))]) (w := (1 : Int32)) d49_26 rfl rfl rfl rfl ?_
  show Go _ _ _ _ _ _ _ _ _ _ _ _ 29 #[.val (.ref t), .val (.int 1), .val (.int 1), .val (.ref d_1), .val (.int 1)] []
  refine Go.goto (pc' := 8) d49_29 (by decide) (by decide) ?_
  refine Go.iload (pc' := 10) d49_8 rfl rfl ?_
  refine Go.iloadN (pc' := 11) d49_10 rfl rfl ?_
  refine Go.icmpYes (pc' := 32) d49_11 (XT.ii_ge_t (by decide)) (by decide) (by decide) ?_
  refine Go.aloadN (pc' := 33) d49_32 rfl rfl rfl ?_
  exact Go.retR rfl rfl rfl rfl d49_33 ⟨d_1, ky_1, rfl, K5, ge_d_1, sz_d_1, VL6, (F1_1.keep K4)⟩
theorem c_cmp1_0 (hw : HW a0 Z) (h : Heap) (t : Addr) (kt : ClassId) (k0 : Int32) (hk0 : (255 : Int32) < k0) (hn0 : nar .char k0 = k0) (sad : Zad Z (.int 1)) (shi : Zhi Z (.int 0)) (slo : Zlo Z (.int 8)) (vt : Arv Z h t kt .char (1 : Int32) [(.int k0)] (.int 0)) :
    Con l M_54 q22 6 (some (.array .byte)) (rm4 3 2 17 40) Z n0 #[(.ref t), (.int 0), (.int 1)] h (fun v h' => ∃ d : Addr, ∃ ky : ClassId, v = some (.ref d) ∧ Keep h h' [] ∧ n0 ≤ d ∧ h.size ≤ d ∧ AB Z h' d ky (2 : Int32) [(loB k0), (hiB k0)] (.int 0) ∧ EA Z h' d) := by
  refine Con.of_go (plainFor_of_name pn_2) (Ls := #[.val (.ref t), .val (.int 0), .val (.int 1), .unset, .unset, .unset]) ?_
  refine Go.iloadN (pc' := 1) d22_0 rfl rfl ?_
  refine Go.newarray (pc' := 3) (cells' := 1) (slots' := 1) (cap := 1) (ww hw 21 rfl) d22_1 (ad := "[B") (by decide) (by decide) (by decide) rfl rfl (by decide) (by decide) (by decide) rfl ?_
  intro h1 b1 g1 E1 ge1 kA1 A1 X1
  have K2 := (Keep.refl h []).ext E1
  have V1 : AB Z h1 b1 kA1 (1 : Int32) [(.int 0)] (.int 0) := Arv.pad A1 (pad_rep [] (.int 0) 1)
  refine Go.astoreN (pc' := 4) (Ls' := #[.val (.ref t), .val (.int 0), .val (.int 1), .val (.ref b1), .unset, .unset]) d22_3 rfl rfl rfl ?_
  refine Go.aloadN (pc' := 5) d22_4 rfl rfl rfl ?_
  refine Go.iloadN (pc' := 6) d22_5 rfl rfl ?_
  refine Go.aloadN (pc' := 7) d22_6 rfl rfl rfl ?_
  refine Go.iconst (pc' := 8) (v := 0) d22_7 rfl rfl ?_
  refine Go.iloadN (pc' := 9) d22_8 rfl rfl ?_
  have ne3 := (Nat.ne_of_lt (Nat.lt_of_lt_of_le vt.lt (Nat.le_of_eq g1.symm)))
  refine Go.callS (cells' := 1) (slots' := 1) (pc' := 12) [(.ref t), (.int 0), (.ref b1), (.int 0), (.int 1)] [] (ww hw 130 rfl) (ww hw 131 rfl) (ww hw 128 rfl) (ww hw 132 rfl) (by decide) (c_cmpU0 l Z a0 hw h1 t kt ([(.int k0)]) b1 kA1 ([(.int 0)]) (1 : Int32) k0 hk0 (by decide) rfl ge1 ne3 (vt.ext E1) V1) pd_32 d22_9 rfl ?_
  rintro _ h4 ⟨rfl, K4⟩
  have K5 := K2.trans K4 (allS (Or.inr (Nat.le_of_eq g1.symm)) all0)
  show Go _ _ _ _ _ _ _ _ _ _ _ _ 12 _ [(.int 0)]
  refine Go.istore (pc' := 14) (Ls' := #[.val (.ref t), .val (.int 0), .val (.int 1), .val (.ref b1), .val (.int 0), .unset]) d22_12 rfl rfl ?_
  refine Go.iload (pc' := 16) d22_14 rfl rfl ?_
  refine Go.iloadN (pc' := 17) d22_16 rfl rfl ?_
  refine Go.icmpNo (pc' := 20) d22_17 (XT.ii_eq_f (by decide)) rfl ?_
  refine Go.aloadN (pc' := 21) d22_20 rfl rfl rfl ?_
  refine Go.iloadN (pc' := 22) d22_21 rfl rfl ?_
  refine Go.iloadN (pc' := 23) d22_22 rfl rfl ?_
  refine Go.callS (cells' := 2) (slots' := 17) (pc' := 26) [(.ref t), (.int 0), (.int 1)] [] (ww hw 243 rfl) (ww hw 244 rfl) (ww hw 128 rfl) (ww hw 245 rfl) (by decide) (c_toB1 l Z a0 hw h4 t kt k0 sad shi slo (((vt.ext E1).keep K4 (ninS ne3 nin0)))) pd_33 d22_23 rfl ?_
  rintro _ h6 ⟨d_6, ky_6, rfl, K6, ge_d_6, sz_d_6, F6_0, F6_1⟩
  have sz7 : h.size ≤ d_6 := Nat.le_trans K5.1 sz_d_6
  have K8 := K5.trans K6 all0
  show Go _ _ _ _ _ _ _ _ _ _ _ _ 26 _ [(.ref d_6)]
  refine Go.astore (pc' := 28) (Ls' := #[.val (.ref t), .val (.int 0), .val (.int 1), .val (.ref b1), .val (.int 0), .val (.ref d_6)]) d22_26 rfl rfl rfl ?_
  refine Go.aload (pc' := 30) d22_28 rfl rfl rfl ?_
  refine Go.iload (pc' := 32) d22_30 rfl rfl ?_
  refine Go.callS (cells' := 2) (slots' := 17) (pc' := 35) [(.ref d_6), (.int 0)] [] (ww hw 259 rfl) (ww hw 260 rfl) (ww hw 128 rfl) (ww hw 261 rfl) (by decide) (c_getChar l Z a0 hw h6 d_6 ky_6 (2 : Int32) ([(loB k0), (hiB k0)]) (0 : Int32) (0 : Int32) (1 : Int32) k0 (by decide) (by decide) (by decide) (by decide) (by decide) (by decide) rfl rfl hn0 sad shi slo F6_0) pd_28 d22_32 rfl ?_
  rintro _ _ ⟨rfl, rfl⟩
  show Go _ _ _ _ _ _ _ _ _ _ _ _ 35 _ [(.int k0)]
  refine Go.sipush (pc' := 38) (v := 255) d22_35 rfl rfl ?_
  refine Go.icmpYes (pc' := 54) d22_38 (XT.ii_gt_t hk0) (by decide) (by decide) ?_
  refine Go.aload (pc' := 56) d22_54 rfl rfl rfl ?_
  exact Go.retR rfl rfl rfl rfl d22_56 ⟨d_6, ky_6, rfl, K8, ge_d_6, sz7, F6_0, F6_1⟩
theorem c_cmp1_1 (hw : HW a0 Z) (h : Heap) (t : Addr) (kt : ClassId) (k0 : Int32) (hk0 : ¬ ((255 : Int32) < k0)) (vt : Arv Z h t kt .char (1 : Int32) [(.int k0)] (.int 0)) :
    Con l M_54 q22 6 (some (.array .byte)) (rm4 3 2 17 40) Z n0 #[(.ref t), (.int 0), (.int 1)] h (fun v h' => ∃ d : Addr, ∃ ky : ClassId, v = some (.ref d) ∧ Keep h h' [] ∧ n0 ≤ d ∧ h.size ≤ d ∧ AB Z h' d ky (1 : Int32) [(by8 k0)] (.int 0) ∧ EA Z h' d) := by
  refine Con.of_go (plainFor_of_name pn_2) (Ls := #[.val (.ref t), .val (.int 0), .val (.int 1), .unset, .unset, .unset]) ?_
  refine Go.iloadN (pc' := 1) d22_0 rfl rfl ?_
  refine Go.newarray (pc' := 3) (cells' := 1) (slots' := 1) (cap := 1) (ww hw 21 rfl) d22_1 (ad := "[B") (by decide) (by decide) (by decide) rfl rfl (by decide) (by decide) (by decide) rfl ?_
  intro h1 b1 g1 E1 ge1 kA1 A1 X1
  have K2 := (Keep.refl h []).ext E1
  have V1 : AB Z h1 b1 kA1 (1 : Int32) [(.int 0)] (.int 0) := Arv.pad A1 (pad_rep [] (.int 0) 1)
  refine Go.astoreN (pc' := 4) (Ls' := #[.val (.ref t), .val (.int 0), .val (.int 1), .val (.ref b1), .unset, .unset]) d22_3 rfl rfl rfl ?_
  refine Go.aloadN (pc' := 5) d22_4 rfl rfl rfl ?_
  refine Go.iloadN (pc' := 6) d22_5 rfl rfl ?_
  refine Go.aloadN (pc' := 7) d22_6 rfl rfl rfl ?_
  refine Go.iconst (pc' := 8) (v := 0) d22_7 rfl rfl ?_
  refine Go.iloadN (pc' := 9) d22_8 rfl rfl ?_
  have ne3 := (Nat.ne_of_lt (Nat.lt_of_lt_of_le vt.lt (Nat.le_of_eq g1.symm)))
  refine Go.callS (cells' := 1) (slots' := 1) (pc' := 12) [(.ref t), (.int 0), (.ref b1), (.int 0), (.int 1)] [] (ww hw 130 rfl) (ww hw 131 rfl) (ww hw 128 rfl) (ww hw 132 rfl) (by decide) (c_cmpL1 l Z a0 hw h1 t kt b1 kA1 k0 hk0 ge1 ne3 (vt.ext E1) V1) pd_32 d22_9 rfl ?_
  rintro _ h4 ⟨rfl, K4, F4_0⟩
  have K5 := K2.trans K4 (allS (Or.inr (Nat.le_of_eq g1.symm)) all0)
  show Go _ _ _ _ _ _ _ _ _ _ _ _ 12 _ [(.int 1)]
  refine Go.istore (pc' := 14) (Ls' := #[.val (.ref t), .val (.int 0), .val (.int 1), .val (.ref b1), .val (.int 1), .unset]) d22_12 rfl rfl ?_
  refine Go.iload (pc' := 16) d22_14 rfl rfl ?_
  refine Go.iloadN (pc' := 17) d22_16 rfl rfl ?_
  refine Go.icmpYes (pc' := 57) d22_17 (XT.ii_eq_t (by decide)) (by decide) (by decide) ?_
  refine Go.aloadN (pc' := 58) d22_57 rfl rfl rfl ?_
  exact Go.retR rfl rfl rfl rfl d22_58 ⟨b1, kA1, rfl, K5, ge1, (Nat.le_of_eq g1.symm), F4_0, (X1.keep K4)⟩
theorem c_jcmp1 (hw : HW a0 Z) (h : Heap) (t : Addr) (kt : ClassId) (k0 : Int32) (hn0 : nar .char k0 = k0) (sad : Zad Z (.int 1)) (shi : Zhi Z (.int 0)) (slo : Zlo Z (.int 8)) (vt : Arv Z h t kt .char (1 : Int32) [(.int k0)] (.int 0)) :
    Con l M_54 q22 6 (some (.array .byte)) (rm4 3 2 17 40) Z n0 #[(.ref t), (.int 0), (.int 1)] h (fun v h' => ∃ d : Addr, ∃ ky : ClassId, ∃ cd : Nat, v = some (.ref d) ∧ Keep h h' [] ∧ n0 ≤ d ∧ h.size ≤ d ∧ Arv Z h' d ky .byte (Int32.ofNat (encS cd [k0]).length) (encS cd [k0]) (.int 0) ∧ EA Z h' d ∧ (cd = 0 ∨ cd = 1) ∧ (cd = 0 → ∀ e ∈ [k0], ¬ (255 : Int32) < e)) := by
  by_cases hk0 : (255 : Int32) < k0
  · exact (c_cmp1_0 l Z a0 hw h t kt k0 hk0 hn0 sad shi slo vt).mono (fun v h' q => by
      obtain ⟨d, ky, q1, q2, q3, q4, q5, q6⟩ := q
      exact ⟨d, ky, 1, q1, q2, q3, q4, q5, q6, Or.inr rfl, (fun q => absurd q (by decide))⟩)
  · skip
    exact (c_cmp1_1 l Z a0 hw h t kt k0 hk0 vt).mono (fun v h' q => by
        obtain ⟨d, ky, q1, q2, q3, q4, q5, q6⟩ := q
        exact ⟨d, ky, 0, q1, q2, q3, q4, q5, q6, Or.inl rfl, (fun _ e he => by simp only [List.mem_cons, List.not_mem_nil, or_false] at he; rcases he with rfl <;> assumption)⟩)
theorem c_cf1_0 (hw : HW a0 Z) (h : Heap) (b : Addr) (kb : ClassId) (vs : List Value) (v : AB Z h b kb (1 : Int32) vs (.int 0)) :
    Con l M_55 q24 2 (some .byte) (rm4 0 0 0 0) Z n0 #[(.ref b), (.int 1)] h (fun v h' => v = some (.int 0) ∧ h = h') := by
  refine Con.of_go (plainFor_of_name pn_2) (Ls := #[.val (.ref b), .val (.int 1)]) ?_
  refine Go.iloadN (pc' := 1) d24_0 rfl rfl ?_
  refine Go.aloadN (pc' := 2) d24_1 rfl rfl rfl ?_
  refine Go.arraylength (pc' := 3) v d24_2 rfl ?_
  refine Go.isub (pc' := 4) d24_3 rfl ?_
  show Go _ _ _ _ _ _ _ _ _ _ _ _ 4 _ [(.int 0)]
  refine Go.bipush (pc' := 6) (v := 31) d24_4 rfl rfl ?_
  refine Go.iushr (pc' := 7) d24_6 rfl ?_
  show Go _ _ _ _ _ _ _ _ _ _ _ _ 7 _ [(.int 0)]
  refine Go.i2b (pc' := 8) d24_7 rfl ?_
  show Go _ _ _ _ _ _ _ _ _ _ _ _ 8 #[.val (.ref b), .val (.int 1)] [(.int 0)]
  exact Go.retN (t := .byte) rfl (by simp) d24_8 ⟨rfl, rfl⟩
theorem c_cf1_1 (hw : HW a0 Z) (h : Heap) (b : Addr) (kb : ClassId) (vs : List Value) (v : AB Z h b kb (2 : Int32) vs (.int 0)) :
    Con l M_55 q24 2 (some .byte) (rm4 0 0 0 0) Z n0 #[(.ref b), (.int 1)] h (fun v h' => v = some (.int 1) ∧ h = h') := by
  refine Con.of_go (plainFor_of_name pn_2) (Ls := #[.val (.ref b), .val (.int 1)]) ?_
  refine Go.iloadN (pc' := 1) d24_0 rfl rfl ?_
  refine Go.aloadN (pc' := 2) d24_1 rfl rfl rfl ?_
  refine Go.arraylength (pc' := 3) v d24_2 rfl ?_
  refine Go.isub (pc' := 4) d24_3 rfl ?_
  show Go _ _ _ _ _ _ _ _ _ _ _ _ 4 _ [(.int (-1 : Int32))]
  refine Go.bipush (pc' := 6) (v := 31) d24_4 rfl rfl ?_
  refine Go.iushr (pc' := 7) d24_6 rfl ?_
  show Go _ _ _ _ _ _ _ _ _ _ _ _ 7 _ [(.int 1)]
  refine Go.i2b (pc' := 8) d24_7 rfl ?_
  show Go _ _ _ _ _ _ _ _ _ _ _ _ 8 #[.val (.ref b), .val (.int 1)] [(.int 1)]
  exact Go.retN (t := .byte) rfl (by simp) d24_8 ⟨rfl, rfl⟩
theorem c_ini4_1 (hw : HW a0 Z) (h : Heap) (a t : Addr) (kt : ClassId) (k0 cp : Int32) (hcp : ¬ (cp = (0 : Int32))) (hn0 : nar .char k0 = k0) (scp : Zcp Z (.int cp)) (sad : Zad Z (.int 1)) (shi : Zhi Z (.int 0)) (slo : Zlo Z (.int 8)) (ge_a : n0 ≤ a) (xa : ES Z h a) (pf0 : GV Z h a .null) (pf1 : GK Z h a (.int 0)) (vt : Arv Z h t kt .char (1 : Int32) [(.int k0)] (.int 0)) :
    Con l M_56 q3 6 none (rm4 4 2 17 57) Z n0 #[(.ref a), (.ref t), (.int 0), (.int 1), .null] h (fun v h' => ∃ d : Addr, v = none ∧ Keep h h' [a] ∧ n0 ≤ d ∧ h.size ≤ d ∧ StrC Z h' a d ([k0])) := by
  refine Con.of_go (plainFor_of_name pn_0) (Ls := #[.val (.ref a), .val (.ref t), .val (.int 0), .val (.int 1), .val .null, .unset]) ?_
  refine Go.aloadN (pc' := 1) d3_0 rfl rfl rfl ?_
  refine Go.initO (pc' := 4) (ww hw 17 rfl) (ww hw 18 rfl) (ww hw 19 rfl) d3_1 rfl (nl rfl) (nl rfl) rfl ?_
  refine Go.iloadN (pc' := 5) d3_4 rfl rfl ?_
  refine Go.ifYes (pc' := 27) d3_5 (XT.i0_ne_t (by decide)) (by decide) (by decide) ?_
  refine Go.old (fun old1 => ?_)
  refine Go.getstatic (pc' := 30) (host := "") (Or.inl (ww hw 45 rfl)) Via.refl (scp.ext old1.2) d3_27 rfl ?_
  refine Go.ifNo (pc' := 33) d3_30 (XT.i0_eq_f hcp) rfl ?_
  refine Go.aloadN (pc' := 34) d3_33 rfl rfl rfl ?_
  refine Go.iloadN (pc' := 35) d3_34 rfl rfl ?_
  refine Go.iloadN (pc' := 36) d3_35 rfl rfl ?_
  refine Go.callS (cells' := 2) (slots' := 17) (pc' := 39) [(.ref t), (.int 0), (.int 1)] [] (ww hw 126 rfl) (ww hw 127 rfl) (ww hw 128 rfl) (ww hw 129 rfl) (by decide) (c_jcmp1 l Z a0 hw h t kt k0 hn0 sad shi slo vt) pd_33 d3_36 rfl ?_
  rintro _ h2 ⟨d_2, ky_2, cd_2, rfl, K2, ge_d_2, sz_d_2, F2_0, F2_1, P2_0, P2_1⟩
  have K3 := (Keep.refl h [a]).trans K2 all0
  show Go _ _ _ _ _ _ _ _ _ _ _ _ 39 _ [(.ref d_2)]
  rcases P2_0 with rfl | rfl
  ·
    have V4 : AB Z h2 d_2 ky_2 (1 : Int32) [(by8 k0)] (.int 0) := F2_0
    refine Go.astore (pc' := 41) (Ls' := #[.val (.ref a), .val (.ref t), .val (.int 0), .val (.int 1), .val .null, .val (.ref d_2)]) d3_39 rfl rfl rfl ?_
    refine Go.aloadN (pc' := 42) d3_41 rfl rfl rfl ?_
    refine Go.aload (pc' := 44) d3_42 rfl rfl rfl ?_
    refine Go.iloadN (pc' := 45) d3_44 rfl rfl ?_
    refine Go.callS (cells' := 2) (slots' := 17) (pc' := 48) [(.ref d_2), (.int 1)] [(.ref a)] (ww hw 133 rfl) (ww hw 134 rfl) (ww hw 128 rfl) (ww hw 135 rfl) (by decide) (c_cf1_0 l Z a0 hw h2 d_2 ky_2 ([(by8 k0)]) V4) pd_34 d3_45 rfl ?_
    rintro _ _ ⟨rfl, rfl⟩
    show Go _ _ _ _ _ _ _ _ _ _ _ _ 48 _ [(.int 0), (.ref a)]
    refine Go.putfieldN (pc' := 51) (ww hw 27 rfl) Via.refl (pf1.keep K2 nin0) (xa.keep K2) (Or.inr ⟨(ww hw 23 rfl), rfl, rfl⟩) (ww hw 7 rfl) (ty := .byte) (v' := (0 : Int32)) (by decide) (by first | rfl | decide) (by first | rfl | decide | exact fits_nar_byte _) ge_a d3_48 rfl ?_
    intro h6 W7
    have K8 := K3.wr W7 (Or.inl (List.mem_of_getElem? (i := 0) rfl))
    have f9 := (pf1.keep K2 nin0).same W7
    refine Go.aloadN (pc' := 52) d3_51 rfl rfl rfl ?_
    refine Go.aload (pc' := 54) d3_52 rfl rfl rfl ?_
    have f10 := ((pf0.keep K2 nin0).other W7 (Or.inr (sn_9 hw)))
    refine Go.putfield (pc' := 57) (host := "") (Or.inl (ww hw 26 rfl)) Via.refl f10 ((xa.keep K2).wr W7) (Or.inr ⟨(ww hw 22 rfl), rfl, rfl⟩) (ww hw 7 rfl) (ty := (.array .byte)) (by decide) rfl rfl ge_a d3_54 rfl ?_
    intro h11 W12
    have K13 := K8.wr W12 (Or.inl (List.mem_of_getElem? (i := 0) rfl))
    have f14 := f10.same W12
    have ne15 := (Nat.ne_of_lt (Nat.lt_of_lt_of_le pf0.lt sz_d_2))
    have f16 := ((V4.other W7 (Ne.symm ne15)).other W12 (Ne.symm ne15))
    exact Go.retV rfl d3_57 ⟨d_2, rfl, K13, ge_d_2, sz_d_2, ky_2, 0, Or.inl rfl, (f9.other W12 (Or.inr (sn_10 hw))), f14, f16, ((F2_1.wr W7).wr W12), P2_1, (fun e he => by simp only [List.mem_cons, List.not_mem_nil, or_false] at he; rcases he with rfl <;> assumption), (nl rfl)⟩
  ·
    have V17 : AB Z h2 d_2 ky_2 (2 : Int32) [(loB k0), (hiB k0)] (.int 0) := F2_0
    refine Go.astore (pc' := 41) (Ls' := #[.val (.ref a), .val (.ref t), .val (.int 0), .val (.int 1), .val .null, .val (.ref d_2)]) d3_39 rfl rfl rfl ?_
    refine Go.aloadN (pc' := 42) d3_41 rfl rfl rfl ?_
    refine Go.aload (pc' := 44) d3_42 rfl rfl rfl ?_
    refine Go.iloadN (pc' := 45) d3_44 rfl rfl ?_
    refine Go.callS (cells' := 2) (slots' := 17) (pc' := 48) [(.ref d_2), (.int 1)] [(.ref a)] (ww hw 133 rfl) (ww hw 134 rfl) (ww hw 128 rfl) (ww hw 135 rfl) (by decide) (c_cf1_1 l Z a0 hw h2 d_2 ky_2 ([(loB k0), (hiB k0)]) V17) pd_34 d3_45 rfl ?_
    rintro _ _ ⟨rfl, rfl⟩
    show Go _ _ _ _ _ _ _ _ _ _ _ _ 48 _ [(.int 1), (.ref a)]
    refine Go.putfieldN (pc' := 51) (ww hw 27 rfl) Via.refl (pf1.keep K2 nin0) (xa.keep K2) (Or.inr ⟨(ww hw 23 rfl), rfl, rfl⟩) (ww hw 7 rfl) (ty := .byte) (v' := (1 : Int32)) (by decide) (by first | rfl | decide) (by first | rfl | decide | exact fits_nar_byte _) ge_a d3_48 rfl ?_
    intro h19 W20
    have K21 := K3.wr W20 (Or.inl (List.mem_of_getElem? (i := 0) rfl))
    have f22 := (pf1.keep K2 nin0).same W20
    refine Go.aloadN (pc' := 52) d3_51 rfl rfl rfl ?_
    refine Go.aload (pc' := 54) d3_52 rfl rfl rfl ?_
    have f23 := ((pf0.keep K2 nin0).other W20 (Or.inr (sn_9 hw)))
    refine Go.putfield (pc' := 57) (host := "") (Or.inl (ww hw 26 rfl)) Via.refl f23 ((xa.keep K2).wr W20) (Or.inr ⟨(ww hw 22 rfl), rfl, rfl⟩) (ww hw 7 rfl) (ty := (.array .byte)) (by decide) rfl rfl ge_a d3_54 rfl ?_
    intro h24 W25
    have K26 := K21.wr W25 (Or.inl (List.mem_of_getElem? (i := 0) rfl))
    have f27 := f23.same W25
    have ne28 := (Nat.ne_of_lt (Nat.lt_of_lt_of_le pf0.lt sz_d_2))
    have f29 := ((V17.other W20 (Ne.symm ne28)).other W25 (Ne.symm ne28))
    exact Go.retV rfl d3_57 ⟨d_2, rfl, K26, ge_d_2, sz_d_2, ky_2, 1, Or.inr rfl, (f22.other W25 (Or.inr (sn_10 hw))), f27, f29, ((F2_1.wr W20).wr W25), (fun q => absurd q (by decide)), (fun e he => by simp only [List.mem_cons, List.not_mem_nil, or_false] at he; rcases he with rfl <;> assumption), (nl rfl)⟩
theorem c_ini1 (hw : HW a0 Z) (h : Heap) (a t : Addr) (kt : ClassId) (k0 cp : Int32) (hcp : ¬ (cp = (0 : Int32))) (hn0 : nar .char k0 = k0) (scp : Zcp Z (.int cp)) (sad : Zad Z (.int 1)) (shi : Zhi Z (.int 0)) (slo : Zlo Z (.int 8)) (ge_a : n0 ≤ a) (xa : ES Z h a) (pf0 : GV Z h a .null) (pf1 : GK Z h a (.int 0)) (vt : Arv Z h t kt .char (1 : Int32) [(.int k0)] (.int 0)) :
    Con l M_57 q2 2 none (rm4 5 2 17 74) Z n0 #[(.ref a), (.ref t)] h (fun v h' => ∃ d : Addr, v = none ∧ Keep h h' [a] ∧ n0 ≤ d ∧ h.size ≤ d ∧ StrC Z h' a d ([k0])) := by
  refine Con.of_go (plainFor_of_name pn_0) (Ls := #[.val (.ref a), .val (.ref t)]) ?_
  refine Go.aloadN (pc' := 1) d2_0 rfl rfl rfl ?_
  refine Go.aloadN (pc' := 2) d2_1 rfl rfl rfl ?_
  refine Go.iconst (pc' := 3) (v := 0) d2_2 rfl rfl ?_
  refine Go.aloadN (pc' := 4) d2_3 rfl rfl rfl ?_
  refine Go.arraylength (pc' := 5) vt d2_4 rfl ?_
  refine Go.aconstNull (pc' := 6) d2_5 rfl ?_
  refine Go.callC (cells' := 2) (slots' := 17) (pc' := 9) [(.ref t), (.int 0), (.int 1), .null] [] (a := a) rfl rfl (ww hw 13 rfl) (ww hw 14 rfl) (ww hw 8 rfl) (ww hw 16 rfl) (by decide) (c_ini4_1 l Z a0 hw h a t kt k0 cp hcp hn0 scp sad shi slo ge_a xa pf0 pf1 vt) pd_35 d2_6 rfl ?_
  rintro _ h1 ⟨d_1, rfl, K1, ge_d_1, sz_d_1, F1_0⟩
  show Go _ _ _ _ _ _ _ _ _ _ _ _ 9 _ []
  exact Go.retV rfl d2_9 ⟨d_1, rfl, K1, ge_d_1, sz_d_1, F1_0⟩
theorem c_cmpL2 (hw : HW a0 Z) (h : Heap) (t : Addr) (kt : ClassId) (b : Addr) (kb : ClassId) (k0 k1 : Int32) (hk0 : ¬ ((255 : Int32) < k0)) (hk1 : ¬ ((255 : Int32) < k1)) (ge_b : n0 ≤ b) (ne_t_b : t ≠ b) (vt : Arv Z h t kt .char (2 : Int32) [(.int k0), (.int k1)] (.int 0)) (vb : AB Z h b kb (2 : Int32) [(.int 0), (.int 0)] (.int 0)) :
    Con l M_52 q23 7 (some .int) (rm4 0 0 0 0) Z n0 #[(.ref t), (.int 0), (.ref b), (.int 0), (.int 2)] h (fun v h' => v = some (.int 2) ∧ Keep h h' [b] ∧ AB Z h' b kb (2 : Int32) [(by8 k0), (by8 k1)] (.int 0)) := by
  refine Con.of_go (plainFor_of_name pn_2) (Ls := #[.val (.ref t), .val (.int 0), .val (.ref b), .val (.int 0), .val (.int 2), .unset, .unset]) ?_
  refine Go.iconst (pc' := 1) (v := 0) d23_0 rfl rfl ?_
  refine Go.istore (pc' := 3) (Ls' := #[.val (.ref t), .val (.int 0), .val (.ref b), .val (.int 0), .val (.int 2), .val (.int 0), .unset]) d23_1 rfl rfl ?_
  refine Go.iload (pc' := 5) d23_3 rfl rfl ?_
  refine Go.iload (pc' := 7) d23_5 rfl rfl ?_
  refine Go.icmpNo (pc' := 10) d23_7 (XT.ii_ge_f (by decide)) rfl ?_
  refine Go.aloadN (pc' := 11) d23_10 rfl rfl rfl ?_
  refine Go.iloadN (pc' := 12) d23_11 rfl rfl ?_
  refine Go.caload (pc' := 13) (v := k0) vt d23_12 (by decide) (by decide) rfl rfl ?_
  refine Go.istore (pc' := 15) (Ls' := #[.val (.ref t), .val (.int 0), .val (.ref b), .val (.int 0), .val (.int 2), .val (.int 0), .val (.int k0)]) d23_13 rfl rfl ?_
  refine Go.iload (pc' := 17) d23_15 rfl rfl ?_
  refine Go.sipush (pc' := 20) (v := 255) d23_17 rfl rfl ?_
  refine Go.icmpYes (pc' := 26) d23_20 (XT.ii_le_t hk0) (by decide) (by decide) ?_
  refine Go.aloadN (pc' := 27) d23_26 rfl rfl rfl ?_
  refine Go.iloadN (pc' := 28) d23_27 rfl rfl ?_
  refine Go.iload (pc' := 30) d23_28 rfl rfl ?_
  refine Go.i2b (pc' := 31) d23_30 rfl ?_
  refine Go.bastore (pc' := 32) vb ge_b d23_31 (by decide) (by decide) (i := 0) rfl (nl rfl) rfl ?_
  intro h1 W2 V3
  have K4 := (Keep.refl h [b]).wr W2 (Or.inl (List.mem_of_getElem? (i := 0) rfl))
  rw [OwnNum.b8] at V3
  replace V3 : AB Z h1 b kb (2 : Int32) [(by8 k0), (.int 0)] (.int 0) := V3
  refine Go.iinc (pc' := 35) (Ls' := #[.val (.ref t), .val (.int ((0 : Int32) + (1 : Int32))), .val (.ref b), .val (.int 0), .val (.int 2), .val (.int 0), .val (.int k0)]) (w := (1 : Int32)) d23_32 rfl rfl rfl rfl ?_
  show Go _ _ _ _ _ _ _ _ _ _ _ _ 35 #[.val (.ref t), .val (.int 1), .val (.ref b), .val (.int 0), .val (.int 2), .val (.int 0), .val (.int k0)] []
  refine Go.iinc (pc' := 38) (Ls' := #[.val (.ref t), .val (.int 1), .val (.ref b), .val (.int ((0 : Int32) + (1 : Int32))), .val (.int 2), .val (.int 0), .val (.int k0)]) (w := (1 : Int32)) d23_35 rfl rfl rfl rfl ?_
  show Go _ _ _ _ _ _ _ _ _ _ _ _ 38 #[.val (.ref t), .val (.int 1), .val (.ref b), .val (.int 1), .val (.int 2), .val (.int 0), .val (.int k0)] []
  refine Go.iinc (pc' := 41) (Ls' := #[.val (.ref t), .val (.int 1), .val (.ref b), .val (.int 1), .val (.int 2), .val (.int ((0 : Int32) + (1 : Int32))), .val (.int k0)]) (w := (1 : Int32)) d23_38 rfl rfl rfl rfl ?_
  show Go _ _ _ _ _ _ _ _ _ _ _ _ 41 #[.val (.ref t), .val (.int 1), .val (.ref b), .val (.int 1), .val (.int 2), .val (.int 1), .val (.int k0)] []
  refine Go.goto (pc' := 3) d23_41 (by decide) (by decide) ?_
  refine Go.iload (pc' := 5) d23_3 rfl rfl ?_
  refine Go.iload (pc' := 7) d23_5 rfl rfl ?_
  refine Go.icmpNo (pc' := 10) d23_7 (XT.ii_ge_f (by decide)) rfl ?_
  refine Go.aloadN (pc' := 11) d23_10 rfl rfl rfl ?_
  refine Go.iloadN (pc' := 12) d23_11 rfl rfl ?_
  refine Go.caload (pc' := 13) (v := k1) (vt.other W2 ne_t_b) d23_12 (by decide) (by decide) rfl rfl ?_
  refine Go.istore (pc' := 15) (Ls' := #[.val (.ref t), .val (.int 1), .val (.ref b), .val (.int 1), .val (.int 2), .val (.int 1), .val (.int k1)]) d23_13 rfl rfl ?_
  refine Go.iload (pc' := 17) d23_15 rfl rfl ?_
  refine Go.sipush (pc' := 20) (v := 255) d23_17 rfl rfl ?_
  refine Go.icmpYes (pc' := 26) d23_20 (XT.ii_le_t hk1) (by decide) (by decide) ?_
  refine Go.aloadN (pc' := 27) d23_26 rfl rfl rfl ?_
  refine Go.iloadN (pc' := 28) d23_27 rfl rfl ?_
  refine Go.iload (pc' := 30) d23_28 rfl rfl ?_
  refine Go.i2b (pc' := 31) d23_30 rfl ?_
  refine Go.bastore (pc' := 32) V3 ge_b d23_31 (by decide) (by decide) (i := 1) rfl (nl rfl) rfl ?_
  intro h5 W6 V7
  have K8 := K4.wr W6 (Or.inl (List.mem_of_getElem? (i := 0) rfl))
  rw [OwnNum.b8] at V7
  replace V7 : AB Z h5 b kb (2 : Int32) [(by8 k0), (by8 k1)] (.int 0) := V7
  refine Go.iinc (pc' := 35) (Ls' := #[.val (.ref t), .val (.int ((1 : Int32) + (1 : Int32))), .val (.ref b), .val (.int 1), .val (.int 2), .val (.int 1), .val (.int k1)]) (w := (1 : Int32)) d23_32 rfl rfl rfl rfl ?_
  show Go _ _ _ _ _ _ _ _ _ _ _ _ 35 #[.val (.ref t), .val (.int 2), .val (.ref b), .val (.int 1), .val (.int 2), .val (.int 1), .val (.int k1)] []
  refine Go.iinc (pc' := 38) (Ls' := #[.val (.ref t), .val (.int 2), .val (.ref b), .val (.int ((1 : Int32) + (1 : Int32))), .val (.int 2), .val (.int 1), .val (.int k1)]) (w := (1 : Int32)) d23_35 rfl rfl rfl rfl ?_
  show Go _ _ _ _ _ _ _ _ _ _ _ _ 38 #[.val (.ref t), .val (.int 2), .val (.ref b), .val (.int 2), .val (.int 2), .val (.int 1), .val (.int k1)] []
  refine Go.iinc (pc' := 41) (Ls' := #[.val (.ref t), .val (.int 2), .val (.ref b), .val (.int 2), .val (.int 2), .val (.int ((1 : Int32) + (1 : Int32))), .val (.int k1)]) (w := (1 : Int32)) d23_38 rfl rfl rfl rfl ?_
  show Go _ _ _ _ _ _ _ _ _ _ _ _ 41 #[.val (.ref t), .val (.int 2), .val (.ref b), .val (.int 2), .val (.int 2), .val (.int 2), .val (.int k1)] []
  refine Go.goto (pc' := 3) d23_41 (by decide) (by decide) ?_
  refine Go.iload (pc' := 5) d23_3 rfl rfl ?_
  refine Go.iload (pc' := 7) d23_5 rfl rfl ?_
  refine Go.icmpYes (pc' := 44) d23_7 (XT.ii_ge_t (by decide)) (by decide) (by decide) ?_
  refine Go.iload (pc' := 46) d23_44 rfl rfl ?_
  exact Go.retI rfl d23_46 ⟨rfl, K8, V7⟩
theorem c_toB2 (hw : HW a0 Z) (h : Heap) (t : Addr) (kt : ClassId) (k0 k1 : Int32) (sad : Zad Z (.int 1)) (shi : Zhi Z (.int 0)) (slo : Zlo Z (.int 8)) (vt : Arv Z h t kt .char (2 : Int32) [(.int k0), (.int k1)] (.int 0)) :
    Con l M_53 q49 5 (some (.array .byte)) (rm4 2 1 16 24) Z n0 #[(.ref t), (.int 0), (.int 2)] h (fun v h' => ∃ d : Addr, ∃ ky : ClassId, v = some (.ref d) ∧ Keep h h' [] ∧ n0 ≤ d ∧ h.size ≤ d ∧ AB Z h' d ky (4 : Int32) [(loB k0), (hiB k0), (loB k1), (hiB k1)] (.int 0) ∧ EA Z h' d) := by
  refine Con.of_go (plainFor_of_name pn_2) (Ls := #[.val (.ref t), .val (.int 0), .val (.int 2), .unset, .unset]) ?_
  refine Go.iloadN (pc' := 1) d49_0 rfl rfl ?_
  refine Go.callS (cells' := 1) (slots' := 16) (pc' := 4) [(.int 2)] [] (ww hw 246 rfl) (ww hw 247 rfl) (ww hw 128 rfl) (ww hw 248 rfl) (by decide) (c_nbf l Z a0 hw h (2 : Int32) (4 : Int32) (by decide) (by decide) (by decide) (by decide) (by decide)) pd_11 d49_1 rfl ?_
  rintro _ h1 ⟨d_1, ky_1, rfl, K1, ge_d_1, sz_d_1, F1_0, F1_1⟩
  show Go _ _ _ _ _ _ _ _ _ _ _ _ 4 _ [(.ref d_1)]
  have V3 : AB Z h1 d_1 ky_1 (4 : Int32) [(.int 0), (.int 0), (.int 0), (.int 0)] (.int 0) := Arv.pad F1_0 (pad_rep [] (.int 0) 4)
  refine Go.astoreN (pc' := 5) (Ls' := #[.val (.ref t), .val (.int 0), .val (.int 2), .val (.ref d_1), .unset]) d49_4 rfl rfl rfl ?_
  refine Go.iconst (pc' := 6) (v := 0) d49_5 rfl rfl ?_
  refine Go.istore (pc' := 8) (Ls' := #[.val (.ref t), .val (.int 0), .val (.int 2), .val (.ref d_1), .val (.int 0)]) d49_6 rfl rfl ?_
  refine Go.iload (pc' := 10) d49_8 rfl rfl ?_
  refine Go.iloadN (pc' := 11) d49_10 rfl rfl ?_
  refine Go.icmpNo (pc' := 14) d49_11 (XT.ii_ge_f (by decide)) rfl ?_
  refine Go.aloadN (pc' := 15) d49_14 rfl rfl rfl ?_
  refine Go.iload (pc' := 17) d49_15 rfl rfl ?_
  refine Go.aloadN (pc' := 18) d49_17 rfl rfl rfl ?_
  refine Go.iloadN (pc' := 19) d49_18 rfl rfl ?_
  refine Go.caload (pc' := 20) (v := k0) (vt.keep K1 nin0) d49_19 (by decide) (by decide) rfl rfl ?_
  refine Go.callS (cells' := 1) (slots' := 16) (pc' := 23) [(.ref d_1), (.int 0), (.int k0)] [] (ww hw 253 rfl) (ww hw 254 rfl) (ww hw 128 rfl) (ww hw 255 rfl) (by decide) (c_putChar l Z a0 hw h1 d_1 ky_1 (4 : Int32) ([(.int 0), (.int 0), (.int 0), (.int 0)]) (0 : Int32) (0 : Int32) (1 : Int32) k0 (by decide) (by decide) (by decide) (by decide) (by decide) (by decide) (nl rfl) (nl rfl) sad shi slo ge_d_1 V3) pd_6 d49_20 rfl ?_
  rintro _ h4 ⟨rfl, K4, F4_0⟩
  have K5 := K1.trans K4 (allS (Or.inr sz_d_1) all0)
  have VL6 : AB Z h4 d_1 ky_1 (4 : Int32) [(loB k0), (hiB k0), (.int 0), (.int 0)] (.int 0) := F4_0
  show Go _ _ _ _ _ _ _ _ _ _ _ _ 23 _ []
  refine Go.iinc (pc' := 26) (Ls' := #[.val (.ref t), .val (.int ((0 : Int32) + (1 : Int32))), .val (.int 2), .val (.ref d_1), .val (.int 0)]) (w := (1 : Int32)) d49_23 rfl rfl rfl rfl ?_
  show Go _ _ _ _ _ _ _ _ _ _ _ _ 26 #[.val (.ref t), .val (.int 1), .val (.int 2), .val (.ref d_1), .val (.int 0)] []
  refine Go.iinc (pc' := 29) (Ls' := #[.val (.ref t), .val (.int 1), .val (.int 2), .val (.ref d_1), .val (.int ((0 : Int32) + (1 : Int32)))]) (w := (1 : Int32)) d49_26 rfl rfl rfl rfl ?_
  show Go _ _ _ _ _ _ _ _ _ _ _ _ 29 #[.val (.ref t), .val (.int 1), .val (.int 2), .val (.ref d_1), .val (.int 1)] []
  refine Go.goto (pc' := 8) d49_29 (by decide) (by decide) ?_
  refine Go.iload (pc' := 10) d49_8 rfl rfl ?_
  refine Go.iloadN (pc' := 11) d49_10 rfl rfl ?_
  refine Go.icmpNo (pc' := 14) d49_11 (XT.ii_ge_f (by decide)) rfl ?_
  refine Go.aloadN (pc' := 15) d49_14 rfl rfl rfl ?_
  refine Go.iload (pc' := 17) d49_15 rfl rfl ?_
  refine Go.aloadN (pc' := 18) d49_17 rfl rfl rfl ?_
  refine Go.iloadN (pc' := 19) d49_18 rfl rfl ?_
  have ne7 := (Nat.ne_of_lt (Nat.lt_of_lt_of_le vt.lt sz_d_1))
  have f8 := ((vt.keep K1 nin0).keep K4 (ninS ne7 nin0))
  refine Go.caload (pc' := 20) (v := k1) f8 d49_19 (by decide) (by decide) rfl rfl ?_
  refine Go.callS (cells' := 1) (slots' := 16) (pc' := 23) [(.ref d_1), (.int 1), (.int k1)] [] (ww hw 253 rfl) (ww hw 254 rfl) (ww hw 128 rfl) (ww hw 255 rfl) (by decide) (c_putChar l Z a0 hw h4 d_1 ky_1 (4 : Int32) ([(loB k0), (hiB k0), (.int 0), (.int 0)]) (1 : Int32) (2 : Int32) (3 : Int32) k1 (by decide) (by decide) (by decide) (by decide) (by decide) (by decide) (nl rfl) (nl rfl) sad shi slo ge_d_1 VL6) pd_6 d49_20 rfl ?_
  rintro _ h9 ⟨rfl, K9, F9_0⟩
  have K10 := K5.trans K9 (allS (Or.inr sz_d_1) all0)
  have VL11 : AB Z h9 d_1 ky_1 (4 : Int32) [(loB k0), (hiB k0), (loB k1), (hiB k1)] (.int 0) := F9_0
  show Go _ _ _ _ _ _ _ _ _ _ _ _ 23 _ []
  refine Go.iinc (pc' := 26) (Ls' := #[.val (.ref t), .val (.int ((1 : Int32) + (1 : Int32))), .val (.int 2), .val (.ref d_1), .val (.int 1)]) (w := (1 : Int32)) d49_23 rfl rfl rfl rfl ?_
  show Go _ _ _ _ _ _ _ _ _ _ _ _ 26 #[.val (.ref t), .val (.int 2), .val (.int 2), .val (.ref d_1), .val (.int 1)] []
  refine Go.iinc (pc' := 29) (Ls' := #[.val (.ref t), .val (.int 2), .val (.int 2), .val (.ref d_1), .val (.int ((1 : Int32) + (1 : Int32)))]) (w := (1 : Int32)) d49_26 rfl rfl rfl rfl ?_
  show Go _ _ _ _ _ _ _ _ _ _ _ _ 29 #[.val (.ref t), .val (.int 2), .val (.int 2), .val (.ref d_1), .val (.int 2)] []
  refine Go.goto (pc' := 8) d49_29 (by decide) (by decide) ?_
  refine Go.iload (pc' := 10) d49_8 rfl rfl ?_
  refine Go.iloadN (pc' := 11) d49_10 rfl rfl ?_
  refine Go.icmpYes (pc' := 32) d49_11 (XT.ii_ge_t (by decide)) (by decide) (by decide) ?_
  refine Go.aloadN (pc' := 33) d49_32 rfl rfl rfl ?_
  exact Go.retR rfl rfl rfl rfl d49_33 ⟨d_1, ky_1, rfl, K10, ge_d_1, sz_d_1, VL11, ((F1_1.keep K4).keep K9)⟩
theorem c_cmp2_0 (hw : HW a0 Z) (h : Heap) (t : Addr) (kt : ClassId) (k0 k1 : Int32) (hk0 : (255 : Int32) < k0) (hn0 : nar .char k0 = k0) (hn1 : nar .char k1 = k1) (sad : Zad Z (.int 1)) (shi : Zhi Z (.int 0)) (slo : Zlo Z (.int 8)) (vt : Arv Z h t kt .char (2 : Int32) [(.int k0), (.int k1)] (.int 0)) :
    Con l M_54 q22 6 (some (.array .byte)) (rm4 3 2 18 40) Z n0 #[(.ref t), (.int 0), (.int 2)] h (fun v h' => ∃ d : Addr, ∃ ky : ClassId, v = some (.ref d) ∧ Keep h h' [] ∧ n0 ≤ d ∧ h.size ≤ d ∧ AB Z h' d ky (4 : Int32) [(loB k0), (hiB k0), (loB k1), (hiB k1)] (.int 0) ∧ EA Z h' d) := by
  refine Con.of_go (plainFor_of_name pn_2) (Ls := #[.val (.ref t), .val (.int 0), .val (.int 2), .unset, .unset, .unset]) ?_
  refine Go.iloadN (pc' := 1) d22_0 rfl rfl ?_
  refine Go.newarray (pc' := 3) (cells' := 1) (slots' := 2) (cap := 2) (ww hw 21 rfl) d22_1 (ad := "[B") (by decide) (by decide) (by decide) rfl rfl (by decide) (by decide) (by decide) rfl ?_
  intro h1 b1 g1 E1 ge1 kA1 A1 X1
  have K2 := (Keep.refl h []).ext E1
  have V1 : AB Z h1 b1 kA1 (2 : Int32) [(.int 0), (.int 0)] (.int 0) := Arv.pad A1 (pad_rep [] (.int 0) 2)
  refine Go.astoreN (pc' := 4) (Ls' := #[.val (.ref t), .val (.int 0), .val (.int 2), .val (.ref b1), .unset, .unset]) d22_3 rfl rfl rfl ?_
  refine Go.aloadN (pc' := 5) d22_4 rfl rfl rfl ?_
  refine Go.iloadN (pc' := 6) d22_5 rfl rfl ?_
  refine Go.aloadN (pc' := 7) d22_6 rfl rfl rfl ?_
  refine Go.iconst (pc' := 8) (v := 0) d22_7 rfl rfl ?_
  refine Go.iloadN (pc' := 9) d22_8 rfl rfl ?_
  have ne3 := (Nat.ne_of_lt (Nat.lt_of_lt_of_le vt.lt (Nat.le_of_eq g1.symm)))
  refine Go.callS (cells' := 1) (slots' := 2) (pc' := 12) [(.ref t), (.int 0), (.ref b1), (.int 0), (.int 2)] [] (ww hw 130 rfl) (ww hw 131 rfl) (ww hw 128 rfl) (ww hw 132 rfl) (by decide) (c_cmpU0 l Z a0 hw h1 t kt ([(.int k0), (.int k1)]) b1 kA1 ([(.int 0), (.int 0)]) (2 : Int32) k0 hk0 (by decide) rfl ge1 ne3 (vt.ext E1) V1) pd_32 d22_9 rfl ?_
  rintro _ h4 ⟨rfl, K4⟩
  have K5 := K2.trans K4 (allS (Or.inr (Nat.le_of_eq g1.symm)) all0)
  show Go _ _ _ _ _ _ _ _ _ _ _ _ 12 _ [(.int 0)]
  refine Go.istore (pc' := 14) (Ls' := #[.val (.ref t), .val (.int 0), .val (.int 2), .val (.ref b1), .val (.int 0), .unset]) d22_12 rfl rfl ?_
  refine Go.iload (pc' := 16) d22_14 rfl rfl ?_
  refine Go.iloadN (pc' := 17) d22_16 rfl rfl ?_
  refine Go.icmpNo (pc' := 20) d22_17 (XT.ii_eq_f (by decide)) rfl ?_
  refine Go.aloadN (pc' := 21) d22_20 rfl rfl rfl ?_
  refine Go.iloadN (pc' := 22) d22_21 rfl rfl ?_
  refine Go.iloadN (pc' := 23) d22_22 rfl rfl ?_
  refine Go.callS (cells' := 2) (slots' := 18) (pc' := 26) [(.ref t), (.int 0), (.int 2)] [] (ww hw 243 rfl) (ww hw 244 rfl) (ww hw 128 rfl) (ww hw 245 rfl) (by decide) (c_toB2 l Z a0 hw h4 t kt k0 k1 sad shi slo (((vt.ext E1).keep K4 (ninS ne3 nin0)))) pd_33 d22_23 rfl ?_
  rintro _ h6 ⟨d_6, ky_6, rfl, K6, ge_d_6, sz_d_6, F6_0, F6_1⟩
  have sz7 : h.size ≤ d_6 := Nat.le_trans K5.1 sz_d_6
  have K8 := K5.trans K6 all0
  show Go _ _ _ _ _ _ _ _ _ _ _ _ 26 _ [(.ref d_6)]
  refine Go.astore (pc' := 28) (Ls' := #[.val (.ref t), .val (.int 0), .val (.int 2), .val (.ref b1), .val (.int 0), .val (.ref d_6)]) d22_26 rfl rfl rfl ?_
  refine Go.aload (pc' := 30) d22_28 rfl rfl rfl ?_
  refine Go.iload (pc' := 32) d22_30 rfl rfl ?_
  refine Go.callS (cells' := 2) (slots' := 18) (pc' := 35) [(.ref d_6), (.int 0)] [] (ww hw 259 rfl) (ww hw 260 rfl) (ww hw 128 rfl) (ww hw 261 rfl) (by decide) (c_getChar l Z a0 hw h6 d_6 ky_6 (4 : Int32) ([(loB k0), (hiB k0), (loB k1), (hiB k1)]) (0 : Int32) (0 : Int32) (1 : Int32) k0 (by decide) (by decide) (by decide) (by decide) (by decide) (by decide) rfl rfl hn0 sad shi slo F6_0) pd_28 d22_32 rfl ?_
  rintro _ _ ⟨rfl, rfl⟩
  show Go _ _ _ _ _ _ _ _ _ _ _ _ 35 _ [(.int k0)]
  refine Go.sipush (pc' := 38) (v := 255) d22_35 rfl rfl ?_
  refine Go.icmpYes (pc' := 54) d22_38 (XT.ii_gt_t hk0) (by decide) (by decide) ?_
  refine Go.aload (pc' := 56) d22_54 rfl rfl rfl ?_
  exact Go.retR rfl rfl rfl rfl d22_56 ⟨d_6, ky_6, rfl, K8, ge_d_6, sz7, F6_0, F6_1⟩
theorem c_cmp2_1 (hw : HW a0 Z) (h : Heap) (t : Addr) (kt : ClassId) (k0 k1 : Int32) (hk0 : ¬ ((255 : Int32) < k0)) (hk1 : (255 : Int32) < k1) (hn0 : nar .char k0 = k0) (hn1 : nar .char k1 = k1) (sad : Zad Z (.int 1)) (shi : Zhi Z (.int 0)) (slo : Zlo Z (.int 8)) (vt : Arv Z h t kt .char (2 : Int32) [(.int k0), (.int k1)] (.int 0)) :
    Con l M_54 q22 6 (some (.array .byte)) (rm4 3 2 18 40) Z n0 #[(.ref t), (.int 0), (.int 2)] h (fun v h' => ∃ d : Addr, ∃ ky : ClassId, v = some (.ref d) ∧ Keep h h' [] ∧ n0 ≤ d ∧ h.size ≤ d ∧ AB Z h' d ky (4 : Int32) [(loB k0), (hiB k0), (loB k1), (hiB k1)] (.int 0) ∧ EA Z h' d) := by
  refine Con.of_go (plainFor_of_name pn_2) (Ls := #[.val (.ref t), .val (.int 0), .val (.int 2), .unset, .unset, .unset]) ?_
  refine Go.iloadN (pc' := 1) d22_0 rfl rfl ?_
  refine Go.newarray (pc' := 3) (cells' := 1) (slots' := 2) (cap := 2) (ww hw 21 rfl) d22_1 (ad := "[B") (by decide) (by decide) (by decide) rfl rfl (by decide) (by decide) (by decide) rfl ?_
  intro h1 b1 g1 E1 ge1 kA1 A1 X1
  have K2 := (Keep.refl h []).ext E1
  have V1 : AB Z h1 b1 kA1 (2 : Int32) [(.int 0), (.int 0)] (.int 0) := Arv.pad A1 (pad_rep [] (.int 0) 2)
  refine Go.astoreN (pc' := 4) (Ls' := #[.val (.ref t), .val (.int 0), .val (.int 2), .val (.ref b1), .unset, .unset]) d22_3 rfl rfl rfl ?_
  refine Go.aloadN (pc' := 5) d22_4 rfl rfl rfl ?_
  refine Go.iloadN (pc' := 6) d22_5 rfl rfl ?_
  refine Go.aloadN (pc' := 7) d22_6 rfl rfl rfl ?_
  refine Go.iconst (pc' := 8) (v := 0) d22_7 rfl rfl ?_
  refine Go.iloadN (pc' := 9) d22_8 rfl rfl ?_
  have ne3 := (Nat.ne_of_lt (Nat.lt_of_lt_of_le vt.lt (Nat.le_of_eq g1.symm)))
  refine Go.callS (cells' := 1) (slots' := 2) (pc' := 12) [(.ref t), (.int 0), (.ref b1), (.int 0), (.int 2)] [] (ww hw 130 rfl) (ww hw 131 rfl) (ww hw 128 rfl) (ww hw 132 rfl) (by decide) (c_cmpU1 l Z a0 hw h1 t kt ([(.int k0), (.int k1)]) b1 kA1 ([(.int 0), (.int 0)]) (2 : Int32) k0 k1 hk0 hk1 (by decide) rfl (by decide) rfl (nl rfl) ge1 ne3 (vt.ext E1) V1) pd_32 d22_9 rfl ?_
  rintro _ h4 ⟨rfl, K4⟩
  have K5 := K2.trans K4 (allS (Or.inr (Nat.le_of_eq g1.symm)) all0)
  show Go _ _ _ _ _ _ _ _ _ _ _ _ 12 _ [(.int 1)]
  refine Go.istore (pc' := 14) (Ls' := #[.val (.ref t), .val (.int 0), .val (.int 2), .val (.ref b1), .val (.int 1), .unset]) d22_12 rfl rfl ?_
  refine Go.iload (pc' := 16) d22_14 rfl rfl ?_
  refine Go.iloadN (pc' := 17) d22_16 rfl rfl ?_
  refine Go.icmpNo (pc' := 20) d22_17 (XT.ii_eq_f (by decide)) rfl ?_
  refine Go.aloadN (pc' := 21) d22_20 rfl rfl rfl ?_
  refine Go.iloadN (pc' := 22) d22_21 rfl rfl ?_
  refine Go.iloadN (pc' := 23) d22_22 rfl rfl ?_
  refine Go.callS (cells' := 2) (slots' := 18) (pc' := 26) [(.ref t), (.int 0), (.int 2)] [] (ww hw 243 rfl) (ww hw 244 rfl) (ww hw 128 rfl) (ww hw 245 rfl) (by decide) (c_toB2 l Z a0 hw h4 t kt k0 k1 sad shi slo (((vt.ext E1).keep K4 (ninS ne3 nin0)))) pd_33 d22_23 rfl ?_
  rintro _ h6 ⟨d_6, ky_6, rfl, K6, ge_d_6, sz_d_6, F6_0, F6_1⟩
  have sz7 : h.size ≤ d_6 := Nat.le_trans K5.1 sz_d_6
  have K8 := K5.trans K6 all0
  show Go _ _ _ _ _ _ _ _ _ _ _ _ 26 _ [(.ref d_6)]
  refine Go.astore (pc' := 28) (Ls' := #[.val (.ref t), .val (.int 0), .val (.int 2), .val (.ref b1), .val (.int 1), .val (.ref d_6)]) d22_26 rfl rfl rfl ?_
  refine Go.aload (pc' := 30) d22_28 rfl rfl rfl ?_
  refine Go.iload (pc' := 32) d22_30 rfl rfl ?_
  refine Go.callS (cells' := 2) (slots' := 18) (pc' := 35) [(.ref d_6), (.int 1)] [] (ww hw 259 rfl) (ww hw 260 rfl) (ww hw 128 rfl) (ww hw 261 rfl) (by decide) (c_getChar l Z a0 hw h6 d_6 ky_6 (4 : Int32) ([(loB k0), (hiB k0), (loB k1), (hiB k1)]) (1 : Int32) (2 : Int32) (3 : Int32) k1 (by decide) (by decide) (by decide) (by decide) (by decide) (by decide) rfl rfl hn1 sad shi slo F6_0) pd_28 d22_32 rfl ?_
  rintro _ _ ⟨rfl, rfl⟩
  show Go _ _ _ _ _ _ _ _ _ _ _ _ 35 _ [(.int k1)]
  refine Go.sipush (pc' := 38) (v := 255) d22_35 rfl rfl ?_
  refine Go.icmpYes (pc' := 54) d22_38 (XT.ii_gt_t hk1) (by decide) (by decide) ?_
  refine Go.aload (pc' := 56) d22_54 rfl rfl rfl ?_
  exact Go.retR rfl rfl rfl rfl d22_56 ⟨d_6, ky_6, rfl, K8, ge_d_6, sz7, F6_0, F6_1⟩
theorem c_cmp2_2 (hw : HW a0 Z) (h : Heap) (t : Addr) (kt : ClassId) (k0 k1 : Int32) (hk0 : ¬ ((255 : Int32) < k0)) (hk1 : ¬ ((255 : Int32) < k1)) (vt : Arv Z h t kt .char (2 : Int32) [(.int k0), (.int k1)] (.int 0)) :
    Con l M_54 q22 6 (some (.array .byte)) (rm4 3 2 18 40) Z n0 #[(.ref t), (.int 0), (.int 2)] h (fun v h' => ∃ d : Addr, ∃ ky : ClassId, v = some (.ref d) ∧ Keep h h' [] ∧ n0 ≤ d ∧ h.size ≤ d ∧ AB Z h' d ky (2 : Int32) [(by8 k0), (by8 k1)] (.int 0) ∧ EA Z h' d) := by
  refine Con.of_go (plainFor_of_name pn_2) (Ls := #[.val (.ref t), .val (.int 0), .val (.int 2), .unset, .unset, .unset]) ?_
  refine Go.iloadN (pc' := 1) d22_0 rfl rfl ?_
  refine Go.newarray (pc' := 3) (cells' := 1) (slots' := 2) (cap := 2) (ww hw 21 rfl) d22_1 (ad := "[B") (by decide) (by decide) (by decide) rfl rfl (by decide) (by decide) (by decide) rfl ?_
  intro h1 b1 g1 E1 ge1 kA1 A1 X1
  have K2 := (Keep.refl h []).ext E1
  have V1 : AB Z h1 b1 kA1 (2 : Int32) [(.int 0), (.int 0)] (.int 0) := Arv.pad A1 (pad_rep [] (.int 0) 2)
  refine Go.astoreN (pc' := 4) (Ls' := #[.val (.ref t), .val (.int 0), .val (.int 2), .val (.ref b1), .unset, .unset]) d22_3 rfl rfl rfl ?_
  refine Go.aloadN (pc' := 5) d22_4 rfl rfl rfl ?_
  refine Go.iloadN (pc' := 6) d22_5 rfl rfl ?_
  refine Go.aloadN (pc' := 7) d22_6 rfl rfl rfl ?_
  refine Go.iconst (pc' := 8) (v := 0) d22_7 rfl rfl ?_
  refine Go.iloadN (pc' := 9) d22_8 rfl rfl ?_
  have ne3 := (Nat.ne_of_lt (Nat.lt_of_lt_of_le vt.lt (Nat.le_of_eq g1.symm)))
  refine Go.callS (cells' := 1) (slots' := 2) (pc' := 12) [(.ref t), (.int 0), (.ref b1), (.int 0), (.int 2)] [] (ww hw 130 rfl) (ww hw 131 rfl) (ww hw 128 rfl) (ww hw 132 rfl) (by decide) (c_cmpL2 l Z a0 hw h1 t kt b1 kA1 k0 k1 hk0 hk1 ge1 ne3 (vt.ext E1) V1) pd_32 d22_9 rfl ?_
  rintro _ h4 ⟨rfl, K4, F4_0⟩
  have K5 := K2.trans K4 (allS (Or.inr (Nat.le_of_eq g1.symm)) all0)
  show Go _ _ _ _ _ _ _ _ _ _ _ _ 12 _ [(.int 2)]
  refine Go.istore (pc' := 14) (Ls' := #[.val (.ref t), .val (.int 0), .val (.int 2), .val (.ref b1), .val (.int 2), .unset]) d22_12 rfl rfl ?_
  refine Go.iload (pc' := 16) d22_14 rfl rfl ?_
  refine Go.iloadN (pc' := 17) d22_16 rfl rfl ?_
  refine Go.icmpYes (pc' := 57) d22_17 (XT.ii_eq_t (by decide)) (by decide) (by decide) ?_
  refine Go.aloadN (pc' := 58) d22_57 rfl rfl rfl ?_
  exact Go.retR rfl rfl rfl rfl d22_58 ⟨b1, kA1, rfl, K5, ge1, (Nat.le_of_eq g1.symm), F4_0, (X1.keep K4)⟩
theorem c_jcmp2 (hw : HW a0 Z) (h : Heap) (t : Addr) (kt : ClassId) (k0 k1 : Int32) (hn0 : nar .char k0 = k0) (hn1 : nar .char k1 = k1) (sad : Zad Z (.int 1)) (shi : Zhi Z (.int 0)) (slo : Zlo Z (.int 8)) (vt : Arv Z h t kt .char (2 : Int32) [(.int k0), (.int k1)] (.int 0)) :
    Con l M_54 q22 6 (some (.array .byte)) (rm4 3 2 18 40) Z n0 #[(.ref t), (.int 0), (.int 2)] h (fun v h' => ∃ d : Addr, ∃ ky : ClassId, ∃ cd : Nat, v = some (.ref d) ∧ Keep h h' [] ∧ n0 ≤ d ∧ h.size ≤ d ∧ Arv Z h' d ky .byte (Int32.ofNat (encS cd [k0, k1]).length) (encS cd [k0, k1]) (.int 0) ∧ EA Z h' d ∧ (cd = 0 ∨ cd = 1) ∧ (cd = 0 → ∀ e ∈ [k0, k1], ¬ (255 : Int32) < e)) := by
  by_cases hk0 : (255 : Int32) < k0
  · exact (c_cmp2_0 l Z a0 hw h t kt k0 k1 hk0 hn0 hn1 sad shi slo vt).mono (fun v h' q => by
      obtain ⟨d, ky, q1, q2, q3, q4, q5, q6⟩ := q
      exact ⟨d, ky, 1, q1, q2, q3, q4, q5, q6, Or.inr rfl, (fun q => absurd q (by decide))⟩)
  · skip
    by_cases hk1 : (255 : Int32) < k1
    · exact (c_cmp2_1 l Z a0 hw h t kt k0 k1 hk0 hk1 hn0 hn1 sad shi slo vt).mono (fun v h' q => by
        obtain ⟨d, ky, q1, q2, q3, q4, q5, q6⟩ := q
        exact ⟨d, ky, 1, q1, q2, q3, q4, q5, q6, Or.inr rfl, (fun q => absurd q (by decide))⟩)
    · skip
      exact (c_cmp2_2 l Z a0 hw h t kt k0 k1 hk0 hk1 vt).mono (fun v h' q => by
          obtain ⟨d, ky, q1, q2, q3, q4, q5, q6⟩ := q
          exact ⟨d, ky, 0, q1, q2, q3, q4, q5, q6, Or.inl rfl, (fun _ e he => by simp only [List.mem_cons, List.not_mem_nil, or_false] at he; rcases he with rfl | rfl <;> assumption)⟩)
theorem c_cf2_0 (hw : HW a0 Z) (h : Heap) (b : Addr) (kb : ClassId) (vs : List Value) (v : AB Z h b kb (2 : Int32) vs (.int 0)) :
    Con l M_55 q24 2 (some .byte) (rm4 0 0 0 0) Z n0 #[(.ref b), (.int 2)] h (fun v h' => v = some (.int 0) ∧ h = h') := by
  refine Con.of_go (plainFor_of_name pn_2) (Ls := #[.val (.ref b), .val (.int 2)]) ?_
  refine Go.iloadN (pc' := 1) d24_0 rfl rfl ?_
  refine Go.aloadN (pc' := 2) d24_1 rfl rfl rfl ?_
  refine Go.arraylength (pc' := 3) v d24_2 rfl ?_
  refine Go.isub (pc' := 4) d24_3 rfl ?_
  show Go _ _ _ _ _ _ _ _ _ _ _ _ 4 _ [(.int 0)]
  refine Go.bipush (pc' := 6) (v := 31) d24_4 rfl rfl ?_
  refine Go.iushr (pc' := 7) d24_6 rfl ?_
  show Go _ _ _ _ _ _ _ _ _ _ _ _ 7 _ [(.int 0)]
  refine Go.i2b (pc' := 8) d24_7 rfl ?_
  show Go _ _ _ _ _ _ _ _ _ _ _ _ 8 #[.val (.ref b), .val (.int 2)] [(.int 0)]
  exact Go.retN (t := .byte) rfl (by simp) d24_8 ⟨rfl, rfl⟩
theorem c_cf2_1 (hw : HW a0 Z) (h : Heap) (b : Addr) (kb : ClassId) (vs : List Value) (v : AB Z h b kb (4 : Int32) vs (.int 0)) :
    Con l M_55 q24 2 (some .byte) (rm4 0 0 0 0) Z n0 #[(.ref b), (.int 2)] h (fun v h' => v = some (.int 1) ∧ h = h') := by
  refine Con.of_go (plainFor_of_name pn_2) (Ls := #[.val (.ref b), .val (.int 2)]) ?_
  refine Go.iloadN (pc' := 1) d24_0 rfl rfl ?_
  refine Go.aloadN (pc' := 2) d24_1 rfl rfl rfl ?_
  refine Go.arraylength (pc' := 3) v d24_2 rfl ?_
  refine Go.isub (pc' := 4) d24_3 rfl ?_
  show Go _ _ _ _ _ _ _ _ _ _ _ _ 4 _ [(.int (-2 : Int32))]
  refine Go.bipush (pc' := 6) (v := 31) d24_4 rfl rfl ?_
  refine Go.iushr (pc' := 7) d24_6 rfl ?_
  show Go _ _ _ _ _ _ _ _ _ _ _ _ 7 _ [(.int 1)]
  refine Go.i2b (pc' := 8) d24_7 rfl ?_
  show Go _ _ _ _ _ _ _ _ _ _ _ _ 8 #[.val (.ref b), .val (.int 2)] [(.int 1)]
  exact Go.retN (t := .byte) rfl (by simp) d24_8 ⟨rfl, rfl⟩
theorem c_ini4_2 (hw : HW a0 Z) (h : Heap) (a t : Addr) (kt : ClassId) (k0 k1 cp : Int32) (hcp : ¬ (cp = (0 : Int32))) (hn0 : nar .char k0 = k0) (hn1 : nar .char k1 = k1) (scp : Zcp Z (.int cp)) (sad : Zad Z (.int 1)) (shi : Zhi Z (.int 0)) (slo : Zlo Z (.int 8)) (ge_a : n0 ≤ a) (xa : ES Z h a) (pf0 : GV Z h a .null) (pf1 : GK Z h a (.int 0)) (vt : Arv Z h t kt .char (2 : Int32) [(.int k0), (.int k1)] (.int 0)) :
    Con l M_56 q3 6 none (rm4 4 2 18 57) Z n0 #[(.ref a), (.ref t), (.int 0), (.int 2), .null] h (fun v h' => ∃ d : Addr, v = none ∧ Keep h h' [a] ∧ n0 ≤ d ∧ h.size ≤ d ∧ StrC Z h' a d ([k0, k1])) := by
  refine Con.of_go (plainFor_of_name pn_0) (Ls := #[.val (.ref a), .val (.ref t), .val (.int 0), .val (.int 2), .val .null, .unset]) ?_
  refine Go.aloadN (pc' := 1) d3_0 rfl rfl rfl ?_
  refine Go.initO (pc' := 4) (ww hw 17 rfl) (ww hw 18 rfl) (ww hw 19 rfl) d3_1 rfl (nl rfl) (nl rfl) rfl ?_
  refine Go.iloadN (pc' := 5) d3_4 rfl rfl ?_
  refine Go.ifYes (pc' := 27) d3_5 (XT.i0_ne_t (by decide)) (by decide) (by decide) ?_
  refine Go.old (fun old1 => ?_)
  refine Go.getstatic (pc' := 30) (host := "") (Or.inl (ww hw 45 rfl)) Via.refl (scp.ext old1.2) d3_27 rfl ?_
  refine Go.ifNo (pc' := 33) d3_30 (XT.i0_eq_f hcp) rfl ?_
  refine Go.aloadN (pc' := 34) d3_33 rfl rfl rfl ?_
  refine Go.iloadN (pc' := 35) d3_34 rfl rfl ?_
  refine Go.iloadN (pc' := 36) d3_35 rfl rfl ?_
  refine Go.callS (cells' := 2) (slots' := 18) (pc' := 39) [(.ref t), (.int 0), (.int 2)] [] (ww hw 126 rfl) (ww hw 127 rfl) (ww hw 128 rfl) (ww hw 129 rfl) (by decide) (c_jcmp2 l Z a0 hw h t kt k0 k1 hn0 hn1 sad shi slo vt) pd_33 d3_36 rfl ?_
  rintro _ h2 ⟨d_2, ky_2, cd_2, rfl, K2, ge_d_2, sz_d_2, F2_0, F2_1, P2_0, P2_1⟩
  have K3 := (Keep.refl h [a]).trans K2 all0
  show Go _ _ _ _ _ _ _ _ _ _ _ _ 39 _ [(.ref d_2)]
  rcases P2_0 with rfl | rfl
  ·
    have V4 : AB Z h2 d_2 ky_2 (2 : Int32) [(by8 k0), (by8 k1)] (.int 0) := F2_0
    refine Go.astore (pc' := 41) (Ls' := #[.val (.ref a), .val (.ref t), .val (.int 0), .val (.int 2), .val .null, .val (.ref d_2)]) d3_39 rfl rfl rfl ?_
    refine Go.aloadN (pc' := 42) d3_41 rfl rfl rfl ?_
    refine Go.aload (pc' := 44) d3_42 rfl rfl rfl ?_
    refine Go.iloadN (pc' := 45) d3_44 rfl rfl ?_
    refine Go.callS (cells' := 2) (slots' := 18) (pc' := 48) [(.ref d_2), (.int 2)] [(.ref a)] (ww hw 133 rfl) (ww hw 134 rfl) (ww hw 128 rfl) (ww hw 135 rfl) (by decide) (c_cf2_0 l Z a0 hw h2 d_2 ky_2 ([(by8 k0), (by8 k1)]) V4) pd_34 d3_45 rfl ?_
    rintro _ _ ⟨rfl, rfl⟩
    show Go _ _ _ _ _ _ _ _ _ _ _ _ 48 _ [(.int 0), (.ref a)]
    refine Go.putfieldN (pc' := 51) (ww hw 27 rfl) Via.refl (pf1.keep K2 nin0) (xa.keep K2) (Or.inr ⟨(ww hw 23 rfl), rfl, rfl⟩) (ww hw 7 rfl) (ty := .byte) (v' := (0 : Int32)) (by decide) (by first | rfl | decide) (by first | rfl | decide | exact fits_nar_byte _) ge_a d3_48 rfl ?_
    intro h6 W7
    have K8 := K3.wr W7 (Or.inl (List.mem_of_getElem? (i := 0) rfl))
    have f9 := (pf1.keep K2 nin0).same W7
    refine Go.aloadN (pc' := 52) d3_51 rfl rfl rfl ?_
    refine Go.aload (pc' := 54) d3_52 rfl rfl rfl ?_
    have f10 := ((pf0.keep K2 nin0).other W7 (Or.inr (sn_9 hw)))
    refine Go.putfield (pc' := 57) (host := "") (Or.inl (ww hw 26 rfl)) Via.refl f10 ((xa.keep K2).wr W7) (Or.inr ⟨(ww hw 22 rfl), rfl, rfl⟩) (ww hw 7 rfl) (ty := (.array .byte)) (by decide) rfl rfl ge_a d3_54 rfl ?_
    intro h11 W12
    have K13 := K8.wr W12 (Or.inl (List.mem_of_getElem? (i := 0) rfl))
    have f14 := f10.same W12
    have ne15 := (Nat.ne_of_lt (Nat.lt_of_lt_of_le pf0.lt sz_d_2))
    have f16 := ((V4.other W7 (Ne.symm ne15)).other W12 (Ne.symm ne15))
    exact Go.retV rfl d3_57 ⟨d_2, rfl, K13, ge_d_2, sz_d_2, ky_2, 0, Or.inl rfl, (f9.other W12 (Or.inr (sn_10 hw))), f14, f16, ((F2_1.wr W7).wr W12), P2_1, (fun e he => by simp only [List.mem_cons, List.not_mem_nil, or_false] at he; rcases he with rfl | rfl <;> assumption), (nl rfl)⟩
  ·
    have V17 : AB Z h2 d_2 ky_2 (4 : Int32) [(loB k0), (hiB k0), (loB k1), (hiB k1)] (.int 0) := F2_0
    refine Go.astore (pc' := 41) (Ls' := #[.val (.ref a), .val (.ref t), .val (.int 0), .val (.int 2), .val .null, .val (.ref d_2)]) d3_39 rfl rfl rfl ?_
    refine Go.aloadN (pc' := 42) d3_41 rfl rfl rfl ?_
    refine Go.aload (pc' := 44) d3_42 rfl rfl rfl ?_
    refine Go.iloadN (pc' := 45) d3_44 rfl rfl ?_
    refine Go.callS (cells' := 2) (slots' := 18) (pc' := 48) [(.ref d_2), (.int 2)] [(.ref a)] (ww hw 133 rfl) (ww hw 134 rfl) (ww hw 128 rfl) (ww hw 135 rfl) (by decide) (c_cf2_1 l Z a0 hw h2 d_2 ky_2 ([(loB k0), (hiB k0), (loB k1), (hiB k1)]) V17) pd_34 d3_45 rfl ?_
    rintro _ _ ⟨rfl, rfl⟩
    show Go _ _ _ _ _ _ _ _ _ _ _ _ 48 _ [(.int 1), (.ref a)]
    refine Go.putfieldN (pc' := 51) (ww hw 27 rfl) Via.refl (pf1.keep K2 nin0) (xa.keep K2) (Or.inr ⟨(ww hw 23 rfl), rfl, rfl⟩) (ww hw 7 rfl) (ty := .byte) (v' := (1 : Int32)) (by decide) (by first | rfl | decide) (by first | rfl | decide | exact fits_nar_byte _) ge_a d3_48 rfl ?_
    intro h19 W20
    have K21 := K3.wr W20 (Or.inl (List.mem_of_getElem? (i := 0) rfl))
    have f22 := (pf1.keep K2 nin0).same W20
    refine Go.aloadN (pc' := 52) d3_51 rfl rfl rfl ?_
    refine Go.aload (pc' := 54) d3_52 rfl rfl rfl ?_
    have f23 := ((pf0.keep K2 nin0).other W20 (Or.inr (sn_9 hw)))
    refine Go.putfield (pc' := 57) (host := "") (Or.inl (ww hw 26 rfl)) Via.refl f23 ((xa.keep K2).wr W20) (Or.inr ⟨(ww hw 22 rfl), rfl, rfl⟩) (ww hw 7 rfl) (ty := (.array .byte)) (by decide) rfl rfl ge_a d3_54 rfl ?_
    intro h24 W25
    have K26 := K21.wr W25 (Or.inl (List.mem_of_getElem? (i := 0) rfl))
    have f27 := f23.same W25
    have ne28 := (Nat.ne_of_lt (Nat.lt_of_lt_of_le pf0.lt sz_d_2))
    have f29 := ((V17.other W20 (Ne.symm ne28)).other W25 (Ne.symm ne28))
    exact Go.retV rfl d3_57 ⟨d_2, rfl, K26, ge_d_2, sz_d_2, ky_2, 1, Or.inr rfl, (f22.other W25 (Or.inr (sn_10 hw))), f27, f29, ((F2_1.wr W20).wr W25), (fun q => absurd q (by decide)), (fun e he => by simp only [List.mem_cons, List.not_mem_nil, or_false] at he; rcases he with rfl | rfl <;> assumption), (nl rfl)⟩
theorem c_ini2 (hw : HW a0 Z) (h : Heap) (a t : Addr) (kt : ClassId) (k0 k1 cp : Int32) (hcp : ¬ (cp = (0 : Int32))) (hn0 : nar .char k0 = k0) (hn1 : nar .char k1 = k1) (scp : Zcp Z (.int cp)) (sad : Zad Z (.int 1)) (shi : Zhi Z (.int 0)) (slo : Zlo Z (.int 8)) (ge_a : n0 ≤ a) (xa : ES Z h a) (pf0 : GV Z h a .null) (pf1 : GK Z h a (.int 0)) (vt : Arv Z h t kt .char (2 : Int32) [(.int k0), (.int k1)] (.int 0)) :
    Con l M_57 q2 2 none (rm4 5 2 18 74) Z n0 #[(.ref a), (.ref t)] h (fun v h' => ∃ d : Addr, v = none ∧ Keep h h' [a] ∧ n0 ≤ d ∧ h.size ≤ d ∧ StrC Z h' a d ([k0, k1])) := by
  refine Con.of_go (plainFor_of_name pn_0) (Ls := #[.val (.ref a), .val (.ref t)]) ?_
  refine Go.aloadN (pc' := 1) d2_0 rfl rfl rfl ?_
  refine Go.aloadN (pc' := 2) d2_1 rfl rfl rfl ?_
  refine Go.iconst (pc' := 3) (v := 0) d2_2 rfl rfl ?_
  refine Go.aloadN (pc' := 4) d2_3 rfl rfl rfl ?_
  refine Go.arraylength (pc' := 5) vt d2_4 rfl ?_
  refine Go.aconstNull (pc' := 6) d2_5 rfl ?_
  refine Go.callC (cells' := 2) (slots' := 18) (pc' := 9) [(.ref t), (.int 0), (.int 2), .null] [] (a := a) rfl rfl (ww hw 13 rfl) (ww hw 14 rfl) (ww hw 8 rfl) (ww hw 16 rfl) (by decide) (c_ini4_2 l Z a0 hw h a t kt k0 k1 cp hcp hn0 hn1 scp sad shi slo ge_a xa pf0 pf1 vt) pd_35 d2_6 rfl ?_
  rintro _ h1 ⟨d_1, rfl, K1, ge_d_1, sz_d_1, F1_0⟩
  show Go _ _ _ _ _ _ _ _ _ _ _ _ 9 _ []
  exact Go.retV rfl d2_9 ⟨d_1, rfl, K1, ge_d_1, sz_d_1, F1_0⟩
theorem c_cmpL3 (hw : HW a0 Z) (h : Heap) (t : Addr) (kt : ClassId) (b : Addr) (kb : ClassId) (k0 k1 k2 : Int32) (hk0 : ¬ ((255 : Int32) < k0)) (hk1 : ¬ ((255 : Int32) < k1)) (hk2 : ¬ ((255 : Int32) < k2)) (ge_b : n0 ≤ b) (ne_t_b : t ≠ b) (vt : Arv Z h t kt .char (3 : Int32) [(.int k0), (.int k1), (.int k2)] (.int 0)) (vb : AB Z h b kb (3 : Int32) [(.int 0), (.int 0), (.int 0)] (.int 0)) :
    Con l M_52 q23 7 (some .int) (rm4 0 0 0 0) Z n0 #[(.ref t), (.int 0), (.ref b), (.int 0), (.int 3)] h (fun v h' => v = some (.int 3) ∧ Keep h h' [b] ∧ AB Z h' b kb (3 : Int32) [(by8 k0), (by8 k1), (by8 k2)] (.int 0)) := by
  refine Con.of_go (plainFor_of_name pn_2) (Ls := #[.val (.ref t), .val (.int 0), .val (.ref b), .val (.int 0), .val (.int 3), .unset, .unset]) ?_
  refine Go.iconst (pc' := 1) (v := 0) d23_0 rfl rfl ?_
  refine Go.istore (pc' := 3) (Ls' := #[.val (.ref t), .val (.int 0), .val (.ref b), .val (.int 0), .val (.int 3), .val (.int 0), .unset]) d23_1 rfl rfl ?_
  refine Go.iload (pc' := 5) d23_3 rfl rfl ?_
  refine Go.iload (pc' := 7) d23_5 rfl rfl ?_
  refine Go.icmpNo (pc' := 10) d23_7 (XT.ii_ge_f (by decide)) rfl ?_
  refine Go.aloadN (pc' := 11) d23_10 rfl rfl rfl ?_
  refine Go.iloadN (pc' := 12) d23_11 rfl rfl ?_
  refine Go.caload (pc' := 13) (v := k0) vt d23_12 (by decide) (by decide) rfl rfl ?_
  refine Go.istore (pc' := 15) (Ls' := #[.val (.ref t), .val (.int 0), .val (.ref b), .val (.int 0), .val (.int 3), .val (.int 0), .val (.int k0)]) d23_13 rfl rfl ?_
  refine Go.iload (pc' := 17) d23_15 rfl rfl ?_
  refine Go.sipush (pc' := 20) (v := 255) d23_17 rfl rfl ?_
  refine Go.icmpYes (pc' := 26) d23_20 (XT.ii_le_t hk0) (by decide) (by decide) ?_
  refine Go.aloadN (pc' := 27) d23_26 rfl rfl rfl ?_
  refine Go.iloadN (pc' := 28) d23_27 rfl rfl ?_
  refine Go.iload (pc' := 30) d23_28 rfl rfl ?_
  refine Go.i2b (pc' := 31) d23_30 rfl ?_
  refine Go.bastore (pc' := 32) vb ge_b d23_31 (by decide) (by decide) (i := 0) rfl (nl rfl) rfl ?_
  intro h1 W2 V3
  have K4 := (Keep.refl h [b]).wr W2 (Or.inl (List.mem_of_getElem? (i := 0) rfl))
  rw [OwnNum.b8] at V3
  replace V3 : AB Z h1 b kb (3 : Int32) [(by8 k0), (.int 0), (.int 0)] (.int 0) := V3
  refine Go.iinc (pc' := 35) (Ls' := #[.val (.ref t), .val (.int ((0 : Int32) + (1 : Int32))), .val (.ref b), .val (.int 0), .val (.int 3), .val (.int 0), .val (.int k0)]) (w := (1 : Int32)) d23_32 rfl rfl rfl rfl ?_
  show Go _ _ _ _ _ _ _ _ _ _ _ _ 35 #[.val (.ref t), .val (.int 1), .val (.ref b), .val (.int 0), .val (.int 3), .val (.int 0), .val (.int k0)] []
  refine Go.iinc (pc' := 38) (Ls' := #[.val (.ref t), .val (.int 1), .val (.ref b), .val (.int ((0 : Int32) + (1 : Int32))), .val (.int 3), .val (.int 0), .val (.int k0)]) (w := (1 : Int32)) d23_35 rfl rfl rfl rfl ?_
  show Go _ _ _ _ _ _ _ _ _ _ _ _ 38 #[.val (.ref t), .val (.int 1), .val (.ref b), .val (.int 1), .val (.int 3), .val (.int 0), .val (.int k0)] []
  refine Go.iinc (pc' := 41) (Ls' := #[.val (.ref t), .val (.int 1), .val (.ref b), .val (.int 1), .val (.int 3), .val (.int ((0 : Int32) + (1 : Int32))), .val (.int k0)]) (w := (1 : Int32)) d23_38 rfl rfl rfl rfl ?_
  show Go _ _ _ _ _ _ _ _ _ _ _ _ 41 #[.val (.ref t), .val (.int 1), .val (.ref b), .val (.int 1), .val (.int 3), .val (.int 1), .val (.int k0)] []
  refine Go.goto (pc' := 3) d23_41 (by decide) (by decide) ?_
  refine Go.iload (pc' := 5) d23_3 rfl rfl ?_
  refine Go.iload (pc' := 7) d23_5 rfl rfl ?_
  refine Go.icmpNo (pc' := 10) d23_7 (XT.ii_ge_f (by decide)) rfl ?_
  refine Go.aloadN (pc' := 11) d23_10 rfl rfl rfl ?_
  refine Go.iloadN (pc' := 12) d23_11 rfl rfl ?_
  refine Go.caload (pc' := 13) (v := k1) (vt.other W2 ne_t_b) d23_12 (by decide) (by decide) rfl rfl ?_
  refine Go.istore (pc' := 15) (Ls' := #[.val (.ref t), .val (.int 1), .val (.ref b), .val (.int 1), .val (.int 3), .val (.int 1), .val (.int k1)]) d23_13 rfl rfl ?_
  refine Go.iload (pc' := 17) d23_15 rfl rfl ?_
  refine Go.sipush (pc' := 20) (v := 255) d23_17 rfl rfl ?_
  refine Go.icmpYes (pc' := 26) d23_20 (XT.ii_le_t hk1) (by decide) (by decide) ?_
  refine Go.aloadN (pc' := 27) d23_26 rfl rfl rfl ?_
  refine Go.iloadN (pc' := 28) d23_27 rfl rfl ?_
  refine Go.iload (pc' := 30) d23_28 rfl rfl ?_
  refine Go.i2b (pc' := 31) d23_30 rfl ?_
  refine Go.bastore (pc' := 32) V3 ge_b d23_31 (by decide) (by decide) (i := 1) rfl (nl rfl) rfl ?_
  intro h5 W6 V7
  have K8 := K4.wr W6 (Or.inl (List.mem_of_getElem? (i := 0) rfl))
  rw [OwnNum.b8] at V7
  replace V7 : AB Z h5 b kb (3 : Int32) [(by8 k0), (by8 k1), (.int 0)] (.int 0) := V7
  refine Go.iinc (pc' := 35) (Ls' := #[.val (.ref t), .val (.int ((1 : Int32) + (1 : Int32))), .val (.ref b), .val (.int 1), .val (.int 3), .val (.int 1), .val (.int k1)]) (w := (1 : Int32)) d23_32 rfl rfl rfl rfl ?_
  show Go _ _ _ _ _ _ _ _ _ _ _ _ 35 #[.val (.ref t), .val (.int 2), .val (.ref b), .val (.int 1), .val (.int 3), .val (.int 1), .val (.int k1)] []
  refine Go.iinc (pc' := 38) (Ls' := #[.val (.ref t), .val (.int 2), .val (.ref b), .val (.int ((1 : Int32) + (1 : Int32))), .val (.int 3), .val (.int 1), .val (.int k1)]) (w := (1 : Int32)) d23_35 rfl rfl rfl rfl ?_
  show Go _ _ _ _ _ _ _ _ _ _ _ _ 38 #[.val (.ref t), .val (.int 2), .val (.ref b), .val (.int 2), .val (.int 3), .val (.int 1), .val (.int k1)] []
  refine Go.iinc (pc' := 41) (Ls' := #[.val (.ref t), .val (.int 2), .val (.ref b), .val (.int 2), .val (.int 3), .val (.int ((1 : Int32) + (1 : Int32))), .val (.int k1)]) (w := (1 : Int32)) d23_38 rfl rfl rfl rfl ?_
  show Go _ _ _ _ _ _ _ _ _ _ _ _ 41 #[.val (.ref t), .val (.int 2), .val (.ref b), .val (.int 2), .val (.int 3), .val (.int 2), .val (.int k1)] []
  refine Go.goto (pc' := 3) d23_41 (by decide) (by decide) ?_
  refine Go.iload (pc' := 5) d23_3 rfl rfl ?_
  refine Go.iload (pc' := 7) d23_5 rfl rfl ?_
  refine Go.icmpNo (pc' := 10) d23_7 (XT.ii_ge_f (by decide)) rfl ?_
  refine Go.aloadN (pc' := 11) d23_10 rfl rfl rfl ?_
  refine Go.iloadN (pc' := 12) d23_11 rfl rfl ?_
  refine Go.caload (pc' := 13) (v := k2) ((vt.other W2 ne_t_b).other W6 ne_t_b) d23_12 (by decide) (by decide) rfl rfl ?_
  refine Go.istore (pc' := 15) (Ls' := #[.val (.ref t), .val (.int 2), .val (.ref b), .val (.int 2), .val (.int 3), .val (.int 2), .val (.int k2)]) d23_13 rfl rfl ?_
  refine Go.iload (pc' := 17) d23_15 rfl rfl ?_
  refine Go.sipush (pc' := 20) (v := 255) d23_17 rfl rfl ?_
  refine Go.icmpYes (pc' := 26) d23_20 (XT.ii_le_t hk2) (by decide) (by decide) ?_
  refine Go.aloadN (pc' := 27) d23_26 rfl rfl rfl ?_
  refine Go.iloadN (pc' := 28) d23_27 rfl rfl ?_
  refine Go.iload (pc' := 30) d23_28 rfl rfl ?_
  refine Go.i2b (pc' := 31) d23_30 rfl ?_
  refine Go.bastore (pc' := 32) V7 ge_b d23_31 (by decide) (by decide) (i := 2) rfl (nl rfl) rfl ?_
  intro h9 W10 V11
  have K12 := K8.wr W10 (Or.inl (List.mem_of_getElem? (i := 0) rfl))
  rw [OwnNum.b8] at V11
  replace V11 : AB Z h9 b kb (3 : Int32) [(by8 k0), (by8 k1), (by8 k2)] (.int 0) := V11
  refine Go.iinc (pc' := 35) (Ls' := #[.val (.ref t), .val (.int ((2 : Int32) + (1 : Int32))), .val (.ref b), .val (.int 2), .val (.int 3), .val (.int 2), .val (.int k2)]) (w := (1 : Int32)) d23_32 rfl rfl rfl rfl ?_
  show Go _ _ _ _ _ _ _ _ _ _ _ _ 35 #[.val (.ref t), .val (.int 3), .val (.ref b), .val (.int 2), .val (.int 3), .val (.int 2), .val (.int k2)] []
  refine Go.iinc (pc' := 38) (Ls' := #[.val (.ref t), .val (.int 3), .val (.ref b), .val (.int ((2 : Int32) + (1 : Int32))), .val (.int 3), .val (.int 2), .val (.int k2)]) (w := (1 : Int32)) d23_35 rfl rfl rfl rfl ?_
  show Go _ _ _ _ _ _ _ _ _ _ _ _ 38 #[.val (.ref t), .val (.int 3), .val (.ref b), .val (.int 3), .val (.int 3), .val (.int 2), .val (.int k2)] []
  refine Go.iinc (pc' := 41) (Ls' := #[.val (.ref t), .val (.int 3), .val (.ref b), .val (.int 3), .val (.int 3), .val (.int ((2 : Int32) + (1 : Int32))), .val (.int k2)]) (w := (1 : Int32)) d23_38 rfl rfl rfl rfl ?_
  show Go _ _ _ _ _ _ _ _ _ _ _ _ 41 #[.val (.ref t), .val (.int 3), .val (.ref b), .val (.int 3), .val (.int 3), .val (.int 3), .val (.int k2)] []
  refine Go.goto (pc' := 3) d23_41 (by decide) (by decide) ?_
  refine Go.iload (pc' := 5) d23_3 rfl rfl ?_
  refine Go.iload (pc' := 7) d23_5 rfl rfl ?_
  refine Go.icmpYes (pc' := 44) d23_7 (XT.ii_ge_t (by decide)) (by decide) (by decide) ?_
  refine Go.iload (pc' := 46) d23_44 rfl rfl ?_
  exact Go.retI rfl d23_46 ⟨rfl, K12, V11⟩
theorem c_toB3 (hw : HW a0 Z) (h : Heap) (t : Addr) (kt : ClassId) (k0 k1 k2 : Int32) (sad : Zad Z (.int 1)) (shi : Zhi Z (.int 0)) (slo : Zlo Z (.int 8)) (vt : Arv Z h t kt .char (3 : Int32) [(.int k0), (.int k1), (.int k2)] (.int 0)) :
    Con l M_53 q49 5 (some (.array .byte)) (rm4 2 1 16 24) Z n0 #[(.ref t), (.int 0), (.int 3)] h (fun v h' => ∃ d : Addr, ∃ ky : ClassId, v = some (.ref d) ∧ Keep h h' [] ∧ n0 ≤ d ∧ h.size ≤ d ∧ AB Z h' d ky (6 : Int32) [(loB k0), (hiB k0), (loB k1), (hiB k1), (loB k2), (hiB k2)] (.int 0) ∧ EA Z h' d) := by
  refine Con.of_go (plainFor_of_name pn_2) (Ls := #[.val (.ref t), .val (.int 0), .val (.int 3), .unset, .unset]) ?_
  refine Go.iloadN (pc' := 1) d49_0 rfl rfl ?_
  refine Go.callS (cells' := 1) (slots' := 16) (pc' := 4) [(.int 3)] [] (ww hw 246 rfl) (ww hw 247 rfl) (ww hw 128 rfl) (ww hw 248 rfl) (by decide) (c_nbf l Z a0 hw h (3 : Int32) (6 : Int32) (by decide) (by decide) (by decide) (by decide) (by decide)) pd_11 d49_1 rfl ?_
  rintro _ h1 ⟨d_1, ky_1, rfl, K1, ge_d_1, sz_d_1, F1_0, F1_1⟩
  show Go _ _ _ _ _ _ _ _ _ _ _ _ 4 _ [(.ref d_1)]
  have V3 : AB Z h1 d_1 ky_1 (6 : Int32) [(.int 0), (.int 0), (.int 0), (.int 0), (.int 0), (.int 0)] (.int 0) := Arv.pad F1_0 (pad_rep [] (.int 0) 6)
  refine Go.astoreN (pc' := 5) (Ls' := #[.val (.ref t), .val (.int 0), .val (.int 3), .val (.ref d_1), .unset]) d49_4 rfl rfl rfl ?_
  refine Go.iconst (pc' := 6) (v := 0) d49_5 rfl rfl ?_
  refine Go.istore (pc' := 8) (Ls' := #[.val (.ref t), .val (.int 0), .val (.int 3), .val (.ref d_1), .val (.int 0)]) d49_6 rfl rfl ?_
  refine Go.iload (pc' := 10) d49_8 rfl rfl ?_
  refine Go.iloadN (pc' := 11) d49_10 rfl rfl ?_
  refine Go.icmpNo (pc' := 14) d49_11 (XT.ii_ge_f (by decide)) rfl ?_
  refine Go.aloadN (pc' := 15) d49_14 rfl rfl rfl ?_
  refine Go.iload (pc' := 17) d49_15 rfl rfl ?_
  refine Go.aloadN (pc' := 18) d49_17 rfl rfl rfl ?_
  refine Go.iloadN (pc' := 19) d49_18 rfl rfl ?_
  refine Go.caload (pc' := 20) (v := k0) (vt.keep K1 nin0) d49_19 (by decide) (by decide) rfl rfl ?_
  refine Go.callS (cells' := 1) (slots' := 16) (pc' := 23) [(.ref d_1), (.int 0), (.int k0)] [] (ww hw 253 rfl) (ww hw 254 rfl) (ww hw 128 rfl) (ww hw 255 rfl) (by decide) (c_putChar l Z a0 hw h1 d_1 ky_1 (6 : Int32) ([(.int 0), (.int 0), (.int 0), (.int 0), (.int 0), (.int 0)]) (0 : Int32) (0 : Int32) (1 : Int32) k0 (by decide) (by decide) (by decide) (by decide) (by decide) (by decide) (nl rfl) (nl rfl) sad shi slo ge_d_1 V3) pd_6 d49_20 rfl ?_
  rintro _ h4 ⟨rfl, K4, F4_0⟩
  have K5 := K1.trans K4 (allS (Or.inr sz_d_1) all0)
  have VL6 : AB Z h4 d_1 ky_1 (6 : Int32) [(loB k0), (hiB k0), (.int 0), (.int 0), (.int 0), (.int 0)] (.int 0) := F4_0
  show Go _ _ _ _ _ _ _ _ _ _ _ _ 23 _ []
  refine Go.iinc (pc' := 26) (Ls' := #[.val (.ref t), .val (.int ((0 : Int32) + (1 : Int32))), .val (.int 3), .val (.ref d_1), .val (.int 0)]) (w := (1 : Int32)) d49_23 rfl rfl rfl rfl ?_
  show Go _ _ _ _ _ _ _ _ _ _ _ _ 26 #[.val (.ref t), .val (.int 1), .val (.int 3), .val (.ref d_1), .val (.int 0)] []
  refine Go.iinc (pc' := 29) (Ls' := #[.val (.ref t), .val (.int 1), .val (.int 3), .val (.ref d_1), .val (.int ((0 : Int32) + (1 : Int32)))]) (w := (1 : Int32)) d49_26 rfl rfl rfl rfl ?_
  show Go _ _ _ _ _ _ _ _ _ _ _ _ 29 #[.val (.ref t), .val (.int 1), .val (.int 3), .val (.ref d_1), .val (.int 1)] []
  refine Go.goto (pc' := 8) d49_29 (by decide) (by decide) ?_
  refine Go.iload (pc' := 10) d49_8 rfl rfl ?_
  refine Go.iloadN (pc' := 11) d49_10 rfl rfl ?_
  refine Go.icmpNo (pc' := 14) d49_11 (XT.ii_ge_f (by decide)) rfl ?_
  refine Go.aloadN (pc' := 15) d49_14 rfl rfl rfl ?_
  refine Go.iload (pc' := 17) d49_15 rfl rfl ?_
  refine Go.aloadN (pc' := 18) d49_17 rfl rfl rfl ?_
  refine Go.iloadN (pc' := 19) d49_18 rfl rfl ?_
  have ne7 := (Nat.ne_of_lt (Nat.lt_of_lt_of_le vt.lt sz_d_1))
  have f8 := ((vt.keep K1 nin0).keep K4 (ninS ne7 nin0))
  refine Go.caload (pc' := 20) (v := k1) f8 d49_19 (by decide) (by decide) rfl rfl ?_
  refine Go.callS (cells' := 1) (slots' := 16) (pc' := 23) [(.ref d_1), (.int 1), (.int k1)] [] (ww hw 253 rfl) (ww hw 254 rfl) (ww hw 128 rfl) (ww hw 255 rfl) (by decide) (c_putChar l Z a0 hw h4 d_1 ky_1 (6 : Int32) ([(loB k0), (hiB k0), (.int 0), (.int 0), (.int 0), (.int 0)]) (1 : Int32) (2 : Int32) (3 : Int32) k1 (by decide) (by decide) (by decide) (by decide) (by decide) (by decide) (nl rfl) (nl rfl) sad shi slo ge_d_1 VL6) pd_6 d49_20 rfl ?_
  rintro _ h9 ⟨rfl, K9, F9_0⟩
  have K10 := K5.trans K9 (allS (Or.inr sz_d_1) all0)
  have VL11 : AB Z h9 d_1 ky_1 (6 : Int32) [(loB k0), (hiB k0), (loB k1), (hiB k1), (.int 0), (.int 0)] (.int 0) := F9_0
  show Go _ _ _ _ _ _ _ _ _ _ _ _ 23 _ []
  refine Go.iinc (pc' := 26) (Ls' := #[.val (.ref t), .val (.int ((1 : Int32) + (1 : Int32))), .val (.int 3), .val (.ref d_1), .val (.int 1)]) (w := (1 : Int32)) d49_23 rfl rfl rfl rfl ?_
  show Go _ _ _ _ _ _ _ _ _ _ _ _ 26 #[.val (.ref t), .val (.int 2), .val (.int 3), .val (.ref d_1), .val (.int 1)] []
  refine Go.iinc (pc' := 29) (Ls' := #[.val (.ref t), .val (.int 2), .val (.int 3), .val (.ref d_1), .val (.int ((1 : Int32) + (1 : Int32)))]) (w := (1 : Int32)) d49_26 rfl rfl rfl rfl ?_
  show Go _ _ _ _ _ _ _ _ _ _ _ _ 29 #[.val (.ref t), .val (.int 2), .val (.int 3), .val (.ref d_1), .val (.int 2)] []
  refine Go.goto (pc' := 8) d49_29 (by decide) (by decide) ?_
  refine Go.iload (pc' := 10) d49_8 rfl rfl ?_
  refine Go.iloadN (pc' := 11) d49_10 rfl rfl ?_
  refine Go.icmpNo (pc' := 14) d49_11 (XT.ii_ge_f (by decide)) rfl ?_
  refine Go.aloadN (pc' := 15) d49_14 rfl rfl rfl ?_
  refine Go.iload (pc' := 17) d49_15 rfl rfl ?_
  refine Go.aloadN (pc' := 18) d49_17 rfl rfl rfl ?_
  refine Go.iloadN (pc' := 19) d49_18 rfl rfl ?_
  refine Go.caload (pc' := 20) (v := k2) (f8.keep K9 (ninS ne7 nin0)) d49_19 (by decide) (by decide) rfl rfl ?_
  refine Go.callS (cells' := 1) (slots' := 16) (pc' := 23) [(.ref d_1), (.int 2), (.int k2)] [] (ww hw 253 rfl) (ww hw 254 rfl) (ww hw 128 rfl) (ww hw 255 rfl) (by decide) (c_putChar l Z a0 hw h9 d_1 ky_1 (6 : Int32) ([(loB k0), (hiB k0), (loB k1), (hiB k1), (.int 0), (.int 0)]) (2 : Int32) (4 : Int32) (5 : Int32) k2 (by decide) (by decide) (by decide) (by decide) (by decide) (by decide) (nl rfl) (nl rfl) sad shi slo ge_d_1 VL11) pd_6 d49_20 rfl ?_
  rintro _ h12 ⟨rfl, K12, F12_0⟩
  have K13 := K10.trans K12 (allS (Or.inr sz_d_1) all0)
  have VL14 : AB Z h12 d_1 ky_1 (6 : Int32) [(loB k0), (hiB k0), (loB k1), (hiB k1), (loB k2), (hiB k2)] (.int 0) := F12_0
  show Go _ _ _ _ _ _ _ _ _ _ _ _ 23 _ []
  refine Go.iinc (pc' := 26) (Ls' := #[.val (.ref t), .val (.int ((2 : Int32) + (1 : Int32))), .val (.int 3), .val (.ref d_1), .val (.int 2)]) (w := (1 : Int32)) d49_23 rfl rfl rfl rfl ?_
  show Go _ _ _ _ _ _ _ _ _ _ _ _ 26 #[.val (.ref t), .val (.int 3), .val (.int 3), .val (.ref d_1), .val (.int 2)] []
  refine Go.iinc (pc' := 29) (Ls' := #[.val (.ref t), .val (.int 3), .val (.int 3), .val (.ref d_1), .val (.int ((2 : Int32) + (1 : Int32)))]) (w := (1 : Int32)) d49_26 rfl rfl rfl rfl ?_
  show Go _ _ _ _ _ _ _ _ _ _ _ _ 29 #[.val (.ref t), .val (.int 3), .val (.int 3), .val (.ref d_1), .val (.int 3)] []
  refine Go.goto (pc' := 8) d49_29 (by decide) (by decide) ?_
  refine Go.iload (pc' := 10) d49_8 rfl rfl ?_
  refine Go.iloadN (pc' := 11) d49_10 rfl rfl ?_
  refine Go.icmpYes (pc' := 32) d49_11 (XT.ii_ge_t (by decide)) (by decide) (by decide) ?_
  refine Go.aloadN (pc' := 33) d49_32 rfl rfl rfl ?_
  exact Go.retR rfl rfl rfl rfl d49_33 ⟨d_1, ky_1, rfl, K13, ge_d_1, sz_d_1, VL14, (((F1_1.keep K4).keep K9).keep K12)⟩
theorem c_cmp3_0 (hw : HW a0 Z) (h : Heap) (t : Addr) (kt : ClassId) (k0 k1 k2 : Int32) (hk0 : (255 : Int32) < k0) (hn0 : nar .char k0 = k0) (hn1 : nar .char k1 = k1) (hn2 : nar .char k2 = k2) (sad : Zad Z (.int 1)) (shi : Zhi Z (.int 0)) (slo : Zlo Z (.int 8)) (vt : Arv Z h t kt .char (3 : Int32) [(.int k0), (.int k1), (.int k2)] (.int 0)) :
    Con l M_54 q22 6 (some (.array .byte)) (rm4 3 2 19 40) Z n0 #[(.ref t), (.int 0), (.int 3)] h (fun v h' => ∃ d : Addr, ∃ ky : ClassId, v = some (.ref d) ∧ Keep h h' [] ∧ n0 ≤ d ∧ h.size ≤ d ∧ AB Z h' d ky (6 : Int32) [(loB k0), (hiB k0), (loB k1), (hiB k1), (loB k2), (hiB k2)] (.int 0) ∧ EA Z h' d) := by
  refine Con.of_go (plainFor_of_name pn_2) (Ls := #[.val (.ref t), .val (.int 0), .val (.int 3), .unset, .unset, .unset]) ?_
  refine Go.iloadN (pc' := 1) d22_0 rfl rfl ?_
  refine Go.newarray (pc' := 3) (cells' := 1) (slots' := 3) (cap := 3) (ww hw 21 rfl) d22_1 (ad := "[B") (by decide) (by decide) (by decide) rfl rfl (by decide) (by decide) (by decide) rfl ?_
  intro h1 b1 g1 E1 ge1 kA1 A1 X1
  have K2 := (Keep.refl h []).ext E1
  have V1 : AB Z h1 b1 kA1 (3 : Int32) [(.int 0), (.int 0), (.int 0)] (.int 0) := Arv.pad A1 (pad_rep [] (.int 0) 3)
  refine Go.astoreN (pc' := 4) (Ls' := #[.val (.ref t), .val (.int 0), .val (.int 3), .val (.ref b1), .unset, .unset]) d22_3 rfl rfl rfl ?_
  refine Go.aloadN (pc' := 5) d22_4 rfl rfl rfl ?_
  refine Go.iloadN (pc' := 6) d22_5 rfl rfl ?_
  refine Go.aloadN (pc' := 7) d22_6 rfl rfl rfl ?_
  refine Go.iconst (pc' := 8) (v := 0) d22_7 rfl rfl ?_
  refine Go.iloadN (pc' := 9) d22_8 rfl rfl ?_
  have ne3 := (Nat.ne_of_lt (Nat.lt_of_lt_of_le vt.lt (Nat.le_of_eq g1.symm)))
  refine Go.callS (cells' := 1) (slots' := 3) (pc' := 12) [(.ref t), (.int 0), (.ref b1), (.int 0), (.int 3)] [] (ww hw 130 rfl) (ww hw 131 rfl) (ww hw 128 rfl) (ww hw 132 rfl) (by decide) (c_cmpU0 l Z a0 hw h1 t kt ([(.int k0), (.int k1), (.int k2)]) b1 kA1 ([(.int 0), (.int 0), (.int 0)]) (3 : Int32) k0 hk0 (by decide) rfl ge1 ne3 (vt.ext E1) V1) pd_32 d22_9 rfl ?_
  rintro _ h4 ⟨rfl, K4⟩
  have K5 := K2.trans K4 (allS (Or.inr (Nat.le_of_eq g1.symm)) all0)
  show Go _ _ _ _ _ _ _ _ _ _ _ _ 12 _ [(.int 0)]
  refine Go.istore (pc' := 14) (Ls' := #[.val (.ref t), .val (.int 0), .val (.int 3), .val (.ref b1), .val (.int 0), .unset]) d22_12 rfl rfl ?_
  refine Go.iload (pc' := 16) d22_14 rfl rfl ?_
  refine Go.iloadN (pc' := 17) d22_16 rfl rfl ?_
  refine Go.icmpNo (pc' := 20) d22_17 (XT.ii_eq_f (by decide)) rfl ?_
  refine Go.aloadN (pc' := 21) d22_20 rfl rfl rfl ?_
  refine Go.iloadN (pc' := 22) d22_21 rfl rfl ?_
  refine Go.iloadN (pc' := 23) d22_22 rfl rfl ?_
  refine Go.callS (cells' := 2) (slots' := 19) (pc' := 26) [(.ref t), (.int 0), (.int 3)] [] (ww hw 243 rfl) (ww hw 244 rfl) (ww hw 128 rfl) (ww hw 245 rfl) (by decide) (c_toB3 l Z a0 hw h4 t kt k0 k1 k2 sad shi slo (((vt.ext E1).keep K4 (ninS ne3 nin0)))) pd_33 d22_23 rfl ?_
  rintro _ h6 ⟨d_6, ky_6, rfl, K6, ge_d_6, sz_d_6, F6_0, F6_1⟩
  have sz7 : h.size ≤ d_6 := Nat.le_trans K5.1 sz_d_6
  have K8 := K5.trans K6 all0
  show Go _ _ _ _ _ _ _ _ _ _ _ _ 26 _ [(.ref d_6)]
  refine Go.astore (pc' := 28) (Ls' := #[.val (.ref t), .val (.int 0), .val (.int 3), .val (.ref b1), .val (.int 0), .val (.ref d_6)]) d22_26 rfl rfl rfl ?_
  refine Go.aload (pc' := 30) d22_28 rfl rfl rfl ?_
  refine Go.iload (pc' := 32) d22_30 rfl rfl ?_
  refine Go.callS (cells' := 2) (slots' := 19) (pc' := 35) [(.ref d_6), (.int 0)] [] (ww hw 259 rfl) (ww hw 260 rfl) (ww hw 128 rfl) (ww hw 261 rfl) (by decide) (c_getChar l Z a0 hw h6 d_6 ky_6 (6 : Int32) ([(loB k0), (hiB k0), (loB k1), (hiB k1), (loB k2), (hiB k2)]) (0 : Int32) (0 : Int32) (1 : Int32) k0 (by decide) (by decide) (by decide) (by decide) (by decide) (by decide) rfl rfl hn0 sad shi slo F6_0) pd_28 d22_32 rfl ?_
  rintro _ _ ⟨rfl, rfl⟩
  show Go _ _ _ _ _ _ _ _ _ _ _ _ 35 _ [(.int k0)]
  refine Go.sipush (pc' := 38) (v := 255) d22_35 rfl rfl ?_
  refine Go.icmpYes (pc' := 54) d22_38 (XT.ii_gt_t hk0) (by decide) (by decide) ?_
  refine Go.aload (pc' := 56) d22_54 rfl rfl rfl ?_
  exact Go.retR rfl rfl rfl rfl d22_56 ⟨d_6, ky_6, rfl, K8, ge_d_6, sz7, F6_0, F6_1⟩
theorem c_cmp3_1 (hw : HW a0 Z) (h : Heap) (t : Addr) (kt : ClassId) (k0 k1 k2 : Int32) (hk0 : ¬ ((255 : Int32) < k0)) (hk1 : (255 : Int32) < k1) (hn0 : nar .char k0 = k0) (hn1 : nar .char k1 = k1) (hn2 : nar .char k2 = k2) (sad : Zad Z (.int 1)) (shi : Zhi Z (.int 0)) (slo : Zlo Z (.int 8)) (vt : Arv Z h t kt .char (3 : Int32) [(.int k0), (.int k1), (.int k2)] (.int 0)) :
    Con l M_54 q22 6 (some (.array .byte)) (rm4 3 2 19 40) Z n0 #[(.ref t), (.int 0), (.int 3)] h (fun v h' => ∃ d : Addr, ∃ ky : ClassId, v = some (.ref d) ∧ Keep h h' [] ∧ n0 ≤ d ∧ h.size ≤ d ∧ AB Z h' d ky (6 : Int32) [(loB k0), (hiB k0), (loB k1), (hiB k1), (loB k2), (hiB k2)] (.int 0) ∧ EA Z h' d) := by
  refine Con.of_go (plainFor_of_name pn_2) (Ls := #[.val (.ref t), .val (.int 0), .val (.int 3), .unset, .unset, .unset]) ?_
  refine Go.iloadN (pc' := 1) d22_0 rfl rfl ?_
  refine Go.newarray (pc' := 3) (cells' := 1) (slots' := 3) (cap := 3) (ww hw 21 rfl) d22_1 (ad := "[B") (by decide) (by decide) (by decide) rfl rfl (by decide) (by decide) (by decide) rfl ?_
  intro h1 b1 g1 E1 ge1 kA1 A1 X1
  have K2 := (Keep.refl h []).ext E1
  have V1 : AB Z h1 b1 kA1 (3 : Int32) [(.int 0), (.int 0), (.int 0)] (.int 0) := Arv.pad A1 (pad_rep [] (.int 0) 3)
  refine Go.astoreN (pc' := 4) (Ls' := #[.val (.ref t), .val (.int 0), .val (.int 3), .val (.ref b1), .unset, .unset]) d22_3 rfl rfl rfl ?_
  refine Go.aloadN (pc' := 5) d22_4 rfl rfl rfl ?_
  refine Go.iloadN (pc' := 6) d22_5 rfl rfl ?_
  refine Go.aloadN (pc' := 7) d22_6 rfl rfl rfl ?_
  refine Go.iconst (pc' := 8) (v := 0) d22_7 rfl rfl ?_
  refine Go.iloadN (pc' := 9) d22_8 rfl rfl ?_
  have ne3 := (Nat.ne_of_lt (Nat.lt_of_lt_of_le vt.lt (Nat.le_of_eq g1.symm)))
  refine Go.callS (cells' := 1) (slots' := 3) (pc' := 12) [(.ref t), (.int 0), (.ref b1), (.int 0), (.int 3)] [] (ww hw 130 rfl) (ww hw 131 rfl) (ww hw 128 rfl) (ww hw 132 rfl) (by decide) (c_cmpU1 l Z a0 hw h1 t kt ([(.int k0), (.int k1), (.int k2)]) b1 kA1 ([(.int 0), (.int 0), (.int 0)]) (3 : Int32) k0 k1 hk0 hk1 (by decide) rfl (by decide) rfl (nl rfl) ge1 ne3 (vt.ext E1) V1) pd_32 d22_9 rfl ?_
  rintro _ h4 ⟨rfl, K4⟩
  have K5 := K2.trans K4 (allS (Or.inr (Nat.le_of_eq g1.symm)) all0)
  show Go _ _ _ _ _ _ _ _ _ _ _ _ 12 _ [(.int 1)]
  refine Go.istore (pc' := 14) (Ls' := #[.val (.ref t), .val (.int 0), .val (.int 3), .val (.ref b1), .val (.int 1), .unset]) d22_12 rfl rfl ?_
  refine Go.iload (pc' := 16) d22_14 rfl rfl ?_
  refine Go.iloadN (pc' := 17) d22_16 rfl rfl ?_
  refine Go.icmpNo (pc' := 20) d22_17 (XT.ii_eq_f (by decide)) rfl ?_
  refine Go.aloadN (pc' := 21) d22_20 rfl rfl rfl ?_
  refine Go.iloadN (pc' := 22) d22_21 rfl rfl ?_
  refine Go.iloadN (pc' := 23) d22_22 rfl rfl ?_
  refine Go.callS (cells' := 2) (slots' := 19) (pc' := 26) [(.ref t), (.int 0), (.int 3)] [] (ww hw 243 rfl) (ww hw 244 rfl) (ww hw 128 rfl) (ww hw 245 rfl) (by decide) (c_toB3 l Z a0 hw h4 t kt k0 k1 k2 sad shi slo (((vt.ext E1).keep K4 (ninS ne3 nin0)))) pd_33 d22_23 rfl ?_
  rintro _ h6 ⟨d_6, ky_6, rfl, K6, ge_d_6, sz_d_6, F6_0, F6_1⟩
  have sz7 : h.size ≤ d_6 := Nat.le_trans K5.1 sz_d_6
  have K8 := K5.trans K6 all0
  show Go _ _ _ _ _ _ _ _ _ _ _ _ 26 _ [(.ref d_6)]
  refine Go.astore (pc' := 28) (Ls' := #[.val (.ref t), .val (.int 0), .val (.int 3), .val (.ref b1), .val (.int 1), .val (.ref d_6)]) d22_26 rfl rfl rfl ?_
  refine Go.aload (pc' := 30) d22_28 rfl rfl rfl ?_
  refine Go.iload (pc' := 32) d22_30 rfl rfl ?_
  refine Go.callS (cells' := 2) (slots' := 19) (pc' := 35) [(.ref d_6), (.int 1)] [] (ww hw 259 rfl) (ww hw 260 rfl) (ww hw 128 rfl) (ww hw 261 rfl) (by decide) (c_getChar l Z a0 hw h6 d_6 ky_6 (6 : Int32) ([(loB k0), (hiB k0), (loB k1), (hiB k1), (loB k2), (hiB k2)]) (1 : Int32) (2 : Int32) (3 : Int32) k1 (by decide) (by decide) (by decide) (by decide) (by decide) (by decide) rfl rfl hn1 sad shi slo F6_0) pd_28 d22_32 rfl ?_
  rintro _ _ ⟨rfl, rfl⟩
  show Go _ _ _ _ _ _ _ _ _ _ _ _ 35 _ [(.int k1)]
  refine Go.sipush (pc' := 38) (v := 255) d22_35 rfl rfl ?_
  refine Go.icmpYes (pc' := 54) d22_38 (XT.ii_gt_t hk1) (by decide) (by decide) ?_
  refine Go.aload (pc' := 56) d22_54 rfl rfl rfl ?_
  exact Go.retR rfl rfl rfl rfl d22_56 ⟨d_6, ky_6, rfl, K8, ge_d_6, sz7, F6_0, F6_1⟩
theorem c_cmp3_2 (hw : HW a0 Z) (h : Heap) (t : Addr) (kt : ClassId) (k0 k1 k2 : Int32) (hk0 : ¬ ((255 : Int32) < k0)) (hk1 : ¬ ((255 : Int32) < k1)) (hk2 : (255 : Int32) < k2) (hn0 : nar .char k0 = k0) (hn1 : nar .char k1 = k1) (hn2 : nar .char k2 = k2) (sad : Zad Z (.int 1)) (shi : Zhi Z (.int 0)) (slo : Zlo Z (.int 8)) (vt : Arv Z h t kt .char (3 : Int32) [(.int k0), (.int k1), (.int k2)] (.int 0)) :
    Con l M_54 q22 6 (some (.array .byte)) (rm4 3 2 19 40) Z n0 #[(.ref t), (.int 0), (.int 3)] h (fun v h' => ∃ d : Addr, ∃ ky : ClassId, v = some (.ref d) ∧ Keep h h' [] ∧ n0 ≤ d ∧ h.size ≤ d ∧ AB Z h' d ky (6 : Int32) [(loB k0), (hiB k0), (loB k1), (hiB k1), (loB k2), (hiB k2)] (.int 0) ∧ EA Z h' d) := by
  refine Con.of_go (plainFor_of_name pn_2) (Ls := #[.val (.ref t), .val (.int 0), .val (.int 3), .unset, .unset, .unset]) ?_
  refine Go.iloadN (pc' := 1) d22_0 rfl rfl ?_
  refine Go.newarray (pc' := 3) (cells' := 1) (slots' := 3) (cap := 3) (ww hw 21 rfl) d22_1 (ad := "[B") (by decide) (by decide) (by decide) rfl rfl (by decide) (by decide) (by decide) rfl ?_
  intro h1 b1 g1 E1 ge1 kA1 A1 X1
  have K2 := (Keep.refl h []).ext E1
  have V1 : AB Z h1 b1 kA1 (3 : Int32) [(.int 0), (.int 0), (.int 0)] (.int 0) := Arv.pad A1 (pad_rep [] (.int 0) 3)
  refine Go.astoreN (pc' := 4) (Ls' := #[.val (.ref t), .val (.int 0), .val (.int 3), .val (.ref b1), .unset, .unset]) d22_3 rfl rfl rfl ?_
  refine Go.aloadN (pc' := 5) d22_4 rfl rfl rfl ?_
  refine Go.iloadN (pc' := 6) d22_5 rfl rfl ?_
  refine Go.aloadN (pc' := 7) d22_6 rfl rfl rfl ?_
  refine Go.iconst (pc' := 8) (v := 0) d22_7 rfl rfl ?_
  refine Go.iloadN (pc' := 9) d22_8 rfl rfl ?_
  have ne3 := (Nat.ne_of_lt (Nat.lt_of_lt_of_le vt.lt (Nat.le_of_eq g1.symm)))
  refine Go.callS (cells' := 1) (slots' := 3) (pc' := 12) [(.ref t), (.int 0), (.ref b1), (.int 0), (.int 3)] [] (ww hw 130 rfl) (ww hw 131 rfl) (ww hw 128 rfl) (ww hw 132 rfl) (by decide) (c_cmpU2 l Z a0 hw h1 t kt ([(.int k0), (.int k1), (.int k2)]) b1 kA1 ([(.int 0), (.int 0), (.int 0)]) (3 : Int32) k0 k1 k2 hk0 hk1 hk2 (by decide) rfl (by decide) rfl (by decide) rfl (nl rfl) (nl rfl) ge1 ne3 (vt.ext E1) V1) pd_32 d22_9 rfl ?_
  rintro _ h4 ⟨rfl, K4⟩
  have K5 := K2.trans K4 (allS (Or.inr (Nat.le_of_eq g1.symm)) all0)
  show Go _ _ _ _ _ _ _ _ _ _ _ _ 12 _ [(.int 2)]
  refine Go.istore (pc' := 14) (Ls' := #[.val (.ref t), .val (.int 0), .val (.int 3), .val (.ref b1), .val (.int 2), .unset]) d22_12 rfl rfl ?_
  refine Go.iload (pc' := 16) d22_14 rfl rfl ?_
  refine Go.iloadN (pc' := 17) d22_16 rfl rfl ?_
  refine Go.icmpNo (pc' := 20) d22_17 (XT.ii_eq_f (by decide)) rfl ?_
  refine Go.aloadN (pc' := 21) d22_20 rfl rfl rfl ?_
  refine Go.iloadN (pc' := 22) d22_21 rfl rfl ?_
  refine Go.iloadN (pc' := 23) d22_22 rfl rfl ?_
  refine Go.callS (cells' := 2) (slots' := 19) (pc' := 26) [(.ref t), (.int 0), (.int 3)] [] (ww hw 243 rfl) (ww hw 244 rfl) (ww hw 128 rfl) (ww hw 245 rfl) (by decide) (c_toB3 l Z a0 hw h4 t kt k0 k1 k2 sad shi slo (((vt.ext E1).keep K4 (ninS ne3 nin0)))) pd_33 d22_23 rfl ?_
  rintro _ h6 ⟨d_6, ky_6, rfl, K6, ge_d_6, sz_d_6, F6_0, F6_1⟩
  have sz7 : h.size ≤ d_6 := Nat.le_trans K5.1 sz_d_6
  have K8 := K5.trans K6 all0
  show Go _ _ _ _ _ _ _ _ _ _ _ _ 26 _ [(.ref d_6)]
  refine Go.astore (pc' := 28) (Ls' := #[.val (.ref t), .val (.int 0), .val (.int 3), .val (.ref b1), .val (.int 2), .val (.ref d_6)]) d22_26 rfl rfl rfl ?_
  refine Go.aload (pc' := 30) d22_28 rfl rfl rfl ?_
  refine Go.iload (pc' := 32) d22_30 rfl rfl ?_
  refine Go.callS (cells' := 2) (slots' := 19) (pc' := 35) [(.ref d_6), (.int 2)] [] (ww hw 259 rfl) (ww hw 260 rfl) (ww hw 128 rfl) (ww hw 261 rfl) (by decide) (c_getChar l Z a0 hw h6 d_6 ky_6 (6 : Int32) ([(loB k0), (hiB k0), (loB k1), (hiB k1), (loB k2), (hiB k2)]) (2 : Int32) (4 : Int32) (5 : Int32) k2 (by decide) (by decide) (by decide) (by decide) (by decide) (by decide) rfl rfl hn2 sad shi slo F6_0) pd_28 d22_32 rfl ?_
  rintro _ _ ⟨rfl, rfl⟩
  show Go _ _ _ _ _ _ _ _ _ _ _ _ 35 _ [(.int k2)]
  refine Go.sipush (pc' := 38) (v := 255) d22_35 rfl rfl ?_
  refine Go.icmpYes (pc' := 54) d22_38 (XT.ii_gt_t hk2) (by decide) (by decide) ?_
  refine Go.aload (pc' := 56) d22_54 rfl rfl rfl ?_
  exact Go.retR rfl rfl rfl rfl d22_56 ⟨d_6, ky_6, rfl, K8, ge_d_6, sz7, F6_0, F6_1⟩
theorem c_cmp3_3 (hw : HW a0 Z) (h : Heap) (t : Addr) (kt : ClassId) (k0 k1 k2 : Int32) (hk0 : ¬ ((255 : Int32) < k0)) (hk1 : ¬ ((255 : Int32) < k1)) (hk2 : ¬ ((255 : Int32) < k2)) (vt : Arv Z h t kt .char (3 : Int32) [(.int k0), (.int k1), (.int k2)] (.int 0)) :
    Con l M_54 q22 6 (some (.array .byte)) (rm4 3 2 19 40) Z n0 #[(.ref t), (.int 0), (.int 3)] h (fun v h' => ∃ d : Addr, ∃ ky : ClassId, v = some (.ref d) ∧ Keep h h' [] ∧ n0 ≤ d ∧ h.size ≤ d ∧ AB Z h' d ky (3 : Int32) [(by8 k0), (by8 k1), (by8 k2)] (.int 0) ∧ EA Z h' d) := by
  refine Con.of_go (plainFor_of_name pn_2) (Ls := #[.val (.ref t), .val (.int 0), .val (.int 3), .unset, .unset, .unset]) ?_
  refine Go.iloadN (pc' := 1) d22_0 rfl rfl ?_
  refine Go.newarray (pc' := 3) (cells' := 1) (slots' := 3) (cap := 3) (ww hw 21 rfl) d22_1 (ad := "[B") (by decide) (by decide) (by decide) rfl rfl (by decide) (by decide) (by decide) rfl ?_
  intro h1 b1 g1 E1 ge1 kA1 A1 X1
  have K2 := (Keep.refl h []).ext E1
  have V1 : AB Z h1 b1 kA1 (3 : Int32) [(.int 0), (.int 0), (.int 0)] (.int 0) := Arv.pad A1 (pad_rep [] (.int 0) 3)
  refine Go.astoreN (pc' := 4) (Ls' := #[.val (.ref t), .val (.int 0), .val (.int 3), .val (.ref b1), .unset, .unset]) d22_3 rfl rfl rfl ?_
  refine Go.aloadN (pc' := 5) d22_4 rfl rfl rfl ?_
  refine Go.iloadN (pc' := 6) d22_5 rfl rfl ?_
  refine Go.aloadN (pc' := 7) d22_6 rfl rfl rfl ?_
  refine Go.iconst (pc' := 8) (v := 0) d22_7 rfl rfl ?_
  refine Go.iloadN (pc' := 9) d22_8 rfl rfl ?_
  have ne3 := (Nat.ne_of_lt (Nat.lt_of_lt_of_le vt.lt (Nat.le_of_eq g1.symm)))
  refine Go.callS (cells' := 1) (slots' := 3) (pc' := 12) [(.ref t), (.int 0), (.ref b1), (.int 0), (.int 3)] [] (ww hw 130 rfl) (ww hw 131 rfl) (ww hw 128 rfl) (ww hw 132 rfl) (by decide) (c_cmpL3 l Z a0 hw h1 t kt b1 kA1 k0 k1 k2 hk0 hk1 hk2 ge1 ne3 (vt.ext E1) V1) pd_32 d22_9 rfl ?_
  rintro _ h4 ⟨rfl, K4, F4_0⟩
  have K5 := K2.trans K4 (allS (Or.inr (Nat.le_of_eq g1.symm)) all0)
  show Go _ _ _ _ _ _ _ _ _ _ _ _ 12 _ [(.int 3)]
  refine Go.istore (pc' := 14) (Ls' := #[.val (.ref t), .val (.int 0), .val (.int 3), .val (.ref b1), .val (.int 3), .unset]) d22_12 rfl rfl ?_
  refine Go.iload (pc' := 16) d22_14 rfl rfl ?_
  refine Go.iloadN (pc' := 17) d22_16 rfl rfl ?_
  refine Go.icmpYes (pc' := 57) d22_17 (XT.ii_eq_t (by decide)) (by decide) (by decide) ?_
  refine Go.aloadN (pc' := 58) d22_57 rfl rfl rfl ?_
  exact Go.retR rfl rfl rfl rfl d22_58 ⟨b1, kA1, rfl, K5, ge1, (Nat.le_of_eq g1.symm), F4_0, (X1.keep K4)⟩
theorem c_jcmp3 (hw : HW a0 Z) (h : Heap) (t : Addr) (kt : ClassId) (k0 k1 k2 : Int32) (hn0 : nar .char k0 = k0) (hn1 : nar .char k1 = k1) (hn2 : nar .char k2 = k2) (sad : Zad Z (.int 1)) (shi : Zhi Z (.int 0)) (slo : Zlo Z (.int 8)) (vt : Arv Z h t kt .char (3 : Int32) [(.int k0), (.int k1), (.int k2)] (.int 0)) :
    Con l M_54 q22 6 (some (.array .byte)) (rm4 3 2 19 40) Z n0 #[(.ref t), (.int 0), (.int 3)] h (fun v h' => ∃ d : Addr, ∃ ky : ClassId, ∃ cd : Nat, v = some (.ref d) ∧ Keep h h' [] ∧ n0 ≤ d ∧ h.size ≤ d ∧ Arv Z h' d ky .byte (Int32.ofNat (encS cd [k0, k1, k2]).length) (encS cd [k0, k1, k2]) (.int 0) ∧ EA Z h' d ∧ (cd = 0 ∨ cd = 1) ∧ (cd = 0 → ∀ e ∈ [k0, k1, k2], ¬ (255 : Int32) < e)) := by
  by_cases hk0 : (255 : Int32) < k0
  · exact (c_cmp3_0 l Z a0 hw h t kt k0 k1 k2 hk0 hn0 hn1 hn2 sad shi slo vt).mono (fun v h' q => by
      obtain ⟨d, ky, q1, q2, q3, q4, q5, q6⟩ := q
      exact ⟨d, ky, 1, q1, q2, q3, q4, q5, q6, Or.inr rfl, (fun q => absurd q (by decide))⟩)
  · skip
    by_cases hk1 : (255 : Int32) < k1
    · exact (c_cmp3_1 l Z a0 hw h t kt k0 k1 k2 hk0 hk1 hn0 hn1 hn2 sad shi slo vt).mono (fun v h' q => by
        obtain ⟨d, ky, q1, q2, q3, q4, q5, q6⟩ := q
        exact ⟨d, ky, 1, q1, q2, q3, q4, q5, q6, Or.inr rfl, (fun q => absurd q (by decide))⟩)
    · skip
      by_cases hk2 : (255 : Int32) < k2
      · exact (c_cmp3_2 l Z a0 hw h t kt k0 k1 k2 hk0 hk1 hk2 hn0 hn1 hn2 sad shi slo vt).mono (fun v h' q => by
          obtain ⟨d, ky, q1, q2, q3, q4, q5, q6⟩ := q
          exact ⟨d, ky, 1, q1, q2, q3, q4, q5, q6, Or.inr rfl, (fun q => absurd q (by decide))⟩)
      · skip
        exact (c_cmp3_3 l Z a0 hw h t kt k0 k1 k2 hk0 hk1 hk2 vt).mono (fun v h' q => by
            obtain ⟨d, ky, q1, q2, q3, q4, q5, q6⟩ := q
            exact ⟨d, ky, 0, q1, q2, q3, q4, q5, q6, Or.inl rfl, (fun _ e he => by simp only [List.mem_cons, List.not_mem_nil, or_false] at he; rcases he with rfl | rfl | rfl <;> assumption)⟩)
theorem c_cf3_0 (hw : HW a0 Z) (h : Heap) (b : Addr) (kb : ClassId) (vs : List Value) (v : AB Z h b kb (3 : Int32) vs (.int 0)) :
    Con l M_55 q24 2 (some .byte) (rm4 0 0 0 0) Z n0 #[(.ref b), (.int 3)] h (fun v h' => v = some (.int 0) ∧ h = h') := by
  refine Con.of_go (plainFor_of_name pn_2) (Ls := #[.val (.ref b), .val (.int 3)]) ?_
  refine Go.iloadN (pc' := 1) d24_0 rfl rfl ?_
  refine Go.aloadN (pc' := 2) d24_1 rfl rfl rfl ?_
  refine Go.arraylength (pc' := 3) v d24_2 rfl ?_
  refine Go.isub (pc' := 4) d24_3 rfl ?_
  show Go _ _ _ _ _ _ _ _ _ _ _ _ 4 _ [(.int 0)]
  refine Go.bipush (pc' := 6) (v := 31) d24_4 rfl rfl ?_
  refine Go.iushr (pc' := 7) d24_6 rfl ?_
  show Go _ _ _ _ _ _ _ _ _ _ _ _ 7 _ [(.int 0)]
  refine Go.i2b (pc' := 8) d24_7 rfl ?_
  show Go _ _ _ _ _ _ _ _ _ _ _ _ 8 #[.val (.ref b), .val (.int 3)] [(.int 0)]
  exact Go.retN (t := .byte) rfl (by simp) d24_8 ⟨rfl, rfl⟩
theorem c_cf3_1 (hw : HW a0 Z) (h : Heap) (b : Addr) (kb : ClassId) (vs : List Value) (v : AB Z h b kb (6 : Int32) vs (.int 0)) :
    Con l M_55 q24 2 (some .byte) (rm4 0 0 0 0) Z n0 #[(.ref b), (.int 3)] h (fun v h' => v = some (.int 1) ∧ h = h') := by
  refine Con.of_go (plainFor_of_name pn_2) (Ls := #[.val (.ref b), .val (.int 3)]) ?_
  refine Go.iloadN (pc' := 1) d24_0 rfl rfl ?_
  refine Go.aloadN (pc' := 2) d24_1 rfl rfl rfl ?_
  refine Go.arraylength (pc' := 3) v d24_2 rfl ?_
  refine Go.isub (pc' := 4) d24_3 rfl ?_
  show Go _ _ _ _ _ _ _ _ _ _ _ _ 4 _ [(.int (-3 : Int32))]
  refine Go.bipush (pc' := 6) (v := 31) d24_4 rfl rfl ?_
  refine Go.iushr (pc' := 7) d24_6 rfl ?_
  show Go _ _ _ _ _ _ _ _ _ _ _ _ 7 _ [(.int 1)]
  refine Go.i2b (pc' := 8) d24_7 rfl ?_
  show Go _ _ _ _ _ _ _ _ _ _ _ _ 8 #[.val (.ref b), .val (.int 3)] [(.int 1)]
  exact Go.retN (t := .byte) rfl (by simp) d24_8 ⟨rfl, rfl⟩
theorem c_ini4_3 (hw : HW a0 Z) (h : Heap) (a t : Addr) (kt : ClassId) (k0 k1 k2 cp : Int32) (hcp : ¬ (cp = (0 : Int32))) (hn0 : nar .char k0 = k0) (hn1 : nar .char k1 = k1) (hn2 : nar .char k2 = k2) (scp : Zcp Z (.int cp)) (sad : Zad Z (.int 1)) (shi : Zhi Z (.int 0)) (slo : Zlo Z (.int 8)) (ge_a : n0 ≤ a) (xa : ES Z h a) (pf0 : GV Z h a .null) (pf1 : GK Z h a (.int 0)) (vt : Arv Z h t kt .char (3 : Int32) [(.int k0), (.int k1), (.int k2)] (.int 0)) :
    Con l M_56 q3 6 none (rm4 4 2 19 57) Z n0 #[(.ref a), (.ref t), (.int 0), (.int 3), .null] h (fun v h' => ∃ d : Addr, v = none ∧ Keep h h' [a] ∧ n0 ≤ d ∧ h.size ≤ d ∧ StrC Z h' a d ([k0, k1, k2])) := by
  refine Con.of_go (plainFor_of_name pn_0) (Ls := #[.val (.ref a), .val (.ref t), .val (.int 0), .val (.int 3), .val .null, .unset]) ?_
  refine Go.aloadN (pc' := 1) d3_0 rfl rfl rfl ?_
  refine Go.initO (pc' := 4) (ww hw 17 rfl) (ww hw 18 rfl) (ww hw 19 rfl) d3_1 rfl (nl rfl) (nl rfl) rfl ?_
  refine Go.iloadN (pc' := 5) d3_4 rfl rfl ?_
  refine Go.ifYes (pc' := 27) d3_5 (XT.i0_ne_t (by decide)) (by decide) (by decide) ?_
  refine Go.old (fun old1 => ?_)
  refine Go.getstatic (pc' := 30) (host := "") (Or.inl (ww hw 45 rfl)) Via.refl (scp.ext old1.2) d3_27 rfl ?_
  refine Go.ifNo (pc' := 33) d3_30 (XT.i0_eq_f hcp) rfl ?_
  refine Go.aloadN (pc' := 34) d3_33 rfl rfl rfl ?_
  refine Go.iloadN (pc' := 35) d3_34 rfl rfl ?_
  refine Go.iloadN (pc' := 36) d3_35 rfl rfl ?_
  refine Go.callS (cells' := 2) (slots' := 19) (pc' := 39) [(.ref t), (.int 0), (.int 3)] [] (ww hw 126 rfl) (ww hw 127 rfl) (ww hw 128 rfl) (ww hw 129 rfl) (by decide) (c_jcmp3 l Z a0 hw h t kt k0 k1 k2 hn0 hn1 hn2 sad shi slo vt) pd_33 d3_36 rfl ?_
  rintro _ h2 ⟨d_2, ky_2, cd_2, rfl, K2, ge_d_2, sz_d_2, F2_0, F2_1, P2_0, P2_1⟩
  have K3 := (Keep.refl h [a]).trans K2 all0
  show Go _ _ _ _ _ _ _ _ _ _ _ _ 39 _ [(.ref d_2)]
  rcases P2_0 with rfl | rfl
  ·
    have V4 : AB Z h2 d_2 ky_2 (3 : Int32) [(by8 k0), (by8 k1), (by8 k2)] (.int 0) := F2_0
    refine Go.astore (pc' := 41) (Ls' := #[.val (.ref a), .val (.ref t), .val (.int 0), .val (.int 3), .val .null, .val (.ref d_2)]) d3_39 rfl rfl rfl ?_
    refine Go.aloadN (pc' := 42) d3_41 rfl rfl rfl ?_
    refine Go.aload (pc' := 44) d3_42 rfl rfl rfl ?_
    refine Go.iloadN (pc' := 45) d3_44 rfl rfl ?_
    refine Go.callS (cells' := 2) (slots' := 19) (pc' := 48) [(.ref d_2), (.int 3)] [(.ref a)] (ww hw 133 rfl) (ww hw 134 rfl) (ww hw 128 rfl) (ww hw 135 rfl) (by decide) (c_cf3_0 l Z a0 hw h2 d_2 ky_2 ([(by8 k0), (by8 k1), (by8 k2)]) V4) pd_34 d3_45 rfl ?_
    rintro _ _ ⟨rfl, rfl⟩
    show Go _ _ _ _ _ _ _ _ _ _ _ _ 48 _ [(.int 0), (.ref a)]
    refine Go.putfieldN (pc' := 51) (ww hw 27 rfl) Via.refl (pf1.keep K2 nin0) (xa.keep K2) (Or.inr ⟨(ww hw 23 rfl), rfl, rfl⟩) (ww hw 7 rfl) (ty := .byte) (v' := (0 : Int32)) (by decide) (by first | rfl | decide) (by first | rfl | decide | exact fits_nar_byte _) ge_a d3_48 rfl ?_
    intro h6 W7
    have K8 := K3.wr W7 (Or.inl (List.mem_of_getElem? (i := 0) rfl))
    have f9 := (pf1.keep K2 nin0).same W7
    refine Go.aloadN (pc' := 52) d3_51 rfl rfl rfl ?_
    refine Go.aload (pc' := 54) d3_52 rfl rfl rfl ?_
    have f10 := ((pf0.keep K2 nin0).other W7 (Or.inr (sn_9 hw)))
    refine Go.putfield (pc' := 57) (host := "") (Or.inl (ww hw 26 rfl)) Via.refl f10 ((xa.keep K2).wr W7) (Or.inr ⟨(ww hw 22 rfl), rfl, rfl⟩) (ww hw 7 rfl) (ty := (.array .byte)) (by decide) rfl rfl ge_a d3_54 rfl ?_
    intro h11 W12
    have K13 := K8.wr W12 (Or.inl (List.mem_of_getElem? (i := 0) rfl))
    have f14 := f10.same W12
    have ne15 := (Nat.ne_of_lt (Nat.lt_of_lt_of_le pf0.lt sz_d_2))
    have f16 := ((V4.other W7 (Ne.symm ne15)).other W12 (Ne.symm ne15))
    exact Go.retV rfl d3_57 ⟨d_2, rfl, K13, ge_d_2, sz_d_2, ky_2, 0, Or.inl rfl, (f9.other W12 (Or.inr (sn_10 hw))), f14, f16, ((F2_1.wr W7).wr W12), P2_1, (fun e he => by simp only [List.mem_cons, List.not_mem_nil, or_false] at he; rcases he with rfl | rfl | rfl <;> assumption), (nl rfl)⟩
  ·
    have V17 : AB Z h2 d_2 ky_2 (6 : Int32) [(loB k0), (hiB k0), (loB k1), (hiB k1), (loB k2), (hiB k2)] (.int 0) := F2_0
    refine Go.astore (pc' := 41) (Ls' := #[.val (.ref a), .val (.ref t), .val (.int 0), .val (.int 3), .val .null, .val (.ref d_2)]) d3_39 rfl rfl rfl ?_
    refine Go.aloadN (pc' := 42) d3_41 rfl rfl rfl ?_
    refine Go.aload (pc' := 44) d3_42 rfl rfl rfl ?_
    refine Go.iloadN (pc' := 45) d3_44 rfl rfl ?_
    refine Go.callS (cells' := 2) (slots' := 19) (pc' := 48) [(.ref d_2), (.int 3)] [(.ref a)] (ww hw 133 rfl) (ww hw 134 rfl) (ww hw 128 rfl) (ww hw 135 rfl) (by decide) (c_cf3_1 l Z a0 hw h2 d_2 ky_2 ([(loB k0), (hiB k0), (loB k1), (hiB k1), (loB k2), (hiB k2)]) V17) pd_34 d3_45 rfl ?_
    rintro _ _ ⟨rfl, rfl⟩
    show Go _ _ _ _ _ _ _ _ _ _ _ _ 48 _ [(.int 1), (.ref a)]
    refine Go.putfieldN (pc' := 51) (ww hw 27 rfl) Via.refl (pf1.keep K2 nin0) (xa.keep K2) (Or.inr ⟨(ww hw 23 rfl), rfl, rfl⟩) (ww hw 7 rfl) (ty := .byte) (v' := (1 : Int32)) (by decide) (by first | rfl | decide) (by first | rfl | decide | exact fits_nar_byte _) ge_a d3_48 rfl ?_
    intro h19 W20
    have K21 := K3.wr W20 (Or.inl (List.mem_of_getElem? (i := 0) rfl))
    have f22 := (pf1.keep K2 nin0).same W20
    refine Go.aloadN (pc' := 52) d3_51 rfl rfl rfl ?_
    refine Go.aload (pc' := 54) d3_52 rfl rfl rfl ?_
    have f23 := ((pf0.keep K2 nin0).other W20 (Or.inr (sn_9 hw)))
    refine Go.putfield (pc' := 57) (host := "") (Or.inl (ww hw 26 rfl)) Via.refl f23 ((xa.keep K2).wr W20) (Or.inr ⟨(ww hw 22 rfl), rfl, rfl⟩) (ww hw 7 rfl) (ty := (.array .byte)) (by decide) rfl rfl ge_a d3_54 rfl ?_
    intro h24 W25
    have K26 := K21.wr W25 (Or.inl (List.mem_of_getElem? (i := 0) rfl))
    have f27 := f23.same W25
    have ne28 := (Nat.ne_of_lt (Nat.lt_of_lt_of_le pf0.lt sz_d_2))
    have f29 := ((V17.other W20 (Ne.symm ne28)).other W25 (Ne.symm ne28))
    exact Go.retV rfl d3_57 ⟨d_2, rfl, K26, ge_d_2, sz_d_2, ky_2, 1, Or.inr rfl, (f22.other W25 (Or.inr (sn_10 hw))), f27, f29, ((F2_1.wr W20).wr W25), (fun q => absurd q (by decide)), (fun e he => by simp only [List.mem_cons, List.not_mem_nil, or_false] at he; rcases he with rfl | rfl | rfl <;> assumption), (nl rfl)⟩
theorem c_ini3 (hw : HW a0 Z) (h : Heap) (a t : Addr) (kt : ClassId) (k0 k1 k2 cp : Int32) (hcp : ¬ (cp = (0 : Int32))) (hn0 : nar .char k0 = k0) (hn1 : nar .char k1 = k1) (hn2 : nar .char k2 = k2) (scp : Zcp Z (.int cp)) (sad : Zad Z (.int 1)) (shi : Zhi Z (.int 0)) (slo : Zlo Z (.int 8)) (ge_a : n0 ≤ a) (xa : ES Z h a) (pf0 : GV Z h a .null) (pf1 : GK Z h a (.int 0)) (vt : Arv Z h t kt .char (3 : Int32) [(.int k0), (.int k1), (.int k2)] (.int 0)) :
    Con l M_57 q2 2 none (rm4 5 2 19 74) Z n0 #[(.ref a), (.ref t)] h (fun v h' => ∃ d : Addr, v = none ∧ Keep h h' [a] ∧ n0 ≤ d ∧ h.size ≤ d ∧ StrC Z h' a d ([k0, k1, k2])) := by
  refine Con.of_go (plainFor_of_name pn_0) (Ls := #[.val (.ref a), .val (.ref t)]) ?_
  refine Go.aloadN (pc' := 1) d2_0 rfl rfl rfl ?_
  refine Go.aloadN (pc' := 2) d2_1 rfl rfl rfl ?_
  refine Go.iconst (pc' := 3) (v := 0) d2_2 rfl rfl ?_
  refine Go.aloadN (pc' := 4) d2_3 rfl rfl rfl ?_
  refine Go.arraylength (pc' := 5) vt d2_4 rfl ?_
  refine Go.aconstNull (pc' := 6) d2_5 rfl ?_
  refine Go.callC (cells' := 2) (slots' := 19) (pc' := 9) [(.ref t), (.int 0), (.int 3), .null] [] (a := a) rfl rfl (ww hw 13 rfl) (ww hw 14 rfl) (ww hw 8 rfl) (ww hw 16 rfl) (by decide) (c_ini4_3 l Z a0 hw h a t kt k0 k1 k2 cp hcp hn0 hn1 hn2 scp sad shi slo ge_a xa pf0 pf1 vt) pd_35 d2_6 rfl ?_
  rintro _ h1 ⟨d_1, rfl, K1, ge_d_1, sz_d_1, F1_0⟩
  show Go _ _ _ _ _ _ _ _ _ _ _ _ 9 _ []
  exact Go.retV rfl d2_9 ⟨d_1, rfl, K1, ge_d_1, sz_d_1, F1_0⟩
theorem c_escR3 (hw : HW a0 Z) (hs h : Heap) (s a t : Addr) (kt : ClassId) (b : Addr) (cs : List Int32) (es : List Int32) (E : List Int32) (LL : List (String × Addr × String × Nat)) (cp : Int32) (wf : Value) (cq : Int32) (hcp : ¬ (cp = (0 : Int32))) (hwf : wf.isRef = true) (hm : n0 ≤ hs.size) (h3 : cs.length ≤ 3) (hi : 3 ≤ cs.length) (hn : ∀ e ∈ cs, nar .char e = e) (hE : es ++ escs (cs.drop 3) = E) (hcw : Jvm.Lit.compactW.before a0 Z = true) (hch122 : Jvm.Lit.constHeld Z "com/example/aligned_index/alignedindex/inspect/Inspector" 122) (hch127 : Jvm.Lit.constHeld Z "com/example/aligned_index/alignedindex/inspect/Inspector" 127) (hch129 : Jvm.Lit.constHeld Z "com/example/aligned_index/alignedindex/inspect/Inspector" 129) (hch131 : Jvm.Lit.constHeld Z "com/example/aligned_index/alignedindex/inspect/Inspector" 131) (scp : Zcp Z (.int cp)) (sad : Zad Z (.int 1)) (shi : Zhi Z (.int 0)) (slo : Zlo Z (.int 8)) (sfm : Zfm Z wf) (ne_t_a : t ≠ a) (ne_t_b : t ≠ b) (xa : EB Z h a) (vt : Arv Z h t kt .char (Int32.ofNat cs.length) (cs.map Value.int) (.int 0)) (bd : Bld Z h a b hs.size cs.length 3 es) (ld : Lds Z h a b LL) (sz_a : hs.size ≤ a) (sz_b : hs.size ≤ b) (Kp : Keep hs h []) :
    GoS l (rm4 10 24 300 200) Z n0 M_58 q5 6 (some (.object "java/lang/String")) (fun v h' LL' => ∃ r : Addr, ∃ d : Addr, v = some (.ref r) ∧ Keep hs h' [] ∧ n0 ≤ r ∧ hs.size ≤ r ∧ n0 ≤ d ∧ hs.size ≤ d ∧ ES Z h' r ∧ StrC Z h' r d E) hs LL 19 210 h 23 #[.val (.ref s), .val (.ref a), .val (.ref t), .val (.int (Int32.ofNat cs.length)), .val (.int 3), .val (.int cq)] [] := by
  have hno : ¬ ((3 : Int32) < (Int32.ofNat cs.length)) := fun q => absurd (own_ltof 3 _ q h3 (by decide)) (by omega)
  refine GoS.iload (pc' := 25) d5_23 rfl rfl ?_
  refine GoS.iloadN (pc' := 26) d5_25 rfl rfl ?_
  refine GoS.icmpYes (pc' := 133) d5_26 (XT.ii_ge_t hno) (by decide) (by decide) ?_
  have hN : 3 = cs.length := own_geof 3 _ hno h3 hi
  have Bd1 : Bld Z h a b hs.size cs.length cs.length es := bd.toN hN
  refine GoS.aloadN (pc' := 134) d5_133 rfl rfl rfl ?_
  refine GoS.callV (cells' := 21) (slots' := 230) (pc' := 137) [] [] xa (ww hw 78 rfl) (ww hw 79 rfl) (nfS (ww hw 81 rfl)) (ww hw 81 rfl) (ww hw 80 rfl) (ww hw 34 rfl) (ww hw 82 rfl) (by decide) (Con.cold (c_toStr l Z a0 hw h a b hs.size cs.length es cp h3 hcp scp xa Bd1)) pd_36 d5_134 rfl ?_
  rintro _ h2 LLn ⟨⟨r_2, d_2, rfl, K2, ge_r_2, sz_r_2, ge_d_2, sz_d_2, F2_0, F2_1⟩, eLn⟩
  rw [eLn]
  clear eLn LLn
  have sz3 : hs.size ≤ r_2 := Nat.le_trans Kp.1 sz_r_2
  have sz4 : hs.size ≤ d_2 := Nat.le_trans Kp.1 sz_d_2
  have K5 := Kp.trans K2 all0
  show GoS _ _ _ _ _ _ _ _ _ _ _ _ _ _ 137 _ [(.ref r_2)]
  exact GoS.retR rfl rfl rfl rfl d5_137 ⟨r_2, d_2, rfl, K5, ge_r_2, sz3, ge_d_2, sz4, F2_0, (esc_end hE hN) ▸ F2_1⟩
theorem c_escR2 (hw : HW a0 Z) (hs h : Heap) (s a t : Addr) (kt : ClassId) (b : Addr) (cs : List Int32) (es : List Int32) (E : List Int32) (LL : List (String × Addr × String × Nat)) (cp : Int32) (wf : Value) (cq : Int32) (hcp : ¬ (cp = (0 : Int32))) (hwf : wf.isRef = true) (hm : n0 ≤ hs.size) (h3 : cs.length ≤ 3) (hi : 2 ≤ cs.length) (hn : ∀ e ∈ cs, nar .char e = e) (hE : es ++ escs (cs.drop 2) = E) (hcw : Jvm.Lit.compactW.before a0 Z = true) (hch122 : Jvm.Lit.constHeld Z "com/example/aligned_index/alignedindex/inspect/Inspector" 122) (hch127 : Jvm.Lit.constHeld Z "com/example/aligned_index/alignedindex/inspect/Inspector" 127) (hch129 : Jvm.Lit.constHeld Z "com/example/aligned_index/alignedindex/inspect/Inspector" 129) (hch131 : Jvm.Lit.constHeld Z "com/example/aligned_index/alignedindex/inspect/Inspector" 131) (scp : Zcp Z (.int cp)) (sad : Zad Z (.int 1)) (shi : Zhi Z (.int 0)) (slo : Zlo Z (.int 8)) (sfm : Zfm Z wf) (ne_t_a : t ≠ a) (ne_t_b : t ≠ b) (xa : EB Z h a) (vt : Arv Z h t kt .char (Int32.ofNat cs.length) (cs.map Value.int) (.int 0)) (bd : Bld Z h a b hs.size cs.length 2 es) (ld : Lds Z h a b LL) (sz_a : hs.size ≤ a) (sz_b : hs.size ≤ b) (Kp : Keep hs h []) :
    GoS l (rm4 10 24 300 200) Z n0 M_58 q5 6 (some (.object "java/lang/String")) (fun v h' LL' => ∃ r : Addr, ∃ d : Addr, v = some (.ref r) ∧ Keep hs h' [] ∧ n0 ≤ r ∧ hs.size ≤ r ∧ n0 ≤ d ∧ hs.size ≤ d ∧ ES Z h' r ∧ StrC Z h' r d E) hs LL 14 150 h 23 #[.val (.ref s), .val (.ref a), .val (.ref t), .val (.int (Int32.ofNat cs.length)), .val (.int 2), .val (.int cq)] [] := by
  refine GoS.iload (pc' := 25) d5_23 rfl rfl ?_
  refine GoS.iloadN (pc' := 26) d5_25 rfl rfl ?_
  by_cases hc1 : (2 : Int32) < (Int32.ofNat cs.length)
  ·
    refine GoS.icmpNo (pc' := 29) d5_26 (XT.ii_ge_f hc1) rfl ?_
    have hlt : 2 < cs.length := own_ltof 2 _ hc1 h3 (by decide)
    obtain ⟨c, hc0⟩ : ∃ c, cs.getD 2 0 = c := ⟨_, rfl⟩
    have hdr : cs.drop 2 = c :: cs.drop 3 := hc0 ▸ own_drop hlt
    have hnc : nar .char c = c := hn c (own_memD hlt hc0)
    refine GoS.aloadN (pc' := 30) d5_29 rfl rfl rfl ?_
    refine GoS.iload (pc' := 32) d5_30 rfl rfl ?_
    refine GoS.caload (pc' := 33) (v := c) vt d5_32 (by decide) hc1 (mapget cs 2 c hlt hc0) rfl ?_
    refine GoS.istore (pc' := 35) (Ls' := #[.val (.ref s), .val (.ref a), .val (.ref t), .val (.int (Int32.ofNat cs.length)), .val (.int 2), .val (.int c)]) d5_33 rfl rfl ?_
    refine GoS.iload (pc' := 37) d5_35 rfl rfl ?_
    by_cases hs9 : c = (9 : Int32)
    ·
      rw [hs9]
      refine GoS.lsw (pc' := 90) (o := 53) d5_37 (by decide) (by decide) (by decide) (by decide) ?_
      refine GoS.aloadN (pc' := 91) d5_90 rfl rfl rfl ?_
      refine GoS.ldcE (pc' := 93) (cells' := 16) (slots' := 162) (k := (116 : Int32)) (ww hw 242 rfl) (wsA hw) hch127 hcw Kp ld k4a_127 k4b_127 k4c_127 (by decide) d5_91 sz_a bd.lt0 sz_b bd.lt1 rfl rfl (nl rfl) (nl rfl) rfl ?_
      intro h2 sa2 sb2 LL2 E2 X2 L2 na2 nb2 Ld2
      have K3 := Kp.ext E2
      refine GoS.callV (cells' := 17) (slots' := 178) (pc' := 96) [(.ref sa2)] [] (xa.ext E2) (ww hw 137 rfl) (ww hw 138 rfl) (nfS (ww hw 140 rfl)) (ww hw 140 rfl) (ww hw 139 rfl) (ww hw 34 rfl) (ww hw 141 rfl) (by decide) (Con.cold (c_sbS l Z a0 hw h2 a b hs.size cs.length 2 es sa2 sb2 (116 : Int32) cp wf hm (own_ni 2 hlt h3) (by decide) (by decide) (by decide) hcp hwf scp sad shi slo sfm na2 (xa.ext E2) (bd.ext E2) X2 L2)) pd_37 d5_93 rfl ?_
      rintro _ h4 LLn ⟨⟨bq_4, rfl, K4, F4_0, P4_0⟩, eLn⟩
      rw [eLn]
      clear eLn LLn
      have K5 := K3.trans K4 (allS (Or.inr sz_a) (allS (Or.inr sz_b) all0))
      show GoS _ _ _ _ _ _ _ _ _ _ _ _ _ _ 96 _ [(.ref a)]
      have Ld6 : Lds Z h4 a bq_4 LL2 := Ld2.step K4 P4_0
      have ne7 := own_tne ne_t_b (vt.ext E2).lt P4_0
      refine GoS.pop (pc' := 97) d5_96 rfl rfl ?_
      refine GoS.goto (pc' := 127) d5_97 (by decide) (by decide) ?_
      refine GoS.iinc (pc' := 130) (Ls' := #[.val (.ref s), .val (.ref a), .val (.ref t), .val (.int (Int32.ofNat cs.length)), .val (.int ((2 : Int32) + (1 : Int32))), .val (.int 9)]) (w := (1 : Int32)) d5_127 rfl rfl rfl rfl ?_
      show GoS _ _ _ _ _ _ _ _ _ _ _ _ _ _ 130 #[.val (.ref s), .val (.ref a), .val (.ref t), .val (.int (Int32.ofNat cs.length)), .val (.int 3), .val (.int 9)] []
      refine GoS.goto (pc' := 23) d5_130 (by decide) (by decide) ?_
      have f8 := ((vt.ext E2).keep K4 (ninS ne_t_a (ninS ne_t_b nin0)))
      exact GoS.more (c_escR3 l Z a0 hw hs h4 s a t kt bq_4 cs ((es ++ [(92 : Int32), (116 : Int32)])) E LL2 cp wf (9 : Int32) hcp hwf hm h3 hlt hn ((esc_go hE hdr (esc_S hs9 (by decide) (by decide)))) hcw hch122 hch127 hch129 hch131 scp sad shi slo sfm ne_t_a ne7 (((xa.ext E2).keep K4)) f8 F4_0 Ld6 sz_a F4_0.mb K5) (nl rfl) (nl rfl)
    ·
      by_cases hs10 : c = (10 : Int32)
      ·
        rw [hs10]
        refine GoS.lsw (pc' := 100) (o := 63) d5_37 (by decide) (by decide) (by decide) (by decide) ?_
        refine GoS.aloadN (pc' := 101) d5_100 rfl rfl rfl ?_
        refine GoS.ldcE (pc' := 103) (cells' := 16) (slots' := 162) (k := (110 : Int32)) (ww hw 136 rfl) (wsA hw) hch129 hcw Kp ld k4a_129 k4b_129 k4c_129 (by decide) d5_101 sz_a bd.lt0 sz_b bd.lt1 rfl rfl (nl rfl) (nl rfl) rfl ?_
        intro h9 sa9 sb9 LL9 E9 X9 L9 na9 nb9 Ld9
        have K10 := Kp.ext E9
        refine GoS.callV (cells' := 17) (slots' := 178) (pc' := 106) [(.ref sa9)] [] (xa.ext E9) (ww hw 137 rfl) (ww hw 138 rfl) (nfS (ww hw 140 rfl)) (ww hw 140 rfl) (ww hw 139 rfl) (ww hw 34 rfl) (ww hw 141 rfl) (by decide) (Con.cold (c_sbS l Z a0 hw h9 a b hs.size cs.length 2 es sa9 sb9 (110 : Int32) cp wf hm (own_ni 2 hlt h3) (by decide) (by decide) (by decide) hcp hwf scp sad shi slo sfm na9 (xa.ext E9) (bd.ext E9) X9 L9)) pd_37 d5_103 rfl ?_
        rintro _ h11 LLn ⟨⟨bq_11, rfl, K11, F11_0, P11_0⟩, eLn⟩
        rw [eLn]
        clear eLn LLn
        have K12 := K10.trans K11 (allS (Or.inr sz_a) (allS (Or.inr sz_b) all0))
        show GoS _ _ _ _ _ _ _ _ _ _ _ _ _ _ 106 _ [(.ref a)]
        have Ld13 : Lds Z h11 a bq_11 LL9 := Ld9.step K11 P11_0
        have ne14 := own_tne ne_t_b (vt.ext E9).lt P11_0
        refine GoS.pop (pc' := 107) d5_106 rfl rfl ?_
        refine GoS.goto (pc' := 127) d5_107 (by decide) (by decide) ?_
        refine GoS.iinc (pc' := 130) (Ls' := #[.val (.ref s), .val (.ref a), .val (.ref t), .val (.int (Int32.ofNat cs.length)), .val (.int ((2 : Int32) + (1 : Int32))), .val (.int 10)]) (w := (1 : Int32)) d5_127 rfl rfl rfl rfl ?_
        show GoS _ _ _ _ _ _ _ _ _ _ _ _ _ _ 130 #[.val (.ref s), .val (.ref a), .val (.ref t), .val (.int (Int32.ofNat cs.length)), .val (.int 3), .val (.int 10)] []
        refine GoS.goto (pc' := 23) d5_130 (by decide) (by decide) ?_
        have f15 := ((vt.ext E9).keep K11 (ninS ne_t_a (ninS ne_t_b nin0)))
        exact GoS.more (c_escR3 l Z a0 hw hs h11 s a t kt bq_11 cs ((es ++ [(92 : Int32), (110 : Int32)])) E LL9 cp wf (10 : Int32) hcp hwf hm h3 hlt hn ((esc_go hE hdr (esc_S hs10 (by decide) (by decide)))) hcw hch122 hch127 hch129 hch131 scp sad shi slo sfm ne_t_a ne14 (((xa.ext E9).keep K11)) f15 F11_0 Ld13 sz_a F11_0.mb K12) (nl rfl) (nl rfl)
      ·
        by_cases hs13 : c = (13 : Int32)
        ·
          rw [hs13]
          refine GoS.lsw (pc' := 110) (o := 73) d5_37 (by decide) (by decide) (by decide) (by decide) ?_
          refine GoS.aloadN (pc' := 111) d5_110 rfl rfl rfl ?_
          refine GoS.ldcE (pc' := 113) (cells' := 16) (slots' := 162) (k := (114 : Int32)) (ww hw 172 rfl) (wsA hw) hch131 hcw Kp ld k4a_131 k4b_131 k4c_131 (by decide) d5_111 sz_a bd.lt0 sz_b bd.lt1 rfl rfl (nl rfl) (nl rfl) rfl ?_
          intro h16 sa16 sb16 LL16 E16 X16 L16 na16 nb16 Ld16
          have K17 := Kp.ext E16
          refine GoS.callV (cells' := 17) (slots' := 178) (pc' := 116) [(.ref sa16)] [] (xa.ext E16) (ww hw 137 rfl) (ww hw 138 rfl) (nfS (ww hw 140 rfl)) (ww hw 140 rfl) (ww hw 139 rfl) (ww hw 34 rfl) (ww hw 141 rfl) (by decide) (Con.cold (c_sbS l Z a0 hw h16 a b hs.size cs.length 2 es sa16 sb16 (114 : Int32) cp wf hm (own_ni 2 hlt h3) (by decide) (by decide) (by decide) hcp hwf scp sad shi slo sfm na16 (xa.ext E16) (bd.ext E16) X16 L16)) pd_37 d5_113 rfl ?_
          rintro _ h18 LLn ⟨⟨bq_18, rfl, K18, F18_0, P18_0⟩, eLn⟩
          rw [eLn]
          clear eLn LLn
          have K19 := K17.trans K18 (allS (Or.inr sz_a) (allS (Or.inr sz_b) all0))
          show GoS _ _ _ _ _ _ _ _ _ _ _ _ _ _ 116 _ [(.ref a)]
          have Ld20 : Lds Z h18 a bq_18 LL16 := Ld16.step K18 P18_0
          have ne21 := own_tne ne_t_b (vt.ext E16).lt P18_0
          refine GoS.pop (pc' := 117) d5_116 rfl rfl ?_
          refine GoS.goto (pc' := 127) d5_117 (by decide) (by decide) ?_
          refine GoS.iinc (pc' := 130) (Ls' := #[.val (.ref s), .val (.ref a), .val (.ref t), .val (.int (Int32.ofNat cs.length)), .val (.int ((2 : Int32) + (1 : Int32))), .val (.int 13)]) (w := (1 : Int32)) d5_127 rfl rfl rfl rfl ?_
          show GoS _ _ _ _ _ _ _ _ _ _ _ _ _ _ 130 #[.val (.ref s), .val (.ref a), .val (.ref t), .val (.int (Int32.ofNat cs.length)), .val (.int 3), .val (.int 13)] []
          refine GoS.goto (pc' := 23) d5_130 (by decide) (by decide) ?_
          have f22 := ((vt.ext E16).keep K18 (ninS ne_t_a (ninS ne_t_b nin0)))
          exact GoS.more (c_escR3 l Z a0 hw hs h18 s a t kt bq_18 cs ((es ++ [(92 : Int32), (114 : Int32)])) E LL16 cp wf (13 : Int32) hcp hwf hm h3 hlt hn ((esc_go hE hdr (esc_S hs13 (by decide) (by decide)))) hcw hch122 hch127 hch129 hch131 scp sad shi slo sfm ne_t_a ne21 (((xa.ext E16).keep K18)) f22 F18_0 Ld20 sz_a F18_0.mb K19) (nl rfl) (nl rfl)
        ·
          by_cases hs92 : c = (92 : Int32)
          ·
            rw [hs92]
            refine GoS.lsw (pc' := 80) (o := 43) d5_37 (by decide) (by decide) (by decide) (by decide) ?_
            refine GoS.aloadN (pc' := 81) d5_80 rfl rfl rfl ?_
            refine GoS.ldcE (pc' := 83) (cells' := 16) (slots' := 162) (k := (92 : Int32)) (ww hw 304 rfl) (wsA hw) hch122 hcw Kp ld k4a_122 k4b_122 k4c_122 (by decide) d5_81 sz_a bd.lt0 sz_b bd.lt1 rfl rfl (nl rfl) (nl rfl) rfl ?_
            intro h23 sa23 sb23 LL23 E23 X23 L23 na23 nb23 Ld23
            have K24 := Kp.ext E23
            refine GoS.callV (cells' := 17) (slots' := 178) (pc' := 86) [(.ref sa23)] [] (xa.ext E23) (ww hw 137 rfl) (ww hw 138 rfl) (nfS (ww hw 140 rfl)) (ww hw 140 rfl) (ww hw 139 rfl) (ww hw 34 rfl) (ww hw 141 rfl) (by decide) (Con.cold (c_sbS l Z a0 hw h23 a b hs.size cs.length 2 es sa23 sb23 (92 : Int32) cp wf hm (own_ni 2 hlt h3) (by decide) (by decide) (by decide) hcp hwf scp sad shi slo sfm na23 (xa.ext E23) (bd.ext E23) X23 L23)) pd_37 d5_83 rfl ?_
            rintro _ h25 LLn ⟨⟨bq_25, rfl, K25, F25_0, P25_0⟩, eLn⟩
            rw [eLn]
            clear eLn LLn
            have K26 := K24.trans K25 (allS (Or.inr sz_a) (allS (Or.inr sz_b) all0))
            show GoS _ _ _ _ _ _ _ _ _ _ _ _ _ _ 86 _ [(.ref a)]
            have Ld27 : Lds Z h25 a bq_25 LL23 := Ld23.step K25 P25_0
            have ne28 := own_tne ne_t_b (vt.ext E23).lt P25_0
            refine GoS.pop (pc' := 87) d5_86 rfl rfl ?_
            refine GoS.goto (pc' := 127) d5_87 (by decide) (by decide) ?_
            refine GoS.iinc (pc' := 130) (Ls' := #[.val (.ref s), .val (.ref a), .val (.ref t), .val (.int (Int32.ofNat cs.length)), .val (.int ((2 : Int32) + (1 : Int32))), .val (.int 92)]) (w := (1 : Int32)) d5_127 rfl rfl rfl rfl ?_
            show GoS _ _ _ _ _ _ _ _ _ _ _ _ _ _ 130 #[.val (.ref s), .val (.ref a), .val (.ref t), .val (.int (Int32.ofNat cs.length)), .val (.int 3), .val (.int 92)] []
            refine GoS.goto (pc' := 23) d5_130 (by decide) (by decide) ?_
            have f29 := ((vt.ext E23).keep K25 (ninS ne_t_a (ninS ne_t_b nin0)))
            exact GoS.more (c_escR3 l Z a0 hw hs h25 s a t kt bq_25 cs ((es ++ [(92 : Int32), (92 : Int32)])) E LL23 cp wf (92 : Int32) hcp hwf hm h3 hlt hn ((esc_go hE hdr (esc_S hs92 (by decide) (by decide)))) hcw hch122 hch127 hch129 hch131 scp sad shi slo sfm ne_t_a ne28 (((xa.ext E23).keep K25)) f29 F25_0 Ld27 sz_a F25_0.mb K26) (nl rfl) (nl rfl)
          ·
            refine GoS.lsw (pc' := 120) (o := 83) d5_37 (by decide) (by simp only [lookupswitch.offset, (show ¬ (9 : Int) = c.toInt from own_ine (k := 9) hs9), (show ¬ (10 : Int) = c.toInt from own_ine (k := 10) hs10), (show ¬ (13 : Int) = c.toInt from own_ine (k := 13) hs13), (show ¬ (92 : Int) = c.toInt from own_ine (k := 92) hs92), if_false]) (by decide) (by decide) ?_
            refine GoS.aloadN (pc' := 121) d5_120 rfl rfl rfl ?_
            refine GoS.iload (pc' := 123) d5_121 rfl rfl ?_
            refine GoS.callV (cells' := 16) (slots' := 182) (pc' := 126) [(.int c)] [] xa (ww hw 229 rfl) (ww hw 230 rfl) (nfS (ww hw 232 rfl)) (ww hw 232 rfl) (ww hw 231 rfl) (ww hw 34 rfl) (ww hw 233 rfl) (by decide) (Con.cold (c_sbC l Z a0 hw h a b hs.size cs.length 2 es c cp wf hm (own_ni 2 hlt h3) hnc hcp hwf scp sad shi slo sfm xa bd)) pd_38 d5_123 rfl ?_
            rintro _ h30 LLn ⟨⟨bq_30, rfl, K30, F30_0, P30_0⟩, eLn⟩
            rw [eLn]
            clear eLn LLn
            have K31 := Kp.trans K30 (allS (Or.inr sz_a) (allS (Or.inr sz_b) all0))
            show GoS _ _ _ _ _ _ _ _ _ _ _ _ _ _ 126 _ [(.ref a)]
            have Ld32 : Lds Z h30 a bq_30 LL := ld.step K30 P30_0
            have ne33 := own_tne ne_t_b vt.lt P30_0
            refine GoS.pop (pc' := 127) d5_126 rfl rfl ?_
            refine GoS.iinc (pc' := 130) (Ls' := #[.val (.ref s), .val (.ref a), .val (.ref t), .val (.int (Int32.ofNat cs.length)), .val (.int ((2 : Int32) + (1 : Int32))), .val (.int c)]) (w := (1 : Int32)) d5_127 rfl rfl rfl rfl ?_
            show GoS _ _ _ _ _ _ _ _ _ _ _ _ _ _ 130 #[.val (.ref s), .val (.ref a), .val (.ref t), .val (.int (Int32.ofNat cs.length)), .val (.int 3), .val (.int c)] []
            refine GoS.goto (pc' := 23) d5_130 (by decide) (by decide) ?_
            have f34 := (vt.keep K30 (ninS ne_t_a (ninS ne_t_b nin0)))
            exact GoS.more (c_escR3 l Z a0 hw hs h30 s a t kt bq_30 cs (es ++ [c]) E LL cp wf c hcp hwf hm h3 hlt hn ((esc_go hE hdr (esc_N hs9 hs10 hs13 hs92))) hcw hch122 hch127 hch129 hch131 scp sad shi slo sfm ne_t_a ne33 (xa.keep K30) f34 F30_0 Ld32 sz_a F30_0.mb K31) (nl rfl) (nl rfl)
  ·
    refine GoS.icmpYes (pc' := 133) d5_26 (XT.ii_ge_t hc1) (by decide) (by decide) ?_
    have hN : 2 = cs.length := own_geof 2 _ hc1 h3 hi
    have Bd35 : Bld Z h a b hs.size cs.length cs.length es := bd.toN hN
    refine GoS.aloadN (pc' := 134) d5_133 rfl rfl rfl ?_
    refine GoS.callV (cells' := 16) (slots' := 170) (pc' := 137) [] [] xa (ww hw 78 rfl) (ww hw 79 rfl) (nfS (ww hw 81 rfl)) (ww hw 81 rfl) (ww hw 80 rfl) (ww hw 34 rfl) (ww hw 82 rfl) (by decide) (Con.cold (c_toStr l Z a0 hw h a b hs.size cs.length es cp h3 hcp scp xa Bd35)) pd_36 d5_134 rfl ?_
    rintro _ h36 LLn ⟨⟨r_36, d_36, rfl, K36, ge_r_36, sz_r_36, ge_d_36, sz_d_36, F36_0, F36_1⟩, eLn⟩
    rw [eLn]
    clear eLn LLn
    have sz37 : hs.size ≤ r_36 := Nat.le_trans Kp.1 sz_r_36
    have sz38 : hs.size ≤ d_36 := Nat.le_trans Kp.1 sz_d_36
    have K39 := Kp.trans K36 all0
    show GoS _ _ _ _ _ _ _ _ _ _ _ _ _ _ 137 _ [(.ref r_36)]
    exact GoS.retR rfl rfl rfl rfl d5_137 ⟨r_36, d_36, rfl, K39, ge_r_36, sz37, ge_d_36, sz38, F36_0, (esc_end hE hN) ▸ F36_1⟩
theorem c_escR1 (hw : HW a0 Z) (hs h : Heap) (s a t : Addr) (kt : ClassId) (b : Addr) (cs : List Int32) (es : List Int32) (E : List Int32) (LL : List (String × Addr × String × Nat)) (cp : Int32) (wf : Value) (cq : Int32) (hcp : ¬ (cp = (0 : Int32))) (hwf : wf.isRef = true) (hm : n0 ≤ hs.size) (h3 : cs.length ≤ 3) (hi : 1 ≤ cs.length) (hn : ∀ e ∈ cs, nar .char e = e) (hE : es ++ escs (cs.drop 1) = E) (hcw : Jvm.Lit.compactW.before a0 Z = true) (hch122 : Jvm.Lit.constHeld Z "com/example/aligned_index/alignedindex/inspect/Inspector" 122) (hch127 : Jvm.Lit.constHeld Z "com/example/aligned_index/alignedindex/inspect/Inspector" 127) (hch129 : Jvm.Lit.constHeld Z "com/example/aligned_index/alignedindex/inspect/Inspector" 129) (hch131 : Jvm.Lit.constHeld Z "com/example/aligned_index/alignedindex/inspect/Inspector" 131) (scp : Zcp Z (.int cp)) (sad : Zad Z (.int 1)) (shi : Zhi Z (.int 0)) (slo : Zlo Z (.int 8)) (sfm : Zfm Z wf) (ne_t_a : t ≠ a) (ne_t_b : t ≠ b) (xa : EB Z h a) (vt : Arv Z h t kt .char (Int32.ofNat cs.length) (cs.map Value.int) (.int 0)) (bd : Bld Z h a b hs.size cs.length 1 es) (ld : Lds Z h a b LL) (sz_a : hs.size ≤ a) (sz_b : hs.size ≤ b) (Kp : Keep hs h []) :
    GoS l (rm4 10 24 300 200) Z n0 M_58 q5 6 (some (.object "java/lang/String")) (fun v h' LL' => ∃ r : Addr, ∃ d : Addr, v = some (.ref r) ∧ Keep hs h' [] ∧ n0 ≤ r ∧ hs.size ≤ r ∧ n0 ≤ d ∧ hs.size ≤ d ∧ ES Z h' r ∧ StrC Z h' r d E) hs LL 9 90 h 23 #[.val (.ref s), .val (.ref a), .val (.ref t), .val (.int (Int32.ofNat cs.length)), .val (.int 1), .val (.int cq)] [] := by
  refine GoS.iload (pc' := 25) d5_23 rfl rfl ?_
  refine GoS.iloadN (pc' := 26) d5_25 rfl rfl ?_
  by_cases hc1 : (1 : Int32) < (Int32.ofNat cs.length)
  ·
    refine GoS.icmpNo (pc' := 29) d5_26 (XT.ii_ge_f hc1) rfl ?_
    have hlt : 1 < cs.length := own_ltof 1 _ hc1 h3 (by decide)
    obtain ⟨c, hc0⟩ : ∃ c, cs.getD 1 0 = c := ⟨_, rfl⟩
    have hdr : cs.drop 1 = c :: cs.drop 2 := hc0 ▸ own_drop hlt
    have hnc : nar .char c = c := hn c (own_memD hlt hc0)
    refine GoS.aloadN (pc' := 30) d5_29 rfl rfl rfl ?_
    refine GoS.iload (pc' := 32) d5_30 rfl rfl ?_
    refine GoS.caload (pc' := 33) (v := c) vt d5_32 (by decide) hc1 (mapget cs 1 c hlt hc0) rfl ?_
    refine GoS.istore (pc' := 35) (Ls' := #[.val (.ref s), .val (.ref a), .val (.ref t), .val (.int (Int32.ofNat cs.length)), .val (.int 1), .val (.int c)]) d5_33 rfl rfl ?_
    refine GoS.iload (pc' := 37) d5_35 rfl rfl ?_
    by_cases hs9 : c = (9 : Int32)
    ·
      rw [hs9]
      refine GoS.lsw (pc' := 90) (o := 53) d5_37 (by decide) (by decide) (by decide) (by decide) ?_
      refine GoS.aloadN (pc' := 91) d5_90 rfl rfl rfl ?_
      refine GoS.ldcE (pc' := 93) (cells' := 11) (slots' := 102) (k := (116 : Int32)) (ww hw 242 rfl) (wsA hw) hch127 hcw Kp ld k4a_127 k4b_127 k4c_127 (by decide) d5_91 sz_a bd.lt0 sz_b bd.lt1 rfl rfl (nl rfl) (nl rfl) rfl ?_
      intro h2 sa2 sb2 LL2 E2 X2 L2 na2 nb2 Ld2
      have K3 := Kp.ext E2
      refine GoS.callV (cells' := 12) (slots' := 118) (pc' := 96) [(.ref sa2)] [] (xa.ext E2) (ww hw 137 rfl) (ww hw 138 rfl) (nfS (ww hw 140 rfl)) (ww hw 140 rfl) (ww hw 139 rfl) (ww hw 34 rfl) (ww hw 141 rfl) (by decide) (Con.cold (c_sbS l Z a0 hw h2 a b hs.size cs.length 1 es sa2 sb2 (116 : Int32) cp wf hm (own_ni 1 hlt h3) (by decide) (by decide) (by decide) hcp hwf scp sad shi slo sfm na2 (xa.ext E2) (bd.ext E2) X2 L2)) pd_37 d5_93 rfl ?_
      rintro _ h4 LLn ⟨⟨bq_4, rfl, K4, F4_0, P4_0⟩, eLn⟩
      rw [eLn]
      clear eLn LLn
      have K5 := K3.trans K4 (allS (Or.inr sz_a) (allS (Or.inr sz_b) all0))
      show GoS _ _ _ _ _ _ _ _ _ _ _ _ _ _ 96 _ [(.ref a)]
      have Ld6 : Lds Z h4 a bq_4 LL2 := Ld2.step K4 P4_0
      have ne7 := own_tne ne_t_b (vt.ext E2).lt P4_0
      refine GoS.pop (pc' := 97) d5_96 rfl rfl ?_
      refine GoS.goto (pc' := 127) d5_97 (by decide) (by decide) ?_
      refine GoS.iinc (pc' := 130) (Ls' := #[.val (.ref s), .val (.ref a), .val (.ref t), .val (.int (Int32.ofNat cs.length)), .val (.int ((1 : Int32) + (1 : Int32))), .val (.int 9)]) (w := (1 : Int32)) d5_127 rfl rfl rfl rfl ?_
      show GoS _ _ _ _ _ _ _ _ _ _ _ _ _ _ 130 #[.val (.ref s), .val (.ref a), .val (.ref t), .val (.int (Int32.ofNat cs.length)), .val (.int 2), .val (.int 9)] []
      refine GoS.goto (pc' := 23) d5_130 (by decide) (by decide) ?_
      have f8 := ((vt.ext E2).keep K4 (ninS ne_t_a (ninS ne_t_b nin0)))
      exact GoS.more (c_escR2 l Z a0 hw hs h4 s a t kt bq_4 cs ((es ++ [(92 : Int32), (116 : Int32)])) E LL2 cp wf (9 : Int32) hcp hwf hm h3 hlt hn ((esc_go hE hdr (esc_S hs9 (by decide) (by decide)))) hcw hch122 hch127 hch129 hch131 scp sad shi slo sfm ne_t_a ne7 (((xa.ext E2).keep K4)) f8 F4_0 Ld6 sz_a F4_0.mb K5) (nl rfl) (nl rfl)
    ·
      by_cases hs10 : c = (10 : Int32)
      ·
        rw [hs10]
        refine GoS.lsw (pc' := 100) (o := 63) d5_37 (by decide) (by decide) (by decide) (by decide) ?_
        refine GoS.aloadN (pc' := 101) d5_100 rfl rfl rfl ?_
        refine GoS.ldcE (pc' := 103) (cells' := 11) (slots' := 102) (k := (110 : Int32)) (ww hw 136 rfl) (wsA hw) hch129 hcw Kp ld k4a_129 k4b_129 k4c_129 (by decide) d5_101 sz_a bd.lt0 sz_b bd.lt1 rfl rfl (nl rfl) (nl rfl) rfl ?_
        intro h9 sa9 sb9 LL9 E9 X9 L9 na9 nb9 Ld9
        have K10 := Kp.ext E9
        refine GoS.callV (cells' := 12) (slots' := 118) (pc' := 106) [(.ref sa9)] [] (xa.ext E9) (ww hw 137 rfl) (ww hw 138 rfl) (nfS (ww hw 140 rfl)) (ww hw 140 rfl) (ww hw 139 rfl) (ww hw 34 rfl) (ww hw 141 rfl) (by decide) (Con.cold (c_sbS l Z a0 hw h9 a b hs.size cs.length 1 es sa9 sb9 (110 : Int32) cp wf hm (own_ni 1 hlt h3) (by decide) (by decide) (by decide) hcp hwf scp sad shi slo sfm na9 (xa.ext E9) (bd.ext E9) X9 L9)) pd_37 d5_103 rfl ?_
        rintro _ h11 LLn ⟨⟨bq_11, rfl, K11, F11_0, P11_0⟩, eLn⟩
        rw [eLn]
        clear eLn LLn
        have K12 := K10.trans K11 (allS (Or.inr sz_a) (allS (Or.inr sz_b) all0))
        show GoS _ _ _ _ _ _ _ _ _ _ _ _ _ _ 106 _ [(.ref a)]
        have Ld13 : Lds Z h11 a bq_11 LL9 := Ld9.step K11 P11_0
        have ne14 := own_tne ne_t_b (vt.ext E9).lt P11_0
        refine GoS.pop (pc' := 107) d5_106 rfl rfl ?_
        refine GoS.goto (pc' := 127) d5_107 (by decide) (by decide) ?_
        refine GoS.iinc (pc' := 130) (Ls' := #[.val (.ref s), .val (.ref a), .val (.ref t), .val (.int (Int32.ofNat cs.length)), .val (.int ((1 : Int32) + (1 : Int32))), .val (.int 10)]) (w := (1 : Int32)) d5_127 rfl rfl rfl rfl ?_
        show GoS _ _ _ _ _ _ _ _ _ _ _ _ _ _ 130 #[.val (.ref s), .val (.ref a), .val (.ref t), .val (.int (Int32.ofNat cs.length)), .val (.int 2), .val (.int 10)] []
        refine GoS.goto (pc' := 23) d5_130 (by decide) (by decide) ?_
        have f15 := ((vt.ext E9).keep K11 (ninS ne_t_a (ninS ne_t_b nin0)))
        exact GoS.more (c_escR2 l Z a0 hw hs h11 s a t kt bq_11 cs ((es ++ [(92 : Int32), (110 : Int32)])) E LL9 cp wf (10 : Int32) hcp hwf hm h3 hlt hn ((esc_go hE hdr (esc_S hs10 (by decide) (by decide)))) hcw hch122 hch127 hch129 hch131 scp sad shi slo sfm ne_t_a ne14 (((xa.ext E9).keep K11)) f15 F11_0 Ld13 sz_a F11_0.mb K12) (nl rfl) (nl rfl)
      ·
        by_cases hs13 : c = (13 : Int32)
        ·
          rw [hs13]
          refine GoS.lsw (pc' := 110) (o := 73) d5_37 (by decide) (by decide) (by decide) (by decide) ?_
          refine GoS.aloadN (pc' := 111) d5_110 rfl rfl rfl ?_
          refine GoS.ldcE (pc' := 113) (cells' := 11) (slots' := 102) (k := (114 : Int32)) (ww hw 172 rfl) (wsA hw) hch131 hcw Kp ld k4a_131 k4b_131 k4c_131 (by decide) d5_111 sz_a bd.lt0 sz_b bd.lt1 rfl rfl (nl rfl) (nl rfl) rfl ?_
          intro h16 sa16 sb16 LL16 E16 X16 L16 na16 nb16 Ld16
          have K17 := Kp.ext E16
          refine GoS.callV (cells' := 12) (slots' := 118) (pc' := 116) [(.ref sa16)] [] (xa.ext E16) (ww hw 137 rfl) (ww hw 138 rfl) (nfS (ww hw 140 rfl)) (ww hw 140 rfl) (ww hw 139 rfl) (ww hw 34 rfl) (ww hw 141 rfl) (by decide) (Con.cold (c_sbS l Z a0 hw h16 a b hs.size cs.length 1 es sa16 sb16 (114 : Int32) cp wf hm (own_ni 1 hlt h3) (by decide) (by decide) (by decide) hcp hwf scp sad shi slo sfm na16 (xa.ext E16) (bd.ext E16) X16 L16)) pd_37 d5_113 rfl ?_
          rintro _ h18 LLn ⟨⟨bq_18, rfl, K18, F18_0, P18_0⟩, eLn⟩
          rw [eLn]
          clear eLn LLn
          have K19 := K17.trans K18 (allS (Or.inr sz_a) (allS (Or.inr sz_b) all0))
          show GoS _ _ _ _ _ _ _ _ _ _ _ _ _ _ 116 _ [(.ref a)]
          have Ld20 : Lds Z h18 a bq_18 LL16 := Ld16.step K18 P18_0
          have ne21 := own_tne ne_t_b (vt.ext E16).lt P18_0
          refine GoS.pop (pc' := 117) d5_116 rfl rfl ?_
          refine GoS.goto (pc' := 127) d5_117 (by decide) (by decide) ?_
          refine GoS.iinc (pc' := 130) (Ls' := #[.val (.ref s), .val (.ref a), .val (.ref t), .val (.int (Int32.ofNat cs.length)), .val (.int ((1 : Int32) + (1 : Int32))), .val (.int 13)]) (w := (1 : Int32)) d5_127 rfl rfl rfl rfl ?_
          show GoS _ _ _ _ _ _ _ _ _ _ _ _ _ _ 130 #[.val (.ref s), .val (.ref a), .val (.ref t), .val (.int (Int32.ofNat cs.length)), .val (.int 2), .val (.int 13)] []
          refine GoS.goto (pc' := 23) d5_130 (by decide) (by decide) ?_
          have f22 := ((vt.ext E16).keep K18 (ninS ne_t_a (ninS ne_t_b nin0)))
          exact GoS.more (c_escR2 l Z a0 hw hs h18 s a t kt bq_18 cs ((es ++ [(92 : Int32), (114 : Int32)])) E LL16 cp wf (13 : Int32) hcp hwf hm h3 hlt hn ((esc_go hE hdr (esc_S hs13 (by decide) (by decide)))) hcw hch122 hch127 hch129 hch131 scp sad shi slo sfm ne_t_a ne21 (((xa.ext E16).keep K18)) f22 F18_0 Ld20 sz_a F18_0.mb K19) (nl rfl) (nl rfl)
        ·
          by_cases hs92 : c = (92 : Int32)
          ·
            rw [hs92]
            refine GoS.lsw (pc' := 80) (o := 43) d5_37 (by decide) (by decide) (by decide) (by decide) ?_
            refine GoS.aloadN (pc' := 81) d5_80 rfl rfl rfl ?_
            refine GoS.ldcE (pc' := 83) (cells' := 11) (slots' := 102) (k := (92 : Int32)) (ww hw 304 rfl) (wsA hw) hch122 hcw Kp ld k4a_122 k4b_122 k4c_122 (by decide) d5_81 sz_a bd.lt0 sz_b bd.lt1 rfl rfl (nl rfl) (nl rfl) rfl ?_
            intro h23 sa23 sb23 LL23 E23 X23 L23 na23 nb23 Ld23
            have K24 := Kp.ext E23
            refine GoS.callV (cells' := 12) (slots' := 118) (pc' := 86) [(.ref sa23)] [] (xa.ext E23) (ww hw 137 rfl) (ww hw 138 rfl) (nfS (ww hw 140 rfl)) (ww hw 140 rfl) (ww hw 139 rfl) (ww hw 34 rfl) (ww hw 141 rfl) (by decide) (Con.cold (c_sbS l Z a0 hw h23 a b hs.size cs.length 1 es sa23 sb23 (92 : Int32) cp wf hm (own_ni 1 hlt h3) (by decide) (by decide) (by decide) hcp hwf scp sad shi slo sfm na23 (xa.ext E23) (bd.ext E23) X23 L23)) pd_37 d5_83 rfl ?_
            rintro _ h25 LLn ⟨⟨bq_25, rfl, K25, F25_0, P25_0⟩, eLn⟩
            rw [eLn]
            clear eLn LLn
            have K26 := K24.trans K25 (allS (Or.inr sz_a) (allS (Or.inr sz_b) all0))
            show GoS _ _ _ _ _ _ _ _ _ _ _ _ _ _ 86 _ [(.ref a)]
            have Ld27 : Lds Z h25 a bq_25 LL23 := Ld23.step K25 P25_0
            have ne28 := own_tne ne_t_b (vt.ext E23).lt P25_0
            refine GoS.pop (pc' := 87) d5_86 rfl rfl ?_
            refine GoS.goto (pc' := 127) d5_87 (by decide) (by decide) ?_
            refine GoS.iinc (pc' := 130) (Ls' := #[.val (.ref s), .val (.ref a), .val (.ref t), .val (.int (Int32.ofNat cs.length)), .val (.int ((1 : Int32) + (1 : Int32))), .val (.int 92)]) (w := (1 : Int32)) d5_127 rfl rfl rfl rfl ?_
            show GoS _ _ _ _ _ _ _ _ _ _ _ _ _ _ 130 #[.val (.ref s), .val (.ref a), .val (.ref t), .val (.int (Int32.ofNat cs.length)), .val (.int 2), .val (.int 92)] []
            refine GoS.goto (pc' := 23) d5_130 (by decide) (by decide) ?_
            have f29 := ((vt.ext E23).keep K25 (ninS ne_t_a (ninS ne_t_b nin0)))
            exact GoS.more (c_escR2 l Z a0 hw hs h25 s a t kt bq_25 cs ((es ++ [(92 : Int32), (92 : Int32)])) E LL23 cp wf (92 : Int32) hcp hwf hm h3 hlt hn ((esc_go hE hdr (esc_S hs92 (by decide) (by decide)))) hcw hch122 hch127 hch129 hch131 scp sad shi slo sfm ne_t_a ne28 (((xa.ext E23).keep K25)) f29 F25_0 Ld27 sz_a F25_0.mb K26) (nl rfl) (nl rfl)
          ·
            refine GoS.lsw (pc' := 120) (o := 83) d5_37 (by decide) (by simp only [lookupswitch.offset, (show ¬ (9 : Int) = c.toInt from own_ine (k := 9) hs9), (show ¬ (10 : Int) = c.toInt from own_ine (k := 10) hs10), (show ¬ (13 : Int) = c.toInt from own_ine (k := 13) hs13), (show ¬ (92 : Int) = c.toInt from own_ine (k := 92) hs92), if_false]) (by decide) (by decide) ?_
            refine GoS.aloadN (pc' := 121) d5_120 rfl rfl rfl ?_
            refine GoS.iload (pc' := 123) d5_121 rfl rfl ?_
            refine GoS.callV (cells' := 11) (slots' := 122) (pc' := 126) [(.int c)] [] xa (ww hw 229 rfl) (ww hw 230 rfl) (nfS (ww hw 232 rfl)) (ww hw 232 rfl) (ww hw 231 rfl) (ww hw 34 rfl) (ww hw 233 rfl) (by decide) (Con.cold (c_sbC l Z a0 hw h a b hs.size cs.length 1 es c cp wf hm (own_ni 1 hlt h3) hnc hcp hwf scp sad shi slo sfm xa bd)) pd_38 d5_123 rfl ?_
            rintro _ h30 LLn ⟨⟨bq_30, rfl, K30, F30_0, P30_0⟩, eLn⟩
            rw [eLn]
            clear eLn LLn
            have K31 := Kp.trans K30 (allS (Or.inr sz_a) (allS (Or.inr sz_b) all0))
            show GoS _ _ _ _ _ _ _ _ _ _ _ _ _ _ 126 _ [(.ref a)]
            have Ld32 : Lds Z h30 a bq_30 LL := ld.step K30 P30_0
            have ne33 := own_tne ne_t_b vt.lt P30_0
            refine GoS.pop (pc' := 127) d5_126 rfl rfl ?_
            refine GoS.iinc (pc' := 130) (Ls' := #[.val (.ref s), .val (.ref a), .val (.ref t), .val (.int (Int32.ofNat cs.length)), .val (.int ((1 : Int32) + (1 : Int32))), .val (.int c)]) (w := (1 : Int32)) d5_127 rfl rfl rfl rfl ?_
            show GoS _ _ _ _ _ _ _ _ _ _ _ _ _ _ 130 #[.val (.ref s), .val (.ref a), .val (.ref t), .val (.int (Int32.ofNat cs.length)), .val (.int 2), .val (.int c)] []
            refine GoS.goto (pc' := 23) d5_130 (by decide) (by decide) ?_
            have f34 := (vt.keep K30 (ninS ne_t_a (ninS ne_t_b nin0)))
            exact GoS.more (c_escR2 l Z a0 hw hs h30 s a t kt bq_30 cs (es ++ [c]) E LL cp wf c hcp hwf hm h3 hlt hn ((esc_go hE hdr (esc_N hs9 hs10 hs13 hs92))) hcw hch122 hch127 hch129 hch131 scp sad shi slo sfm ne_t_a ne33 (xa.keep K30) f34 F30_0 Ld32 sz_a F30_0.mb K31) (nl rfl) (nl rfl)
  ·
    refine GoS.icmpYes (pc' := 133) d5_26 (XT.ii_ge_t hc1) (by decide) (by decide) ?_
    have hN : 1 = cs.length := own_geof 1 _ hc1 h3 hi
    have Bd35 : Bld Z h a b hs.size cs.length cs.length es := bd.toN hN
    refine GoS.aloadN (pc' := 134) d5_133 rfl rfl rfl ?_
    refine GoS.callV (cells' := 11) (slots' := 110) (pc' := 137) [] [] xa (ww hw 78 rfl) (ww hw 79 rfl) (nfS (ww hw 81 rfl)) (ww hw 81 rfl) (ww hw 80 rfl) (ww hw 34 rfl) (ww hw 82 rfl) (by decide) (Con.cold (c_toStr l Z a0 hw h a b hs.size cs.length es cp h3 hcp scp xa Bd35)) pd_36 d5_134 rfl ?_
    rintro _ h36 LLn ⟨⟨r_36, d_36, rfl, K36, ge_r_36, sz_r_36, ge_d_36, sz_d_36, F36_0, F36_1⟩, eLn⟩
    rw [eLn]
    clear eLn LLn
    have sz37 : hs.size ≤ r_36 := Nat.le_trans Kp.1 sz_r_36
    have sz38 : hs.size ≤ d_36 := Nat.le_trans Kp.1 sz_d_36
    have K39 := Kp.trans K36 all0
    show GoS _ _ _ _ _ _ _ _ _ _ _ _ _ _ 137 _ [(.ref r_36)]
    exact GoS.retR rfl rfl rfl rfl d5_137 ⟨r_36, d_36, rfl, K39, ge_r_36, sz37, ge_d_36, sz38, F36_0, (esc_end hE hN) ▸ F36_1⟩
theorem c_escR0 (hw : HW a0 Z) (hs h : Heap) (s a t : Addr) (kt : ClassId) (b : Addr) (cs : List Int32) (es : List Int32) (E : List Int32) (LL : List (String × Addr × String × Nat)) (cp : Int32) (wf : Value) (hcp : ¬ (cp = (0 : Int32))) (hwf : wf.isRef = true) (hm : n0 ≤ hs.size) (h3 : cs.length ≤ 3) (hi : 0 ≤ cs.length) (hn : ∀ e ∈ cs, nar .char e = e) (hE : es ++ escs (cs.drop 0) = E) (hcw : Jvm.Lit.compactW.before a0 Z = true) (hch122 : Jvm.Lit.constHeld Z "com/example/aligned_index/alignedindex/inspect/Inspector" 122) (hch127 : Jvm.Lit.constHeld Z "com/example/aligned_index/alignedindex/inspect/Inspector" 127) (hch129 : Jvm.Lit.constHeld Z "com/example/aligned_index/alignedindex/inspect/Inspector" 129) (hch131 : Jvm.Lit.constHeld Z "com/example/aligned_index/alignedindex/inspect/Inspector" 131) (scp : Zcp Z (.int cp)) (sad : Zad Z (.int 1)) (shi : Zhi Z (.int 0)) (slo : Zlo Z (.int 8)) (sfm : Zfm Z wf) (ne_t_a : t ≠ a) (ne_t_b : t ≠ b) (xa : EB Z h a) (vt : Arv Z h t kt .char (Int32.ofNat cs.length) (cs.map Value.int) (.int 0)) (bd : Bld Z h a b hs.size cs.length 0 es) (ld : Lds Z h a b LL) (sz_a : hs.size ≤ a) (sz_b : hs.size ≤ b) (Kp : Keep hs h []) :
    GoS l (rm4 10 24 300 200) Z n0 M_58 q5 6 (some (.object "java/lang/String")) (fun v h' LL' => ∃ r : Addr, ∃ d : Addr, v = some (.ref r) ∧ Keep hs h' [] ∧ n0 ≤ r ∧ hs.size ≤ r ∧ n0 ≤ d ∧ hs.size ≤ d ∧ ES Z h' r ∧ StrC Z h' r d E) hs LL 4 30 h 23 #[.val (.ref s), .val (.ref a), .val (.ref t), .val (.int (Int32.ofNat cs.length)), .val (.int 0), .unset] [] := by
  refine GoS.iload (pc' := 25) d5_23 rfl rfl ?_
  refine GoS.iloadN (pc' := 26) d5_25 rfl rfl ?_
  by_cases hc1 : (0 : Int32) < (Int32.ofNat cs.length)
  ·
    refine GoS.icmpNo (pc' := 29) d5_26 (XT.ii_ge_f hc1) rfl ?_
    have hlt : 0 < cs.length := own_ltof 0 _ hc1 h3 (by decide)
    obtain ⟨c, hc0⟩ : ∃ c, cs.getD 0 0 = c := ⟨_, rfl⟩
    have hdr : cs.drop 0 = c :: cs.drop 1 := hc0 ▸ own_drop hlt
    have hnc : nar .char c = c := hn c (own_memD hlt hc0)
    refine GoS.aloadN (pc' := 30) d5_29 rfl rfl rfl ?_
    refine GoS.iload (pc' := 32) d5_30 rfl rfl ?_
    refine GoS.caload (pc' := 33) (v := c) vt d5_32 (by decide) hc1 (mapget cs 0 c hlt hc0) rfl ?_
    refine GoS.istore (pc' := 35) (Ls' := #[.val (.ref s), .val (.ref a), .val (.ref t), .val (.int (Int32.ofNat cs.length)), .val (.int 0), .val (.int c)]) d5_33 rfl rfl ?_
    refine GoS.iload (pc' := 37) d5_35 rfl rfl ?_
    by_cases hs9 : c = (9 : Int32)
    ·
      rw [hs9]
      refine GoS.lsw (pc' := 90) (o := 53) d5_37 (by decide) (by decide) (by decide) (by decide) ?_
      refine GoS.aloadN (pc' := 91) d5_90 rfl rfl rfl ?_
      refine GoS.ldcE (pc' := 93) (cells' := 6) (slots' := 42) (k := (116 : Int32)) (ww hw 242 rfl) (wsA hw) hch127 hcw Kp ld k4a_127 k4b_127 k4c_127 (by decide) d5_91 sz_a bd.lt0 sz_b bd.lt1 rfl rfl (nl rfl) (nl rfl) rfl ?_
      intro h2 sa2 sb2 LL2 E2 X2 L2 na2 nb2 Ld2
      have K3 := Kp.ext E2
      refine GoS.callV (cells' := 7) (slots' := 58) (pc' := 96) [(.ref sa2)] [] (xa.ext E2) (ww hw 137 rfl) (ww hw 138 rfl) (nfS (ww hw 140 rfl)) (ww hw 140 rfl) (ww hw 139 rfl) (ww hw 34 rfl) (ww hw 141 rfl) (by decide) (Con.cold (c_sbS l Z a0 hw h2 a b hs.size cs.length 0 es sa2 sb2 (116 : Int32) cp wf hm (own_ni 0 hlt h3) (by decide) (by decide) (by decide) hcp hwf scp sad shi slo sfm na2 (xa.ext E2) (bd.ext E2) X2 L2)) pd_37 d5_93 rfl ?_
      rintro _ h4 LLn ⟨⟨bq_4, rfl, K4, F4_0, P4_0⟩, eLn⟩
      rw [eLn]
      clear eLn LLn
      have K5 := K3.trans K4 (allS (Or.inr sz_a) (allS (Or.inr sz_b) all0))
      show GoS _ _ _ _ _ _ _ _ _ _ _ _ _ _ 96 _ [(.ref a)]
      have Ld6 : Lds Z h4 a bq_4 LL2 := Ld2.step K4 P4_0
      have ne7 := own_tne ne_t_b (vt.ext E2).lt P4_0
      refine GoS.pop (pc' := 97) d5_96 rfl rfl ?_
      refine GoS.goto (pc' := 127) d5_97 (by decide) (by decide) ?_
      refine GoS.iinc (pc' := 130) (Ls' := #[.val (.ref s), .val (.ref a), .val (.ref t), .val (.int (Int32.ofNat cs.length)), .val (.int ((0 : Int32) + (1 : Int32))), .val (.int 9)]) (w := (1 : Int32)) d5_127 rfl rfl rfl rfl ?_
      show GoS _ _ _ _ _ _ _ _ _ _ _ _ _ _ 130 #[.val (.ref s), .val (.ref a), .val (.ref t), .val (.int (Int32.ofNat cs.length)), .val (.int 1), .val (.int 9)] []
      refine GoS.goto (pc' := 23) d5_130 (by decide) (by decide) ?_
      have f8 := ((vt.ext E2).keep K4 (ninS ne_t_a (ninS ne_t_b nin0)))
      exact GoS.more (c_escR1 l Z a0 hw hs h4 s a t kt bq_4 cs ((es ++ [(92 : Int32), (116 : Int32)])) E LL2 cp wf (9 : Int32) hcp hwf hm h3 hlt hn ((esc_go hE hdr (esc_S hs9 (by decide) (by decide)))) hcw hch122 hch127 hch129 hch131 scp sad shi slo sfm ne_t_a ne7 (((xa.ext E2).keep K4)) f8 F4_0 Ld6 sz_a F4_0.mb K5) (nl rfl) (nl rfl)
    ·
      by_cases hs10 : c = (10 : Int32)
      ·
        rw [hs10]
        refine GoS.lsw (pc' := 100) (o := 63) d5_37 (by decide) (by decide) (by decide) (by decide) ?_
        refine GoS.aloadN (pc' := 101) d5_100 rfl rfl rfl ?_
        refine GoS.ldcE (pc' := 103) (cells' := 6) (slots' := 42) (k := (110 : Int32)) (ww hw 136 rfl) (wsA hw) hch129 hcw Kp ld k4a_129 k4b_129 k4c_129 (by decide) d5_101 sz_a bd.lt0 sz_b bd.lt1 rfl rfl (nl rfl) (nl rfl) rfl ?_
        intro h9 sa9 sb9 LL9 E9 X9 L9 na9 nb9 Ld9
        have K10 := Kp.ext E9
        refine GoS.callV (cells' := 7) (slots' := 58) (pc' := 106) [(.ref sa9)] [] (xa.ext E9) (ww hw 137 rfl) (ww hw 138 rfl) (nfS (ww hw 140 rfl)) (ww hw 140 rfl) (ww hw 139 rfl) (ww hw 34 rfl) (ww hw 141 rfl) (by decide) (Con.cold (c_sbS l Z a0 hw h9 a b hs.size cs.length 0 es sa9 sb9 (110 : Int32) cp wf hm (own_ni 0 hlt h3) (by decide) (by decide) (by decide) hcp hwf scp sad shi slo sfm na9 (xa.ext E9) (bd.ext E9) X9 L9)) pd_37 d5_103 rfl ?_
        rintro _ h11 LLn ⟨⟨bq_11, rfl, K11, F11_0, P11_0⟩, eLn⟩
        rw [eLn]
        clear eLn LLn
        have K12 := K10.trans K11 (allS (Or.inr sz_a) (allS (Or.inr sz_b) all0))
        show GoS _ _ _ _ _ _ _ _ _ _ _ _ _ _ 106 _ [(.ref a)]
        have Ld13 : Lds Z h11 a bq_11 LL9 := Ld9.step K11 P11_0
        have ne14 := own_tne ne_t_b (vt.ext E9).lt P11_0
        refine GoS.pop (pc' := 107) d5_106 rfl rfl ?_
        refine GoS.goto (pc' := 127) d5_107 (by decide) (by decide) ?_
        refine GoS.iinc (pc' := 130) (Ls' := #[.val (.ref s), .val (.ref a), .val (.ref t), .val (.int (Int32.ofNat cs.length)), .val (.int ((0 : Int32) + (1 : Int32))), .val (.int 10)]) (w := (1 : Int32)) d5_127 rfl rfl rfl rfl ?_
        show GoS _ _ _ _ _ _ _ _ _ _ _ _ _ _ 130 #[.val (.ref s), .val (.ref a), .val (.ref t), .val (.int (Int32.ofNat cs.length)), .val (.int 1), .val (.int 10)] []
        refine GoS.goto (pc' := 23) d5_130 (by decide) (by decide) ?_
        have f15 := ((vt.ext E9).keep K11 (ninS ne_t_a (ninS ne_t_b nin0)))
        exact GoS.more (c_escR1 l Z a0 hw hs h11 s a t kt bq_11 cs ((es ++ [(92 : Int32), (110 : Int32)])) E LL9 cp wf (10 : Int32) hcp hwf hm h3 hlt hn ((esc_go hE hdr (esc_S hs10 (by decide) (by decide)))) hcw hch122 hch127 hch129 hch131 scp sad shi slo sfm ne_t_a ne14 (((xa.ext E9).keep K11)) f15 F11_0 Ld13 sz_a F11_0.mb K12) (nl rfl) (nl rfl)
      ·
        by_cases hs13 : c = (13 : Int32)
        ·
          rw [hs13]
          refine GoS.lsw (pc' := 110) (o := 73) d5_37 (by decide) (by decide) (by decide) (by decide) ?_
          refine GoS.aloadN (pc' := 111) d5_110 rfl rfl rfl ?_
          refine GoS.ldcE (pc' := 113) (cells' := 6) (slots' := 42) (k := (114 : Int32)) (ww hw 172 rfl) (wsA hw) hch131 hcw Kp ld k4a_131 k4b_131 k4c_131 (by decide) d5_111 sz_a bd.lt0 sz_b bd.lt1 rfl rfl (nl rfl) (nl rfl) rfl ?_
          intro h16 sa16 sb16 LL16 E16 X16 L16 na16 nb16 Ld16
          have K17 := Kp.ext E16
          refine GoS.callV (cells' := 7) (slots' := 58) (pc' := 116) [(.ref sa16)] [] (xa.ext E16) (ww hw 137 rfl) (ww hw 138 rfl) (nfS (ww hw 140 rfl)) (ww hw 140 rfl) (ww hw 139 rfl) (ww hw 34 rfl) (ww hw 141 rfl) (by decide) (Con.cold (c_sbS l Z a0 hw h16 a b hs.size cs.length 0 es sa16 sb16 (114 : Int32) cp wf hm (own_ni 0 hlt h3) (by decide) (by decide) (by decide) hcp hwf scp sad shi slo sfm na16 (xa.ext E16) (bd.ext E16) X16 L16)) pd_37 d5_113 rfl ?_
          rintro _ h18 LLn ⟨⟨bq_18, rfl, K18, F18_0, P18_0⟩, eLn⟩
          rw [eLn]
          clear eLn LLn
          have K19 := K17.trans K18 (allS (Or.inr sz_a) (allS (Or.inr sz_b) all0))
          show GoS _ _ _ _ _ _ _ _ _ _ _ _ _ _ 116 _ [(.ref a)]
          have Ld20 : Lds Z h18 a bq_18 LL16 := Ld16.step K18 P18_0
          have ne21 := own_tne ne_t_b (vt.ext E16).lt P18_0
          refine GoS.pop (pc' := 117) d5_116 rfl rfl ?_
          refine GoS.goto (pc' := 127) d5_117 (by decide) (by decide) ?_
          refine GoS.iinc (pc' := 130) (Ls' := #[.val (.ref s), .val (.ref a), .val (.ref t), .val (.int (Int32.ofNat cs.length)), .val (.int ((0 : Int32) + (1 : Int32))), .val (.int 13)]) (w := (1 : Int32)) d5_127 rfl rfl rfl rfl ?_
          show GoS _ _ _ _ _ _ _ _ _ _ _ _ _ _ 130 #[.val (.ref s), .val (.ref a), .val (.ref t), .val (.int (Int32.ofNat cs.length)), .val (.int 1), .val (.int 13)] []
          refine GoS.goto (pc' := 23) d5_130 (by decide) (by decide) ?_
          have f22 := ((vt.ext E16).keep K18 (ninS ne_t_a (ninS ne_t_b nin0)))
          exact GoS.more (c_escR1 l Z a0 hw hs h18 s a t kt bq_18 cs ((es ++ [(92 : Int32), (114 : Int32)])) E LL16 cp wf (13 : Int32) hcp hwf hm h3 hlt hn ((esc_go hE hdr (esc_S hs13 (by decide) (by decide)))) hcw hch122 hch127 hch129 hch131 scp sad shi slo sfm ne_t_a ne21 (((xa.ext E16).keep K18)) f22 F18_0 Ld20 sz_a F18_0.mb K19) (nl rfl) (nl rfl)
        ·
          by_cases hs92 : c = (92 : Int32)
          ·
            rw [hs92]
            refine GoS.lsw (pc' := 80) (o := 43) d5_37 (by decide) (by decide) (by decide) (by decide) ?_
            refine GoS.aloadN (pc' := 81) d5_80 rfl rfl rfl ?_
            refine GoS.ldcE (pc' := 83) (cells' := 6) (slots' := 42) (k := (92 : Int32)) (ww hw 304 rfl) (wsA hw) hch122 hcw Kp ld k4a_122 k4b_122 k4c_122 (by decide) d5_81 sz_a bd.lt0 sz_b bd.lt1 rfl rfl (nl rfl) (nl rfl) rfl ?_
            intro h23 sa23 sb23 LL23 E23 X23 L23 na23 nb23 Ld23
            have K24 := Kp.ext E23
            refine GoS.callV (cells' := 7) (slots' := 58) (pc' := 86) [(.ref sa23)] [] (xa.ext E23) (ww hw 137 rfl) (ww hw 138 rfl) (nfS (ww hw 140 rfl)) (ww hw 140 rfl) (ww hw 139 rfl) (ww hw 34 rfl) (ww hw 141 rfl) (by decide) (Con.cold (c_sbS l Z a0 hw h23 a b hs.size cs.length 0 es sa23 sb23 (92 : Int32) cp wf hm (own_ni 0 hlt h3) (by decide) (by decide) (by decide) hcp hwf scp sad shi slo sfm na23 (xa.ext E23) (bd.ext E23) X23 L23)) pd_37 d5_83 rfl ?_
            rintro _ h25 LLn ⟨⟨bq_25, rfl, K25, F25_0, P25_0⟩, eLn⟩
            rw [eLn]
            clear eLn LLn
            have K26 := K24.trans K25 (allS (Or.inr sz_a) (allS (Or.inr sz_b) all0))
            show GoS _ _ _ _ _ _ _ _ _ _ _ _ _ _ 86 _ [(.ref a)]
            have Ld27 : Lds Z h25 a bq_25 LL23 := Ld23.step K25 P25_0
            have ne28 := own_tne ne_t_b (vt.ext E23).lt P25_0
            refine GoS.pop (pc' := 87) d5_86 rfl rfl ?_
            refine GoS.goto (pc' := 127) d5_87 (by decide) (by decide) ?_
            refine GoS.iinc (pc' := 130) (Ls' := #[.val (.ref s), .val (.ref a), .val (.ref t), .val (.int (Int32.ofNat cs.length)), .val (.int ((0 : Int32) + (1 : Int32))), .val (.int 92)]) (w := (1 : Int32)) d5_127 rfl rfl rfl rfl ?_
            show GoS _ _ _ _ _ _ _ _ _ _ _ _ _ _ 130 #[.val (.ref s), .val (.ref a), .val (.ref t), .val (.int (Int32.ofNat cs.length)), .val (.int 1), .val (.int 92)] []
            refine GoS.goto (pc' := 23) d5_130 (by decide) (by decide) ?_
            have f29 := ((vt.ext E23).keep K25 (ninS ne_t_a (ninS ne_t_b nin0)))
            exact GoS.more (c_escR1 l Z a0 hw hs h25 s a t kt bq_25 cs ((es ++ [(92 : Int32), (92 : Int32)])) E LL23 cp wf (92 : Int32) hcp hwf hm h3 hlt hn ((esc_go hE hdr (esc_S hs92 (by decide) (by decide)))) hcw hch122 hch127 hch129 hch131 scp sad shi slo sfm ne_t_a ne28 (((xa.ext E23).keep K25)) f29 F25_0 Ld27 sz_a F25_0.mb K26) (nl rfl) (nl rfl)
          ·
            refine GoS.lsw (pc' := 120) (o := 83) d5_37 (by decide) (by simp only [lookupswitch.offset, (show ¬ (9 : Int) = c.toInt from own_ine (k := 9) hs9), (show ¬ (10 : Int) = c.toInt from own_ine (k := 10) hs10), (show ¬ (13 : Int) = c.toInt from own_ine (k := 13) hs13), (show ¬ (92 : Int) = c.toInt from own_ine (k := 92) hs92), if_false]) (by decide) (by decide) ?_
            refine GoS.aloadN (pc' := 121) d5_120 rfl rfl rfl ?_
            refine GoS.iload (pc' := 123) d5_121 rfl rfl ?_
            refine GoS.callV (cells' := 6) (slots' := 62) (pc' := 126) [(.int c)] [] xa (ww hw 229 rfl) (ww hw 230 rfl) (nfS (ww hw 232 rfl)) (ww hw 232 rfl) (ww hw 231 rfl) (ww hw 34 rfl) (ww hw 233 rfl) (by decide) (Con.cold (c_sbC l Z a0 hw h a b hs.size cs.length 0 es c cp wf hm (own_ni 0 hlt h3) hnc hcp hwf scp sad shi slo sfm xa bd)) pd_38 d5_123 rfl ?_
            rintro _ h30 LLn ⟨⟨bq_30, rfl, K30, F30_0, P30_0⟩, eLn⟩
            rw [eLn]
            clear eLn LLn
            have K31 := Kp.trans K30 (allS (Or.inr sz_a) (allS (Or.inr sz_b) all0))
            show GoS _ _ _ _ _ _ _ _ _ _ _ _ _ _ 126 _ [(.ref a)]
            have Ld32 : Lds Z h30 a bq_30 LL := ld.step K30 P30_0
            have ne33 := own_tne ne_t_b vt.lt P30_0
            refine GoS.pop (pc' := 127) d5_126 rfl rfl ?_
            refine GoS.iinc (pc' := 130) (Ls' := #[.val (.ref s), .val (.ref a), .val (.ref t), .val (.int (Int32.ofNat cs.length)), .val (.int ((0 : Int32) + (1 : Int32))), .val (.int c)]) (w := (1 : Int32)) d5_127 rfl rfl rfl rfl ?_
            show GoS _ _ _ _ _ _ _ _ _ _ _ _ _ _ 130 #[.val (.ref s), .val (.ref a), .val (.ref t), .val (.int (Int32.ofNat cs.length)), .val (.int 1), .val (.int c)] []
            refine GoS.goto (pc' := 23) d5_130 (by decide) (by decide) ?_
            have f34 := (vt.keep K30 (ninS ne_t_a (ninS ne_t_b nin0)))
            exact GoS.more (c_escR1 l Z a0 hw hs h30 s a t kt bq_30 cs (es ++ [c]) E LL cp wf c hcp hwf hm h3 hlt hn ((esc_go hE hdr (esc_N hs9 hs10 hs13 hs92))) hcw hch122 hch127 hch129 hch131 scp sad shi slo sfm ne_t_a ne33 (xa.keep K30) f34 F30_0 Ld32 sz_a F30_0.mb K31) (nl rfl) (nl rfl)
  ·
    refine GoS.icmpYes (pc' := 133) d5_26 (XT.ii_ge_t hc1) (by decide) (by decide) ?_
    have hN : 0 = cs.length := own_geof 0 _ hc1 h3 hi
    have Bd35 : Bld Z h a b hs.size cs.length cs.length es := bd.toN hN
    refine GoS.aloadN (pc' := 134) d5_133 rfl rfl rfl ?_
    refine GoS.callV (cells' := 6) (slots' := 50) (pc' := 137) [] [] xa (ww hw 78 rfl) (ww hw 79 rfl) (nfS (ww hw 81 rfl)) (ww hw 81 rfl) (ww hw 80 rfl) (ww hw 34 rfl) (ww hw 82 rfl) (by decide) (Con.cold (c_toStr l Z a0 hw h a b hs.size cs.length es cp h3 hcp scp xa Bd35)) pd_36 d5_134 rfl ?_
    rintro _ h36 LLn ⟨⟨r_36, d_36, rfl, K36, ge_r_36, sz_r_36, ge_d_36, sz_d_36, F36_0, F36_1⟩, eLn⟩
    rw [eLn]
    clear eLn LLn
    have sz37 : hs.size ≤ r_36 := Nat.le_trans Kp.1 sz_r_36
    have sz38 : hs.size ≤ d_36 := Nat.le_trans Kp.1 sz_d_36
    have K39 := Kp.trans K36 all0
    show GoS _ _ _ _ _ _ _ _ _ _ _ _ _ _ 137 _ [(.ref r_36)]
    exact GoS.retR rfl rfl rfl rfl d5_137 ⟨r_36, d_36, rfl, K39, ge_r_36, sz37, ge_d_36, sz38, F36_0, (esc_end hE hN) ▸ F36_1⟩
theorem c_esc (hw : HW a0 Z) (h : Heap) (s bs : Addr) (cs : List Int32) (cp : Int32) (wf : Value) (hcp : ¬ (cp = (0 : Int32))) (hwf : wf.isRef = true) (h3 : cs.length ≤ 3) (hn : ∀ e ∈ cs, nar .char e = e) (hcw : Jvm.Lit.compactW.before a0 Z = true) (hch122 : Jvm.Lit.constHeld Z "com/example/aligned_index/alignedindex/inspect/Inspector" 122) (hch127 : Jvm.Lit.constHeld Z "com/example/aligned_index/alignedindex/inspect/Inspector" 127) (hch129 : Jvm.Lit.constHeld Z "com/example/aligned_index/alignedindex/inspect/Inspector" 129) (hch131 : Jvm.Lit.constHeld Z "com/example/aligned_index/alignedindex/inspect/Inspector" 131) (scp : Zcp Z (.int cp)) (sad : Zad Z (.int 1)) (shi : Zhi Z (.int 0)) (slo : Zlo Z (.int 8)) (sfm : Zfm Z wf) (xs : ES Z h s) (sc : StrC Z h s bs cs) :
    ConS l M_58 q5 6 (some (.object "java/lang/String")) (rm4 10 24 300 200) Z n0 #[(.ref s)] h [] (fun v h' LL' => ∃ r : Addr, ∃ d : Addr, v = some (.ref r) ∧ Keep h h' [] ∧ n0 ≤ r ∧ h.size ≤ r ∧ n0 ≤ d ∧ h.size ≤ d ∧ ES Z h' r ∧ StrC Z h' r d (escs cs)) := by
  refine ConS.of_go (plainFor_of_name pn_8) (Ls := #[.val (.ref s), .unset, .unset, .unset, .unset, .unset]) ?_
  refine GoS.old (fun old1 => ?_)
  have hm : n0 ≤ h.size := own_nle old1
  refine GoS.new (pc' := 3) (cells' := 1) (slots' := 4) (ww hw 32 rfl) (ww hw 33 rfl) (ww hw 34 rfl) d5_0 rfl rfl (by decide) (by decide) rfl ?_
  intro h2 b2 g2 E2 ge2 A2 D2
  have K3 := (Keep.refl h []).ext E2
  refine GoS.dup (pc' := 4) d5_3 rfl rfl ?_
  refine GoS.aloadN (pc' := 5) d5_4 rfl rfl rfl ?_
  refine GoS.callV (cells' := 1) (slots' := 4) (pc' := 8) [] [(.ref b2), (.ref b2)] (xs.ext E2) (ww hw 35 rfl) (ww hw 36 rfl) (nfS (ww hw 38 rfl)) (ww hw 38 rfl) (ww hw 37 rfl) (ww hw 8 rfl) (ww hw 39 rfl) (by decide) (Con.cold (c_jlen l Z a0 hw h2 s bs cs cp hcp scp (xs.ext E2) (sc.ext E2))) pd_20 d5_5 rfl ?_
  rintro _ _ _ ⟨⟨rfl, rfl⟩, rfl⟩
  show GoS _ _ _ _ _ _ _ _ _ _ _ _ _ _ 8 _ [(.int (Int32.ofNat cs.length)), (.ref b2), (.ref b2)]
  refine GoS.callC (cells' := 2) (slots' := 7) (pc' := 11) [(.int (Int32.ofNat cs.length))] [(.ref b2)] (a := b2) rfl rfl (ww hw 46 rfl) (ww hw 47 rfl) (ww hw 34 rfl) (ww hw 48 rfl) (by decide) (Con.cold (c_sbInit l Z a0 hw h2 b2 (Int32.ofNat cs.length) cp hcp ((own_n3 _ h3).1) ((own_n3 _ h3).2) scp ge2 A2 ((D2 (Or.inl (ww hw 58 rfl)) (ty := (.array .byte)) (by decide) : FV Z h2 b2 .null)) ((D2 (Or.inl (ww hw 60 rfl)) (ty := .byte) (by decide) : FK Z h2 b2 (.int 0))) ((D2 (Or.inl (ww hw 105 rfl)) (ty := .int) (by decide) : FN Z h2 b2 (.int 0))) ((D2 (Or.inl (ww hw 300 rfl)) (ty := .boolean) (by decide) : FM Z h2 b2 (.int 0))))) pd_14 d5_8 rfl ?_
  rintro _ h5 _ ⟨⟨b_5, kb_5, rfl, K5, ge_b_5, sz_b_5, F5_0, F5_1, F5_2, F5_3, F5_4, F5_5⟩, rfl⟩
  have sz6 : h.size ≤ b_5 := Nat.le_trans K3.1 sz_b_5
  have K7 := K3.trans K5 (allS (Or.inr (Nat.le_of_eq g2.symm)) all0)
  show GoS _ _ _ _ _ _ _ _ _ _ _ _ _ _ 11 _ [(.ref b2)]
  refine GoS.astoreN (pc' := 12) (Ls' := #[.val (.ref s), .val (.ref b2), .unset, .unset, .unset, .unset]) d5_11 rfl rfl rfl ?_
  refine GoS.aloadN (pc' := 13) d5_12 rfl rfl rfl ?_
  have ne8 := (Nat.ne_of_lt (Nat.lt_of_lt_of_le sc.lt0 (Nat.le_of_eq g2.symm)))
  have ne9 := (Nat.ne_of_lt (Nat.lt_of_lt_of_le sc.lt1 (Nat.le_of_eq g2.symm)))
  have f10 := ((sc.ext E2).keep K5 (ninS ne8 nin0) (ninS ne9 nin0))
  refine GoS.callV (cells' := 3) (slots' := 10) (pc' := 16) [] [] ((xs.ext E2).keep K5) (ww hw 61 rfl) (ww hw 62 rfl) (nfS (ww hw 64 rfl)) (ww hw 64 rfl) (ww hw 63 rfl) (ww hw 8 rfl) (ww hw 65 rfl) (by decide) (Con.cold (c_jtca l Z a0 hw h5 s bs cs cp wf hcp hwf h3 scp sad shi slo sfm (((xs.ext E2).keep K5)) f10)) pd_39 d5_13 rfl ?_
  rintro _ h11 _ ⟨⟨t_11, kt_11, rfl, K11, ge_t_11, sz_t_11, F11_0⟩, rfl⟩
  have sz12 : h.size ≤ t_11 := Nat.le_trans K7.1 sz_t_11
  have K13 := K7.trans K11 all0
  show GoS _ _ _ _ _ _ _ _ _ _ _ _ _ _ 16 _ [(.ref t_11)]
  refine GoS.astoreN (pc' := 17) (Ls' := #[.val (.ref s), .val (.ref b2), .val (.ref t_11), .unset, .unset, .unset]) d5_16 rfl rfl rfl ?_
  refine GoS.aloadN (pc' := 18) d5_17 rfl rfl rfl ?_
  refine GoS.arraylength (pc' := 19) F11_0 d5_18 rfl ?_
  refine GoS.istoreN (pc' := 20) (Ls' := #[.val (.ref s), .val (.ref b2), .val (.ref t_11), .val (.int (Int32.ofNat cs.length)), .unset, .unset]) d5_19 rfl rfl ?_
  refine GoS.iconst (pc' := 21) (v := 0) d5_20 rfl rfl ?_
  refine GoS.istore (pc' := 23) (Ls' := #[.val (.ref s), .val (.ref b2), .val (.ref t_11), .val (.int (Int32.ofNat cs.length)), .val (.int 0), .unset]) d5_21 rfl rfl ?_
  have Bd14 : Bld Z h11 b2 b_5 h.size cs.length 0 ([] : List Int32) := ⟨cs.length, 0, kb_5, sts0 h3, (F5_0.keep K11 nin0), (F5_1.keep K11 nin0), (F5_2.keep K11 nin0), (F5_3.keep K11 nin0), (F5_4.keep K11 nin0).pad (pad_rep [] (.int 0) cs.length), (F5_5.keep K11), (Nat.le_of_eq g2.symm), sz6, (fun _ e he => by simp at he), (fun e he => by simp at he)⟩
  have ne15 := (Nat.ne_of_lt (Nat.lt_of_lt_of_le (A2.keep K5).lt sz_t_11))
  have ne16 := (Nat.ne_of_lt (Nat.lt_of_lt_of_le F5_5.lt sz_t_11))
  exact GoS.more (c_escR0 l Z a0 hw h h11 s b2 t_11 kt_11 b_5 cs ([] : List Int32) (escs cs) ([]) cp wf hcp hwf hm h3 (Nat.zero_le _) hn rfl hcw hch122 hch127 hch129 hch131 scp sad shi slo sfm (Ne.symm ne15) (Ne.symm ne16) (((A2.keep K5).keep K11)) F11_0 Bd14 (Lds.nil : Lds Z h11 b2 b_5 []) (Nat.le_of_eq g2.symm) sz6 K13) (nl rfl) (nl rfl)
theorem c_esc0 (hw : HW a0 Z) (h : Heap) (s bs : Addr) (LL : List (String × Addr × String × Nat)) (cp : Int32) (wf : Value) (hcp : ¬ (cp = (0 : Int32))) (hwf : wf.isRef = true) (scp : Zcp Z (.int cp)) (sad : Zad Z (.int 1)) (shi : Zhi Z (.int 0)) (slo : Zlo Z (.int 8)) (sfm : Zfm Z wf) (xs : ES Z h s) (sc : StrC Z h s bs ([] : List Int32)) :
    ConS l M_58 q5 6 (some (.object "java/lang/String")) (rm4 10 24 300 200) Z n0 #[(.ref s)] h LL (fun v h' LL' => ∃ r : Addr, ∃ d : Addr, v = some (.ref r) ∧ Keep h h' [] ∧ n0 ≤ r ∧ h.size ≤ r ∧ n0 ≤ d ∧ h.size ≤ d ∧ ES Z h' r ∧ StrC Z h' r d (escs ([] : List Int32))) := by
  refine ConS.of_go (plainFor_of_name pn_8) (Ls := #[.val (.ref s), .unset, .unset, .unset, .unset, .unset]) ?_
  refine GoS.new (pc' := 3) (cells' := 1) (slots' := 4) (ww hw 32 rfl) (ww hw 33 rfl) (ww hw 34 rfl) d5_0 rfl rfl (by decide) (by decide) rfl ?_
  intro h1 b1 g1 E1 ge1 A1 D1
  have K2 := (Keep.refl h []).ext E1
  refine GoS.dup (pc' := 4) d5_3 rfl rfl ?_
  refine GoS.aloadN (pc' := 5) d5_4 rfl rfl rfl ?_
  refine GoS.callV (cells' := 1) (slots' := 4) (pc' := 8) [] [(.ref b1), (.ref b1)] (xs.ext E1) (ww hw 35 rfl) (ww hw 36 rfl) (nfS (ww hw 38 rfl)) (ww hw 38 rfl) (ww hw 37 rfl) (ww hw 8 rfl) (ww hw 39 rfl) (by decide) (Con.cold (c_jlen l Z a0 hw h1 s bs ([] : List Int32) cp hcp scp (xs.ext E1) (sc.ext E1))) pd_20 d5_5 rfl ?_
  rintro _ _ LLn ⟨⟨rfl, rfl⟩, eLn⟩
  rw [eLn]
  clear eLn LLn
  show GoS _ _ _ _ _ _ _ _ _ _ _ _ _ _ 8 _ [(.int (Int32.ofNat ([] : List Int32).length)), (.ref b1), (.ref b1)]
  refine GoS.callC (cells' := 2) (slots' := 7) (pc' := 11) [(.int (Int32.ofNat ([] : List Int32).length))] [(.ref b1)] (a := b1) rfl rfl (ww hw 46 rfl) (ww hw 47 rfl) (ww hw 34 rfl) (ww hw 48 rfl) (by decide) (Con.cold (c_sbInit l Z a0 hw h1 b1 ((Int32.ofNat ([] : List Int32).length)) cp hcp (by decide) (by decide) scp ge1 A1 ((D1 (Or.inl (ww hw 58 rfl)) (ty := (.array .byte)) (by decide) : FV Z h1 b1 .null)) ((D1 (Or.inl (ww hw 60 rfl)) (ty := .byte) (by decide) : FK Z h1 b1 (.int 0))) ((D1 (Or.inl (ww hw 105 rfl)) (ty := .int) (by decide) : FN Z h1 b1 (.int 0))) ((D1 (Or.inl (ww hw 300 rfl)) (ty := .boolean) (by decide) : FM Z h1 b1 (.int 0))))) pd_14 d5_8 rfl ?_
  rintro _ h4 LLn ⟨⟨b_4, kb_4, rfl, K4, ge_b_4, sz_b_4, F4_0, F4_1, F4_2, F4_3, F4_4, F4_5⟩, eLn⟩
  rw [eLn]
  clear eLn LLn
  have sz5 : h.size ≤ b_4 := Nat.le_trans K2.1 sz_b_4
  have K6 := K2.trans K4 (allS (Or.inr (Nat.le_of_eq g1.symm)) all0)
  show GoS _ _ _ _ _ _ _ _ _ _ _ _ _ _ 11 _ [(.ref b1)]
  refine GoS.astoreN (pc' := 12) (Ls' := #[.val (.ref s), .val (.ref b1), .unset, .unset, .unset, .unset]) d5_11 rfl rfl rfl ?_
  refine GoS.aloadN (pc' := 13) d5_12 rfl rfl rfl ?_
  have ne7 := (Nat.ne_of_lt (Nat.lt_of_lt_of_le sc.lt0 (Nat.le_of_eq g1.symm)))
  have ne8 := (Nat.ne_of_lt (Nat.lt_of_lt_of_le sc.lt1 (Nat.le_of_eq g1.symm)))
  have f9 := ((sc.ext E1).keep K4 (ninS ne7 nin0) (ninS ne8 nin0))
  refine GoS.callV (cells' := 3) (slots' := 10) (pc' := 16) [] [] ((xs.ext E1).keep K4) (ww hw 61 rfl) (ww hw 62 rfl) (nfS (ww hw 64 rfl)) (ww hw 64 rfl) (ww hw 63 rfl) (ww hw 8 rfl) (ww hw 65 rfl) (by decide) (Con.cold (c_jtca l Z a0 hw h4 s bs ([] : List Int32) cp wf hcp hwf (by decide) scp sad shi slo sfm (((xs.ext E1).keep K4)) f9)) pd_39 d5_13 rfl ?_
  rintro _ h10 LLn ⟨⟨t_10, kt_10, rfl, K10, ge_t_10, sz_t_10, F10_0⟩, eLn⟩
  rw [eLn]
  clear eLn LLn
  have sz11 : h.size ≤ t_10 := Nat.le_trans K6.1 sz_t_10
  have K12 := K6.trans K10 all0
  show GoS _ _ _ _ _ _ _ _ _ _ _ _ _ _ 16 _ [(.ref t_10)]
  refine GoS.astoreN (pc' := 17) (Ls' := #[.val (.ref s), .val (.ref b1), .val (.ref t_10), .unset, .unset, .unset]) d5_16 rfl rfl rfl ?_
  refine GoS.aloadN (pc' := 18) d5_17 rfl rfl rfl ?_
  refine GoS.arraylength (pc' := 19) F10_0 d5_18 rfl ?_
  refine GoS.istoreN (pc' := 20) (Ls' := #[.val (.ref s), .val (.ref b1), .val (.ref t_10), .val (.int (Int32.ofNat ([] : List Int32).length)), .unset, .unset]) d5_19 rfl rfl ?_
  refine GoS.iconst (pc' := 21) (v := 0) d5_20 rfl rfl ?_
  refine GoS.istore (pc' := 23) (Ls' := #[.val (.ref s), .val (.ref b1), .val (.ref t_10), .val (.int (Int32.ofNat ([] : List Int32).length)), .val (.int 0), .unset]) d5_21 rfl rfl ?_
  have Bd13 : Bld Z h10 b1 b_4 h.size 0 0 ([] : List Int32) := ⟨0, 0, kb_4, sts0 (by decide), (F4_0.keep K10 nin0), (F4_1.keep K10 nin0), (F4_2.keep K10 nin0), (F4_3.keep K10 nin0), (F4_4.keep K10 nin0).pad (pad_rep [] (.int 0) 0), (F4_5.keep K10), (Nat.le_of_eq g1.symm), sz5, (fun _ e he => by simp at he), (fun e he => by simp at he)⟩
  refine GoS.iload (pc' := 25) d5_23 rfl rfl ?_
  refine GoS.iloadN (pc' := 26) d5_25 rfl rfl ?_
  refine GoS.icmpYes (pc' := 133) d5_26 (XT.ii_ge_t (by decide)) (by decide) (by decide) ?_
  refine GoS.aloadN (pc' := 134) d5_133 rfl rfl rfl ?_
  refine GoS.callV (cells' := 5) (slots' := 30) (pc' := 137) [] [] ((A1.keep K4).keep K10) (ww hw 78 rfl) (ww hw 79 rfl) (nfS (ww hw 81 rfl)) (ww hw 81 rfl) (ww hw 80 rfl) (ww hw 34 rfl) (ww hw 82 rfl) (by decide) (Con.cold (c_toStr l Z a0 hw h10 b1 b_4 h.size 0 ([] : List Int32) cp (by decide) hcp scp (((A1.keep K4).keep K10)) Bd13)) pd_36 d5_134 rfl ?_
  rintro _ h14 LLn ⟨⟨r_14, d_14, rfl, K14, ge_r_14, sz_r_14, ge_d_14, sz_d_14, F14_0, F14_1⟩, eLn⟩
  rw [eLn]
  clear eLn LLn
  have sz15 : h.size ≤ r_14 := Nat.le_trans K12.1 sz_r_14
  have sz16 : h.size ≤ d_14 := Nat.le_trans K12.1 sz_d_14
  have K17 := K12.trans K14 all0
  show GoS _ _ _ _ _ _ _ _ _ _ _ _ _ _ 137 _ [(.ref r_14)]
  exact GoS.retR rfl rfl rfl rfl d5_137 ⟨r_14, d_14, rfl, K17, ge_r_14, sz15, ge_d_14, sz16, F14_0, F14_1⟩
theorem c_special (hw : HW a0 Z) (h : Heap) (c : Int32) :
    Con l M_59 q39 1 (some .boolean) (rm4 0 0 0 0) Z n0 #[(.int c)] h (fun v h' => v = some (.int (if Spc c then (1 : Int32) else 0)) ∧ h = h') := by
  refine Con.of_go (plainFor_of_name pn_9) (Ls := #[.val (.int c)]) ?_
  refine Go.iloadN (pc' := 1) d39_0 rfl rfl ?_
  refine Go.bipush (pc' := 3) (v := 92) d39_1 rfl rfl ?_
  by_cases hc1 : c = (92 : Int32)
  ·
    refine Go.icmpYes (pc' := 24) d39_3 (XT.ii_eq_t hc1) (by decide) (by decide) ?_
    refine Go.iconst (pc' := 25) (v := 1) d39_24 rfl rfl ?_
    refine Go.goto (pc' := 29) d39_25 (by decide) (by decide) ?_
    exact Go.retN (t := .boolean) rfl (by simp) d39_29 ⟨(by rw [if_pos (Or.inl hc1)]; rfl), rfl⟩
  ·
    refine Go.icmpNo (pc' := 6) d39_3 (XT.ii_eq_f hc1) rfl ?_
    refine Go.iloadN (pc' := 7) d39_6 rfl rfl ?_
    refine Go.bipush (pc' := 9) (v := 9) d39_7 rfl rfl ?_
    by_cases hc2 : c = (9 : Int32)
    ·
      refine Go.icmpYes (pc' := 24) d39_9 (XT.ii_eq_t hc2) (by decide) (by decide) ?_
      refine Go.iconst (pc' := 25) (v := 1) d39_24 rfl rfl ?_
      refine Go.goto (pc' := 29) d39_25 (by decide) (by decide) ?_
      exact Go.retN (t := .boolean) rfl (by simp) d39_29 ⟨(by rw [if_pos (Or.inr (Or.inl hc2))]; rfl), rfl⟩
    ·
      refine Go.icmpNo (pc' := 12) d39_9 (XT.ii_eq_f hc2) rfl ?_
      refine Go.iloadN (pc' := 13) d39_12 rfl rfl ?_
      refine Go.bipush (pc' := 15) (v := 10) d39_13 rfl rfl ?_
      by_cases hc3 : c = (10 : Int32)
      ·
        refine Go.icmpYes (pc' := 24) d39_15 (XT.ii_eq_t hc3) (by decide) (by decide) ?_
        refine Go.iconst (pc' := 25) (v := 1) d39_24 rfl rfl ?_
        refine Go.goto (pc' := 29) d39_25 (by decide) (by decide) ?_
        exact Go.retN (t := .boolean) rfl (by simp) d39_29 ⟨(by rw [if_pos (Or.inr (Or.inr (Or.inl hc3)))]; rfl), rfl⟩
      ·
        refine Go.icmpNo (pc' := 18) d39_15 (XT.ii_eq_f hc3) rfl ?_
        refine Go.iloadN (pc' := 19) d39_18 rfl rfl ?_
        refine Go.bipush (pc' := 21) (v := 13) d39_19 rfl rfl ?_
        by_cases hc4 : c = (13 : Int32)
        ·
          refine Go.icmpNo (pc' := 24) d39_21 (XT.ii_ne_f hc4) rfl ?_
          refine Go.iconst (pc' := 25) (v := 1) d39_24 rfl rfl ?_
          refine Go.goto (pc' := 29) d39_25 (by decide) (by decide) ?_
          exact Go.retN (t := .boolean) rfl (by simp) d39_29 ⟨(by rw [if_pos (Or.inr (Or.inr (Or.inr (hc4))))]; rfl), rfl⟩
        ·
          refine Go.icmpYes (pc' := 28) d39_21 (XT.ii_ne_t hc4) (by decide) (by decide) ?_
          refine Go.iconst (pc' := 29) (v := 0) d39_28 rfl rfl ?_
          exact Go.retN (t := .boolean) rfl (by simp) d39_29 ⟨(by rw [if_neg (fun q => q.elim hc1 (fun q => q.elim hc2 (fun q => q.elim hc3 hc4)))]; rfl), rfl⟩
theorem c_w (hw : HW a0 Z) (h : Heap) (c : Int32) :
    Con l M_60 q38 1 (some .int) (rm4 1 0 0 12) Z n0 #[(.int c)] h (fun v h' => v = some (.int (wd c)) ∧ h = h') := by
  refine Con.of_go (plainFor_of_name pn_9) (Ls := #[.val (.int c)]) ?_
  refine Go.iloadN (pc' := 1) d38_0 rfl rfl ?_
  refine Go.callS (cells' := 0) (slots' := 0) (pc' := 4) [(.int c)] [] (ww hw 204 rfl) (ww hw 205 rfl) (ww hw 2 rfl) (ww hw 206 rfl) (by decide) (c_special l Z a0 hw h c) pd_15 d38_1 rfl ?_
  rintro _ _ ⟨rfl, rfl⟩
  show Go _ _ _ _ _ _ _ _ _ _ _ _ 4 _ [(.int (if Spc c then (1 : Int32) else 0))]
  by_cases hc2 : (if Spc c then (1 : Int32) else 0) = (0 : Int32)
  ·
    refine Go.ifYes (pc' := 11) d38_4 (XT.i0_eq_t hc2) (by decide) (by decide) ?_
    refine Go.iconst (pc' := 12) (v := 1) d38_11 rfl rfl ?_
    exact Go.retI rfl d38_12 ⟨congrArg (fun z => some (Value.int z)) (own_wd0 hc2).symm, rfl⟩
  ·
    refine Go.ifNo (pc' := 7) d38_4 (XT.i0_eq_f hc2) rfl ?_
    refine Go.iconst (pc' := 8) (v := 2) d38_7 rfl rfl ?_
    refine Go.goto (pc' := 12) d38_8 (by decide) (by decide) ?_
    exact Go.retI rfl d38_12 ⟨congrArg (fun z => some (Value.int z)) (own_wd1 hc2).symm, rfl⟩
theorem c_code (hw : HW a0 Z) (h : Heap) (c : Int32) :
    Con l M_61 q45 1 (some .char) (rm4 0 0 0 0) Z n0 #[(.int c)] h (fun v h' => v = some (.int (cde c)) ∧ h = h') := by
  refine Con.of_go (plainFor_of_name pn_9) (Ls := #[.val (.int c)]) ?_
  refine Go.iloadN (pc' := 1) d45_0 rfl rfl ?_
  refine Go.bipush (pc' := 3) (v := 92) d45_1 rfl rfl ?_
  by_cases hc1 : c = (92 : Int32)
  ·
    refine Go.icmpNo (pc' := 6) d45_3 (XT.ii_ne_f hc1) rfl ?_
    refine Go.bipush (pc' := 8) (v := 92) d45_6 rfl rfl ?_
    exact Go.retN (t := .char) rfl (by simp) d45_8 ⟨(by rw [show cde c = (92 : Int32) from by simp [cde, hc1]]; rfl), rfl⟩
  ·
    refine Go.icmpYes (pc' := 9) d45_3 (XT.ii_ne_t hc1) (by decide) (by decide) ?_
    refine Go.iloadN (pc' := 10) d45_9 rfl rfl ?_
    refine Go.bipush (pc' := 12) (v := 9) d45_10 rfl rfl ?_
    by_cases hc2 : c = (9 : Int32)
    ·
      refine Go.icmpNo (pc' := 15) d45_12 (XT.ii_ne_f hc2) rfl ?_
      refine Go.bipush (pc' := 17) (v := 116) d45_15 rfl rfl ?_
      exact Go.retN (t := .char) rfl (by simp) d45_17 ⟨(by rw [show cde c = (116 : Int32) from by simp [cde, hc1, hc2]]; rfl), rfl⟩
    ·
      refine Go.icmpYes (pc' := 18) d45_12 (XT.ii_ne_t hc2) (by decide) (by decide) ?_
      refine Go.iloadN (pc' := 19) d45_18 rfl rfl ?_
      refine Go.bipush (pc' := 21) (v := 10) d45_19 rfl rfl ?_
      by_cases hc3 : c = (10 : Int32)
      ·
        refine Go.icmpNo (pc' := 24) d45_21 (XT.ii_ne_f hc3) rfl ?_
        refine Go.bipush (pc' := 26) (v := 110) d45_24 rfl rfl ?_
        exact Go.retN (t := .char) rfl (by simp) d45_26 ⟨(by rw [show cde c = (110 : Int32) from by simp [cde, hc1, hc2, hc3]]; rfl), rfl⟩
      ·
        refine Go.icmpYes (pc' := 27) d45_21 (XT.ii_ne_t hc3) (by decide) (by decide) ?_
        refine Go.bipush (pc' := 29) (v := 114) d45_27 rfl rfl ?_
        exact Go.retN (t := .char) rfl (by simp) d45_29 ⟨(by rw [show cde c = (114 : Int32) from by simp [cde, hc1, hc2, hc3]]; rfl), rfl⟩
theorem c_at (hw : HW a0 Z) (h : Heap) (r b : Addr) (E : List Int32) (p c : Int32) (q : Nat) (gs : List Int32) (cp : Int32) (wf : Value) (hcp : ¬ (cp = (0 : Int32))) (hwf : wf.isRef = true) (hpq : p = Int32.ofNat q) (hq6 : q ≤ 6) (hd : E.drop q = esc c ++ gs) (scp : Zcp Z (.int cp)) (sad : Zad Z (.int 1)) (shi : Zhi Z (.int 0)) (slo : Zlo Z (.int 8)) (sfm : Zfm Z wf) (x : ES Z h r) (sc : StrC Z h r b E) :
    Con l M_62 q40 3 (some .boolean) (rm4 5 0 0 66) Z n0 #[(.ref r), (.int p), (.int c)] h (fun v h' => v = some (.int 1) ∧ h = h') := by
  refine Con.of_go (plainFor_of_name pn_9) (Ls := #[.val (.ref r), .val (.int p), .val (.int c)]) ?_
  refine Go.iloadN (pc' := 1) d40_0 rfl rfl ?_
  refine Go.callS (cells' := 0) (slots' := 0) (pc' := 4) [(.int c)] [] (ww hw 204 rfl) (ww hw 205 rfl) (ww hw 2 rfl) (ww hw 206 rfl) (by decide) (c_special l Z a0 hw h c) pd_15 d40_1 rfl ?_
  rintro _ _ ⟨rfl, rfl⟩
  show Go _ _ _ _ _ _ _ _ _ _ _ _ 4 _ [(.int (if Spc c then (1 : Int32) else 0))]
  by_cases hc2 : (if Spc c then (1 : Int32) else 0) = (0 : Int32)
  ·
    refine Go.ifYes (pc' := 37) d40_4 (XT.i0_eq_t hc2) (by decide) (by decide) ?_
    obtain ⟨g1, g2⟩ := own_atN hd (own_sp0 hc2)
    refine Go.aloadN (pc' := 38) d40_37 rfl rfl rfl ?_
    refine Go.iloadN (pc' := 39) d40_38 rfl rfl ?_
    refine Go.callV (cells' := 0) (slots' := 0) (pc' := 42) [(.int p)] [] x (ww hw 210 rfl) (ww hw 211 rfl) (nfS (ww hw 213 rfl)) (ww hw 213 rfl) (ww hw 212 rfl) (ww hw 8 rfl) (ww hw 214 rfl) (by decide) (c_jat l Z a0 hw h r b E p q c cp wf hcp hwf hpq g1 g2 scp sad shi slo sfm x sc) pd_40 d40_39 rfl ?_
    rintro _ _ ⟨rfl, rfl⟩
    show Go _ _ _ _ _ _ _ _ _ _ _ _ 42 _ [(.int c)]
    refine Go.iloadN (pc' := 43) d40_42 rfl rfl ?_
    refine Go.icmpNo (pc' := 46) d40_43 (XT.ii_ne_f rfl) rfl ?_
    refine Go.iconst (pc' := 47) (v := 1) d40_46 rfl rfl ?_
    refine Go.goto (pc' := 51) d40_47 (by decide) (by decide) ?_
    exact Go.retN (t := .boolean) rfl (by simp) d40_51 ⟨rfl, rfl⟩
  ·
    refine Go.ifNo (pc' := 7) d40_4 (XT.i0_eq_f hc2) rfl ?_
    obtain ⟨g1, g2, g3, g4⟩ := own_atS hd (own_sp1 hc2)
    refine Go.aloadN (pc' := 8) d40_7 rfl rfl rfl ?_
    refine Go.iloadN (pc' := 9) d40_8 rfl rfl ?_
    refine Go.callV (cells' := 0) (slots' := 0) (pc' := 12) [(.int p)] [] x (ww hw 210 rfl) (ww hw 211 rfl) (nfS (ww hw 213 rfl)) (ww hw 213 rfl) (ww hw 212 rfl) (ww hw 8 rfl) (ww hw 214 rfl) (by decide) (c_jat l Z a0 hw h r b E p q (92 : Int32) cp wf hcp hwf hpq g1 g2 scp sad shi slo sfm x sc) pd_40 d40_9 rfl ?_
    rintro _ _ ⟨rfl, rfl⟩
    show Go _ _ _ _ _ _ _ _ _ _ _ _ 12 _ [(.int 92)]
    refine Go.bipush (pc' := 14) (v := 92) d40_12 rfl rfl ?_
    refine Go.icmpNo (pc' := 17) d40_14 (XT.ii_ne_f (by decide)) rfl ?_
    refine Go.aloadN (pc' := 18) d40_17 rfl rfl rfl ?_
    refine Go.iloadN (pc' := 19) d40_18 rfl rfl ?_
    refine Go.iconst (pc' := 20) (v := 1) d40_19 rfl rfl ?_
    refine Go.iadd (pc' := 21) d40_20 rfl ?_
    refine Go.callV (cells' := 0) (slots' := 0) (pc' := 24) [(.int (p + (1 : Int32)))] [] x (ww hw 210 rfl) (ww hw 211 rfl) (nfS (ww hw 213 rfl)) (ww hw 213 rfl) (ww hw 212 rfl) (ww hw 8 rfl) (ww hw 214 rfl) (by decide) (c_jat l Z a0 hw h r b E ((p + (1 : Int32))) (q + 1) (cde c) cp wf hcp hwf (by rw [hpq]; exact own_of1 q hq6) g3 g4 scp sad shi slo sfm x sc) pd_40 d40_21 rfl ?_
    rintro _ _ ⟨rfl, rfl⟩
    show Go _ _ _ _ _ _ _ _ _ _ _ _ 24 _ [(.int (cde c))]
    refine Go.iloadN (pc' := 25) d40_24 rfl rfl ?_
    refine Go.callS (cells' := 0) (slots' := 0) (pc' := 28) [(.int c)] [(.int (cde c))] (ww hw 226 rfl) (ww hw 227 rfl) (ww hw 2 rfl) (ww hw 228 rfl) (by decide) (c_code l Z a0 hw h c) pd_41 d40_25 rfl ?_
    rintro _ _ ⟨rfl, rfl⟩
    show Go _ _ _ _ _ _ _ _ _ _ _ _ 28 _ [(.int (cde c)), (.int (cde c))]
    refine Go.icmpNo (pc' := 31) d40_28 (XT.ii_ne_f rfl) rfl ?_
    refine Go.iconst (pc' := 32) (v := 1) d40_31 rfl rfl ?_
    refine Go.goto (pc' := 36) d40_32 (by decide) (by decide) ?_
    exact Go.retN (t := .boolean) rfl (by simp) d40_36 ⟨rfl, rfl⟩
theorem c_pick (hw : HW a0 Z) (h : Heap) (x : Int32) :
    Con l M_63 q1 2 (some .char) (rm4 0 0 0 0) Z n0 #[(.int x)] h (fun v h' => ∃ k : Int32, v = some (.int k) ∧ h = h' ∧ (nar .char k = k)) := by
  refine Con.of_go (plainFor_of_name pn_9) (Ls := #[.val (.int x), .unset]) ?_
  refine Go.iloadN (pc' := 1) d1_0 rfl rfl ?_
  refine Go.ldcI (pc' := 3) (ww hw 4 rfl) d1_1 rfl ?_
  refine Go.iand (pc' := 4) d1_3 rfl ?_
  by_cases hc1 : (x &&& (65536 : Int32)) = (0 : Int32)
  ·
    refine Go.ifYes (pc' := 37) d1_4 (XT.i0_eq_t hc1) (by decide) (by decide) ?_
    refine Go.iloadN (pc' := 38) d1_37 rfl rfl ?_
    refine Go.ldcI (pc' := 40) (ww hw 5 rfl) d1_38 rfl ?_
    refine Go.iand (pc' := 41) d1_40 rfl ?_
    refine Go.i2c (pc' := 42) d1_41 rfl ?_
    exact Go.retN (t := .char) rfl (by simp) d1_42 ⟨(x &&& (65535 : Int32)).toUInt32.toUInt16.toUInt32.toInt32, congrArg (fun z => some (Value.int z)) (show nar .char (x &&& (65535 : Int32)).toUInt32.toUInt16.toUInt32.toInt32 = (x &&& (65535 : Int32)).toUInt32.toUInt16.toUInt32.toInt32 from OwnNum.c16 _), rfl, (show nar .char (x &&& (65535 : Int32)).toUInt32.toUInt16.toUInt32.toInt32 = (x &&& (65535 : Int32)).toUInt32.toUInt16.toUInt32.toInt32 from OwnNum.c16 _)⟩
  ·
    refine Go.ifNo (pc' := 7) d1_4 (XT.i0_eq_f hc1) rfl ?_
    refine Go.iloadN (pc' := 8) d1_7 rfl rfl ?_
    refine Go.iconst (pc' := 9) (v := 3) d1_8 rfl rfl ?_
    refine Go.iand (pc' := 10) d1_9 rfl ?_
    refine Go.istoreN (pc' := 11) (Ls' := #[.val (.int x), .val (.int (x &&& (3 : Int32)))]) d1_10 rfl rfl ?_
    refine Go.iloadN (pc' := 12) d1_11 rfl rfl ?_
    by_cases hc2 : (x &&& (3 : Int32)) = (0 : Int32)
    ·
      refine Go.ifNo (pc' := 15) d1_12 (XT.i0_ne_f hc2) rfl ?_
      refine Go.bipush (pc' := 17) (v := 92) d1_15 rfl rfl ?_
      exact Go.retN (t := .char) rfl (by simp) d1_17 ⟨(92 : Int32), rfl, rfl, (by decide)⟩
    ·
      refine Go.ifYes (pc' := 18) d1_12 (XT.i0_ne_t hc2) (by decide) (by decide) ?_
      refine Go.iloadN (pc' := 19) d1_18 rfl rfl ?_
      refine Go.iconst (pc' := 20) (v := 1) d1_19 rfl rfl ?_
      by_cases hc3 : (x &&& (3 : Int32)) = (1 : Int32)
      ·
        refine Go.icmpNo (pc' := 23) d1_20 (XT.ii_ne_f hc3) rfl ?_
        refine Go.bipush (pc' := 25) (v := 9) d1_23 rfl rfl ?_
        exact Go.retN (t := .char) rfl (by simp) d1_25 ⟨(9 : Int32), rfl, rfl, (by decide)⟩
      ·
        refine Go.icmpYes (pc' := 26) d1_20 (XT.ii_ne_t hc3) (by decide) (by decide) ?_
        refine Go.iloadN (pc' := 27) d1_26 rfl rfl ?_
        refine Go.iconst (pc' := 28) (v := 2) d1_27 rfl rfl ?_
        by_cases hc4 : (x &&& (3 : Int32)) = (2 : Int32)
        ·
          refine Go.icmpNo (pc' := 31) d1_28 (XT.ii_ne_f hc4) rfl ?_
          refine Go.bipush (pc' := 33) (v := 10) d1_31 rfl rfl ?_
          exact Go.retN (t := .char) rfl (by simp) d1_33 ⟨(10 : Int32), rfl, rfl, (by decide)⟩
        ·
          refine Go.icmpYes (pc' := 34) d1_28 (XT.ii_ne_t hc4) (by decide) (by decide) ?_
          refine Go.bipush (pc' := 36) (v := 13) d1_34 rfl rfl ?_
          exact Go.retN (t := .char) rfl (by simp) d1_36 ⟨(13 : Int32), rfl, rfl, (by decide)⟩
theorem c_str0Init4 (hw : HW a0 Z) (h : Heap) (a t : Addr) (kt : ClassId) (hcw : Jvm.Lit.compactW.before a0 Z = true) (hch7 : Jvm.Lit.constHeld Z "java/lang/String" 7) (ge_a : n0 ≤ a) (xa : ES Z h a) (pf0 : GV Z h a .null) (pf1 : GK Z h a (.int 0)) (vt : Arv Z h t kt .char (0 : Int32) [] (.int 0)) :
    ConS l M_56 q3 6 none (rm4 1 2 4 12) Z n0 #[(.ref a), (.ref t), (.int 0), (.int 0), .null] h [] (fun v h' LL' => ∃ sa : Addr, ∃ sb : Addr, ∃ ks : ClassId, v = none ∧ Keep h h' [a] ∧ GV Z h' a (.ref sb) ∧ GK Z h' a (.int 0) ∧ AB Z h' sb ks (0 : Int32) [] (.int 0) ∧ EA Z h' sb ∧ Hel Z h' sa sb ("") ∧ LL' = [("", sa, "java/lang/String", 7)]) := by
  refine ConS.of_go (plainFor_of_name pn_0) (Ls := #[.val (.ref a), .val (.ref t), .val (.int 0), .val (.int 0), .val .null, .unset]) ?_
  refine GoS.aloadN (pc' := 1) d3_0 rfl rfl rfl ?_
  refine GoS.initO (pc' := 4) (ww hw 17 rfl) (ww hw 18 rfl) (ww hw 19 rfl) d3_1 rfl (nl rfl) (nl rfl) rfl ?_
  refine GoS.iloadN (pc' := 5) d3_4 rfl rfl ?_
  refine GoS.ifNo (pc' := 8) d3_5 (XT.i0_ne_f (by decide)) rfl ?_
  refine GoS.aloadN (pc' := 9) d3_8 rfl rfl rfl ?_
  refine GoS.ldcS (pc' := 11) (cells' := 2) (slots' := 4) (n := 0) (z := (0 : Int32)) (vs := []) (ww hw 20 rfl) (wsA hw) hch7 hcw (Keep.refl h []) HL.nil tx_0 (by decide) rfl d3_9 (nl rfl) (nl rfl) rfl rfl (nl rfl) (nl rfl) rfl ?_
  intro h1 sa1 sb1 kb1 E1 F1_0 F1_1 F1_2 F1_3 F1_4 F1_5
  have K2 := (Keep.refl h [a]).ext E1
  have K3 := (Keep.refl h []).ext E1
  have H4 : Hel Z h1 sa1 sb1 "" := ⟨kb1, _, _, F1_0, F1_1, F1_2, F1_3, F1_4, tx_0, rfl⟩
  show GoS _ _ _ _ _ _ _ _ _ _ _ _ _ _ 11 _ [(.ref sa1), (.ref a)]
  refine GoS.getfield (pc' := 14) (host := "") (Or.inl (ww hw 26 rfl)) Via.refl F1_2 d3_11 rfl ?_
  have ne5 := own_fne F1_2 (pf0.ext E1) nofun
  refine GoS.putfield (pc' := 17) (host := "") (Or.inl (ww hw 26 rfl)) Via.refl (pf0.ext E1) (xa.ext E1) (Or.inr ⟨(ww hw 22 rfl), rfl, rfl⟩) (ww hw 7 rfl) (ty := (.array .byte)) (by decide) rfl rfl ge_a d3_14 rfl ?_
  intro h6 W7
  have K8 := K2.wr W7 (Or.inl (List.mem_of_getElem? (i := 0) rfl))
  have f9 := (pf0.ext E1).same W7
  refine GoS.aloadN (pc' := 18) d3_17 rfl rfl rfl ?_
  refine GoS.ldcAgain (pc' := 20) (a := sa1) (ww hw 20 rfl) (List.mem_of_getElem? (i := 0) rfl) d3_18 rfl ?_
  refine GoS.getfield (pc' := 23) (host := "") (Or.inl (ww hw 27 rfl)) Via.refl (F1_1.other W7 (Or.inl ne5)) d3_20 rfl ?_
  have f10 := ((pf1.ext E1).other W7 (Or.inr (sn_10 hw)))
  refine GoS.putfieldN (pc' := 26) (ww hw 27 rfl) Via.refl f10 ((xa.ext E1).wr W7) (Or.inr ⟨(ww hw 23 rfl), rfl, rfl⟩) (ww hw 7 rfl) (ty := .byte) (v' := (0 : Int32)) (by decide) (by first | rfl | decide) (by first | rfl | decide | exact fits_nar_byte _) ge_a d3_23 rfl ?_
  intro h11 W12
  have K13 := K8.wr W12 (Or.inl (List.mem_of_getElem? (i := 0) rfl))
  have f14 := f10.same W12
  have ne15 := ne_exa ((F1_4.wr W7).wr W12) (((xa.ext E1).wr W7).wr W12) (by decide)
  have f16 := ((H4.other W7 ne5 ne15).other W12 ne5 ne15)
  exact GoS.retV rfl d3_26 ⟨sa1, sb1, kb1, rfl, K13, (f9.other W12 (Or.inr (sn_9 hw))), f14, ((F1_3.other W7 ne15).other W12 ne15), ((F1_4.wr W7).wr W12), f16, rfl⟩
theorem c_str0Init (hw : HW a0 Z) (h : Heap) (a t : Addr) (kt : ClassId) (hcw : Jvm.Lit.compactW.before a0 Z = true) (hch7 : Jvm.Lit.constHeld Z "java/lang/String" 7) (ge_a : n0 ≤ a) (xa : ES Z h a) (pf0 : GV Z h a .null) (pf1 : GK Z h a (.int 0)) (vt : Arv Z h t kt .char (0 : Int32) [] (.int 0)) :
    ConS l M_57 q2 2 none (rm4 2 2 4 29) Z n0 #[(.ref a), (.ref t)] h [] (fun v h' LL' => ∃ sa : Addr, ∃ sb : Addr, ∃ ks : ClassId, v = none ∧ Keep h h' [a] ∧ GV Z h' a (.ref sb) ∧ GK Z h' a (.int 0) ∧ AB Z h' sb ks (0 : Int32) [] (.int 0) ∧ EA Z h' sb ∧ Hel Z h' sa sb ("") ∧ LL' = [("", sa, "java/lang/String", 7)]) := by
  refine ConS.of_go (plainFor_of_name pn_0) (Ls := #[.val (.ref a), .val (.ref t)]) ?_
  refine GoS.aloadN (pc' := 1) d2_0 rfl rfl rfl ?_
  refine GoS.aloadN (pc' := 2) d2_1 rfl rfl rfl ?_
  refine GoS.iconst (pc' := 3) (v := 0) d2_2 rfl rfl ?_
  refine GoS.aloadN (pc' := 4) d2_3 rfl rfl rfl ?_
  refine GoS.arraylength (pc' := 5) vt d2_4 rfl ?_
  refine GoS.aconstNull (pc' := 6) d2_5 rfl ?_
  refine GoS.callC (cells' := 2) (slots' := 4) (pc' := 9) [(.ref t), (.int 0), (.int 0), .null] [] (a := a) rfl rfl (ww hw 13 rfl) (ww hw 14 rfl) (ww hw 8 rfl) (ww hw 16 rfl) (by decide) (c_str0Init4 l Z a0 hw h a t kt hcw hch7 ge_a xa pf0 pf1 vt) pd_35 d2_6 rfl ?_
  rintro _ h1 _ ⟨sa_1, sb_1, ks_1, rfl, K1, F1_0, F1_1, F1_2, F1_3, F1_4, rfl⟩
  show GoS _ _ _ _ _ _ _ _ _ _ _ _ _ _ 9 _ []
  exact GoS.retV rfl d2_9 ⟨sa_1, sb_1, ks_1, rfl, K1, F1_0, F1_1, F1_2, F1_3, F1_4, rfl⟩
theorem c_lawR0 (hw : HW a0 Z) (hs h : Heap) (p0 p1 p2 p3 k0 k1 k2 cp : Int32) (wf : Value) (hcp : ¬ (cp = (0 : Int32))) (hwf : wf.isRef = true) (hcw : Jvm.Lit.compactW.before a0 Z = true) (hch7 : Jvm.Lit.constHeld Z "java/lang/String" 7) (hch122 : Jvm.Lit.constHeld Z "com/example/aligned_index/alignedindex/inspect/Inspector" 122) (hch127 : Jvm.Lit.constHeld Z "com/example/aligned_index/alignedindex/inspect/Inspector" 127) (hch129 : Jvm.Lit.constHeld Z "com/example/aligned_index/alignedindex/inspect/Inspector" 129) (hch131 : Jvm.Lit.constHeld Z "com/example/aligned_index/alignedindex/inspect/Inspector" 131) (hn0 : nar .char k0 = k0) (hn1 : nar .char k1 = k1) (hn2 : nar .char k2 = k2) (scp : Zcp Z (.int cp)) (sad : Zad Z (.int 1)) (shi : Zhi Z (.int 0)) (slo : Zlo Z (.int 8)) (sfm : Zfm Z wf) (Kp : Keep hs h []) :
    GoS l room_1 Z n0 x code maxLocals ret (fun v h' LL' => v = some (.int 1) ∧ Keep hs h' []) hs [] 0 0 h 58 #[.val (.int p0), .val (.int p1), .val (.int p2), .val (.int p3), .val (.int 0), .val (.int k0), .val (.int k1), .val (.int k2), .unset, .unset, .unset, .unset, .unset] [] := by
  refine GoS.iload (pc' := 60) at_58 rfl rfl ?_
  refine GoS.ifNo (pc' := 63) at_60 (XT.i0_ne_f (by decide)) rfl ?_
  refine GoS.new (pc' := 66) (cells' := 1) (slots' := 4) (ww hw 6 rfl) (ww hw 7 rfl) (ww hw 8 rfl) at_63 rfl rfl (by decide) (by decide) rfl ?_
  intro h1 b1 g1 E1 ge1 A1 D1
  have sz2 : hs.size ≤ b1 := Nat.le_trans Kp.1 (Nat.le_of_eq g1.symm)
  have K3 := Kp.ext E1
  refine GoS.dup (pc' := 67) at_66 rfl rfl ?_
  refine GoS.iconst (pc' := 68) (v := 0) at_67 rfl rfl ?_
  refine GoS.newarray (pc' := 70) (cells' := 2) (slots' := 4) (cap := 0) (ww hw 9 rfl) at_68 (ad := "[C") (by decide) (by decide) (by decide) rfl rfl (by decide) (by decide) (by decide) rfl ?_
  intro h4 b4 g4 E4 ge4 kA4 A4 X4
  have sz5 : hs.size ≤ b4 := Nat.le_trans K3.1 (Nat.le_of_eq g4.symm)
  have K6 := K3.ext E4
  have V4 : Arv Z h4 b4 kA4 .char (0 : Int32) [] (.int 0) := Arv.pad A4 (pad_rep [] (.int 0) 0)
  have f7 := ((D1 (Or.inr (ww hw 22 rfl)) (ty := (.array .byte)) (by decide) : GV Z h1 b1 .null).ext E4)
  have f8 := ((D1 (Or.inr (ww hw 23 rfl)) (ty := .byte) (by decide) : GK Z h1 b1 (.int 0)).ext E4)
  refine GoS.callC (cells' := 4) (slots' := 8) (pc' := 73) [(.ref b4)] [(.ref b1)] (a := b1) rfl rfl (ww hw 10 rfl) (ww hw 11 rfl) (ww hw 8 rfl) (ww hw 12 rfl) (by decide) (c_str0Init l Z a0 hw h4 b1 b4 kA4 hcw hch7 ge1 (A1.ext E4) f7 f8 V4) pd_42 at_70 rfl ?_
  rintro _ h9 _ ⟨sa_9, sb_9, ks_9, rfl, K9, F9_0, F9_1, F9_2, F9_3, F9_4, rfl⟩
  have K10 := K6.trans K9 (allS (Or.inr sz2) all0)
  show GoS _ _ _ _ _ _ _ _ _ _ _ _ _ _ 73 _ [(.ref b1)]
  have Sc11 : StrC Z h9 b1 sb_9 ([] : List Int32) := ⟨ks_9, 0, Or.inl rfl, F9_1, F9_0, F9_2, F9_3, (fun _ e he => by simp at he), (fun e he => by simp at he), (by decide)⟩
  refine GoS.astore (pc' := 75) (Ls' := #[.val (.int p0), .val (.int p1), .val (.int p2), .val (.int p3), .val (.int 0), .val (.int k0), .val (.int k1), .val (.int k2), .val (.ref b1), .unset, .unset, .unset, .unset]) at_73 rfl rfl rfl ?_
  refine GoS.goto (pc' := 162) at_75 (by decide) (by decide) ?_
  refine GoS.aload (pc' := 164) at_162 rfl rfl rfl ?_
  refine GoS.callS (cells' := 28) (slots' := 308) (pc' := 167) [(.ref b1)] [] (ww hw 28 rfl) (ww hw 29 rfl) (ww hw 30 rfl) (ww hw 31 rfl) (by decide) (c_esc0 l Z a0 hw h9 b1 sb_9 ([("", sa_9, "java/lang/String", 7)]) cp wf hcp hwf scp sad shi slo sfm (((A1.ext E4).keep K9)) Sc11) pd_43 at_164 rfl ?_
  rintro _ h12 LL13 ⟨r_12, d_12, rfl, K12, ge_r_12, sz_r_12, ge_d_12, sz_d_12, F12_0, F12_1⟩
  have sz14 : hs.size ≤ r_12 := Nat.le_trans K10.1 sz_r_12
  have sz15 : hs.size ≤ d_12 := Nat.le_trans K10.1 sz_d_12
  have K16 := K10.trans K12 all0
  show GoS _ _ _ _ _ _ _ _ _ _ _ _ _ _ 167 _ [(.ref r_12)]
  refine GoS.astore (pc' := 169) (Ls' := #[.val (.int p0), .val (.int p1), .val (.int p2), .val (.int p3), .val (.int 0), .val (.int k0), .val (.int k1), .val (.int k2), .val (.ref b1), .val (.ref r_12), .unset, .unset, .unset]) at_167 rfl rfl rfl ?_
  refine GoS.iload (pc' := 171) at_169 rfl rfl ?_
  refine GoS.ifYes (pc' := 182) at_171 (XT.i0_le_t (by decide)) (by decide) (by decide) ?_
  refine GoS.iconst (pc' := 183) (v := 0) at_182 rfl rfl ?_
  refine GoS.iload (pc' := 185) at_183 rfl rfl ?_
  refine GoS.iconst (pc' := 186) (v := 1) at_185 rfl rfl ?_
  refine GoS.icmpYes (pc' := 197) at_186 (XT.ii_le_t (by decide)) (by decide) (by decide) ?_
  refine GoS.iconst (pc' := 198) (v := 0) at_197 rfl rfl ?_
  refine GoS.iadd (pc' := 199) at_198 rfl ?_
  show GoS _ _ _ _ _ _ _ _ _ _ _ _ _ _ 199 _ [(.int 0)]
  refine GoS.iload (pc' := 201) at_199 rfl rfl ?_
  refine GoS.iconst (pc' := 202) (v := 2) at_201 rfl rfl ?_
  refine GoS.icmpYes (pc' := 213) at_202 (XT.ii_le_t (by decide)) (by decide) (by decide) ?_
  refine GoS.iconst (pc' := 214) (v := 0) at_213 rfl rfl ?_
  refine GoS.iadd (pc' := 215) at_214 rfl ?_
  show GoS _ _ _ _ _ _ _ _ _ _ _ _ _ _ 215 _ [(.int 0)]
  refine GoS.istore (pc' := 217) (Ls' := #[.val (.int p0), .val (.int p1), .val (.int p2), .val (.int p3), .val (.int 0), .val (.int k0), .val (.int k1), .val (.int k2), .val (.ref b1), .val (.ref r_12), .val (.int 0), .unset, .unset]) at_215 rfl rfl ?_
  refine GoS.aload (pc' := 219) at_217 rfl rfl rfl ?_
  refine GoS.callV (cells' := 28) (slots' := 308) (pc' := 222) [] [] F12_0 (ww hw 124 rfl) (ww hw 36 rfl) (nfS (ww hw 38 rfl)) (ww hw 38 rfl) (ww hw 37 rfl) (ww hw 8 rfl) (ww hw 39 rfl) (by decide) (Con.cold (c_jlen l Z a0 hw h12 r_12 d_12 ((escs ([] : List Int32))) cp hcp scp F12_0 F12_1)) pd_20 at_219 rfl ?_
  rintro _ _ LLn ⟨⟨rfl, rfl⟩, eLn⟩
  rw [eLn]
  clear eLn LLn
  show GoS _ _ _ _ _ _ _ _ _ _ _ _ _ _ 222 _ [(.int (Int32.ofNat (escs ([] : List Int32)).length))]
  refine GoS.iload (pc' := 224) at_222 rfl rfl ?_
  refine GoS.icmpYes (pc' := 229) at_224 (XT.ii_eq_t (by decide : (Int32.ofNat (escs ([] : List Int32)).length) = (0 : Int32))) (by decide) (by decide) ?_
  refine GoS.iconst (pc' := 230) (v := 1) at_229 rfl rfl ?_
  refine GoS.istore (pc' := 232) (Ls' := #[.val (.int p0), .val (.int p1), .val (.int p2), .val (.int p3), .val (.int 0), .val (.int k0), .val (.int k1), .val (.int k2), .val (.ref b1), .val (.ref r_12), .val (.int 0), .val (.int 1), .unset]) at_230 rfl rfl ?_
  refine GoS.iconst (pc' := 233) (v := 0) at_232 rfl rfl ?_
  refine GoS.istore (pc' := 235) (Ls' := #[.val (.int p0), .val (.int p1), .val (.int p2), .val (.int p3), .val (.int 0), .val (.int k0), .val (.int k1), .val (.int k2), .val (.ref b1), .val (.ref r_12), .val (.int 0), .val (.int 1), .val (.int 0)]) at_233 rfl rfl ?_
  refine GoS.iload (pc' := 237) at_235 rfl rfl ?_
  refine GoS.ifYes (pc' := 274) at_237 (XT.i0_le_t (by decide)) (by decide) (by decide) ?_
  refine GoS.iload (pc' := 276) at_274 rfl rfl ?_
  refine GoS.iconst (pc' := 277) (v := 1) at_276 rfl rfl ?_
  refine GoS.icmpYes (pc' := 314) at_277 (XT.ii_le_t (by decide)) (by decide) (by decide) ?_
  refine GoS.iload (pc' := 316) at_314 rfl rfl ?_
  refine GoS.iconst (pc' := 317) (v := 2) at_316 rfl rfl ?_
  refine GoS.icmpYes (pc' := 344) at_317 (XT.ii_le_t (by decide)) (by decide) (by decide) ?_
  refine GoS.iload (pc' := 346) at_344 rfl rfl ?_
  exact GoS.retN (t := .boolean) rfl (by simp) at_346 ⟨rfl, K16⟩
theorem c_lawR1 (hw : HW a0 Z) (hs h : Heap) (p0 p1 p2 p3 k0 k1 k2 cp : Int32) (wf : Value) (hcp : ¬ (cp = (0 : Int32))) (hwf : wf.isRef = true) (hcw : Jvm.Lit.compactW.before a0 Z = true) (hch7 : Jvm.Lit.constHeld Z "java/lang/String" 7) (hch122 : Jvm.Lit.constHeld Z "com/example/aligned_index/alignedindex/inspect/Inspector" 122) (hch127 : Jvm.Lit.constHeld Z "com/example/aligned_index/alignedindex/inspect/Inspector" 127) (hch129 : Jvm.Lit.constHeld Z "com/example/aligned_index/alignedindex/inspect/Inspector" 129) (hch131 : Jvm.Lit.constHeld Z "com/example/aligned_index/alignedindex/inspect/Inspector" 131) (hn0 : nar .char k0 = k0) (hn1 : nar .char k1 = k1) (hn2 : nar .char k2 = k2) (scp : Zcp Z (.int cp)) (sad : Zad Z (.int 1)) (shi : Zhi Z (.int 0)) (slo : Zlo Z (.int 8)) (sfm : Zfm Z wf) (Kp : Keep hs h []) :
    GoS l room_1 Z n0 x code maxLocals ret (fun v h' LL' => v = some (.int 1) ∧ Keep hs h' []) hs [] 0 0 h 58 #[.val (.int p0), .val (.int p1), .val (.int p2), .val (.int p3), .val (.int 1), .val (.int k0), .val (.int k1), .val (.int k2), .unset, .unset, .unset, .unset, .unset] [] := by
  refine GoS.iload (pc' := 60) at_58 rfl rfl ?_
  refine GoS.ifYes (pc' := 78) at_60 (XT.i0_ne_t (by decide)) (by decide) (by decide) ?_
  refine GoS.iload (pc' := 80) at_78 rfl rfl ?_
  refine GoS.iconst (pc' := 81) (v := 1) at_80 rfl rfl ?_
  refine GoS.icmpNo (pc' := 84) at_81 (XT.ii_ne_f (by decide)) rfl ?_
  refine GoS.new (pc' := 87) (cells' := 1) (slots' := 4) (ww hw 6 rfl) (ww hw 7 rfl) (ww hw 8 rfl) at_84 rfl rfl (by decide) (by decide) rfl ?_
  intro h1 b1 g1 E1 ge1 A1 D1
  have sz2 : hs.size ≤ b1 := Nat.le_trans Kp.1 (Nat.le_of_eq g1.symm)
  have K3 := Kp.ext E1
  refine GoS.dup (pc' := 88) at_87 rfl rfl ?_
  refine GoS.iconst (pc' := 89) (v := 1) at_88 rfl rfl ?_
  refine GoS.newarray (pc' := 91) (cells' := 2) (slots' := 5) (cap := 1) (ww hw 9 rfl) at_89 (ad := "[C") (by decide) (by decide) (by decide) rfl rfl (by decide) (by decide) (by decide) rfl ?_
  intro h4 b4 g4 E4 ge4 kA4 A4 X4
  have sz5 : hs.size ≤ b4 := Nat.le_trans K3.1 (Nat.le_of_eq g4.symm)
  have K6 := K3.ext E4
  have V4 : Arv Z h4 b4 kA4 .char (1 : Int32) [(.int 0)] (.int 0) := Arv.pad A4 (pad_rep [] (.int 0) 1)
  refine GoS.dup (pc' := 92) at_91 rfl rfl ?_
  refine GoS.iconst (pc' := 93) (v := 0) at_92 rfl rfl ?_
  refine GoS.iload (pc' := 95) at_93 rfl rfl ?_
  refine GoS.castore (pc' := 96) V4 ge4 at_95 (by decide) (by decide) (i := 0) rfl (nl rfl) rfl ?_
  intro h7 W8 V9
  have K10 := K6.wr W8 (Or.inr sz5)
  rw [hn0] at V9
  replace V9 : Arv Z h7 b4 kA4 .char (1 : Int32) [(.int k0)] (.int 0) := V9
  have ne11 := (Nat.ne_of_lt (Nat.lt_of_lt_of_le (D1 (Or.inr (ww hw 23 rfl)) (ty := .byte) (by decide) : GK Z h1 b1 (.int 0)).lt (Nat.le_of_eq g4.symm)))
  have f12 := (((D1 (Or.inr (ww hw 22 rfl)) (ty := (.array .byte)) (by decide) : GV Z h1 b1 .null).ext E4).other W8 (Or.inl ne11))
  have f13 := (((D1 (Or.inr (ww hw 23 rfl)) (ty := .byte) (by decide) : GK Z h1 b1 (.int 0)).ext E4).other W8 (Or.inl ne11))
  refine GoS.callC (cells' := 4) (slots' := 22) (pc' := 99) [(.ref b4)] [(.ref b1)] (a := b1) rfl rfl (ww hw 10 rfl) (ww hw 11 rfl) (ww hw 8 rfl) (ww hw 12 rfl) (by decide) (Con.cold (c_ini1 l Z a0 hw h7 b1 b4 kA4 k0 cp hcp hn0 scp sad shi slo ge1 (((A1.ext E4).wr W8)) f12 f13 V9)) pd_42 at_96 rfl ?_
  rintro _ h14 _ ⟨⟨d_14, rfl, K14, ge_d_14, sz_d_14, F14_0⟩, rfl⟩
  have sz15 : hs.size ≤ d_14 := Nat.le_trans K10.1 sz_d_14
  have K16 := K10.trans K14 (allS (Or.inr sz2) all0)
  show GoS _ _ _ _ _ _ _ _ _ _ _ _ _ _ 99 _ [(.ref b1)]
  refine GoS.astore (pc' := 101) (Ls' := #[.val (.int p0), .val (.int p1), .val (.int p2), .val (.int p3), .val (.int 1), .val (.int k0), .val (.int k1), .val (.int k2), .val (.ref b1), .unset, .unset, .unset, .unset]) at_99 rfl rfl rfl ?_
  refine GoS.goto (pc' := 162) at_101 (by decide) (by decide) ?_
  refine GoS.aload (pc' := 164) at_162 rfl rfl rfl ?_
  refine GoS.callS (cells' := 28) (slots' := 322) (pc' := 167) [(.ref b1)] [] (ww hw 28 rfl) (ww hw 29 rfl) (ww hw 30 rfl) (ww hw 31 rfl) (by decide) (c_esc l Z a0 hw h14 b1 d_14 ([k0]) cp wf hcp hwf (nl rfl) (own_one hn0) hcw hch122 hch127 hch129 hch131 scp sad shi slo sfm ((((A1.ext E4).wr W8).keep K14)) F14_0) pd_43 at_164 rfl ?_
  rintro _ h17 LL18 ⟨r_17, d_17, rfl, K17, ge_r_17, sz_r_17, ge_d_17, sz_d_17, F17_0, F17_1⟩
  have sz19 : hs.size ≤ r_17 := Nat.le_trans K16.1 sz_r_17
  have sz20 : hs.size ≤ d_17 := Nat.le_trans K16.1 sz_d_17
  have K21 := K16.trans K17 all0
  show GoS _ _ _ _ _ _ _ _ _ _ _ _ _ _ 167 _ [(.ref r_17)]
  refine GoS.astore (pc' := 169) (Ls' := #[.val (.int p0), .val (.int p1), .val (.int p2), .val (.int p3), .val (.int 1), .val (.int k0), .val (.int k1), .val (.int k2), .val (.ref b1), .val (.ref r_17), .unset, .unset, .unset]) at_167 rfl rfl rfl ?_
  refine GoS.iload (pc' := 171) at_169 rfl rfl ?_
  refine GoS.ifNo (pc' := 174) at_171 (XT.i0_le_f (by decide)) rfl ?_
  refine GoS.iload (pc' := 176) at_174 rfl rfl ?_
  refine GoS.callS (cells' := 28) (slots' := 322) (pc' := 179) [(.int k0)] [] (ww hw 201 rfl) (ww hw 202 rfl) (ww hw 2 rfl) (ww hw 203 rfl) (by decide) (Con.cold (c_w l Z a0 hw h17 k0)) pd_44 at_176 rfl ?_
  rintro _ _ LLn ⟨⟨rfl, rfl⟩, eLn⟩
  rw [eLn]
  clear eLn LLn
  show GoS _ _ _ _ _ _ _ _ _ _ _ _ _ _ 179 _ [(.int (wd k0))]
  refine GoS.goto (pc' := 183) at_179 (by decide) (by decide) ?_
  refine GoS.iload (pc' := 185) at_183 rfl rfl ?_
  refine GoS.iconst (pc' := 186) (v := 1) at_185 rfl rfl ?_
  refine GoS.icmpYes (pc' := 197) at_186 (XT.ii_le_t (by decide)) (by decide) (by decide) ?_
  refine GoS.iconst (pc' := 198) (v := 0) at_197 rfl rfl ?_
  refine GoS.iadd (pc' := 199) at_198 rfl ?_
  refine GoS.iload (pc' := 201) at_199 rfl rfl ?_
  refine GoS.iconst (pc' := 202) (v := 2) at_201 rfl rfl ?_
  refine GoS.icmpYes (pc' := 213) at_202 (XT.ii_le_t (by decide)) (by decide) (by decide) ?_
  refine GoS.iconst (pc' := 214) (v := 0) at_213 rfl rfl ?_
  refine GoS.iadd (pc' := 215) at_214 rfl ?_
  refine GoS.istore (pc' := 217) (Ls' := #[.val (.int p0), .val (.int p1), .val (.int p2), .val (.int p3), .val (.int 1), .val (.int k0), .val (.int k1), .val (.int k2), .val (.ref b1), .val (.ref r_17), .val (.int (((wd k0) + (0 : Int32)) + (0 : Int32))), .unset, .unset]) at_215 rfl rfl ?_
  refine GoS.aload (pc' := 219) at_217 rfl rfl rfl ?_
  refine GoS.callV (cells' := 28) (slots' := 322) (pc' := 222) [] [] F17_0 (ww hw 124 rfl) (ww hw 36 rfl) (nfS (ww hw 38 rfl)) (ww hw 38 rfl) (ww hw 37 rfl) (ww hw 8 rfl) (ww hw 39 rfl) (by decide) (Con.cold (c_jlen l Z a0 hw h17 r_17 d_17 (escs [k0]) cp hcp scp F17_0 F17_1)) pd_20 at_219 rfl ?_
  rintro _ _ LLn ⟨⟨rfl, rfl⟩, eLn⟩
  rw [eLn]
  clear eLn LLn
  show GoS _ _ _ _ _ _ _ _ _ _ _ _ _ _ 222 _ [(.int (Int32.ofNat (escs [k0]).length))]
  refine GoS.iload (pc' := 224) at_222 rfl rfl ?_
  refine GoS.icmpYes (pc' := 229) at_224 (XT.ii_eq_t (by rw [escs_w1]; simp : (Int32.ofNat (escs [k0]).length) = (((wd k0) + (0 : Int32)) + (0 : Int32)))) (by decide) (by decide) ?_
  refine GoS.iconst (pc' := 230) (v := 1) at_229 rfl rfl ?_
  refine GoS.istore (pc' := 232) (Ls' := #[.val (.int p0), .val (.int p1), .val (.int p2), .val (.int p3), .val (.int 1), .val (.int k0), .val (.int k1), .val (.int k2), .val (.ref b1), .val (.ref r_17), .val (.int (((wd k0) + (0 : Int32)) + (0 : Int32))), .val (.int 1), .unset]) at_230 rfl rfl ?_
  refine GoS.iconst (pc' := 233) (v := 0) at_232 rfl rfl ?_
  refine GoS.istore (pc' := 235) (Ls' := #[.val (.int p0), .val (.int p1), .val (.int p2), .val (.int p3), .val (.int 1), .val (.int k0), .val (.int k1), .val (.int k2), .val (.ref b1), .val (.ref r_17), .val (.int (((wd k0) + (0 : Int32)) + (0 : Int32))), .val (.int 1), .val (.int 0)]) at_233 rfl rfl ?_
  refine GoS.iload (pc' := 237) at_235 rfl rfl ?_
  refine GoS.ifNo (pc' := 240) at_237 (XT.i0_le_f (by decide)) rfl ?_
  refine GoS.iload (pc' := 242) at_240 rfl rfl ?_
  refine GoS.ifNo (pc' := 245) at_242 (XT.i0_eq_f (by decide)) rfl ?_
  refine GoS.aload (pc' := 247) at_245 rfl rfl rfl ?_
  refine GoS.iload (pc' := 249) at_247 rfl rfl ?_
  refine GoS.iload (pc' := 251) at_249 rfl rfl ?_
  refine GoS.callS (cells' := 28) (slots' := 322) (pc' := 254) [(.ref r_17), (.int 0), (.int k0)] [] (ww hw 207 rfl) (ww hw 208 rfl) (ww hw 2 rfl) (ww hw 209 rfl) (by decide) (Con.cold (c_at l Z a0 hw h17 r_17 d_17 (escs [k0]) (0 : Int32) k0 0 (escs []) cp wf hcp hwf rfl (by decide) (esc_d0 _ _) scp sad shi slo sfm F17_0 F17_1)) pd_45 at_251 rfl ?_
  rintro _ _ LLn ⟨⟨rfl, rfl⟩, eLn⟩
  rw [eLn]
  clear eLn LLn
  show GoS _ _ _ _ _ _ _ _ _ _ _ _ _ _ 254 _ [(.int 1)]
  refine GoS.ifNo (pc' := 257) at_254 (XT.i0_eq_f (by decide)) rfl ?_
  refine GoS.iconst (pc' := 258) (v := 1) at_257 rfl rfl ?_
  refine GoS.goto (pc' := 262) at_258 (by decide) (by decide) ?_
  refine GoS.istore (pc' := 264) (Ls' := #[.val (.int p0), .val (.int p1), .val (.int p2), .val (.int p3), .val (.int 1), .val (.int k0), .val (.int k1), .val (.int k2), .val (.ref b1), .val (.ref r_17), .val (.int (((wd k0) + (0 : Int32)) + (0 : Int32))), .val (.int 1), .val (.int 0)]) at_262 rfl rfl ?_
  refine GoS.iload (pc' := 266) at_264 rfl rfl ?_
  refine GoS.iload (pc' := 268) at_266 rfl rfl ?_
  refine GoS.callS (cells' := 28) (slots' := 322) (pc' := 271) [(.int k0)] [(.int 0)] (ww hw 201 rfl) (ww hw 202 rfl) (ww hw 2 rfl) (ww hw 203 rfl) (by decide) (Con.cold (c_w l Z a0 hw h17 k0)) pd_44 at_268 rfl ?_
  rintro _ _ LLn ⟨⟨rfl, rfl⟩, eLn⟩
  rw [eLn]
  clear eLn LLn
  show GoS _ _ _ _ _ _ _ _ _ _ _ _ _ _ 271 _ [(.int (wd k0)), (.int 0)]
  refine GoS.iadd (pc' := 272) at_271 rfl ?_
  refine GoS.istore (pc' := 274) (Ls' := #[.val (.int p0), .val (.int p1), .val (.int p2), .val (.int p3), .val (.int 1), .val (.int k0), .val (.int k1), .val (.int k2), .val (.ref b1), .val (.ref r_17), .val (.int (((wd k0) + (0 : Int32)) + (0 : Int32))), .val (.int 1), .val (.int ((0 : Int32) + (wd k0)))]) at_272 rfl rfl ?_
  refine GoS.iload (pc' := 276) at_274 rfl rfl ?_
  refine GoS.iconst (pc' := 277) (v := 1) at_276 rfl rfl ?_
  refine GoS.icmpYes (pc' := 314) at_277 (XT.ii_le_t (by decide)) (by decide) (by decide) ?_
  refine GoS.iload (pc' := 316) at_314 rfl rfl ?_
  refine GoS.iconst (pc' := 317) (v := 2) at_316 rfl rfl ?_
  refine GoS.icmpYes (pc' := 344) at_317 (XT.ii_le_t (by decide)) (by decide) (by decide) ?_
  refine GoS.iload (pc' := 346) at_344 rfl rfl ?_
  exact GoS.retN (t := .boolean) rfl (by simp) at_346 ⟨rfl, K21⟩
theorem c_lawR2 (hw : HW a0 Z) (hs h : Heap) (p0 p1 p2 p3 k0 k1 k2 cp : Int32) (wf : Value) (hcp : ¬ (cp = (0 : Int32))) (hwf : wf.isRef = true) (hcw : Jvm.Lit.compactW.before a0 Z = true) (hch7 : Jvm.Lit.constHeld Z "java/lang/String" 7) (hch122 : Jvm.Lit.constHeld Z "com/example/aligned_index/alignedindex/inspect/Inspector" 122) (hch127 : Jvm.Lit.constHeld Z "com/example/aligned_index/alignedindex/inspect/Inspector" 127) (hch129 : Jvm.Lit.constHeld Z "com/example/aligned_index/alignedindex/inspect/Inspector" 129) (hch131 : Jvm.Lit.constHeld Z "com/example/aligned_index/alignedindex/inspect/Inspector" 131) (hn0 : nar .char k0 = k0) (hn1 : nar .char k1 = k1) (hn2 : nar .char k2 = k2) (scp : Zcp Z (.int cp)) (sad : Zad Z (.int 1)) (shi : Zhi Z (.int 0)) (slo : Zlo Z (.int 8)) (sfm : Zfm Z wf) (Kp : Keep hs h []) :
    GoS l room_1 Z n0 x code maxLocals ret (fun v h' LL' => v = some (.int 1) ∧ Keep hs h' []) hs [] 0 0 h 58 #[.val (.int p0), .val (.int p1), .val (.int p2), .val (.int p3), .val (.int 2), .val (.int k0), .val (.int k1), .val (.int k2), .unset, .unset, .unset, .unset, .unset] [] := by
  refine GoS.iload (pc' := 60) at_58 rfl rfl ?_
  refine GoS.ifYes (pc' := 78) at_60 (XT.i0_ne_t (by decide)) (by decide) (by decide) ?_
  refine GoS.iload (pc' := 80) at_78 rfl rfl ?_
  refine GoS.iconst (pc' := 81) (v := 1) at_80 rfl rfl ?_
  refine GoS.icmpYes (pc' := 104) at_81 (XT.ii_ne_t (by decide)) (by decide) (by decide) ?_
  refine GoS.iload (pc' := 106) at_104 rfl rfl ?_
  refine GoS.iconst (pc' := 107) (v := 2) at_106 rfl rfl ?_
  refine GoS.icmpNo (pc' := 110) at_107 (XT.ii_ne_f (by decide)) rfl ?_
  refine GoS.new (pc' := 113) (cells' := 1) (slots' := 4) (ww hw 6 rfl) (ww hw 7 rfl) (ww hw 8 rfl) at_110 rfl rfl (by decide) (by decide) rfl ?_
  intro h1 b1 g1 E1 ge1 A1 D1
  have sz2 : hs.size ≤ b1 := Nat.le_trans Kp.1 (Nat.le_of_eq g1.symm)
  have K3 := Kp.ext E1
  refine GoS.dup (pc' := 114) at_113 rfl rfl ?_
  refine GoS.iconst (pc' := 115) (v := 2) at_114 rfl rfl ?_
  refine GoS.newarray (pc' := 117) (cells' := 2) (slots' := 6) (cap := 2) (ww hw 9 rfl) at_115 (ad := "[C") (by decide) (by decide) (by decide) rfl rfl (by decide) (by decide) (by decide) rfl ?_
  intro h4 b4 g4 E4 ge4 kA4 A4 X4
  have sz5 : hs.size ≤ b4 := Nat.le_trans K3.1 (Nat.le_of_eq g4.symm)
  have K6 := K3.ext E4
  have V4 : Arv Z h4 b4 kA4 .char (2 : Int32) [(.int 0), (.int 0)] (.int 0) := Arv.pad A4 (pad_rep [] (.int 0) 2)
  refine GoS.dup (pc' := 118) at_117 rfl rfl ?_
  refine GoS.iconst (pc' := 119) (v := 0) at_118 rfl rfl ?_
  refine GoS.iload (pc' := 121) at_119 rfl rfl ?_
  refine GoS.castore (pc' := 122) V4 ge4 at_121 (by decide) (by decide) (i := 0) rfl (nl rfl) rfl ?_
  intro h7 W8 V9
  have K10 := K6.wr W8 (Or.inr sz5)
  rw [hn0] at V9
  replace V9 : Arv Z h7 b4 kA4 .char (2 : Int32) [(.int k0), (.int 0)] (.int 0) := V9
  refine GoS.dup (pc' := 123) at_122 rfl rfl ?_
  refine GoS.iconst (pc' := 124) (v := 1) at_123 rfl rfl ?_
  refine GoS.iload (pc' := 126) at_124 rfl rfl ?_
  refine GoS.castore (pc' := 127) V9 ge4 at_126 (by decide) (by decide) (i := 1) rfl (nl rfl) rfl ?_
  intro h11 W12 V13
  have K14 := K10.wr W12 (Or.inr sz5)
  rw [hn1] at V13
  replace V13 : Arv Z h11 b4 kA4 .char (2 : Int32) [(.int k0), (.int k1)] (.int 0) := V13
  have ne15 := (Nat.ne_of_lt (Nat.lt_of_lt_of_le (D1 (Or.inr (ww hw 23 rfl)) (ty := .byte) (by decide) : GK Z h1 b1 (.int 0)).lt (Nat.le_of_eq g4.symm)))
  have f16 := ((((D1 (Or.inr (ww hw 22 rfl)) (ty := (.array .byte)) (by decide) : GV Z h1 b1 .null).ext E4).other W8 (Or.inl ne15)).other W12 (Or.inl ne15))
  have f17 := ((((D1 (Or.inr (ww hw 23 rfl)) (ty := .byte) (by decide) : GK Z h1 b1 (.int 0)).ext E4).other W8 (Or.inl ne15)).other W12 (Or.inl ne15))
  refine GoS.callC (cells' := 4) (slots' := 24) (pc' := 130) [(.ref b4)] [(.ref b1)] (a := b1) rfl rfl (ww hw 10 rfl) (ww hw 11 rfl) (ww hw 8 rfl) (ww hw 12 rfl) (by decide) (Con.cold (c_ini2 l Z a0 hw h11 b1 b4 kA4 k0 k1 cp hcp hn0 hn1 scp sad shi slo ge1 ((((A1.ext E4).wr W8).wr W12)) f16 f17 V13)) pd_42 at_127 rfl ?_
  rintro _ h18 _ ⟨⟨d_18, rfl, K18, ge_d_18, sz_d_18, F18_0⟩, rfl⟩
  have sz19 : hs.size ≤ d_18 := Nat.le_trans K14.1 sz_d_18
  have K20 := K14.trans K18 (allS (Or.inr sz2) all0)
  show GoS _ _ _ _ _ _ _ _ _ _ _ _ _ _ 130 _ [(.ref b1)]
  refine GoS.astore (pc' := 132) (Ls' := #[.val (.int p0), .val (.int p1), .val (.int p2), .val (.int p3), .val (.int 2), .val (.int k0), .val (.int k1), .val (.int k2), .val (.ref b1), .unset, .unset, .unset, .unset]) at_130 rfl rfl rfl ?_
  refine GoS.goto (pc' := 162) at_132 (by decide) (by decide) ?_
  refine GoS.aload (pc' := 164) at_162 rfl rfl rfl ?_
  refine GoS.callS (cells' := 28) (slots' := 324) (pc' := 167) [(.ref b1)] [] (ww hw 28 rfl) (ww hw 29 rfl) (ww hw 30 rfl) (ww hw 31 rfl) (by decide) (c_esc l Z a0 hw h18 b1 d_18 ([k0, k1]) cp wf hcp hwf (nl rfl) (own_two hn0 hn1) hcw hch122 hch127 hch129 hch131 scp sad shi slo sfm (((((A1.ext E4).wr W8).wr W12).keep K18)) F18_0) pd_43 at_164 rfl ?_
  rintro _ h21 LL22 ⟨r_21, d_21, rfl, K21, ge_r_21, sz_r_21, ge_d_21, sz_d_21, F21_0, F21_1⟩
  have sz23 : hs.size ≤ r_21 := Nat.le_trans K20.1 sz_r_21
  have sz24 : hs.size ≤ d_21 := Nat.le_trans K20.1 sz_d_21
  have K25 := K20.trans K21 all0
  show GoS _ _ _ _ _ _ _ _ _ _ _ _ _ _ 167 _ [(.ref r_21)]
  refine GoS.astore (pc' := 169) (Ls' := #[.val (.int p0), .val (.int p1), .val (.int p2), .val (.int p3), .val (.int 2), .val (.int k0), .val (.int k1), .val (.int k2), .val (.ref b1), .val (.ref r_21), .unset, .unset, .unset]) at_167 rfl rfl rfl ?_
  refine GoS.iload (pc' := 171) at_169 rfl rfl ?_
  refine GoS.ifNo (pc' := 174) at_171 (XT.i0_le_f (by decide)) rfl ?_
  refine GoS.iload (pc' := 176) at_174 rfl rfl ?_
  refine GoS.callS (cells' := 28) (slots' := 324) (pc' := 179) [(.int k0)] [] (ww hw 201 rfl) (ww hw 202 rfl) (ww hw 2 rfl) (ww hw 203 rfl) (by decide) (Con.cold (c_w l Z a0 hw h21 k0)) pd_44 at_176 rfl ?_
  rintro _ _ LLn ⟨⟨rfl, rfl⟩, eLn⟩
  rw [eLn]
  clear eLn LLn
  show GoS _ _ _ _ _ _ _ _ _ _ _ _ _ _ 179 _ [(.int (wd k0))]
  refine GoS.goto (pc' := 183) at_179 (by decide) (by decide) ?_
  refine GoS.iload (pc' := 185) at_183 rfl rfl ?_
  refine GoS.iconst (pc' := 186) (v := 1) at_185 rfl rfl ?_
  refine GoS.icmpNo (pc' := 189) at_186 (XT.ii_le_f (by decide)) rfl ?_
  refine GoS.iload (pc' := 191) at_189 rfl rfl ?_
  refine GoS.callS (cells' := 28) (slots' := 324) (pc' := 194) [(.int k1)] [(.int (wd k0))] (ww hw 201 rfl) (ww hw 202 rfl) (ww hw 2 rfl) (ww hw 203 rfl) (by decide) (Con.cold (c_w l Z a0 hw h21 k1)) pd_44 at_191 rfl ?_
  rintro _ _ LLn ⟨⟨rfl, rfl⟩, eLn⟩
  rw [eLn]
  clear eLn LLn
  show GoS _ _ _ _ _ _ _ _ _ _ _ _ _ _ 194 _ [(.int (wd k1)), (.int (wd k0))]
  refine GoS.goto (pc' := 198) at_194 (by decide) (by decide) ?_
  refine GoS.iadd (pc' := 199) at_198 rfl ?_
  refine GoS.iload (pc' := 201) at_199 rfl rfl ?_
  refine GoS.iconst (pc' := 202) (v := 2) at_201 rfl rfl ?_
  refine GoS.icmpYes (pc' := 213) at_202 (XT.ii_le_t (by decide)) (by decide) (by decide) ?_
  refine GoS.iconst (pc' := 214) (v := 0) at_213 rfl rfl ?_
  refine GoS.iadd (pc' := 215) at_214 rfl ?_
  refine GoS.istore (pc' := 217) (Ls' := #[.val (.int p0), .val (.int p1), .val (.int p2), .val (.int p3), .val (.int 2), .val (.int k0), .val (.int k1), .val (.int k2), .val (.ref b1), .val (.ref r_21), .val (.int (((wd k0) + (wd k1)) + (0 : Int32))), .unset, .unset]) at_215 rfl rfl ?_
  refine GoS.aload (pc' := 219) at_217 rfl rfl rfl ?_
  refine GoS.callV (cells' := 28) (slots' := 324) (pc' := 222) [] [] F21_0 (ww hw 124 rfl) (ww hw 36 rfl) (nfS (ww hw 38 rfl)) (ww hw 38 rfl) (ww hw 37 rfl) (ww hw 8 rfl) (ww hw 39 rfl) (by decide) (Con.cold (c_jlen l Z a0 hw h21 r_21 d_21 (escs [k0, k1]) cp hcp scp F21_0 F21_1)) pd_20 at_219 rfl ?_
  rintro _ _ LLn ⟨⟨rfl, rfl⟩, eLn⟩
  rw [eLn]
  clear eLn LLn
  show GoS _ _ _ _ _ _ _ _ _ _ _ _ _ _ 222 _ [(.int (Int32.ofNat (escs [k0, k1]).length))]
  refine GoS.iload (pc' := 224) at_222 rfl rfl ?_
  refine GoS.icmpYes (pc' := 229) at_224 (XT.ii_eq_t (by rw [escs_w2]; simp : (Int32.ofNat (escs [k0, k1]).length) = (((wd k0) + (wd k1)) + (0 : Int32)))) (by decide) (by decide) ?_
  refine GoS.iconst (pc' := 230) (v := 1) at_229 rfl rfl ?_
  refine GoS.istore (pc' := 232) (Ls' := #[.val (.int p0), .val (.int p1), .val (.int p2), .val (.int p3), .val (.int 2), .val (.int k0), .val (.int k1), .val (.int k2), .val (.ref b1), .val (.ref r_21), .val (.int (((wd k0) + (wd k1)) + (0 : Int32))), .val (.int 1), .unset]) at_230 rfl rfl ?_
  refine GoS.iconst (pc' := 233) (v := 0) at_232 rfl rfl ?_
  refine GoS.istore (pc' := 235) (Ls' := #[.val (.int p0), .val (.int p1), .val (.int p2), .val (.int p3), .val (.int 2), .val (.int k0), .val (.int k1), .val (.int k2), .val (.ref b1), .val (.ref r_21), .val (.int (((wd k0) + (wd k1)) + (0 : Int32))), .val (.int 1), .val (.int 0)]) at_233 rfl rfl ?_
  refine GoS.iload (pc' := 237) at_235 rfl rfl ?_
  refine GoS.ifNo (pc' := 240) at_237 (XT.i0_le_f (by decide)) rfl ?_
  refine GoS.iload (pc' := 242) at_240 rfl rfl ?_
  refine GoS.ifNo (pc' := 245) at_242 (XT.i0_eq_f (by decide)) rfl ?_
  refine GoS.aload (pc' := 247) at_245 rfl rfl rfl ?_
  refine GoS.iload (pc' := 249) at_247 rfl rfl ?_
  refine GoS.iload (pc' := 251) at_249 rfl rfl ?_
  refine GoS.callS (cells' := 28) (slots' := 324) (pc' := 254) [(.ref r_21), (.int 0), (.int k0)] [] (ww hw 207 rfl) (ww hw 208 rfl) (ww hw 2 rfl) (ww hw 209 rfl) (by decide) (Con.cold (c_at l Z a0 hw h21 r_21 d_21 (escs [k0, k1]) (0 : Int32) k0 0 (escs [k1]) cp wf hcp hwf rfl (by decide) (esc_d0 _ _) scp sad shi slo sfm F21_0 F21_1)) pd_45 at_251 rfl ?_
  rintro _ _ LLn ⟨⟨rfl, rfl⟩, eLn⟩
  rw [eLn]
  clear eLn LLn
  show GoS _ _ _ _ _ _ _ _ _ _ _ _ _ _ 254 _ [(.int 1)]
  refine GoS.ifNo (pc' := 257) at_254 (XT.i0_eq_f (by decide)) rfl ?_
  refine GoS.iconst (pc' := 258) (v := 1) at_257 rfl rfl ?_
  refine GoS.goto (pc' := 262) at_258 (by decide) (by decide) ?_
  refine GoS.istore (pc' := 264) (Ls' := #[.val (.int p0), .val (.int p1), .val (.int p2), .val (.int p3), .val (.int 2), .val (.int k0), .val (.int k1), .val (.int k2), .val (.ref b1), .val (.ref r_21), .val (.int (((wd k0) + (wd k1)) + (0 : Int32))), .val (.int 1), .val (.int 0)]) at_262 rfl rfl ?_
  refine GoS.iload (pc' := 266) at_264 rfl rfl ?_
  refine GoS.iload (pc' := 268) at_266 rfl rfl ?_
  refine GoS.callS (cells' := 28) (slots' := 324) (pc' := 271) [(.int k0)] [(.int 0)] (ww hw 201 rfl) (ww hw 202 rfl) (ww hw 2 rfl) (ww hw 203 rfl) (by decide) (Con.cold (c_w l Z a0 hw h21 k0)) pd_44 at_268 rfl ?_
  rintro _ _ LLn ⟨⟨rfl, rfl⟩, eLn⟩
  rw [eLn]
  clear eLn LLn
  show GoS _ _ _ _ _ _ _ _ _ _ _ _ _ _ 271 _ [(.int (wd k0)), (.int 0)]
  refine GoS.iadd (pc' := 272) at_271 rfl ?_
  refine GoS.istore (pc' := 274) (Ls' := #[.val (.int p0), .val (.int p1), .val (.int p2), .val (.int p3), .val (.int 2), .val (.int k0), .val (.int k1), .val (.int k2), .val (.ref b1), .val (.ref r_21), .val (.int (((wd k0) + (wd k1)) + (0 : Int32))), .val (.int 1), .val (.int ((0 : Int32) + (wd k0)))]) at_272 rfl rfl ?_
  refine GoS.iload (pc' := 276) at_274 rfl rfl ?_
  refine GoS.iconst (pc' := 277) (v := 1) at_276 rfl rfl ?_
  refine GoS.icmpNo (pc' := 280) at_277 (XT.ii_le_f (by decide)) rfl ?_
  refine GoS.iload (pc' := 282) at_280 rfl rfl ?_
  refine GoS.ifNo (pc' := 285) at_282 (XT.i0_eq_f (by decide)) rfl ?_
  refine GoS.aload (pc' := 287) at_285 rfl rfl rfl ?_
  refine GoS.iload (pc' := 289) at_287 rfl rfl ?_
  refine GoS.iload (pc' := 291) at_289 rfl rfl ?_
  refine GoS.callS (cells' := 28) (slots' := 324) (pc' := 294) [(.ref r_21), (.int ((0 : Int32) + (wd k0))), (.int k1)] [] (ww hw 207 rfl) (ww hw 208 rfl) (ww hw 2 rfl) (ww hw 209 rfl) (by decide) (Con.cold (c_at l Z a0 hw h21 r_21 d_21 (escs [k0, k1]) (((0 : Int32) + (wd k0))) k1 ((esc k0).length) (escs []) cp wf hcp hwf (by rw [← wd_len]; simp) ((Nat.le_trans (esc_l2 _) (by decide))) (esc_d1 _ _ _) scp sad shi slo sfm F21_0 F21_1)) pd_45 at_291 rfl ?_
  rintro _ _ LLn ⟨⟨rfl, rfl⟩, eLn⟩
  rw [eLn]
  clear eLn LLn
  show GoS _ _ _ _ _ _ _ _ _ _ _ _ _ _ 294 _ [(.int 1)]
  refine GoS.ifNo (pc' := 297) at_294 (XT.i0_eq_f (by decide)) rfl ?_
  refine GoS.iconst (pc' := 298) (v := 1) at_297 rfl rfl ?_
  refine GoS.goto (pc' := 302) at_298 (by decide) (by decide) ?_
  refine GoS.istore (pc' := 304) (Ls' := #[.val (.int p0), .val (.int p1), .val (.int p2), .val (.int p3), .val (.int 2), .val (.int k0), .val (.int k1), .val (.int k2), .val (.ref b1), .val (.ref r_21), .val (.int (((wd k0) + (wd k1)) + (0 : Int32))), .val (.int 1), .val (.int ((0 : Int32) + (wd k0)))]) at_302 rfl rfl ?_
  refine GoS.iload (pc' := 306) at_304 rfl rfl ?_
  refine GoS.iload (pc' := 308) at_306 rfl rfl ?_
  refine GoS.callS (cells' := 28) (slots' := 324) (pc' := 311) [(.int k1)] [(.int ((0 : Int32) + (wd k0)))] (ww hw 201 rfl) (ww hw 202 rfl) (ww hw 2 rfl) (ww hw 203 rfl) (by decide) (Con.cold (c_w l Z a0 hw h21 k1)) pd_44 at_308 rfl ?_
  rintro _ _ LLn ⟨⟨rfl, rfl⟩, eLn⟩
  rw [eLn]
  clear eLn LLn
  show GoS _ _ _ _ _ _ _ _ _ _ _ _ _ _ 311 _ [(.int (wd k1)), (.int ((0 : Int32) + (wd k0)))]
  refine GoS.iadd (pc' := 312) at_311 rfl ?_
  refine GoS.istore (pc' := 314) (Ls' := #[.val (.int p0), .val (.int p1), .val (.int p2), .val (.int p3), .val (.int 2), .val (.int k0), .val (.int k1), .val (.int k2), .val (.ref b1), .val (.ref r_21), .val (.int (((wd k0) + (wd k1)) + (0 : Int32))), .val (.int 1), .val (.int (((0 : Int32) + (wd k0)) + (wd k1)))]) at_312 rfl rfl ?_
  refine GoS.iload (pc' := 316) at_314 rfl rfl ?_
  refine GoS.iconst (pc' := 317) (v := 2) at_316 rfl rfl ?_
  refine GoS.icmpYes (pc' := 344) at_317 (XT.ii_le_t (by decide)) (by decide) (by decide) ?_
  refine GoS.iload (pc' := 346) at_344 rfl rfl ?_
  exact GoS.retN (t := .boolean) rfl (by simp) at_346 ⟨rfl, K25⟩
theorem c_lawR3 (hw : HW a0 Z) (hs h : Heap) (p0 p1 p2 p3 k0 k1 k2 cp : Int32) (wf : Value) (hcp : ¬ (cp = (0 : Int32))) (hwf : wf.isRef = true) (hcw : Jvm.Lit.compactW.before a0 Z = true) (hch7 : Jvm.Lit.constHeld Z "java/lang/String" 7) (hch122 : Jvm.Lit.constHeld Z "com/example/aligned_index/alignedindex/inspect/Inspector" 122) (hch127 : Jvm.Lit.constHeld Z "com/example/aligned_index/alignedindex/inspect/Inspector" 127) (hch129 : Jvm.Lit.constHeld Z "com/example/aligned_index/alignedindex/inspect/Inspector" 129) (hch131 : Jvm.Lit.constHeld Z "com/example/aligned_index/alignedindex/inspect/Inspector" 131) (hn0 : nar .char k0 = k0) (hn1 : nar .char k1 = k1) (hn2 : nar .char k2 = k2) (scp : Zcp Z (.int cp)) (sad : Zad Z (.int 1)) (shi : Zhi Z (.int 0)) (slo : Zlo Z (.int 8)) (sfm : Zfm Z wf) (Kp : Keep hs h []) :
    GoS l room_1 Z n0 x code maxLocals ret (fun v h' LL' => v = some (.int 1) ∧ Keep hs h' []) hs [] 0 0 h 58 #[.val (.int p0), .val (.int p1), .val (.int p2), .val (.int p3), .val (.int 3), .val (.int k0), .val (.int k1), .val (.int k2), .unset, .unset, .unset, .unset, .unset] [] := by
  refine GoS.iload (pc' := 60) at_58 rfl rfl ?_
  refine GoS.ifYes (pc' := 78) at_60 (XT.i0_ne_t (by decide)) (by decide) (by decide) ?_
  refine GoS.iload (pc' := 80) at_78 rfl rfl ?_
  refine GoS.iconst (pc' := 81) (v := 1) at_80 rfl rfl ?_
  refine GoS.icmpYes (pc' := 104) at_81 (XT.ii_ne_t (by decide)) (by decide) (by decide) ?_
  refine GoS.iload (pc' := 106) at_104 rfl rfl ?_
  refine GoS.iconst (pc' := 107) (v := 2) at_106 rfl rfl ?_
  refine GoS.icmpYes (pc' := 135) at_107 (XT.ii_ne_t (by decide)) (by decide) (by decide) ?_
  refine GoS.new (pc' := 138) (cells' := 1) (slots' := 4) (ww hw 6 rfl) (ww hw 7 rfl) (ww hw 8 rfl) at_135 rfl rfl (by decide) (by decide) rfl ?_
  intro h1 b1 g1 E1 ge1 A1 D1
  have sz2 : hs.size ≤ b1 := Nat.le_trans Kp.1 (Nat.le_of_eq g1.symm)
  have K3 := Kp.ext E1
  refine GoS.dup (pc' := 139) at_138 rfl rfl ?_
  refine GoS.iconst (pc' := 140) (v := 3) at_139 rfl rfl ?_
  refine GoS.newarray (pc' := 142) (cells' := 2) (slots' := 7) (cap := 3) (ww hw 9 rfl) at_140 (ad := "[C") (by decide) (by decide) (by decide) rfl rfl (by decide) (by decide) (by decide) rfl ?_
  intro h4 b4 g4 E4 ge4 kA4 A4 X4
  have sz5 : hs.size ≤ b4 := Nat.le_trans K3.1 (Nat.le_of_eq g4.symm)
  have K6 := K3.ext E4
  have V4 : Arv Z h4 b4 kA4 .char (3 : Int32) [(.int 0), (.int 0), (.int 0)] (.int 0) := Arv.pad A4 (pad_rep [] (.int 0) 3)
  refine GoS.dup (pc' := 143) at_142 rfl rfl ?_
  refine GoS.iconst (pc' := 144) (v := 0) at_143 rfl rfl ?_
  refine GoS.iload (pc' := 146) at_144 rfl rfl ?_
  refine GoS.castore (pc' := 147) V4 ge4 at_146 (by decide) (by decide) (i := 0) rfl (nl rfl) rfl ?_
  intro h7 W8 V9
  have K10 := K6.wr W8 (Or.inr sz5)
  rw [hn0] at V9
  replace V9 : Arv Z h7 b4 kA4 .char (3 : Int32) [(.int k0), (.int 0), (.int 0)] (.int 0) := V9
  refine GoS.dup (pc' := 148) at_147 rfl rfl ?_
  refine GoS.iconst (pc' := 149) (v := 1) at_148 rfl rfl ?_
  refine GoS.iload (pc' := 151) at_149 rfl rfl ?_
  refine GoS.castore (pc' := 152) V9 ge4 at_151 (by decide) (by decide) (i := 1) rfl (nl rfl) rfl ?_
  intro h11 W12 V13
  have K14 := K10.wr W12 (Or.inr sz5)
  rw [hn1] at V13
  replace V13 : Arv Z h11 b4 kA4 .char (3 : Int32) [(.int k0), (.int k1), (.int 0)] (.int 0) := V13
  refine GoS.dup (pc' := 153) at_152 rfl rfl ?_
  refine GoS.iconst (pc' := 154) (v := 2) at_153 rfl rfl ?_
  refine GoS.iload (pc' := 156) at_154 rfl rfl ?_
  refine GoS.castore (pc' := 157) V13 ge4 at_156 (by decide) (by decide) (i := 2) rfl (nl rfl) rfl ?_
  intro h15 W16 V17
  have K18 := K14.wr W16 (Or.inr sz5)
  rw [hn2] at V17
  replace V17 : Arv Z h15 b4 kA4 .char (3 : Int32) [(.int k0), (.int k1), (.int k2)] (.int 0) := V17
  have ne19 := (Nat.ne_of_lt (Nat.lt_of_lt_of_le (D1 (Or.inr (ww hw 23 rfl)) (ty := .byte) (by decide) : GK Z h1 b1 (.int 0)).lt (Nat.le_of_eq g4.symm)))
  have f20 := (((((D1 (Or.inr (ww hw 22 rfl)) (ty := (.array .byte)) (by decide) : GV Z h1 b1 .null).ext E4).other W8 (Or.inl ne19)).other W12 (Or.inl ne19)).other W16 (Or.inl ne19))
  have f21 := (((((D1 (Or.inr (ww hw 23 rfl)) (ty := .byte) (by decide) : GK Z h1 b1 (.int 0)).ext E4).other W8 (Or.inl ne19)).other W12 (Or.inl ne19)).other W16 (Or.inl ne19))
  refine GoS.callC (cells' := 4) (slots' := 26) (pc' := 160) [(.ref b4)] [(.ref b1)] (a := b1) rfl rfl (ww hw 10 rfl) (ww hw 11 rfl) (ww hw 8 rfl) (ww hw 12 rfl) (by decide) (Con.cold (c_ini3 l Z a0 hw h15 b1 b4 kA4 k0 k1 k2 cp hcp hn0 hn1 hn2 scp sad shi slo ge1 (((((A1.ext E4).wr W8).wr W12).wr W16)) f20 f21 V17)) pd_42 at_157 rfl ?_
  rintro _ h22 _ ⟨⟨d_22, rfl, K22, ge_d_22, sz_d_22, F22_0⟩, rfl⟩
  have sz23 : hs.size ≤ d_22 := Nat.le_trans K18.1 sz_d_22
  have K24 := K18.trans K22 (allS (Or.inr sz2) all0)
  show GoS _ _ _ _ _ _ _ _ _ _ _ _ _ _ 160 _ [(.ref b1)]
  refine GoS.astore (pc' := 162) (Ls' := #[.val (.int p0), .val (.int p1), .val (.int p2), .val (.int p3), .val (.int 3), .val (.int k0), .val (.int k1), .val (.int k2), .val (.ref b1), .unset, .unset, .unset, .unset]) at_160 rfl rfl rfl ?_
  refine GoS.aload (pc' := 164) at_162 rfl rfl rfl ?_
  have f25 := (((((A1.ext E4).wr W8).wr W12).wr W16).keep K22)
  refine GoS.callS (cells' := 28) (slots' := 326) (pc' := 167) [(.ref b1)] [] (ww hw 28 rfl) (ww hw 29 rfl) (ww hw 30 rfl) (ww hw 31 rfl) (by decide) (c_esc l Z a0 hw h22 b1 d_22 ([k0, k1, k2]) cp wf hcp hwf (nl rfl) (own_three hn0 hn1 hn2) hcw hch122 hch127 hch129 hch131 scp sad shi slo sfm f25 F22_0) pd_43 at_164 rfl ?_
  rintro _ h26 LL27 ⟨r_26, d_26, rfl, K26, ge_r_26, sz_r_26, ge_d_26, sz_d_26, F26_0, F26_1⟩
  have sz28 : hs.size ≤ r_26 := Nat.le_trans K24.1 sz_r_26
  have sz29 : hs.size ≤ d_26 := Nat.le_trans K24.1 sz_d_26
  have K30 := K24.trans K26 all0
  show GoS _ _ _ _ _ _ _ _ _ _ _ _ _ _ 167 _ [(.ref r_26)]
  refine GoS.astore (pc' := 169) (Ls' := #[.val (.int p0), .val (.int p1), .val (.int p2), .val (.int p3), .val (.int 3), .val (.int k0), .val (.int k1), .val (.int k2), .val (.ref b1), .val (.ref r_26), .unset, .unset, .unset]) at_167 rfl rfl rfl ?_
  refine GoS.iload (pc' := 171) at_169 rfl rfl ?_
  refine GoS.ifNo (pc' := 174) at_171 (XT.i0_le_f (by decide)) rfl ?_
  refine GoS.iload (pc' := 176) at_174 rfl rfl ?_
  refine GoS.callS (cells' := 28) (slots' := 326) (pc' := 179) [(.int k0)] [] (ww hw 201 rfl) (ww hw 202 rfl) (ww hw 2 rfl) (ww hw 203 rfl) (by decide) (Con.cold (c_w l Z a0 hw h26 k0)) pd_44 at_176 rfl ?_
  rintro _ _ LLn ⟨⟨rfl, rfl⟩, eLn⟩
  rw [eLn]
  clear eLn LLn
  show GoS _ _ _ _ _ _ _ _ _ _ _ _ _ _ 179 _ [(.int (wd k0))]
  refine GoS.goto (pc' := 183) at_179 (by decide) (by decide) ?_
  refine GoS.iload (pc' := 185) at_183 rfl rfl ?_
  refine GoS.iconst (pc' := 186) (v := 1) at_185 rfl rfl ?_
  refine GoS.icmpNo (pc' := 189) at_186 (XT.ii_le_f (by decide)) rfl ?_
  refine GoS.iload (pc' := 191) at_189 rfl rfl ?_
  refine GoS.callS (cells' := 28) (slots' := 326) (pc' := 194) [(.int k1)] [(.int (wd k0))] (ww hw 201 rfl) (ww hw 202 rfl) (ww hw 2 rfl) (ww hw 203 rfl) (by decide) (Con.cold (c_w l Z a0 hw h26 k1)) pd_44 at_191 rfl ?_
  rintro _ _ LLn ⟨⟨rfl, rfl⟩, eLn⟩
  rw [eLn]
  clear eLn LLn
  show GoS _ _ _ _ _ _ _ _ _ _ _ _ _ _ 194 _ [(.int (wd k1)), (.int (wd k0))]
  refine GoS.goto (pc' := 198) at_194 (by decide) (by decide) ?_
  refine GoS.iadd (pc' := 199) at_198 rfl ?_
  refine GoS.iload (pc' := 201) at_199 rfl rfl ?_
  refine GoS.iconst (pc' := 202) (v := 2) at_201 rfl rfl ?_
  refine GoS.icmpNo (pc' := 205) at_202 (XT.ii_le_f (by decide)) rfl ?_
  refine GoS.iload (pc' := 207) at_205 rfl rfl ?_
  refine GoS.callS (cells' := 28) (slots' := 326) (pc' := 210) [(.int k2)] [(.int ((wd k0) + (wd k1)))] (ww hw 201 rfl) (ww hw 202 rfl) (ww hw 2 rfl) (ww hw 203 rfl) (by decide) (Con.cold (c_w l Z a0 hw h26 k2)) pd_44 at_207 rfl ?_
  rintro _ _ LLn ⟨⟨rfl, rfl⟩, eLn⟩
  rw [eLn]
  clear eLn LLn
  show GoS _ _ _ _ _ _ _ _ _ _ _ _ _ _ 210 _ [(.int (wd k2)), (.int ((wd k0) + (wd k1)))]
  refine GoS.goto (pc' := 214) at_210 (by decide) (by decide) ?_
  refine GoS.iadd (pc' := 215) at_214 rfl ?_
  refine GoS.istore (pc' := 217) (Ls' := #[.val (.int p0), .val (.int p1), .val (.int p2), .val (.int p3), .val (.int 3), .val (.int k0), .val (.int k1), .val (.int k2), .val (.ref b1), .val (.ref r_26), .val (.int (((wd k0) + (wd k1)) + (wd k2))), .unset, .unset]) at_215 rfl rfl ?_
  refine GoS.aload (pc' := 219) at_217 rfl rfl rfl ?_
  refine GoS.callV (cells' := 28) (slots' := 326) (pc' := 222) [] [] F26_0 (ww hw 124 rfl) (ww hw 36 rfl) (nfS (ww hw 38 rfl)) (ww hw 38 rfl) (ww hw 37 rfl) (ww hw 8 rfl) (ww hw 39 rfl) (by decide) (Con.cold (c_jlen l Z a0 hw h26 r_26 d_26 (escs [k0, k1, k2]) cp hcp scp F26_0 F26_1)) pd_20 at_219 rfl ?_
  rintro _ _ LLn ⟨⟨rfl, rfl⟩, eLn⟩
  rw [eLn]
  clear eLn LLn
  show GoS _ _ _ _ _ _ _ _ _ _ _ _ _ _ 222 _ [(.int (Int32.ofNat (escs [k0, k1, k2]).length))]
  refine GoS.iload (pc' := 224) at_222 rfl rfl ?_
  refine GoS.icmpYes (pc' := 229) at_224 (XT.ii_eq_t (by exact escs_w3 _ _ _ : (Int32.ofNat (escs [k0, k1, k2]).length) = (((wd k0) + (wd k1)) + (wd k2)))) (by decide) (by decide) ?_
  refine GoS.iconst (pc' := 230) (v := 1) at_229 rfl rfl ?_
  refine GoS.istore (pc' := 232) (Ls' := #[.val (.int p0), .val (.int p1), .val (.int p2), .val (.int p3), .val (.int 3), .val (.int k0), .val (.int k1), .val (.int k2), .val (.ref b1), .val (.ref r_26), .val (.int (((wd k0) + (wd k1)) + (wd k2))), .val (.int 1), .unset]) at_230 rfl rfl ?_
  refine GoS.iconst (pc' := 233) (v := 0) at_232 rfl rfl ?_
  refine GoS.istore (pc' := 235) (Ls' := #[.val (.int p0), .val (.int p1), .val (.int p2), .val (.int p3), .val (.int 3), .val (.int k0), .val (.int k1), .val (.int k2), .val (.ref b1), .val (.ref r_26), .val (.int (((wd k0) + (wd k1)) + (wd k2))), .val (.int 1), .val (.int 0)]) at_233 rfl rfl ?_
  refine GoS.iload (pc' := 237) at_235 rfl rfl ?_
  refine GoS.ifNo (pc' := 240) at_237 (XT.i0_le_f (by decide)) rfl ?_
  refine GoS.iload (pc' := 242) at_240 rfl rfl ?_
  refine GoS.ifNo (pc' := 245) at_242 (XT.i0_eq_f (by decide)) rfl ?_
  refine GoS.aload (pc' := 247) at_245 rfl rfl rfl ?_
  refine GoS.iload (pc' := 249) at_247 rfl rfl ?_
  refine GoS.iload (pc' := 251) at_249 rfl rfl ?_
  refine GoS.callS (cells' := 28) (slots' := 326) (pc' := 254) [(.ref r_26), (.int 0), (.int k0)] [] (ww hw 207 rfl) (ww hw 208 rfl) (ww hw 2 rfl) (ww hw 209 rfl) (by decide) (Con.cold (c_at l Z a0 hw h26 r_26 d_26 (escs [k0, k1, k2]) (0 : Int32) k0 0 (escs [k1, k2]) cp wf hcp hwf rfl (by decide) (esc_d0 _ _) scp sad shi slo sfm F26_0 F26_1)) pd_45 at_251 rfl ?_
  rintro _ _ LLn ⟨⟨rfl, rfl⟩, eLn⟩
  rw [eLn]
  clear eLn LLn
  show GoS _ _ _ _ _ _ _ _ _ _ _ _ _ _ 254 _ [(.int 1)]
  refine GoS.ifNo (pc' := 257) at_254 (XT.i0_eq_f (by decide)) rfl ?_
  refine GoS.iconst (pc' := 258) (v := 1) at_257 rfl rfl ?_
  refine GoS.goto (pc' := 262) at_258 (by decide) (by decide) ?_
  refine GoS.istore (pc' := 264) (Ls' := #[.val (.int p0), .val (.int p1), .val (.int p2), .val (.int p3), .val (.int 3), .val (.int k0), .val (.int k1), .val (.int k2), .val (.ref b1), .val (.ref r_26), .val (.int (((wd k0) + (wd k1)) + (wd k2))), .val (.int 1), .val (.int 0)]) at_262 rfl rfl ?_
  refine GoS.iload (pc' := 266) at_264 rfl rfl ?_
  refine GoS.iload (pc' := 268) at_266 rfl rfl ?_
  refine GoS.callS (cells' := 28) (slots' := 326) (pc' := 271) [(.int k0)] [(.int 0)] (ww hw 201 rfl) (ww hw 202 rfl) (ww hw 2 rfl) (ww hw 203 rfl) (by decide) (Con.cold (c_w l Z a0 hw h26 k0)) pd_44 at_268 rfl ?_
  rintro _ _ LLn ⟨⟨rfl, rfl⟩, eLn⟩
  rw [eLn]
  clear eLn LLn
  show GoS _ _ _ _ _ _ _ _ _ _ _ _ _ _ 271 _ [(.int (wd k0)), (.int 0)]
  refine GoS.iadd (pc' := 272) at_271 rfl ?_
  refine GoS.istore (pc' := 274) (Ls' := #[.val (.int p0), .val (.int p1), .val (.int p2), .val (.int p3), .val (.int 3), .val (.int k0), .val (.int k1), .val (.int k2), .val (.ref b1), .val (.ref r_26), .val (.int (((wd k0) + (wd k1)) + (wd k2))), .val (.int 1), .val (.int ((0 : Int32) + (wd k0)))]) at_272 rfl rfl ?_
  refine GoS.iload (pc' := 276) at_274 rfl rfl ?_
  refine GoS.iconst (pc' := 277) (v := 1) at_276 rfl rfl ?_
  refine GoS.icmpNo (pc' := 280) at_277 (XT.ii_le_f (by decide)) rfl ?_
  refine GoS.iload (pc' := 282) at_280 rfl rfl ?_
  refine GoS.ifNo (pc' := 285) at_282 (XT.i0_eq_f (by decide)) rfl ?_
  refine GoS.aload (pc' := 287) at_285 rfl rfl rfl ?_
  refine GoS.iload (pc' := 289) at_287 rfl rfl ?_
  refine GoS.iload (pc' := 291) at_289 rfl rfl ?_
  refine GoS.callS (cells' := 28) (slots' := 326) (pc' := 294) [(.ref r_26), (.int ((0 : Int32) + (wd k0))), (.int k1)] [] (ww hw 207 rfl) (ww hw 208 rfl) (ww hw 2 rfl) (ww hw 209 rfl) (by decide) (Con.cold (c_at l Z a0 hw h26 r_26 d_26 (escs [k0, k1, k2]) (((0 : Int32) + (wd k0))) k1 ((esc k0).length) (escs [k2]) cp wf hcp hwf (by rw [← wd_len]; simp) ((Nat.le_trans (esc_l2 _) (by decide))) (esc_d1 _ _ _) scp sad shi slo sfm F26_0 F26_1)) pd_45 at_291 rfl ?_
  rintro _ _ LLn ⟨⟨rfl, rfl⟩, eLn⟩
  rw [eLn]
  clear eLn LLn
  show GoS _ _ _ _ _ _ _ _ _ _ _ _ _ _ 294 _ [(.int 1)]
  refine GoS.ifNo (pc' := 297) at_294 (XT.i0_eq_f (by decide)) rfl ?_
  refine GoS.iconst (pc' := 298) (v := 1) at_297 rfl rfl ?_
  refine GoS.goto (pc' := 302) at_298 (by decide) (by decide) ?_
  refine GoS.istore (pc' := 304) (Ls' := #[.val (.int p0), .val (.int p1), .val (.int p2), .val (.int p3), .val (.int 3), .val (.int k0), .val (.int k1), .val (.int k2), .val (.ref b1), .val (.ref r_26), .val (.int (((wd k0) + (wd k1)) + (wd k2))), .val (.int 1), .val (.int ((0 : Int32) + (wd k0)))]) at_302 rfl rfl ?_
  refine GoS.iload (pc' := 306) at_304 rfl rfl ?_
  refine GoS.iload (pc' := 308) at_306 rfl rfl ?_
  refine GoS.callS (cells' := 28) (slots' := 326) (pc' := 311) [(.int k1)] [(.int ((0 : Int32) + (wd k0)))] (ww hw 201 rfl) (ww hw 202 rfl) (ww hw 2 rfl) (ww hw 203 rfl) (by decide) (Con.cold (c_w l Z a0 hw h26 k1)) pd_44 at_308 rfl ?_
  rintro _ _ LLn ⟨⟨rfl, rfl⟩, eLn⟩
  rw [eLn]
  clear eLn LLn
  show GoS _ _ _ _ _ _ _ _ _ _ _ _ _ _ 311 _ [(.int (wd k1)), (.int ((0 : Int32) + (wd k0)))]
  refine GoS.iadd (pc' := 312) at_311 rfl ?_
  refine GoS.istore (pc' := 314) (Ls' := #[.val (.int p0), .val (.int p1), .val (.int p2), .val (.int p3), .val (.int 3), .val (.int k0), .val (.int k1), .val (.int k2), .val (.ref b1), .val (.ref r_26), .val (.int (((wd k0) + (wd k1)) + (wd k2))), .val (.int 1), .val (.int (((0 : Int32) + (wd k0)) + (wd k1)))]) at_312 rfl rfl ?_
  refine GoS.iload (pc' := 316) at_314 rfl rfl ?_
  refine GoS.iconst (pc' := 317) (v := 2) at_316 rfl rfl ?_
  refine GoS.icmpNo (pc' := 320) at_317 (XT.ii_le_f (by decide)) rfl ?_
  refine GoS.iload (pc' := 322) at_320 rfl rfl ?_
  refine GoS.ifNo (pc' := 325) at_322 (XT.i0_eq_f (by decide)) rfl ?_
  refine GoS.aload (pc' := 327) at_325 rfl rfl rfl ?_
  refine GoS.iload (pc' := 329) at_327 rfl rfl ?_
  refine GoS.iload (pc' := 331) at_329 rfl rfl ?_
  refine GoS.callS (cells' := 28) (slots' := 326) (pc' := 334) [(.ref r_26), (.int (((0 : Int32) + (wd k0)) + (wd k1))), (.int k2)] [] (ww hw 207 rfl) (ww hw 208 rfl) (ww hw 2 rfl) (ww hw 209 rfl) (by decide) (Con.cold (c_at l Z a0 hw h26 r_26 d_26 (escs [k0, k1, k2]) ((((0 : Int32) + (wd k0)) + (wd k1))) k2 (((esc k0).length + (esc k1).length)) (escs []) cp wf hcp hwf (by rw [← wd_len2]; simp) ((Nat.le_trans (Nat.add_le_add (esc_l2 _) (esc_l2 _)) (by decide))) (esc_d2 _ _ _ _) scp sad shi slo sfm F26_0 F26_1)) pd_45 at_331 rfl ?_
  rintro _ _ LLn ⟨⟨rfl, rfl⟩, eLn⟩
  rw [eLn]
  clear eLn LLn
  show GoS _ _ _ _ _ _ _ _ _ _ _ _ _ _ 334 _ [(.int 1)]
  refine GoS.ifNo (pc' := 337) at_334 (XT.i0_eq_f (by decide)) rfl ?_
  refine GoS.iconst (pc' := 338) (v := 1) at_337 rfl rfl ?_
  refine GoS.goto (pc' := 342) at_338 (by decide) (by decide) ?_
  refine GoS.istore (pc' := 344) (Ls' := #[.val (.int p0), .val (.int p1), .val (.int p2), .val (.int p3), .val (.int 3), .val (.int k0), .val (.int k1), .val (.int k2), .val (.ref b1), .val (.ref r_26), .val (.int (((wd k0) + (wd k1)) + (wd k2))), .val (.int 1), .val (.int (((0 : Int32) + (wd k0)) + (wd k1)))]) at_342 rfl rfl ?_
  refine GoS.iload (pc' := 346) at_344 rfl rfl ?_
  exact GoS.retN (t := .boolean) rfl (by simp) at_346 ⟨rfl, K30⟩
theorem c_lawP (hw : HW a0 Z) (hs h : Heap) (p0 p1 p2 p3 n cp : Int32) (wf : Value) (hN : n = 0 ∨ n = 1 ∨ n = 2 ∨ n = 3) (hcp : ¬ (cp = (0 : Int32))) (hwf : wf.isRef = true) (hcw : Jvm.Lit.compactW.before a0 Z = true) (hch7 : Jvm.Lit.constHeld Z "java/lang/String" 7) (hch122 : Jvm.Lit.constHeld Z "com/example/aligned_index/alignedindex/inspect/Inspector" 122) (hch127 : Jvm.Lit.constHeld Z "com/example/aligned_index/alignedindex/inspect/Inspector" 127) (hch129 : Jvm.Lit.constHeld Z "com/example/aligned_index/alignedindex/inspect/Inspector" 129) (hch131 : Jvm.Lit.constHeld Z "com/example/aligned_index/alignedindex/inspect/Inspector" 131) (scp : Zcp Z (.int cp)) (sad : Zad Z (.int 1)) (shi : Zhi Z (.int 0)) (slo : Zlo Z (.int 8)) (sfm : Zfm Z wf) (Kp : Keep hs h []) :
    GoS l room_1 Z n0 x code maxLocals ret (fun v h' LL' => v = some (.int 1) ∧ Keep hs h' []) hs [] 0 0 h 40 #[.val (.int p0), .val (.int p1), .val (.int p2), .val (.int p3), .val (.int n), .unset, .unset, .unset, .unset, .unset, .unset, .unset, .unset] [] := by
  refine GoS.iloadN (pc' := 41) at_40 rfl rfl ?_
  refine GoS.callS (cells' := 0) (slots' := 0) (pc' := 44) [(.int p1)] [] (ww hw 0 rfl) (ww hw 1 rfl) (ww hw 2 rfl) (ww hw 3 rfl) (by decide) (Con.cold (c_pick l Z a0 hw h p1)) pd_40 at_41 rfl ?_
  rintro _ _ _ ⟨⟨k_1, rfl, rfl, P1_0⟩, rfl⟩
  show GoS _ _ _ _ _ _ _ _ _ _ _ _ _ _ 44 _ [(.int k_1)]
  refine GoS.istore (pc' := 46) (Ls' := #[.val (.int p0), .val (.int p1), .val (.int p2), .val (.int p3), .val (.int n), .val (.int k_1), .unset, .unset, .unset, .unset, .unset, .unset, .unset]) at_44 rfl rfl ?_
  refine GoS.iloadN (pc' := 47) at_46 rfl rfl ?_
  refine GoS.callS (cells' := 0) (slots' := 0) (pc' := 50) [(.int p2)] [] (ww hw 0 rfl) (ww hw 1 rfl) (ww hw 2 rfl) (ww hw 3 rfl) (by decide) (Con.cold (c_pick l Z a0 hw h p2)) pd_40 at_47 rfl ?_
  rintro _ _ _ ⟨⟨k_2, rfl, rfl, P2_0⟩, rfl⟩
  show GoS _ _ _ _ _ _ _ _ _ _ _ _ _ _ 50 _ [(.int k_2)]
  refine GoS.istore (pc' := 52) (Ls' := #[.val (.int p0), .val (.int p1), .val (.int p2), .val (.int p3), .val (.int n), .val (.int k_1), .val (.int k_2), .unset, .unset, .unset, .unset, .unset, .unset]) at_50 rfl rfl ?_
  refine GoS.iloadN (pc' := 53) at_52 rfl rfl ?_
  refine GoS.callS (cells' := 0) (slots' := 0) (pc' := 56) [(.int p3)] [] (ww hw 0 rfl) (ww hw 1 rfl) (ww hw 2 rfl) (ww hw 3 rfl) (by decide) (Con.cold (c_pick l Z a0 hw h p3)) pd_40 at_53 rfl ?_
  rintro _ _ _ ⟨⟨k_3, rfl, rfl, P3_0⟩, rfl⟩
  show GoS _ _ _ _ _ _ _ _ _ _ _ _ _ _ 56 _ [(.int k_3)]
  refine GoS.istore (pc' := 58) (Ls' := #[.val (.int p0), .val (.int p1), .val (.int p2), .val (.int p3), .val (.int n), .val (.int k_1), .val (.int k_2), .val (.int k_3), .unset, .unset, .unset, .unset, .unset]) at_56 rfl rfl ?_
  rcases hN with rfl | rfl | rfl | rfl
  ·
    exact GoS.more (c_lawR0 l Z a0 hw hs h p0 p1 p2 p3 k_1 k_2 k_3 cp wf hcp hwf hcw hch7 hch122 hch127 hch129 hch131 P1_0 P2_0 P3_0 scp sad shi slo sfm Kp) (nl rfl) (nl rfl)
  ·
    exact GoS.more (c_lawR1 l Z a0 hw hs h p0 p1 p2 p3 k_1 k_2 k_3 cp wf hcp hwf hcw hch7 hch122 hch127 hch129 hch131 P1_0 P2_0 P3_0 scp sad shi slo sfm Kp) (nl rfl) (nl rfl)
  ·
    exact GoS.more (c_lawR2 l Z a0 hw hs h p0 p1 p2 p3 k_1 k_2 k_3 cp wf hcp hwf hcw hch7 hch122 hch127 hch129 hch131 P1_0 P2_0 P3_0 scp sad shi slo sfm Kp) (nl rfl) (nl rfl)
  ·
    exact GoS.more (c_lawR3 l Z a0 hw hs h p0 p1 p2 p3 k_1 k_2 k_3 cp wf hcp hwf hcw hch7 hch122 hch127 hch129 hch131 P1_0 P2_0 P3_0 scp sad shi slo sfm Kp) (nl rfl) (nl rfl)
theorem c_law (hw : HW a0 Z) (h : Heap) (p0 p1 p2 p3 cp : Int32) (wf : Value) (hcp : ¬ (cp = (0 : Int32))) (hwf : wf.isRef = true) (hcw : Jvm.Lit.compactW.before a0 Z = true) (hch7 : Jvm.Lit.constHeld Z "java/lang/String" 7) (hch122 : Jvm.Lit.constHeld Z "com/example/aligned_index/alignedindex/inspect/Inspector" 122) (hch127 : Jvm.Lit.constHeld Z "com/example/aligned_index/alignedindex/inspect/Inspector" 127) (hch129 : Jvm.Lit.constHeld Z "com/example/aligned_index/alignedindex/inspect/Inspector" 129) (hch131 : Jvm.Lit.constHeld Z "com/example/aligned_index/alignedindex/inspect/Inspector" 131) (scp : Zcp Z (.int cp)) (sad : Zad Z (.int 1)) (shi : Zhi Z (.int 0)) (slo : Zlo Z (.int 8)) (sfm : Zfm Z wf) :
    ConS l x code maxLocals ret room_1 Z n0 #[(.int p0), (.int p1), (.int p2), (.int p3)] h [] (fun v h' LL' => v = some (.int 1) ∧ Keep h h' []) := by
  refine ConS.of_go (plainFor_of_name pn_9) (Ls := #[.val (.int p0), .val (.int p1), .val (.int p2), .val (.int p3), .unset, .unset, .unset, .unset, .unset, .unset, .unset, .unset, .unset]) (he := fun m => by first | (simp [entryFrame, mkF, argsToLocals, Value.category, maxLocals]; done) | rfl) ?_
  refine GoS.iloadN (pc' := 1) at_0 rfl rfl ?_
  refine GoS.iconst (pc' := 2) (v := 3) at_1 rfl rfl ?_
  refine GoS.iand (pc' := 3) at_2 rfl ?_
  obtain hspl1 | hspl1 | hspl1 | hspl1 := own_and3 p0
  ·
    rw [hspl1]
    refine GoS.istore (pc' := 5) (Ls' := #[.val (.int p0), .val (.int p1), .val (.int p2), .val (.int p3), .val (.int 0), .unset, .unset, .unset, .unset, .unset, .unset, .unset, .unset]) at_3 rfl rfl ?_
    refine GoS.iload (pc' := 7) at_5 rfl rfl ?_
    refine GoS.iconst (pc' := 8) (v := 3) at_7 rfl rfl ?_
    refine GoS.icmpYes (pc' := 25) at_8 (XT.ii_ne_t (by decide)) (by decide) (by decide) ?_
    refine GoS.iloadN (pc' := 26) at_25 rfl rfl ?_
    refine GoS.iconst (pc' := 27) (v := 4) at_26 rfl rfl ?_
    refine GoS.iand (pc' := 28) at_27 rfl ?_
    by_cases hc2 : (p0 &&& (4 : Int32)) = (0 : Int32)
    ·
      refine GoS.ifYes (pc' := 40) at_28 (XT.i0_eq_t hc2) (by decide) (by decide) ?_
      exact GoS.more (c_lawP l Z a0 hw h h p0 p1 p2 p3 (0 : Int32) cp wf (by decide) hcp hwf hcw hch7 hch122 hch127 hch129 hch131 scp sad shi slo sfm (Keep.refl h [])) (nl rfl) (nl rfl)
    ·
      refine GoS.ifNo (pc' := 31) at_28 (XT.i0_eq_f hc2) rfl ?_
      refine GoS.iload (pc' := 33) at_31 rfl rfl ?_
      refine GoS.iconst (pc' := 34) (v := 2) at_33 rfl rfl ?_
      refine GoS.icmpYes (pc' := 40) at_34 (XT.ii_ne_t (by decide)) (by decide) (by decide) ?_
      exact GoS.more (c_lawP l Z a0 hw h h p0 p1 p2 p3 (0 : Int32) cp wf (by decide) hcp hwf hcw hch7 hch122 hch127 hch129 hch131 scp sad shi slo sfm (Keep.refl h [])) (nl rfl) (nl rfl)
  ·
    rw [hspl1]
    refine GoS.istore (pc' := 5) (Ls' := #[.val (.int p0), .val (.int p1), .val (.int p2), .val (.int p3), .val (.int 1), .unset, .unset, .unset, .unset, .unset, .unset, .unset, .unset]) at_3 rfl rfl ?_
    refine GoS.iload (pc' := 7) at_5 rfl rfl ?_
    refine GoS.iconst (pc' := 8) (v := 3) at_7 rfl rfl ?_
    refine GoS.icmpYes (pc' := 25) at_8 (XT.ii_ne_t (by decide)) (by decide) (by decide) ?_
    refine GoS.iloadN (pc' := 26) at_25 rfl rfl ?_
    refine GoS.iconst (pc' := 27) (v := 4) at_26 rfl rfl ?_
    refine GoS.iand (pc' := 28) at_27 rfl ?_
    by_cases hc3 : (p0 &&& (4 : Int32)) = (0 : Int32)
    ·
      refine GoS.ifYes (pc' := 40) at_28 (XT.i0_eq_t hc3) (by decide) (by decide) ?_
      exact GoS.more (c_lawP l Z a0 hw h h p0 p1 p2 p3 (1 : Int32) cp wf (by decide) hcp hwf hcw hch7 hch122 hch127 hch129 hch131 scp sad shi slo sfm (Keep.refl h [])) (nl rfl) (nl rfl)
    ·
      refine GoS.ifNo (pc' := 31) at_28 (XT.i0_eq_f hc3) rfl ?_
      refine GoS.iload (pc' := 33) at_31 rfl rfl ?_
      refine GoS.iconst (pc' := 34) (v := 2) at_33 rfl rfl ?_
      refine GoS.icmpYes (pc' := 40) at_34 (XT.ii_ne_t (by decide)) (by decide) (by decide) ?_
      exact GoS.more (c_lawP l Z a0 hw h h p0 p1 p2 p3 (1 : Int32) cp wf (by decide) hcp hwf hcw hch7 hch122 hch127 hch129 hch131 scp sad shi slo sfm (Keep.refl h [])) (nl rfl) (nl rfl)
  ·
    rw [hspl1]
    refine GoS.istore (pc' := 5) (Ls' := #[.val (.int p0), .val (.int p1), .val (.int p2), .val (.int p3), .val (.int 2), .unset, .unset, .unset, .unset, .unset, .unset, .unset, .unset]) at_3 rfl rfl ?_
    refine GoS.iload (pc' := 7) at_5 rfl rfl ?_
    refine GoS.iconst (pc' := 8) (v := 3) at_7 rfl rfl ?_
    refine GoS.icmpYes (pc' := 25) at_8 (XT.ii_ne_t (by decide)) (by decide) (by decide) ?_
    refine GoS.iloadN (pc' := 26) at_25 rfl rfl ?_
    refine GoS.iconst (pc' := 27) (v := 4) at_26 rfl rfl ?_
    refine GoS.iand (pc' := 28) at_27 rfl ?_
    by_cases hc4 : (p0 &&& (4 : Int32)) = (0 : Int32)
    ·
      refine GoS.ifYes (pc' := 40) at_28 (XT.i0_eq_t hc4) (by decide) (by decide) ?_
      exact GoS.more (c_lawP l Z a0 hw h h p0 p1 p2 p3 (2 : Int32) cp wf (by decide) hcp hwf hcw hch7 hch122 hch127 hch129 hch131 scp sad shi slo sfm (Keep.refl h [])) (nl rfl) (nl rfl)
    ·
      refine GoS.ifNo (pc' := 31) at_28 (XT.i0_eq_f hc4) rfl ?_
      refine GoS.iload (pc' := 33) at_31 rfl rfl ?_
      refine GoS.iconst (pc' := 34) (v := 2) at_33 rfl rfl ?_
      refine GoS.icmpNo (pc' := 37) at_34 (XT.ii_ne_f (by decide)) rfl ?_
      refine GoS.iconst (pc' := 38) (v := 0) at_37 rfl rfl ?_
      refine GoS.istore (pc' := 40) (Ls' := #[.val (.int p0), .val (.int p1), .val (.int p2), .val (.int p3), .val (.int 0), .unset, .unset, .unset, .unset, .unset, .unset, .unset, .unset]) at_38 rfl rfl ?_
      exact GoS.more (c_lawP l Z a0 hw h h p0 p1 p2 p3 (0 : Int32) cp wf (by decide) hcp hwf hcw hch7 hch122 hch127 hch129 hch131 scp sad shi slo sfm (Keep.refl h [])) (nl rfl) (nl rfl)
  ·
    rw [hspl1]
    refine GoS.istore (pc' := 5) (Ls' := #[.val (.int p0), .val (.int p1), .val (.int p2), .val (.int p3), .val (.int 3), .unset, .unset, .unset, .unset, .unset, .unset, .unset, .unset]) at_3 rfl rfl ?_
    refine GoS.iload (pc' := 7) at_5 rfl rfl ?_
    refine GoS.iconst (pc' := 8) (v := 3) at_7 rfl rfl ?_
    refine GoS.icmpNo (pc' := 11) at_8 (XT.ii_ne_f (by decide)) rfl ?_
    refine GoS.iloadN (pc' := 12) at_11 rfl rfl ?_
    refine GoS.ldcI (pc' := 14) (ww hw 125 rfl) at_12 rfl ?_
    refine GoS.iand (pc' := 15) at_14 rfl ?_
    by_cases hc5 : (p1 &&& (131072 : Int32)) = (0 : Int32)
    ·
      refine GoS.ifYes (pc' := 22) at_15 (XT.i0_eq_t hc5) (by decide) (by decide) ?_
      refine GoS.iconst (pc' := 23) (v := 2) at_22 rfl rfl ?_
      refine GoS.istore (pc' := 25) (Ls' := #[.val (.int p0), .val (.int p1), .val (.int p2), .val (.int p3), .val (.int 2), .unset, .unset, .unset, .unset, .unset, .unset, .unset, .unset]) at_23 rfl rfl ?_
      refine GoS.iloadN (pc' := 26) at_25 rfl rfl ?_
      refine GoS.iconst (pc' := 27) (v := 4) at_26 rfl rfl ?_
      refine GoS.iand (pc' := 28) at_27 rfl ?_
      by_cases hc6 : (p0 &&& (4 : Int32)) = (0 : Int32)
      ·
        refine GoS.ifYes (pc' := 40) at_28 (XT.i0_eq_t hc6) (by decide) (by decide) ?_
        exact GoS.more (c_lawP l Z a0 hw h h p0 p1 p2 p3 (2 : Int32) cp wf (by decide) hcp hwf hcw hch7 hch122 hch127 hch129 hch131 scp sad shi slo sfm (Keep.refl h [])) (nl rfl) (nl rfl)
      ·
        refine GoS.ifNo (pc' := 31) at_28 (XT.i0_eq_f hc6) rfl ?_
        refine GoS.iload (pc' := 33) at_31 rfl rfl ?_
        refine GoS.iconst (pc' := 34) (v := 2) at_33 rfl rfl ?_
        refine GoS.icmpNo (pc' := 37) at_34 (XT.ii_ne_f (by decide)) rfl ?_
        refine GoS.iconst (pc' := 38) (v := 0) at_37 rfl rfl ?_
        refine GoS.istore (pc' := 40) (Ls' := #[.val (.int p0), .val (.int p1), .val (.int p2), .val (.int p3), .val (.int 0), .unset, .unset, .unset, .unset, .unset, .unset, .unset, .unset]) at_38 rfl rfl ?_
        exact GoS.more (c_lawP l Z a0 hw h h p0 p1 p2 p3 (0 : Int32) cp wf (by decide) hcp hwf hcw hch7 hch122 hch127 hch129 hch131 scp sad shi slo sfm (Keep.refl h [])) (nl rfl) (nl rfl)
    ·
      refine GoS.ifNo (pc' := 18) at_15 (XT.i0_eq_f hc5) rfl ?_
      refine GoS.iconst (pc' := 19) (v := 3) at_18 rfl rfl ?_
      refine GoS.goto (pc' := 23) at_19 (by decide) (by decide) ?_
      refine GoS.istore (pc' := 25) (Ls' := #[.val (.int p0), .val (.int p1), .val (.int p2), .val (.int p3), .val (.int 3), .unset, .unset, .unset, .unset, .unset, .unset, .unset, .unset]) at_23 rfl rfl ?_
      refine GoS.iloadN (pc' := 26) at_25 rfl rfl ?_
      refine GoS.iconst (pc' := 27) (v := 4) at_26 rfl rfl ?_
      refine GoS.iand (pc' := 28) at_27 rfl ?_
      by_cases hc7 : (p0 &&& (4 : Int32)) = (0 : Int32)
      ·
        refine GoS.ifYes (pc' := 40) at_28 (XT.i0_eq_t hc7) (by decide) (by decide) ?_
        exact GoS.more (c_lawP l Z a0 hw h h p0 p1 p2 p3 (3 : Int32) cp wf (by decide) hcp hwf hcw hch7 hch122 hch127 hch129 hch131 scp sad shi slo sfm (Keep.refl h [])) (nl rfl) (nl rfl)
      ·
        refine GoS.ifNo (pc' := 31) at_28 (XT.i0_eq_f hc7) rfl ?_
        refine GoS.iload (pc' := 33) at_31 rfl rfl ?_
        refine GoS.iconst (pc' := 34) (v := 2) at_33 rfl rfl ?_
        refine GoS.icmpYes (pc' := 40) at_34 (XT.ii_ne_t (by decide)) (by decide) (by decide) ?_
        exact GoS.more (c_lawP l Z a0 hw h h p0 p1 p2 p3 (3 : Int32) cp wf (by decide) hcp hwf hcw hch7 hch122 hch127 hch129 hch131 scp sad shi slo sfm (Keep.refl h [])) (nl rfl) (nl rfl)
end Contracts
theorem comes_1 {Post : Tables → Env → Array Value → State → Outcome → State → Prop} (hpost : ∀ tb e args s v u, (limb_1_1.after args s (.returned v) u = true ∧ limb_1_2.after args s (.returned v) u = true ∧ True) → Jvm.D.FramedW s (.returned v) u (Jvm.fieldLocs frame_1_writes args s ++ Jvm.arrayLocs frame_1_arrays args s ++ Jvm.staticLocs frame_1_statics s) 40 5376 → Post tb e args s (.returned v) u) :
    ArmFor flags0 classFile x code maxLocals ret World_1 tables_1 room_1 Calls_1 rest_1 Pre_1 Post := by
  intro l hfl _ _ p e ha hc hk s m args below hf hA hF happ hP
  obtain ⟨hcalls, hrest, hpre⟩ := hP
  obtain ⟨-, -, -, hnamed, -, -, -, hat⟩ := (Spec.applies_iff hf).mp happ
  obtain ⟨hg, hn⟩ := and_e (Cond.before_iff.mp (show (Jvm.Cond.and given_1 narrow_1).before args s = true from hpre))
  obtain ⟨g1, g2⟩ := and_e hg
  obtain ⟨g3, g4⟩ := and_e g2
  obtain ⟨g5, g6⟩ := and_e g4
  obtain ⟨g7, g8⟩ := and_e g6
  obtain ⟨w0, w1, w2, w3, rfl⟩ : ∃ w0 w1 w2 w3 : Value, args = #[w0, w1, w2, w3] := by
    have hs : args.size = 4 := by simpa [Cond.value, given_1] using g1
    obtain ⟨L⟩ := args
    match L, hs with
    | [w0, w1, w2, w3], _ => exact ⟨w0, w1, w2, w3, rfl⟩
  have hw := fun d (hd : d ∈ tables_1) => atoms_spec (ws := Jvm.Cond.code x code maxLocals ret :: tables_1) hat d (List.mem_cons_of_mem _ hd)
  have hfit : Fit s := fun {y c} hc i hi => by
    obtain ⟨ha, rfl⟩ := Array.getElem?_eq_some_iff.mp hc
    have q := List.all_eq_true.mp ((Array.all_eq_true_iff_forall_mem.mp hF) _ (Array.getElem_mem ha)) i (List.mem_range.mpr hi)
    simpa [Array.getElem?_eq_getElem hi] using q
  obtain ⟨hsets, hown0⟩ := atoms_of _ (rest_1_c_eq ▸ (show rest_1_c.before _ s = true from hrest))
  have hr0 := Cond.before_iff.mp hown0
  obtain ⟨i0, ei0⟩ := is_v g3
  obtain rfl : w0 = (.int i0) := Option.some.inj ei0
  obtain ⟨i1, ei1⟩ := is_v g5
  obtain rfl : w1 = (.int i1) := Option.some.inj ei1
  obtain ⟨i2, ei2⟩ := is_v g7
  obtain rfl : w2 = (.int i2) := Option.some.inj ei2
  obtain ⟨i3, ei3⟩ := is_v g8
  obtain rfl : w3 = (.int i3) := Option.some.inj ei3
  obtain ⟨cp, ev_cp⟩ := is_v (Cond.before_iff.mp (hsets _ (List.mem_of_getElem? (i := 1) rfl)))
  have sta_cp := Sta.start ev_cp (Or.inl (hsets _ (List.mem_of_getElem? (i := 0) rfl)))
  have hcp : ¬ (cp = (0 : Int32)) := fun q => by
    have w := not_v (Cond.before_iff.mp (hsets _ (List.mem_of_getElem? (i := 2) rfl)))
    rw [eq_i ev_cp (Term.int_eval 0) (by rw [q])] at w
    cases w
  obtain ⟨wf, ev_wf, hwf⟩ := isR_v (Cond.before_iff.mp (hsets _ (List.mem_of_getElem? (i := 8) rfl)))
  have sta_wf := Sta.start ev_wf (Or.inl (hsets _ (List.mem_of_getElem? (i := 7) rfl)))
  have hcw : Jvm.Lit.compactW.before _ s = true := (hsets _ (List.mem_of_getElem? (i := 2) rfl))
  have hch122 : Jvm.Lit.constHeld s "com/example/aligned_index/alignedindex/inspect/Inspector" 122 := fun c k cf j u a g1 g2 g3 g4 g5 g6 g7 g8 => hcalls.1 ("com/example/aligned_index/alignedindex/inspect/Inspector", 122) (List.mem_of_getElem? (i := 0) rfl) c k cf j u a g1 g2 g3 g4 g5 g6 g7 g8
  have hch127 : Jvm.Lit.constHeld s "com/example/aligned_index/alignedindex/inspect/Inspector" 127 := fun c k cf j u a g1 g2 g3 g4 g5 g6 g7 g8 => hcalls.1 ("com/example/aligned_index/alignedindex/inspect/Inspector", 127) (List.mem_of_getElem? (i := 1) rfl) c k cf j u a g1 g2 g3 g4 g5 g6 g7 g8
  have hch129 : Jvm.Lit.constHeld s "com/example/aligned_index/alignedindex/inspect/Inspector" 129 := fun c k cf j u a g1 g2 g3 g4 g5 g6 g7 g8 => hcalls.1 ("com/example/aligned_index/alignedindex/inspect/Inspector", 129) (List.mem_of_getElem? (i := 2) rfl) c k cf j u a g1 g2 g3 g4 g5 g6 g7 g8
  have hch131 : Jvm.Lit.constHeld s "com/example/aligned_index/alignedindex/inspect/Inspector" 131 := fun c k cf j u a g1 g2 g3 g4 g5 g6 g7 g8 => hcalls.1 ("com/example/aligned_index/alignedindex/inspect/Inspector", 131) (List.mem_of_getElem? (i := 3) rfl) c k cf j u a g1 g2 g3 g4 g5 g6 g7 g8
  have hch7 : Jvm.Lit.constHeld s "java/lang/String" 7 := fun c k cf j u a g1 g2 g3 g4 g5 g6 g7 g8 => hcalls.1 ("java/lang/String", 7) (List.mem_of_getElem? (i := 4) rfl) c k cf j u a g1 g2 g3 g4 g5 g6 g7 g8
  have ev_ad := own_eqI (Cond.before_iff.mp (hsets _ (List.mem_of_getElem? (i := 12) rfl)))
  have sta_ad := Sta.start ev_ad (Or.inl (hsets _ (List.mem_of_getElem? (i := 11) rfl)))
  have ev_hi := own_eqI (Cond.before_iff.mp (hsets _ (List.mem_of_getElem? (i := 15) rfl)))
  have sta_hi := Sta.start ev_hi (Or.inl (hsets _ (List.mem_of_getElem? (i := 14) rfl)))
  have ev_lo := own_eqI (Cond.before_iff.mp (hsets _ (List.mem_of_getElem? (i := 18) rfl)))
  have sta_lo := Sta.start ev_lo (Or.inl (hsets _ (List.mem_of_getElem? (i := 17) rfl)))
  obtain ⟨n, o, h1, h2, h3, _, L, _, rfl, ⟨hQ, -, N⟩, hq⟩ := c_law l s _ hw s.heap i0 i1 i2 i3 cp wf hcp hwf hcw hch7 hch122 hch127 hch129 hch131 sta_cp sta_ad sta_hi sta_lo sta_wf (Old.start s) tables_1 p e ha hc hk s m _ below hf ((Spec.applies_iff_loose hf).mp happ).1 ⟨rfl, State.Warmed39.refl s, rfl, IB4.start⟩ trivial
  obtain rfl := hQ.1
  refine ⟨n, _, h1, h2, h3, hpost _ _ _ _ _ _ ⟨Cond.after_iff.mpr rfl, Cond.after_iff.mpr (eq_i res_at (Term.int_eval (1)) rfl), trivial⟩ ⟨hq.1, hq.2.1, hq.2.2.1, (hq.2.2.2.sift fun y hy => Or.inr (N y hy)).mono (by decide) (by decide)⟩⟩
theorem main_1_1 : Claimed_1_1 := comes_1 fun _ _ _ _ _ _ h hF => ⟨h.1, hF⟩
theorem main_1_2 : Claimed_1_2 := comes_1 fun _ _ _ _ _ _ h hF => ⟨h.2.1, hF⟩

end Jvm.Pilot.@@N@@
namespace Jvm.Pilot.@@N@@
open Jvm Jvm.ClassFile Sem Op Lib Jvm.Free Jvm.Stand Jvm.Pilot.@@N@@.Jvm.D
/-! MADE BY PROGRAM (witnessworld.py) out of the Statement's table words and the real class files: 26 classes; the members and pool entries that the words name. The judged class is class 1, her method 6. -/
namespace start1
open Jvm.ClassFile
def u (s : String) : CpInfo := .utf8 (stringToUtf16 s)
/-- a pool by its gaps: so many unusable entries, then the entry; so many at the end -/
def gap : Nat → List CpInfo → List CpInfo
  | 0, r => r
  | n + 1, r => .unusable :: gap n r
def poolList (es : List (Nat × CpInfo)) (last : Nat) : List CpInfo := es.foldr (fun e r => gap e.1 (e.2 :: r)) (gap last [])
def pool (es : List (Nat × CpInfo)) (last : Nat) : Array CpInfo := ⟨poolList es last⟩
def fileOf (pool : Array CpInfo) (this : Nat) (attrs : Array Attribute := #[]) (ms : Array MethodInfo := #[]) (fl : Nat := 33) (sup : Nat := 0) (ifs : Array Nat := #[]) (fds : Array FieldInfo := #[]) : ClassFile where
  minorVersion := 0
  majorVersion := 65
  constantPool := pool
  accessFlags := fl
  thisClass := this
  superClass := sup
  interfaces := ifs
  fields := fds
  methods := ms
  attributes := attrs
def plain (name : String) (sup : Option ClassId) : Class where
  name := name
  kind := .ordinary
  loader := none
  accessFlags := 33
  super := sup
  interfaces := #[]
  cf := none
  fields := #[]
  methods := #[]
  instanceTypes := #[]
  staticTypes := #[]
  resolved := #[]
  callSites := []
  init := .initialized
  statics := none
  mirror := none

def pool0 : Array CpInfo := pool [(5, u "<init>"), (0, u "()V"), (1, .class_ 10), (1, u "java/lang/Object"), (85, u "clone"), (0, u "()Ljava/lang/Object;")] 26

def k0c0 : Code := { maxStack := 0, maxLocals := 1, code := object_method_1_code, exceptionTable := #[], attributes := #[] }
def k0m0 : Method := { name := "<init>", desc := "()V", sig := { parameters := [], returnType := none }, accessFlags := 1, code := some k0c0 }
def k0m1 : Method := { name := "clone", desc := "()Ljava/lang/Object;", sig := { parameters := [], returnType := some (.object "java/lang/Object") }, accessFlags := 260, code := none }
/-- java/lang/Object -/
def k0 : Class := { plain "java/lang/Object" none with
  accessFlags := 33
  interfaces := #[]
  cf := some (fileOf pool0 8 #[] #[⟨1, 5, 6, #[]⟩, ⟨260, 96, 97, #[]⟩] 33 0 #[] #[])
  fields := #[]
  methods := #[k0m0, k0m1]
  instanceTypes := #[]
  staticTypes := #[]
  resolved := Array.replicate 124 none
  statics := none }

def pool1 : Array CpInfo := pool [(2, .class_ 4), (1, u "java/lang/Object"), (0, u "<init>"), (0, u "()V"), (0, .integer 65536), (0, .integer 65535), (0, .methodref 10 11), (0, .class_ 12), (0, .nameAndType 13 14), (0, u "com/example/aligned_index/alignedindex/inspect/InspectorEscapePinLaw"), (0, u "special"), (0, u "(C)Z"), (0, .methodref 16 17), (0, .class_ 18), (0, .nameAndType 19 20), (0, u "java/lang/String"), (0, u "charAt"), (0, u "(I)C"), (0, .methodref 10 22), (0, .nameAndType 23 24), (0, u "code"), (0, u "(C)C"), (0, .integer 131072), (0, .methodref 10 27), (0, .nameAndType 28 20), (0, u "pick"), (0, .methodref 16 30), (0, .nameAndType 5 31), (0, u "([C)V"), (0, .methodref 33 34), (0, .class_ 35), (0, .nameAndType 36 37), (0, u "com/example/aligned_index/alignedindex/inspect/Inspector"), (0, u "escape"), (0, u "(Ljava/lang/String;)Ljava/lang/String;"), (0, .methodref 10 39), (0, .nameAndType 40 41), (0, u "w"), (0, u "(C)I"), (0, .methodref 16 43), (0, .nameAndType 44 45), (0, u "length"), (0, u "()I"), (0, .methodref 10 47), (0, .nameAndType 48 49), (0, u "at"), (0, u "(Ljava/lang/String;IC)Z"), (3, u "law"), (0, u "(IIII)Z")] 2

def k1m0 : Method := { name := "<init>", desc := "()V", sig := { parameters := [], returnType := none }, accessFlags := 2, code := none }
def k1c1 : Code := { maxStack := 2, maxLocals := 2, code := method_2_code, exceptionTable := #[], attributes := #[] }
def k1m1 : Method := { name := "pick", desc := "(I)C", sig := { parameters := [.int], returnType := some .char }, accessFlags := 10, code := some k1c1 }
def k1c2 : Code := { maxStack := 2, maxLocals := 1, code := method_3_code, exceptionTable := #[], attributes := #[] }
def k1m2 : Method := { name := "special", desc := "(C)Z", sig := { parameters := [.char], returnType := some .boolean }, accessFlags := 10, code := some k1c2 }
def k1c3 : Code := { maxStack := 2, maxLocals := 1, code := method_4_code, exceptionTable := #[], attributes := #[] }
def k1m3 : Method := { name := "code", desc := "(C)C", sig := { parameters := [.char], returnType := some .char }, accessFlags := 10, code := some k1c3 }
def k1c4 : Code := { maxStack := 1, maxLocals := 1, code := method_5_code, exceptionTable := #[], attributes := #[] }
def k1m4 : Method := { name := "w", desc := "(C)I", sig := { parameters := [.char], returnType := some .int }, accessFlags := 10, code := some k1c4 }
def k1c5 : Code := { maxStack := 3, maxLocals := 3, code := method_6_code, exceptionTable := #[], attributes := #[] }
def k1m5 : Method := { name := "at", desc := "(Ljava/lang/String;IC)Z", sig := { parameters := [(.object "java/lang/String"), .int, .char], returnType := some .boolean }, accessFlags := 10, code := some k1c5 }
def k1c6 : Code := { maxStack := 6, maxLocals := 13, code := code, exceptionTable := #[], attributes := #[] }
def k1m6 : Method := { name := "law", desc := "(IIII)Z", sig := { parameters := [.int, .int, .int, .int], returnType := some .boolean }, accessFlags := 9, code := some k1c6 }
/-- com/example/aligned_index/alignedindex/inspect/InspectorEscapePinLaw -/
def k1 : Class := { plain "com/example/aligned_index/alignedindex/inspect/InspectorEscapePinLaw" (some 0) with
  accessFlags := 49
  interfaces := #[]
  cf := some (fileOf pool1 10 #[] #[⟨2, 5, 6, #[]⟩, ⟨10, 28, 20, #[]⟩, ⟨10, 13, 14, #[]⟩, ⟨10, 23, 24, #[]⟩, ⟨10, 40, 41, #[]⟩, ⟨10, 48, 49, #[]⟩, ⟨9, 53, 54, #[]⟩] 49 2 #[] #[])
  fields := #[]
  methods := #[k1m0, k1m1, k1m2, k1m3, k1m4, k1m5, k1m6]
  instanceTypes := #[]
  staticTypes := #[]
  resolved := Array.replicate 57 none
  statics := none }

def pool2 : Array CpInfo := pool [(1, .class_ 2), (0, u "java/io/Serializable"), (0, .class_ 4), (0, u "java/lang/Object")] 2

/-- java/io/Serializable -/
def k2 : Class := { plain "java/io/Serializable" (some 0) with
  accessFlags := 1537
  interfaces := #[]
  cf := some (fileOf pool2 1 #[] #[] 1537 3 #[] #[])
  fields := #[]
  methods := #[]
  instanceTypes := #[]
  staticTypes := #[]
  resolved := Array.replicate 7 none
  statics := none }

def pool3 : Array CpInfo := pool [(1, .class_ 2), (0, u "java/lang/Comparable"), (0, .class_ 4), (0, u "java/lang/Object")] 7

/-- java/lang/Comparable -/
def k3 : Class := { plain "java/lang/Comparable" (some 0) with
  accessFlags := 1537
  interfaces := #[]
  cf := some (fileOf pool3 1 #[] #[] 1537 3 #[] #[])
  fields := #[]
  methods := #[]
  instanceTypes := #[]
  staticTypes := #[]
  resolved := Array.replicate 12 none
  statics := none }

def pool4 : Array CpInfo := pool [(2, .class_ 4), (1, u "java/lang/CharSequence"), (42, .class_ 48), (0, u "java/lang/CharSequence$1CodePointIterator"), (10, .class_ 60), (0, u "java/lang/CharSequence$1CharIterator"), (5, .class_ 67), (0, u "java/lang/Object")] 63

/-- java/lang/CharSequence -/
def k4 : Class := { plain "java/lang/CharSequence" (some 0) with
  accessFlags := 1537
  interfaces := #[]
  cf := some (fileOf pool4 2 #[.nestMembers #[47, 59]] #[] 1537 66 #[] #[])
  fields := #[]
  methods := #[]
  instanceTypes := #[]
  staticTypes := #[]
  resolved := Array.replicate 131 none
  statics := none }

def pool5 : Array CpInfo := pool [(1, .class_ 2), (0, u "java/lang/constant/Constable"), (0, .class_ 4), (0, u "java/lang/Object")] 6

/-- java/lang/constant/Constable -/
def k5 : Class := { plain "java/lang/constant/Constable" (some 0) with
  accessFlags := 1537
  interfaces := #[]
  cf := some (fileOf pool5 1 #[] #[] 1537 3 #[] #[])
  fields := #[]
  methods := #[]
  instanceTypes := #[]
  staticTypes := #[]
  resolved := Array.replicate 11 none
  statics := none }

def pool6 : Array CpInfo := pool [(1, .class_ 2), (0, u "java/lang/constant/ConstantDesc"), (0, .class_ 4), (0, u "java/lang/Object")] 32

/-- java/lang/constant/ConstantDesc -/
def k6 : Class := { plain "java/lang/constant/ConstantDesc" (some 0) with
  accessFlags := 1537
  interfaces := #[]
  cf := some (fileOf pool6 1 #[] #[] 1537 3 #[] #[])
  fields := #[]
  methods := #[]
  instanceTypes := #[]
  staticTypes := #[]
  resolved := Array.replicate 37 none
  statics := none }

def pool7 : Array CpInfo := pool [(1, .methodref 2 3), (0, .class_ 4), (0, .nameAndType 5 6), (0, u "java/lang/Object"), (0, u "<init>"), (0, u "()V"), (0, .string 8), (0, u ""), (0, .fieldref 10 11), (0, .class_ 12), (0, .nameAndType 13 14), (0, u "java/lang/String"), (0, u "value"), (0, u "[B"), (0, .fieldref 10 16), (0, .nameAndType 17 18), (0, u "coder"), (0, u "B"), (2, u "hash"), (0, u "I"), (2, u "hashIsZero"), (0, u "Z"), (0, .methodref 10 28), (0, .nameAndType 5 29), (0, u "([CIILjava/lang/Void;)V"), (6, u "checkBoundsOffCount"), (0, u "(III)I"), (0, .fieldref 10 39), (0, .nameAndType 40 26), (0, u "COMPACT_STRINGS"), (1, .class_ 44), (1, u "java/lang/StringUTF16"), (0, u "compress"), (1, .methodref 42 48), (0, .nameAndType 49 50), (0, u "coderFromArrayLen"), (0, u "([BI)B"), (3, .methodref 55 56), (0, .class_ 57), (0, .nameAndType 58 59), (0, u "java/util/Arrays"), (0, u "copyOfRange"), (0, u "([BII)[B"), (46, .methodref 107 108), (0, .class_ 109), (0, .nameAndType 110 111), (0, u "java/lang/StringLatin1"), (0, u "inflate"), (0, u "([BI[BII)V"), (30, u "()Z"), (34, .methodref 42 178), (0, .nameAndType 45 179), (0, u "([CII)[B"), (13, .class_ 195), (1, u "java/lang/System"), (16, .methodref 193 213), (0, .nameAndType 214 215), (0, u "arraycopy"), (0, u "(Ljava/lang/Object;ILjava/lang/Object;II)V"), (83, .methodref 107 300), (0, .nameAndType 301 302), (0, u "toChars"), (0, u "([B)[C"), (0, .methodref 42 300), (30, u "()I"), (0, .methodref 10 336), (0, .nameAndType 17 337), (0, u "()B"), (2, u "()[B"), (22, u "([BI)C"), (27, u "(II)V"), (35, u "(I)C"), (61, .methodref 10 490), (0, .nameAndType 5 491), (0, u "(Ljava/lang/AbstractStringBuilder;Ljava/lang/Void;)V"), (0, .methodref 10 493), (0, .nameAndType 494 142), (0, u "isLatin1"), (0, .methodref 107 496), (0, .nameAndType 497 363), (0, u "charAt"), (0, .methodref 42 496), (2, u "checkIndex"), (4, .nameAndType 507 334), (0, u "length"), (24, u "getBytes"), (16, .methodref 550 506), (0, .class_ 551), (0, u "java/lang/AbstractStringBuilder"), (0, .methodref 550 553), (0, .nameAndType 554 340), (0, u "getValue"), (20, .class_ 576), (0, u "java/lang/CharSequence"), (22, u "CASE_INSENSITIVE_ORDER"), (0, u "Ljava/util/Comparator;"), (220, u "([BIB)V"), (133, u "toCharArray"), (0, u "()[C"), (53, u "([C)V"), (36, .methodref 550 493), (0, .fieldref 550 1049), (0, .nameAndType 1050 26), (0, u "maybeLatin1"), (2, .fieldref 1054 1055), (0, .class_ 1056), (0, .nameAndType 1057 1058), (0, u "jdk/internal/util/Preconditions"), (0, u "SIOOBE_FORMATTER"), (0, u "Ljava/util/function/BiFunction;"), (0, .methodref 1054 1060), (0, .nameAndType 501 1061), (0, u "(IILjava/util/function/BiFunction;)I"), (2, u "(IIILjava/util/function/BiFunction;)I"), (0, .methodref 1054 1066), (0, .nameAndType 1067 1064), (0, u "checkFromIndexSize"), (33, u "serialPersistentFields"), (0, u "[Ljava/io/ObjectStreamField;"), (0, .class_ 1104), (0, u "java/lang/String$CaseInsensitiveComparator"), (1, .class_ 1107), (0, u "java/io/Serializable"), (0, .class_ 1109), (0, u "java/lang/Comparable"), (0, .class_ 1111), (0, u "java/lang/constant/Constable"), (0, .class_ 1113), (0, u "java/lang/constant/ConstantDesc"), (2, u "serialVersionUID"), (0, u "J"), (3, u "REPL"), (0, u "C"), (2, u "LATIN1"), (1, u "UTF16"), (105, u "(Ljava/lang/StringBuilder;)V")] 217

def k7m0 : Method := { name := "<init>", desc := "()V", sig := { parameters := [], returnType := none }, accessFlags := 1, code := none }
def k7c1 : Code := { maxStack := 5, maxLocals := 2, code := jdk_42_method_3_code, exceptionTable := #[], attributes := #[] }
def k7m1 : Method := { name := "<init>", desc := "([C)V", sig := { parameters := [(.array .char)], returnType := none }, accessFlags := 1, code := some k7c1 }
def k7c2 : Code := { maxStack := 3, maxLocals := 2, code := jdk_42_method_53_code, exceptionTable := #[], attributes := #[] }
def k7m2 : Method := { name := "<init>", desc := "(Ljava/lang/StringBuilder;)V", sig := { parameters := [(.object "java/lang/StringBuilder")], returnType := none }, accessFlags := 1, code := some k7c2 }
def k7c3 : Code := { maxStack := 2, maxLocals := 1, code := jdk_42_method_54_code, exceptionTable := #[], attributes := #[] }
def k7m3 : Method := { name := "length", desc := "()I", sig := { parameters := [], returnType := some .int }, accessFlags := 1, code := some k7c3 }
def k7c4 : Code := { maxStack := 2, maxLocals := 2, code := jdk_42_method_56_code, exceptionTable := #[], attributes := #[] }
def k7m4 : Method := { name := "charAt", desc := "(I)C", sig := { parameters := [.int], returnType := some .char }, accessFlags := 1, code := some k7c4 }
def k7c5 : Code := { maxStack := 1, maxLocals := 1, code := jdk_42_method_129_code, exceptionTable := #[], attributes := #[] }
def k7m5 : Method := { name := "toCharArray", desc := "()[C", sig := { parameters := [], returnType := some (.array .char) }, accessFlags := 1, code := some k7c5 }
def k7c6 : Code := { maxStack := 5, maxLocals := 4, code := jdk_42_method_147_code, exceptionTable := #[], attributes := #[] }
def k7m6 : Method := { name := "getBytes", desc := "([BIB)V", sig := { parameters := [(.array .byte), .int, .byte], returnType := none }, accessFlags := 0, code := some k7c6 }
def k7c7 : Code := { maxStack := 4, maxLocals := 6, code := jdk_42_method_149_code, exceptionTable := #[], attributes := #[] }
def k7m7 : Method := { name := "<init>", desc := "([CIILjava/lang/Void;)V", sig := { parameters := [(.array .char), .int, .int, (.object "java/lang/Void")], returnType := none }, accessFlags := 2, code := some k7c7 }
def k7c8 : Code := { maxStack := 5, maxLocals := 5, code := jdk_42_method_150_code, exceptionTable := #[], attributes := #[] }
def k7m8 : Method := { name := "<init>", desc := "(Ljava/lang/AbstractStringBuilder;Ljava/lang/Void;)V", sig := { parameters := [(.object "java/lang/AbstractStringBuilder"), (.object "java/lang/Void")], returnType := none }, accessFlags := 0, code := some k7c8 }
def k7c9 : Code := { maxStack := 1, maxLocals := 1, code := jdk_42_method_152_code, exceptionTable := #[], attributes := #[] }
def k7m9 : Method := { name := "coder", desc := "()B", sig := { parameters := [], returnType := some .byte }, accessFlags := 0, code := some k7c9 }
def k7c10 : Code := { maxStack := 1, maxLocals := 1, code := jdk_42_method_154_code, exceptionTable := #[], attributes := #[] }
def k7m10 : Method := { name := "isLatin1", desc := "()Z", sig := { parameters := [], returnType := some .boolean }, accessFlags := 0, code := some k7c10 }
def k7c11 : Code := { maxStack := 3, maxLocals := 2, code := jdk_42_method_155_code, exceptionTable := #[], attributes := #[] }
def k7m11 : Method := { name := "checkIndex", desc := "(II)V", sig := { parameters := [.int, .int], returnType := none }, accessFlags := 8, code := some k7c11 }
def k7c12 : Code := { maxStack := 4, maxLocals := 3, code := jdk_42_method_157_code, exceptionTable := #[], attributes := #[] }
def k7m12 : Method := { name := "checkBoundsOffCount", desc := "(III)I", sig := { parameters := [.int, .int, .int], returnType := some .int }, accessFlags := 8, code := some k7c12 }
/-- java/lang/String -/
def k7 : Class := { plain "java/lang/String" (some 0) with
  accessFlags := 49
  interfaces := #[2, 3, 4, 5, 6]
  cf := some (fileOf pool7 10 #[.nestMembers #[1103]] #[⟨1, 5, 6, #[]⟩, ⟨1, 5, 1010, #[]⟩, ⟨1, 5, 1233, #[]⟩, ⟨1, 507, 334, #[]⟩, ⟨1, 497, 427, #[]⟩, ⟨1, 955, 956, #[]⟩, ⟨0, 532, 821, #[]⟩, ⟨2, 5, 29, #[]⟩, ⟨0, 5, 491, #[]⟩, ⟨0, 17, 337, #[]⟩, ⟨0, 494, 142, #[]⟩, ⟨8, 501, 391, #[]⟩, ⟨8, 36, 37, #[]⟩] 49 2 #[1106, 1108, 575, 1110, 1112] #[⟨18, 13, 14, #[]⟩, ⟨18, 17, 18, #[]⟩, ⟨2, 21, 22, #[]⟩, ⟨2, 25, 26, #[]⟩, ⟨26, 1116, 1117, #[]⟩, ⟨24, 40, 26, #[]⟩, ⟨26, 1101, 1102, #[]⟩, ⟨26, 1121, 1122, #[]⟩, ⟨25, 599, 600, #[]⟩, ⟨24, 1125, 18, #[]⟩, ⟨24, 1127, 18, #[]⟩])
  fields := #[{ name := "value", type := (.array .byte), accessFlags := 18, slot := 0, constantValue := 0 }, { name := "coder", type := .byte, accessFlags := 18, slot := 1, constantValue := 0 }, { name := "hash", type := .int, accessFlags := 2, slot := 2, constantValue := 0 }, { name := "hashIsZero", type := .boolean, accessFlags := 2, slot := 3, constantValue := 0 }, { name := "serialVersionUID", type := .long, accessFlags := 26, slot := 0, constantValue := 0 }, { name := "COMPACT_STRINGS", type := .boolean, accessFlags := 24, slot := 1, constantValue := 0 }, { name := "serialPersistentFields", type := (.array (.object "java/io/ObjectStreamField")), accessFlags := 26, slot := 2, constantValue := 0 }, { name := "REPL", type := .char, accessFlags := 26, slot := 3, constantValue := 0 }, { name := "CASE_INSENSITIVE_ORDER", type := (.object "java/util/Comparator"), accessFlags := 25, slot := 4, constantValue := 0 }, { name := "LATIN1", type := .byte, accessFlags := 24, slot := 5, constantValue := 0 }, { name := "UTF16", type := .byte, accessFlags := 24, slot := 6, constantValue := 0 }]
  methods := #[k7m0, k7m1, k7m2, k7m3, k7m4, k7m5, k7m6, k7m7, k7m8, k7m9, k7m10, k7m11, k7m12]
  instanceTypes := #[(.array .byte), .byte, .int, .boolean]
  staticTypes := #[.long, .boolean, (.array (.object "java/io/ObjectStreamField")), .char, (.object "java/util/Comparator"), .byte, .byte]
  resolved := Array.replicate 1451 none
  statics := some 0 }

def pool8 : Array CpInfo := pool [(2, .class_ 4), (1, u "java/lang/Object"), (0, u "<init>"), (0, u "()V"), (65, u "()Ljava/lang/String;"), (4, u "append"), (17, .class_ 97), (1, u "com/example/aligned_index/alignedindex/inspect/Inspector"), (0, u "escape"), (0, u "(Ljava/lang/String;)Ljava/lang/String;"), (7, .class_ 108), (0, u "java/lang/StringBuilder"), (0, .methodref 110 111), (0, .class_ 112), (0, .nameAndType 113 114), (0, u "java/lang/String"), (0, u "length"), (0, u "()I"), (0, .methodref 107 116), (0, .nameAndType 5 117), (0, u "(I)V"), (0, .methodref 110 119), (0, .nameAndType 120 121), (0, u "toCharArray"), (0, u "()[C"), (0, .string 123), (0, u "\\\\"), (0, .methodref 107 125), (0, .nameAndType 77 126), (0, u "(Ljava/lang/String;)Ljava/lang/StringBuilder;"), (0, .string 128), (0, u "\\t"), (0, .string 130), (0, u "\\n"), (0, .string 132), (0, u "\\r"), (0, .methodref 107 134), (0, .nameAndType 77 135), (0, u "(C)Ljava/lang/StringBuilder;"), (0, .methodref 107 137), (0, .nameAndType 138 72), (0, u "toString")] 34

def k8m0 : Method := { name := "<init>", desc := "()V", sig := { parameters := [], returnType := none }, accessFlags := 2, code := none }
def k8c1 : Code := { maxStack := 3, maxLocals := 6, code := prog_22_method_4_code, exceptionTable := #[], attributes := #[] }
def k8m1 : Method := { name := "escape", desc := "(Ljava/lang/String;)Ljava/lang/String;", sig := { parameters := [(.object "java/lang/String")], returnType := some (.object "java/lang/String") }, accessFlags := 9, code := some k8c1 }
/-- com/example/aligned_index/alignedindex/inspect/Inspector -/
def k8 : Class := { plain "com/example/aligned_index/alignedindex/inspect/Inspector" (some 0) with
  accessFlags := 33
  interfaces := #[]
  cf := some (fileOf pool8 95 #[] #[⟨2, 5, 6, #[]⟩, ⟨9, 98, 99, #[]⟩] 33 2 #[] #[])
  fields := #[]
  methods := #[k8m0, k8m1]
  instanceTypes := #[]
  staticTypes := #[]
  resolved := Array.replicate 173 none
  statics := none }

def pool9 : Array CpInfo := pool [(1, .class_ 2), (0, u "java/lang/Appendable"), (0, .class_ 4), (0, u "java/lang/Object")] 9

/-- java/lang/Appendable -/
def k9 : Class := { plain "java/lang/Appendable" (some 0) with
  accessFlags := 1537
  interfaces := #[]
  cf := some (fileOf pool9 1 #[] #[] 1537 3 #[] #[])
  fields := #[]
  methods := #[]
  instanceTypes := #[]
  staticTypes := #[]
  resolved := Array.replicate 14 none
  statics := none }

def pool10 : Array CpInfo := pool [(1, .class_ 2), (0, u "java/lang/String"), (0, .methodref 4 5), (0, .class_ 6), (0, .nameAndType 7 8), (0, u "java/lang/Object"), (0, u "<init>"), (0, u "()V"), (1, .class_ 12), (1, u "java/lang/AbstractStringBuilder"), (0, u "EMPTYVALUE"), (0, u "[B"), (0, .fieldref 10 16), (0, .nameAndType 17 14), (0, u "value"), (0, .fieldref 1 19), (0, .nameAndType 20 21), (0, u "COMPACT_STRINGS"), (0, u "Z"), (0, .fieldref 10 23), (0, .nameAndType 24 25), (0, u "coder"), (0, u "B"), (0, .methodref 27 28), (0, .class_ 29), (0, .nameAndType 30 31), (0, u "java/lang/StringUTF16"), (0, u "newBytesFor"), (0, u "(I)[B"), (0, .methodref 1 33), (0, .nameAndType 34 35), (0, u "length"), (0, u "()I"), (3, .integer 2147483647), (0, .methodref 1 41), (0, .nameAndType 24 42), (0, u "()B"), (2, u "append"), (0, u "(Ljava/lang/String;)Ljava/lang/AbstractStringBuilder;"), (1, .class_ 49), (0, u "java/lang/CharSequence"), (19, u "(Ljava/lang/String;)V"), (5, u "maybeLatin1"), (3, .fieldref 10 80), (0, .nameAndType 81 82), (0, u "count"), (0, u "I"), (0, .methodref 10 84), (0, .nameAndType 85 86), (0, u "isLatin1"), (0, u "()Z"), (1, .class_ 90), (1, u "java/lang/StringLatin1"), (9, .methodref 10 101), (0, .nameAndType 102 103), (0, u "ensureCapacityInternal"), (0, u "(I)V"), (0, .methodref 10 105), (0, .nameAndType 106 107), (0, u "newCapacity"), (0, u "(I)I"), (0, .methodref 109 110), (0, .class_ 111), (0, .nameAndType 112 113), (0, u "java/util/Arrays"), (0, u "copyOf"), (0, u "([BI)[B"), (0, .methodref 115 116), (0, .class_ 117), (0, .nameAndType 118 119), (0, u "jdk/internal/util/ArraysSupport"), (0, u "newLength"), (0, u "(III)I"), (5, .methodref 88 126), (0, .nameAndType 127 128), (0, u "inflate"), (0, u "([BI[BII)V"), (7, u "([BII)V"), (54, .methodref 88 192), (0, .nameAndType 193 194), (0, u "canEncode"), (0, u "(C)Z"), (0, .methodref 10 196), (0, .nameAndType 127 8), (0, .methodref 27 198), (0, .nameAndType 199 136), (0, u "putCharSB"), (8, .methodref 10 209), (0, .nameAndType 210 211), (0, u "putStringAt"), (0, u "(ILjava/lang/String;)V"), (5, u "inflateIfNeededFor"), (2, .nameAndType 221 222), (0, u "getBytes"), (0, u "([BIB)V"), (69, u "(C)Ljava/lang/AbstractStringBuilder;"), (104, .methodref 10 398), (0, .nameAndType 217 69), (0, .methodref 1 220), (3, u "()[B"), (40, .class_ 445), (0, u "java/lang/Appendable"), (106, u "getValue")] 56

def k10m0 : Method := { name := "<init>", desc := "()V", sig := { parameters := [], returnType := none }, accessFlags := 0, code := none }
def k10c1 : Code := { maxStack := 2, maxLocals := 2, code := jdk_68_method_2_code, exceptionTable := #[], attributes := #[] }
def k10m1 : Method := { name := "<init>", desc := "(I)V", sig := { parameters := [.int], returnType := none }, accessFlags := 0, code := some k10c1 }
def k10c2 : Code := { maxStack := 1, maxLocals := 1, code := jdk_68_method_6_code, exceptionTable := #[], attributes := #[] }
def k10m2 : Method := { name := "length", desc := "()I", sig := { parameters := [], returnType := some .int }, accessFlags := 1, code := some k10c2 }
def k10c3 : Code := { maxStack := 4, maxLocals := 3, code := jdk_68_method_9_code, exceptionTable := #[], attributes := #[] }
def k10m3 : Method := { name := "ensureCapacityInternal", desc := "(I)V", sig := { parameters := [.int], returnType := none }, accessFlags := 2, code := some k10c3 }
def k10c4 : Code := { maxStack := 5, maxLocals := 6, code := jdk_68_method_10_code, exceptionTable := #[], attributes := #[] }
def k10m4 : Method := { name := "newCapacity", desc := "(I)I", sig := { parameters := [.int], returnType := some .int }, accessFlags := 2, code := some k10c4 }
def k10c5 : Code := { maxStack := 5, maxLocals := 2, code := jdk_68_method_11_code, exceptionTable := #[], attributes := #[] }
def k10m5 : Method := { name := "inflate", desc := "()V", sig := { parameters := [], returnType := none }, accessFlags := 2, code := some k10c5 }
def k10c6 : Code := { maxStack := 3, maxLocals := 3, code := jdk_68_method_22_code, exceptionTable := #[], attributes := #[] }
def k10m6 : Method := { name := "append", desc := "(Ljava/lang/String;)Ljava/lang/AbstractStringBuilder;", sig := { parameters := [(.object "java/lang/String")], returnType := some (.object "java/lang/AbstractStringBuilder") }, accessFlags := 1, code := some k10c6 }
def k10c7 : Code := { maxStack := 5, maxLocals := 2, code := jdk_68_method_31_code, exceptionTable := #[], attributes := #[] }
def k10m7 : Method := { name := "append", desc := "(C)Ljava/lang/AbstractStringBuilder;", sig := { parameters := [.char], returnType := some (.object "java/lang/AbstractStringBuilder") }, accessFlags := 1, code := some k10c7 }
def k10c8 : Code := { maxStack := 1, maxLocals := 1, code := jdk_68_method_64_code, exceptionTable := #[], attributes := #[] }
def k10m8 : Method := { name := "getValue", desc := "()[B", sig := { parameters := [], returnType := some (.array .byte) }, accessFlags := 16, code := some k10c8 }
def k10c9 : Code := { maxStack := 1, maxLocals := 1, code := jdk_68_method_68_code, exceptionTable := #[], attributes := #[] }
def k10m9 : Method := { name := "isLatin1", desc := "()Z", sig := { parameters := [], returnType := some .boolean }, accessFlags := 16, code := some k10c9 }
def k10c10 : Code := { maxStack := 2, maxLocals := 2, code := jdk_68_method_71_code, exceptionTable := #[], attributes := #[] }
def k10m10 : Method := { name := "inflateIfNeededFor", desc := "(Ljava/lang/String;)V", sig := { parameters := [(.object "java/lang/String")], returnType := none }, accessFlags := 2, code := some k10c10 }
def k10c11 : Code := { maxStack := 4, maxLocals := 3, code := jdk_68_method_73_code, exceptionTable := #[], attributes := #[] }
def k10m11 : Method := { name := "putStringAt", desc := "(ILjava/lang/String;)V", sig := { parameters := [.int, (.object "java/lang/String")], returnType := none }, accessFlags := 2, code := some k10c11 }
/-- java/lang/AbstractStringBuilder -/
def k10 : Class := { plain "java/lang/AbstractStringBuilder" (some 0) with
  accessFlags := 1056
  interfaces := #[9, 4]
  cf := some (fileOf pool10 10 #[] #[⟨0, 7, 8, #[]⟩, ⟨0, 7, 103, #[]⟩, ⟨1, 34, 35, #[]⟩, ⟨2, 102, 103, #[]⟩, ⟨2, 106, 107, #[]⟩, ⟨2, 127, 8, #[]⟩, ⟨1, 45, 46, #[]⟩, ⟨1, 45, 292, #[]⟩, ⟨16, 552, 403, #[]⟩, ⟨16, 85, 86, #[]⟩, ⟨2, 217, 69, #[]⟩, ⟨2, 210, 211, #[]⟩] 1056 4 #[444, 48] #[⟨0, 17, 14, #[]⟩, ⟨0, 24, 25, #[]⟩, ⟨0, 75, 21, #[]⟩, ⟨0, 81, 82, #[]⟩, ⟨26, 13, 14, #[]⟩])
  fields := #[{ name := "value", type := (.array .byte), accessFlags := 0, slot := 0, constantValue := 0 }, { name := "coder", type := .byte, accessFlags := 0, slot := 1, constantValue := 0 }, { name := "maybeLatin1", type := .boolean, accessFlags := 0, slot := 2, constantValue := 0 }, { name := "count", type := .int, accessFlags := 0, slot := 3, constantValue := 0 }, { name := "EMPTYVALUE", type := (.array .byte), accessFlags := 26, slot := 0, constantValue := 0 }]
  methods := #[k10m0, k10m1, k10m2, k10m3, k10m4, k10m5, k10m6, k10m7, k10m8, k10m9, k10m10, k10m11]
  instanceTypes := #[(.array .byte), .byte, .boolean, .int]
  staticTypes := #[(.array .byte)]
  resolved := Array.replicate 609 none
  statics := none }

def pool11 : Array CpInfo := pool [(1, .methodref 2 3), (0, .class_ 4), (0, .nameAndType 5 6), (0, u "java/lang/AbstractStringBuilder"), (0, u "<init>"), (0, u "(I)V"), (11, .class_ 20), (1, u "java/lang/String"), (3, .class_ 26), (1, u "java/lang/StringBuilder"), (0, u "append"), (0, u "(Ljava/lang/String;)Ljava/lang/StringBuilder;"), (0, .methodref 2 30), (0, .nameAndType 27 31), (0, u "(Ljava/lang/String;)Ljava/lang/AbstractStringBuilder;"), (18, .methodref 2 51), (0, .nameAndType 27 52), (0, u "(C)Ljava/lang/AbstractStringBuilder;"), (84, .methodref 18 138), (0, .nameAndType 5 139), (0, u "(Ljava/lang/StringBuilder;)V"), (5, u "()V"), (10, u "()I"), (129, u "(C)Ljava/lang/StringBuilder;"), (56, .methodref 2 344), (0, .nameAndType 345 156), (0, u "length"), (3, .class_ 350), (0, u "java/lang/Appendable"), (0, .class_ 352), (0, u "java/io/Serializable"), (0, .class_ 354), (0, u "java/lang/Comparable"), (0, .class_ 356), (0, u "java/lang/CharSequence"), (0, u "serialVersionUID"), (0, u "J"), (40, u "toString"), (0, u "()Ljava/lang/String;")] 21

def k11m0 : Method := { name := "<init>", desc := "()V", sig := { parameters := [], returnType := none }, accessFlags := 1, code := none }
def k11c1 : Code := { maxStack := 2, maxLocals := 2, code := jdk_67_method_2_code, exceptionTable := #[], attributes := #[] }
def k11m1 : Method := { name := "<init>", desc := "(I)V", sig := { parameters := [.int], returnType := none }, accessFlags := 1, code := some k11c1 }
def k11c2 : Code := { maxStack := 2, maxLocals := 2, code := jdk_67_method_7_code, exceptionTable := #[], attributes := #[] }
def k11m2 : Method := { name := "append", desc := "(Ljava/lang/String;)Ljava/lang/StringBuilder;", sig := { parameters := [(.object "java/lang/String")], returnType := some (.object "java/lang/StringBuilder") }, accessFlags := 1, code := some k11c2 }
def k11c3 : Code := { maxStack := 2, maxLocals := 2, code := jdk_67_method_14_code, exceptionTable := #[], attributes := #[] }
def k11m3 : Method := { name := "append", desc := "(C)Ljava/lang/StringBuilder;", sig := { parameters := [.char], returnType := some (.object "java/lang/StringBuilder") }, accessFlags := 1, code := some k11c3 }
def k11c4 : Code := { maxStack := 3, maxLocals := 1, code := jdk_67_method_42_code, exceptionTable := #[], attributes := #[] }
def k11m4 : Method := { name := "toString", desc := "()Ljava/lang/String;", sig := { parameters := [], returnType := some (.object "java/lang/String") }, accessFlags := 1, code := some k11c4 }
def k11c5 : Code := { maxStack := 1, maxLocals := 1, code := jdk_67_method_93_code, exceptionTable := #[], attributes := #[] }
def k11m5 : Method := { name := "length", desc := "()I", sig := { parameters := [], returnType := some .int }, accessFlags := 4161, code := some k11c5 }
/-- java/lang/StringBuilder -/
def k11 : Class := { plain "java/lang/StringBuilder" (some 10) with
  accessFlags := 49
  interfaces := #[9, 2, 3, 4]
  cf := some (fileOf pool11 24 #[] #[⟨1, 5, 145, #[]⟩, ⟨1, 5, 6, #[]⟩, ⟨1, 27, 28, #[]⟩, ⟨1, 27, 286, #[]⟩, ⟨1, 399, 400, #[]⟩, ⟨4161, 345, 156, #[]⟩] 49 2 #[349, 351, 353, 355] #[⟨24, 357, 358, #[]⟩])
  fields := #[{ name := "serialVersionUID", type := .long, accessFlags := 24, slot := 0, constantValue := 0 }]
  methods := #[k11m0, k11m1, k11m2, k11m3, k11m4, k11m5]
  instanceTypes := #[(.array .byte), .byte, .boolean, .int]
  staticTypes := #[.long]
  resolved := Array.replicate 422 none
  statics := none }

def pool12 : Array CpInfo := pool [(1, .class_ 2), (0, u "java/lang/String"), (1, .class_ 6), (1, u "java/lang/Object"), (0, u "<init>"), (0, u "()V"), (0, .methodref 1 10), (0, .nameAndType 11 12), (0, u "checkIndex"), (0, u "(II)V"), (0, .methodref 14 15), (0, .class_ 16), (0, .nameAndType 17 18), (0, u "java/lang/StringLatin1"), (0, u "inflate"), (0, u "([BI[CII)V"), (1, .class_ 22), (1, u "java/lang/StringUTF16"), (3, .nameAndType 17 27), (0, u "([BI[BII)V"), (25, u "([BI)C"), (36, u "canEncode"), (14, u "(C)Z"), (15, u "$assertionsDisabled"), (0, u "Z"), (69, u "toChars"), (28, .class_ 223), (1, u "java/lang/StringLatin1$LinesSpliterator"), (16, .methodref 20 26), (11, u "charAt"), (15, u "([B)[C"), (121, .class_ 391), (0, u "java/lang/StringLatin1$CharsSpliterator")] 3

def k12m0 : Method := { name := "<init>", desc := "()V", sig := { parameters := [], returnType := none }, accessFlags := 0, code := none }
def k12c1 : Code := { maxStack := 2, maxLocals := 2, code := jdk_43_method_2_code, exceptionTable := #[], attributes := #[] }
def k12m1 : Method := { name := "charAt", desc := "([BI)C", sig := { parameters := [(.array .byte), .int], returnType := some .char }, accessFlags := 9, code := some k12c1 }
def k12c2 : Code := { maxStack := 2, maxLocals := 1, code := jdk_43_method_3_code, exceptionTable := #[], attributes := #[] }
def k12m2 : Method := { name := "canEncode", desc := "(C)Z", sig := { parameters := [.char], returnType := some .boolean }, accessFlags := 9, code := some k12c2 }
def k12c3 : Code := { maxStack := 5, maxLocals := 2, code := jdk_43_method_9_code, exceptionTable := #[], attributes := #[] }
def k12m3 : Method := { name := "toChars", desc := "([B)[C", sig := { parameters := [(.array .byte)], returnType := some (.array .char) }, accessFlags := 9, code := some k12c3 }
def k12c4 : Code := { maxStack := 4, maxLocals := 6, code := jdk_43_method_49_code, exceptionTable := #[], attributes := #[] }
def k12m4 : Method := { name := "inflate", desc := "([BI[CII)V", sig := { parameters := [(.array .byte), .int, (.array .char), .int, .int], returnType := none }, accessFlags := 9, code := some k12c4 }
def k12c5 : Code := { maxStack := 5, maxLocals := 5, code := jdk_43_method_50_code, exceptionTable := #[], attributes := #[] }
def k12m5 : Method := { name := "inflate", desc := "([BI[BII)V", sig := { parameters := [(.array .byte), .int, (.array .byte), .int, .int], returnType := none }, accessFlags := 9, code := some k12c5 }
/-- java/lang/StringLatin1 -/
def k12 : Class := { plain "java/lang/StringLatin1" (some 0) with
  accessFlags := 48
  interfaces := #[]
  cf := some (fileOf pool12 14 #[.nestMembers #[390, 221]] #[⟨0, 7, 8, #[]⟩, ⟨9, 252, 53, #[]⟩, ⟨9, 90, 105, #[]⟩, ⟨9, 192, 268, #[]⟩, ⟨9, 17, 18, #[]⟩, ⟨9, 17, 27, #[]⟩] 48 4 #[] #[⟨4120, 121, 122, #[]⟩])
  fields := #[{ name := "$assertionsDisabled", type := .boolean, accessFlags := 4120, slot := 0, constantValue := 0 }]
  methods := #[k12m0, k12m1, k12m2, k12m3, k12m4, k12m5]
  instanceTypes := #[]
  staticTypes := #[.boolean]
  resolved := Array.replicate 395 none
  statics := none }

def pool13 : Array CpInfo := pool [(2, .class_ 4), (1, u "java/lang/Object"), (0, u "<init>"), (0, u "()V"), (7, .class_ 16), (1, u "java/util/Arrays"), (57, .class_ 76), (1, u "java/util/Arrays$NaturalOrder"), (32, u "()Ljava/lang/Object;"), (3, .class_ 115), (1, u "java/util/Arrays$LegacyMergeSort"), (1, u "Z"), (10, .nameAndType 129 109), (0, u "clone"), (9, u "copyOfRange"), (10, .methodref 151 152), (0, .class_ 153), (0, .nameAndType 154 155), (0, u "java/lang/System"), (0, u "arraycopy"), (0, u "(Ljava/lang/Object;ILjava/lang/Object;II)V"), (146, u "copyOf"), (1, .methodref 305 306), (0, .class_ 307), (0, .nameAndType 308 309), (0, u "java/lang/Math"), (0, u "min"), (0, u "(II)I"), (0, .methodref 311 128), (0, .class_ 312), (0, u "[B"), (26, .methodref 14 340), (0, .nameAndType 341 342), (0, u "copyOfRangeByte"), (0, u "([BII)[B"), (0, .methodref 14 344), (0, .nameAndType 345 346), (0, u "checkLength"), (0, u "(II)V"), (28, .class_ 376), (0, u "java/util/Arrays$ArrayList"), (68, u "$assertionsDisabled"), (269, u "MIN_ARRAY_SORT_GRAN"), (0, u "I"), (2, u "INSERTIONSORT_THRESHOLD"), (149, u "([BI)[B"), (105, .class_ 976), (0, u "java/util/Arrays$ArrayItr")] 52

def k13m0 : Method := { name := "<init>", desc := "()V", sig := { parameters := [], returnType := none }, accessFlags := 2, code := none }
def k13c1 : Code := { maxStack := 6, maxLocals := 3, code := jdk_65_method_121_code, exceptionTable := #[], attributes := #[] }
def k13m1 : Method := { name := "copyOf", desc := "([BI)[B", sig := { parameters := [(.array .byte), .int], returnType := some (.array .byte) }, accessFlags := 9, code := some k13c1 }
def k13c2 : Code := { maxStack := 4, maxLocals := 2, code := jdk_65_method_131_code, exceptionTable := #[], attributes := #[] }
def k13m2 : Method := { name := "checkLength", desc := "(II)V", sig := { parameters := [.int, .int], returnType := none }, accessFlags := 10, code := some k13c2 }
def k13c3 : Code := { maxStack := 3, maxLocals := 3, code := jdk_65_method_132_code, exceptionTable := #[], attributes := #[] }
def k13m3 : Method := { name := "copyOfRange", desc := "([BII)[B", sig := { parameters := [(.array .byte), .int, .int], returnType := some (.array .byte) }, accessFlags := 9, code := some k13c3 }
def k13c4 : Code := { maxStack := 6, maxLocals := 5, code := jdk_65_method_133_code, exceptionTable := #[], attributes := #[] }
def k13m4 : Method := { name := "copyOfRangeByte", desc := "([BII)[B", sig := { parameters := [(.array .byte), .int, .int], returnType := some (.array .byte) }, accessFlags := 10, code := some k13c4 }
/-- java/util/Arrays -/
def k13 : Class := { plain "java/util/Arrays" (some 0) with
  accessFlags := 49
  interfaces := #[]
  cf := some (fileOf pool13 14 #[.nestMembers #[975, 375, 113, 74]] #[⟨2, 5, 6, #[]⟩, ⟨9, 302, 869, #[]⟩, ⟨10, 345, 346, #[]⟩, ⟨9, 139, 342, #[]⟩, ⟨10, 341, 342, #[]⟩] 49 2 #[] #[⟨26, 715, 716, #[]⟩, ⟨26, 719, 716, #[]⟩, ⟨4120, 445, 117, #[]⟩])
  fields := #[{ name := "MIN_ARRAY_SORT_GRAN", type := .int, accessFlags := 26, slot := 0, constantValue := 0 }, { name := "INSERTIONSORT_THRESHOLD", type := .int, accessFlags := 26, slot := 1, constantValue := 0 }, { name := "$assertionsDisabled", type := .boolean, accessFlags := 4120, slot := 2, constantValue := 0 }]
  methods := #[k13m0, k13m1, k13m2, k13m3, k13m4]
  instanceTypes := #[]
  staticTypes := #[.int, .int, .boolean]
  resolved := Array.replicate 1029 none
  statics := none }

def pool14 : Array CpInfo := pool [(1, .class_ 2), (0, u "java/lang/Cloneable"), (0, .class_ 4), (0, u "java/lang/Object")] 2

/-- java/lang/Cloneable -/
def k14 : Class := { plain "java/lang/Cloneable" (some 0) with
  accessFlags := 1537
  interfaces := #[]
  cf := some (fileOf pool14 1 #[] #[] 1537 3 #[] #[])
  fields := #[]
  methods := #[]
  instanceTypes := #[]
  staticTypes := #[]
  resolved := Array.replicate 7 none
  statics := none }

def pool15 : Array CpInfo := pool [(3, .class_ 4), (0, u "java/lang/String"), (1, .class_ 8), (1, u "java/lang/Object"), (0, u "<init>"), (0, u "()V"), (0, .methodref 12 13), (0, .class_ 14), (0, .nameAndType 15 16), (0, u "java/lang/StringUTF16"), (0, u "newBytesLength"), (0, u "(I)I"), (3, .integer 1073741823), (23, .fieldref 12 45), (0, .nameAndType 46 47), (0, u "$assertionsDisabled"), (0, u "Z"), (0, .methodref 12 49), (0, .nameAndType 50 51), (0, u "length"), (0, u "([B)I"), (7, .fieldref 12 60), (0, .nameAndType 61 62), (0, u "HI_BYTE_SHIFT"), (0, u "I"), (0, .fieldref 12 64), (0, .nameAndType 65 62), (0, u "LO_BYTE_SHIFT"), (1, .methodref 12 68), (0, .nameAndType 69 70), (0, u "checkIndex"), (0, u "(I[B)V"), (0, .methodref 12 72), (0, .nameAndType 73 74), (0, u "getChar"), (0, u "([BI)C"), (24, u "(II[B)V"), (3, .methodref 12 104), (0, .nameAndType 105 106), (0, u "getChars"), (0, u "([BII[CI)V"), (0, .methodref 12 108), (0, .nameAndType 109 110), (0, u "newBytesFor"), (0, u "(I)[B"), (0, .methodref 12 112), (0, .nameAndType 113 114), (0, u "putChar"), (0, u "([BII)V"), (0, .methodref 12 116), (0, .nameAndType 117 118), (0, u "compress"), (0, u "([CI[BII)I"), (0, .methodref 12 120), (0, .nameAndType 121 122), (0, u "toBytes"), (0, u "([CII)[B"), (17, u "inflate"), (0, u "([BI[BII)V"), (31, .methodref 12 174), (0, .nameAndType 175 99), (0, u "checkBoundsOffCount"), (85, u "coderFromArrayLen"), (0, u "([BI)B"), (18, u "(III)I"), (60, u "toChars"), (26, .class_ 371), (1, u "java/lang/StringUTF16$LinesSpliterator"), (20, u "charAt"), (21, .methodref 3 415), (0, .nameAndType 69 416), (0, u "(II)V"), (2, .methodref 3 420), (0, .nameAndType 175 281), (9, u "MAX_LENGTH"), (23, u "([B)[C"), (131, u "putCharSB"), (40, .class_ 628), (0, u "java/lang/StringUTF16$CodePointsSpliterator"), (0, .class_ 630), (0, u "java/lang/StringUTF16$CharsSpliterator")] 4

def k15m0 : Method := { name := "<init>", desc := "()V", sig := { parameters := [], returnType := none }, accessFlags := 0, code := none }
def k15c1 : Code := { maxStack := 1, maxLocals := 1, code := jdk_52_method_2_code, exceptionTable := #[], attributes := #[] }
def k15m1 : Method := { name := "newBytesFor", desc := "(I)[B", sig := { parameters := [.int], returnType := some (.array .byte) }, accessFlags := 9, code := some k15c1 }
def k15c2 : Code := { maxStack := 4, maxLocals := 1, code := jdk_52_method_3_code, exceptionTable := #[], attributes := #[] }
def k15m2 : Method := { name := "newBytesLength", desc := "(I)I", sig := { parameters := [.int], returnType := some .int }, accessFlags := 9, code := some k15c2 }
def k15c3 : Code := { maxStack := 4, maxLocals := 3, code := jdk_52_method_4_code, exceptionTable := #[], attributes := #[] }
def k15m3 : Method := { name := "putChar", desc := "([BII)V", sig := { parameters := [(.array .byte), .int, .int], returnType := none }, accessFlags := 8, code := some k15c3 }
def k15c4 : Code := { maxStack := 3, maxLocals := 2, code := jdk_52_method_5_code, exceptionTable := #[], attributes := #[] }
def k15m4 : Method := { name := "getChar", desc := "([BI)C", sig := { parameters := [(.array .byte), .int], returnType := some .char }, accessFlags := 8, code := some k15c4 }
def k15c5 : Code := { maxStack := 2, maxLocals := 1, code := jdk_52_method_6_code, exceptionTable := #[], attributes := #[] }
def k15m5 : Method := { name := "length", desc := "([B)I", sig := { parameters := [(.array .byte)], returnType := some .int }, accessFlags := 9, code := some k15c5 }
def k15c6 : Code := { maxStack := 5, maxLocals := 2, code := jdk_52_method_13_code, exceptionTable := #[], attributes := #[] }
def k15m6 : Method := { name := "toChars", desc := "([B)[C", sig := { parameters := [(.array .byte)], returnType := some (.array .char) }, accessFlags := 9, code := some k15c6 }
def k15c7 : Code := { maxStack := 4, maxLocals := 5, code := jdk_52_method_14_code, exceptionTable := #[], attributes := #[] }
def k15m7 : Method := { name := "toBytes", desc := "([CII)[B", sig := { parameters := [(.array .char), .int, .int], returnType := some (.array .byte) }, accessFlags := 9, code := some k15c7 }
def k15c8 : Code := { maxStack := 2, maxLocals := 2, code := jdk_52_method_15_code, exceptionTable := #[], attributes := #[] }
def k15m8 : Method := { name := "coderFromArrayLen", desc := "([BI)B", sig := { parameters := [(.array .byte), .int], returnType := some .byte }, accessFlags := 8, code := some k15c8 }
def k15c9 : Code := { maxStack := 5, maxLocals := 6, code := jdk_52_method_16_code, exceptionTable := #[], attributes := #[] }
def k15m9 : Method := { name := "compress", desc := "([CII)[B", sig := { parameters := [(.array .char), .int, .int], returnType := some (.array .byte) }, accessFlags := 9, code := some k15c9 }
def k15c10 : Code := { maxStack := 3, maxLocals := 7, code := jdk_52_method_21_code, exceptionTable := #[], attributes := #[] }
def k15m10 : Method := { name := "compress", desc := "([CI[BII)I", sig := { parameters := [(.array .char), .int, (.array .byte), .int, .int], returnType := some .int }, accessFlags := 9, code := some k15c10 }
def k15c11 : Code := { maxStack := 4, maxLocals := 6, code := jdk_52_method_26_code, exceptionTable := #[], attributes := #[] }
def k15m11 : Method := { name := "getChars", desc := "([BII[CI)V", sig := { parameters := [(.array .byte), .int, .int, (.array .char), .int], returnType := none }, accessFlags := 9, code := some k15c11 }
def k15c12 : Code := { maxStack := 3, maxLocals := 3, code := jdk_52_method_71_code, exceptionTable := #[], attributes := #[] }
def k15m12 : Method := { name := "putCharSB", desc := "([BII)V", sig := { parameters := [(.array .byte), .int, .int], returnType := none }, accessFlags := 9, code := some k15c12 }
def k15c13 : Code := { maxStack := 2, maxLocals := 2, code := jdk_52_method_83_code, exceptionTable := #[], attributes := #[] }
def k15m13 : Method := { name := "charAt", desc := "([BI)C", sig := { parameters := [(.array .byte), .int], returnType := some .char }, accessFlags := 9, code := some k15c13 }
def k15c14 : Code := { maxStack := 4, maxLocals := 6, code := jdk_52_method_86_code, exceptionTable := #[], attributes := #[] }
def k15m14 : Method := { name := "inflate", desc := "([BI[BII)V", sig := { parameters := [(.array .byte), .int, (.array .byte), .int, .int], returnType := none }, accessFlags := 9, code := some k15c14 }
def k15c15 : Code := { maxStack := 2, maxLocals := 2, code := jdk_52_method_91_code, exceptionTable := #[], attributes := #[] }
def k15m15 : Method := { name := "checkIndex", desc := "(I[B)V", sig := { parameters := [.int, (.array .byte)], returnType := none }, accessFlags := 9, code := some k15c15 }
def k15c16 : Code := { maxStack := 3, maxLocals := 3, code := jdk_52_method_94_code, exceptionTable := #[], attributes := #[] }
def k15m16 : Method := { name := "checkBoundsOffCount", desc := "(II[B)V", sig := { parameters := [.int, .int, (.array .byte)], returnType := none }, accessFlags := 9, code := some k15c16 }
/-- java/lang/StringUTF16 -/
def k15 : Class := { plain "java/lang/StringUTF16" (some 0) with
  accessFlags := 48
  interfaces := #[]
  cf := some (fileOf pool15 12 #[.nestMembers #[627, 629, 369]] #[⟨0, 9, 10, #[]⟩, ⟨9, 109, 110, #[]⟩, ⟨9, 15, 16, #[]⟩, ⟨8, 113, 114, #[]⟩, ⟨8, 73, 74, #[]⟩, ⟨9, 50, 51, #[]⟩, ⟨9, 342, 454, #[]⟩, ⟨9, 121, 122, #[]⟩, ⟨8, 261, 262, #[]⟩, ⟨9, 117, 122, #[]⟩, ⟨9, 117, 118, #[]⟩, ⟨9, 105, 106, #[]⟩, ⟨9, 586, 114, #[]⟩, ⟨9, 392, 74, #[]⟩, ⟨9, 140, 141, #[]⟩, ⟨9, 69, 70, #[]⟩, ⟨9, 175, 99, #[]⟩] 48 6 #[] #[⟨26, 61, 62, #[]⟩, ⟨26, 65, 62, #[]⟩, ⟨24, 430, 62, #[]⟩, ⟨4120, 46, 47, #[]⟩])
  fields := #[{ name := "HI_BYTE_SHIFT", type := .int, accessFlags := 26, slot := 0, constantValue := 0 }, { name := "LO_BYTE_SHIFT", type := .int, accessFlags := 26, slot := 1, constantValue := 0 }, { name := "MAX_LENGTH", type := .int, accessFlags := 24, slot := 2, constantValue := 0 }, { name := "$assertionsDisabled", type := .boolean, accessFlags := 4120, slot := 3, constantValue := 0 }]
  methods := #[k15m0, k15m1, k15m2, k15m3, k15m4, k15m5, k15m6, k15m7, k15m8, k15m9, k15m10, k15m11, k15m12, k15m13, k15m14, k15m15, k15m16]
  instanceTypes := #[]
  staticTypes := #[.int, .int, .int, .boolean]
  resolved := Array.replicate 635 none
  statics := some 1 }

def pool16 : Array CpInfo := pool [(2, .class_ 4), (1, u "java/lang/Object"), (0, u "<init>"), (0, u "()V"), (1, .class_ 10), (1, u "java/lang/System"), (0, u "allowSecurityManager"), (0, u "I"), (16, u "cons"), (0, u "Ljava/io/Console;"), (77, .class_ 110), (1, u "java/lang/System$CallersHolder"), (43, u "initialErrStream"), (0, u "Ljava/io/PrintStream;"), (19, u "security"), (0, u "Ljava/lang/SecurityManager;"), (31, .class_ 209), (0, u "java/lang/System$1"), (7, u "props"), (0, u "Ljava/util/Properties;"), (2, u "lineSeparator"), (0, u "Ljava/lang/String;"), (96, .class_ 321), (1, u "java/lang/System$LoggerFinder"), (5, .class_ 328), (0, u "java/lang/System$Logger"), (67, u "err"), (2, u "out"), (91, u "notSupportedJnuEncoding"), (15, u "in"), (17, u "initialIn"), (0, u "Ljava/io/InputStream;"), (35, u "bootLayer"), (0, u "Ljava/lang/ModuleLayer;"), (99, .class_ 664), (0, u "java/lang/System$2"), (9, u "NEVER"), (2, u "MAYBE"), (49, u "arraycopy"), (0, u "(Ljava/lang/Object;ILjava/lang/Object;II)V"), (72, .class_ 802), (0, u "java/lang/System$Logger$Level")] 31

def k16m0 : Method := { name := "<init>", desc := "()V", sig := { parameters := [], returnType := none }, accessFlags := 2, code := none }
def k16m1 : Method := { name := "arraycopy", desc := "(Ljava/lang/Object;ILjava/lang/Object;II)V", sig := { parameters := [(.object "java/lang/Object"), .int, (.object "java/lang/Object"), .int, .int], returnType := none }, accessFlags := 265, code := none }
/-- java/lang/System -/
def k16 : Class := { plain "java/lang/System" (some 0) with
  accessFlags := 49
  interfaces := #[]
  cf := some (fileOf pool16 8 #[.nestMembers #[319, 327, 801, 108, 663, 208]] #[⟨2, 5, 6, #[]⟩, ⟨265, 727, 728, #[]⟩] 49 2 #[] #[⟨25, 507, 526, #[]⟩, ⟨25, 399, 155, #[]⟩, ⟨25, 396, 155, #[]⟩, ⟨10, 525, 526, #[]⟩, ⟨26, 674, 12, #[]⟩, ⟨26, 677, 12, #[]⟩, ⟨10, 11, 12, #[]⟩, ⟨74, 175, 176, #[]⟩, ⟨10, 491, 222, #[]⟩, ⟨74, 29, 30, #[]⟩, ⟨74, 154, 155, #[]⟩, ⟨10, 217, 218, #[]⟩, ⟨10, 221, 222, #[]⟩, ⟨8, 562, 563, #[]⟩])
  fields := #[{ name := "in", type := (.object "java/io/InputStream"), accessFlags := 25, slot := 0, constantValue := 0 }, { name := "out", type := (.object "java/io/PrintStream"), accessFlags := 25, slot := 1, constantValue := 0 }, { name := "err", type := (.object "java/io/PrintStream"), accessFlags := 25, slot := 2, constantValue := 0 }, { name := "initialIn", type := (.object "java/io/InputStream"), accessFlags := 10, slot := 3, constantValue := 0 }, { name := "NEVER", type := .int, accessFlags := 26, slot := 4, constantValue := 0 }, { name := "MAYBE", type := .int, accessFlags := 26, slot := 5, constantValue := 0 }, { name := "allowSecurityManager", type := .int, accessFlags := 10, slot := 6, constantValue := 0 }, { name := "security", type := (.object "java/lang/SecurityManager"), accessFlags := 74, slot := 7, constantValue := 0 }, { name := "notSupportedJnuEncoding", type := (.object "java/lang/String"), accessFlags := 10, slot := 8, constantValue := 0 }, { name := "cons", type := (.object "java/io/Console"), accessFlags := 74, slot := 9, constantValue := 0 }, { name := "initialErrStream", type := (.object "java/io/PrintStream"), accessFlags := 74, slot := 10, constantValue := 0 }, { name := "props", type := (.object "java/util/Properties"), accessFlags := 10, slot := 11, constantValue := 0 }, { name := "lineSeparator", type := (.object "java/lang/String"), accessFlags := 10, slot := 12, constantValue := 0 }, { name := "bootLayer", type := (.object "java/lang/ModuleLayer"), accessFlags := 8, slot := 13, constantValue := 0 }]
  methods := #[k16m0, k16m1]
  instanceTypes := #[]
  staticTypes := #[(.object "java/io/InputStream"), (.object "java/io/PrintStream"), (.object "java/io/PrintStream"), (.object "java/io/InputStream"), .int, .int, .int, (.object "java/lang/SecurityManager"), (.object "java/lang/String"), (.object "java/io/Console"), (.object "java/io/PrintStream"), (.object "java/util/Properties"), (.object "java/lang/String"), (.object "java/lang/ModuleLayer")]
  resolved := Array.replicate 834 none
  statics := none }

def pool17 : Array CpInfo := pool [(9, u "<init>"), (6, .class_ 18), (1, u "java/lang/Object"), (0, u "()V"), (1, .class_ 23), (1, u "jdk/internal/util/ArraysSupport"), (0, u "LOG2_ARRAY_LONG_INDEX_SCALE"), (0, u "I"), (2, u "U"), (0, u "Ljdk/internal/misc/Unsafe;"), (8, u "BIG_ENDIAN"), (0, u "Z"), (8, u "LOG2_BYTE_BIT_SIZE"), (4, u "LOG2_ARRAY_INT_INDEX_SCALE"), (54, u "JLA"), (0, u "Ljdk/internal/access/JavaLangAccess;"), (11, u "LOG2_ARRAY_BOOLEAN_INDEX_SCALE"), (9, u "LOG2_ARRAY_BYTE_INDEX_SCALE"), (5, u "LOG2_ARRAY_CHAR_INDEX_SCALE"), (5, u "LOG2_ARRAY_SHORT_INDEX_SCALE"), (18, u "LOG2_ARRAY_FLOAT_INDEX_SCALE"), (24, u "LOG2_ARRAY_DOUBLE_INDEX_SCALE"), (6, .methodref 195 196), (0, .class_ 197), (0, .nameAndType 198 199), (0, u "java/lang/Math"), (0, u "max"), (0, u "(II)I"), (0, .integer 2147483639), (76, u "T_BOOLEAN"), (2, u "T_CHAR"), (1, u "T_FLOAT"), (1, u "T_DOUBLE"), (1, u "T_BYTE"), (1, u "T_SHORT"), (1, u "T_INT"), (1, u "T_LONG"), (1, u "SOFT_MAX_ARRAY_LENGTH"), (56, u "newLength"), (0, u "(III)I")] 25

def k17m0 : Method := { name := "<init>", desc := "()V", sig := { parameters := [], returnType := none }, accessFlags := 2, code := none }
def k17c1 : Code := { maxStack := 3, maxLocals := 4, code := jdk_48_method_27_code, exceptionTable := #[], attributes := #[] }
def k17m1 : Method := { name := "newLength", desc := "(III)I", sig := { parameters := [.int, .int, .int], returnType := some .int }, accessFlags := 9, code := some k17c1 }
/-- jdk/internal/util/ArraysSupport -/
def k17 : Class := { plain "jdk/internal/util/ArraysSupport" (some 0) with
  accessFlags := 33
  interfaces := #[]
  cf := some (fileOf pool17 21 #[] #[⟨2, 9, 19, #[]⟩, ⟨9, 351, 352, #[]⟩] 33 16 #[] #[⟨24, 28, 29, #[]⟩, ⟨26, 38, 39, #[]⟩, ⟨25, 121, 25, #[]⟩, ⟨25, 131, 25, #[]⟩, ⟨25, 137, 25, #[]⟩, ⟨25, 143, 25, #[]⟩, ⟨25, 53, 25, #[]⟩, ⟨25, 24, 25, #[]⟩, ⟨25, 162, 25, #[]⟩, ⟨25, 187, 25, #[]⟩, ⟨26, 48, 25, #[]⟩, ⟨25, 277, 25, #[]⟩, ⟨25, 280, 25, #[]⟩, ⟨25, 282, 25, #[]⟩, ⟨25, 284, 25, #[]⟩, ⟨25, 286, 25, #[]⟩, ⟨25, 288, 25, #[]⟩, ⟨25, 290, 25, #[]⟩, ⟨25, 292, 25, #[]⟩, ⟨26, 108, 109, #[]⟩, ⟨25, 294, 25, #[]⟩])
  fields := #[{ name := "U", type := (.object "jdk/internal/misc/Unsafe"), accessFlags := 24, slot := 0, constantValue := 0 }, { name := "BIG_ENDIAN", type := .boolean, accessFlags := 26, slot := 1, constantValue := 0 }, { name := "LOG2_ARRAY_BOOLEAN_INDEX_SCALE", type := .int, accessFlags := 25, slot := 2, constantValue := 0 }, { name := "LOG2_ARRAY_BYTE_INDEX_SCALE", type := .int, accessFlags := 25, slot := 3, constantValue := 0 }, { name := "LOG2_ARRAY_CHAR_INDEX_SCALE", type := .int, accessFlags := 25, slot := 4, constantValue := 0 }, { name := "LOG2_ARRAY_SHORT_INDEX_SCALE", type := .int, accessFlags := 25, slot := 5, constantValue := 0 }, { name := "LOG2_ARRAY_INT_INDEX_SCALE", type := .int, accessFlags := 25, slot := 6, constantValue := 0 }, { name := "LOG2_ARRAY_LONG_INDEX_SCALE", type := .int, accessFlags := 25, slot := 7, constantValue := 0 }, { name := "LOG2_ARRAY_FLOAT_INDEX_SCALE", type := .int, accessFlags := 25, slot := 8, constantValue := 0 }, { name := "LOG2_ARRAY_DOUBLE_INDEX_SCALE", type := .int, accessFlags := 25, slot := 9, constantValue := 0 }, { name := "LOG2_BYTE_BIT_SIZE", type := .int, accessFlags := 26, slot := 10, constantValue := 0 }, { name := "T_BOOLEAN", type := .int, accessFlags := 25, slot := 11, constantValue := 0 }, { name := "T_CHAR", type := .int, accessFlags := 25, slot := 12, constantValue := 0 }, { name := "T_FLOAT", type := .int, accessFlags := 25, slot := 13, constantValue := 0 }, { name := "T_DOUBLE", type := .int, accessFlags := 25, slot := 14, constantValue := 0 }, { name := "T_BYTE", type := .int, accessFlags := 25, slot := 15, constantValue := 0 }, { name := "T_SHORT", type := .int, accessFlags := 25, slot := 16, constantValue := 0 }, { name := "T_INT", type := .int, accessFlags := 25, slot := 17, constantValue := 0 }, { name := "T_LONG", type := .int, accessFlags := 25, slot := 18, constantValue := 0 }, { name := "JLA", type := (.object "jdk/internal/access/JavaLangAccess"), accessFlags := 26, slot := 19, constantValue := 0 }, { name := "SOFT_MAX_ARRAY_LENGTH", type := .int, accessFlags := 25, slot := 20, constantValue := 0 }]
  methods := #[k17m0, k17m1]
  instanceTypes := #[]
  staticTypes := #[(.object "jdk/internal/misc/Unsafe"), .boolean, .int, .int, .int, .int, .int, .int, .int, .int, .int, .int, .int, .int, .int, .int, .int, .int, .int, (.object "jdk/internal/access/JavaLangAccess"), .int]
  resolved := Array.replicate 378 none
  statics := none }

def pool18 : Array CpInfo := pool [(1, .class_ 2), (0, u "java/lang/Math"), (1, .class_ 6), (1, u "java/lang/Object"), (0, u "<init>"), (0, u "()V"), (89, .class_ 100), (1, u "java/lang/Math$RandomNumberGeneratorHolder"), (71, u "negativeZeroFloatBits"), (0, u "J"), (2, u "negativeZeroDoubleBits"), (21, u "max"), (2, u "min"), (43, u "$assertionsDisabled"), (0, u "Z"), (88, u "(II)I"), (2, u "twoToTheDoubleScaleDown"), (0, u "D"), (4, u "twoToTheDoubleScaleUp"), (9, u "E"), (3, u "PI"), (2, u "TAU"), (2, u "DEGREES_TO_RADIANS"), (0, u "RADIANS_TO_DEGREES")] 94

def k18m0 : Method := { name := "<init>", desc := "()V", sig := { parameters := [], returnType := none }, accessFlags := 2, code := none }
def k18c1 : Code := { maxStack := 2, maxLocals := 2, code := jdk_29_method_65_code, exceptionTable := #[], attributes := #[] }
def k18m1 : Method := { name := "max", desc := "(II)I", sig := { parameters := [.int, .int], returnType := some .int }, accessFlags := 9, code := some k18c1 }
def k18c2 : Code := { maxStack := 2, maxLocals := 2, code := jdk_29_method_69_code, exceptionTable := #[], attributes := #[] }
def k18m2 : Method := { name := "min", desc := "(II)I", sig := { parameters := [.int, .int], returnType := some .int }, accessFlags := 9, code := some k18c2 }
/-- java/lang/Math -/
def k18 : Class := { plain "java/lang/Math" (some 0) with
  accessFlags := 49
  interfaces := #[]
  cf := some (fileOf pool18 1 #[.nestMembers #[98]] #[⟨2, 7, 8, #[]⟩, ⟨9, 198, 335, #[]⟩, ⟨9, 201, 335, #[]⟩] 49 4 #[] #[⟨25, 354, 339, #[]⟩, ⟨25, 358, 339, #[]⟩, ⟨25, 361, 339, #[]⟩, ⟨26, 364, 339, #[]⟩, ⟨26, 365, 339, #[]⟩, ⟨26, 172, 173, #[]⟩, ⟨26, 176, 173, #[]⟩, ⟨8, 344, 339, #[]⟩, ⟨8, 338, 339, #[]⟩, ⟨4120, 245, 246, #[]⟩])
  fields := #[{ name := "E", type := .double, accessFlags := 25, slot := 0, constantValue := 0 }, { name := "PI", type := .double, accessFlags := 25, slot := 1, constantValue := 0 }, { name := "TAU", type := .double, accessFlags := 25, slot := 2, constantValue := 0 }, { name := "DEGREES_TO_RADIANS", type := .double, accessFlags := 26, slot := 3, constantValue := 0 }, { name := "RADIANS_TO_DEGREES", type := .double, accessFlags := 26, slot := 4, constantValue := 0 }, { name := "negativeZeroFloatBits", type := .long, accessFlags := 26, slot := 5, constantValue := 0 }, { name := "negativeZeroDoubleBits", type := .long, accessFlags := 26, slot := 6, constantValue := 0 }, { name := "twoToTheDoubleScaleUp", type := .double, accessFlags := 8, slot := 7, constantValue := 0 }, { name := "twoToTheDoubleScaleDown", type := .double, accessFlags := 8, slot := 8, constantValue := 0 }, { name := "$assertionsDisabled", type := .boolean, accessFlags := 4120, slot := 9, constantValue := 0 }]
  methods := #[k18m0, k18m1, k18m2]
  instanceTypes := #[]
  staticTypes := #[.double, .double, .double, .double, .double, .long, .long, .double, .double, .boolean]
  resolved := Array.replicate 460 none
  statics := none }

def pool19 : Array CpInfo := pool [(2, .class_ 4), (1, u "java/lang/Object"), (0, u "<init>"), (0, u "()V"), (17, .class_ 26), (1, u "jdk/internal/util/Preconditions"), (6, u "checkIndex"), (15, u "checkFromIndexSize"), (5, .class_ 56), (0, u "jdk/internal/util/Preconditions$4"), (57, .class_ 115), (0, u "jdk/internal/util/Preconditions$1"), (7, u "SIOOBE_FORMATTER"), (0, u "Ljava/util/function/BiFunction;"), (0, .class_ 126), (0, u "jdk/internal/util/Preconditions$2"), (3, u "AIOOBE_FORMATTER"), (0, .class_ 132), (0, u "jdk/internal/util/Preconditions$3"), (3, u "IOOBE_FORMATTER"), (41, u "(IILjava/util/function/BiFunction;)I"), (4, u "(IIILjava/util/function/BiFunction;)I")] 10

def k19m0 : Method := { name := "<init>", desc := "()V", sig := { parameters := [], returnType := none }, accessFlags := 1, code := none }
def k19c1 : Code := { maxStack := 3, maxLocals := 3, code := jdk_41_method_11_code, exceptionTable := #[], attributes := #[] }
def k19m1 : Method := { name := "checkIndex", desc := "(IILjava/util/function/BiFunction;)I", sig := { parameters := [.int, .int, (.object "java/util/function/BiFunction")], returnType := some .int }, accessFlags := 9, code := some k19c1 }
def k19c2 : Code := { maxStack := 4, maxLocals := 4, code := jdk_41_method_13_code, exceptionTable := #[], attributes := #[] }
def k19m2 : Method := { name := "checkFromIndexSize", desc := "(IIILjava/util/function/BiFunction;)I", sig := { parameters := [.int, .int, .int, (.object "java/util/function/BiFunction")], returnType := some .int }, accessFlags := 9, code := some k19c2 }
/-- jdk/internal/util/Preconditions -/
def k19 : Class := { plain "jdk/internal/util/Preconditions" (some 0) with
  accessFlags := 33
  interfaces := #[]
  cf := some (fileOf pool19 24 #[.nestMembers #[55, 131, 125, 114]] #[⟨1, 5, 6, #[]⟩, ⟨9, 33, 178, #[]⟩, ⟨9, 49, 183, #[]⟩] 33 2 #[] #[⟨25, 123, 124, #[]⟩, ⟨25, 130, 124, #[]⟩, ⟨25, 136, 124, #[]⟩])
  fields := #[{ name := "SIOOBE_FORMATTER", type := (.object "java/util/function/BiFunction"), accessFlags := 25, slot := 0, constantValue := 0 }, { name := "AIOOBE_FORMATTER", type := (.object "java/util/function/BiFunction"), accessFlags := 25, slot := 1, constantValue := 0 }, { name := "IOOBE_FORMATTER", type := (.object "java/util/function/BiFunction"), accessFlags := 25, slot := 2, constantValue := 0 }]
  methods := #[k19m0, k19m1, k19m2]
  instanceTypes := #[]
  staticTypes := #[(.object "java/util/function/BiFunction"), (.object "java/util/function/BiFunction"), (.object "java/util/function/BiFunction")]
  resolved := Array.replicate 194 none
  statics := some 2 }

/-- the primitive byte -/
def k20 : Class := { plain "byte" none with kind := .primitive 'B', accessFlags := 0x411 }
/-- [B -/
def k21 : Class := { plain "[B" (some 0) with kind := .array 20 .byte, interfaces := #[14, 2], accessFlags := 1041 }

/-- the primitive char -/
def k22 : Class := { plain "char" none with kind := .primitive 'C', accessFlags := 0x411 }
/-- [C -/
def k23 : Class := { plain "[C" (some 0) with kind := .array 22 .char, interfaces := #[14, 2], accessFlags := 1041 }

/-- the primitive int -/
def k24 : Class := { plain "int" none with kind := .primitive 'I', accessFlags := 0x411 }
/-- [I -/
def k25 : Class := { plain "[I" (some 0) with kind := .array 24 .int, interfaces := #[14, 2], accessFlags := 1041 }

def heap : Heap := #[{ cls := 7, slots := #[.long 0, .int 1, .null, .int 0, .null, .int 0, .int 0], vm := .statics 7 },
  { cls := 15, slots := #[.int 0, .int 8, .int 0, .int 1], vm := .statics 15 },
  { cls := 19, slots := #[.null, .null, .null], vm := .statics 19 }]
def classes : Array Class := #[k0, k1, k2, k3, k4, k5, k6, k7, k8, k9, k10, k11, k12, k13, k14, k15, k16, k17, k18, k19, k20, k21, k22, k23, k24, k25]
def interned : List (Array UInt16 × Addr) := []
def slotsUsed : Nat := 14
def theMethod : MethodId := ⟨1, 6⟩
def args0 : Array Value := #[.int 5, .int 4, .int 19, .int 8]
def aboutOver (below : List Frame) : State where
  vm := { classes := classes, interned := interned.toArray }
  heap := heap
  slotsUsed := slotsUsed
  threads := #[{ frames := .invoking theMethod args0 :: below }]
def below0 : List Frame := [.native { method := ⟨0, 0⟩, args := #[] }]
def about1 : State := aboutOver below0
def p0 : Program := .bare "" "" ""
def e0 : Env := launch0.env 0 0 0
theorem w_frames : about1.frames = Frame.invoking theMethod args0 :: below0 := rfl
set_option maxRecDepth 65536 in
theorem w_args : argsFit about1.vm theMethod args0 = true := by decide +kernel
set_option maxRecDepth 65536 in
theorem w_heap : heapFits about1 = true := by decide +kernel
set_option maxRecDepth 65536 in
theorem w_runnable : about1.curStatus? = some .runnable := by decide +kernel
set_option maxRecDepth 65536 in
theorem w_alone : about1.alone = true := by decide +kernel
set_option maxRecDepth 65536 in
theorem w_named : about1.methodNamed? x = some theMethod := by decide +kernel
set_option maxRecDepth 65536 in
theorem w_hears : about1.hears theMethod below0 = true := by decide +kernel
set_option maxRecDepth 65536 in
theorem w_ripe : about1.ripe theMethod args0 below0 = true := by decide +kernel
theorem w_running : about1.status = .running := rfl
set_option maxRecDepth 65536 in
theorem w_room : about1.hasRoom e0.platform room_1 = true :=
  launch0.hasRoom_least _ room_1 (by decide +kernel) (by decide +kernel) (by decide +kernel) (by decide +kernel) (by decide +kernel) (by decide +kernel)
theorem allAtoms_all (ts : List Jvm.Cond) (a : Array Jvm.Value) (st : Jvm.State) : (allAtoms ts).before a st = ts.all (fun c => c.before a st) := by
  induction ts with
  | nil => rfl
  | cons c t ih =>
    show (Jvm.Cond.and c (allAtoms t)).before a st = _
    rw [Jvm.Cond.before_and, ih, List.all_cons]
def words1 : List Jvm.Cond := Jvm.Cond.code x code maxLocals ret :: tables_1
/-- a 'code' word, met by the world's own term for the bytes: nothing is compared byte by byte -/
theorem code_word {y : MethodName} {bytes : ByteArray} {mx : Nat} {rt : Option FieldType} {a : Array Value} {s : State} {m : MethodId} {meth : Method} {c : Code} (h1 : s.methodNamed? y = some m) (h2 : s.vm.method? m = some meth) (h3 : meth.code = some c) (h4 : c.code = bytes)
    (h5 : (c.maxLocals == mx && c.exceptionTable.isEmpty && decide (c.maxStack ≤ mostOperands) && decide (meth.sig.returnType = rt) && !meth.locks && decide (parseMethodDescriptor y.desc = some meth.sig)) = true) : (Jvm.Cond.code y bytes mx rt).before a s = true := by
  simp only [Bool.and_eq_true, beq_iff_eq, Bool.not_eq_true', decide_eq_true_eq] at h5
  obtain ⟨⟨⟨⟨⟨g1, g2⟩, g3⟩, g4⟩, g5⟩, g6⟩ := h5
  simp [Cond.before, Cond.holds, Cond.value, h1, h2, h3, h4, g1, g2, g3, g4, g5, g6]
def isCode : Jvm.Cond → Bool
  | .code _ _ _ _ => true
  | _ => false
theorem all_split {L : List Jvm.Cond} {P : Jvm.Cond → Bool} (h1 : L.all (fun c => isCode c || P c) = true) (h2 : ∀ c ∈ L.filter isCode, P c = true) : L.all P = true := by
  refine List.all_eq_true.mpr fun c hc => ?_
  have h := List.all_eq_true.mp h1 c hc
  rcases Bool.eq_false_or_eq_true (isCode c) with hi | hi
  · exact h2 c (List.mem_filter.mpr ⟨hc, hi⟩)
  · simpa [hi] using h
set_option maxRecDepth 65536 in
theorem w_c0 : (Jvm.Cond.code x code maxLocals ret).before args0 about1 = true := code_word (m := ⟨1, 6⟩) (meth := k1m6) (c := k1c6) (by decide +kernel) rfl rfl rfl (by decide +kernel)
set_option maxRecDepth 65536 in
theorem w_c1 : (Jvm.Cond.code ⟨"com/example/aligned_index/alignedindex/inspect/InspectorEscapePinLaw", "pick", "(I)C"⟩ method_2_code 2 (some .char)).before args0 about1 = true := code_word (m := ⟨1, 1⟩) (meth := k1m1) (c := k1c1) (by decide +kernel) rfl rfl rfl (by decide +kernel)
set_option maxRecDepth 65536 in
theorem w_c2 : (Jvm.Cond.code ⟨"java/lang/String", "<init>", "([C)V"⟩ jdk_42_method_3_code 2 none).before args0 about1 = true := code_word (m := ⟨7, 1⟩) (meth := k7m1) (c := k7c1) (by decide +kernel) rfl rfl rfl (by decide +kernel)
set_option maxRecDepth 65536 in
theorem w_c3 : (Jvm.Cond.code ⟨"java/lang/String", "<init>", "([CIILjava/lang/Void;)V"⟩ jdk_42_method_149_code 6 none).before args0 about1 = true := code_word (m := ⟨7, 7⟩) (meth := k7m7) (c := k7c7) (by decide +kernel) rfl rfl rfl (by decide +kernel)
set_option maxRecDepth 65536 in
theorem w_c4 : (Jvm.Cond.code ⟨"java/lang/Object", "<init>", "()V"⟩ object_method_1_code 1 none).before args0 about1 = true := code_word (m := ⟨0, 0⟩) (meth := k0m0) (c := k0c0) (by decide +kernel) rfl rfl rfl (by decide +kernel)
set_option maxRecDepth 65536 in
theorem w_c5 : (Jvm.Cond.code ⟨"com/example/aligned_index/alignedindex/inspect/Inspector", "escape", "(Ljava/lang/String;)Ljava/lang/String;"⟩ prog_22_method_4_code 6 (some (.object "java/lang/String"))).before args0 about1 = true := code_word (m := ⟨8, 1⟩) (meth := k8m1) (c := k8c1) (by decide +kernel) rfl rfl rfl (by decide +kernel)
set_option maxRecDepth 65536 in
theorem w_c6 : (Jvm.Cond.code ⟨"java/lang/String", "length", "()I"⟩ jdk_42_method_54_code 1 (some .int)).before args0 about1 = true := code_word (m := ⟨7, 3⟩) (meth := k7m3) (c := k7c3) (by decide +kernel) rfl rfl rfl (by decide +kernel)
set_option maxRecDepth 65536 in
theorem w_c7 : (Jvm.Cond.code ⟨"java/lang/String", "coder", "()B"⟩ jdk_42_method_152_code 1 (some .byte)).before args0 about1 = true := code_word (m := ⟨7, 9⟩) (meth := k7m9) (c := k7c9) (by decide +kernel) rfl rfl rfl (by decide +kernel)
set_option maxRecDepth 65536 in
theorem w_c8 : (Jvm.Cond.code ⟨"java/lang/StringBuilder", "<init>", "(I)V"⟩ jdk_67_method_2_code 2 none).before args0 about1 = true := code_word (m := ⟨11, 1⟩) (meth := k11m1) (c := k11c1) (by decide +kernel) rfl rfl rfl (by decide +kernel)
set_option maxRecDepth 65536 in
theorem w_c9 : (Jvm.Cond.code ⟨"java/lang/AbstractStringBuilder", "<init>", "(I)V"⟩ jdk_68_method_2_code 2 none).before args0 about1 = true := code_word (m := ⟨10, 1⟩) (meth := k10m1) (c := k10c1) (by decide +kernel) rfl rfl rfl (by decide +kernel)
set_option maxRecDepth 65536 in
theorem w_c10 : (Jvm.Cond.code ⟨"java/lang/String", "toCharArray", "()[C"⟩ jdk_42_method_129_code 1 (some (.array .char))).before args0 about1 = true := code_word (m := ⟨7, 5⟩) (meth := k7m5) (c := k7c5) (by decide +kernel) rfl rfl rfl (by decide +kernel)
set_option maxRecDepth 65536 in
theorem w_c11 : (Jvm.Cond.code ⟨"java/lang/String", "isLatin1", "()Z"⟩ jdk_42_method_154_code 1 (some .boolean)).before args0 about1 = true := code_word (m := ⟨7, 10⟩) (meth := k7m10) (c := k7c10) (by decide +kernel) rfl rfl rfl (by decide +kernel)
set_option maxRecDepth 65536 in
theorem w_c12 : (Jvm.Cond.code ⟨"java/lang/StringLatin1", "toChars", "([B)[C"⟩ jdk_43_method_9_code 2 (some (.array .char))).before args0 about1 = true := code_word (m := ⟨12, 3⟩) (meth := k12m3) (c := k12c3) (by decide +kernel) rfl rfl rfl (by decide +kernel)
set_option maxRecDepth 65536 in
theorem w_c13 : (Jvm.Cond.code ⟨"java/lang/StringLatin1", "inflate", "([BI[CII)V"⟩ jdk_43_method_49_code 6 none).before args0 about1 = true := code_word (m := ⟨12, 4⟩) (meth := k12m4) (c := k12c4) (by decide +kernel) rfl rfl rfl (by decide +kernel)
set_option maxRecDepth 65536 in
theorem w_c14 : (Jvm.Cond.code ⟨"java/lang/StringBuilder", "toString", "()Ljava/lang/String;"⟩ jdk_67_method_42_code 1 (some (.object "java/lang/String"))).before args0 about1 = true := code_word (m := ⟨11, 4⟩) (meth := k11m4) (c := k11c4) (by decide +kernel) rfl rfl rfl (by decide +kernel)
set_option maxRecDepth 65536 in
theorem w_c15 : (Jvm.Cond.code ⟨"java/lang/String", "<init>", "(Ljava/lang/StringBuilder;)V"⟩ jdk_42_method_53_code 2 none).before args0 about1 = true := code_word (m := ⟨7, 2⟩) (meth := k7m2) (c := k7c2) (by decide +kernel) rfl rfl rfl (by decide +kernel)
set_option maxRecDepth 65536 in
theorem w_c16 : (Jvm.Cond.code ⟨"java/lang/String", "<init>", "(Ljava/lang/AbstractStringBuilder;Ljava/lang/Void;)V"⟩ jdk_42_method_150_code 5 none).before args0 about1 = true := code_word (m := ⟨7, 8⟩) (meth := k7m8) (c := k7c8) (by decide +kernel) rfl rfl rfl (by decide +kernel)
set_option maxRecDepth 65536 in
theorem w_c17 : (Jvm.Cond.code ⟨"java/lang/AbstractStringBuilder", "getValue", "()[B"⟩ jdk_68_method_64_code 1 (some (.array .byte))).before args0 about1 = true := code_word (m := ⟨10, 8⟩) (meth := k10m8) (c := k10c8) (by decide +kernel) rfl rfl rfl (by decide +kernel)
set_option maxRecDepth 65536 in
theorem w_c18 : (Jvm.Cond.code ⟨"java/lang/StringBuilder", "length", "()I"⟩ jdk_67_method_93_code 1 (some .int)).before args0 about1 = true := code_word (m := ⟨11, 5⟩) (meth := k11m5) (c := k11c5) (by decide +kernel) rfl rfl rfl (by decide +kernel)
set_option maxRecDepth 65536 in
theorem w_c19 : (Jvm.Cond.code ⟨"java/lang/AbstractStringBuilder", "length", "()I"⟩ jdk_68_method_6_code 1 (some .int)).before args0 about1 = true := code_word (m := ⟨10, 2⟩) (meth := k10m2) (c := k10c2) (by decide +kernel) rfl rfl rfl (by decide +kernel)
set_option maxRecDepth 65536 in
theorem w_c20 : (Jvm.Cond.code ⟨"java/lang/AbstractStringBuilder", "isLatin1", "()Z"⟩ jdk_68_method_68_code 1 (some .boolean)).before args0 about1 = true := code_word (m := ⟨10, 9⟩) (meth := k10m9) (c := k10c9) (by decide +kernel) rfl rfl rfl (by decide +kernel)
set_option maxRecDepth 65536 in
theorem w_c21 : (Jvm.Cond.code ⟨"java/util/Arrays", "copyOfRange", "([BII)[B"⟩ jdk_65_method_132_code 3 (some (.array .byte))).before args0 about1 = true := code_word (m := ⟨13, 3⟩) (meth := k13m3) (c := k13c3) (by decide +kernel) rfl rfl rfl (by decide +kernel)
set_option maxRecDepth 65536 in
theorem w_c22 : (Jvm.Cond.code ⟨"java/lang/StringUTF16", "compress", "([CII)[B"⟩ jdk_52_method_16_code 6 (some (.array .byte))).before args0 about1 = true := code_word (m := ⟨15, 9⟩) (meth := k15m9) (c := k15c9) (by decide +kernel) rfl rfl rfl (by decide +kernel)
set_option maxRecDepth 65536 in
theorem w_c23 : (Jvm.Cond.code ⟨"java/lang/StringUTF16", "compress", "([CI[BII)I"⟩ jdk_52_method_21_code 7 (some .int)).before args0 about1 = true := code_word (m := ⟨15, 10⟩) (meth := k15m10) (c := k15c10) (by decide +kernel) rfl rfl rfl (by decide +kernel)
set_option maxRecDepth 65536 in
theorem w_c24 : (Jvm.Cond.code ⟨"java/lang/StringUTF16", "coderFromArrayLen", "([BI)B"⟩ jdk_52_method_15_code 2 (some .byte)).before args0 about1 = true := code_word (m := ⟨15, 8⟩) (meth := k15m8) (c := k15c8) (by decide +kernel) rfl rfl rfl (by decide +kernel)
set_option maxRecDepth 65536 in
theorem w_c25 : (Jvm.Cond.code ⟨"java/lang/StringBuilder", "append", "(Ljava/lang/String;)Ljava/lang/StringBuilder;"⟩ jdk_67_method_7_code 2 (some (.object "java/lang/StringBuilder"))).before args0 about1 = true := code_word (m := ⟨11, 2⟩) (meth := k11m2) (c := k11c2) (by decide +kernel) rfl rfl rfl (by decide +kernel)
set_option maxRecDepth 65536 in
theorem w_c26 : (Jvm.Cond.code ⟨"java/lang/AbstractStringBuilder", "append", "(Ljava/lang/String;)Ljava/lang/AbstractStringBuilder;"⟩ jdk_68_method_22_code 3 (some (.object "java/lang/AbstractStringBuilder"))).before args0 about1 = true := code_word (m := ⟨10, 6⟩) (meth := k10m6) (c := k10c6) (by decide +kernel) rfl rfl rfl (by decide +kernel)
set_option maxRecDepth 65536 in
theorem w_c27 : (Jvm.Cond.code ⟨"java/lang/AbstractStringBuilder", "ensureCapacityInternal", "(I)V"⟩ jdk_68_method_9_code 3 none).before args0 about1 = true := code_word (m := ⟨10, 3⟩) (meth := k10m3) (c := k10c3) (by decide +kernel) rfl rfl rfl (by decide +kernel)
set_option maxRecDepth 65536 in
theorem w_c28 : (Jvm.Cond.code ⟨"java/lang/AbstractStringBuilder", "putStringAt", "(ILjava/lang/String;)V"⟩ jdk_68_method_73_code 3 none).before args0 about1 = true := code_word (m := ⟨10, 11⟩) (meth := k10m11) (c := k10c11) (by decide +kernel) rfl rfl rfl (by decide +kernel)
set_option maxRecDepth 65536 in
theorem w_c29 : (Jvm.Cond.code ⟨"java/lang/AbstractStringBuilder", "inflateIfNeededFor", "(Ljava/lang/String;)V"⟩ jdk_68_method_71_code 2 none).before args0 about1 = true := code_word (m := ⟨10, 10⟩) (meth := k10m10) (c := k10c10) (by decide +kernel) rfl rfl rfl (by decide +kernel)
set_option maxRecDepth 65536 in
theorem w_c30 : (Jvm.Cond.code ⟨"java/lang/String", "getBytes", "([BIB)V"⟩ jdk_42_method_147_code 4 none).before args0 about1 = true := code_word (m := ⟨7, 6⟩) (meth := k7m6) (c := k7c6) (by decide +kernel) rfl rfl rfl (by decide +kernel)
set_option maxRecDepth 65536 in
theorem w_c31 : (Jvm.Cond.code ⟨"java/lang/AbstractStringBuilder", "newCapacity", "(I)I"⟩ jdk_68_method_10_code 6 (some .int)).before args0 about1 = true := code_word (m := ⟨10, 4⟩) (meth := k10m4) (c := k10c4) (by decide +kernel) rfl rfl rfl (by decide +kernel)
set_option maxRecDepth 65536 in
theorem w_c32 : (Jvm.Cond.code ⟨"jdk/internal/util/ArraysSupport", "newLength", "(III)I"⟩ jdk_48_method_27_code 4 (some .int)).before args0 about1 = true := code_word (m := ⟨17, 1⟩) (meth := k17m1) (c := k17c1) (by decide +kernel) rfl rfl rfl (by decide +kernel)
set_option maxRecDepth 65536 in
theorem w_c33 : (Jvm.Cond.code ⟨"java/lang/Math", "max", "(II)I"⟩ jdk_29_method_65_code 2 (some .int)).before args0 about1 = true := code_word (m := ⟨18, 1⟩) (meth := k18m1) (c := k18c1) (by decide +kernel) rfl rfl rfl (by decide +kernel)
set_option maxRecDepth 65536 in
theorem w_c34 : (Jvm.Cond.code ⟨"java/util/Arrays", "copyOf", "([BI)[B"⟩ jdk_65_method_121_code 3 (some (.array .byte))).before args0 about1 = true := code_word (m := ⟨13, 1⟩) (meth := k13m1) (c := k13c1) (by decide +kernel) rfl rfl rfl (by decide +kernel)
set_option maxRecDepth 65536 in
theorem w_c35 : (Jvm.Cond.code ⟨"java/lang/Math", "min", "(II)I"⟩ jdk_29_method_69_code 2 (some .int)).before args0 about1 = true := code_word (m := ⟨18, 2⟩) (meth := k18m2) (c := k18c2) (by decide +kernel) rfl rfl rfl (by decide +kernel)
set_option maxRecDepth 65536 in
theorem w_c36 : (Jvm.Cond.code ⟨"java/util/Arrays", "copyOfRangeByte", "([BII)[B"⟩ jdk_65_method_133_code 5 (some (.array .byte))).before args0 about1 = true := code_word (m := ⟨13, 4⟩) (meth := k13m4) (c := k13c4) (by decide +kernel) rfl rfl rfl (by decide +kernel)
set_option maxRecDepth 65536 in
theorem w_c37 : (Jvm.Cond.code ⟨"java/util/Arrays", "checkLength", "(II)V"⟩ jdk_65_method_131_code 2 none).before args0 about1 = true := code_word (m := ⟨13, 2⟩) (meth := k13m2) (c := k13c2) (by decide +kernel) rfl rfl rfl (by decide +kernel)
set_option maxRecDepth 65536 in
theorem w_c38 : (Jvm.Cond.code ⟨"com/example/aligned_index/alignedindex/inspect/InspectorEscapePinLaw", "w", "(C)I"⟩ method_5_code 1 (some .int)).before args0 about1 = true := code_word (m := ⟨1, 4⟩) (meth := k1m4) (c := k1c4) (by decide +kernel) rfl rfl rfl (by decide +kernel)
set_option maxRecDepth 65536 in
theorem w_c39 : (Jvm.Cond.code ⟨"com/example/aligned_index/alignedindex/inspect/InspectorEscapePinLaw", "special", "(C)Z"⟩ method_3_code 1 (some .boolean)).before args0 about1 = true := code_word (m := ⟨1, 2⟩) (meth := k1m2) (c := k1c2) (by decide +kernel) rfl rfl rfl (by decide +kernel)
set_option maxRecDepth 65536 in
theorem w_c40 : (Jvm.Cond.code ⟨"com/example/aligned_index/alignedindex/inspect/InspectorEscapePinLaw", "at", "(Ljava/lang/String;IC)Z"⟩ method_6_code 3 (some .boolean)).before args0 about1 = true := code_word (m := ⟨1, 5⟩) (meth := k1m5) (c := k1c5) (by decide +kernel) rfl rfl rfl (by decide +kernel)
set_option maxRecDepth 65536 in
theorem w_c41 : (Jvm.Cond.code ⟨"java/lang/String", "charAt", "(I)C"⟩ jdk_42_method_56_code 2 (some .char)).before args0 about1 = true := code_word (m := ⟨7, 4⟩) (meth := k7m4) (c := k7c4) (by decide +kernel) rfl rfl rfl (by decide +kernel)
set_option maxRecDepth 65536 in
theorem w_c42 : (Jvm.Cond.code ⟨"java/lang/StringLatin1", "charAt", "([BI)C"⟩ jdk_43_method_2_code 2 (some .char)).before args0 about1 = true := code_word (m := ⟨12, 1⟩) (meth := k12m1) (c := k12c1) (by decide +kernel) rfl rfl rfl (by decide +kernel)
set_option maxRecDepth 65536 in
theorem w_c43 : (Jvm.Cond.code ⟨"java/lang/String", "checkIndex", "(II)V"⟩ jdk_42_method_155_code 2 none).before args0 about1 = true := code_word (m := ⟨7, 11⟩) (meth := k7m11) (c := k7c11) (by decide +kernel) rfl rfl rfl (by decide +kernel)
set_option maxRecDepth 65536 in
theorem w_c44 : (Jvm.Cond.code ⟨"jdk/internal/util/Preconditions", "checkIndex", "(IILjava/util/function/BiFunction;)I"⟩ jdk_41_method_11_code 3 (some .int)).before args0 about1 = true := code_word (m := ⟨19, 1⟩) (meth := k19m1) (c := k19c1) (by decide +kernel) rfl rfl rfl (by decide +kernel)
set_option maxRecDepth 65536 in
theorem w_c45 : (Jvm.Cond.code ⟨"com/example/aligned_index/alignedindex/inspect/InspectorEscapePinLaw", "code", "(C)C"⟩ method_4_code 1 (some .char)).before args0 about1 = true := code_word (m := ⟨1, 3⟩) (meth := k1m3) (c := k1c3) (by decide +kernel) rfl rfl rfl (by decide +kernel)
set_option maxRecDepth 65536 in
theorem w_c46 : (Jvm.Cond.code ⟨"java/lang/StringBuilder", "append", "(C)Ljava/lang/StringBuilder;"⟩ jdk_67_method_14_code 2 (some (.object "java/lang/StringBuilder"))).before args0 about1 = true := code_word (m := ⟨11, 3⟩) (meth := k11m3) (c := k11c3) (by decide +kernel) rfl rfl rfl (by decide +kernel)
set_option maxRecDepth 65536 in
theorem w_c47 : (Jvm.Cond.code ⟨"java/lang/AbstractStringBuilder", "append", "(C)Ljava/lang/AbstractStringBuilder;"⟩ jdk_68_method_31_code 2 (some (.object "java/lang/AbstractStringBuilder"))).before args0 about1 = true := code_word (m := ⟨10, 7⟩) (meth := k10m7) (c := k10c7) (by decide +kernel) rfl rfl rfl (by decide +kernel)
set_option maxRecDepth 65536 in
theorem w_c48 : (Jvm.Cond.code ⟨"java/lang/StringLatin1", "canEncode", "(C)Z"⟩ jdk_43_method_3_code 1 (some .boolean)).before args0 about1 = true := code_word (m := ⟨12, 2⟩) (meth := k12m2) (c := k12c2) (by decide +kernel) rfl rfl rfl (by decide +kernel)
set_option maxRecDepth 65536 in
theorem w_c49 : (Jvm.Cond.code ⟨"java/lang/StringUTF16", "toBytes", "([CII)[B"⟩ jdk_52_method_14_code 5 (some (.array .byte))).before args0 about1 = true := code_word (m := ⟨15, 7⟩) (meth := k15m7) (c := k15c7) (by decide +kernel) rfl rfl rfl (by decide +kernel)
set_option maxRecDepth 65536 in
theorem w_c50 : (Jvm.Cond.code ⟨"java/lang/StringUTF16", "newBytesFor", "(I)[B"⟩ jdk_52_method_2_code 1 (some (.array .byte))).before args0 about1 = true := code_word (m := ⟨15, 1⟩) (meth := k15m1) (c := k15c1) (by decide +kernel) rfl rfl rfl (by decide +kernel)
set_option maxRecDepth 65536 in
theorem w_c51 : (Jvm.Cond.code ⟨"java/lang/StringUTF16", "newBytesLength", "(I)I"⟩ jdk_52_method_3_code 1 (some .int)).before args0 about1 = true := code_word (m := ⟨15, 2⟩) (meth := k15m2) (c := k15c2) (by decide +kernel) rfl rfl rfl (by decide +kernel)
set_option maxRecDepth 65536 in
theorem w_c52 : (Jvm.Cond.code ⟨"java/lang/StringUTF16", "putChar", "([BII)V"⟩ jdk_52_method_4_code 3 none).before args0 about1 = true := code_word (m := ⟨15, 3⟩) (meth := k15m3) (c := k15c3) (by decide +kernel) rfl rfl rfl (by decide +kernel)
set_option maxRecDepth 65536 in
theorem w_c53 : (Jvm.Cond.code ⟨"java/lang/StringUTF16", "getChar", "([BI)C"⟩ jdk_52_method_5_code 2 (some .char)).before args0 about1 = true := code_word (m := ⟨15, 4⟩) (meth := k15m4) (c := k15c4) (by decide +kernel) rfl rfl rfl (by decide +kernel)
set_option maxRecDepth 65536 in
theorem w_c54 : (Jvm.Cond.code ⟨"java/lang/StringUTF16", "toChars", "([B)[C"⟩ jdk_52_method_13_code 2 (some (.array .char))).before args0 about1 = true := code_word (m := ⟨15, 6⟩) (meth := k15m6) (c := k15c6) (by decide +kernel) rfl rfl rfl (by decide +kernel)
set_option maxRecDepth 65536 in
theorem w_c55 : (Jvm.Cond.code ⟨"java/lang/StringUTF16", "getChars", "([BII[CI)V"⟩ jdk_52_method_26_code 6 none).before args0 about1 = true := code_word (m := ⟨15, 11⟩) (meth := k15m11) (c := k15c11) (by decide +kernel) rfl rfl rfl (by decide +kernel)
set_option maxRecDepth 65536 in
theorem w_c56 : (Jvm.Cond.code ⟨"java/lang/StringUTF16", "checkBoundsOffCount", "(II[B)V"⟩ jdk_52_method_94_code 3 none).before args0 about1 = true := code_word (m := ⟨15, 16⟩) (meth := k15m16) (c := k15c16) (by decide +kernel) rfl rfl rfl (by decide +kernel)
set_option maxRecDepth 65536 in
theorem w_c57 : (Jvm.Cond.code ⟨"java/lang/StringUTF16", "length", "([B)I"⟩ jdk_52_method_6_code 1 (some .int)).before args0 about1 = true := code_word (m := ⟨15, 5⟩) (meth := k15m5) (c := k15c5) (by decide +kernel) rfl rfl rfl (by decide +kernel)
set_option maxRecDepth 65536 in
theorem w_c58 : (Jvm.Cond.code ⟨"java/lang/String", "checkBoundsOffCount", "(III)I"⟩ jdk_42_method_157_code 3 (some .int)).before args0 about1 = true := code_word (m := ⟨7, 12⟩) (meth := k7m12) (c := k7c12) (by decide +kernel) rfl rfl rfl (by decide +kernel)
set_option maxRecDepth 65536 in
theorem w_c59 : (Jvm.Cond.code ⟨"jdk/internal/util/Preconditions", "checkFromIndexSize", "(IIILjava/util/function/BiFunction;)I"⟩ jdk_41_method_13_code 4 (some .int)).before args0 about1 = true := code_word (m := ⟨19, 2⟩) (meth := k19m2) (c := k19c2) (by decide +kernel) rfl rfl rfl (by decide +kernel)
set_option maxRecDepth 65536 in
theorem w_c60 : (Jvm.Cond.code ⟨"java/lang/AbstractStringBuilder", "inflate", "()V"⟩ jdk_68_method_11_code 2 none).before args0 about1 = true := code_word (m := ⟨10, 5⟩) (meth := k10m5) (c := k10c5) (by decide +kernel) rfl rfl rfl (by decide +kernel)
set_option maxRecDepth 65536 in
theorem w_c61 : (Jvm.Cond.code ⟨"java/lang/StringLatin1", "inflate", "([BI[BII)V"⟩ jdk_43_method_50_code 5 none).before args0 about1 = true := code_word (m := ⟨12, 5⟩) (meth := k12m5) (c := k12c5) (by decide +kernel) rfl rfl rfl (by decide +kernel)
set_option maxRecDepth 65536 in
theorem w_c62 : (Jvm.Cond.code ⟨"java/lang/StringUTF16", "inflate", "([BI[BII)V"⟩ jdk_52_method_86_code 6 none).before args0 about1 = true := code_word (m := ⟨15, 14⟩) (meth := k15m14) (c := k15c14) (by decide +kernel) rfl rfl rfl (by decide +kernel)
set_option maxRecDepth 65536 in
theorem w_c63 : (Jvm.Cond.code ⟨"java/lang/StringUTF16", "putCharSB", "([BII)V"⟩ jdk_52_method_71_code 3 none).before args0 about1 = true := code_word (m := ⟨15, 12⟩) (meth := k15m12) (c := k15c12) (by decide +kernel) rfl rfl rfl (by decide +kernel)
set_option maxRecDepth 65536 in
theorem w_c64 : (Jvm.Cond.code ⟨"java/lang/StringUTF16", "checkIndex", "(I[B)V"⟩ jdk_52_method_91_code 2 none).before args0 about1 = true := code_word (m := ⟨15, 15⟩) (meth := k15m15) (c := k15c15) (by decide +kernel) rfl rfl rfl (by decide +kernel)
set_option maxRecDepth 65536 in
theorem w_c65 : (Jvm.Cond.code ⟨"java/lang/StringUTF16", "charAt", "([BI)C"⟩ jdk_52_method_83_code 2 (some .char)).before args0 about1 = true := code_word (m := ⟨15, 13⟩) (meth := k15m13) (c := k15c13) (by decide +kernel) rfl rfl rfl (by decide +kernel)
def codes1 : List Jvm.Cond := [.code x code maxLocals ret, .code ⟨"com/example/aligned_index/alignedindex/inspect/InspectorEscapePinLaw", "pick", "(I)C"⟩ method_2_code 2 (some .char), .code ⟨"java/lang/String", "<init>", "([C)V"⟩ jdk_42_method_3_code 2 none, .code ⟨"java/lang/String", "<init>", "([CIILjava/lang/Void;)V"⟩ jdk_42_method_149_code 6 none, .code ⟨"java/lang/Object", "<init>", "()V"⟩ object_method_1_code 1 none, .code ⟨"com/example/aligned_index/alignedindex/inspect/Inspector", "escape", "(Ljava/lang/String;)Ljava/lang/String;"⟩ prog_22_method_4_code 6 (some (.object "java/lang/String")), .code ⟨"java/lang/String", "length", "()I"⟩ jdk_42_method_54_code 1 (some .int), .code ⟨"java/lang/String", "coder", "()B"⟩ jdk_42_method_152_code 1 (some .byte), .code ⟨"java/lang/StringBuilder", "<init>", "(I)V"⟩ jdk_67_method_2_code 2 none, .code ⟨"java/lang/AbstractStringBuilder", "<init>", "(I)V"⟩ jdk_68_method_2_code 2 none, .code ⟨"java/lang/String", "toCharArray", "()[C"⟩ jdk_42_method_129_code 1 (some (.array .char)), .code ⟨"java/lang/String", "isLatin1", "()Z"⟩ jdk_42_method_154_code 1 (some .boolean), .code ⟨"java/lang/StringLatin1", "toChars", "([B)[C"⟩ jdk_43_method_9_code 2 (some (.array .char)), .code ⟨"java/lang/StringLatin1", "inflate", "([BI[CII)V"⟩ jdk_43_method_49_code 6 none, .code ⟨"java/lang/StringBuilder", "toString", "()Ljava/lang/String;"⟩ jdk_67_method_42_code 1 (some (.object "java/lang/String")), .code ⟨"java/lang/String", "<init>", "(Ljava/lang/StringBuilder;)V"⟩ jdk_42_method_53_code 2 none, .code ⟨"java/lang/String", "<init>", "(Ljava/lang/AbstractStringBuilder;Ljava/lang/Void;)V"⟩ jdk_42_method_150_code 5 none, .code ⟨"java/lang/AbstractStringBuilder", "getValue", "()[B"⟩ jdk_68_method_64_code 1 (some (.array .byte)), .code ⟨"java/lang/StringBuilder", "length", "()I"⟩ jdk_67_method_93_code 1 (some .int), .code ⟨"java/lang/AbstractStringBuilder", "length", "()I"⟩ jdk_68_method_6_code 1 (some .int), .code ⟨"java/lang/AbstractStringBuilder", "isLatin1", "()Z"⟩ jdk_68_method_68_code 1 (some .boolean), .code ⟨"java/util/Arrays", "copyOfRange", "([BII)[B"⟩ jdk_65_method_132_code 3 (some (.array .byte)), .code ⟨"java/lang/StringUTF16", "compress", "([CII)[B"⟩ jdk_52_method_16_code 6 (some (.array .byte)), .code ⟨"java/lang/StringUTF16", "compress", "([CI[BII)I"⟩ jdk_52_method_21_code 7 (some .int), .code ⟨"java/lang/StringUTF16", "coderFromArrayLen", "([BI)B"⟩ jdk_52_method_15_code 2 (some .byte), .code ⟨"java/lang/StringBuilder", "append", "(Ljava/lang/String;)Ljava/lang/StringBuilder;"⟩ jdk_67_method_7_code 2 (some (.object "java/lang/StringBuilder")), .code ⟨"java/lang/AbstractStringBuilder", "append", "(Ljava/lang/String;)Ljava/lang/AbstractStringBuilder;"⟩ jdk_68_method_22_code 3 (some (.object "java/lang/AbstractStringBuilder")), .code ⟨"java/lang/AbstractStringBuilder", "ensureCapacityInternal", "(I)V"⟩ jdk_68_method_9_code 3 none, .code ⟨"java/lang/AbstractStringBuilder", "putStringAt", "(ILjava/lang/String;)V"⟩ jdk_68_method_73_code 3 none, .code ⟨"java/lang/AbstractStringBuilder", "inflateIfNeededFor", "(Ljava/lang/String;)V"⟩ jdk_68_method_71_code 2 none, .code ⟨"java/lang/String", "getBytes", "([BIB)V"⟩ jdk_42_method_147_code 4 none, .code ⟨"java/lang/AbstractStringBuilder", "newCapacity", "(I)I"⟩ jdk_68_method_10_code 6 (some .int), .code ⟨"jdk/internal/util/ArraysSupport", "newLength", "(III)I"⟩ jdk_48_method_27_code 4 (some .int), .code ⟨"java/lang/Math", "max", "(II)I"⟩ jdk_29_method_65_code 2 (some .int), .code ⟨"java/util/Arrays", "copyOf", "([BI)[B"⟩ jdk_65_method_121_code 3 (some (.array .byte)), .code ⟨"java/lang/Math", "min", "(II)I"⟩ jdk_29_method_69_code 2 (some .int), .code ⟨"java/util/Arrays", "copyOfRangeByte", "([BII)[B"⟩ jdk_65_method_133_code 5 (some (.array .byte)), .code ⟨"java/util/Arrays", "checkLength", "(II)V"⟩ jdk_65_method_131_code 2 none, .code ⟨"com/example/aligned_index/alignedindex/inspect/InspectorEscapePinLaw", "w", "(C)I"⟩ method_5_code 1 (some .int), .code ⟨"com/example/aligned_index/alignedindex/inspect/InspectorEscapePinLaw", "special", "(C)Z"⟩ method_3_code 1 (some .boolean), .code ⟨"com/example/aligned_index/alignedindex/inspect/InspectorEscapePinLaw", "at", "(Ljava/lang/String;IC)Z"⟩ method_6_code 3 (some .boolean), .code ⟨"java/lang/String", "charAt", "(I)C"⟩ jdk_42_method_56_code 2 (some .char), .code ⟨"java/lang/StringLatin1", "charAt", "([BI)C"⟩ jdk_43_method_2_code 2 (some .char), .code ⟨"java/lang/String", "checkIndex", "(II)V"⟩ jdk_42_method_155_code 2 none, .code ⟨"jdk/internal/util/Preconditions", "checkIndex", "(IILjava/util/function/BiFunction;)I"⟩ jdk_41_method_11_code 3 (some .int), .code ⟨"com/example/aligned_index/alignedindex/inspect/InspectorEscapePinLaw", "code", "(C)C"⟩ method_4_code 1 (some .char), .code ⟨"java/lang/StringBuilder", "append", "(C)Ljava/lang/StringBuilder;"⟩ jdk_67_method_14_code 2 (some (.object "java/lang/StringBuilder")), .code ⟨"java/lang/AbstractStringBuilder", "append", "(C)Ljava/lang/AbstractStringBuilder;"⟩ jdk_68_method_31_code 2 (some (.object "java/lang/AbstractStringBuilder")), .code ⟨"java/lang/StringLatin1", "canEncode", "(C)Z"⟩ jdk_43_method_3_code 1 (some .boolean), .code ⟨"java/lang/StringUTF16", "toBytes", "([CII)[B"⟩ jdk_52_method_14_code 5 (some (.array .byte)), .code ⟨"java/lang/StringUTF16", "newBytesFor", "(I)[B"⟩ jdk_52_method_2_code 1 (some (.array .byte)), .code ⟨"java/lang/StringUTF16", "newBytesLength", "(I)I"⟩ jdk_52_method_3_code 1 (some .int), .code ⟨"java/lang/StringUTF16", "putChar", "([BII)V"⟩ jdk_52_method_4_code 3 none, .code ⟨"java/lang/StringUTF16", "getChar", "([BI)C"⟩ jdk_52_method_5_code 2 (some .char), .code ⟨"java/lang/StringUTF16", "toChars", "([B)[C"⟩ jdk_52_method_13_code 2 (some (.array .char)), .code ⟨"java/lang/StringUTF16", "getChars", "([BII[CI)V"⟩ jdk_52_method_26_code 6 none, .code ⟨"java/lang/StringUTF16", "checkBoundsOffCount", "(II[B)V"⟩ jdk_52_method_94_code 3 none, .code ⟨"java/lang/StringUTF16", "length", "([B)I"⟩ jdk_52_method_6_code 1 (some .int), .code ⟨"java/lang/String", "checkBoundsOffCount", "(III)I"⟩ jdk_42_method_157_code 3 (some .int), .code ⟨"jdk/internal/util/Preconditions", "checkFromIndexSize", "(IIILjava/util/function/BiFunction;)I"⟩ jdk_41_method_13_code 4 (some .int), .code ⟨"java/lang/AbstractStringBuilder", "inflate", "()V"⟩ jdk_68_method_11_code 2 none, .code ⟨"java/lang/StringLatin1", "inflate", "([BI[BII)V"⟩ jdk_43_method_50_code 5 none, .code ⟨"java/lang/StringUTF16", "inflate", "([BI[BII)V"⟩ jdk_52_method_86_code 6 none, .code ⟨"java/lang/StringUTF16", "putCharSB", "([BII)V"⟩ jdk_52_method_71_code 3 none, .code ⟨"java/lang/StringUTF16", "checkIndex", "(I[B)V"⟩ jdk_52_method_91_code 2 none, .code ⟨"java/lang/StringUTF16", "charAt", "([BI)C"⟩ jdk_52_method_83_code 2 (some .char)]
set_option maxRecDepth 65536 in
theorem codes_eq : words1.filter isCode = codes1 := rfl
theorem w_codes : ∀ c ∈ words1.filter isCode, c.before args0 about1 = true := by
  rw [codes_eq]
  intro c hc
  simp only [codes1, List.mem_cons, List.not_mem_nil, or_false] at hc
  rcases hc with rfl | rfl | rfl | rfl | rfl | rfl | rfl | rfl | rfl | rfl | rfl | rfl | rfl | rfl | rfl | rfl | rfl | rfl | rfl | rfl | rfl | rfl | rfl | rfl | rfl | rfl | rfl | rfl | rfl | rfl | rfl | rfl | rfl | rfl | rfl | rfl | rfl | rfl | rfl | rfl | rfl | rfl | rfl | rfl | rfl | rfl | rfl | rfl | rfl | rfl | rfl | rfl | rfl | rfl | rfl | rfl | rfl | rfl | rfl | rfl | rfl | rfl | rfl | rfl | rfl | rfl
  · exact w_c0
  · exact w_c1
  · exact w_c2
  · exact w_c3
  · exact w_c4
  · exact w_c5
  · exact w_c6
  · exact w_c7
  · exact w_c8
  · exact w_c9
  · exact w_c10
  · exact w_c11
  · exact w_c12
  · exact w_c13
  · exact w_c14
  · exact w_c15
  · exact w_c16
  · exact w_c17
  · exact w_c18
  · exact w_c19
  · exact w_c20
  · exact w_c21
  · exact w_c22
  · exact w_c23
  · exact w_c24
  · exact w_c25
  · exact w_c26
  · exact w_c27
  · exact w_c28
  · exact w_c29
  · exact w_c30
  · exact w_c31
  · exact w_c32
  · exact w_c33
  · exact w_c34
  · exact w_c35
  · exact w_c36
  · exact w_c37
  · exact w_c38
  · exact w_c39
  · exact w_c40
  · exact w_c41
  · exact w_c42
  · exact w_c43
  · exact w_c44
  · exact w_c45
  · exact w_c46
  · exact w_c47
  · exact w_c48
  · exact w_c49
  · exact w_c50
  · exact w_c51
  · exact w_c52
  · exact w_c53
  · exact w_c54
  · exact w_c55
  · exact w_c56
  · exact w_c57
  · exact w_c58
  · exact w_c59
  · exact w_c60
  · exact w_c61
  · exact w_c62
  · exact w_c63
  · exact w_c64
  · exact w_c65
set_option maxRecDepth 65536 in
theorem w_t1 : (words1.take 24).all (fun c => isCode c || c.before args0 about1) = true := by decide +kernel
set_option maxRecDepth 65536 in
theorem w_t2 : ((words1.drop 24).take 24).all (fun c => isCode c || c.before args0 about1) = true := by decide +kernel
set_option maxRecDepth 65536 in
theorem w_t3 : (((words1.drop 24).drop 24).take 24).all (fun c => isCode c || c.before args0 about1) = true := by decide +kernel
set_option maxRecDepth 65536 in
theorem w_t4 : ((((words1.drop 24).drop 24).drop 24).take 24).all (fun c => isCode c || c.before args0 about1) = true := by decide +kernel
set_option maxRecDepth 65536 in
theorem w_t5 : (((((words1.drop 24).drop 24).drop 24).drop 24).take 24).all (fun c => isCode c || c.before args0 about1) = true := by decide +kernel
set_option maxRecDepth 65536 in
theorem w_t6 : ((((((words1.drop 24).drop 24).drop 24).drop 24).drop 24).take 24).all (fun c => isCode c || c.before args0 about1) = true := by decide +kernel
set_option maxRecDepth 65536 in
theorem w_t7 : (((((((words1.drop 24).drop 24).drop 24).drop 24).drop 24).drop 24).take 24).all (fun c => isCode c || c.before args0 about1) = true := by decide +kernel
set_option maxRecDepth 65536 in
theorem w_t8 : ((((((((words1.drop 24).drop 24).drop 24).drop 24).drop 24).drop 24).drop 24).take 24).all (fun c => isCode c || c.before args0 about1) = true := by decide +kernel
set_option maxRecDepth 65536 in
theorem w_t9 : (((((((((words1.drop 24).drop 24).drop 24).drop 24).drop 24).drop 24).drop 24).drop 24).take 24).all (fun c => isCode c || c.before args0 about1) = true := by decide +kernel
set_option maxRecDepth 65536 in
theorem w_t10 : ((((((((((words1.drop 24).drop 24).drop 24).drop 24).drop 24).drop 24).drop 24).drop 24).drop 24).take 24).all (fun c => isCode c || c.before args0 about1) = true := by decide +kernel
set_option maxRecDepth 65536 in
theorem w_t11 : (((((((((((words1.drop 24).drop 24).drop 24).drop 24).drop 24).drop 24).drop 24).drop 24).drop 24).drop 24).take 24).all (fun c => isCode c || c.before args0 about1) = true := by decide +kernel
set_option maxRecDepth 65536 in
theorem w_t12 : ((((((((((((words1.drop 24).drop 24).drop 24).drop 24).drop 24).drop 24).drop 24).drop 24).drop 24).drop 24).drop 24).take 24).all (fun c => isCode c || c.before args0 about1) = true := by decide +kernel
set_option maxRecDepth 65536 in
theorem w_t13 : ((((((((((((words1.drop 24).drop 24).drop 24).drop 24).drop 24).drop 24).drop 24).drop 24).drop 24).drop 24).drop 24).drop 24).all (fun c => isCode c || c.before args0 about1) = true := by decide +kernel
theorem w_tables : (allAtoms (Jvm.Cond.code x code maxLocals ret :: tables_1)).before args0 about1 = true := by
  rw [allAtoms_all]
  show words1.all (fun c => c.before args0 about1) = true
  refine all_split ?_ w_codes
  rw [← List.take_append_drop 24 words1, List.all_append, w_t1, ← List.take_append_drop 24 (words1.drop 24), List.all_append, w_t2, ← List.take_append_drop 24 ((words1.drop 24).drop 24), List.all_append, w_t3, ← List.take_append_drop 24 (((words1.drop 24).drop 24).drop 24), List.all_append, w_t4, ← List.take_append_drop 24 ((((words1.drop 24).drop 24).drop 24).drop 24), List.all_append, w_t5, ← List.take_append_drop 24 (((((words1.drop 24).drop 24).drop 24).drop 24).drop 24), List.all_append, w_t6, ← List.take_append_drop 24 ((((((words1.drop 24).drop 24).drop 24).drop 24).drop 24).drop 24), List.all_append, w_t7, ← List.take_append_drop 24 (((((((words1.drop 24).drop 24).drop 24).drop 24).drop 24).drop 24).drop 24), List.all_append, w_t8, ← List.take_append_drop 24 ((((((((words1.drop 24).drop 24).drop 24).drop 24).drop 24).drop 24).drop 24).drop 24), List.all_append, w_t9, ← List.take_append_drop 24 (((((((((words1.drop 24).drop 24).drop 24).drop 24).drop 24).drop 24).drop 24).drop 24).drop 24), List.all_append, w_t10, ← List.take_append_drop 24 ((((((((((words1.drop 24).drop 24).drop 24).drop 24).drop 24).drop 24).drop 24).drop 24).drop 24).drop 24), List.all_append, w_t11, ← List.take_append_drop 24 (((((((((((words1.drop 24).drop 24).drop 24).drop 24).drop 24).drop 24).drop 24).drop 24).drop 24).drop 24).drop 24), List.all_append, w_t12, w_t13]
  rfl
set_option maxRecDepth 65536 in
theorem w_rest : rest_1_c.before args0 about1 = true := by decide +kernel
set_option maxRecDepth 65536 in
theorem w_case : (Jvm.Cond.and given_1 narrow_1).before args0 about1 = true := by decide +kernel
set_option maxRecDepth 65536 in
theorem w_consts : constsHeld consts_1 about1 := Jvm.Lit.constsHeldB_iff.mp (by decide +kernel)
theorem w_applies : (headSpec (Jvm.Cond.code x code maxLocals ret :: tables_1) room_1).applies x e0.platform about1 = true :=
  (Spec.applies_iff w_frames).mpr ⟨w_running, w_runnable, w_alone, w_named, w_hears, w_ripe, w_room, w_tables⟩
set_option maxRecDepth 65536 in
theorem atStart : AtStart classFile x code maxLocals ret World_1 tables_1 room_1 Calls_1 rest_1 Pre_1 launch0 p0 e0 about1 theMethod args0 below0 :=
  ⟨lists_1, trivial, launch0.admits_env _ _ _, launch0.least_env, fairChoices_fair.cas, fairChoices_fair.clock, w_frames, w_args, w_heap, w_applies, ⟨w_consts, trivial⟩, w_rest, w_case⟩
end start1
theorem witness_1 : WitnessClaimed_1 := ⟨start1.p0, start1.e0, start1.about1, start1.theMethod, start1.args0, start1.below0, start1.atStart⟩
end Jvm.Pilot.@@N@@
