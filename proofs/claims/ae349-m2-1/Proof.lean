import JvmDerived
import JvmDerived.Pilot.@@N@@Statement
import JvmDerived.Pilot.@@N@@Code
set_option linter.unusedVariables false
set_option linter.unusedSimpArgs false
namespace Jvm.Pilot.@@N@@
open Jvm Jvm.ClassFile Sem Op Lib Jvm.Free Jvm.Stand Jvm.LawKit Jvm.RoadKit Bundle Jvm.Pilot.@@N@@.Jvm.D
/-! the walk, forward: own_G: from here the run comes to an end that meets P -/
def own_G (tb : Tables) (e : Env) (below : List Frame) (P : Outcome → State → Prop) (a : State) : Prop := ∃ s₂ o, Steps tb e below a s₂ ∧ s₂.status = .running ∧ Ended s₂ below o ∧ P o s₂
def own_c (x : Int32) : Int32 := x.toUInt32.toUInt16.toUInt32.toInt32
section OwnKit
variable {tb : Tables} {p : Program} {l : Launch} {e : Env} {R : Room} {s : State} {m : MethodId} {args : Array Value} {below : List Frame} {meth : Method} {c : Code} {T : State} {locs : List Loc} {cells slots : Nat} {P : Outcome → State → Prop} {a b : State} {h : Heap} {Z : State} {a0 : Array Value}
theorem own_w {d : Jvm.Cond} (hw : ∀ d ∈ tables_1, d.before a0 Z = true) (k : Nat) (h : tables_1[k]? = some d) : d.before a0 Z = true := hw _ (List.mem_of_getElem? h)
theorem own_G.go (h : ∀ t, Steps tb e below b t → Steps tb e below a t) (k : own_G tb e below P b) : own_G tb e below P a := by
  obtain ⟨s₂, o, h1, h2⟩ := k
  exact ⟨s₂, o, h _ h1, h2⟩
theorem own_G.via (h : Steps tb e below a b) (k : own_G tb e below P b) : own_G tb e below P a := own_G.go (fun _ q => h.trans q) k
theorem own_G.cast {g g' : JFrame} (q : g = g') (k : own_G tb e below P (T.setTop g')) : own_G tb e below P (T.setTop g) := q ▸ k
theorem own_G.end_ (X : Stand p l e R s m args below meth c T locs cells slots) (hlk : meth.locks = false) {v : Option Value} (hv : meth.sig.returnType = none → v = none)
    (st : ∀ fs, (∀ (f : JFrame) (acts : List Action), f.method = m → f.locked = none → f.entered = [] → (doReturn e (T.setTop f) acts v).1 = T.setFrames fs) → Steps p.tables e below a (T.setFrames fs))
    {Q : Option Value → Heap → List Loc → Prop} {rc rs : Nat} (eT : T.heap = h) (hQ : Q v h locs) (hc : cells ≤ rc) (hs : slots ≤ rs) :
    own_G p.tables e below (fun o t => ∃ v L, o = .returned v ∧ Q v t.heap L ∧ FrameEnd s o t L rc rs) a := by
  obtain ⟨fs, hr, hrun, hended, hW, hsame⟩ := X.leave hv
  subst eT
  exact ⟨_, _, st fs hr, hrun, hended, _, _, rfl, hQ, ⟨_, rfl⟩, hW, hsame.mono hc hs⟩
/-! calls by a payer of backOf's shape -/
theorem own_callS (X : Stand p l e R s m args below meth c T locs cells slots) (hx : p.tables.exec = Jvm.exec) {own : String} {index : Nat} {y : MethodName} {bytes : ByteArray} {maxL : Nat} {ret : Option FieldType}
    (hown : s.vm.findClass own = some m.cls) (hlink : (Jvm.Cond.methodLink own index y).before args s = true) (hstat : (Jvm.Cond.static y).before args s = true) (hinit : (Jvm.Cond.initialized y.cls).before args s = true) (hcode : (Jvm.Cond.code y bytes maxL ret).before args s = true)
    (hy : y.cls ≠ "java/lang/invoke/MethodHandle" ∧ y.cls ≠ "java/lang/invoke/VarHandle") {W rc rs : Nat} {as' : Array Value} {Q : Option Value → Heap → List Loc → Prop}
    (hK : Back l R p e below s args y 3 W (fun A a => a = as' ∧ A.U.heap = h ∧ A.cells + rc ≤ R.cells ∧ A.slots + rs ≤ R.slots) (fun A _ v B => ∃ L, Q v B.U.heap L ∧ B.locs = A.locs ++ L ∧ B.cells = A.cells + rc ∧ B.slots = A.slots + rs))
    {g : JFrame} (hg : g.method = m) (hsize : g.locals.size = c.maxLocals) {argsL rest : List Value} (hlen : ∀ sig, parseMethodDescriptor y.desc = some sig → argsL.length = sig.parameters.length)
    (hstack : g.stack = argsL.reverse ++ rest) (hW : 2 * g.monitorRoom + (rest.map fun v => v.category).sum ≤ W) (hdg : decode c.code g.pc = .ok (.invokestatic index, 3))
    (eT : T.heap = h) (has : argsL.toArray = as') (hc : cells + rc ≤ R.cells) (hs : slots + rs ≤ R.slots) :
    ∃ (v : Option Value) (T' : State) (L : List Loc), Q v T'.heap L ∧ Stand p l e R s m args below meth c T' (locs ++ L) (cells + rc) (slots + rs) ∧ Steps p.tables e below (T.setTop g) (T'.setTop { g with pc := g.pc + 3, stack := v.toList ++ rest }) := by
  obtain ⟨v, vm₁, ⟨T', L', k', n'⟩, -, X', ⟨L, hQ, l1, l2, l3⟩, st⟩ := Jvm.LawKit.callS X hx hown hlink hstat hinit hcode hy hK hg hsize hlen hstack hW hdg (fun _ _ => ⟨has, eT, hc, hs⟩)
  dsimp only [Pt.U, Pt.locs, Pt.cells, Pt.slots] at X' l1 l2 l3 st hQ
  subst l1 l2 l3
  exact ⟨v, T', L, hQ, X', st _ (Steps.refl _)⟩
theorem own_callI (X : Stand p l e R s m args below meth c T locs cells slots) (hx : p.tables.exec = Jvm.exec) {own : String} {index : Nat} {y : MethodName} (hy1 : y.name = "<init>") {bytes : ByteArray} {maxL : Nat}
    (hown : s.vm.findClass own = some m.cls) (hlink : (Jvm.Cond.methodLink own index y).before args s = true) (hinst : (Jvm.Cond.instanceMethod y).before args s = true) (hcode : (Jvm.Cond.code y bytes maxL none).before args s = true)
    (hy : y.cls ≠ "java/lang/invoke/MethodHandle" ∧ y.cls ≠ "java/lang/invoke/VarHandle") {W rc rs : Nat} {as' : Array Value} {Q : Option Value → Heap → List Loc → Prop}
    (hK : Back l R p e below s args y 3 W (fun A a => a = as' ∧ A.U.heap = h ∧ A.cells + rc ≤ R.cells ∧ A.slots + rs ≤ R.slots) (fun A _ v B => ∃ L, Q v B.U.heap L ∧ B.locs = A.locs ++ L ∧ B.cells = A.cells + rc ∧ B.slots = A.slots + rs))
    {a : Addr} {g : JFrame} (hg : g.method = m) (hsize : g.locals.size = c.maxLocals) {argsL rest : List Value} (hlen : ∀ sig, parseMethodDescriptor y.desc = some sig → argsL.length = sig.parameters.length)
    (hstack : g.stack = argsL.reverse ++ .ref a :: rest) (hW : 2 * g.monitorRoom + (rest.map fun v => v.category).sum ≤ W) (hdg : decode c.code g.pc = .ok (.invokespecial index, 3))
    (eT : T.heap = h) (has : (.ref a :: argsL).toArray = as') (hc : cells + rc ≤ R.cells) (hs : slots + rs ≤ R.slots) :
    ∃ (v : Option Value) (T' : State) (L : List Loc), Q v T'.heap L ∧ Stand p l e R s m args below meth c T' (locs ++ L) (cells + rc) (slots + rs) ∧ Steps p.tables e below (T.setTop g) (T'.setTop { g with pc := g.pc + 3, stack := v.toList ++ rest }) := by
  obtain ⟨v, vm₁, ⟨T', L', k', n'⟩, -, X', ⟨L, hQ, l1, l2, l3⟩, st⟩ := X.specialBack hx hy1 hown hlink hinst hcode hy hK hg hsize (Steps.refl _) hlen hstack hW hdg (fun _ _ => ⟨has, eT, hc, hs⟩)
  dsimp only [Pt.U, Pt.locs, Pt.cells, Pt.slots] at X' l1 l2 l3 st hQ
  subst l1 l2 l3
  exact ⟨v, T', L, hQ, X', st⟩
theorem own_callV (X : Stand p l e R s m args below meth c T locs cells slots) (hx : p.tables.exec = Jvm.exec) {own C : String} {index : Nat} {y z : MethodName}
    (hown : s.vm.findClass own = some m.cls) (hlink : (Jvm.Cond.methodLink own index y).before args s = true) (hdecl : (Jvm.Cond.declares y).before args s = true) (hnf : NotFace s y)
    (hsel : (Jvm.Cond.selects C y z).before args s = true) (hinst : (Jvm.Cond.instanceMethod z).before args s = true)
    (hy : y.cls ≠ "java/lang/invoke/MethodHandle" ∧ y.cls ≠ "java/lang/invoke/VarHandle") {W rc rs : Nat} {as' : Array Value} {Q : Option Value → Heap → List Loc → Prop}
    (hK : Back l R p e below s args z 3 W (fun A a => a = as' ∧ A.U.heap = h ∧ A.cells + rc ≤ R.cells ∧ A.slots + rs ≤ R.slots) (fun A _ v B => ∃ L, Q v B.U.heap L ∧ B.locs = A.locs ++ L ∧ B.cells = A.cells + rc ∧ B.slots = A.slots + rs))
    {b : Addr} {cB : ClassId} (hcB : s.vm.findClass C = some cB) (hrecv : IsOf cB T b)
    {g : JFrame} (hg : g.method = m) (hsize : g.locals.size = c.maxLocals) {argsL rest : List Value} (hlen : ∀ sig, parseMethodDescriptor y.desc = some sig → argsL.length = sig.parameters.length)
    (hstack : g.stack = argsL.reverse ++ .ref b :: rest) (hW : 2 * g.monitorRoom + (rest.map fun v => v.category).sum ≤ W) (hdg : decode c.code g.pc = .ok (.invokevirtual index, 3))
    (eT : T.heap = h) (has : (.ref b :: argsL).toArray = as') (hc : cells + rc ≤ R.cells) (hs : slots + rs ≤ R.slots) :
    ∃ (v : Option Value) (T' : State) (L : List Loc), Q v T'.heap L ∧ Stand p l e R s m args below meth c T' (locs ++ L) (cells + rc) (slots + rs) ∧ Steps p.tables e below (T.setTop g) (T'.setTop { g with pc := g.pc + 3, stack := v.toList ++ rest }) := by
  obtain ⟨v, vm₁, ⟨T', L', k', n'⟩, -, X', ⟨L, hQ, l1, l2, l3⟩, st⟩ := X.virtualBack hx hown hlink hdecl hnf hsel hinst hy hK hcB hrecv hg hsize (Steps.refl _) hlen hstack hW hdg (fun _ _ => ⟨has, eT, hc, hs⟩)
  dsimp only [Pt.U, Pt.locs, Pt.cells, Pt.slots] at X' l1 l2 l3 st hQ
  subst l1 l2 l3
  exact ⟨v, T', L, hQ, X', st⟩
/-! stores into an array whose values are known -/
theorem own_stC {k : ClassId} {n : Int32} {vs : List Value} {d : Value} {a : Addr} (X : Stand p l e R s m args below meth c T locs cells slots) (hx : p.tables.exec = Jvm.exec) (hZ : Z.Warmed39 s.vm) (eT : T.heap = h) (V : Arv Z h a k .char n vs d) {j x : Int32} (i : Nat) (hi : i < vs.length) (hji : j.toNatClampNeg = i) (hj : ¬ j < 0 ∧ j < n)
    {g : JFrame} (hg : g.method = m) {rest : List Value} (hs : g.stack = .int x :: .int j :: .ref a :: rest) (hd : decode c.code g.pc = .ok (.castore, 1)) :
    ∃ T' h', Stand p l e R s m args below meth c T' (locs ++ [⟨a, j.toNatClampNeg⟩]) cells slots ∧ T'.heap = h' ∧ Wr h h' a j.toNatClampNeg (.int (nar .char x)) ∧ Arv Z h' a k .char n (vs.set i (.int (nar .char x))) d ∧ ∀ target, Steps p.tables e below (T'.setTop { g with pc := g.pc + 1, stack := rest }) target → Steps p.tables e below (T.setTop g) target := by
  obtain ⟨cl, A, q, S, M, H, U⟩ := V
  obtain ⟨T', h', X', e', W', st⟩ := stC X hx hZ eT A (j := j) (inb_of S hj) hg hs hd
  exact ⟨T', h', X', e', W', Arv.set A q S M H U (fits_nar_char _) W' i hji hi, st⟩
theorem own_stB {k : ClassId} {n : Int32} {vs : List Value} {d : Value} {a : Addr} (X : Stand p l e R s m args below meth c T locs cells slots) (hx : p.tables.exec = Jvm.exec) (hZ : Z.Warmed39 s.vm) (eT : T.heap = h) (V : Arv Z h a k .byte n vs d) {j x : Int32} (i : Nat) (hi : i < vs.length) (hji : j.toNatClampNeg = i) (hj : ¬ j < 0 ∧ j < n)
    {g : JFrame} (hg : g.method = m) {rest : List Value} (hs : g.stack = .int x :: .int j :: .ref a :: rest) (hd : decode c.code g.pc = .ok (.bastore, 1)) :
    ∃ T' h', Stand p l e R s m args below meth c T' (locs ++ [⟨a, j.toNatClampNeg⟩]) cells slots ∧ T'.heap = h' ∧ Wr h h' a j.toNatClampNeg (.int (nar .byte x)) ∧ Arv Z h' a k .byte n (vs.set i (.int (nar .byte x))) d ∧ ∀ target, Steps p.tables e below (T'.setTop { g with pc := g.pc + 1, stack := rest }) target → Steps p.tables e below (T.setTop g) target := by
  obtain ⟨cl, A, q, S, M, H, U⟩ := V
  obtain ⟨T', h', X', e', W', st⟩ := stB X hx hZ eT A (j := j) (inb_of S hj) hg hs hd
  exact ⟨T', h', X', e', W', Arv.set A q S M H U (fits_nar_byte _) W' i hji hi, st⟩
theorem own_stI {k : ClassId} {n : Int32} {vs : List Value} {d : Value} {a : Addr} (X : Stand p l e R s m args below meth c T locs cells slots) (hx : p.tables.exec = Jvm.exec) (hZ : Z.Warmed39 s.vm) (eT : T.heap = h) (V : Arv Z h a k .int n vs d) {j x : Int32} (i : Nat) (hi : i < vs.length) (hji : j.toNatClampNeg = i) (hj : ¬ j < 0 ∧ j < n)
    {g : JFrame} (hg : g.method = m) {rest : List Value} (hs : g.stack = .int x :: .int j :: .ref a :: rest) (hd : decode c.code g.pc = .ok (.iastore, 1)) :
    ∃ T' h', Stand p l e R s m args below meth c T' (locs ++ [⟨a, j.toNatClampNeg⟩]) cells slots ∧ T'.heap = h' ∧ Wr h h' a j.toNatClampNeg (.int x) ∧ Arv Z h' a k .int n (vs.set i (.int x)) d ∧ ∀ target, Steps p.tables e below (T'.setTop { g with pc := g.pc + 1, stack := rest }) target → Steps p.tables e below (T.setTop g) target := by
  obtain ⟨cl, A, q, S, M, H, U⟩ := V
  obtain ⟨T', h', X', e', W', st⟩ := stI X hx hZ eT A (j := j) (inb_of S hj) hg hs hd
  exact ⟨T', h', X', e', W', Arv.set A q S M H U rfl W' i hji hi, st⟩
end OwnKit
section OwnKitP
variable {p : Program} {l : Launch} {e : Env} {R : Room} {s : State} {m : MethodId} {args : Array Value} {below : List Frame} {meth : Method} {c : Code} {T : State} {locs : List Loc} {cells slots : Nat} {h : Heap} {Z : State} {a0 : Array Value}
/-- a private method of a class that can be made, by its contract (no word 'selects' is asked) -/
theorem own_callP (X : Stand p l e R s m args below meth c T locs cells slots) (hx : p.tables.exec = Jvm.exec) {own : String} {index nI : Nat} {y : MethodName} {bytes : ByteArray} {maxL : Nat} {ret : Option FieldType}
    (hown : s.vm.findClass own = some m.cls) (hlink : (Jvm.Cond.methodLink own index y).before args s = true) (hinst : (Jvm.Cond.instanceMethod y).before args s = true) (hpriv : (Jvm.Cond.privateMethod y).before args s = true) (hmake : (Jvm.Cond.instantiable y.cls nI).before args s = true) (hcode : (Jvm.Cond.code y bytes maxL ret).before args s = true)
    (hy : y.cls ≠ "java/lang/invoke/MethodHandle" ∧ y.cls ≠ "java/lang/invoke/VarHandle") {W rc rs : Nat} {as' : Array Value} {Q : Option Value → Heap → List Loc → Prop}
    (hK : Back l R p e below s args y 3 W (fun A a => a = as' ∧ A.U.heap = h ∧ A.cells + rc ≤ R.cells ∧ A.slots + rs ≤ R.slots) (fun A _ v B => ∃ L, Q v B.U.heap L ∧ B.locs = A.locs ++ L ∧ B.cells = A.cells + rc ∧ B.slots = A.slots + rs))
    {C : String} {a : Addr} (E : Exa Z h a C) {g : JFrame} (hg : g.method = m) (hsize : g.locals.size = c.maxLocals) {argsL rest : List Value} (hlen : ∀ sig, parseMethodDescriptor y.desc = some sig → argsL.length = sig.parameters.length)
    (hstack : g.stack = argsL.reverse ++ .ref a :: rest) (hW : 2 * g.monitorRoom + (rest.map fun v => v.category).sum ≤ W) (hdg : decode c.code g.pc = .ok (.invokevirtual index, 3))
    (eT : T.heap = h) (has : (.ref a :: argsL).toArray = as') (hc : cells + rc ≤ R.cells) (hs : slots + rs ≤ R.slots) :
    ∃ (v : Option Value) (T' : State) (L : List Loc), Q v T'.heap L ∧ Stand p l e R s m args below meth c T' (locs ++ L) (cells + rc) (slots + rs) ∧ Steps p.tables e below (T.setTop g) (T'.setTop { g with pc := g.pc + 3, stack := v.toList ++ rest }) := by
  subst eT
  obtain ⟨cell, hcell, hobj⟩ := E.cell
  obtain ⟨mk, mM, hnamed, hM, hstM, habM⟩ := Cond.instanceMethod_spec hinst
  obtain ⟨mM', cM, hM', -, -, -, -, -, -, hsig⟩ := Cond.code_spec hnamed hcode
  cases hM.symm.trans hM'
  obtain ⟨kc, kP, hf, hkP, -, hni, -⟩ := Cond.instantiable_spec hmake
  cases (findClass_of_methodNamed hnamed).symm.trans hf
  have hi : kP.isInterface = false := by
    cases hq : kP.isInterface with
    | false => rfl
    | true => rw [hq] at hni; simp at hni
  have hsel : selectMethod e.platform s.vm cell.cls mk = .method mk := selectMethod_private hM (Cond.privateMethod_at hpriv mk mM hnamed hM)
  obtain ⟨vm₁, X₁, st₁⟩ := X.invokevirtual hx hown hlink hnamed hM hstM hkP hi hy (a := a) (cell := cell) hcell hobj hsel hM habM hkP hi (g := g) hg (argsL := argsL) (rest := rest) (hlen _ hsig) hstack hdg
  obtain ⟨v, ⟨T', L', k', n'⟩, X', ⟨L, hQ, l1, l2, l3⟩, st⟩ := hK m meth c ⟨T.setVm vm₁, locs, cells, slots⟩ { g with stack := rest } (.invokevirtual index) mk (.ref a :: argsL).toArray X₁ hg hsize hdg hW (X₁.named hnamed) ⟨has, rfl, hc, hs⟩
  dsimp only [Pt.U, Pt.locs, Pt.cells, Pt.slots] at X' l1 l2 l3 st hQ
  subst l1 l2 l3
  exact ⟨v, T', L, hQ, X', (st₁ _ fun acts => by rw [doInvoke_state]; exact Steps.refl _).trans st⟩
theorem own_stR {k : ClassId} {ty : FieldType} {n : Int32} {vs : List Value} {d v : Value} {a : Addr} (X : Stand p l e R s m args below meth c T locs cells slots) (hx : p.tables.exec = Jvm.exec) (hZ : Z.Warmed39 s.vm) (eT : T.heap = h) (V : Arv Z h a k ty n vs d) {j : Int32} (i : Nat) (hi : i < vs.length) (hji : j.toNatClampNeg = i) (hj : ¬ j < 0 ∧ j < n) (hty : ty.isReference = true) (hfit : fits ty v = true)
    {C : String} (O : Ovr Z k C) {y : Addr} (hv : v = .ref y) (I : Ins Z h y C true)
    {g : JFrame} (hg : g.method = m) {rest : List Value} (hs : g.stack = v :: .int j :: .ref a :: rest) (hd : decode c.code g.pc = .ok (.aastore, 1)) :
    ∃ T' h', Stand p l e R s m args below meth c T' (locs ++ [⟨a, j.toNatClampNeg⟩]) cells slots ∧ T'.heap = h' ∧ Wr h h' a j.toNatClampNeg v ∧ Arv Z h' a k ty n (vs.set i v) d ∧ ∀ target, Steps p.tables e below (T'.setTop { g with pc := g.pc + 1, stack := rest }) target → Steps p.tables e below (T.setTop g) target := by
  obtain ⟨cl, A, q, S, M, H, U⟩ := V
  obtain ⟨T', h', X', e', W', st⟩ := stR X hx hZ eT A (j := j) (inb_of S hj) hty (by rw [hv]; exact Sto.ofV A q O I) hg hs hd
  exact ⟨T', h', X', e', W', Arv.set A q S M H U hfit W' i hji hi, st⟩
theorem own_lsw {tb : Tables} [Ours tb] {target : State} {g : JFrame} (h : At T m c below) (hx : tb.exec = Jvm.exec) (hg : g.method = m) {dflt : Int} {pairs : Array (Int × Int)} {len : Nat} {o : Int} {pc0 pc' : Nat} (hpc : g.pc = pc0) (hd : decode c.code g.pc = .ok (.lookupswitch dflt pairs, len)) {i : Int32} {rest : List Value} (hs : g.stack = .int i :: rest)
    (hsort : (pairs.toList.zip (pairs.toList.drop 1)).all (fun (a, next) => a.1 < next.1) = true) (hoff : Jvm.Op.lookupswitch.offset pairs.toList dflt i.toInt = o) (ho : 0 ≤ (pc0 : Int) + o) (hp : ((pc0 : Int) + o).toNat = pc')
    (hr : Steps tb e below (T.setTop { g with pc := pc', stack := rest }) target) : Steps tb e below (T.setTop g) target := by
  subst hg hpc hp hoff
  jvm_step h [h.top, hx, hd, hs, ho, Jvm.Op.lookupswitch.wp_chain]
  exact ⟨fun a b a' b' q => of_decide_eq_true (List.all_eq_true.mp hsort ((a, b), (a', b')) (by rw [List.drop_one]; exact q)), hr⟩
end OwnKitP
theorem own_12 {x : Int32} (h : x < (1 : Int32)) : x < (2 : Int32) := by
  rw [Int32.lt_iff_toInt_lt] at h ⊢
  have e1 : (1 : Int32).toInt = 1 := rfl
  have e2 : (2 : Int32).toInt = 2 := rfl
  omega
def Qp (r : Value) (h0 : Heap) (v : Option Value) (h : Heap) (L : List Loc) : Prop := v = some r ∧ L = [] ∧ h = h0
theorem pn_1 : plainName "com/example/kttl/kttl/keyspace/Entry" = true := by first | (simp [plainName, overriddenIn]; done) | decide +kernel
theorem d_rm_hd_0 : decode prog_18_method_16_code 0 = .ok (.aload_n 0, 1) := by decide +kernel
theorem d_rm_hd_1 : decode prog_18_method_16_code 1 = .ok (.getfield 21, 3) := by decide +kernel
theorem d_rm_hd_4 : decode prog_18_method_16_code 4 = .ok (.ireturn, 1) := by decide +kernel
set_option maxRecDepth 65536 in
set_option maxHeartbeats 40000000 in
theorem rm_hd (l : Launch) (Z : State) (a0 : Array Value) (hw : ∀ d ∈ tables_1, d.before a0 Z = true) (ws : List Jvm.Cond) (a : Addr) (h0 : Heap) (n0 : Nat) (Z0 : n0 ≤ h0.size) (F1 : Fld Z h0 a "com/example/kttl/kttl/keyspace/Entry" "hasDeadline" "Z" (.int (1 : Int32))) :
    MetFree l (⟨"com/example/kttl/kttl/keyspace/Entry", "hasDeadline", "()Z"⟩ : MethodName) (head1 (Jvm.Cond.code (⟨"com/example/kttl/kttl/keyspace/Entry", "hasDeadline", "()Z"⟩ : MethodName) prog_18_method_16_code 1 (some .boolean) :: ws) ({ frames := 0, cells := 0, slots := 0, locals := 0 } : Room)) (fun a_ U => a_ = #[(.ref a)] ∧ Z.Warmed39 U.vm ∧ U.heap = h0) (fun _ _ _ _ _ => True) (fun _ U o U' => ∃ v L, o = .returned v ∧ Qp (.int (1 : Int32)) h0 v U'.heap L ∧ FrameEnd U o U' L ({ frames := 0, cells := 0, slots := 0, locals := 0 } : Room).cells ({ frames := 0, cells := 0, slots := 0, locals := 0 } : Room).slots) := by
  refine MetFree.of_bodySF (plainFor_of_name pn_1) hisR ?_
  intro p e s m args below meth c s₁ Bd hml0 hP hK
  obtain ⟨rfl, hZ, hh⟩ := hP
  have hx := Bd.exec
  have hby := Bd.bytes
  have hrt := Bd.returns
  have hlk : meth.locks = false := Bd.notSynchronized
  have hml : c.maxLocals = 1 := hml0
  have hown : s.vm.findClass "com/example/kttl/kttl/keyspace/Entry" = some m.cls := findClass_of_methodNamed Bd.named
  have hnm := (name_of_methodNamed Bd.named Bd.method).1
  have X0 : Stand p l e ({ frames := 0, cells := 0, slots := 0, locals := 0 } : Room) s m #[(.ref a)] below meth c s₁ [] 0 0 := Stand.of_body Bd
  have e0 : s₁.heap = h0 := by rw [← hh, Bd.state]; rfl
  have N0 := Fr.nil n0
  show own_G p.tables e below (fun o t => ∃ v L, o = .returned v ∧ Qp (.int (1 : Int32)) h0 v t.heap L ∧ FrameEnd s o t L ({ frames := 0, cells := 0, slots := 0, locals := 0 } : Room).cells ({ frames := 0, cells := 0, slots := 0, locals := 0 } : Room).slots) (s₁.setTop (entryFrame m #[(.ref a)] 1))
  refine own_G.cast (show entryFrame m #[(.ref a)] 1 = mkF m 0 #[.val (.ref a)] [] from by first | (simp [entryFrame, mkF, argsToLocals, Value.category]; done) | rfl) ?_
  refine own_G.go (fun t_ k_ => XS.aloadN X0.here hx rfl (hb hby d_rm_hd_0) rfl rfl k_) ?_
  show own_G _ _ _ _ (s₁.setTop (mkF m 1 #[.val (.ref a)] [(.ref a)]))
  obtain ⟨T_1, X_1, e_1, st_1⟩ := getF X0 hx hZ hown (host := "") (Or.inl (own_w hw 48 rfl)) Via.refl e0 F1 (g := (mkF m 1 #[.val (.ref a)] [(.ref a)])) rfl rfl (hb hby d_rm_hd_1)
  refine own_G.go st_1 ?_
  show own_G _ _ _ _ (T_1.setTop (mkF m 4 #[.val (.ref a)] [(.int (1 : Int32))]))
  exact own_G.end_ X_1 hlk (v := (some (.int (1 : Int32)))) (fun h => by rw [hrt] at h; cases h) (fun fs hr => retN X_1 hx (z := (1 : Int32)) (t := .boolean) hrt (by simp) (hb hby d_rm_hd_4) hr) e_1 ⟨rfl, rfl, rfl⟩ (by decide) (by decide)
theorem d_rm_dl_0 : decode prog_18_method_17_code 0 = .ok (.aload_n 0, 1) := by decide +kernel
theorem d_rm_dl_1 : decode prog_18_method_17_code 1 = .ok (.getfield 21, 3) := by decide +kernel
theorem d_rm_dl_4 : decode prog_18_method_17_code 4 = .ok (.ifCond .ne 13, 3) := by decide +kernel
theorem d_rm_dl_17 : decode prog_18_method_17_code 17 = .ok (.aload_n 0, 1) := by decide +kernel
theorem d_rm_dl_18 : decode prog_18_method_17_code 18 = .ok (.getfield 25, 3) := by decide +kernel
theorem d_rm_dl_21 : decode prog_18_method_17_code 21 = .ok (.lreturn, 1) := by decide +kernel
set_option maxRecDepth 65536 in
set_option maxHeartbeats 40000000 in
theorem rm_dl (l : Launch) (Z : State) (a0 : Array Value) (hw : ∀ d ∈ tables_1, d.before a0 Z = true) (ws : List Jvm.Cond) (a : Addr) (d : Int64) (h0 : Heap) (n0 : Nat) (Z0 : n0 ≤ h0.size) (F1 : Fld Z h0 a "com/example/kttl/kttl/keyspace/Entry" "hasDeadline" "Z" (.int (1 : Int32))) (F2 : Fld Z h0 a "com/example/kttl/kttl/keyspace/Entry" "deadline" "J" (.long d)) :
    MetFree l (⟨"com/example/kttl/kttl/keyspace/Entry", "deadline", "()J"⟩ : MethodName) (head1 (Jvm.Cond.code (⟨"com/example/kttl/kttl/keyspace/Entry", "deadline", "()J"⟩ : MethodName) prog_18_method_17_code 1 (some .long) :: ws) ({ frames := 0, cells := 0, slots := 0, locals := 0 } : Room)) (fun a_ U => a_ = #[(.ref a)] ∧ Z.Warmed39 U.vm ∧ U.heap = h0) (fun _ _ _ _ _ => True) (fun _ U o U' => ∃ v L, o = .returned v ∧ Qp (.long d) h0 v U'.heap L ∧ FrameEnd U o U' L ({ frames := 0, cells := 0, slots := 0, locals := 0 } : Room).cells ({ frames := 0, cells := 0, slots := 0, locals := 0 } : Room).slots) := by
  refine MetFree.of_bodySF (plainFor_of_name pn_1) hisR ?_
  intro p e s m args below meth c s₁ Bd hml0 hP hK
  obtain ⟨rfl, hZ, hh⟩ := hP
  have hx := Bd.exec
  have hby := Bd.bytes
  have hrt := Bd.returns
  have hlk : meth.locks = false := Bd.notSynchronized
  have hml : c.maxLocals = 1 := hml0
  have hown : s.vm.findClass "com/example/kttl/kttl/keyspace/Entry" = some m.cls := findClass_of_methodNamed Bd.named
  have hnm := (name_of_methodNamed Bd.named Bd.method).1
  have X0 : Stand p l e ({ frames := 0, cells := 0, slots := 0, locals := 0 } : Room) s m #[(.ref a)] below meth c s₁ [] 0 0 := Stand.of_body Bd
  have e0 : s₁.heap = h0 := by rw [← hh, Bd.state]; rfl
  have N0 := Fr.nil n0
  show own_G p.tables e below (fun o t => ∃ v L, o = .returned v ∧ Qp (.long d) h0 v t.heap L ∧ FrameEnd s o t L ({ frames := 0, cells := 0, slots := 0, locals := 0 } : Room).cells ({ frames := 0, cells := 0, slots := 0, locals := 0 } : Room).slots) (s₁.setTop (entryFrame m #[(.ref a)] 1))
  refine own_G.cast (show entryFrame m #[(.ref a)] 1 = mkF m 0 #[.val (.ref a)] [] from by first | (simp [entryFrame, mkF, argsToLocals, Value.category]; done) | rfl) ?_
  refine own_G.go (fun t_ k_ => XS.aloadN X0.here hx rfl (hb hby d_rm_dl_0) rfl rfl k_) ?_
  show own_G _ _ _ _ (s₁.setTop (mkF m 1 #[.val (.ref a)] [(.ref a)]))
  obtain ⟨T_1, X_1, e_1, st_1⟩ := getF X0 hx hZ hown (host := "") (Or.inl (own_w hw 48 rfl)) Via.refl e0 F1 (g := (mkF m 1 #[.val (.ref a)] [(.ref a)])) rfl rfl (hb hby d_rm_dl_1)
  refine own_G.go st_1 ?_
  show own_G _ _ _ _ (T_1.setTop (mkF m 4 #[.val (.ref a)] [(.int (1 : Int32))]))
  refine own_G.go (fun t_ k_ => XS.ifYes X_1.here hx rfl (pc0 := 4) (pc' := 17) rfl (hb hby d_rm_dl_4) rfl ((if0 _ _).trans (feq (by decide : ¬ ((1 : Int32) = (0 : Int32)))).2) (by decide) (by decide) k_) ?_
  show own_G _ _ _ _ (T_1.setTop (mkF m 17 #[.val (.ref a)] []))
  refine own_G.go (fun t_ k_ => XS.aloadN X_1.here hx rfl (hb hby d_rm_dl_17) rfl rfl k_) ?_
  show own_G _ _ _ _ (T_1.setTop (mkF m 18 #[.val (.ref a)] [(.ref a)]))
  obtain ⟨T_2, X_2, e_2, st_2⟩ := getF X_1 hx hZ hown (host := "") (Or.inl (own_w hw 50 rfl)) Via.refl e_1 F2 (g := (mkF m 18 #[.val (.ref a)] [(.ref a)])) rfl rfl (hb hby d_rm_dl_18)
  refine own_G.go st_2 ?_
  show own_G _ _ _ _ (T_2.setTop (mkF m 21 #[.val (.ref a)] [(.long d)]))
  exact own_G.end_ X_2 hlk (v := (some (.long d))) (fun h => by rw [hrt] at h; cases h) (fun fs hr => retOut X_2 hx hrt rfl (Or.inr (Or.inl ⟨rfl, rfl, _, rfl⟩)) (hb hby d_rm_dl_21) hr) e_2 ⟨rfl, rfl, rfl⟩ (by decide) (by decide)
theorem pn_2 : plainName "com/example/kttl/kttl/keyspace/DeadlineQueue" = true := by first | (simp [plainName, overriddenIn]; done) | decide +kernel
theorem d_rm_ie_0 : decode prog_15_method_4_code 0 = .ok (.aload_n 0, 1) := by decide +kernel
theorem d_rm_ie_1 : decode prog_15_method_4_code 1 = .ok (.getfield 36, 3) := by decide +kernel
theorem d_rm_ie_4 : decode prog_15_method_4_code 4 = .ok (.ifCond .ne 7, 3) := by decide +kernel
theorem d_rm_ie_7 : decode prog_15_method_4_code 7 = .ok (.iconst 1, 1) := by decide +kernel
theorem d_rm_ie_8 : decode prog_15_method_4_code 8 = .ok (.goto 4, 3) := by decide +kernel
theorem d_rm_ie_12 : decode prog_15_method_4_code 12 = .ok (.ireturn, 1) := by decide +kernel
set_option maxRecDepth 65536 in
set_option maxHeartbeats 40000000 in
theorem rm_ie (l : Launch) (Z : State) (a0 : Array Value) (hw : ∀ d ∈ tables_1, d.before a0 Z = true) (ws : List Jvm.Cond) (q : Addr) (h0 : Heap) (n0 : Nat) (Z0 : n0 ≤ h0.size) (F1 : Fld Z h0 q "com/example/kttl/kttl/keyspace/DeadlineQueue" "size" "I" (.int (0 : Int32))) :
    MetFree l (⟨"com/example/kttl/kttl/keyspace/DeadlineQueue", "isEmpty", "()Z"⟩ : MethodName) (head1 (Jvm.Cond.code (⟨"com/example/kttl/kttl/keyspace/DeadlineQueue", "isEmpty", "()Z"⟩ : MethodName) prog_15_method_4_code 1 (some .boolean) :: ws) ({ frames := 0, cells := 0, slots := 0, locals := 0 } : Room)) (fun a_ U => a_ = #[(.ref q)] ∧ Z.Warmed39 U.vm ∧ U.heap = h0) (fun _ _ _ _ _ => True) (fun _ U o U' => ∃ v L, o = .returned v ∧ Qp (.int (1 : Int32)) h0 v U'.heap L ∧ FrameEnd U o U' L ({ frames := 0, cells := 0, slots := 0, locals := 0 } : Room).cells ({ frames := 0, cells := 0, slots := 0, locals := 0 } : Room).slots) := by
  refine MetFree.of_bodySF (plainFor_of_name pn_2) hisR ?_
  intro p e s m args below meth c s₁ Bd hml0 hP hK
  obtain ⟨rfl, hZ, hh⟩ := hP
  have hx := Bd.exec
  have hby := Bd.bytes
  have hrt := Bd.returns
  have hlk : meth.locks = false := Bd.notSynchronized
  have hml : c.maxLocals = 1 := hml0
  have hown : s.vm.findClass "com/example/kttl/kttl/keyspace/DeadlineQueue" = some m.cls := findClass_of_methodNamed Bd.named
  have hnm := (name_of_methodNamed Bd.named Bd.method).1
  have X0 : Stand p l e ({ frames := 0, cells := 0, slots := 0, locals := 0 } : Room) s m #[(.ref q)] below meth c s₁ [] 0 0 := Stand.of_body Bd
  have e0 : s₁.heap = h0 := by rw [← hh, Bd.state]; rfl
  have N0 := Fr.nil n0
  show own_G p.tables e below (fun o t => ∃ v L, o = .returned v ∧ Qp (.int (1 : Int32)) h0 v t.heap L ∧ FrameEnd s o t L ({ frames := 0, cells := 0, slots := 0, locals := 0 } : Room).cells ({ frames := 0, cells := 0, slots := 0, locals := 0 } : Room).slots) (s₁.setTop (entryFrame m #[(.ref q)] 1))
  refine own_G.cast (show entryFrame m #[(.ref q)] 1 = mkF m 0 #[.val (.ref q)] [] from by first | (simp [entryFrame, mkF, argsToLocals, Value.category]; done) | rfl) ?_
  refine own_G.go (fun t_ k_ => XS.aloadN X0.here hx rfl (hb hby d_rm_ie_0) rfl rfl k_) ?_
  show own_G _ _ _ _ (s₁.setTop (mkF m 1 #[.val (.ref q)] [(.ref q)]))
  obtain ⟨T_1, X_1, e_1, st_1⟩ := getF X0 hx hZ hown (host := "") (Or.inl (own_w hw 72 rfl)) Via.refl e0 F1 (g := (mkF m 1 #[.val (.ref q)] [(.ref q)])) rfl rfl (hb hby d_rm_ie_1)
  refine own_G.go st_1 ?_
  show own_G _ _ _ _ (T_1.setTop (mkF m 4 #[.val (.ref q)] [(.int (0 : Int32))]))
  refine own_G.go (fun t_ k_ => XS.ifNo X_1.here hx rfl (hb hby d_rm_ie_4) rfl ((if0 _ _).trans (teq (by decide : (0 : Int32) = (0 : Int32))).2) k_) ?_
  show own_G _ _ _ _ (T_1.setTop (mkF m 7 #[.val (.ref q)] []))
  refine own_G.go (fun t_ k_ => XS.iconst X_1.here hx rfl (hb hby d_rm_ie_7) k_) ?_
  show own_G _ _ _ _ (T_1.setTop (mkF m 8 #[.val (.ref q)] [(.int (1 : Int32))]))
  refine own_G.go (fun t_ k_ => XS.goto X_1.here hx rfl (pc0 := 8) (pc' := 12) rfl (hb hby d_rm_ie_8) (by decide) (by decide) k_) ?_
  show own_G _ _ _ _ (T_1.setTop (mkF m 12 #[.val (.ref q)] [(.int (1 : Int32))]))
  exact own_G.end_ X_1 hlk (v := (some (.int (1 : Int32)))) (fun h => by rw [hrt] at h; cases h) (fun fs hr => retN X_1 hx (z := (1 : Int32)) (t := .boolean) hrt (by simp) (hb hby d_rm_ie_12) hr) e_1 ⟨rfl, rfl, rfl⟩ (by decide) (by decide)
theorem pn_3 : plainName "java/util/Arrays" = true := by first | (simp [plainName, overriddenIn]; done) | decide +kernel
theorem d_rm_hash_0 : decode jdk_65_method_153_code 0 = .ok (.aload_n 0, 1) := by decide +kernel
theorem d_rm_hash_1 : decode jdk_65_method_153_code 1 = .ok (.ifnonnull 5, 3) := by decide +kernel
theorem d_rm_hash_6 : decode jdk_65_method_153_code 6 = .ok (.aload_n 0, 1) := by decide +kernel
theorem d_rm_hash_7 : decode jdk_65_method_153_code 7 = .ok (.arraylength, 1) := by decide +kernel
theorem d_rm_hash_8 : decode jdk_65_method_153_code 8 = .ok (.lookupswitch 41 #[(0, 28), (1, 32)], 28) := by decide +kernel
theorem d_rm_hash_40 : decode jdk_65_method_153_code 40 = .ok (.bipush 31, 2) := by decide +kernel
theorem d_rm_hash_42 : decode jdk_65_method_153_code 42 = .ok (.aload_n 0, 1) := by decide +kernel
theorem d_rm_hash_43 : decode jdk_65_method_153_code 43 = .ok (.iconst 0, 1) := by decide +kernel
theorem d_rm_hash_44 : decode jdk_65_method_153_code 44 = .ok (.baload, 1) := by decide +kernel
theorem d_rm_hash_45 : decode jdk_65_method_153_code 45 = .ok (.iadd, 1) := by decide +kernel
theorem d_rm_hash_46 : decode jdk_65_method_153_code 46 = .ok (.goto 13, 3) := by decide +kernel
theorem d_rm_hash_59 : decode jdk_65_method_153_code 59 = .ok (.ireturn, 1) := by decide +kernel
set_option maxRecDepth 65536 in
set_option maxHeartbeats 40000000 in
theorem rm_hash (l : Launch) (Z : State) (a0 : Array Value) (hw : ∀ d ∈ tables_1, d.before a0 Z = true) (ws : List Jvm.Cond) (b : Addr) (kb : ClassId) (z : Int32) (h0 : Heap) (n0 : Nat) (Z0 : n0 ≤ h0.size) (VB : Arv Z h0 b kb .byte (1 : Int32) ([(.int z)] : List Value) (.int (0 : Int32))) :
    MetFree l (⟨"java/util/Arrays", "hashCode", "([B)I"⟩ : MethodName) (head1 (Jvm.Cond.code (⟨"java/util/Arrays", "hashCode", "([B)I"⟩ : MethodName) jdk_65_method_153_code 1 (some .int) :: ws) ({ frames := 0, cells := 0, slots := 0, locals := 0 } : Room)) (fun a_ U => a_ = #[(.ref b)] ∧ Z.Warmed39 U.vm ∧ U.heap = h0) (fun _ _ _ _ _ => True) (fun _ U o U' => ∃ v L, o = .returned v ∧ Qp (.int ((31 : Int32) + z)) h0 v U'.heap L ∧ FrameEnd U o U' L ({ frames := 0, cells := 0, slots := 0, locals := 0 } : Room).cells ({ frames := 0, cells := 0, slots := 0, locals := 0 } : Room).slots) := by
  refine MetFree.of_bodySF (plainFor_of_name pn_3) hisR ?_
  intro p e s m args below meth c s₁ Bd hml0 hP hK
  obtain ⟨rfl, hZ, hh⟩ := hP
  have hx := Bd.exec
  have hby := Bd.bytes
  have hrt := Bd.returns
  have hlk : meth.locks = false := Bd.notSynchronized
  have hml : c.maxLocals = 1 := hml0
  have hown : s.vm.findClass "java/util/Arrays" = some m.cls := findClass_of_methodNamed Bd.named
  have hnm := (name_of_methodNamed Bd.named Bd.method).1
  have X0 : Stand p l e ({ frames := 0, cells := 0, slots := 0, locals := 0 } : Room) s m #[(.ref b)] below meth c s₁ [] 0 0 := Stand.of_body Bd
  have e0 : s₁.heap = h0 := by rw [← hh, Bd.state]; rfl
  have N0 := Fr.nil n0
  show own_G p.tables e below (fun o t => ∃ v L, o = .returned v ∧ Qp (.int ((31 : Int32) + z)) h0 v t.heap L ∧ FrameEnd s o t L ({ frames := 0, cells := 0, slots := 0, locals := 0 } : Room).cells ({ frames := 0, cells := 0, slots := 0, locals := 0 } : Room).slots) (s₁.setTop (entryFrame m #[(.ref b)] 1))
  refine own_G.cast (show entryFrame m #[(.ref b)] 1 = mkF m 0 #[.val (.ref b)] [] from by first | (simp [entryFrame, mkF, argsToLocals, Value.category]; done) | rfl) ?_
  refine own_G.go (fun t_ k_ => XS.aloadN X0.here hx rfl (hb hby d_rm_hash_0) rfl rfl k_) ?_
  show own_G _ _ _ _ (s₁.setTop (mkF m 1 #[.val (.ref b)] [(.ref b)]))
  refine own_G.go (fun t_ k_ => XS.ifnonnullYes X0.here hx rfl (pc0 := 1) (pc' := 6) rfl (hb hby d_rm_hash_1) rfl (by decide) (by decide) k_) ?_
  show own_G _ _ _ _ (s₁.setTop (mkF m 6 #[.val (.ref b)] []))
  refine own_G.go (fun t_ k_ => XS.aloadN X0.here hx rfl (hb hby d_rm_hash_6) rfl rfl k_) ?_
  show own_G _ _ _ _ (s₁.setTop (mkF m 7 #[.val (.ref b)] [(.ref b)]))
  obtain ⟨cel_1, A_1, -, S_1, M_1, -, -⟩ := id VB
  refine own_G.go (X0.arraylength hx (by rw [e0]; exact A_1.1) (State.isArrayOf_alike hZ.alike A_1.2.1) (g := (mkF m 7 #[.val (.ref b)] [(.ref b)])) rfl rfl (hb hby d_rm_hash_7)) ?_
  rw [len_of S_1 M_1]
  show own_G _ _ _ _ (s₁.setTop (mkF m 8 #[.val (.ref b)] [(.int (1 : Int32))]))
  refine own_G.go (fun t_ k_ => own_lsw X0.here hx rfl (pc0 := 8) (pc' := 40) rfl (hb hby d_rm_hash_8) rfl (by decide) (by decide : Jvm.Op.lookupswitch.offset _ _ _ = 32) (by decide) (by decide) k_) ?_
  show own_G _ _ _ _ (s₁.setTop (mkF m 40 #[.val (.ref b)] []))
  refine own_G.go (fun t_ k_ => XS.bipush X0.here hx rfl (hb hby d_rm_hash_40) k_) ?_
  show own_G _ _ _ _ (s₁.setTop (mkF m 42 #[.val (.ref b)] [(.int (31 : Int32))]))
  refine own_G.go (fun t_ k_ => XS.aloadN X0.here hx rfl (hb hby d_rm_hash_42) rfl rfl k_) ?_
  show own_G _ _ _ _ (s₁.setTop (mkF m 43 #[.val (.ref b)] [(.ref b), (.int (31 : Int32))]))
  refine own_G.go (fun t_ k_ => XS.iconst X0.here hx rfl (hb hby d_rm_hash_43) k_) ?_
  show own_G _ _ _ _ (s₁.setTop (mkF m 44 #[.val (.ref b)] [(.int (0 : Int32)), (.ref b), (.int (31 : Int32))]))
  obtain ⟨cel_2, A_2, -, S_2, M_2, H_2, -⟩ := id VB
  have I_2 : ¬ ((0 : Int32) < 0 ∨ cel_2.slots.size ≤ ((0 : Int32)).toNatClampNeg) := inb_of S_2 ⟨(by decide), (by decide : (0 : Int32) < (1 : Int32))⟩
  refine own_G.go (X0.baloadBytes hx (j := (0 : Int32)) (v := (.int z)) (by rw [e0]; exact A_2.1) (State.isArrayOf_alike hZ.alike A_2.2.1) A_2.2.2 I_2 (H_2.at I_2 rfl) (g := (mkF m 44 #[.val (.ref b)] [(.int (0 : Int32)), (.ref b), (.int (31 : Int32))])) rfl rfl (hb hby d_rm_hash_44)) ?_
  show own_G _ _ _ _ (s₁.setTop (mkF m 45 #[.val (.ref b)] [(.int z), (.int (31 : Int32))]))
  refine own_G.go (fun t_ k_ => XS.iadd X0.here hx rfl (hb hby d_rm_hash_45) rfl k_) ?_
  show own_G _ _ _ _ (s₁.setTop (mkF m 46 #[.val (.ref b)] [(.int ((31 : Int32) + z))]))
  refine own_G.go (fun t_ k_ => XS.goto X0.here hx rfl (pc0 := 46) (pc' := 59) rfl (hb hby d_rm_hash_46) (by decide) (by decide) k_) ?_
  show own_G _ _ _ _ (s₁.setTop (mkF m 59 #[.val (.ref b)] [(.int ((31 : Int32) + z))]))
  exact own_G.end_ X0 hlk (v := (some (.int ((31 : Int32) + z)))) (fun h => by rw [hrt] at h; cases h) (fun fs hr => retOut X0 hx hrt rfl (Or.inl ⟨rfl, Or.inl rfl, _, rfl⟩) (hb hby d_rm_hash_59) hr) e0 ⟨rfl, rfl, rfl⟩ (by decide) (by decide)
def Qkey (Z : State) (a : Addr) (h0 : Heap) (n0 : Nat) (v : Option Value) (h : Heap) (L : List Loc) : Prop := v = none ∧ Fr n0 L ∧ Keep h0 h [a] ∧ Exa Z h a "com/example/kttl/kttl/keyspace/Key"
theorem pn_4 : plainName "com/example/kttl/kttl/keyspace/Key" = true := by first | (simp [plainName, overriddenIn]; done) | decide +kernel
theorem pd_1 : parseMethodDescriptor "([B)I" = some ⟨[(.array .byte)], some .int⟩ := by decide +kernel
theorem d_rm_key_0 : decode prog_21_method_1_code 0 = .ok (.aload_n 0, 1) := by decide +kernel
theorem d_rm_key_1 : decode prog_21_method_1_code 1 = .ok (.invokespecial 1, 3) := by decide +kernel
theorem d_rm_key_4 : decode prog_21_method_1_code 4 = .ok (.aload_n 0, 1) := by decide +kernel
theorem d_rm_key_5 : decode prog_21_method_1_code 5 = .ok (.aload_n 1, 1) := by decide +kernel
theorem d_rm_key_6 : decode prog_21_method_1_code 6 = .ok (.putfield 7, 3) := by decide +kernel
theorem d_rm_key_9 : decode prog_21_method_1_code 9 = .ok (.aload_n 0, 1) := by decide +kernel
theorem d_rm_key_10 : decode prog_21_method_1_code 10 = .ok (.aload_n 1, 1) := by decide +kernel
theorem d_rm_key_11 : decode prog_21_method_1_code 11 = .ok (.invokestatic 13, 3) := by decide +kernel
theorem d_rm_key_14 : decode prog_21_method_1_code 14 = .ok (.putfield 19, 3) := by decide +kernel
theorem d_rm_key_17 : decode prog_21_method_1_code 17 = .ok (.return_, 1) := by decide +kernel
set_option maxRecDepth 65536 in
set_option maxHeartbeats 40000000 in
theorem rm_key (l : Launch) (Z : State) (a0 : Array Value) (hw : ∀ d ∈ tables_1, d.before a0 Z = true) (ws : List Jvm.Cond) (a b : Addr) (kb : ClassId) (z : Int32) (h0 : Heap) (n0 : Nat) (Z0 : n0 ≤ h0.size) (g0 : n0 ≤ a) (nba : b ≠ a) (E0 : Exa Z h0 a "com/example/kttl/kttl/keyspace/Key") (F1 : Fld Z h0 a "com/example/kttl/kttl/keyspace/Key" "bytes" "[B" .null) (F2 : Fld Z h0 a "com/example/kttl/kttl/keyspace/Key" "hash" "I" (.int (0 : Int32))) (VB : Arv Z h0 b kb .byte (1 : Int32) ([(.int z)] : List Value) (.int (0 : Int32))) :
    MetFree l (⟨"com/example/kttl/kttl/keyspace/Key", "<init>", "([B)V"⟩ : MethodName) (head1 (Jvm.Cond.code (⟨"com/example/kttl/kttl/keyspace/Key", "<init>", "([B)V"⟩ : MethodName) prog_21_method_1_code 2 none :: ws) ({ frames := 1, cells := 0, slots := 0, locals := 14 } : Room)) (fun a_ U => a_ = #[(.ref a), (.ref b)] ∧ Z.Warmed39 U.vm ∧ U.heap = h0) (fun _ _ _ _ _ => True) (fun _ U o U' => ∃ v L, o = .returned v ∧ Qkey Z a h0 n0 v U'.heap L ∧ FrameEnd U o U' L ({ frames := 1, cells := 0, slots := 0, locals := 14 } : Room).cells ({ frames := 1, cells := 0, slots := 0, locals := 14 } : Room).slots) := by
  refine MetFree.of_bodySF (plainFor_of_name pn_4) hisR ?_
  intro p e s m args below meth c s₁ Bd hml0 hP hK
  obtain ⟨rfl, hZ, hh⟩ := hP
  have hx := Bd.exec
  have hby := Bd.bytes
  have hrt := Bd.returns
  have hlk : meth.locks = false := Bd.notSynchronized
  have hml : c.maxLocals = 2 := hml0
  have hown : s.vm.findClass "com/example/kttl/kttl/keyspace/Key" = some m.cls := findClass_of_methodNamed Bd.named
  have hnm := (name_of_methodNamed Bd.named Bd.method).1
  have X0 : Stand p l e ({ frames := 1, cells := 0, slots := 0, locals := 14 } : Room) s m #[(.ref a), (.ref b)] below meth c s₁ [] 0 0 := Stand.of_body Bd
  have e0 : s₁.heap = h0 := by rw [← hh, Bd.state]; rfl
  have N0 := Fr.nil n0
  show own_G p.tables e below (fun o t => ∃ v L, o = .returned v ∧ Qkey Z a h0 n0 v t.heap L ∧ FrameEnd s o t L ({ frames := 1, cells := 0, slots := 0, locals := 14 } : Room).cells ({ frames := 1, cells := 0, slots := 0, locals := 14 } : Room).slots) (s₁.setTop (entryFrame m #[(.ref a), (.ref b)] 2))
  refine own_G.cast (show entryFrame m #[(.ref a), (.ref b)] 2 = mkF m 0 #[.val (.ref a), .val (.ref b)] [] from by first | (simp [entryFrame, mkF, argsToLocals, Value.category]; done) | rfl) ?_
  refine own_G.go (fun t_ k_ => XS.aloadN X0.here hx rfl (hb hby d_rm_key_0) rfl rfl k_) ?_
  show own_G _ _ _ _ (s₁.setTop (mkF m 1 #[.val (.ref a), .val (.ref b)] [(.ref a)]))
  obtain ⟨T_1, X_1, e_1, st_1⟩ := initO X0 hx hZ hown (own_w hw 7 rfl) (own_w hw 8 rfl) (own_w hw 9 rfl) e0 (g := (mkF m 1 #[.val (.ref a), .val (.ref b)] [(.ref a)])) rfl (by rw [hml]; rfl) rfl (hb hby d_rm_key_1) (by decide) (W := 0) (by show 2 * 0 + _ ≤ _; exact Nat.le_of_eq rfl) (by decide)
  refine own_G.go st_1 ?_
  show own_G _ _ _ _ (T_1.setTop (mkF m 4 #[.val (.ref a), .val (.ref b)] []))
  refine own_G.go (fun t_ k_ => XS.aloadN X_1.here hx rfl (hb hby d_rm_key_4) rfl rfl k_) ?_
  show own_G _ _ _ _ (T_1.setTop (mkF m 5 #[.val (.ref a), .val (.ref b)] [(.ref a)]))
  refine own_G.go (fun t_ k_ => XS.aloadN X_1.here hx rfl (hb hby d_rm_key_5) rfl rfl k_) ?_
  show own_G _ _ _ _ (T_1.setTop (mkF m 6 #[.val (.ref a), .val (.ref b)] [(.ref b), (.ref a)]))
  obtain ⟨T_2, h_2, X_2, e_2, W_2, st_2⟩ := putF X_1 hx hZ hown (host := "") (Or.inl (own_w hw 10 rfl)) Via.refl e_1 F1 E0 (Or.inr ⟨(own_w hw 11 rfl), rfl, hnm⟩) (own_w hw 1 rfl) (ty := (.array .byte)) (by decide) rfl rfl (g := (mkF m 6 #[.val (.ref a), .val (.ref b)] [(.ref b), (.ref a)])) rfl rfl (hb hby d_rm_key_6)
  refine own_G.go st_2 ?_
  have F_2 : Fld Z h_2 a "com/example/kttl/kttl/keyspace/Key" "bytes" "[B" (.ref b) := F1.same W_2
  have N_2 := Fr.snoc X_2 N0 g0
  show own_G _ _ _ _ (T_2.setTop (mkF m 9 #[.val (.ref a), .val (.ref b)] []))
  refine own_G.go (fun t_ k_ => XS.aloadN X_2.here hx rfl (hb hby d_rm_key_9) rfl rfl k_) ?_
  show own_G _ _ _ _ (T_2.setTop (mkF m 10 #[.val (.ref a), .val (.ref b)] [(.ref a)]))
  refine own_G.go (fun t_ k_ => XS.aloadN X_2.here hx rfl (hb hby d_rm_key_10) rfl rfl k_) ?_
  show own_G _ _ _ _ (T_2.setTop (mkF m 11 #[.val (.ref a), .val (.ref b)] [(.ref b), (.ref a)]))
  have VB'_3 : Arv Z h_2 b kb .byte (1 : Int32) ([(.int z)] : List Value) (.int (0 : Int32)) := (VB.other W_2 nba)
  obtain ⟨_, T_4, L_4, Q_4, X_4, st_4⟩ := own_callS X_2 hx hown (mvT hZ (own_w hw 12 rfl)) (mvT hZ (own_w hw 13 rfl)) (mvT hZ (own_w hw 14 rfl)) (mvT hZ (own_w hw 15 rfl)) (by decide) (Q := (Qp (.int ((31 : Int32) + z)) h_2)) (backOf (W := 1) (rm_hash l Z a0 hw [] b kb z h_2 n0 (Nat.le_trans Z0 (Keep.of_wr W_2).1) VB'_3) hZ (own_w hw 15 rfl) (own_w hw 14 rfl) (by decide) (by decide)) (g := (mkF m 11 #[.val (.ref a), .val (.ref b)] [(.ref b), (.ref a)])) rfl (by rw [hml]; rfl) (argsL := [(.ref b)]) (rest := [(.ref a)]) (lenOf pd_1 rfl) rfl (by show 2 * 0 + _ ≤ _; exact Nat.le_of_eq rfl) (hb hby d_rm_key_11) e_2 rfl (by decide) (by decide)
  obtain ⟨rfl, rfl, eh_4⟩ := Q_4
  refine own_G.via st_4 ?_
  have N_4 := Fr.app N_2 (Fr.nil n0)
  show own_G _ _ _ _ (T_4.setTop (mkF m 14 #[.val (.ref a), .val (.ref b)] [(.int ((31 : Int32) + z)), (.ref a)]))
  have F2'_5 : Fld Z h_2 a "com/example/kttl/kttl/keyspace/Key" "hash" "I" (.int (0 : Int32)) := (F2.other W_2 (Or.inr (slot_ne (C := "com/example/kttl/kttl/keyspace/Key") (Or.inr (own_w hw 17 rfl)) (Or.inr (own_w hw 11 rfl)) (by decide) (by decide : parseFieldDescriptor "I" = some .int) (by decide : parseFieldDescriptor "[B" = some (.array .byte)))))
  have E0'_6 : Exa Z h_2 a "com/example/kttl/kttl/keyspace/Key" := (E0.wr W_2)
  obtain ⟨T_7, h_7, X_7, e_7, W_7, st_7⟩ := putF X_4 hx hZ hown (host := "") (Or.inl (own_w hw 16 rfl)) Via.refl eh_4 F2'_5 E0'_6 (Or.inr ⟨(own_w hw 17 rfl), rfl, hnm⟩) (own_w hw 1 rfl) (ty := .int) (by decide) rfl rfl (g := (mkF m 14 #[.val (.ref a), .val (.ref b)] [(.int ((31 : Int32) + z)), (.ref a)])) rfl rfl (hb hby d_rm_key_14)
  refine own_G.go st_7 ?_
  have F_7 : Fld Z h_7 a "com/example/kttl/kttl/keyspace/Key" "hash" "I" (.int ((31 : Int32) + z)) := F2'_5.same W_7
  have N_7 := Fr.snoc X_7 N_4 g0
  show own_G _ _ _ _ (T_7.setTop (mkF m 17 #[.val (.ref a), .val (.ref b)] []))
  have E0'_8 : Exa Z h_7 a "com/example/kttl/kttl/keyspace/Key" := (E0'_6.wr W_7)
  exact own_G.end_ X_7 hlk (v := none) (fun _ => rfl) (fun fs hr => X_7.returnOut hx hrt (hb hby d_rm_key_17) hr) e_7 ⟨rfl, N_7, (((Keep.refl h0 [a]).wr W_2 (Or.inl (List.mem_of_getElem? (i := 0) rfl))).wr W_7 (Or.inl (List.mem_of_getElem? (i := 0) rfl))), E0'_8⟩ (by decide) (by decide)
def Qsv (Z : State) (a : Addr) (h0 : Heap) (n0 : Nat) (v : Option Value) (h : Heap) (L : List Loc) : Prop := v = none ∧ Fr n0 L ∧ Keep h0 h [a] ∧ Exa Z h a "com/example/kttl/kttl/keyspace/StringValue"
theorem pn_5 : plainName "com/example/kttl/kttl/keyspace/StringValue" = true := by first | (simp [plainName, overriddenIn]; done) | decide +kernel
theorem d_rm_sv_0 : decode prog_25_method_1_code 0 = .ok (.aload_n 0, 1) := by decide +kernel
theorem d_rm_sv_1 : decode prog_25_method_1_code 1 = .ok (.invokespecial 3, 3) := by decide +kernel
theorem d_rm_sv_4 : decode prog_25_method_1_code 4 = .ok (.aload_n 0, 1) := by decide +kernel
theorem d_rm_sv_5 : decode prog_25_method_1_code 5 = .ok (.aload_n 1, 1) := by decide +kernel
theorem d_rm_sv_6 : decode prog_25_method_1_code 6 = .ok (.putfield 9, 3) := by decide +kernel
theorem d_rm_sv_9 : decode prog_25_method_1_code 9 = .ok (.aload_n 0, 1) := by decide +kernel
theorem d_rm_sv_10 : decode prog_25_method_1_code 10 = .ok (.aload_n 1, 1) := by decide +kernel
theorem d_rm_sv_11 : decode prog_25_method_1_code 11 = .ok (.arraylength, 1) := by decide +kernel
theorem d_rm_sv_12 : decode prog_25_method_1_code 12 = .ok (.putfield 15, 3) := by decide +kernel
theorem d_rm_sv_15 : decode prog_25_method_1_code 15 = .ok (.return_, 1) := by decide +kernel
set_option maxRecDepth 65536 in
set_option maxHeartbeats 40000000 in
theorem rm_sv (l : Launch) (Z : State) (a0 : Array Value) (hw : ∀ d ∈ tables_1, d.before a0 Z = true) (ws : List Jvm.Cond) (a b : Addr) (kb : ClassId) (h0 : Heap) (n0 : Nat) (Z0 : n0 ≤ h0.size) (g0 : n0 ≤ a) (nba : b ≠ a) (E0 : Exa Z h0 a "com/example/kttl/kttl/keyspace/StringValue") (F1 : Fld Z h0 a "com/example/kttl/kttl/keyspace/StringValue" "bytes" "[B" .null) (F2 : Fld Z h0 a "com/example/kttl/kttl/keyspace/StringValue" "length" "I" (.int (0 : Int32))) (VB : Arv Z h0 b kb .byte (0 : Int32) ([] : List Value) (.int (0 : Int32))) :
    MetFree l (⟨"com/example/kttl/kttl/keyspace/StringValue", "<init>", "([B)V"⟩ : MethodName) (head1 (Jvm.Cond.code (⟨"com/example/kttl/kttl/keyspace/StringValue", "<init>", "([B)V"⟩ : MethodName) prog_25_method_1_code 2 none :: ws) ({ frames := 1, cells := 0, slots := 0, locals := 12 } : Room)) (fun a_ U => a_ = #[(.ref a), (.ref b)] ∧ Z.Warmed39 U.vm ∧ U.heap = h0) (fun _ _ _ _ _ => True) (fun _ U o U' => ∃ v L, o = .returned v ∧ Qsv Z a h0 n0 v U'.heap L ∧ FrameEnd U o U' L ({ frames := 1, cells := 0, slots := 0, locals := 12 } : Room).cells ({ frames := 1, cells := 0, slots := 0, locals := 12 } : Room).slots) := by
  refine MetFree.of_bodySF (plainFor_of_name pn_5) hisR ?_
  intro p e s m args below meth c s₁ Bd hml0 hP hK
  obtain ⟨rfl, hZ, hh⟩ := hP
  have hx := Bd.exec
  have hby := Bd.bytes
  have hrt := Bd.returns
  have hlk : meth.locks = false := Bd.notSynchronized
  have hml : c.maxLocals = 2 := hml0
  have hown : s.vm.findClass "com/example/kttl/kttl/keyspace/StringValue" = some m.cls := findClass_of_methodNamed Bd.named
  have hnm := (name_of_methodNamed Bd.named Bd.method).1
  have X0 : Stand p l e ({ frames := 1, cells := 0, slots := 0, locals := 12 } : Room) s m #[(.ref a), (.ref b)] below meth c s₁ [] 0 0 := Stand.of_body Bd
  have e0 : s₁.heap = h0 := by rw [← hh, Bd.state]; rfl
  have N0 := Fr.nil n0
  show own_G p.tables e below (fun o t => ∃ v L, o = .returned v ∧ Qsv Z a h0 n0 v t.heap L ∧ FrameEnd s o t L ({ frames := 1, cells := 0, slots := 0, locals := 12 } : Room).cells ({ frames := 1, cells := 0, slots := 0, locals := 12 } : Room).slots) (s₁.setTop (entryFrame m #[(.ref a), (.ref b)] 2))
  refine own_G.cast (show entryFrame m #[(.ref a), (.ref b)] 2 = mkF m 0 #[.val (.ref a), .val (.ref b)] [] from by first | (simp [entryFrame, mkF, argsToLocals, Value.category]; done) | rfl) ?_
  refine own_G.go (fun t_ k_ => XS.aloadN X0.here hx rfl (hb hby d_rm_sv_0) rfl rfl k_) ?_
  show own_G _ _ _ _ (s₁.setTop (mkF m 1 #[.val (.ref a), .val (.ref b)] [(.ref a)]))
  obtain ⟨T_1, X_1, e_1, st_1⟩ := initO X0 hx hZ hown (own_w hw 33 rfl) (own_w hw 8 rfl) (own_w hw 9 rfl) e0 (g := (mkF m 1 #[.val (.ref a), .val (.ref b)] [(.ref a)])) rfl (by rw [hml]; rfl) rfl (hb hby d_rm_sv_1) (by decide) (W := 0) (by show 2 * 0 + _ ≤ _; exact Nat.le_of_eq rfl) (by decide)
  refine own_G.go st_1 ?_
  show own_G _ _ _ _ (T_1.setTop (mkF m 4 #[.val (.ref a), .val (.ref b)] []))
  refine own_G.go (fun t_ k_ => XS.aloadN X_1.here hx rfl (hb hby d_rm_sv_4) rfl rfl k_) ?_
  show own_G _ _ _ _ (T_1.setTop (mkF m 5 #[.val (.ref a), .val (.ref b)] [(.ref a)]))
  refine own_G.go (fun t_ k_ => XS.aloadN X_1.here hx rfl (hb hby d_rm_sv_5) rfl rfl k_) ?_
  show own_G _ _ _ _ (T_1.setTop (mkF m 6 #[.val (.ref a), .val (.ref b)] [(.ref b), (.ref a)]))
  obtain ⟨T_2, h_2, X_2, e_2, W_2, st_2⟩ := putF X_1 hx hZ hown (host := "") (Or.inl (own_w hw 34 rfl)) Via.refl e_1 F1 E0 (Or.inl (own_w hw 35 rfl)) (own_w hw 28 rfl) (ty := (.array .byte)) (by decide) rfl rfl (g := (mkF m 6 #[.val (.ref a), .val (.ref b)] [(.ref b), (.ref a)])) rfl rfl (hb hby d_rm_sv_6)
  refine own_G.go st_2 ?_
  have F_2 : Fld Z h_2 a "com/example/kttl/kttl/keyspace/StringValue" "bytes" "[B" (.ref b) := F1.same W_2
  have N_2 := Fr.snoc X_2 N0 g0
  show own_G _ _ _ _ (T_2.setTop (mkF m 9 #[.val (.ref a), .val (.ref b)] []))
  refine own_G.go (fun t_ k_ => XS.aloadN X_2.here hx rfl (hb hby d_rm_sv_9) rfl rfl k_) ?_
  show own_G _ _ _ _ (T_2.setTop (mkF m 10 #[.val (.ref a), .val (.ref b)] [(.ref a)]))
  refine own_G.go (fun t_ k_ => XS.aloadN X_2.here hx rfl (hb hby d_rm_sv_10) rfl rfl k_) ?_
  show own_G _ _ _ _ (T_2.setTop (mkF m 11 #[.val (.ref a), .val (.ref b)] [(.ref b), (.ref a)]))
  have VB'_4 : Arv Z h_2 b kb .byte (0 : Int32) ([] : List Value) (.int (0 : Int32)) := (VB.other W_2 nba)
  obtain ⟨cel_3, A_3, -, S_3, M_3, -, -⟩ := id VB'_4
  refine own_G.go (X_2.arraylength hx (by rw [e_2]; exact A_3.1) (State.isArrayOf_alike hZ.alike A_3.2.1) (g := (mkF m 11 #[.val (.ref a), .val (.ref b)] [(.ref b), (.ref a)])) rfl rfl (hb hby d_rm_sv_11)) ?_
  rw [len_of S_3 M_3]
  show own_G _ _ _ _ (T_2.setTop (mkF m 12 #[.val (.ref a), .val (.ref b)] [(.int (0 : Int32)), (.ref a)]))
  have F2'_5 : Fld Z h_2 a "com/example/kttl/kttl/keyspace/StringValue" "length" "I" (.int (0 : Int32)) := (F2.other W_2 (Or.inr (slot_ne (C := "com/example/kttl/kttl/keyspace/StringValue") (Or.inl (own_w hw 37 rfl)) (Or.inl (own_w hw 35 rfl)) (by decide) (by decide : parseFieldDescriptor "I" = some .int) (by decide : parseFieldDescriptor "[B" = some (.array .byte)))))
  have E0'_6 : Exa Z h_2 a "com/example/kttl/kttl/keyspace/StringValue" := (E0.wr W_2)
  obtain ⟨T_7, h_7, X_7, e_7, W_7, st_7⟩ := putF X_2 hx hZ hown (host := "") (Or.inl (own_w hw 36 rfl)) Via.refl e_2 F2'_5 E0'_6 (Or.inl (own_w hw 37 rfl)) (own_w hw 28 rfl) (ty := .int) (by decide) rfl rfl (g := (mkF m 12 #[.val (.ref a), .val (.ref b)] [(.int (0 : Int32)), (.ref a)])) rfl rfl (hb hby d_rm_sv_12)
  refine own_G.go st_7 ?_
  have F_7 : Fld Z h_7 a "com/example/kttl/kttl/keyspace/StringValue" "length" "I" (.int (0 : Int32)) := F2'_5.same W_7
  have N_7 := Fr.snoc X_7 N_2 g0
  show own_G _ _ _ _ (T_7.setTop (mkF m 15 #[.val (.ref a), .val (.ref b)] []))
  have E0'_8 : Exa Z h_7 a "com/example/kttl/kttl/keyspace/StringValue" := (E0'_6.wr W_7)
  exact own_G.end_ X_7 hlk (v := none) (fun _ => rfl) (fun fs hr => X_7.returnOut hx hrt (hb hby d_rm_sv_15) hr) e_7 ⟨rfl, N_7, (((Keep.refl h0 [a]).wr W_2 (Or.inl (List.mem_of_getElem? (i := 0) rfl))).wr W_7 (Or.inl (List.mem_of_getElem? (i := 0) rfl))), E0'_8⟩ (by decide) (by decide)
def Qent (Z : State) (a : Addr) (d : Int64) (h0 : Heap) (n0 : Nat) (v : Option Value) (h : Heap) (L : List Loc) : Prop := v = none ∧ Fr n0 L ∧ Keep h0 h [a] ∧ Exa Z h a "com/example/kttl/kttl/keyspace/Entry" ∧ Fld Z h a "com/example/kttl/kttl/keyspace/Entry" "slot" "I" (.int (-1 : Int32)) ∧ Fld Z h a "com/example/kttl/kttl/keyspace/Entry" "hasDeadline" "Z" (.int (1 : Int32)) ∧ Fld Z h a "com/example/kttl/kttl/keyspace/Entry" "deadline" "J" (.long d)
theorem d_rm_ent_0 : decode prog_18_method_1_code 0 = .ok (.aload_n 0, 1) := by decide +kernel
theorem d_rm_ent_1 : decode prog_18_method_1_code 1 = .ok (.invokespecial 1, 3) := by decide +kernel
theorem d_rm_ent_4 : decode prog_18_method_1_code 4 = .ok (.aload_n 0, 1) := by decide +kernel
theorem d_rm_ent_5 : decode prog_18_method_1_code 5 = .ok (.iconst (-1), 1) := by decide +kernel
theorem d_rm_ent_6 : decode prog_18_method_1_code 6 = .ok (.putfield 9, 3) := by decide +kernel
theorem d_rm_ent_9 : decode prog_18_method_1_code 9 = .ok (.aload_n 0, 1) := by decide +kernel
theorem d_rm_ent_10 : decode prog_18_method_1_code 10 = .ok (.aload_n 1, 1) := by decide +kernel
theorem d_rm_ent_11 : decode prog_18_method_1_code 11 = .ok (.putfield 13, 3) := by decide +kernel
theorem d_rm_ent_14 : decode prog_18_method_1_code 14 = .ok (.aload_n 0, 1) := by decide +kernel
theorem d_rm_ent_15 : decode prog_18_method_1_code 15 = .ok (.aload_n 2, 1) := by decide +kernel
theorem d_rm_ent_16 : decode prog_18_method_1_code 16 = .ok (.putfield 17, 3) := by decide +kernel
theorem d_rm_ent_19 : decode prog_18_method_1_code 19 = .ok (.aload_n 0, 1) := by decide +kernel
theorem d_rm_ent_20 : decode prog_18_method_1_code 20 = .ok (.iload_n 3, 1) := by decide +kernel
theorem d_rm_ent_21 : decode prog_18_method_1_code 21 = .ok (.putfield 21, 3) := by decide +kernel
theorem d_rm_ent_24 : decode prog_18_method_1_code 24 = .ok (.aload_n 0, 1) := by decide +kernel
theorem d_rm_ent_25 : decode prog_18_method_1_code 25 = .ok (.lload 4, 2) := by decide +kernel
theorem d_rm_ent_27 : decode prog_18_method_1_code 27 = .ok (.putfield 25, 3) := by decide +kernel
theorem d_rm_ent_30 : decode prog_18_method_1_code 30 = .ok (.return_, 1) := by decide +kernel
set_option maxRecDepth 65536 in
set_option maxHeartbeats 40000000 in
theorem rm_ent (l : Launch) (Z : State) (a0 : Array Value) (hw : ∀ d ∈ tables_1, d.before a0 Z = true) (ws : List Jvm.Cond) (a kd sv : Addr) (d : Int64) (h0 : Heap) (n0 : Nat) (Z0 : n0 ≤ h0.size) (g0 : n0 ≤ a) (E0 : Exa Z h0 a "com/example/kttl/kttl/keyspace/Entry") (F_slot : Fld Z h0 a "com/example/kttl/kttl/keyspace/Entry" "slot" "I" (.int (0 : Int32))) (F_kind : Fld Z h0 a "com/example/kttl/kttl/keyspace/Entry" "kind" "Lcom/example/kttl/kttl/keyspace/Kind;" .null) (F_value : Fld Z h0 a "com/example/kttl/kttl/keyspace/Entry" "value" "Ljava/lang/Object;" .null) (F_hasDeadline : Fld Z h0 a "com/example/kttl/kttl/keyspace/Entry" "hasDeadline" "Z" (.int (0 : Int32))) (F_deadline : Fld Z h0 a "com/example/kttl/kttl/keyspace/Entry" "deadline" "J" (.long (0 : Int64))) :
    MetFree l (⟨"com/example/kttl/kttl/keyspace/Entry", "<init>", "(Lcom/example/kttl/kttl/keyspace/Kind;Ljava/lang/Object;ZJ)V"⟩ : MethodName) (head1 (Jvm.Cond.code (⟨"com/example/kttl/kttl/keyspace/Entry", "<init>", "(Lcom/example/kttl/kttl/keyspace/Kind;Ljava/lang/Object;ZJ)V"⟩ : MethodName) prog_18_method_1_code 6 none :: ws) ({ frames := 1, cells := 0, slots := 0, locals := 12 } : Room)) (fun a_ U => a_ = #[(.ref a), (.ref kd), (.ref sv), (.int (1 : Int32)), (.long d)] ∧ Z.Warmed39 U.vm ∧ U.heap = h0) (fun _ _ _ _ _ => True) (fun _ U o U' => ∃ v L, o = .returned v ∧ Qent Z a d h0 n0 v U'.heap L ∧ FrameEnd U o U' L ({ frames := 1, cells := 0, slots := 0, locals := 12 } : Room).cells ({ frames := 1, cells := 0, slots := 0, locals := 12 } : Room).slots) := by
  refine MetFree.of_bodySF (plainFor_of_name pn_1) hisR ?_
  intro p e s m args below meth c s₁ Bd hml0 hP hK
  obtain ⟨rfl, hZ, hh⟩ := hP
  have hx := Bd.exec
  have hby := Bd.bytes
  have hrt := Bd.returns
  have hlk : meth.locks = false := Bd.notSynchronized
  have hml : c.maxLocals = 6 := hml0
  have hown : s.vm.findClass "com/example/kttl/kttl/keyspace/Entry" = some m.cls := findClass_of_methodNamed Bd.named
  have hnm := (name_of_methodNamed Bd.named Bd.method).1
  have X0 : Stand p l e ({ frames := 1, cells := 0, slots := 0, locals := 12 } : Room) s m #[(.ref a), (.ref kd), (.ref sv), (.int (1 : Int32)), (.long d)] below meth c s₁ [] 0 0 := Stand.of_body Bd
  have e0 : s₁.heap = h0 := by rw [← hh, Bd.state]; rfl
  have N0 := Fr.nil n0
  show own_G p.tables e below (fun o t => ∃ v L, o = .returned v ∧ Qent Z a d h0 n0 v t.heap L ∧ FrameEnd s o t L ({ frames := 1, cells := 0, slots := 0, locals := 12 } : Room).cells ({ frames := 1, cells := 0, slots := 0, locals := 12 } : Room).slots) (s₁.setTop (entryFrame m #[(.ref a), (.ref kd), (.ref sv), (.int (1 : Int32)), (.long d)] 6))
  refine own_G.cast (show entryFrame m #[(.ref a), (.ref kd), (.ref sv), (.int (1 : Int32)), (.long d)] 6 = mkF m 0 #[.val (.ref a), .val (.ref kd), .val (.ref sv), .val (.int (1 : Int32)), .val (.long d), .second] [] from by first | (simp [entryFrame, mkF, argsToLocals, Value.category]; done) | rfl) ?_
  refine own_G.go (fun t_ k_ => XS.aloadN X0.here hx rfl (hb hby d_rm_ent_0) rfl rfl k_) ?_
  show own_G _ _ _ _ (s₁.setTop (mkF m 1 #[.val (.ref a), .val (.ref kd), .val (.ref sv), .val (.int (1 : Int32)), .val (.long d), .second] [(.ref a)]))
  obtain ⟨T_1, X_1, e_1, st_1⟩ := initO X0 hx hZ hown (own_w hw 41 rfl) (own_w hw 8 rfl) (own_w hw 9 rfl) e0 (g := (mkF m 1 #[.val (.ref a), .val (.ref kd), .val (.ref sv), .val (.int (1 : Int32)), .val (.long d), .second] [(.ref a)])) rfl (by rw [hml]; rfl) rfl (hb hby d_rm_ent_1) (by decide) (W := 0) (by show 2 * 0 + _ ≤ _; exact Nat.le_of_eq rfl) (by decide)
  refine own_G.go st_1 ?_
  show own_G _ _ _ _ (T_1.setTop (mkF m 4 #[.val (.ref a), .val (.ref kd), .val (.ref sv), .val (.int (1 : Int32)), .val (.long d), .second] []))
  refine own_G.go (fun t_ k_ => XS.aloadN X_1.here hx rfl (hb hby d_rm_ent_4) rfl rfl k_) ?_
  show own_G _ _ _ _ (T_1.setTop (mkF m 5 #[.val (.ref a), .val (.ref kd), .val (.ref sv), .val (.int (1 : Int32)), .val (.long d), .second] [(.ref a)]))
  refine own_G.go (fun t_ k_ => XS.iconst X_1.here hx rfl (hb hby d_rm_ent_5) k_) ?_
  show own_G _ _ _ _ (T_1.setTop (mkF m 6 #[.val (.ref a), .val (.ref kd), .val (.ref sv), .val (.int (1 : Int32)), .val (.long d), .second] [(.int (-1 : Int32)), (.ref a)]))
  obtain ⟨T_2, h_2, X_2, e_2, W_2, st_2⟩ := putF X_1 hx hZ hown (host := "") (Or.inl (own_w hw 42 rfl)) Via.refl e_1 F_slot E0 (Or.inl (own_w hw 43 rfl)) (own_w hw 23 rfl) (ty := .int) (by decide) rfl rfl (g := (mkF m 6 #[.val (.ref a), .val (.ref kd), .val (.ref sv), .val (.int (1 : Int32)), .val (.long d), .second] [(.int (-1 : Int32)), (.ref a)])) rfl rfl (hb hby d_rm_ent_6)
  refine own_G.go st_2 ?_
  have F_2 : Fld Z h_2 a "com/example/kttl/kttl/keyspace/Entry" "slot" "I" (.int (-1 : Int32)) := F_slot.same W_2
  have N_2 := Fr.snoc X_2 N0 g0
  show own_G _ _ _ _ (T_2.setTop (mkF m 9 #[.val (.ref a), .val (.ref kd), .val (.ref sv), .val (.int (1 : Int32)), .val (.long d), .second] []))
  refine own_G.go (fun t_ k_ => XS.aloadN X_2.here hx rfl (hb hby d_rm_ent_9) rfl rfl k_) ?_
  show own_G _ _ _ _ (T_2.setTop (mkF m 10 #[.val (.ref a), .val (.ref kd), .val (.ref sv), .val (.int (1 : Int32)), .val (.long d), .second] [(.ref a)]))
  refine own_G.go (fun t_ k_ => XS.aloadN X_2.here hx rfl (hb hby d_rm_ent_10) rfl rfl k_) ?_
  show own_G _ _ _ _ (T_2.setTop (mkF m 11 #[.val (.ref a), .val (.ref kd), .val (.ref sv), .val (.int (1 : Int32)), .val (.long d), .second] [(.ref kd), (.ref a)]))
  have F_kind'_3 : Fld Z h_2 a "com/example/kttl/kttl/keyspace/Entry" "kind" "Lcom/example/kttl/kttl/keyspace/Kind;" .null := (F_kind.other W_2 (Or.inr (slot_ne (C := "com/example/kttl/kttl/keyspace/Entry") (Or.inr (own_w hw 45 rfl)) (Or.inl (own_w hw 43 rfl)) (by decide) (by decide : parseFieldDescriptor "Lcom/example/kttl/kttl/keyspace/Kind;" = some (.object "com/example/kttl/kttl/keyspace/Kind")) (by decide : parseFieldDescriptor "I" = some .int))))
  have E0'_4 : Exa Z h_2 a "com/example/kttl/kttl/keyspace/Entry" := (E0.wr W_2)
  obtain ⟨T_5, h_5, X_5, e_5, W_5, st_5⟩ := putF X_2 hx hZ hown (host := "") (Or.inl (own_w hw 44 rfl)) Via.refl e_2 F_kind'_3 E0'_4 (Or.inr ⟨(own_w hw 45 rfl), rfl, hnm⟩) (own_w hw 23 rfl) (ty := (.object "com/example/kttl/kttl/keyspace/Kind")) (by decide) rfl rfl (g := (mkF m 11 #[.val (.ref a), .val (.ref kd), .val (.ref sv), .val (.int (1 : Int32)), .val (.long d), .second] [(.ref kd), (.ref a)])) rfl rfl (hb hby d_rm_ent_11)
  refine own_G.go st_5 ?_
  have F_5 : Fld Z h_5 a "com/example/kttl/kttl/keyspace/Entry" "kind" "Lcom/example/kttl/kttl/keyspace/Kind;" (.ref kd) := F_kind'_3.same W_5
  have N_5 := Fr.snoc X_5 N_2 g0
  show own_G _ _ _ _ (T_5.setTop (mkF m 14 #[.val (.ref a), .val (.ref kd), .val (.ref sv), .val (.int (1 : Int32)), .val (.long d), .second] []))
  refine own_G.go (fun t_ k_ => XS.aloadN X_5.here hx rfl (hb hby d_rm_ent_14) rfl rfl k_) ?_
  show own_G _ _ _ _ (T_5.setTop (mkF m 15 #[.val (.ref a), .val (.ref kd), .val (.ref sv), .val (.int (1 : Int32)), .val (.long d), .second] [(.ref a)]))
  refine own_G.go (fun t_ k_ => XS.aloadN X_5.here hx rfl (hb hby d_rm_ent_15) rfl rfl k_) ?_
  show own_G _ _ _ _ (T_5.setTop (mkF m 16 #[.val (.ref a), .val (.ref kd), .val (.ref sv), .val (.int (1 : Int32)), .val (.long d), .second] [(.ref sv), (.ref a)]))
  have F_value'_6 : Fld Z h_5 a "com/example/kttl/kttl/keyspace/Entry" "value" "Ljava/lang/Object;" .null := ((F_value.other W_2 (Or.inr (slot_ne (C := "com/example/kttl/kttl/keyspace/Entry") (Or.inr (own_w hw 47 rfl)) (Or.inl (own_w hw 43 rfl)) (by decide) (by decide : parseFieldDescriptor "Ljava/lang/Object;" = some (.object "java/lang/Object")) (by decide : parseFieldDescriptor "I" = some .int)))).other W_5 (Or.inr (slot_ne (C := "com/example/kttl/kttl/keyspace/Entry") (Or.inr (own_w hw 47 rfl)) (Or.inr (own_w hw 45 rfl)) (by decide) (by decide : parseFieldDescriptor "Ljava/lang/Object;" = some (.object "java/lang/Object")) (by decide : parseFieldDescriptor "Lcom/example/kttl/kttl/keyspace/Kind;" = some (.object "com/example/kttl/kttl/keyspace/Kind")))))
  have E0'_7 : Exa Z h_5 a "com/example/kttl/kttl/keyspace/Entry" := (E0'_4.wr W_5)
  obtain ⟨T_8, h_8, X_8, e_8, W_8, st_8⟩ := putF X_5 hx hZ hown (host := "") (Or.inl (own_w hw 46 rfl)) Via.refl e_5 F_value'_6 E0'_7 (Or.inr ⟨(own_w hw 47 rfl), rfl, hnm⟩) (own_w hw 23 rfl) (ty := (.object "java/lang/Object")) (by decide) rfl rfl (g := (mkF m 16 #[.val (.ref a), .val (.ref kd), .val (.ref sv), .val (.int (1 : Int32)), .val (.long d), .second] [(.ref sv), (.ref a)])) rfl rfl (hb hby d_rm_ent_16)
  refine own_G.go st_8 ?_
  have F_8 : Fld Z h_8 a "com/example/kttl/kttl/keyspace/Entry" "value" "Ljava/lang/Object;" (.ref sv) := F_value'_6.same W_8
  have N_8 := Fr.snoc X_8 N_5 g0
  show own_G _ _ _ _ (T_8.setTop (mkF m 19 #[.val (.ref a), .val (.ref kd), .val (.ref sv), .val (.int (1 : Int32)), .val (.long d), .second] []))
  refine own_G.go (fun t_ k_ => XS.aloadN X_8.here hx rfl (hb hby d_rm_ent_19) rfl rfl k_) ?_
  show own_G _ _ _ _ (T_8.setTop (mkF m 20 #[.val (.ref a), .val (.ref kd), .val (.ref sv), .val (.int (1 : Int32)), .val (.long d), .second] [(.ref a)]))
  refine own_G.go (fun t_ k_ => XS.iloadN X_8.here hx rfl (hb hby d_rm_ent_20) rfl k_) ?_
  show own_G _ _ _ _ (T_8.setTop (mkF m 21 #[.val (.ref a), .val (.ref kd), .val (.ref sv), .val (.int (1 : Int32)), .val (.long d), .second] [(.int (1 : Int32)), (.ref a)]))
  have F_hasDeadline'_9 : Fld Z h_8 a "com/example/kttl/kttl/keyspace/Entry" "hasDeadline" "Z" (.int (0 : Int32)) := (((F_hasDeadline.other W_2 (Or.inr (slot_ne (C := "com/example/kttl/kttl/keyspace/Entry") (Or.inr (own_w hw 49 rfl)) (Or.inl (own_w hw 43 rfl)) (by decide) (by decide : parseFieldDescriptor "Z" = some .boolean) (by decide : parseFieldDescriptor "I" = some .int)))).other W_5 (Or.inr (slot_ne (C := "com/example/kttl/kttl/keyspace/Entry") (Or.inr (own_w hw 49 rfl)) (Or.inr (own_w hw 45 rfl)) (by decide) (by decide : parseFieldDescriptor "Z" = some .boolean) (by decide : parseFieldDescriptor "Lcom/example/kttl/kttl/keyspace/Kind;" = some (.object "com/example/kttl/kttl/keyspace/Kind"))))).other W_8 (Or.inr (slot_ne (C := "com/example/kttl/kttl/keyspace/Entry") (Or.inr (own_w hw 49 rfl)) (Or.inr (own_w hw 47 rfl)) (by decide) (by decide : parseFieldDescriptor "Z" = some .boolean) (by decide : parseFieldDescriptor "Ljava/lang/Object;" = some (.object "java/lang/Object")))))
  have E0'_10 : Exa Z h_8 a "com/example/kttl/kttl/keyspace/Entry" := (E0'_7.wr W_8)
  obtain ⟨T_11, h_11, X_11, e_11, W_11, st_11⟩ := putFN X_8 hx hZ hown (own_w hw 48 rfl) Via.refl e_8 F_hasDeadline'_9 E0'_10 (Or.inr ⟨(own_w hw 49 rfl), rfl, hnm⟩) (own_w hw 23 rfl) (ty := .boolean) (v' := (.int (1 : Int32))) (by decide) rfl rfl (g := (mkF m 21 #[.val (.ref a), .val (.ref kd), .val (.ref sv), .val (.int (1 : Int32)), .val (.long d), .second] [(.int (1 : Int32)), (.ref a)])) rfl rfl (hb hby d_rm_ent_21)
  refine own_G.go st_11 ?_
  have F_11 : Fld Z h_11 a "com/example/kttl/kttl/keyspace/Entry" "hasDeadline" "Z" (.int (1 : Int32)) := F_hasDeadline'_9.same W_11
  have N_11 := Fr.snoc X_11 N_8 g0
  show own_G _ _ _ _ (T_11.setTop (mkF m 24 #[.val (.ref a), .val (.ref kd), .val (.ref sv), .val (.int (1 : Int32)), .val (.long d), .second] []))
  refine own_G.go (fun t_ k_ => XS.aloadN X_11.here hx rfl (hb hby d_rm_ent_24) rfl rfl k_) ?_
  show own_G _ _ _ _ (T_11.setTop (mkF m 25 #[.val (.ref a), .val (.ref kd), .val (.ref sv), .val (.int (1 : Int32)), .val (.long d), .second] [(.ref a)]))
  refine own_G.go (fun t_ k_ => XS.lload X_11.here hx rfl (hb hby d_rm_ent_25) rfl k_) ?_
  show own_G _ _ _ _ (T_11.setTop (mkF m 27 #[.val (.ref a), .val (.ref kd), .val (.ref sv), .val (.int (1 : Int32)), .val (.long d), .second] [(.long d), (.ref a)]))
  have F_deadline'_12 : Fld Z h_11 a "com/example/kttl/kttl/keyspace/Entry" "deadline" "J" (.long (0 : Int64)) := ((((F_deadline.other W_2 (Or.inr (slot_ne (C := "com/example/kttl/kttl/keyspace/Entry") (Or.inr (own_w hw 51 rfl)) (Or.inl (own_w hw 43 rfl)) (by decide) (by decide : parseFieldDescriptor "J" = some .long) (by decide : parseFieldDescriptor "I" = some .int)))).other W_5 (Or.inr (slot_ne (C := "com/example/kttl/kttl/keyspace/Entry") (Or.inr (own_w hw 51 rfl)) (Or.inr (own_w hw 45 rfl)) (by decide) (by decide : parseFieldDescriptor "J" = some .long) (by decide : parseFieldDescriptor "Lcom/example/kttl/kttl/keyspace/Kind;" = some (.object "com/example/kttl/kttl/keyspace/Kind"))))).other W_8 (Or.inr (slot_ne (C := "com/example/kttl/kttl/keyspace/Entry") (Or.inr (own_w hw 51 rfl)) (Or.inr (own_w hw 47 rfl)) (by decide) (by decide : parseFieldDescriptor "J" = some .long) (by decide : parseFieldDescriptor "Ljava/lang/Object;" = some (.object "java/lang/Object"))))).other W_11 (Or.inr (slot_ne (C := "com/example/kttl/kttl/keyspace/Entry") (Or.inr (own_w hw 51 rfl)) (Or.inr (own_w hw 49 rfl)) (by decide) (by decide : parseFieldDescriptor "J" = some .long) (by decide : parseFieldDescriptor "Z" = some .boolean))))
  have E0'_13 : Exa Z h_11 a "com/example/kttl/kttl/keyspace/Entry" := (E0'_10.wr W_11)
  obtain ⟨T_14, h_14, X_14, e_14, W_14, st_14⟩ := putF X_11 hx hZ hown (host := "") (Or.inl (own_w hw 50 rfl)) Via.refl e_11 F_deadline'_12 E0'_13 (Or.inr ⟨(own_w hw 51 rfl), rfl, hnm⟩) (own_w hw 23 rfl) (ty := .long) (by decide) rfl rfl (g := (mkF m 27 #[.val (.ref a), .val (.ref kd), .val (.ref sv), .val (.int (1 : Int32)), .val (.long d), .second] [(.long d), (.ref a)])) rfl rfl (hb hby d_rm_ent_27)
  refine own_G.go st_14 ?_
  have F_14 : Fld Z h_14 a "com/example/kttl/kttl/keyspace/Entry" "deadline" "J" (.long d) := F_deadline'_12.same W_14
  have N_14 := Fr.snoc X_14 N_11 g0
  show own_G _ _ _ _ (T_14.setTop (mkF m 30 #[.val (.ref a), .val (.ref kd), .val (.ref sv), .val (.int (1 : Int32)), .val (.long d), .second] []))
  have E0'_15 : Exa Z h_14 a "com/example/kttl/kttl/keyspace/Entry" := (E0'_13.wr W_14)
  have F_2'_16 : Fld Z h_14 a "com/example/kttl/kttl/keyspace/Entry" "slot" "I" (.int (-1 : Int32)) := ((((F_2.other W_5 (Or.inr (slot_ne (C := "com/example/kttl/kttl/keyspace/Entry") (Or.inl (own_w hw 43 rfl)) (Or.inr (own_w hw 45 rfl)) (by decide) (by decide : parseFieldDescriptor "I" = some .int) (by decide : parseFieldDescriptor "Lcom/example/kttl/kttl/keyspace/Kind;" = some (.object "com/example/kttl/kttl/keyspace/Kind"))))).other W_8 (Or.inr (slot_ne (C := "com/example/kttl/kttl/keyspace/Entry") (Or.inl (own_w hw 43 rfl)) (Or.inr (own_w hw 47 rfl)) (by decide) (by decide : parseFieldDescriptor "I" = some .int) (by decide : parseFieldDescriptor "Ljava/lang/Object;" = some (.object "java/lang/Object"))))).other W_11 (Or.inr (slot_ne (C := "com/example/kttl/kttl/keyspace/Entry") (Or.inl (own_w hw 43 rfl)) (Or.inr (own_w hw 49 rfl)) (by decide) (by decide : parseFieldDescriptor "I" = some .int) (by decide : parseFieldDescriptor "Z" = some .boolean)))).other W_14 (Or.inr (slot_ne (C := "com/example/kttl/kttl/keyspace/Entry") (Or.inl (own_w hw 43 rfl)) (Or.inr (own_w hw 51 rfl)) (by decide) (by decide : parseFieldDescriptor "I" = some .int) (by decide : parseFieldDescriptor "J" = some .long))))
  have F_11'_17 : Fld Z h_14 a "com/example/kttl/kttl/keyspace/Entry" "hasDeadline" "Z" (.int (1 : Int32)) := (F_11.other W_14 (Or.inr (slot_ne (C := "com/example/kttl/kttl/keyspace/Entry") (Or.inr (own_w hw 49 rfl)) (Or.inr (own_w hw 51 rfl)) (by decide) (by decide : parseFieldDescriptor "Z" = some .boolean) (by decide : parseFieldDescriptor "J" = some .long))))
  exact own_G.end_ X_14 hlk (v := none) (fun _ => rfl) (fun fs hr => X_14.returnOut hx hrt (hb hby d_rm_ent_30) hr) e_14 ⟨rfl, N_14, ((((((Keep.refl h0 [a]).wr W_2 (Or.inl (List.mem_of_getElem? (i := 0) rfl))).wr W_5 (Or.inl (List.mem_of_getElem? (i := 0) rfl))).wr W_8 (Or.inl (List.mem_of_getElem? (i := 0) rfl))).wr W_11 (Or.inl (List.mem_of_getElem? (i := 0) rfl))).wr W_14 (Or.inl (List.mem_of_getElem? (i := 0) rfl))), E0'_15, F_2'_16, F_11'_17, F_14⟩ (by decide) (by decide)
def Qof (Z : State) (d : Int64) (h0 : Heap) (n0 : Nat) (v : Option Value) (h : Heap) (L : List Loc) : Prop := ∃ r : Addr, v = some (.ref r) ∧ Fr n0 L ∧ Keep h0 h [] ∧ h0.size ≤ r ∧ Exa Z h r "com/example/kttl/kttl/keyspace/Entry" ∧ Fld Z h r "com/example/kttl/kttl/keyspace/Entry" "slot" "I" (.int (-1 : Int32)) ∧ Fld Z h r "com/example/kttl/kttl/keyspace/Entry" "hasDeadline" "Z" (.int (1 : Int32)) ∧ Fld Z h r "com/example/kttl/kttl/keyspace/Entry" "deadline" "J" (.long d)
theorem pd_2 : parseMethodDescriptor "([B)V" = some ⟨[(.array .byte)], none⟩ := by decide +kernel
theorem pd_3 : parseMethodDescriptor "(Lcom/example/kttl/kttl/keyspace/Kind;Ljava/lang/Object;ZJ)V" = some ⟨[(.object "com/example/kttl/kttl/keyspace/Kind"), (.object "java/lang/Object"), .boolean, .long], none⟩ := by decide +kernel
theorem d_rm_of_0 : decode prog_18_method_3_code 0 = .ok (.new 7, 3) := by decide +kernel
theorem d_rm_of_3 : decode prog_18_method_3_code 3 = .ok (.dup, 1) := by decide +kernel
theorem d_rm_of_4 : decode prog_18_method_3_code 4 = .ok (.getstatic 29, 3) := by decide +kernel
theorem d_rm_of_7 : decode prog_18_method_3_code 7 = .ok (.new 34, 3) := by decide +kernel
theorem d_rm_of_10 : decode prog_18_method_3_code 10 = .ok (.dup, 1) := by decide +kernel
theorem d_rm_of_11 : decode prog_18_method_3_code 11 = .ok (.aload_n 0, 1) := by decide +kernel
theorem d_rm_of_12 : decode prog_18_method_3_code 12 = .ok (.invokespecial 36, 3) := by decide +kernel
theorem d_rm_of_15 : decode prog_18_method_3_code 15 = .ok (.iconst 1, 1) := by decide +kernel
theorem d_rm_of_16 : decode prog_18_method_3_code 16 = .ok (.lload_n 1, 1) := by decide +kernel
theorem d_rm_of_17 : decode prog_18_method_3_code 17 = .ok (.invokespecial 39, 3) := by decide +kernel
theorem d_rm_of_20 : decode prog_18_method_3_code 20 = .ok (.areturn, 1) := by decide +kernel
set_option maxRecDepth 65536 in
set_option maxHeartbeats 40000000 in
theorem rm_of (l : Launch) (Z : State) (a0 : Array Value) (hw : ∀ d ∈ tables_1, d.before a0 Z = true) (ws : List Jvm.Cond) (b : Addr) (kb : ClassId) (d : Int64) (kd : Addr) (h0 : Heap) (n0 : Nat) (Z0 : n0 ≤ h0.size) (VB : Arv Z h0 b kb .byte (0 : Int32) ([] : List Value) (.int (0 : Int32))) (OK : Sta Z Z.heap "com/example/kttl/kttl/keyspace/Kind" "STRING" "Lcom/example/kttl/kttl/keyspace/Kind;" (.ref kd)) (X00 : Old Z n0 h0) :
    MetFree l (⟨"com/example/kttl/kttl/keyspace/Entry", "of", "([BJ)Lcom/example/kttl/kttl/keyspace/Entry;"⟩ : MethodName) (head1 (Jvm.Cond.code (⟨"com/example/kttl/kttl/keyspace/Entry", "of", "([BJ)Lcom/example/kttl/kttl/keyspace/Entry;"⟩ : MethodName) prog_18_method_3_code 3 (some (.object "com/example/kttl/kttl/keyspace/Entry")) :: ws) ({ frames := 2, cells := 2, slots := 7, locals := 40 } : Room)) (fun a_ U => a_ = #[(.ref b), (.long d)] ∧ Z.Warmed39 U.vm ∧ U.heap = h0) (fun _ _ _ _ _ => True) (fun _ U o U' => ∃ v L, o = .returned v ∧ Qof Z d h0 n0 v U'.heap L ∧ FrameEnd U o U' L ({ frames := 2, cells := 2, slots := 7, locals := 40 } : Room).cells ({ frames := 2, cells := 2, slots := 7, locals := 40 } : Room).slots) := by
  refine MetFree.of_bodySF (plainFor_of_name pn_1) hisR ?_
  intro p e s m args below meth c s₁ Bd hml0 hP hK
  obtain ⟨rfl, hZ, hh⟩ := hP
  have hx := Bd.exec
  have hby := Bd.bytes
  have hrt := Bd.returns
  have hlk : meth.locks = false := Bd.notSynchronized
  have hml : c.maxLocals = 3 := hml0
  have hown : s.vm.findClass "com/example/kttl/kttl/keyspace/Entry" = some m.cls := findClass_of_methodNamed Bd.named
  have hnm := (name_of_methodNamed Bd.named Bd.method).1
  have X0 : Stand p l e ({ frames := 2, cells := 2, slots := 7, locals := 40 } : Room) s m #[(.ref b), (.long d)] below meth c s₁ [] 0 0 := Stand.of_body Bd
  have e0 : s₁.heap = h0 := by rw [← hh, Bd.state]; rfl
  have N0 := Fr.nil n0
  show own_G p.tables e below (fun o t => ∃ v L, o = .returned v ∧ Qof Z d h0 n0 v t.heap L ∧ FrameEnd s o t L ({ frames := 2, cells := 2, slots := 7, locals := 40 } : Room).cells ({ frames := 2, cells := 2, slots := 7, locals := 40 } : Room).slots) (s₁.setTop (entryFrame m #[(.ref b), (.long d)] 3))
  refine own_G.cast (show entryFrame m #[(.ref b), (.long d)] 3 = mkF m 0 #[.val (.ref b), .val (.long d), .second] [] from by first | (simp [entryFrame, mkF, argsToLocals, Value.category]; done) | rfl) ?_
  obtain ⟨T_1, h_1, X_1, e_1, E_1, A_1, D_1, -, st_1⟩ := newO X0 hx hZ hown (own_w hw 22 rfl) (own_w hw 23 rfl) (own_w hw 20 rfl) e0 (g := (mkF m 0 #[.val (.ref b), .val (.long d), .second] [])) rfl (hb hby d_rm_of_0) (by decide) (by decide)
  obtain ⟨a_1, g_1⟩ : ∃ z, z = h0.size := ⟨_, rfl⟩
  rw [← g_1] at A_1 D_1 st_1
  refine own_G.go st_1 ?_
  have F_1_slot : Fld Z h_1 a_1 "com/example/kttl/kttl/keyspace/Entry" "slot" "I" (.int (0 : Int32)) := D_1 (Or.inl (own_w hw 43 rfl)) (ty := .int) (by decide)
  have F_1_kind : Fld Z h_1 a_1 "com/example/kttl/kttl/keyspace/Entry" "kind" "Lcom/example/kttl/kttl/keyspace/Kind;" .null := D_1 (Or.inr (own_w hw 45 rfl)) (ty := (.object "com/example/kttl/kttl/keyspace/Kind")) (by decide)
  have F_1_value : Fld Z h_1 a_1 "com/example/kttl/kttl/keyspace/Entry" "value" "Ljava/lang/Object;" .null := D_1 (Or.inr (own_w hw 47 rfl)) (ty := (.object "java/lang/Object")) (by decide)
  have F_1_hasDeadline : Fld Z h_1 a_1 "com/example/kttl/kttl/keyspace/Entry" "hasDeadline" "Z" (.int (0 : Int32)) := D_1 (Or.inr (own_w hw 49 rfl)) (ty := .boolean) (by decide)
  have F_1_deadline : Fld Z h_1 a_1 "com/example/kttl/kttl/keyspace/Entry" "deadline" "J" (.long (0 : Int64)) := D_1 (Or.inr (own_w hw 51 rfl)) (ty := .long) (by decide)
  show own_G _ _ _ _ (T_1.setTop (mkF m 3 #[.val (.ref b), .val (.long d), .second] [(.ref a_1)]))
  refine own_G.go (fun t_ k_ => XS.dup X_1.here hx rfl (hb hby d_rm_of_3) rfl rfl k_) ?_
  show own_G _ _ _ _ (T_1.setTop (mkF m 4 #[.val (.ref b), .val (.long d), .second] [(.ref a_1), (.ref a_1)]))
  have O_2d : Old Z n0 h_1 := (X00.ext E_1)
  obtain ⟨T_3, X_3, e_3, st_3⟩ := getS2 X_1 hx hZ hown (host := "") (Or.inl (own_w hw 24 rfl)) Via.refl e_1 (OK.ext O_2d.2) (g := (mkF m 4 #[.val (.ref b), .val (.long d), .second] [(.ref a_1), (.ref a_1)])) rfl (hb hby d_rm_of_4)
  refine own_G.go st_3 ?_
  show own_G _ _ _ _ (T_3.setTop (mkF m 7 #[.val (.ref b), .val (.long d), .second] [(.ref kd), (.ref a_1), (.ref a_1)]))
  obtain ⟨T_4, h_4, X_4, e_4, E_4, A_4, D_4, -, st_4⟩ := newO X_3 hx hZ hown (own_w hw 27 rfl) (own_w hw 28 rfl) (own_w hw 29 rfl) e_3 (g := (mkF m 7 #[.val (.ref b), .val (.long d), .second] [(.ref kd), (.ref a_1), (.ref a_1)])) rfl (hb hby d_rm_of_7) (by decide) (by decide)
  obtain ⟨a_4, g_4⟩ : ∃ z, z = h_1.size := ⟨_, rfl⟩
  rw [← g_4] at A_4 D_4 st_4
  refine own_G.go st_4 ?_
  have F_4_bytes : Fld Z h_4 a_4 "com/example/kttl/kttl/keyspace/StringValue" "bytes" "[B" .null := D_4 (Or.inl (own_w hw 35 rfl)) (ty := (.array .byte)) (by decide)
  have F_4_length : Fld Z h_4 a_4 "com/example/kttl/kttl/keyspace/StringValue" "length" "I" (.int (0 : Int32)) := D_4 (Or.inl (own_w hw 37 rfl)) (ty := .int) (by decide)
  show own_G _ _ _ _ (T_4.setTop (mkF m 10 #[.val (.ref b), .val (.long d), .second] [(.ref a_4), (.ref kd), (.ref a_1), (.ref a_1)]))
  refine own_G.go (fun t_ k_ => XS.dup X_4.here hx rfl (hb hby d_rm_of_10) rfl rfl k_) ?_
  show own_G _ _ _ _ (T_4.setTop (mkF m 11 #[.val (.ref b), .val (.long d), .second] [(.ref a_4), (.ref a_4), (.ref kd), (.ref a_1), (.ref a_1)]))
  refine own_G.go (fun t_ k_ => XS.aloadN X_4.here hx rfl (hb hby d_rm_of_11) rfl rfl k_) ?_
  show own_G _ _ _ _ (T_4.setTop (mkF m 12 #[.val (.ref b), .val (.long d), .second] [(.ref b), (.ref a_4), (.ref a_4), (.ref kd), (.ref a_1), (.ref a_1)]))
  have g0_a_4 : n0 ≤ a_4 := Nat.le_trans (Nat.le_trans Z0 E_1.1) (Nat.le_of_eq g_4.symm)
  have VB'_5 : Arv Z h_4 b kb .byte (0 : Int32) ([] : List Value) (.int (0 : Int32)) := ((VB.ext E_1).ext E_4)
  obtain ⟨_, T_6, L_6, Q_6, X_6, st_6⟩ := own_callI X_4 hx rfl hown (mvT hZ (own_w hw 30 rfl)) (mvT hZ (own_w hw 31 rfl)) (mvT hZ (own_w hw 32 rfl)) (by decide) (Q := (Qsv Z a_4 h_4 n0)) (backOf (W := 4) (rm_sv l Z a0 hw [] a_4 b kb h_4 n0 (Nat.le_trans Z0 (Nat.le_trans E_1.1 E_4.1)) g0_a_4 (Nat.ne_of_lt (Nat.lt_of_lt_of_le (Nat.lt_of_lt_of_le VB.lt E_1.1) (Nat.le_of_eq g_4.symm))) A_4 F_4_bytes F_4_length VB'_5) hZ (own_w hw 32 rfl) (own_w hw 29 rfl) (by decide) (by decide)) (a := a_4) (g := (mkF m 12 #[.val (.ref b), .val (.long d), .second] [(.ref b), (.ref a_4), (.ref a_4), (.ref kd), (.ref a_1), (.ref a_1)])) rfl (by rw [hml]; rfl) (argsL := [(.ref b)]) (rest := [(.ref a_4), (.ref kd), (.ref a_1), (.ref a_1)]) (lenOf pd_2 rfl) rfl (by show 2 * 0 + _ ≤ _; exact Nat.le_of_eq rfl) (hb hby d_rm_of_12) e_4 rfl (by decide) (by decide)
  obtain ⟨rfl, Nq_6, K_6, Ex_6⟩ := Q_6
  refine own_G.via st_6 ?_
  have N_6 := Fr.app N0 Nq_6
  show own_G _ _ _ _ (T_6.setTop (mkF m 15 #[.val (.ref b), .val (.long d), .second] [(.ref a_4), (.ref kd), (.ref a_1), (.ref a_1)]))
  refine own_G.go (fun t_ k_ => XS.iconst X_6.here hx rfl (hb hby d_rm_of_15) k_) ?_
  show own_G _ _ _ _ (T_6.setTop (mkF m 16 #[.val (.ref b), .val (.long d), .second] [(.int (1 : Int32)), (.ref a_4), (.ref kd), (.ref a_1), (.ref a_1)]))
  refine own_G.go (fun t_ k_ => XS.lloadN X_6.here hx rfl (hb hby d_rm_of_16) rfl k_) ?_
  show own_G _ _ _ _ (T_6.setTop (mkF m 17 #[.val (.ref b), .val (.long d), .second] [(.long d), (.int (1 : Int32)), (.ref a_4), (.ref kd), (.ref a_1), (.ref a_1)]))
  have A_1'_7 : Exa Z T_6.heap a_1 "com/example/kttl/kttl/keyspace/Entry" := ((A_1.ext E_4).keep K_6)
  have F_1_slot'_8 : Fld Z T_6.heap a_1 "com/example/kttl/kttl/keyspace/Entry" "slot" "I" (.int (0 : Int32)) := ((F_1_slot.ext E_4).keep K_6 (ninS (Nat.ne_of_lt (Nat.lt_of_lt_of_le A_1.lt (Nat.le_of_eq g_4.symm))) nin0))
  have F_1_kind'_9 : Fld Z T_6.heap a_1 "com/example/kttl/kttl/keyspace/Entry" "kind" "Lcom/example/kttl/kttl/keyspace/Kind;" .null := ((F_1_kind.ext E_4).keep K_6 (ninS (Nat.ne_of_lt (Nat.lt_of_lt_of_le A_1.lt (Nat.le_of_eq g_4.symm))) nin0))
  have F_1_value'_10 : Fld Z T_6.heap a_1 "com/example/kttl/kttl/keyspace/Entry" "value" "Ljava/lang/Object;" .null := ((F_1_value.ext E_4).keep K_6 (ninS (Nat.ne_of_lt (Nat.lt_of_lt_of_le A_1.lt (Nat.le_of_eq g_4.symm))) nin0))
  have F_1_hasDeadline'_11 : Fld Z T_6.heap a_1 "com/example/kttl/kttl/keyspace/Entry" "hasDeadline" "Z" (.int (0 : Int32)) := ((F_1_hasDeadline.ext E_4).keep K_6 (ninS (Nat.ne_of_lt (Nat.lt_of_lt_of_le A_1.lt (Nat.le_of_eq g_4.symm))) nin0))
  have F_1_deadline'_12 : Fld Z T_6.heap a_1 "com/example/kttl/kttl/keyspace/Entry" "deadline" "J" (.long (0 : Int64)) := ((F_1_deadline.ext E_4).keep K_6 (ninS (Nat.ne_of_lt (Nat.lt_of_lt_of_le A_1.lt (Nat.le_of_eq g_4.symm))) nin0))
  have g0_a_1 : n0 ≤ a_1 := Nat.le_trans Z0 (Nat.le_of_eq g_1.symm)
  obtain ⟨_, T_13, L_13, Q_13, X_13, st_13⟩ := own_callI X_6 hx rfl hown (mvT hZ (own_w hw 38 rfl)) (mvT hZ (own_w hw 39 rfl)) (mvT hZ (own_w hw 40 rfl)) (by decide) (Q := (Qent Z a_1 d T_6.heap n0)) (backOf (W := 1) (rm_ent l Z a0 hw [] a_1 kd a_4 d T_6.heap n0 (Nat.le_trans Z0 (Nat.le_trans (Nat.le_trans E_1.1 E_4.1) K_6.1)) g0_a_1 A_1'_7 F_1_slot'_8 F_1_kind'_9 F_1_value'_10 F_1_hasDeadline'_11 F_1_deadline'_12) hZ (own_w hw 40 rfl) (own_w hw 20 rfl) (by decide) (by decide)) (a := a_1) (g := (mkF m 17 #[.val (.ref b), .val (.long d), .second] [(.long d), (.int (1 : Int32)), (.ref a_4), (.ref kd), (.ref a_1), (.ref a_1)])) rfl (by rw [hml]; rfl) (argsL := [(.ref kd), (.ref a_4), (.int (1 : Int32)), (.long d)]) (rest := [(.ref a_1)]) (lenOf pd_3 rfl) rfl (by show 2 * 0 + _ ≤ _; exact Nat.le_of_eq rfl) (hb hby d_rm_of_17) rfl rfl (by decide) (by decide)
  obtain ⟨rfl, Nq_13, K_13, Ex_13, Fs_13, Fh_13, Fd_13⟩ := Q_13
  refine own_G.via st_13 ?_
  have N_13 := Fr.app N_6 Nq_13
  show own_G _ _ _ _ (T_13.setTop (mkF m 20 #[.val (.ref b), .val (.long d), .second] [(.ref a_1)]))
  exact own_G.end_ X_13 hlk (v := (some (.ref a_1))) (fun h => by rw [hrt] at h; cases h) (fun fs hr => retOut X_13 hx hrt rfl (Or.inr (Or.inr (Or.inr (Or.inr ⟨rfl, rfl, rfl⟩)))) (hb hby d_rm_of_20) hr) rfl ⟨a_1, rfl, N_13, (((((Keep.refl h0 []).ext E_1).ext E_4).trans K_6 (allS (Or.inr (Nat.le_trans E_1.1 (Nat.le_of_eq g_4.symm))) all0)).trans K_13 (allS (Or.inr (Nat.le_of_eq g_1.symm)) all0)), (Nat.le_of_eq g_1.symm), Ex_13, Fs_13, Fh_13, Fd_13⟩ (by decide) (by decide)
def Qdq (Z : State) (q : Addr) (h0 : Heap) (n0 : Nat) (v : Option Value) (h : Heap) (L : List Loc) : Prop := ∃ (ea ka : Addr) (kE kK : ClassId), v = none ∧ Fr n0 L ∧ Keep h0 h [q] ∧ h0.size ≤ ea ∧ h0.size ≤ ka ∧ ea ≠ ka ∧ Exa Z h q "com/example/kttl/kttl/keyspace/DeadlineQueue" ∧ Fld Z h q "com/example/kttl/kttl/keyspace/DeadlineQueue" "entries" "[Lcom/example/kttl/kttl/keyspace/Entry;" (.ref ea) ∧ Fld Z h q "com/example/kttl/kttl/keyspace/DeadlineQueue" "keys" "[Lcom/example/kttl/kttl/keyspace/Key;" (.ref ka) ∧ Fld Z h q "com/example/kttl/kttl/keyspace/DeadlineQueue" "size" "I" (.int (0 : Int32)) ∧ Arv Z h ea kE (.object "com/example/kttl/kttl/keyspace/Entry") (16 : Int32) ([.null, .null, .null, .null, .null, .null, .null, .null, .null, .null, .null, .null, .null, .null, .null, .null] : List Value) .null ∧ Arv Z h ka kK (.object "com/example/kttl/kttl/keyspace/Key") (16 : Int32) ([.null, .null, .null, .null, .null, .null, .null, .null, .null, .null, .null, .null, .null, .null, .null, .null] : List Value) .null ∧ Ovr Z kE "com/example/kttl/kttl/keyspace/Entry" ∧ Ovr Z kK "com/example/kttl/kttl/keyspace/Key"
theorem d_rm_dq_0 : decode prog_15_method_1_code 0 = .ok (.aload_n 0, 1) := by decide +kernel
theorem d_rm_dq_1 : decode prog_15_method_1_code 1 = .ok (.invokespecial 1, 3) := by decide +kernel
theorem d_rm_dq_4 : decode prog_15_method_1_code 4 = .ok (.aload_n 0, 1) := by decide +kernel
theorem d_rm_dq_5 : decode prog_15_method_1_code 5 = .ok (.bipush 16, 2) := by decide +kernel
theorem d_rm_dq_7 : decode prog_15_method_1_code 7 = .ok (.anewarray 9, 3) := by decide +kernel
theorem d_rm_dq_10 : decode prog_15_method_1_code 10 = .ok (.putfield 11, 3) := by decide +kernel
theorem d_rm_dq_13 : decode prog_15_method_1_code 13 = .ok (.aload_n 0, 1) := by decide +kernel
theorem d_rm_dq_14 : decode prog_15_method_1_code 14 = .ok (.bipush 16, 2) := by decide +kernel
theorem d_rm_dq_16 : decode prog_15_method_1_code 16 = .ok (.anewarray 15, 3) := by decide +kernel
theorem d_rm_dq_19 : decode prog_15_method_1_code 19 = .ok (.putfield 17, 3) := by decide +kernel
theorem d_rm_dq_22 : decode prog_15_method_1_code 22 = .ok (.return_, 1) := by decide +kernel
set_option maxRecDepth 65536 in
set_option maxHeartbeats 40000000 in
theorem rm_dq (l : Launch) (Z : State) (a0 : Array Value) (hw : ∀ d ∈ tables_1, d.before a0 Z = true) (ws : List Jvm.Cond) (q : Addr) (h0 : Heap) (n0 : Nat) (Z0 : n0 ≤ h0.size) (g0 : n0 ≤ q) (E0 : Exa Z h0 q "com/example/kttl/kttl/keyspace/DeadlineQueue") (F1 : Fld Z h0 q "com/example/kttl/kttl/keyspace/DeadlineQueue" "entries" "[Lcom/example/kttl/kttl/keyspace/Entry;" .null) (F2 : Fld Z h0 q "com/example/kttl/kttl/keyspace/DeadlineQueue" "keys" "[Lcom/example/kttl/kttl/keyspace/Key;" .null) (F3 : Fld Z h0 q "com/example/kttl/kttl/keyspace/DeadlineQueue" "size" "I" (.int (0 : Int32))) :
    MetFree l (⟨"com/example/kttl/kttl/keyspace/DeadlineQueue", "<init>", "()V"⟩ : MethodName) (head1 (Jvm.Cond.code (⟨"com/example/kttl/kttl/keyspace/DeadlineQueue", "<init>", "()V"⟩ : MethodName) prog_15_method_1_code 1 none :: ws) ({ frames := 1, cells := 2, slots := 32, locals := 12 } : Room)) (fun a_ U => a_ = #[(.ref q)] ∧ Z.Warmed39 U.vm ∧ U.heap = h0) (fun _ _ _ _ _ => True) (fun _ U o U' => ∃ v L, o = .returned v ∧ Qdq Z q h0 n0 v U'.heap L ∧ FrameEnd U o U' L ({ frames := 1, cells := 2, slots := 32, locals := 12 } : Room).cells ({ frames := 1, cells := 2, slots := 32, locals := 12 } : Room).slots) := by
  refine MetFree.of_bodySF (plainFor_of_name pn_2) hisR ?_
  intro p e s m args below meth c s₁ Bd hml0 hP hK
  obtain ⟨rfl, hZ, hh⟩ := hP
  have hx := Bd.exec
  have hby := Bd.bytes
  have hrt := Bd.returns
  have hlk : meth.locks = false := Bd.notSynchronized
  have hml : c.maxLocals = 1 := hml0
  have hown : s.vm.findClass "com/example/kttl/kttl/keyspace/DeadlineQueue" = some m.cls := findClass_of_methodNamed Bd.named
  have hnm := (name_of_methodNamed Bd.named Bd.method).1
  have X0 : Stand p l e ({ frames := 1, cells := 2, slots := 32, locals := 12 } : Room) s m #[(.ref q)] below meth c s₁ [] 0 0 := Stand.of_body Bd
  have e0 : s₁.heap = h0 := by rw [← hh, Bd.state]; rfl
  have N0 := Fr.nil n0
  show own_G p.tables e below (fun o t => ∃ v L, o = .returned v ∧ Qdq Z q h0 n0 v t.heap L ∧ FrameEnd s o t L ({ frames := 1, cells := 2, slots := 32, locals := 12 } : Room).cells ({ frames := 1, cells := 2, slots := 32, locals := 12 } : Room).slots) (s₁.setTop (entryFrame m #[(.ref q)] 1))
  refine own_G.cast (show entryFrame m #[(.ref q)] 1 = mkF m 0 #[.val (.ref q)] [] from by first | (simp [entryFrame, mkF, argsToLocals, Value.category]; done) | rfl) ?_
  refine own_G.go (fun t_ k_ => XS.aloadN X0.here hx rfl (hb hby d_rm_dq_0) rfl rfl k_) ?_
  show own_G _ _ _ _ (s₁.setTop (mkF m 1 #[.val (.ref q)] [(.ref q)]))
  obtain ⟨T_1, X_1, e_1, st_1⟩ := initO X0 hx hZ hown (own_w hw 58 rfl) (own_w hw 8 rfl) (own_w hw 9 rfl) e0 (g := (mkF m 1 #[.val (.ref q)] [(.ref q)])) rfl (by rw [hml]; rfl) rfl (hb hby d_rm_dq_1) (by decide) (W := 0) (by show 2 * 0 + _ ≤ _; exact Nat.le_of_eq rfl) (by decide)
  refine own_G.go st_1 ?_
  show own_G _ _ _ _ (T_1.setTop (mkF m 4 #[.val (.ref q)] []))
  refine own_G.go (fun t_ k_ => XS.aloadN X_1.here hx rfl (hb hby d_rm_dq_4) rfl rfl k_) ?_
  show own_G _ _ _ _ (T_1.setTop (mkF m 5 #[.val (.ref q)] [(.ref q)]))
  refine own_G.go (fun t_ k_ => XS.bipush X_1.here hx rfl (hb hby d_rm_dq_5) k_) ?_
  show own_G _ _ _ _ (T_1.setTop (mkF m 7 #[.val (.ref q)] [(.int (16 : Int32)), (.ref q)]))
  obtain ⟨T_2, h_2, k_2, X_2, e_2, E_2, A_2, O_2, st_2⟩ := newR X_1 hx hZ hown (own_w hw 59 rfl) (own_w hw 60 rfl) e_1 (g := (mkF m 7 #[.val (.ref q)] [(.int (16 : Int32)), (.ref q)])) rfl (hb hby d_rm_dq_7) rfl (by decide : ¬ ((16 : Int32) < (0 : Int32))) (cap := 16) (by decide : ((16 : Int32)).toNatClampNeg ≤ 16) (by decide) (by decide) (by decide)
  obtain ⟨a_2, g_2⟩ : ∃ z, z = h0.size := ⟨_, rfl⟩
  rw [← g_2] at A_2 st_2
  refine own_G.go st_2 ?_
  have V_2 : Arv Z h_2 a_2 k_2 (.object "com/example/kttl/kttl/keyspace/Entry") (16 : Int32) ([.null, .null, .null, .null, .null, .null, .null, .null, .null, .null, .null, .null, .null, .null, .null, .null] : List Value) .null := (Arv.new A_2 (by decide : ¬ ((16 : Int32) < (0 : Int32)))).pad (pad_rep [] .null 16)
  show own_G _ _ _ _ (T_2.setTop (mkF m 10 #[.val (.ref q)] [(.ref a_2), (.ref q)]))
  have F1'_3 : Fld Z h_2 q "com/example/kttl/kttl/keyspace/DeadlineQueue" "entries" "[Lcom/example/kttl/kttl/keyspace/Entry;" .null := (F1.ext E_2)
  have E0'_4 : Exa Z h_2 q "com/example/kttl/kttl/keyspace/DeadlineQueue" := (E0.ext E_2)
  obtain ⟨T_5, h_5, X_5, e_5, W_5, st_5⟩ := putF X_2 hx hZ hown (host := "") (Or.inl (own_w hw 61 rfl)) Via.refl e_2 F1'_3 E0'_4 (Or.inl (own_w hw 62 rfl)) (own_w hw 53 rfl) (ty := (.array (.object "com/example/kttl/kttl/keyspace/Entry"))) (by decide) rfl rfl (g := (mkF m 10 #[.val (.ref q)] [(.ref a_2), (.ref q)])) rfl rfl (hb hby d_rm_dq_10)
  refine own_G.go st_5 ?_
  have F_5 : Fld Z h_5 q "com/example/kttl/kttl/keyspace/DeadlineQueue" "entries" "[Lcom/example/kttl/kttl/keyspace/Entry;" (.ref a_2) := F1'_3.same W_5
  have N_5 := Fr.snoc X_5 N0 g0
  show own_G _ _ _ _ (T_5.setTop (mkF m 13 #[.val (.ref q)] []))
  refine own_G.go (fun t_ k_ => XS.aloadN X_5.here hx rfl (hb hby d_rm_dq_13) rfl rfl k_) ?_
  show own_G _ _ _ _ (T_5.setTop (mkF m 14 #[.val (.ref q)] [(.ref q)]))
  refine own_G.go (fun t_ k_ => XS.bipush X_5.here hx rfl (hb hby d_rm_dq_14) k_) ?_
  show own_G _ _ _ _ (T_5.setTop (mkF m 16 #[.val (.ref q)] [(.int (16 : Int32)), (.ref q)]))
  obtain ⟨T_6, h_6, k_6, X_6, e_6, E_6, A_6, O_6, st_6⟩ := newR X_5 hx hZ hown (own_w hw 63 rfl) (own_w hw 64 rfl) e_5 (g := (mkF m 16 #[.val (.ref q)] [(.int (16 : Int32)), (.ref q)])) rfl (hb hby d_rm_dq_16) rfl (by decide : ¬ ((16 : Int32) < (0 : Int32))) (cap := 16) (by decide : ((16 : Int32)).toNatClampNeg ≤ 16) (by decide) (by decide) (by decide)
  obtain ⟨a_6, g_6⟩ : ∃ z, z = h_5.size := ⟨_, rfl⟩
  rw [← g_6] at A_6 st_6
  refine own_G.go st_6 ?_
  have V_6 : Arv Z h_6 a_6 k_6 (.object "com/example/kttl/kttl/keyspace/Key") (16 : Int32) ([.null, .null, .null, .null, .null, .null, .null, .null, .null, .null, .null, .null, .null, .null, .null, .null] : List Value) .null := (Arv.new A_6 (by decide : ¬ ((16 : Int32) < (0 : Int32)))).pad (pad_rep [] .null 16)
  show own_G _ _ _ _ (T_6.setTop (mkF m 19 #[.val (.ref q)] [(.ref a_6), (.ref q)]))
  have F2'_7 : Fld Z h_6 q "com/example/kttl/kttl/keyspace/DeadlineQueue" "keys" "[Lcom/example/kttl/kttl/keyspace/Key;" .null := (((F2.ext E_2).other W_5 (Or.inr (slot_ne (C := "com/example/kttl/kttl/keyspace/DeadlineQueue") (Or.inl (own_w hw 66 rfl)) (Or.inl (own_w hw 62 rfl)) (by decide) (by decide : parseFieldDescriptor "[Lcom/example/kttl/kttl/keyspace/Key;" = some (.array (.object "com/example/kttl/kttl/keyspace/Key"))) (by decide : parseFieldDescriptor "[Lcom/example/kttl/kttl/keyspace/Entry;" = some (.array (.object "com/example/kttl/kttl/keyspace/Entry")))))).ext E_6)
  have E0'_8 : Exa Z h_6 q "com/example/kttl/kttl/keyspace/DeadlineQueue" := ((E0'_4.wr W_5).ext E_6)
  obtain ⟨T_9, h_9, X_9, e_9, W_9, st_9⟩ := putF X_6 hx hZ hown (host := "") (Or.inl (own_w hw 65 rfl)) Via.refl e_6 F2'_7 E0'_8 (Or.inl (own_w hw 66 rfl)) (own_w hw 53 rfl) (ty := (.array (.object "com/example/kttl/kttl/keyspace/Key"))) (by decide) rfl rfl (g := (mkF m 19 #[.val (.ref q)] [(.ref a_6), (.ref q)])) rfl rfl (hb hby d_rm_dq_19)
  refine own_G.go st_9 ?_
  have F_9 : Fld Z h_9 q "com/example/kttl/kttl/keyspace/DeadlineQueue" "keys" "[Lcom/example/kttl/kttl/keyspace/Key;" (.ref a_6) := F2'_7.same W_9
  have N_9 := Fr.snoc X_9 N_5 g0
  show own_G _ _ _ _ (T_9.setTop (mkF m 22 #[.val (.ref q)] []))
  have E0'_10 : Exa Z h_9 q "com/example/kttl/kttl/keyspace/DeadlineQueue" := (E0'_8.wr W_9)
  have F_5'_11 : Fld Z h_9 q "com/example/kttl/kttl/keyspace/DeadlineQueue" "entries" "[Lcom/example/kttl/kttl/keyspace/Entry;" (.ref a_2) := ((F_5.ext E_6).other W_9 (Or.inr (slot_ne (C := "com/example/kttl/kttl/keyspace/DeadlineQueue") (Or.inl (own_w hw 62 rfl)) (Or.inl (own_w hw 66 rfl)) (by decide) (by decide : parseFieldDescriptor "[Lcom/example/kttl/kttl/keyspace/Entry;" = some (.array (.object "com/example/kttl/kttl/keyspace/Entry"))) (by decide : parseFieldDescriptor "[Lcom/example/kttl/kttl/keyspace/Key;" = some (.array (.object "com/example/kttl/kttl/keyspace/Key"))))))
  have F3'_12 : Fld Z h_9 q "com/example/kttl/kttl/keyspace/DeadlineQueue" "size" "I" (.int (0 : Int32)) := ((((F3.ext E_2).other W_5 (Or.inr (slot_ne (C := "com/example/kttl/kttl/keyspace/DeadlineQueue") (Or.inl (own_w hw 73 rfl)) (Or.inl (own_w hw 62 rfl)) (by decide) (by decide : parseFieldDescriptor "I" = some .int) (by decide : parseFieldDescriptor "[Lcom/example/kttl/kttl/keyspace/Entry;" = some (.array (.object "com/example/kttl/kttl/keyspace/Entry")))))).ext E_6).other W_9 (Or.inr (slot_ne (C := "com/example/kttl/kttl/keyspace/DeadlineQueue") (Or.inl (own_w hw 73 rfl)) (Or.inl (own_w hw 66 rfl)) (by decide) (by decide : parseFieldDescriptor "I" = some .int) (by decide : parseFieldDescriptor "[Lcom/example/kttl/kttl/keyspace/Key;" = some (.array (.object "com/example/kttl/kttl/keyspace/Key"))))))
  have V_2'_13 : Arv Z h_9 a_2 k_2 (.object "com/example/kttl/kttl/keyspace/Entry") (16 : Int32) ([.null, .null, .null, .null, .null, .null, .null, .null, .null, .null, .null, .null, .null, .null, .null, .null] : List Value) .null := (((V_2.other W_5 (Ne.symm (Nat.ne_of_lt (Nat.lt_of_lt_of_le E0.lt (Nat.le_of_eq g_2.symm))))).ext E_6).other W_9 (Ne.symm (Nat.ne_of_lt (Nat.lt_of_lt_of_le E0.lt (Nat.le_of_eq g_2.symm)))))
  have V_6'_14 : Arv Z h_9 a_6 k_6 (.object "com/example/kttl/kttl/keyspace/Key") (16 : Int32) ([.null, .null, .null, .null, .null, .null, .null, .null, .null, .null, .null, .null, .null, .null, .null, .null] : List Value) .null := (V_6.other W_9 (Ne.symm (Nat.ne_of_lt (Nat.lt_of_lt_of_le (Nat.lt_of_lt_of_le E0.lt (Nat.le_trans E_2.1 (Keep.of_wr W_5).1)) (Nat.le_of_eq g_6.symm)))))
  exact own_G.end_ X_9 hlk (v := none) (fun _ => rfl) (fun fs hr => X_9.returnOut hx hrt (hb hby d_rm_dq_22) hr) e_9 ⟨a_2, a_6, k_2, k_6, rfl, N_9, (((((Keep.refl h0 [q]).ext E_2).wr W_5 (Or.inl (List.mem_of_getElem? (i := 0) rfl))).ext E_6).wr W_9 (Or.inl (List.mem_of_getElem? (i := 0) rfl))), (Nat.le_of_eq g_2.symm), (Nat.le_trans (Nat.le_trans E_2.1 (Keep.of_wr W_5).1) (Nat.le_of_eq g_6.symm)), (Nat.ne_of_lt (Nat.lt_of_lt_of_le (Nat.lt_of_lt_of_le A_2.lt (Keep.of_wr W_5).1) (Nat.le_of_eq g_6.symm))), E0'_10, F_5'_11, F_9, F3'_12, V_2'_13, V_6'_14, O_2, O_6⟩ (by decide) (by decide)
theorem d_rm_clear_0 : decode prog_15_method_7_code 0 = .ok (.aload_n 0, 1) := by decide +kernel
theorem d_rm_clear_1 : decode prog_15_method_7_code 1 = .ok (.bipush 16, 2) := by decide +kernel
theorem d_rm_clear_3 : decode prog_15_method_7_code 3 = .ok (.anewarray 9, 3) := by decide +kernel
theorem d_rm_clear_6 : decode prog_15_method_7_code 6 = .ok (.putfield 11, 3) := by decide +kernel
theorem d_rm_clear_9 : decode prog_15_method_7_code 9 = .ok (.aload_n 0, 1) := by decide +kernel
theorem d_rm_clear_10 : decode prog_15_method_7_code 10 = .ok (.bipush 16, 2) := by decide +kernel
theorem d_rm_clear_12 : decode prog_15_method_7_code 12 = .ok (.anewarray 15, 3) := by decide +kernel
theorem d_rm_clear_15 : decode prog_15_method_7_code 15 = .ok (.putfield 17, 3) := by decide +kernel
theorem d_rm_clear_18 : decode prog_15_method_7_code 18 = .ok (.aload_n 0, 1) := by decide +kernel
theorem d_rm_clear_19 : decode prog_15_method_7_code 19 = .ok (.iconst 0, 1) := by decide +kernel
theorem d_rm_clear_20 : decode prog_15_method_7_code 20 = .ok (.putfield 36, 3) := by decide +kernel
theorem d_rm_clear_23 : decode prog_15_method_7_code 23 = .ok (.return_, 1) := by decide +kernel
set_option maxRecDepth 65536 in
set_option maxHeartbeats 40000000 in
theorem rm_clear (l : Launch) (Z : State) (a0 : Array Value) (hw : ∀ d ∈ tables_1, d.before a0 Z = true) (ws : List Jvm.Cond) (q : Addr) (v1 v2 v3 : Value) (h0 : Heap) (n0 : Nat) (Z0 : n0 ≤ h0.size) (g0 : n0 ≤ q) (E0 : Exa Z h0 q "com/example/kttl/kttl/keyspace/DeadlineQueue") (F1 : Fld Z h0 q "com/example/kttl/kttl/keyspace/DeadlineQueue" "entries" "[Lcom/example/kttl/kttl/keyspace/Entry;" v1) (F2 : Fld Z h0 q "com/example/kttl/kttl/keyspace/DeadlineQueue" "keys" "[Lcom/example/kttl/kttl/keyspace/Key;" v2) (F3 : Fld Z h0 q "com/example/kttl/kttl/keyspace/DeadlineQueue" "size" "I" v3) :
    MetFree l (⟨"com/example/kttl/kttl/keyspace/DeadlineQueue", "clear", "()V"⟩ : MethodName) (head1 (Jvm.Cond.code (⟨"com/example/kttl/kttl/keyspace/DeadlineQueue", "clear", "()V"⟩ : MethodName) prog_15_method_7_code 1 none :: ws) ({ frames := 0, cells := 2, slots := 32, locals := 0 } : Room)) (fun a_ U => a_ = #[(.ref q)] ∧ Z.Warmed39 U.vm ∧ U.heap = h0) (fun _ _ _ _ _ => True) (fun _ U o U' => ∃ v L, o = .returned v ∧ Qdq Z q h0 n0 v U'.heap L ∧ FrameEnd U o U' L ({ frames := 0, cells := 2, slots := 32, locals := 0 } : Room).cells ({ frames := 0, cells := 2, slots := 32, locals := 0 } : Room).slots) := by
  refine MetFree.of_bodySF (plainFor_of_name pn_2) hisR ?_
  intro p e s m args below meth c s₁ Bd hml0 hP hK
  obtain ⟨rfl, hZ, hh⟩ := hP
  have hx := Bd.exec
  have hby := Bd.bytes
  have hrt := Bd.returns
  have hlk : meth.locks = false := Bd.notSynchronized
  have hml : c.maxLocals = 1 := hml0
  have hown : s.vm.findClass "com/example/kttl/kttl/keyspace/DeadlineQueue" = some m.cls := findClass_of_methodNamed Bd.named
  have hnm := (name_of_methodNamed Bd.named Bd.method).1
  have X0 : Stand p l e ({ frames := 0, cells := 2, slots := 32, locals := 0 } : Room) s m #[(.ref q)] below meth c s₁ [] 0 0 := Stand.of_body Bd
  have e0 : s₁.heap = h0 := by rw [← hh, Bd.state]; rfl
  have N0 := Fr.nil n0
  show own_G p.tables e below (fun o t => ∃ v L, o = .returned v ∧ Qdq Z q h0 n0 v t.heap L ∧ FrameEnd s o t L ({ frames := 0, cells := 2, slots := 32, locals := 0 } : Room).cells ({ frames := 0, cells := 2, slots := 32, locals := 0 } : Room).slots) (s₁.setTop (entryFrame m #[(.ref q)] 1))
  refine own_G.cast (show entryFrame m #[(.ref q)] 1 = mkF m 0 #[.val (.ref q)] [] from by first | (simp [entryFrame, mkF, argsToLocals, Value.category]; done) | rfl) ?_
  refine own_G.go (fun t_ k_ => XS.aloadN X0.here hx rfl (hb hby d_rm_clear_0) rfl rfl k_) ?_
  show own_G _ _ _ _ (s₁.setTop (mkF m 1 #[.val (.ref q)] [(.ref q)]))
  refine own_G.go (fun t_ k_ => XS.bipush X0.here hx rfl (hb hby d_rm_clear_1) k_) ?_
  show own_G _ _ _ _ (s₁.setTop (mkF m 3 #[.val (.ref q)] [(.int (16 : Int32)), (.ref q)]))
  obtain ⟨T_1, h_1, k_1, X_1, e_1, E_1, A_1, O_1, st_1⟩ := newR X0 hx hZ hown (own_w hw 59 rfl) (own_w hw 60 rfl) e0 (g := (mkF m 3 #[.val (.ref q)] [(.int (16 : Int32)), (.ref q)])) rfl (hb hby d_rm_clear_3) rfl (by decide : ¬ ((16 : Int32) < (0 : Int32))) (cap := 16) (by decide : ((16 : Int32)).toNatClampNeg ≤ 16) (by decide) (by decide) (by decide)
  obtain ⟨a_1, g_1⟩ : ∃ z, z = h0.size := ⟨_, rfl⟩
  rw [← g_1] at A_1 st_1
  refine own_G.go st_1 ?_
  have V_1 : Arv Z h_1 a_1 k_1 (.object "com/example/kttl/kttl/keyspace/Entry") (16 : Int32) ([.null, .null, .null, .null, .null, .null, .null, .null, .null, .null, .null, .null, .null, .null, .null, .null] : List Value) .null := (Arv.new A_1 (by decide : ¬ ((16 : Int32) < (0 : Int32)))).pad (pad_rep [] .null 16)
  show own_G _ _ _ _ (T_1.setTop (mkF m 6 #[.val (.ref q)] [(.ref a_1), (.ref q)]))
  have F1'_2 : Fld Z h_1 q "com/example/kttl/kttl/keyspace/DeadlineQueue" "entries" "[Lcom/example/kttl/kttl/keyspace/Entry;" v1 := (F1.ext E_1)
  have E0'_3 : Exa Z h_1 q "com/example/kttl/kttl/keyspace/DeadlineQueue" := (E0.ext E_1)
  obtain ⟨T_4, h_4, X_4, e_4, W_4, st_4⟩ := putF X_1 hx hZ hown (host := "") (Or.inl (own_w hw 61 rfl)) Via.refl e_1 F1'_2 E0'_3 (Or.inl (own_w hw 62 rfl)) (own_w hw 53 rfl) (ty := (.array (.object "com/example/kttl/kttl/keyspace/Entry"))) (by decide) rfl rfl (g := (mkF m 6 #[.val (.ref q)] [(.ref a_1), (.ref q)])) rfl rfl (hb hby d_rm_clear_6)
  refine own_G.go st_4 ?_
  have F_4 : Fld Z h_4 q "com/example/kttl/kttl/keyspace/DeadlineQueue" "entries" "[Lcom/example/kttl/kttl/keyspace/Entry;" (.ref a_1) := F1'_2.same W_4
  have N_4 := Fr.snoc X_4 N0 g0
  show own_G _ _ _ _ (T_4.setTop (mkF m 9 #[.val (.ref q)] []))
  refine own_G.go (fun t_ k_ => XS.aloadN X_4.here hx rfl (hb hby d_rm_clear_9) rfl rfl k_) ?_
  show own_G _ _ _ _ (T_4.setTop (mkF m 10 #[.val (.ref q)] [(.ref q)]))
  refine own_G.go (fun t_ k_ => XS.bipush X_4.here hx rfl (hb hby d_rm_clear_10) k_) ?_
  show own_G _ _ _ _ (T_4.setTop (mkF m 12 #[.val (.ref q)] [(.int (16 : Int32)), (.ref q)]))
  obtain ⟨T_5, h_5, k_5, X_5, e_5, E_5, A_5, O_5, st_5⟩ := newR X_4 hx hZ hown (own_w hw 63 rfl) (own_w hw 64 rfl) e_4 (g := (mkF m 12 #[.val (.ref q)] [(.int (16 : Int32)), (.ref q)])) rfl (hb hby d_rm_clear_12) rfl (by decide : ¬ ((16 : Int32) < (0 : Int32))) (cap := 16) (by decide : ((16 : Int32)).toNatClampNeg ≤ 16) (by decide) (by decide) (by decide)
  obtain ⟨a_5, g_5⟩ : ∃ z, z = h_4.size := ⟨_, rfl⟩
  rw [← g_5] at A_5 st_5
  refine own_G.go st_5 ?_
  have V_5 : Arv Z h_5 a_5 k_5 (.object "com/example/kttl/kttl/keyspace/Key") (16 : Int32) ([.null, .null, .null, .null, .null, .null, .null, .null, .null, .null, .null, .null, .null, .null, .null, .null] : List Value) .null := (Arv.new A_5 (by decide : ¬ ((16 : Int32) < (0 : Int32)))).pad (pad_rep [] .null 16)
  show own_G _ _ _ _ (T_5.setTop (mkF m 15 #[.val (.ref q)] [(.ref a_5), (.ref q)]))
  have F2'_6 : Fld Z h_5 q "com/example/kttl/kttl/keyspace/DeadlineQueue" "keys" "[Lcom/example/kttl/kttl/keyspace/Key;" v2 := (((F2.ext E_1).other W_4 (Or.inr (slot_ne (C := "com/example/kttl/kttl/keyspace/DeadlineQueue") (Or.inl (own_w hw 66 rfl)) (Or.inl (own_w hw 62 rfl)) (by decide) (by decide : parseFieldDescriptor "[Lcom/example/kttl/kttl/keyspace/Key;" = some (.array (.object "com/example/kttl/kttl/keyspace/Key"))) (by decide : parseFieldDescriptor "[Lcom/example/kttl/kttl/keyspace/Entry;" = some (.array (.object "com/example/kttl/kttl/keyspace/Entry")))))).ext E_5)
  have E0'_7 : Exa Z h_5 q "com/example/kttl/kttl/keyspace/DeadlineQueue" := ((E0'_3.wr W_4).ext E_5)
  obtain ⟨T_8, h_8, X_8, e_8, W_8, st_8⟩ := putF X_5 hx hZ hown (host := "") (Or.inl (own_w hw 65 rfl)) Via.refl e_5 F2'_6 E0'_7 (Or.inl (own_w hw 66 rfl)) (own_w hw 53 rfl) (ty := (.array (.object "com/example/kttl/kttl/keyspace/Key"))) (by decide) rfl rfl (g := (mkF m 15 #[.val (.ref q)] [(.ref a_5), (.ref q)])) rfl rfl (hb hby d_rm_clear_15)
  refine own_G.go st_8 ?_
  have F_8 : Fld Z h_8 q "com/example/kttl/kttl/keyspace/DeadlineQueue" "keys" "[Lcom/example/kttl/kttl/keyspace/Key;" (.ref a_5) := F2'_6.same W_8
  have N_8 := Fr.snoc X_8 N_4 g0
  show own_G _ _ _ _ (T_8.setTop (mkF m 18 #[.val (.ref q)] []))
  refine own_G.go (fun t_ k_ => XS.aloadN X_8.here hx rfl (hb hby d_rm_clear_18) rfl rfl k_) ?_
  show own_G _ _ _ _ (T_8.setTop (mkF m 19 #[.val (.ref q)] [(.ref q)]))
  refine own_G.go (fun t_ k_ => XS.iconst X_8.here hx rfl (hb hby d_rm_clear_19) k_) ?_
  show own_G _ _ _ _ (T_8.setTop (mkF m 20 #[.val (.ref q)] [(.int (0 : Int32)), (.ref q)]))
  have F3'_9 : Fld Z h_8 q "com/example/kttl/kttl/keyspace/DeadlineQueue" "size" "I" v3 := ((((F3.ext E_1).other W_4 (Or.inr (slot_ne (C := "com/example/kttl/kttl/keyspace/DeadlineQueue") (Or.inl (own_w hw 73 rfl)) (Or.inl (own_w hw 62 rfl)) (by decide) (by decide : parseFieldDescriptor "I" = some .int) (by decide : parseFieldDescriptor "[Lcom/example/kttl/kttl/keyspace/Entry;" = some (.array (.object "com/example/kttl/kttl/keyspace/Entry")))))).ext E_5).other W_8 (Or.inr (slot_ne (C := "com/example/kttl/kttl/keyspace/DeadlineQueue") (Or.inl (own_w hw 73 rfl)) (Or.inl (own_w hw 66 rfl)) (by decide) (by decide : parseFieldDescriptor "I" = some .int) (by decide : parseFieldDescriptor "[Lcom/example/kttl/kttl/keyspace/Key;" = some (.array (.object "com/example/kttl/kttl/keyspace/Key"))))))
  have E0'_10 : Exa Z h_8 q "com/example/kttl/kttl/keyspace/DeadlineQueue" := (E0'_7.wr W_8)
  obtain ⟨T_11, h_11, X_11, e_11, W_11, st_11⟩ := putF X_8 hx hZ hown (host := "") (Or.inl (own_w hw 72 rfl)) Via.refl e_8 F3'_9 E0'_10 (Or.inl (own_w hw 73 rfl)) (own_w hw 53 rfl) (ty := .int) (by decide) rfl rfl (g := (mkF m 20 #[.val (.ref q)] [(.int (0 : Int32)), (.ref q)])) rfl rfl (hb hby d_rm_clear_20)
  refine own_G.go st_11 ?_
  have F_11 : Fld Z h_11 q "com/example/kttl/kttl/keyspace/DeadlineQueue" "size" "I" (.int (0 : Int32)) := F3'_9.same W_11
  have N_11 := Fr.snoc X_11 N_8 g0
  show own_G _ _ _ _ (T_11.setTop (mkF m 23 #[.val (.ref q)] []))
  have E0'_12 : Exa Z h_11 q "com/example/kttl/kttl/keyspace/DeadlineQueue" := (E0'_10.wr W_11)
  have F_4'_13 : Fld Z h_11 q "com/example/kttl/kttl/keyspace/DeadlineQueue" "entries" "[Lcom/example/kttl/kttl/keyspace/Entry;" (.ref a_1) := (((F_4.ext E_5).other W_8 (Or.inr (slot_ne (C := "com/example/kttl/kttl/keyspace/DeadlineQueue") (Or.inl (own_w hw 62 rfl)) (Or.inl (own_w hw 66 rfl)) (by decide) (by decide : parseFieldDescriptor "[Lcom/example/kttl/kttl/keyspace/Entry;" = some (.array (.object "com/example/kttl/kttl/keyspace/Entry"))) (by decide : parseFieldDescriptor "[Lcom/example/kttl/kttl/keyspace/Key;" = some (.array (.object "com/example/kttl/kttl/keyspace/Key")))))).other W_11 (Or.inr (slot_ne (C := "com/example/kttl/kttl/keyspace/DeadlineQueue") (Or.inl (own_w hw 62 rfl)) (Or.inl (own_w hw 73 rfl)) (by decide) (by decide : parseFieldDescriptor "[Lcom/example/kttl/kttl/keyspace/Entry;" = some (.array (.object "com/example/kttl/kttl/keyspace/Entry"))) (by decide : parseFieldDescriptor "I" = some .int))))
  have F_8'_14 : Fld Z h_11 q "com/example/kttl/kttl/keyspace/DeadlineQueue" "keys" "[Lcom/example/kttl/kttl/keyspace/Key;" (.ref a_5) := (F_8.other W_11 (Or.inr (slot_ne (C := "com/example/kttl/kttl/keyspace/DeadlineQueue") (Or.inl (own_w hw 66 rfl)) (Or.inl (own_w hw 73 rfl)) (by decide) (by decide : parseFieldDescriptor "[Lcom/example/kttl/kttl/keyspace/Key;" = some (.array (.object "com/example/kttl/kttl/keyspace/Key"))) (by decide : parseFieldDescriptor "I" = some .int))))
  have V_1'_15 : Arv Z h_11 a_1 k_1 (.object "com/example/kttl/kttl/keyspace/Entry") (16 : Int32) ([.null, .null, .null, .null, .null, .null, .null, .null, .null, .null, .null, .null, .null, .null, .null, .null] : List Value) .null := ((((V_1.other W_4 (Ne.symm (Nat.ne_of_lt (Nat.lt_of_lt_of_le E0.lt (Nat.le_of_eq g_1.symm))))).ext E_5).other W_8 (Ne.symm (Nat.ne_of_lt (Nat.lt_of_lt_of_le E0.lt (Nat.le_of_eq g_1.symm))))).other W_11 (Ne.symm (Nat.ne_of_lt (Nat.lt_of_lt_of_le E0.lt (Nat.le_of_eq g_1.symm)))))
  have V_5'_16 : Arv Z h_11 a_5 k_5 (.object "com/example/kttl/kttl/keyspace/Key") (16 : Int32) ([.null, .null, .null, .null, .null, .null, .null, .null, .null, .null, .null, .null, .null, .null, .null, .null] : List Value) .null := ((V_5.other W_8 (Ne.symm (Nat.ne_of_lt (Nat.lt_of_lt_of_le (Nat.lt_of_lt_of_le E0.lt (Nat.le_trans E_1.1 (Keep.of_wr W_4).1)) (Nat.le_of_eq g_5.symm))))).other W_11 (Ne.symm (Nat.ne_of_lt (Nat.lt_of_lt_of_le (Nat.lt_of_lt_of_le E0.lt (Nat.le_trans E_1.1 (Keep.of_wr W_4).1)) (Nat.le_of_eq g_5.symm)))))
  exact own_G.end_ X_11 hlk (v := none) (fun _ => rfl) (fun fs hr => X_11.returnOut hx hrt (hb hby d_rm_clear_23) hr) e_11 ⟨a_1, a_5, k_1, k_5, rfl, N_11, ((((((Keep.refl h0 [q]).ext E_1).wr W_4 (Or.inl (List.mem_of_getElem? (i := 0) rfl))).ext E_5).wr W_8 (Or.inl (List.mem_of_getElem? (i := 0) rfl))).wr W_11 (Or.inl (List.mem_of_getElem? (i := 0) rfl))), (Nat.le_of_eq g_1.symm), (Nat.le_trans (Nat.le_trans E_1.1 (Keep.of_wr W_4).1) (Nat.le_of_eq g_5.symm)), (Nat.ne_of_lt (Nat.lt_of_lt_of_le (Nat.lt_of_lt_of_le A_1.lt (Keep.of_wr W_4).1) (Nat.le_of_eq g_5.symm))), E0'_12, F_4'_13, F_8'_14, F_11, V_1'_15, V_5'_16, O_1, O_5⟩ (by decide) (by decide)
def Qpl (Z : State) (ea ka en : Addr) (kE kK : ClassId) (d : Int64) (j : Int32) (ve vk : List Value) (h0 : Heap) (n0 : Nat) (v : Option Value) (h : Heap) (L : List Loc) : Prop := v = none ∧ Fr n0 L ∧ Keep h0 h [ea, ka, en] ∧ Arv Z h ea kE (.object "com/example/kttl/kttl/keyspace/Entry") (16 : Int32) ve .null ∧ Arv Z h ka kK (.object "com/example/kttl/kttl/keyspace/Key") (16 : Int32) vk .null ∧ Exa Z h en "com/example/kttl/kttl/keyspace/Entry" ∧ Fld Z h en "com/example/kttl/kttl/keyspace/Entry" "slot" "I" (.int j) ∧ Fld Z h en "com/example/kttl/kttl/keyspace/Entry" "hasDeadline" "Z" (.int (1 : Int32)) ∧ Fld Z h en "com/example/kttl/kttl/keyspace/Entry" "deadline" "J" (.long d)
theorem d_rm_pl_0 : decode prog_15_method_10_code 0 = .ok (.aload_n 0, 1) := by decide +kernel
theorem d_rm_pl_1 : decode prog_15_method_10_code 1 = .ok (.getfield 11, 3) := by decide +kernel
theorem d_rm_pl_4 : decode prog_15_method_10_code 4 = .ok (.iload_n 1, 1) := by decide +kernel
theorem d_rm_pl_5 : decode prog_15_method_10_code 5 = .ok (.aload_n 3, 1) := by decide +kernel
theorem d_rm_pl_6 : decode prog_15_method_10_code 6 = .ok (.aastore, 1) := by decide +kernel
theorem d_rm_pl_7 : decode prog_15_method_10_code 7 = .ok (.aload_n 0, 1) := by decide +kernel
theorem d_rm_pl_8 : decode prog_15_method_10_code 8 = .ok (.getfield 17, 3) := by decide +kernel
theorem d_rm_pl_11 : decode prog_15_method_10_code 11 = .ok (.iload_n 1, 1) := by decide +kernel
theorem d_rm_pl_12 : decode prog_15_method_10_code 12 = .ok (.aload_n 2, 1) := by decide +kernel
theorem d_rm_pl_13 : decode prog_15_method_10_code 13 = .ok (.aastore, 1) := by decide +kernel
theorem d_rm_pl_14 : decode prog_15_method_10_code 14 = .ok (.aload_n 3, 1) := by decide +kernel
theorem d_rm_pl_15 : decode prog_15_method_10_code 15 = .ok (.iload_n 1, 1) := by decide +kernel
theorem d_rm_pl_16 : decode prog_15_method_10_code 16 = .ok (.putfield 25, 3) := by decide +kernel
theorem d_rm_pl_19 : decode prog_15_method_10_code 19 = .ok (.return_, 1) := by decide +kernel
set_option maxRecDepth 65536 in
set_option maxHeartbeats 40000000 in
theorem rm_pl (l : Launch) (Z : State) (a0 : Array Value) (hw : ∀ d ∈ tables_1, d.before a0 Z = true) (ws : List Jvm.Cond) (q ea ka en k : Addr) (kE kK : ClassId) (d : Int64) (sl : Value) (j : Int32) (i : Nat) (ve vk : List Value) (h0 : Heap) (n0 : Nat) (Z0 : n0 ≤ h0.size) (ga : n0 ≤ ea) (gb : n0 ≤ ka) (ge : n0 ≤ en) (n1 : q ≠ ea) (n2 : q ≠ ka) (n3 : q ≠ en) (n4 : ea ≠ ka) (n5 : en ≠ ea) (n6 : en ≠ ka) (Q_E : Exa Z h0 q "com/example/kttl/kttl/keyspace/DeadlineQueue") (Q_F : Fld Z h0 q "com/example/kttl/kttl/keyspace/DeadlineQueue" "entries" "[Lcom/example/kttl/kttl/keyspace/Entry;" (.ref ea)) (Q_K : Fld Z h0 q "com/example/kttl/kttl/keyspace/DeadlineQueue" "keys" "[Lcom/example/kttl/kttl/keyspace/Key;" (.ref ka)) (X_E : Exa Z h0 en "com/example/kttl/kttl/keyspace/Entry") (X_S : Fld Z h0 en "com/example/kttl/kttl/keyspace/Entry" "slot" "I" sl) (X_H : Fld Z h0 en "com/example/kttl/kttl/keyspace/Entry" "hasDeadline" "Z" (.int (1 : Int32))) (X_D : Fld Z h0 en "com/example/kttl/kttl/keyspace/Entry" "deadline" "J" (.long d)) (K_E : Exa Z h0 k "com/example/kttl/kttl/keyspace/Key") (VE : Arv Z h0 ea kE (.object "com/example/kttl/kttl/keyspace/Entry") (16 : Int32) ve .null) (VK : Arv Z h0 ka kK (.object "com/example/kttl/kttl/keyspace/Key") (16 : Int32) vk .null) (OE : Ovr Z kE "com/example/kttl/kttl/keyspace/Entry") (OKK : Ovr Z kK "com/example/kttl/kttl/keyspace/Key") (hji : j.toNatClampNeg = i) (hj : ¬ j < 0 ∧ j < (16 : Int32)) (hle : i < ve.length) (hlk2 : i < vk.length) :
    MetFree l (⟨"com/example/kttl/kttl/keyspace/DeadlineQueue", "place", "(ILcom/example/kttl/kttl/keyspace/Key;Lcom/example/kttl/kttl/keyspace/Entry;)V"⟩ : MethodName) (head1 (Jvm.Cond.code (⟨"com/example/kttl/kttl/keyspace/DeadlineQueue", "place", "(ILcom/example/kttl/kttl/keyspace/Key;Lcom/example/kttl/kttl/keyspace/Entry;)V"⟩ : MethodName) prog_15_method_10_code 4 none :: ws) ({ frames := 0, cells := 0, slots := 0, locals := 0 } : Room)) (fun a_ U => a_ = #[(.ref q), (.int j), (.ref k), (.ref en)] ∧ Z.Warmed39 U.vm ∧ U.heap = h0) (fun _ _ _ _ _ => True) (fun _ U o U' => ∃ v L, o = .returned v ∧ Qpl Z ea ka en kE kK d j (ve.set i (.ref en)) (vk.set i (.ref k)) h0 n0 v U'.heap L ∧ FrameEnd U o U' L ({ frames := 0, cells := 0, slots := 0, locals := 0 } : Room).cells ({ frames := 0, cells := 0, slots := 0, locals := 0 } : Room).slots) := by
  refine MetFree.of_bodySF (plainFor_of_name pn_2) hisR ?_
  intro p e s m args below meth c s₁ Bd hml0 hP hK
  obtain ⟨rfl, hZ, hh⟩ := hP
  have hx := Bd.exec
  have hby := Bd.bytes
  have hrt := Bd.returns
  have hlk : meth.locks = false := Bd.notSynchronized
  have hml : c.maxLocals = 4 := hml0
  have hown : s.vm.findClass "com/example/kttl/kttl/keyspace/DeadlineQueue" = some m.cls := findClass_of_methodNamed Bd.named
  have hnm := (name_of_methodNamed Bd.named Bd.method).1
  have X0 : Stand p l e ({ frames := 0, cells := 0, slots := 0, locals := 0 } : Room) s m #[(.ref q), (.int j), (.ref k), (.ref en)] below meth c s₁ [] 0 0 := Stand.of_body Bd
  have e0 : s₁.heap = h0 := by rw [← hh, Bd.state]; rfl
  have N0 := Fr.nil n0
  show own_G p.tables e below (fun o t => ∃ v L, o = .returned v ∧ Qpl Z ea ka en kE kK d j (ve.set i (.ref en)) (vk.set i (.ref k)) h0 n0 v t.heap L ∧ FrameEnd s o t L ({ frames := 0, cells := 0, slots := 0, locals := 0 } : Room).cells ({ frames := 0, cells := 0, slots := 0, locals := 0 } : Room).slots) (s₁.setTop (entryFrame m #[(.ref q), (.int j), (.ref k), (.ref en)] 4))
  refine own_G.cast (show entryFrame m #[(.ref q), (.int j), (.ref k), (.ref en)] 4 = mkF m 0 #[.val (.ref q), .val (.int j), .val (.ref k), .val (.ref en)] [] from by first | (simp [entryFrame, mkF, argsToLocals, Value.category]; done) | rfl) ?_
  refine own_G.go (fun t_ k_ => XS.aloadN X0.here hx rfl (hb hby d_rm_pl_0) rfl rfl k_) ?_
  show own_G _ _ _ _ (s₁.setTop (mkF m 1 #[.val (.ref q), .val (.int j), .val (.ref k), .val (.ref en)] [(.ref q)]))
  obtain ⟨T_1, X_1, e_1, st_1⟩ := getF X0 hx hZ hown (host := "") (Or.inl (own_w hw 61 rfl)) Via.refl e0 Q_F (g := (mkF m 1 #[.val (.ref q), .val (.int j), .val (.ref k), .val (.ref en)] [(.ref q)])) rfl rfl (hb hby d_rm_pl_1)
  refine own_G.go st_1 ?_
  show own_G _ _ _ _ (T_1.setTop (mkF m 4 #[.val (.ref q), .val (.int j), .val (.ref k), .val (.ref en)] [(.ref ea)]))
  refine own_G.go (fun t_ k_ => XS.iloadN X_1.here hx rfl (hb hby d_rm_pl_4) rfl k_) ?_
  show own_G _ _ _ _ (T_1.setTop (mkF m 5 #[.val (.ref q), .val (.int j), .val (.ref k), .val (.ref en)] [(.int j), (.ref ea)]))
  refine own_G.go (fun t_ k_ => XS.aloadN X_1.here hx rfl (hb hby d_rm_pl_5) rfl rfl k_) ?_
  show own_G _ _ _ _ (T_1.setTop (mkF m 6 #[.val (.ref q), .val (.int j), .val (.ref k), .val (.ref en)] [(.ref en), (.int j), (.ref ea)]))
  obtain ⟨T_2, h_2, X_2, e_2, W_2, V_2, st_2⟩ := own_stR X_1 hx hZ e_1 VE (j := j) i hle hji hj rfl rfl OE rfl (Ins.self X_E) (g := (mkF m 6 #[.val (.ref q), .val (.int j), .val (.ref k), .val (.ref en)] [(.ref en), (.int j), (.ref ea)])) rfl rfl (hb hby d_rm_pl_6)
  refine own_G.go st_2 ?_
  have V_2q : Arv Z h_2 ea kE (.object "com/example/kttl/kttl/keyspace/Entry") (16 : Int32) (ve.set i (.ref en)) .null := V_2
  have N_2 := Fr.snoc X_2 N0 ga
  show own_G _ _ _ _ (T_2.setTop (mkF m 7 #[.val (.ref q), .val (.int j), .val (.ref k), .val (.ref en)] []))
  refine own_G.go (fun t_ k_ => XS.aloadN X_2.here hx rfl (hb hby d_rm_pl_7) rfl rfl k_) ?_
  show own_G _ _ _ _ (T_2.setTop (mkF m 8 #[.val (.ref q), .val (.int j), .val (.ref k), .val (.ref en)] [(.ref q)]))
  have Q_K'_3 : Fld Z h_2 q "com/example/kttl/kttl/keyspace/DeadlineQueue" "keys" "[Lcom/example/kttl/kttl/keyspace/Key;" (.ref ka) := (Q_K.other W_2 (Or.inl n1))
  obtain ⟨T_4, X_4, e_4, st_4⟩ := getF X_2 hx hZ hown (host := "") (Or.inl (own_w hw 65 rfl)) Via.refl e_2 Q_K'_3 (g := (mkF m 8 #[.val (.ref q), .val (.int j), .val (.ref k), .val (.ref en)] [(.ref q)])) rfl rfl (hb hby d_rm_pl_8)
  refine own_G.go st_4 ?_
  show own_G _ _ _ _ (T_4.setTop (mkF m 11 #[.val (.ref q), .val (.int j), .val (.ref k), .val (.ref en)] [(.ref ka)]))
  refine own_G.go (fun t_ k_ => XS.iloadN X_4.here hx rfl (hb hby d_rm_pl_11) rfl k_) ?_
  show own_G _ _ _ _ (T_4.setTop (mkF m 12 #[.val (.ref q), .val (.int j), .val (.ref k), .val (.ref en)] [(.int j), (.ref ka)]))
  refine own_G.go (fun t_ k_ => XS.aloadN X_4.here hx rfl (hb hby d_rm_pl_12) rfl rfl k_) ?_
  show own_G _ _ _ _ (T_4.setTop (mkF m 13 #[.val (.ref q), .val (.int j), .val (.ref k), .val (.ref en)] [(.ref k), (.int j), (.ref ka)]))
  have VK'_5 : Arv Z h_2 ka kK (.object "com/example/kttl/kttl/keyspace/Key") (16 : Int32) vk .null := (VK.other W_2 (Ne.symm n4))
  have K_E'_6 : Exa Z h_2 k "com/example/kttl/kttl/keyspace/Key" := (K_E.wr W_2)
  obtain ⟨T_7, h_7, X_7, e_7, W_7, V_7, st_7⟩ := own_stR X_4 hx hZ e_4 VK'_5 (j := j) i hlk2 hji hj rfl rfl OKK rfl (Ins.self K_E'_6) (g := (mkF m 13 #[.val (.ref q), .val (.int j), .val (.ref k), .val (.ref en)] [(.ref k), (.int j), (.ref ka)])) rfl rfl (hb hby d_rm_pl_13)
  refine own_G.go st_7 ?_
  have V_7q : Arv Z h_7 ka kK (.object "com/example/kttl/kttl/keyspace/Key") (16 : Int32) (vk.set i (.ref k)) .null := V_7
  have N_7 := Fr.snoc X_7 N_2 gb
  show own_G _ _ _ _ (T_7.setTop (mkF m 14 #[.val (.ref q), .val (.int j), .val (.ref k), .val (.ref en)] []))
  refine own_G.go (fun t_ k_ => XS.aloadN X_7.here hx rfl (hb hby d_rm_pl_14) rfl rfl k_) ?_
  show own_G _ _ _ _ (T_7.setTop (mkF m 15 #[.val (.ref q), .val (.int j), .val (.ref k), .val (.ref en)] [(.ref en)]))
  refine own_G.go (fun t_ k_ => XS.iloadN X_7.here hx rfl (hb hby d_rm_pl_15) rfl k_) ?_
  show own_G _ _ _ _ (T_7.setTop (mkF m 16 #[.val (.ref q), .val (.int j), .val (.ref k), .val (.ref en)] [(.int j), (.ref en)]))
  have X_S'_8 : Fld Z h_7 en "com/example/kttl/kttl/keyspace/Entry" "slot" "I" sl := ((X_S.other W_2 (Or.inl n5)).other W_7 (Or.inl n6))
  have X_E'_9 : Exa Z h_7 en "com/example/kttl/kttl/keyspace/Entry" := ((X_E.wr W_2).wr W_7)
  obtain ⟨T_10, h_10, X_10, e_10, W_10, st_10⟩ := putF X_7 hx hZ hown (host := "") (Or.inl (own_w hw 89 rfl)) Via.refl e_7 X_S'_8 X_E'_9 (Or.inl (own_w hw 43 rfl)) (own_w hw 23 rfl) (ty := .int) (by decide) rfl rfl (g := (mkF m 16 #[.val (.ref q), .val (.int j), .val (.ref k), .val (.ref en)] [(.int j), (.ref en)])) rfl rfl (hb hby d_rm_pl_16)
  refine own_G.go st_10 ?_
  have F_10 : Fld Z h_10 en "com/example/kttl/kttl/keyspace/Entry" "slot" "I" (.int j) := X_S'_8.same W_10
  have N_10 := Fr.snoc X_10 N_7 ge
  show own_G _ _ _ _ (T_10.setTop (mkF m 19 #[.val (.ref q), .val (.int j), .val (.ref k), .val (.ref en)] []))
  have V_2q'_11 : Arv Z h_10 ea kE (.object "com/example/kttl/kttl/keyspace/Entry") (16 : Int32) (ve.set i (.ref en)) .null := ((V_2q.other W_7 n4).other W_10 (Ne.symm n5))
  have V_7q'_12 : Arv Z h_10 ka kK (.object "com/example/kttl/kttl/keyspace/Key") (16 : Int32) (vk.set i (.ref k)) .null := (V_7q.other W_10 (Ne.symm n6))
  have X_E'_13 : Exa Z h_10 en "com/example/kttl/kttl/keyspace/Entry" := (X_E'_9.wr W_10)
  have X_H'_14 : Fld Z h_10 en "com/example/kttl/kttl/keyspace/Entry" "hasDeadline" "Z" (.int (1 : Int32)) := (((X_H.other W_2 (Or.inl n5)).other W_7 (Or.inl n6)).other W_10 (Or.inr (slot_ne (C := "com/example/kttl/kttl/keyspace/Entry") (Or.inr (own_w hw 49 rfl)) (Or.inl (own_w hw 43 rfl)) (by decide) (by decide : parseFieldDescriptor "Z" = some .boolean) (by decide : parseFieldDescriptor "I" = some .int))))
  have X_D'_15 : Fld Z h_10 en "com/example/kttl/kttl/keyspace/Entry" "deadline" "J" (.long d) := (((X_D.other W_2 (Or.inl n5)).other W_7 (Or.inl n6)).other W_10 (Or.inr (slot_ne (C := "com/example/kttl/kttl/keyspace/Entry") (Or.inr (own_w hw 51 rfl)) (Or.inl (own_w hw 43 rfl)) (by decide) (by decide : parseFieldDescriptor "J" = some .long) (by decide : parseFieldDescriptor "I" = some .int))))
  exact own_G.end_ X_10 hlk (v := none) (fun _ => rfl) (fun fs hr => X_10.returnOut hx hrt (hb hby d_rm_pl_19) hr) e_10 ⟨rfl, N_10, ((((Keep.refl h0 [ea, ka, en]).wr W_2 (Or.inl (List.mem_of_getElem? (i := 0) rfl))).wr W_7 (Or.inl (List.mem_of_getElem? (i := 1) rfl))).wr W_10 (Or.inl (List.mem_of_getElem? (i := 2) rfl))), V_2q'_11, V_7q'_12, X_E'_13, F_10, X_H'_14, X_D'_15⟩ (by decide) (by decide)
theorem pd_4 : parseMethodDescriptor "(ILcom/example/kttl/kttl/keyspace/Key;Lcom/example/kttl/kttl/keyspace/Entry;)V" = some ⟨[.int, (.object "com/example/kttl/kttl/keyspace/Key"), (.object "com/example/kttl/kttl/keyspace/Entry")], none⟩ := by decide +kernel
theorem d_rm_s0_0 : decode prog_15_method_8_code 0 = .ok (.iload_n 1, 1) := by decide +kernel
theorem d_rm_s0_1 : decode prog_15_method_8_code 1 = .ok (.istore 4, 2) := by decide +kernel
theorem d_rm_s0_3 : decode prog_15_method_8_code 3 = .ok (.iload 4, 2) := by decide +kernel
theorem d_rm_s0_5 : decode prog_15_method_8_code 5 = .ok (.ifCond .le 59, 3) := by decide +kernel
theorem d_rm_s0_64 : decode prog_15_method_8_code 64 = .ok (.aload_n 0, 1) := by decide +kernel
theorem d_rm_s0_65 : decode prog_15_method_8_code 65 = .ok (.iload 4, 2) := by decide +kernel
theorem d_rm_s0_67 : decode prog_15_method_8_code 67 = .ok (.aload_n 2, 1) := by decide +kernel
theorem d_rm_s0_68 : decode prog_15_method_8_code 68 = .ok (.aload_n 3, 1) := by decide +kernel
theorem d_rm_s0_69 : decode prog_15_method_8_code 69 = .ok (.invokevirtual 56, 3) := by decide +kernel
theorem d_rm_s0_72 : decode prog_15_method_8_code 72 = .ok (.return_, 1) := by decide +kernel
set_option maxRecDepth 65536 in
set_option maxHeartbeats 40000000 in
theorem rm_s0 (l : Launch) (Z : State) (a0 : Array Value) (hw : ∀ d ∈ tables_1, d.before a0 Z = true) (ws : List Jvm.Cond) (q ea ka en k : Addr) (kE kK : ClassId) (d : Int64) (sl : Value) (h0 : Heap) (n0 : Nat) (Z0 : n0 ≤ h0.size) (ga : n0 ≤ ea) (gb : n0 ≤ ka) (ge : n0 ≤ en) (n1 : q ≠ ea) (n2 : q ≠ ka) (n3 : q ≠ en) (n4 : ea ≠ ka) (n5 : en ≠ ea) (n6 : en ≠ ka) (Q_E : Exa Z h0 q "com/example/kttl/kttl/keyspace/DeadlineQueue") (Q_F : Fld Z h0 q "com/example/kttl/kttl/keyspace/DeadlineQueue" "entries" "[Lcom/example/kttl/kttl/keyspace/Entry;" (.ref ea)) (Q_K : Fld Z h0 q "com/example/kttl/kttl/keyspace/DeadlineQueue" "keys" "[Lcom/example/kttl/kttl/keyspace/Key;" (.ref ka)) (X_E : Exa Z h0 en "com/example/kttl/kttl/keyspace/Entry") (X_S : Fld Z h0 en "com/example/kttl/kttl/keyspace/Entry" "slot" "I" sl) (X_H : Fld Z h0 en "com/example/kttl/kttl/keyspace/Entry" "hasDeadline" "Z" (.int (1 : Int32))) (X_D : Fld Z h0 en "com/example/kttl/kttl/keyspace/Entry" "deadline" "J" (.long d)) (K_E : Exa Z h0 k "com/example/kttl/kttl/keyspace/Key") (VE : Arv Z h0 ea kE (.object "com/example/kttl/kttl/keyspace/Entry") (16 : Int32) ([.null, .null, .null, .null, .null, .null, .null, .null, .null, .null, .null, .null, .null, .null, .null, .null] : List Value) .null) (VK : Arv Z h0 ka kK (.object "com/example/kttl/kttl/keyspace/Key") (16 : Int32) ([.null, .null, .null, .null, .null, .null, .null, .null, .null, .null, .null, .null, .null, .null, .null, .null] : List Value) .null) (OE : Ovr Z kE "com/example/kttl/kttl/keyspace/Entry") (OKK : Ovr Z kK "com/example/kttl/kttl/keyspace/Key") :
    MetFree l (⟨"com/example/kttl/kttl/keyspace/DeadlineQueue", "siftUp", "(ILcom/example/kttl/kttl/keyspace/Key;Lcom/example/kttl/kttl/keyspace/Entry;)V"⟩ : MethodName) (head1 (Jvm.Cond.code (⟨"com/example/kttl/kttl/keyspace/DeadlineQueue", "siftUp", "(ILcom/example/kttl/kttl/keyspace/Key;Lcom/example/kttl/kttl/keyspace/Entry;)V"⟩ : MethodName) prog_15_method_8_code 6 none :: ws) ({ frames := 1, cells := 0, slots := 0, locals := 15 } : Room)) (fun a_ U => a_ = #[(.ref q), (.int (0 : Int32)), (.ref k), (.ref en)] ∧ Z.Warmed39 U.vm ∧ U.heap = h0) (fun _ _ _ _ _ => True) (fun _ U o U' => ∃ v L, o = .returned v ∧ Qpl Z ea ka en kE kK d (0 : Int32) ([(.ref en), .null, .null, .null, .null, .null, .null, .null, .null, .null, .null, .null, .null, .null, .null, .null] : List Value) ([(.ref k), .null, .null, .null, .null, .null, .null, .null, .null, .null, .null, .null, .null, .null, .null, .null] : List Value) h0 n0 v U'.heap L ∧ FrameEnd U o U' L ({ frames := 1, cells := 0, slots := 0, locals := 15 } : Room).cells ({ frames := 1, cells := 0, slots := 0, locals := 15 } : Room).slots) := by
  refine MetFree.of_bodySF (plainFor_of_name pn_2) hisR ?_
  intro p e s m args below meth c s₁ Bd hml0 hP hK
  obtain ⟨rfl, hZ, hh⟩ := hP
  have hx := Bd.exec
  have hby := Bd.bytes
  have hrt := Bd.returns
  have hlk : meth.locks = false := Bd.notSynchronized
  have hml : c.maxLocals = 6 := hml0
  have hown : s.vm.findClass "com/example/kttl/kttl/keyspace/DeadlineQueue" = some m.cls := findClass_of_methodNamed Bd.named
  have hnm := (name_of_methodNamed Bd.named Bd.method).1
  have X0 : Stand p l e ({ frames := 1, cells := 0, slots := 0, locals := 15 } : Room) s m #[(.ref q), (.int (0 : Int32)), (.ref k), (.ref en)] below meth c s₁ [] 0 0 := Stand.of_body Bd
  have e0 : s₁.heap = h0 := by rw [← hh, Bd.state]; rfl
  have N0 := Fr.nil n0
  show own_G p.tables e below (fun o t => ∃ v L, o = .returned v ∧ Qpl Z ea ka en kE kK d (0 : Int32) ([(.ref en), .null, .null, .null, .null, .null, .null, .null, .null, .null, .null, .null, .null, .null, .null, .null] : List Value) ([(.ref k), .null, .null, .null, .null, .null, .null, .null, .null, .null, .null, .null, .null, .null, .null, .null] : List Value) h0 n0 v t.heap L ∧ FrameEnd s o t L ({ frames := 1, cells := 0, slots := 0, locals := 15 } : Room).cells ({ frames := 1, cells := 0, slots := 0, locals := 15 } : Room).slots) (s₁.setTop (entryFrame m #[(.ref q), (.int (0 : Int32)), (.ref k), (.ref en)] 6))
  refine own_G.cast (show entryFrame m #[(.ref q), (.int (0 : Int32)), (.ref k), (.ref en)] 6 = mkF m 0 #[.val (.ref q), .val (.int (0 : Int32)), .val (.ref k), .val (.ref en), .unset, .unset] [] from by first | (simp [entryFrame, mkF, argsToLocals, Value.category]; done) | rfl) ?_
  refine own_G.go (fun t_ k_ => XS.iloadN X0.here hx rfl (hb hby d_rm_s0_0) rfl k_) ?_
  show own_G _ _ _ _ (s₁.setTop (mkF m 1 #[.val (.ref q), .val (.int (0 : Int32)), .val (.ref k), .val (.ref en), .unset, .unset] [(.int (0 : Int32))]))
  refine own_G.go (fun t_ k_ => XS.istore X0.here hx rfl (hb hby d_rm_s0_1) rfl (l' := #[.val (.ref q), .val (.int (0 : Int32)), .val (.ref k), .val (.ref en), .val (.int (0 : Int32)), .unset]) rfl k_) ?_
  show own_G _ _ _ _ (s₁.setTop (mkF m 3 #[.val (.ref q), .val (.int (0 : Int32)), .val (.ref k), .val (.ref en), .val (.int (0 : Int32)), .unset] []))
  refine own_G.go (fun t_ k_ => XS.iload X0.here hx rfl (hb hby d_rm_s0_3) rfl k_) ?_
  show own_G _ _ _ _ (s₁.setTop (mkF m 5 #[.val (.ref q), .val (.int (0 : Int32)), .val (.ref k), .val (.ref en), .val (.int (0 : Int32)), .unset] [(.int (0 : Int32))]))
  refine own_G.go (fun t_ k_ => XS.ifYes X0.here hx rfl (pc0 := 5) (pc' := 64) rfl (hb hby d_rm_s0_5) rfl ((if0 _ _).trans (flt (by decide : ¬ ((0 : Int32) < (0 : Int32)))).2.2.2) (by decide) (by decide) k_) ?_
  show own_G _ _ _ _ (s₁.setTop (mkF m 64 #[.val (.ref q), .val (.int (0 : Int32)), .val (.ref k), .val (.ref en), .val (.int (0 : Int32)), .unset] []))
  refine own_G.go (fun t_ k_ => XS.aloadN X0.here hx rfl (hb hby d_rm_s0_64) rfl rfl k_) ?_
  show own_G _ _ _ _ (s₁.setTop (mkF m 65 #[.val (.ref q), .val (.int (0 : Int32)), .val (.ref k), .val (.ref en), .val (.int (0 : Int32)), .unset] [(.ref q)]))
  refine own_G.go (fun t_ k_ => XS.iload X0.here hx rfl (hb hby d_rm_s0_65) rfl k_) ?_
  show own_G _ _ _ _ (s₁.setTop (mkF m 67 #[.val (.ref q), .val (.int (0 : Int32)), .val (.ref k), .val (.ref en), .val (.int (0 : Int32)), .unset] [(.int (0 : Int32)), (.ref q)]))
  refine own_G.go (fun t_ k_ => XS.aloadN X0.here hx rfl (hb hby d_rm_s0_67) rfl rfl k_) ?_
  show own_G _ _ _ _ (s₁.setTop (mkF m 68 #[.val (.ref q), .val (.int (0 : Int32)), .val (.ref k), .val (.ref en), .val (.int (0 : Int32)), .unset] [(.ref k), (.int (0 : Int32)), (.ref q)]))
  refine own_G.go (fun t_ k_ => XS.aloadN X0.here hx rfl (hb hby d_rm_s0_68) rfl rfl k_) ?_
  show own_G _ _ _ _ (s₁.setTop (mkF m 69 #[.val (.ref q), .val (.int (0 : Int32)), .val (.ref k), .val (.ref en), .val (.int (0 : Int32)), .unset] [(.ref en), (.ref k), (.int (0 : Int32)), (.ref q)]))
  obtain ⟨_, T_1, L_1, Q_1, X_1, st_1⟩ := own_callP X0 hx hown (mvT hZ (own_w hw 94 rfl)) (mvT hZ (own_w hw 95 rfl)) (mvP hZ (own_w hw 96 rfl)) (mvT hZ (own_w hw 53 rfl)) (mvT hZ (own_w hw 97 rfl)) (by decide) (Q := (Qpl Z ea ka en kE kK d (0 : Int32) ([(.ref en), .null, .null, .null, .null, .null, .null, .null, .null, .null, .null, .null, .null, .null, .null, .null] : List Value) ([(.ref k), .null, .null, .null, .null, .null, .null, .null, .null, .null, .null, .null, .null, .null, .null, .null] : List Value) h0 n0)) (backOf (W := 0) (rm_pl l Z a0 hw [] q ea ka en k kE kK d sl (0 : Int32) 0 ([.null, .null, .null, .null, .null, .null, .null, .null, .null, .null, .null, .null, .null, .null, .null, .null] : List Value) ([.null, .null, .null, .null, .null, .null, .null, .null, .null, .null, .null, .null, .null, .null, .null, .null] : List Value) h0 n0 Z0 ga gb ge n1 n2 n3 n4 n5 n6 Q_E Q_F Q_K X_E X_S X_H X_D K_E VE VK OE OKK rfl (by decide) (Nat.le_of_ble_eq_true rfl) (Nat.le_of_ble_eq_true rfl)) hZ (own_w hw 97 rfl) (own_w hw 54 rfl) (by decide) (by decide)) Q_E (g := (mkF m 69 #[.val (.ref q), .val (.int (0 : Int32)), .val (.ref k), .val (.ref en), .val (.int (0 : Int32)), .unset] [(.ref en), (.ref k), (.int (0 : Int32)), (.ref q)])) rfl (by rw [hml]; rfl) (argsL := [(.int (0 : Int32)), (.ref k), (.ref en)]) (rest := []) (lenOf pd_4 rfl) rfl (by show 2 * 0 + _ ≤ _; exact Nat.le_of_eq rfl) (hb hby d_rm_s0_69) e0 rfl (by decide) (by decide)
  obtain ⟨rfl, Nq_1, K_1, VE_1, VK_1, Ex_1, Fs_1, Fh_1, Fd_1⟩ := Q_1
  refine own_G.via st_1 ?_
  have N_1 := Fr.app N0 Nq_1
  show own_G _ _ _ _ (T_1.setTop (mkF m 72 #[.val (.ref q), .val (.int (0 : Int32)), .val (.ref k), .val (.ref en), .val (.int (0 : Int32)), .unset] []))
  exact own_G.end_ X_1 hlk (v := none) (fun _ => rfl) (fun fs hr => X_1.returnOut hx hrt (hb hby d_rm_s0_72) hr) rfl ⟨rfl, N_1, ((Keep.refl h0 [ea, ka, en]).trans K_1 (allS (Or.inl (List.mem_of_getElem? (i := 0) rfl)) (allS (Or.inl (List.mem_of_getElem? (i := 1) rfl)) (allS (Or.inl (List.mem_of_getElem? (i := 2) rfl)) all0)))), VE_1, VK_1, Ex_1, Fs_1, Fh_1, Fd_1⟩ (by decide) (by decide)
theorem pd_5 : parseMethodDescriptor "()J" = some ⟨[], some .long⟩ := by decide +kernel
theorem d_rm_s1a_0 : decode prog_15_method_8_code 0 = .ok (.iload_n 1, 1) := by decide +kernel
theorem d_rm_s1a_1 : decode prog_15_method_8_code 1 = .ok (.istore 4, 2) := by decide +kernel
theorem d_rm_s1a_3 : decode prog_15_method_8_code 3 = .ok (.iload 4, 2) := by decide +kernel
theorem d_rm_s1a_5 : decode prog_15_method_8_code 5 = .ok (.ifCond .le 59, 3) := by decide +kernel
theorem d_rm_s1a_8 : decode prog_15_method_8_code 8 = .ok (.iload 4, 2) := by decide +kernel
theorem d_rm_s1a_10 : decode prog_15_method_8_code 10 = .ok (.iconst 1, 1) := by decide +kernel
theorem d_rm_s1a_11 : decode prog_15_method_8_code 11 = .ok (.isub, 1) := by decide +kernel
theorem d_rm_s1a_12 : decode prog_15_method_8_code 12 = .ok (.iconst 2, 1) := by decide +kernel
theorem d_rm_s1a_13 : decode prog_15_method_8_code 13 = .ok (.idiv, 1) := by decide +kernel
theorem d_rm_s1a_14 : decode prog_15_method_8_code 14 = .ok (.istore 5, 2) := by decide +kernel
theorem d_rm_s1a_16 : decode prog_15_method_8_code 16 = .ok (.aload_n 0, 1) := by decide +kernel
theorem d_rm_s1a_17 : decode prog_15_method_8_code 17 = .ok (.getfield 11, 3) := by decide +kernel
theorem d_rm_s1a_20 : decode prog_15_method_8_code 20 = .ok (.iload 5, 2) := by decide +kernel
theorem d_rm_s1a_22 : decode prog_15_method_8_code 22 = .ok (.aaload, 1) := by decide +kernel
theorem d_rm_s1a_23 : decode prog_15_method_8_code 23 = .ok (.invokevirtual 49, 3) := by decide +kernel
theorem d_rm_s1a_26 : decode prog_15_method_8_code 26 = .ok (.aload_n 3, 1) := by decide +kernel
theorem d_rm_s1a_27 : decode prog_15_method_8_code 27 = .ok (.invokevirtual 49, 3) := by decide +kernel
theorem d_rm_s1a_30 : decode prog_15_method_8_code 30 = .ok (.lcmp, 1) := by decide +kernel
theorem d_rm_s1a_31 : decode prog_15_method_8_code 31 = .ok (.ifCond .gt 6, 3) := by decide +kernel
theorem d_rm_s1a_34 : decode prog_15_method_8_code 34 = .ok (.goto 30, 3) := by decide +kernel
theorem d_rm_s1a_64 : decode prog_15_method_8_code 64 = .ok (.aload_n 0, 1) := by decide +kernel
theorem d_rm_s1a_65 : decode prog_15_method_8_code 65 = .ok (.iload 4, 2) := by decide +kernel
theorem d_rm_s1a_67 : decode prog_15_method_8_code 67 = .ok (.aload_n 2, 1) := by decide +kernel
theorem d_rm_s1a_68 : decode prog_15_method_8_code 68 = .ok (.aload_n 3, 1) := by decide +kernel
theorem d_rm_s1a_69 : decode prog_15_method_8_code 69 = .ok (.invokevirtual 56, 3) := by decide +kernel
theorem d_rm_s1a_72 : decode prog_15_method_8_code 72 = .ok (.return_, 1) := by decide +kernel
set_option maxRecDepth 65536 in
set_option maxHeartbeats 40000000 in
theorem rm_s1a (l : Launch) (Z : State) (a0 : Array Value) (hw : ∀ d ∈ tables_1, d.before a0 Z = true) (ws : List Jvm.Cond) (q ea ka en k : Addr) (kE kK : ClassId) (d : Int64) (sl : Value) (x0 k0 : Addr) (d0 : Int64) (sl0 : Value) (h0 : Heap) (n0 : Nat) (Z0 : n0 ≤ h0.size) (ga : n0 ≤ ea) (gb : n0 ≤ ka) (ge : n0 ≤ en) (n1 : q ≠ ea) (n2 : q ≠ ka) (n3 : q ≠ en) (n4 : ea ≠ ka) (n5 : en ≠ ea) (n6 : en ≠ ka) (Q_E : Exa Z h0 q "com/example/kttl/kttl/keyspace/DeadlineQueue") (Q_F : Fld Z h0 q "com/example/kttl/kttl/keyspace/DeadlineQueue" "entries" "[Lcom/example/kttl/kttl/keyspace/Entry;" (.ref ea)) (Q_K : Fld Z h0 q "com/example/kttl/kttl/keyspace/DeadlineQueue" "keys" "[Lcom/example/kttl/kttl/keyspace/Key;" (.ref ka)) (X_E : Exa Z h0 en "com/example/kttl/kttl/keyspace/Entry") (X_S : Fld Z h0 en "com/example/kttl/kttl/keyspace/Entry" "slot" "I" sl) (X_H : Fld Z h0 en "com/example/kttl/kttl/keyspace/Entry" "hasDeadline" "Z" (.int (1 : Int32))) (X_D : Fld Z h0 en "com/example/kttl/kttl/keyspace/Entry" "deadline" "J" (.long d)) (K_E : Exa Z h0 k "com/example/kttl/kttl/keyspace/Key") (VE : Arv Z h0 ea kE (.object "com/example/kttl/kttl/keyspace/Entry") (16 : Int32) ([(.ref x0), .null, .null, .null, .null, .null, .null, .null, .null, .null, .null, .null, .null, .null, .null, .null] : List Value) .null) (VK : Arv Z h0 ka kK (.object "com/example/kttl/kttl/keyspace/Key") (16 : Int32) ([(.ref k0), .null, .null, .null, .null, .null, .null, .null, .null, .null, .null, .null, .null, .null, .null, .null] : List Value) .null) (OE : Ovr Z kE "com/example/kttl/kttl/keyspace/Entry") (OKK : Ovr Z kK "com/example/kttl/kttl/keyspace/Key") (gx : n0 ≤ x0) (m1 : q ≠ x0) (m2 : x0 ≠ ea) (m3 : x0 ≠ ka) (m4 : en ≠ x0) (Y_E : Exa Z h0 x0 "com/example/kttl/kttl/keyspace/Entry") (Y_S : Fld Z h0 x0 "com/example/kttl/kttl/keyspace/Entry" "slot" "I" sl0) (Y_H : Fld Z h0 x0 "com/example/kttl/kttl/keyspace/Entry" "hasDeadline" "Z" (.int (1 : Int32))) (Y_D : Fld Z h0 x0 "com/example/kttl/kttl/keyspace/Entry" "deadline" "J" (.long d0)) (K0_E : Exa Z h0 k0 "com/example/kttl/kttl/keyspace/Key") (hdd : ¬ d < d0) :
    MetFree l (⟨"com/example/kttl/kttl/keyspace/DeadlineQueue", "siftUp", "(ILcom/example/kttl/kttl/keyspace/Key;Lcom/example/kttl/kttl/keyspace/Entry;)V"⟩ : MethodName) (head1 (Jvm.Cond.code (⟨"com/example/kttl/kttl/keyspace/DeadlineQueue", "siftUp", "(ILcom/example/kttl/kttl/keyspace/Key;Lcom/example/kttl/kttl/keyspace/Entry;)V"⟩ : MethodName) prog_15_method_8_code 6 none :: ws) ({ frames := 1, cells := 0, slots := 0, locals := 15 } : Room)) (fun a_ U => a_ = #[(.ref q), (.int (1 : Int32)), (.ref k), (.ref en)] ∧ Z.Warmed39 U.vm ∧ U.heap = h0) (fun _ _ _ _ _ => True) (fun _ U o U' => ∃ v L, o = .returned v ∧ Qpl Z ea ka en kE kK d (1 : Int32) ([(.ref x0), (.ref en), .null, .null, .null, .null, .null, .null, .null, .null, .null, .null, .null, .null, .null, .null] : List Value) ([(.ref k0), (.ref k), .null, .null, .null, .null, .null, .null, .null, .null, .null, .null, .null, .null, .null, .null] : List Value) h0 n0 v U'.heap L ∧ FrameEnd U o U' L ({ frames := 1, cells := 0, slots := 0, locals := 15 } : Room).cells ({ frames := 1, cells := 0, slots := 0, locals := 15 } : Room).slots) := by
  refine MetFree.of_bodySF (plainFor_of_name pn_2) hisR ?_
  intro p e s m args below meth c s₁ Bd hml0 hP hK
  obtain ⟨rfl, hZ, hh⟩ := hP
  have hx := Bd.exec
  have hby := Bd.bytes
  have hrt := Bd.returns
  have hlk : meth.locks = false := Bd.notSynchronized
  have hml : c.maxLocals = 6 := hml0
  have hown : s.vm.findClass "com/example/kttl/kttl/keyspace/DeadlineQueue" = some m.cls := findClass_of_methodNamed Bd.named
  have hnm := (name_of_methodNamed Bd.named Bd.method).1
  have X0 : Stand p l e ({ frames := 1, cells := 0, slots := 0, locals := 15 } : Room) s m #[(.ref q), (.int (1 : Int32)), (.ref k), (.ref en)] below meth c s₁ [] 0 0 := Stand.of_body Bd
  have e0 : s₁.heap = h0 := by rw [← hh, Bd.state]; rfl
  have N0 := Fr.nil n0
  show own_G p.tables e below (fun o t => ∃ v L, o = .returned v ∧ Qpl Z ea ka en kE kK d (1 : Int32) ([(.ref x0), (.ref en), .null, .null, .null, .null, .null, .null, .null, .null, .null, .null, .null, .null, .null, .null] : List Value) ([(.ref k0), (.ref k), .null, .null, .null, .null, .null, .null, .null, .null, .null, .null, .null, .null, .null, .null] : List Value) h0 n0 v t.heap L ∧ FrameEnd s o t L ({ frames := 1, cells := 0, slots := 0, locals := 15 } : Room).cells ({ frames := 1, cells := 0, slots := 0, locals := 15 } : Room).slots) (s₁.setTop (entryFrame m #[(.ref q), (.int (1 : Int32)), (.ref k), (.ref en)] 6))
  refine own_G.cast (show entryFrame m #[(.ref q), (.int (1 : Int32)), (.ref k), (.ref en)] 6 = mkF m 0 #[.val (.ref q), .val (.int (1 : Int32)), .val (.ref k), .val (.ref en), .unset, .unset] [] from by first | (simp [entryFrame, mkF, argsToLocals, Value.category]; done) | rfl) ?_
  refine own_G.go (fun t_ k_ => XS.iloadN X0.here hx rfl (hb hby d_rm_s1a_0) rfl k_) ?_
  show own_G _ _ _ _ (s₁.setTop (mkF m 1 #[.val (.ref q), .val (.int (1 : Int32)), .val (.ref k), .val (.ref en), .unset, .unset] [(.int (1 : Int32))]))
  refine own_G.go (fun t_ k_ => XS.istore X0.here hx rfl (hb hby d_rm_s1a_1) rfl (l' := #[.val (.ref q), .val (.int (1 : Int32)), .val (.ref k), .val (.ref en), .val (.int (1 : Int32)), .unset]) rfl k_) ?_
  show own_G _ _ _ _ (s₁.setTop (mkF m 3 #[.val (.ref q), .val (.int (1 : Int32)), .val (.ref k), .val (.ref en), .val (.int (1 : Int32)), .unset] []))
  refine own_G.go (fun t_ k_ => XS.iload X0.here hx rfl (hb hby d_rm_s1a_3) rfl k_) ?_
  show own_G _ _ _ _ (s₁.setTop (mkF m 5 #[.val (.ref q), .val (.int (1 : Int32)), .val (.ref k), .val (.ref en), .val (.int (1 : Int32)), .unset] [(.int (1 : Int32))]))
  refine own_G.go (fun t_ k_ => XS.ifNo X0.here hx rfl (hb hby d_rm_s1a_5) rfl ((if0 _ _).trans (tlt (by decide : (0 : Int32) < (1 : Int32))).2.2.2) k_) ?_
  show own_G _ _ _ _ (s₁.setTop (mkF m 8 #[.val (.ref q), .val (.int (1 : Int32)), .val (.ref k), .val (.ref en), .val (.int (1 : Int32)), .unset] []))
  refine own_G.go (fun t_ k_ => XS.iload X0.here hx rfl (hb hby d_rm_s1a_8) rfl k_) ?_
  show own_G _ _ _ _ (s₁.setTop (mkF m 10 #[.val (.ref q), .val (.int (1 : Int32)), .val (.ref k), .val (.ref en), .val (.int (1 : Int32)), .unset] [(.int (1 : Int32))]))
  refine own_G.go (fun t_ k_ => XS.iconst X0.here hx rfl (hb hby d_rm_s1a_10) k_) ?_
  show own_G _ _ _ _ (s₁.setTop (mkF m 11 #[.val (.ref q), .val (.int (1 : Int32)), .val (.ref k), .val (.ref en), .val (.int (1 : Int32)), .unset] [(.int (1 : Int32)), (.int (1 : Int32))]))
  refine own_G.go (fun t_ k_ => XS.isub X0.here hx rfl (hb hby d_rm_s1a_11) rfl k_) ?_
  show own_G _ _ _ _ (s₁.setTop (mkF m 12 #[.val (.ref q), .val (.int (1 : Int32)), .val (.ref k), .val (.ref en), .val (.int (1 : Int32)), .unset] [(.int (0 : Int32))]))
  refine own_G.go (fun t_ k_ => XS.iconst X0.here hx rfl (hb hby d_rm_s1a_12) k_) ?_
  show own_G _ _ _ _ (s₁.setTop (mkF m 13 #[.val (.ref q), .val (.int (1 : Int32)), .val (.ref k), .val (.ref en), .val (.int (1 : Int32)), .unset] [(.int (2 : Int32)), (.int (0 : Int32))]))
  refine own_G.go (fun t_ k_ => XS.idiv X0.here hx rfl (hb hby d_rm_s1a_13) rfl (by decide) k_) ?_
  show own_G _ _ _ _ (s₁.setTop (mkF m 14 #[.val (.ref q), .val (.int (1 : Int32)), .val (.ref k), .val (.ref en), .val (.int (1 : Int32)), .unset] [(.int (0 : Int32))]))
  refine own_G.go (fun t_ k_ => XS.istore X0.here hx rfl (hb hby d_rm_s1a_14) rfl (l' := #[.val (.ref q), .val (.int (1 : Int32)), .val (.ref k), .val (.ref en), .val (.int (1 : Int32)), .val (.int (0 : Int32))]) rfl k_) ?_
  show own_G _ _ _ _ (s₁.setTop (mkF m 16 #[.val (.ref q), .val (.int (1 : Int32)), .val (.ref k), .val (.ref en), .val (.int (1 : Int32)), .val (.int (0 : Int32))] []))
  refine own_G.go (fun t_ k_ => XS.aloadN X0.here hx rfl (hb hby d_rm_s1a_16) rfl rfl k_) ?_
  show own_G _ _ _ _ (s₁.setTop (mkF m 17 #[.val (.ref q), .val (.int (1 : Int32)), .val (.ref k), .val (.ref en), .val (.int (1 : Int32)), .val (.int (0 : Int32))] [(.ref q)]))
  obtain ⟨T_1, X_1, e_1, st_1⟩ := getF X0 hx hZ hown (host := "") (Or.inl (own_w hw 61 rfl)) Via.refl e0 Q_F (g := (mkF m 17 #[.val (.ref q), .val (.int (1 : Int32)), .val (.ref k), .val (.ref en), .val (.int (1 : Int32)), .val (.int (0 : Int32))] [(.ref q)])) rfl rfl (hb hby d_rm_s1a_17)
  refine own_G.go st_1 ?_
  show own_G _ _ _ _ (T_1.setTop (mkF m 20 #[.val (.ref q), .val (.int (1 : Int32)), .val (.ref k), .val (.ref en), .val (.int (1 : Int32)), .val (.int (0 : Int32))] [(.ref ea)]))
  refine own_G.go (fun t_ k_ => XS.iload X_1.here hx rfl (hb hby d_rm_s1a_20) rfl k_) ?_
  show own_G _ _ _ _ (T_1.setTop (mkF m 22 #[.val (.ref q), .val (.int (1 : Int32)), .val (.ref k), .val (.ref en), .val (.int (1 : Int32)), .val (.int (0 : Int32))] [(.int (0 : Int32)), (.ref ea)]))
  obtain ⟨cel_2, A_2, -, S_2, M_2, H_2, -⟩ := id VE
  have I_2 : ¬ ((0 : Int32) < 0 ∨ cel_2.slots.size ≤ ((0 : Int32)).toNatClampNeg) := inb_of S_2 ⟨(by decide), (by decide : (0 : Int32) < (16 : Int32))⟩
  refine own_G.go (X_1.aaload hx (j := (0 : Int32)) (v := (.ref x0)) (by rw [e_1]; exact A_2.1) (State.isArrayOf_alike hZ.alike A_2.2.1) rfl A_2.2.2 I_2 (H_2.at I_2 rfl) (g := (mkF m 22 #[.val (.ref q), .val (.int (1 : Int32)), .val (.ref k), .val (.ref en), .val (.int (1 : Int32)), .val (.int (0 : Int32))] [(.int (0 : Int32)), (.ref ea)])) rfl rfl (hb hby d_rm_s1a_22)) ?_
  show own_G _ _ _ _ (T_1.setTop (mkF m 23 #[.val (.ref q), .val (.int (1 : Int32)), .val (.ref k), .val (.ref en), .val (.int (1 : Int32)), .val (.int (0 : Int32))] [(.ref x0)]))
  obtain ⟨cq_3, kq_3, q_3a, q_3b, q_3c⟩ := isOf hZ e_1 Y_E
  obtain ⟨_, T_3, L_3, Q_3, X_3, st_3⟩ := own_callV X_1 hx (z := (⟨"com/example/kttl/kttl/keyspace/Entry", "deadline", "()J"⟩ : MethodName)) hown (mvT hZ (own_w hw 100 rfl)) (mvT hZ (own_w hw 101 rfl)) (notFace_of_selects (args := #[]) (mvT hZ (own_w hw 103 rfl))) (mvT hZ (own_w hw 103 rfl)) (mvT hZ (own_w hw 102 rfl)) (by decide) (Q := (Qp (.long d0) h0)) (backOf (W := 0) (rm_dl l Z a0 hw [] x0 d0 h0 n0 Z0 Y_H Y_D) hZ (own_w hw 104 rfl) (own_w hw 20 rfl) (by decide) (by decide)) q_3a q_3c (g := (mkF m 23 #[.val (.ref q), .val (.int (1 : Int32)), .val (.ref k), .val (.ref en), .val (.int (1 : Int32)), .val (.int (0 : Int32))] [(.ref x0)])) rfl (by rw [hml]; rfl) (argsL := []) (rest := []) (lenOf pd_5 rfl) rfl (by show 2 * 0 + _ ≤ _; exact Nat.le_of_eq rfl) (hb hby d_rm_s1a_23) e_1 rfl (by decide) (by decide)
  obtain ⟨rfl, rfl, eh_3⟩ := Q_3
  refine own_G.via st_3 ?_
  have N_3 := Fr.app N0 (Fr.nil n0)
  show own_G _ _ _ _ (T_3.setTop (mkF m 26 #[.val (.ref q), .val (.int (1 : Int32)), .val (.ref k), .val (.ref en), .val (.int (1 : Int32)), .val (.int (0 : Int32))] [(.long d0)]))
  refine own_G.go (fun t_ k_ => XS.aloadN X_3.here hx rfl (hb hby d_rm_s1a_26) rfl rfl k_) ?_
  show own_G _ _ _ _ (T_3.setTop (mkF m 27 #[.val (.ref q), .val (.int (1 : Int32)), .val (.ref k), .val (.ref en), .val (.int (1 : Int32)), .val (.int (0 : Int32))] [(.ref en), (.long d0)]))
  obtain ⟨cq_4, kq_4, q_4a, q_4b, q_4c⟩ := isOf hZ eh_3 X_E
  obtain ⟨_, T_4, L_4, Q_4, X_4, st_4⟩ := own_callV X_3 hx (z := (⟨"com/example/kttl/kttl/keyspace/Entry", "deadline", "()J"⟩ : MethodName)) hown (mvT hZ (own_w hw 100 rfl)) (mvT hZ (own_w hw 101 rfl)) (notFace_of_selects (args := #[]) (mvT hZ (own_w hw 103 rfl))) (mvT hZ (own_w hw 103 rfl)) (mvT hZ (own_w hw 102 rfl)) (by decide) (Q := (Qp (.long d) h0)) (backOf (W := 2) (rm_dl l Z a0 hw [] en d h0 n0 Z0 X_H X_D) hZ (own_w hw 104 rfl) (own_w hw 20 rfl) (by decide) (by decide)) q_4a q_4c (g := (mkF m 27 #[.val (.ref q), .val (.int (1 : Int32)), .val (.ref k), .val (.ref en), .val (.int (1 : Int32)), .val (.int (0 : Int32))] [(.ref en), (.long d0)])) rfl (by rw [hml]; rfl) (argsL := []) (rest := [(.long d0)]) (lenOf pd_5 rfl) rfl (by show 2 * 0 + _ ≤ _; exact Nat.le_of_eq rfl) (hb hby d_rm_s1a_27) eh_3 rfl (by decide) (by decide)
  obtain ⟨rfl, rfl, eh_4⟩ := Q_4
  refine own_G.via st_4 ?_
  have N_4 := Fr.app N_3 (Fr.nil n0)
  show own_G _ _ _ _ (T_4.setTop (mkF m 30 #[.val (.ref q), .val (.int (1 : Int32)), .val (.ref k), .val (.ref en), .val (.int (1 : Int32)), .val (.int (0 : Int32))] [(.long d), (.long d0)]))
  refine own_G.go (fun t_ k_ => XS.lcmp X_4.here hx rfl (hb hby d_rm_s1a_30) rfl k_) ?_
  show own_G _ _ _ _ (T_4.setTop (mkF m 31 #[.val (.ref q), .val (.int (1 : Int32)), .val (.ref k), .val (.ref en), .val (.int (1 : Int32)), .val (.int (0 : Int32))] [(.int (lcmpW d0 d))]))
  refine own_G.go (fun t_ k_ => XS.ifNo X_4.here hx rfl (hb hby d_rm_s1a_31) rfl ((if0 _ _).trans (flt (fun q => hdd ((lw_gt _ _).mp q) : ¬ (0 : Int32) < (lcmpW d0 d))).2.2.1) k_) ?_
  show own_G _ _ _ _ (T_4.setTop (mkF m 34 #[.val (.ref q), .val (.int (1 : Int32)), .val (.ref k), .val (.ref en), .val (.int (1 : Int32)), .val (.int (0 : Int32))] []))
  refine own_G.go (fun t_ k_ => XS.goto X_4.here hx rfl (pc0 := 34) (pc' := 64) rfl (hb hby d_rm_s1a_34) (by decide) (by decide) k_) ?_
  show own_G _ _ _ _ (T_4.setTop (mkF m 64 #[.val (.ref q), .val (.int (1 : Int32)), .val (.ref k), .val (.ref en), .val (.int (1 : Int32)), .val (.int (0 : Int32))] []))
  refine own_G.go (fun t_ k_ => XS.aloadN X_4.here hx rfl (hb hby d_rm_s1a_64) rfl rfl k_) ?_
  show own_G _ _ _ _ (T_4.setTop (mkF m 65 #[.val (.ref q), .val (.int (1 : Int32)), .val (.ref k), .val (.ref en), .val (.int (1 : Int32)), .val (.int (0 : Int32))] [(.ref q)]))
  refine own_G.go (fun t_ k_ => XS.iload X_4.here hx rfl (hb hby d_rm_s1a_65) rfl k_) ?_
  show own_G _ _ _ _ (T_4.setTop (mkF m 67 #[.val (.ref q), .val (.int (1 : Int32)), .val (.ref k), .val (.ref en), .val (.int (1 : Int32)), .val (.int (0 : Int32))] [(.int (1 : Int32)), (.ref q)]))
  refine own_G.go (fun t_ k_ => XS.aloadN X_4.here hx rfl (hb hby d_rm_s1a_67) rfl rfl k_) ?_
  show own_G _ _ _ _ (T_4.setTop (mkF m 68 #[.val (.ref q), .val (.int (1 : Int32)), .val (.ref k), .val (.ref en), .val (.int (1 : Int32)), .val (.int (0 : Int32))] [(.ref k), (.int (1 : Int32)), (.ref q)]))
  refine own_G.go (fun t_ k_ => XS.aloadN X_4.here hx rfl (hb hby d_rm_s1a_68) rfl rfl k_) ?_
  show own_G _ _ _ _ (T_4.setTop (mkF m 69 #[.val (.ref q), .val (.int (1 : Int32)), .val (.ref k), .val (.ref en), .val (.int (1 : Int32)), .val (.int (0 : Int32))] [(.ref en), (.ref k), (.int (1 : Int32)), (.ref q)]))
  obtain ⟨_, T_5, L_5, Q_5, X_5, st_5⟩ := own_callP X_4 hx hown (mvT hZ (own_w hw 94 rfl)) (mvT hZ (own_w hw 95 rfl)) (mvP hZ (own_w hw 96 rfl)) (mvT hZ (own_w hw 53 rfl)) (mvT hZ (own_w hw 97 rfl)) (by decide) (Q := (Qpl Z ea ka en kE kK d (1 : Int32) ([(.ref x0), (.ref en), .null, .null, .null, .null, .null, .null, .null, .null, .null, .null, .null, .null, .null, .null] : List Value) ([(.ref k0), (.ref k), .null, .null, .null, .null, .null, .null, .null, .null, .null, .null, .null, .null, .null, .null] : List Value) h0 n0)) (backOf (W := 0) (rm_pl l Z a0 hw [] q ea ka en k kE kK d sl (1 : Int32) 1 ([(.ref x0), .null, .null, .null, .null, .null, .null, .null, .null, .null, .null, .null, .null, .null, .null, .null] : List Value) ([(.ref k0), .null, .null, .null, .null, .null, .null, .null, .null, .null, .null, .null, .null, .null, .null, .null] : List Value) h0 n0 Z0 ga gb ge n1 n2 n3 n4 n5 n6 Q_E Q_F Q_K X_E X_S X_H X_D K_E VE VK OE OKK rfl (by decide) (Nat.le_of_ble_eq_true rfl) (Nat.le_of_ble_eq_true rfl)) hZ (own_w hw 97 rfl) (own_w hw 54 rfl) (by decide) (by decide)) Q_E (g := (mkF m 69 #[.val (.ref q), .val (.int (1 : Int32)), .val (.ref k), .val (.ref en), .val (.int (1 : Int32)), .val (.int (0 : Int32))] [(.ref en), (.ref k), (.int (1 : Int32)), (.ref q)])) rfl (by rw [hml]; rfl) (argsL := [(.int (1 : Int32)), (.ref k), (.ref en)]) (rest := []) (lenOf pd_4 rfl) rfl (by show 2 * 0 + _ ≤ _; exact Nat.le_of_eq rfl) (hb hby d_rm_s1a_69) eh_4 rfl (by decide) (by decide)
  obtain ⟨rfl, Nq_5, K_5, VE_5, VK_5, Ex_5, Fs_5, Fh_5, Fd_5⟩ := Q_5
  refine own_G.via st_5 ?_
  have N_5 := Fr.app N_4 Nq_5
  show own_G _ _ _ _ (T_5.setTop (mkF m 72 #[.val (.ref q), .val (.int (1 : Int32)), .val (.ref k), .val (.ref en), .val (.int (1 : Int32)), .val (.int (0 : Int32))] []))
  exact own_G.end_ X_5 hlk (v := none) (fun _ => rfl) (fun fs hr => X_5.returnOut hx hrt (hb hby d_rm_s1a_72) hr) rfl ⟨rfl, N_5, ((Keep.refl h0 [ea, ka, en]).trans K_5 (allS (Or.inl (List.mem_of_getElem? (i := 0) rfl)) (allS (Or.inl (List.mem_of_getElem? (i := 1) rfl)) (allS (Or.inl (List.mem_of_getElem? (i := 2) rfl)) all0)))), VE_5, VK_5, Ex_5, Fs_5, Fh_5, Fd_5⟩ (by decide) (by decide)
def Qsw (Z : State) (ea ka en x0 : Addr) (kE kK : ClassId) (d d0 : Int64) (ve vk : List Value) (h0 : Heap) (n0 : Nat) (v : Option Value) (h : Heap) (L : List Loc) : Prop := v = none ∧ Fr n0 L ∧ Keep h0 h [ea, ka, en, x0] ∧ Arv Z h ea kE (.object "com/example/kttl/kttl/keyspace/Entry") (16 : Int32) ve .null ∧ Arv Z h ka kK (.object "com/example/kttl/kttl/keyspace/Key") (16 : Int32) vk .null ∧ Exa Z h en "com/example/kttl/kttl/keyspace/Entry" ∧ Fld Z h en "com/example/kttl/kttl/keyspace/Entry" "slot" "I" (.int (0 : Int32)) ∧ Fld Z h en "com/example/kttl/kttl/keyspace/Entry" "hasDeadline" "Z" (.int (1 : Int32)) ∧ Fld Z h en "com/example/kttl/kttl/keyspace/Entry" "deadline" "J" (.long d) ∧ Exa Z h x0 "com/example/kttl/kttl/keyspace/Entry" ∧ Fld Z h x0 "com/example/kttl/kttl/keyspace/Entry" "slot" "I" (.int (1 : Int32)) ∧ Fld Z h x0 "com/example/kttl/kttl/keyspace/Entry" "hasDeadline" "Z" (.int (1 : Int32)) ∧ Fld Z h x0 "com/example/kttl/kttl/keyspace/Entry" "deadline" "J" (.long d0)
theorem d_rm_s1b_0 : decode prog_15_method_8_code 0 = .ok (.iload_n 1, 1) := by decide +kernel
theorem d_rm_s1b_1 : decode prog_15_method_8_code 1 = .ok (.istore 4, 2) := by decide +kernel
theorem d_rm_s1b_3 : decode prog_15_method_8_code 3 = .ok (.iload 4, 2) := by decide +kernel
theorem d_rm_s1b_5 : decode prog_15_method_8_code 5 = .ok (.ifCond .le 59, 3) := by decide +kernel
theorem d_rm_s1b_8 : decode prog_15_method_8_code 8 = .ok (.iload 4, 2) := by decide +kernel
theorem d_rm_s1b_10 : decode prog_15_method_8_code 10 = .ok (.iconst 1, 1) := by decide +kernel
theorem d_rm_s1b_11 : decode prog_15_method_8_code 11 = .ok (.isub, 1) := by decide +kernel
theorem d_rm_s1b_12 : decode prog_15_method_8_code 12 = .ok (.iconst 2, 1) := by decide +kernel
theorem d_rm_s1b_13 : decode prog_15_method_8_code 13 = .ok (.idiv, 1) := by decide +kernel
theorem d_rm_s1b_14 : decode prog_15_method_8_code 14 = .ok (.istore 5, 2) := by decide +kernel
theorem d_rm_s1b_16 : decode prog_15_method_8_code 16 = .ok (.aload_n 0, 1) := by decide +kernel
theorem d_rm_s1b_17 : decode prog_15_method_8_code 17 = .ok (.getfield 11, 3) := by decide +kernel
theorem d_rm_s1b_20 : decode prog_15_method_8_code 20 = .ok (.iload 5, 2) := by decide +kernel
theorem d_rm_s1b_22 : decode prog_15_method_8_code 22 = .ok (.aaload, 1) := by decide +kernel
theorem d_rm_s1b_23 : decode prog_15_method_8_code 23 = .ok (.invokevirtual 49, 3) := by decide +kernel
theorem d_rm_s1b_26 : decode prog_15_method_8_code 26 = .ok (.aload_n 3, 1) := by decide +kernel
theorem d_rm_s1b_27 : decode prog_15_method_8_code 27 = .ok (.invokevirtual 49, 3) := by decide +kernel
theorem d_rm_s1b_30 : decode prog_15_method_8_code 30 = .ok (.lcmp, 1) := by decide +kernel
theorem d_rm_s1b_31 : decode prog_15_method_8_code 31 = .ok (.ifCond .gt 6, 3) := by decide +kernel
theorem d_rm_s1b_37 : decode prog_15_method_8_code 37 = .ok (.aload_n 0, 1) := by decide +kernel
theorem d_rm_s1b_38 : decode prog_15_method_8_code 38 = .ok (.iload 4, 2) := by decide +kernel
theorem d_rm_s1b_40 : decode prog_15_method_8_code 40 = .ok (.aload_n 0, 1) := by decide +kernel
theorem d_rm_s1b_41 : decode prog_15_method_8_code 41 = .ok (.getfield 17, 3) := by decide +kernel
theorem d_rm_s1b_44 : decode prog_15_method_8_code 44 = .ok (.iload 5, 2) := by decide +kernel
theorem d_rm_s1b_46 : decode prog_15_method_8_code 46 = .ok (.aaload, 1) := by decide +kernel
theorem d_rm_s1b_47 : decode prog_15_method_8_code 47 = .ok (.aload_n 0, 1) := by decide +kernel
theorem d_rm_s1b_48 : decode prog_15_method_8_code 48 = .ok (.getfield 11, 3) := by decide +kernel
theorem d_rm_s1b_51 : decode prog_15_method_8_code 51 = .ok (.iload 5, 2) := by decide +kernel
theorem d_rm_s1b_53 : decode prog_15_method_8_code 53 = .ok (.aaload, 1) := by decide +kernel
theorem d_rm_s1b_54 : decode prog_15_method_8_code 54 = .ok (.invokevirtual 56, 3) := by decide +kernel
theorem d_rm_s1b_57 : decode prog_15_method_8_code 57 = .ok (.iload 5, 2) := by decide +kernel
theorem d_rm_s1b_59 : decode prog_15_method_8_code 59 = .ok (.istore 4, 2) := by decide +kernel
theorem d_rm_s1b_61 : decode prog_15_method_8_code 61 = .ok (.goto (-58), 3) := by decide +kernel
theorem d_rm_s1b_64 : decode prog_15_method_8_code 64 = .ok (.aload_n 0, 1) := by decide +kernel
theorem d_rm_s1b_65 : decode prog_15_method_8_code 65 = .ok (.iload 4, 2) := by decide +kernel
theorem d_rm_s1b_67 : decode prog_15_method_8_code 67 = .ok (.aload_n 2, 1) := by decide +kernel
theorem d_rm_s1b_68 : decode prog_15_method_8_code 68 = .ok (.aload_n 3, 1) := by decide +kernel
theorem d_rm_s1b_69 : decode prog_15_method_8_code 69 = .ok (.invokevirtual 56, 3) := by decide +kernel
theorem d_rm_s1b_72 : decode prog_15_method_8_code 72 = .ok (.return_, 1) := by decide +kernel
set_option maxRecDepth 65536 in
set_option maxHeartbeats 40000000 in
theorem rm_s1b (l : Launch) (Z : State) (a0 : Array Value) (hw : ∀ d ∈ tables_1, d.before a0 Z = true) (ws : List Jvm.Cond) (q ea ka en k : Addr) (kE kK : ClassId) (d : Int64) (sl : Value) (x0 k0 : Addr) (d0 : Int64) (sl0 : Value) (h0 : Heap) (n0 : Nat) (Z0 : n0 ≤ h0.size) (ga : n0 ≤ ea) (gb : n0 ≤ ka) (ge : n0 ≤ en) (n1 : q ≠ ea) (n2 : q ≠ ka) (n3 : q ≠ en) (n4 : ea ≠ ka) (n5 : en ≠ ea) (n6 : en ≠ ka) (Q_E : Exa Z h0 q "com/example/kttl/kttl/keyspace/DeadlineQueue") (Q_F : Fld Z h0 q "com/example/kttl/kttl/keyspace/DeadlineQueue" "entries" "[Lcom/example/kttl/kttl/keyspace/Entry;" (.ref ea)) (Q_K : Fld Z h0 q "com/example/kttl/kttl/keyspace/DeadlineQueue" "keys" "[Lcom/example/kttl/kttl/keyspace/Key;" (.ref ka)) (X_E : Exa Z h0 en "com/example/kttl/kttl/keyspace/Entry") (X_S : Fld Z h0 en "com/example/kttl/kttl/keyspace/Entry" "slot" "I" sl) (X_H : Fld Z h0 en "com/example/kttl/kttl/keyspace/Entry" "hasDeadline" "Z" (.int (1 : Int32))) (X_D : Fld Z h0 en "com/example/kttl/kttl/keyspace/Entry" "deadline" "J" (.long d)) (K_E : Exa Z h0 k "com/example/kttl/kttl/keyspace/Key") (VE : Arv Z h0 ea kE (.object "com/example/kttl/kttl/keyspace/Entry") (16 : Int32) ([(.ref x0), .null, .null, .null, .null, .null, .null, .null, .null, .null, .null, .null, .null, .null, .null, .null] : List Value) .null) (VK : Arv Z h0 ka kK (.object "com/example/kttl/kttl/keyspace/Key") (16 : Int32) ([(.ref k0), .null, .null, .null, .null, .null, .null, .null, .null, .null, .null, .null, .null, .null, .null, .null] : List Value) .null) (OE : Ovr Z kE "com/example/kttl/kttl/keyspace/Entry") (OKK : Ovr Z kK "com/example/kttl/kttl/keyspace/Key") (gx : n0 ≤ x0) (m1 : q ≠ x0) (m2 : x0 ≠ ea) (m3 : x0 ≠ ka) (m4 : en ≠ x0) (Y_E : Exa Z h0 x0 "com/example/kttl/kttl/keyspace/Entry") (Y_S : Fld Z h0 x0 "com/example/kttl/kttl/keyspace/Entry" "slot" "I" sl0) (Y_H : Fld Z h0 x0 "com/example/kttl/kttl/keyspace/Entry" "hasDeadline" "Z" (.int (1 : Int32))) (Y_D : Fld Z h0 x0 "com/example/kttl/kttl/keyspace/Entry" "deadline" "J" (.long d0)) (K0_E : Exa Z h0 k0 "com/example/kttl/kttl/keyspace/Key") (hdd : d < d0) :
    MetFree l (⟨"com/example/kttl/kttl/keyspace/DeadlineQueue", "siftUp", "(ILcom/example/kttl/kttl/keyspace/Key;Lcom/example/kttl/kttl/keyspace/Entry;)V"⟩ : MethodName) (head1 (Jvm.Cond.code (⟨"com/example/kttl/kttl/keyspace/DeadlineQueue", "siftUp", "(ILcom/example/kttl/kttl/keyspace/Key;Lcom/example/kttl/kttl/keyspace/Entry;)V"⟩ : MethodName) prog_15_method_8_code 6 none :: ws) ({ frames := 1, cells := 0, slots := 0, locals := 15 } : Room)) (fun a_ U => a_ = #[(.ref q), (.int (1 : Int32)), (.ref k), (.ref en)] ∧ Z.Warmed39 U.vm ∧ U.heap = h0) (fun _ _ _ _ _ => True) (fun _ U o U' => ∃ v L, o = .returned v ∧ Qsw Z ea ka en x0 kE kK d d0 ([(.ref en), (.ref x0), .null, .null, .null, .null, .null, .null, .null, .null, .null, .null, .null, .null, .null, .null] : List Value) ([(.ref k), (.ref k0), .null, .null, .null, .null, .null, .null, .null, .null, .null, .null, .null, .null, .null, .null] : List Value) h0 n0 v U'.heap L ∧ FrameEnd U o U' L ({ frames := 1, cells := 0, slots := 0, locals := 15 } : Room).cells ({ frames := 1, cells := 0, slots := 0, locals := 15 } : Room).slots) := by
  refine MetFree.of_bodySF (plainFor_of_name pn_2) hisR ?_
  intro p e s m args below meth c s₁ Bd hml0 hP hK
  obtain ⟨rfl, hZ, hh⟩ := hP
  have hx := Bd.exec
  have hby := Bd.bytes
  have hrt := Bd.returns
  have hlk : meth.locks = false := Bd.notSynchronized
  have hml : c.maxLocals = 6 := hml0
  have hown : s.vm.findClass "com/example/kttl/kttl/keyspace/DeadlineQueue" = some m.cls := findClass_of_methodNamed Bd.named
  have hnm := (name_of_methodNamed Bd.named Bd.method).1
  have X0 : Stand p l e ({ frames := 1, cells := 0, slots := 0, locals := 15 } : Room) s m #[(.ref q), (.int (1 : Int32)), (.ref k), (.ref en)] below meth c s₁ [] 0 0 := Stand.of_body Bd
  have e0 : s₁.heap = h0 := by rw [← hh, Bd.state]; rfl
  have N0 := Fr.nil n0
  show own_G p.tables e below (fun o t => ∃ v L, o = .returned v ∧ Qsw Z ea ka en x0 kE kK d d0 ([(.ref en), (.ref x0), .null, .null, .null, .null, .null, .null, .null, .null, .null, .null, .null, .null, .null, .null] : List Value) ([(.ref k), (.ref k0), .null, .null, .null, .null, .null, .null, .null, .null, .null, .null, .null, .null, .null, .null] : List Value) h0 n0 v t.heap L ∧ FrameEnd s o t L ({ frames := 1, cells := 0, slots := 0, locals := 15 } : Room).cells ({ frames := 1, cells := 0, slots := 0, locals := 15 } : Room).slots) (s₁.setTop (entryFrame m #[(.ref q), (.int (1 : Int32)), (.ref k), (.ref en)] 6))
  refine own_G.cast (show entryFrame m #[(.ref q), (.int (1 : Int32)), (.ref k), (.ref en)] 6 = mkF m 0 #[.val (.ref q), .val (.int (1 : Int32)), .val (.ref k), .val (.ref en), .unset, .unset] [] from by first | (simp [entryFrame, mkF, argsToLocals, Value.category]; done) | rfl) ?_
  refine own_G.go (fun t_ k_ => XS.iloadN X0.here hx rfl (hb hby d_rm_s1b_0) rfl k_) ?_
  show own_G _ _ _ _ (s₁.setTop (mkF m 1 #[.val (.ref q), .val (.int (1 : Int32)), .val (.ref k), .val (.ref en), .unset, .unset] [(.int (1 : Int32))]))
  refine own_G.go (fun t_ k_ => XS.istore X0.here hx rfl (hb hby d_rm_s1b_1) rfl (l' := #[.val (.ref q), .val (.int (1 : Int32)), .val (.ref k), .val (.ref en), .val (.int (1 : Int32)), .unset]) rfl k_) ?_
  show own_G _ _ _ _ (s₁.setTop (mkF m 3 #[.val (.ref q), .val (.int (1 : Int32)), .val (.ref k), .val (.ref en), .val (.int (1 : Int32)), .unset] []))
  refine own_G.go (fun t_ k_ => XS.iload X0.here hx rfl (hb hby d_rm_s1b_3) rfl k_) ?_
  show own_G _ _ _ _ (s₁.setTop (mkF m 5 #[.val (.ref q), .val (.int (1 : Int32)), .val (.ref k), .val (.ref en), .val (.int (1 : Int32)), .unset] [(.int (1 : Int32))]))
  refine own_G.go (fun t_ k_ => XS.ifNo X0.here hx rfl (hb hby d_rm_s1b_5) rfl ((if0 _ _).trans (tlt (by decide : (0 : Int32) < (1 : Int32))).2.2.2) k_) ?_
  show own_G _ _ _ _ (s₁.setTop (mkF m 8 #[.val (.ref q), .val (.int (1 : Int32)), .val (.ref k), .val (.ref en), .val (.int (1 : Int32)), .unset] []))
  refine own_G.go (fun t_ k_ => XS.iload X0.here hx rfl (hb hby d_rm_s1b_8) rfl k_) ?_
  show own_G _ _ _ _ (s₁.setTop (mkF m 10 #[.val (.ref q), .val (.int (1 : Int32)), .val (.ref k), .val (.ref en), .val (.int (1 : Int32)), .unset] [(.int (1 : Int32))]))
  refine own_G.go (fun t_ k_ => XS.iconst X0.here hx rfl (hb hby d_rm_s1b_10) k_) ?_
  show own_G _ _ _ _ (s₁.setTop (mkF m 11 #[.val (.ref q), .val (.int (1 : Int32)), .val (.ref k), .val (.ref en), .val (.int (1 : Int32)), .unset] [(.int (1 : Int32)), (.int (1 : Int32))]))
  refine own_G.go (fun t_ k_ => XS.isub X0.here hx rfl (hb hby d_rm_s1b_11) rfl k_) ?_
  show own_G _ _ _ _ (s₁.setTop (mkF m 12 #[.val (.ref q), .val (.int (1 : Int32)), .val (.ref k), .val (.ref en), .val (.int (1 : Int32)), .unset] [(.int (0 : Int32))]))
  refine own_G.go (fun t_ k_ => XS.iconst X0.here hx rfl (hb hby d_rm_s1b_12) k_) ?_
  show own_G _ _ _ _ (s₁.setTop (mkF m 13 #[.val (.ref q), .val (.int (1 : Int32)), .val (.ref k), .val (.ref en), .val (.int (1 : Int32)), .unset] [(.int (2 : Int32)), (.int (0 : Int32))]))
  refine own_G.go (fun t_ k_ => XS.idiv X0.here hx rfl (hb hby d_rm_s1b_13) rfl (by decide) k_) ?_
  show own_G _ _ _ _ (s₁.setTop (mkF m 14 #[.val (.ref q), .val (.int (1 : Int32)), .val (.ref k), .val (.ref en), .val (.int (1 : Int32)), .unset] [(.int (0 : Int32))]))
  refine own_G.go (fun t_ k_ => XS.istore X0.here hx rfl (hb hby d_rm_s1b_14) rfl (l' := #[.val (.ref q), .val (.int (1 : Int32)), .val (.ref k), .val (.ref en), .val (.int (1 : Int32)), .val (.int (0 : Int32))]) rfl k_) ?_
  show own_G _ _ _ _ (s₁.setTop (mkF m 16 #[.val (.ref q), .val (.int (1 : Int32)), .val (.ref k), .val (.ref en), .val (.int (1 : Int32)), .val (.int (0 : Int32))] []))
  refine own_G.go (fun t_ k_ => XS.aloadN X0.here hx rfl (hb hby d_rm_s1b_16) rfl rfl k_) ?_
  show own_G _ _ _ _ (s₁.setTop (mkF m 17 #[.val (.ref q), .val (.int (1 : Int32)), .val (.ref k), .val (.ref en), .val (.int (1 : Int32)), .val (.int (0 : Int32))] [(.ref q)]))
  obtain ⟨T_1, X_1, e_1, st_1⟩ := getF X0 hx hZ hown (host := "") (Or.inl (own_w hw 61 rfl)) Via.refl e0 Q_F (g := (mkF m 17 #[.val (.ref q), .val (.int (1 : Int32)), .val (.ref k), .val (.ref en), .val (.int (1 : Int32)), .val (.int (0 : Int32))] [(.ref q)])) rfl rfl (hb hby d_rm_s1b_17)
  refine own_G.go st_1 ?_
  show own_G _ _ _ _ (T_1.setTop (mkF m 20 #[.val (.ref q), .val (.int (1 : Int32)), .val (.ref k), .val (.ref en), .val (.int (1 : Int32)), .val (.int (0 : Int32))] [(.ref ea)]))
  refine own_G.go (fun t_ k_ => XS.iload X_1.here hx rfl (hb hby d_rm_s1b_20) rfl k_) ?_
  show own_G _ _ _ _ (T_1.setTop (mkF m 22 #[.val (.ref q), .val (.int (1 : Int32)), .val (.ref k), .val (.ref en), .val (.int (1 : Int32)), .val (.int (0 : Int32))] [(.int (0 : Int32)), (.ref ea)]))
  obtain ⟨cel_2, A_2, -, S_2, M_2, H_2, -⟩ := id VE
  have I_2 : ¬ ((0 : Int32) < 0 ∨ cel_2.slots.size ≤ ((0 : Int32)).toNatClampNeg) := inb_of S_2 ⟨(by decide), (by decide : (0 : Int32) < (16 : Int32))⟩
  refine own_G.go (X_1.aaload hx (j := (0 : Int32)) (v := (.ref x0)) (by rw [e_1]; exact A_2.1) (State.isArrayOf_alike hZ.alike A_2.2.1) rfl A_2.2.2 I_2 (H_2.at I_2 rfl) (g := (mkF m 22 #[.val (.ref q), .val (.int (1 : Int32)), .val (.ref k), .val (.ref en), .val (.int (1 : Int32)), .val (.int (0 : Int32))] [(.int (0 : Int32)), (.ref ea)])) rfl rfl (hb hby d_rm_s1b_22)) ?_
  show own_G _ _ _ _ (T_1.setTop (mkF m 23 #[.val (.ref q), .val (.int (1 : Int32)), .val (.ref k), .val (.ref en), .val (.int (1 : Int32)), .val (.int (0 : Int32))] [(.ref x0)]))
  obtain ⟨cq_3, kq_3, q_3a, q_3b, q_3c⟩ := isOf hZ e_1 Y_E
  obtain ⟨_, T_3, L_3, Q_3, X_3, st_3⟩ := own_callV X_1 hx (z := (⟨"com/example/kttl/kttl/keyspace/Entry", "deadline", "()J"⟩ : MethodName)) hown (mvT hZ (own_w hw 100 rfl)) (mvT hZ (own_w hw 101 rfl)) (notFace_of_selects (args := #[]) (mvT hZ (own_w hw 103 rfl))) (mvT hZ (own_w hw 103 rfl)) (mvT hZ (own_w hw 102 rfl)) (by decide) (Q := (Qp (.long d0) h0)) (backOf (W := 0) (rm_dl l Z a0 hw [] x0 d0 h0 n0 Z0 Y_H Y_D) hZ (own_w hw 104 rfl) (own_w hw 20 rfl) (by decide) (by decide)) q_3a q_3c (g := (mkF m 23 #[.val (.ref q), .val (.int (1 : Int32)), .val (.ref k), .val (.ref en), .val (.int (1 : Int32)), .val (.int (0 : Int32))] [(.ref x0)])) rfl (by rw [hml]; rfl) (argsL := []) (rest := []) (lenOf pd_5 rfl) rfl (by show 2 * 0 + _ ≤ _; exact Nat.le_of_eq rfl) (hb hby d_rm_s1b_23) e_1 rfl (by decide) (by decide)
  obtain ⟨rfl, rfl, eh_3⟩ := Q_3
  refine own_G.via st_3 ?_
  have N_3 := Fr.app N0 (Fr.nil n0)
  show own_G _ _ _ _ (T_3.setTop (mkF m 26 #[.val (.ref q), .val (.int (1 : Int32)), .val (.ref k), .val (.ref en), .val (.int (1 : Int32)), .val (.int (0 : Int32))] [(.long d0)]))
  refine own_G.go (fun t_ k_ => XS.aloadN X_3.here hx rfl (hb hby d_rm_s1b_26) rfl rfl k_) ?_
  show own_G _ _ _ _ (T_3.setTop (mkF m 27 #[.val (.ref q), .val (.int (1 : Int32)), .val (.ref k), .val (.ref en), .val (.int (1 : Int32)), .val (.int (0 : Int32))] [(.ref en), (.long d0)]))
  obtain ⟨cq_4, kq_4, q_4a, q_4b, q_4c⟩ := isOf hZ eh_3 X_E
  obtain ⟨_, T_4, L_4, Q_4, X_4, st_4⟩ := own_callV X_3 hx (z := (⟨"com/example/kttl/kttl/keyspace/Entry", "deadline", "()J"⟩ : MethodName)) hown (mvT hZ (own_w hw 100 rfl)) (mvT hZ (own_w hw 101 rfl)) (notFace_of_selects (args := #[]) (mvT hZ (own_w hw 103 rfl))) (mvT hZ (own_w hw 103 rfl)) (mvT hZ (own_w hw 102 rfl)) (by decide) (Q := (Qp (.long d) h0)) (backOf (W := 2) (rm_dl l Z a0 hw [] en d h0 n0 Z0 X_H X_D) hZ (own_w hw 104 rfl) (own_w hw 20 rfl) (by decide) (by decide)) q_4a q_4c (g := (mkF m 27 #[.val (.ref q), .val (.int (1 : Int32)), .val (.ref k), .val (.ref en), .val (.int (1 : Int32)), .val (.int (0 : Int32))] [(.ref en), (.long d0)])) rfl (by rw [hml]; rfl) (argsL := []) (rest := [(.long d0)]) (lenOf pd_5 rfl) rfl (by show 2 * 0 + _ ≤ _; exact Nat.le_of_eq rfl) (hb hby d_rm_s1b_27) eh_3 rfl (by decide) (by decide)
  obtain ⟨rfl, rfl, eh_4⟩ := Q_4
  refine own_G.via st_4 ?_
  have N_4 := Fr.app N_3 (Fr.nil n0)
  show own_G _ _ _ _ (T_4.setTop (mkF m 30 #[.val (.ref q), .val (.int (1 : Int32)), .val (.ref k), .val (.ref en), .val (.int (1 : Int32)), .val (.int (0 : Int32))] [(.long d), (.long d0)]))
  refine own_G.go (fun t_ k_ => XS.lcmp X_4.here hx rfl (hb hby d_rm_s1b_30) rfl k_) ?_
  show own_G _ _ _ _ (T_4.setTop (mkF m 31 #[.val (.ref q), .val (.int (1 : Int32)), .val (.ref k), .val (.ref en), .val (.int (1 : Int32)), .val (.int (0 : Int32))] [(.int (lcmpW d0 d))]))
  refine own_G.go (fun t_ k_ => XS.ifYes X_4.here hx rfl (pc0 := 31) (pc' := 37) rfl (hb hby d_rm_s1b_31) rfl ((if0 _ _).trans (tlt ((lw_gt _ _).mpr hdd : (0 : Int32) < (lcmpW d0 d))).2.2.1) (by decide) (by decide) k_) ?_
  show own_G _ _ _ _ (T_4.setTop (mkF m 37 #[.val (.ref q), .val (.int (1 : Int32)), .val (.ref k), .val (.ref en), .val (.int (1 : Int32)), .val (.int (0 : Int32))] []))
  refine own_G.go (fun t_ k_ => XS.aloadN X_4.here hx rfl (hb hby d_rm_s1b_37) rfl rfl k_) ?_
  show own_G _ _ _ _ (T_4.setTop (mkF m 38 #[.val (.ref q), .val (.int (1 : Int32)), .val (.ref k), .val (.ref en), .val (.int (1 : Int32)), .val (.int (0 : Int32))] [(.ref q)]))
  refine own_G.go (fun t_ k_ => XS.iload X_4.here hx rfl (hb hby d_rm_s1b_38) rfl k_) ?_
  show own_G _ _ _ _ (T_4.setTop (mkF m 40 #[.val (.ref q), .val (.int (1 : Int32)), .val (.ref k), .val (.ref en), .val (.int (1 : Int32)), .val (.int (0 : Int32))] [(.int (1 : Int32)), (.ref q)]))
  refine own_G.go (fun t_ k_ => XS.aloadN X_4.here hx rfl (hb hby d_rm_s1b_40) rfl rfl k_) ?_
  show own_G _ _ _ _ (T_4.setTop (mkF m 41 #[.val (.ref q), .val (.int (1 : Int32)), .val (.ref k), .val (.ref en), .val (.int (1 : Int32)), .val (.int (0 : Int32))] [(.ref q), (.int (1 : Int32)), (.ref q)]))
  obtain ⟨T_5, X_5, e_5, st_5⟩ := getF X_4 hx hZ hown (host := "") (Or.inl (own_w hw 65 rfl)) Via.refl eh_4 Q_K (g := (mkF m 41 #[.val (.ref q), .val (.int (1 : Int32)), .val (.ref k), .val (.ref en), .val (.int (1 : Int32)), .val (.int (0 : Int32))] [(.ref q), (.int (1 : Int32)), (.ref q)])) rfl rfl (hb hby d_rm_s1b_41)
  refine own_G.go st_5 ?_
  show own_G _ _ _ _ (T_5.setTop (mkF m 44 #[.val (.ref q), .val (.int (1 : Int32)), .val (.ref k), .val (.ref en), .val (.int (1 : Int32)), .val (.int (0 : Int32))] [(.ref ka), (.int (1 : Int32)), (.ref q)]))
  refine own_G.go (fun t_ k_ => XS.iload X_5.here hx rfl (hb hby d_rm_s1b_44) rfl k_) ?_
  show own_G _ _ _ _ (T_5.setTop (mkF m 46 #[.val (.ref q), .val (.int (1 : Int32)), .val (.ref k), .val (.ref en), .val (.int (1 : Int32)), .val (.int (0 : Int32))] [(.int (0 : Int32)), (.ref ka), (.int (1 : Int32)), (.ref q)]))
  obtain ⟨cel_6, A_6, -, S_6, M_6, H_6, -⟩ := id VK
  have I_6 : ¬ ((0 : Int32) < 0 ∨ cel_6.slots.size ≤ ((0 : Int32)).toNatClampNeg) := inb_of S_6 ⟨(by decide), (by decide : (0 : Int32) < (16 : Int32))⟩
  refine own_G.go (X_5.aaload hx (j := (0 : Int32)) (v := (.ref k0)) (by rw [e_5]; exact A_6.1) (State.isArrayOf_alike hZ.alike A_6.2.1) rfl A_6.2.2 I_6 (H_6.at I_6 rfl) (g := (mkF m 46 #[.val (.ref q), .val (.int (1 : Int32)), .val (.ref k), .val (.ref en), .val (.int (1 : Int32)), .val (.int (0 : Int32))] [(.int (0 : Int32)), (.ref ka), (.int (1 : Int32)), (.ref q)])) rfl rfl (hb hby d_rm_s1b_46)) ?_
  show own_G _ _ _ _ (T_5.setTop (mkF m 47 #[.val (.ref q), .val (.int (1 : Int32)), .val (.ref k), .val (.ref en), .val (.int (1 : Int32)), .val (.int (0 : Int32))] [(.ref k0), (.int (1 : Int32)), (.ref q)]))
  refine own_G.go (fun t_ k_ => XS.aloadN X_5.here hx rfl (hb hby d_rm_s1b_47) rfl rfl k_) ?_
  show own_G _ _ _ _ (T_5.setTop (mkF m 48 #[.val (.ref q), .val (.int (1 : Int32)), .val (.ref k), .val (.ref en), .val (.int (1 : Int32)), .val (.int (0 : Int32))] [(.ref q), (.ref k0), (.int (1 : Int32)), (.ref q)]))
  obtain ⟨T_7, X_7, e_7, st_7⟩ := getF X_5 hx hZ hown (host := "") (Or.inl (own_w hw 61 rfl)) Via.refl e_5 Q_F (g := (mkF m 48 #[.val (.ref q), .val (.int (1 : Int32)), .val (.ref k), .val (.ref en), .val (.int (1 : Int32)), .val (.int (0 : Int32))] [(.ref q), (.ref k0), (.int (1 : Int32)), (.ref q)])) rfl rfl (hb hby d_rm_s1b_48)
  refine own_G.go st_7 ?_
  show own_G _ _ _ _ (T_7.setTop (mkF m 51 #[.val (.ref q), .val (.int (1 : Int32)), .val (.ref k), .val (.ref en), .val (.int (1 : Int32)), .val (.int (0 : Int32))] [(.ref ea), (.ref k0), (.int (1 : Int32)), (.ref q)]))
  refine own_G.go (fun t_ k_ => XS.iload X_7.here hx rfl (hb hby d_rm_s1b_51) rfl k_) ?_
  show own_G _ _ _ _ (T_7.setTop (mkF m 53 #[.val (.ref q), .val (.int (1 : Int32)), .val (.ref k), .val (.ref en), .val (.int (1 : Int32)), .val (.int (0 : Int32))] [(.int (0 : Int32)), (.ref ea), (.ref k0), (.int (1 : Int32)), (.ref q)]))
  obtain ⟨cel_8, A_8, -, S_8, M_8, H_8, -⟩ := id VE
  have I_8 : ¬ ((0 : Int32) < 0 ∨ cel_8.slots.size ≤ ((0 : Int32)).toNatClampNeg) := inb_of S_8 ⟨(by decide), (by decide : (0 : Int32) < (16 : Int32))⟩
  refine own_G.go (X_7.aaload hx (j := (0 : Int32)) (v := (.ref x0)) (by rw [e_7]; exact A_8.1) (State.isArrayOf_alike hZ.alike A_8.2.1) rfl A_8.2.2 I_8 (H_8.at I_8 rfl) (g := (mkF m 53 #[.val (.ref q), .val (.int (1 : Int32)), .val (.ref k), .val (.ref en), .val (.int (1 : Int32)), .val (.int (0 : Int32))] [(.int (0 : Int32)), (.ref ea), (.ref k0), (.int (1 : Int32)), (.ref q)])) rfl rfl (hb hby d_rm_s1b_53)) ?_
  show own_G _ _ _ _ (T_7.setTop (mkF m 54 #[.val (.ref q), .val (.int (1 : Int32)), .val (.ref k), .val (.ref en), .val (.int (1 : Int32)), .val (.int (0 : Int32))] [(.ref x0), (.ref k0), (.int (1 : Int32)), (.ref q)]))
  obtain ⟨_, T_9, L_9, Q_9, X_9, st_9⟩ := own_callP X_7 hx hown (mvT hZ (own_w hw 94 rfl)) (mvT hZ (own_w hw 95 rfl)) (mvP hZ (own_w hw 96 rfl)) (mvT hZ (own_w hw 53 rfl)) (mvT hZ (own_w hw 97 rfl)) (by decide) (Q := (Qpl Z ea ka x0 kE kK d0 (1 : Int32) ([(.ref x0), (.ref x0), .null, .null, .null, .null, .null, .null, .null, .null, .null, .null, .null, .null, .null, .null] : List Value) ([(.ref k0), (.ref k0), .null, .null, .null, .null, .null, .null, .null, .null, .null, .null, .null, .null, .null, .null] : List Value) h0 n0)) (backOf (W := 0) (rm_pl l Z a0 hw [] q ea ka x0 k0 kE kK d0 sl0 (1 : Int32) 1 ([(.ref x0), .null, .null, .null, .null, .null, .null, .null, .null, .null, .null, .null, .null, .null, .null, .null] : List Value) ([(.ref k0), .null, .null, .null, .null, .null, .null, .null, .null, .null, .null, .null, .null, .null, .null, .null] : List Value) h0 n0 Z0 ga gb gx n1 n2 m1 n4 m2 m3 Q_E Q_F Q_K Y_E Y_S Y_H Y_D K0_E VE VK OE OKK rfl (by decide) (Nat.le_of_ble_eq_true rfl) (Nat.le_of_ble_eq_true rfl)) hZ (own_w hw 97 rfl) (own_w hw 54 rfl) (by decide) (by decide)) Q_E (g := (mkF m 54 #[.val (.ref q), .val (.int (1 : Int32)), .val (.ref k), .val (.ref en), .val (.int (1 : Int32)), .val (.int (0 : Int32))] [(.ref x0), (.ref k0), (.int (1 : Int32)), (.ref q)])) rfl (by rw [hml]; rfl) (argsL := [(.int (1 : Int32)), (.ref k0), (.ref x0)]) (rest := []) (lenOf pd_4 rfl) rfl (by show 2 * 0 + _ ≤ _; exact Nat.le_of_eq rfl) (hb hby d_rm_s1b_54) e_7 rfl (by decide) (by decide)
  obtain ⟨rfl, Nq_9, K_9, VE_9, VK_9, Ex_9, Fs_9, Fh_9, Fd_9⟩ := Q_9
  refine own_G.via st_9 ?_
  have N_9 := Fr.app N_4 Nq_9
  show own_G _ _ _ _ (T_9.setTop (mkF m 57 #[.val (.ref q), .val (.int (1 : Int32)), .val (.ref k), .val (.ref en), .val (.int (1 : Int32)), .val (.int (0 : Int32))] []))
  refine own_G.go (fun t_ k_ => XS.iload X_9.here hx rfl (hb hby d_rm_s1b_57) rfl k_) ?_
  show own_G _ _ _ _ (T_9.setTop (mkF m 59 #[.val (.ref q), .val (.int (1 : Int32)), .val (.ref k), .val (.ref en), .val (.int (1 : Int32)), .val (.int (0 : Int32))] [(.int (0 : Int32))]))
  refine own_G.go (fun t_ k_ => XS.istore X_9.here hx rfl (hb hby d_rm_s1b_59) rfl (l' := #[.val (.ref q), .val (.int (1 : Int32)), .val (.ref k), .val (.ref en), .val (.int (0 : Int32)), .val (.int (0 : Int32))]) rfl k_) ?_
  show own_G _ _ _ _ (T_9.setTop (mkF m 61 #[.val (.ref q), .val (.int (1 : Int32)), .val (.ref k), .val (.ref en), .val (.int (0 : Int32)), .val (.int (0 : Int32))] []))
  refine own_G.go (fun t_ k_ => XS.goto X_9.here hx rfl (pc0 := 61) (pc' := 3) rfl (hb hby d_rm_s1b_61) (by decide) (by decide) k_) ?_
  show own_G _ _ _ _ (T_9.setTop (mkF m 3 #[.val (.ref q), .val (.int (1 : Int32)), .val (.ref k), .val (.ref en), .val (.int (0 : Int32)), .val (.int (0 : Int32))] []))
  refine own_G.go (fun t_ k_ => XS.iload X_9.here hx rfl (hb hby d_rm_s1b_3) rfl k_) ?_
  show own_G _ _ _ _ (T_9.setTop (mkF m 5 #[.val (.ref q), .val (.int (1 : Int32)), .val (.ref k), .val (.ref en), .val (.int (0 : Int32)), .val (.int (0 : Int32))] [(.int (0 : Int32))]))
  refine own_G.go (fun t_ k_ => XS.ifYes X_9.here hx rfl (pc0 := 5) (pc' := 64) rfl (hb hby d_rm_s1b_5) rfl ((if0 _ _).trans (flt (by decide : ¬ ((0 : Int32) < (0 : Int32)))).2.2.2) (by decide) (by decide) k_) ?_
  show own_G _ _ _ _ (T_9.setTop (mkF m 64 #[.val (.ref q), .val (.int (1 : Int32)), .val (.ref k), .val (.ref en), .val (.int (0 : Int32)), .val (.int (0 : Int32))] []))
  refine own_G.go (fun t_ k_ => XS.aloadN X_9.here hx rfl (hb hby d_rm_s1b_64) rfl rfl k_) ?_
  show own_G _ _ _ _ (T_9.setTop (mkF m 65 #[.val (.ref q), .val (.int (1 : Int32)), .val (.ref k), .val (.ref en), .val (.int (0 : Int32)), .val (.int (0 : Int32))] [(.ref q)]))
  refine own_G.go (fun t_ k_ => XS.iload X_9.here hx rfl (hb hby d_rm_s1b_65) rfl k_) ?_
  show own_G _ _ _ _ (T_9.setTop (mkF m 67 #[.val (.ref q), .val (.int (1 : Int32)), .val (.ref k), .val (.ref en), .val (.int (0 : Int32)), .val (.int (0 : Int32))] [(.int (0 : Int32)), (.ref q)]))
  refine own_G.go (fun t_ k_ => XS.aloadN X_9.here hx rfl (hb hby d_rm_s1b_67) rfl rfl k_) ?_
  show own_G _ _ _ _ (T_9.setTop (mkF m 68 #[.val (.ref q), .val (.int (1 : Int32)), .val (.ref k), .val (.ref en), .val (.int (0 : Int32)), .val (.int (0 : Int32))] [(.ref k), (.int (0 : Int32)), (.ref q)]))
  refine own_G.go (fun t_ k_ => XS.aloadN X_9.here hx rfl (hb hby d_rm_s1b_68) rfl rfl k_) ?_
  show own_G _ _ _ _ (T_9.setTop (mkF m 69 #[.val (.ref q), .val (.int (1 : Int32)), .val (.ref k), .val (.ref en), .val (.int (0 : Int32)), .val (.int (0 : Int32))] [(.ref en), (.ref k), (.int (0 : Int32)), (.ref q)]))
  have Q_E'_10 : Exa Z T_9.heap q "com/example/kttl/kttl/keyspace/DeadlineQueue" := (Q_E.keep K_9)
  have Q_F'_11 : Fld Z T_9.heap q "com/example/kttl/kttl/keyspace/DeadlineQueue" "entries" "[Lcom/example/kttl/kttl/keyspace/Entry;" (.ref ea) := (Q_F.keep K_9 (ninS n1 (ninS n2 (ninS m1 nin0))))
  have Q_K'_12 : Fld Z T_9.heap q "com/example/kttl/kttl/keyspace/DeadlineQueue" "keys" "[Lcom/example/kttl/kttl/keyspace/Key;" (.ref ka) := (Q_K.keep K_9 (ninS n1 (ninS n2 (ninS m1 nin0))))
  have X_E'_13 : Exa Z T_9.heap en "com/example/kttl/kttl/keyspace/Entry" := (X_E.keep K_9)
  have X_S'_14 : Fld Z T_9.heap en "com/example/kttl/kttl/keyspace/Entry" "slot" "I" sl := (X_S.keep K_9 (ninS n5 (ninS n6 (ninS m4 nin0))))
  have X_H'_15 : Fld Z T_9.heap en "com/example/kttl/kttl/keyspace/Entry" "hasDeadline" "Z" (.int (1 : Int32)) := (X_H.keep K_9 (ninS n5 (ninS n6 (ninS m4 nin0))))
  have X_D'_16 : Fld Z T_9.heap en "com/example/kttl/kttl/keyspace/Entry" "deadline" "J" (.long d) := (X_D.keep K_9 (ninS n5 (ninS n6 (ninS m4 nin0))))
  have K_E'_17 : Exa Z T_9.heap k "com/example/kttl/kttl/keyspace/Key" := (K_E.keep K_9)
  obtain ⟨_, T_18, L_18, Q_18, X_18, st_18⟩ := own_callP X_9 hx hown (mvT hZ (own_w hw 94 rfl)) (mvT hZ (own_w hw 95 rfl)) (mvP hZ (own_w hw 96 rfl)) (mvT hZ (own_w hw 53 rfl)) (mvT hZ (own_w hw 97 rfl)) (by decide) (Q := (Qpl Z ea ka en kE kK d (0 : Int32) ([(.ref en), (.ref x0), .null, .null, .null, .null, .null, .null, .null, .null, .null, .null, .null, .null, .null, .null] : List Value) ([(.ref k), (.ref k0), .null, .null, .null, .null, .null, .null, .null, .null, .null, .null, .null, .null, .null, .null] : List Value) T_9.heap n0)) (backOf (W := 0) (rm_pl l Z a0 hw [] q ea ka en k kE kK d sl (0 : Int32) 0 ([(.ref x0), (.ref x0), .null, .null, .null, .null, .null, .null, .null, .null, .null, .null, .null, .null, .null, .null] : List Value) ([(.ref k0), (.ref k0), .null, .null, .null, .null, .null, .null, .null, .null, .null, .null, .null, .null, .null, .null] : List Value) T_9.heap n0 (Nat.le_trans Z0 K_9.1) ga gb ge n1 n2 n3 n4 n5 n6 Q_E'_10 Q_F'_11 Q_K'_12 X_E'_13 X_S'_14 X_H'_15 X_D'_16 K_E'_17 VE_9 VK_9 OE OKK rfl (by decide) (Nat.le_of_ble_eq_true rfl) (Nat.le_of_ble_eq_true rfl)) hZ (own_w hw 97 rfl) (own_w hw 54 rfl) (by decide) (by decide)) Q_E'_10 (g := (mkF m 69 #[.val (.ref q), .val (.int (1 : Int32)), .val (.ref k), .val (.ref en), .val (.int (0 : Int32)), .val (.int (0 : Int32))] [(.ref en), (.ref k), (.int (0 : Int32)), (.ref q)])) rfl (by rw [hml]; rfl) (argsL := [(.int (0 : Int32)), (.ref k), (.ref en)]) (rest := []) (lenOf pd_4 rfl) rfl (by show 2 * 0 + _ ≤ _; exact Nat.le_of_eq rfl) (hb hby d_rm_s1b_69) rfl rfl (by decide) (by decide)
  obtain ⟨rfl, Nq_18, K_18, VE_18, VK_18, Ex_18, Fs_18, Fh_18, Fd_18⟩ := Q_18
  refine own_G.via st_18 ?_
  have N_18 := Fr.app N_9 Nq_18
  show own_G _ _ _ _ (T_18.setTop (mkF m 72 #[.val (.ref q), .val (.int (1 : Int32)), .val (.ref k), .val (.ref en), .val (.int (0 : Int32)), .val (.int (0 : Int32))] []))
  have Ex_9'_19 : Exa Z T_18.heap x0 "com/example/kttl/kttl/keyspace/Entry" := (Ex_9.keep K_18)
  have Fs_9'_20 : Fld Z T_18.heap x0 "com/example/kttl/kttl/keyspace/Entry" "slot" "I" (.int (1 : Int32)) := (Fs_9.keep K_18 (ninS m2 (ninS m3 (ninS (Ne.symm m4) nin0))))
  have Fh_9'_21 : Fld Z T_18.heap x0 "com/example/kttl/kttl/keyspace/Entry" "hasDeadline" "Z" (.int (1 : Int32)) := (Fh_9.keep K_18 (ninS m2 (ninS m3 (ninS (Ne.symm m4) nin0))))
  have Fd_9'_22 : Fld Z T_18.heap x0 "com/example/kttl/kttl/keyspace/Entry" "deadline" "J" (.long d0) := (Fd_9.keep K_18 (ninS m2 (ninS m3 (ninS (Ne.symm m4) nin0))))
  exact own_G.end_ X_18 hlk (v := none) (fun _ => rfl) (fun fs hr => X_18.returnOut hx hrt (hb hby d_rm_s1b_72) hr) rfl ⟨rfl, N_18, (((Keep.refl h0 [ea, ka, en, x0]).trans K_9 (allS (Or.inl (List.mem_of_getElem? (i := 0) rfl)) (allS (Or.inl (List.mem_of_getElem? (i := 1) rfl)) (allS (Or.inl (List.mem_of_getElem? (i := 3) rfl)) all0)))).trans K_18 (allS (Or.inl (List.mem_of_getElem? (i := 0) rfl)) (allS (Or.inl (List.mem_of_getElem? (i := 1) rfl)) (allS (Or.inl (List.mem_of_getElem? (i := 2) rfl)) all0)))), VE_18, VK_18, Ex_18, Fs_18, Fh_18, Fd_18, Ex_9'_19, Fs_9'_20, Fh_9'_21, Fd_9'_22⟩ (by decide) (by decide)
def Qad (Z : State) (q ea ka en : Addr) (kE kK : ClassId) (d : Int64) (j : Int32) (ve vk : List Value) (h0 : Heap) (n0 : Nat) (v : Option Value) (h : Heap) (L : List Loc) : Prop := v = none ∧ Fr n0 L ∧ Keep h0 h [q, ea, ka, en] ∧ Arv Z h ea kE (.object "com/example/kttl/kttl/keyspace/Entry") (16 : Int32) ve .null ∧ Arv Z h ka kK (.object "com/example/kttl/kttl/keyspace/Key") (16 : Int32) vk .null ∧ Exa Z h en "com/example/kttl/kttl/keyspace/Entry" ∧ Fld Z h en "com/example/kttl/kttl/keyspace/Entry" "slot" "I" (.int j) ∧ Fld Z h en "com/example/kttl/kttl/keyspace/Entry" "hasDeadline" "Z" (.int (1 : Int32)) ∧ Fld Z h en "com/example/kttl/kttl/keyspace/Entry" "deadline" "J" (.long d) ∧ Exa Z h q "com/example/kttl/kttl/keyspace/DeadlineQueue" ∧ Fld Z h q "com/example/kttl/kttl/keyspace/DeadlineQueue" "entries" "[Lcom/example/kttl/kttl/keyspace/Entry;" (.ref ea) ∧ Fld Z h q "com/example/kttl/kttl/keyspace/DeadlineQueue" "keys" "[Lcom/example/kttl/kttl/keyspace/Key;" (.ref ka) ∧ Fld Z h q "com/example/kttl/kttl/keyspace/DeadlineQueue" "size" "I" (.int (j + 1))
def Qadw (Z : State) (q ea ka en x0 : Addr) (kE kK : ClassId) (d d0 : Int64) (ve vk : List Value) (h0 : Heap) (n0 : Nat) (v : Option Value) (h : Heap) (L : List Loc) : Prop := v = none ∧ Fr n0 L ∧ Keep h0 h [q, ea, ka, en, x0] ∧ Arv Z h ea kE (.object "com/example/kttl/kttl/keyspace/Entry") (16 : Int32) ve .null ∧ Arv Z h ka kK (.object "com/example/kttl/kttl/keyspace/Key") (16 : Int32) vk .null ∧ Exa Z h en "com/example/kttl/kttl/keyspace/Entry" ∧ Fld Z h en "com/example/kttl/kttl/keyspace/Entry" "slot" "I" (.int (0 : Int32)) ∧ Fld Z h en "com/example/kttl/kttl/keyspace/Entry" "hasDeadline" "Z" (.int (1 : Int32)) ∧ Fld Z h en "com/example/kttl/kttl/keyspace/Entry" "deadline" "J" (.long d) ∧ Exa Z h x0 "com/example/kttl/kttl/keyspace/Entry" ∧ Fld Z h x0 "com/example/kttl/kttl/keyspace/Entry" "slot" "I" (.int (1 : Int32)) ∧ Fld Z h x0 "com/example/kttl/kttl/keyspace/Entry" "hasDeadline" "Z" (.int (1 : Int32)) ∧ Fld Z h x0 "com/example/kttl/kttl/keyspace/Entry" "deadline" "J" (.long d0) ∧ Exa Z h q "com/example/kttl/kttl/keyspace/DeadlineQueue" ∧ Fld Z h q "com/example/kttl/kttl/keyspace/DeadlineQueue" "entries" "[Lcom/example/kttl/kttl/keyspace/Entry;" (.ref ea) ∧ Fld Z h q "com/example/kttl/kttl/keyspace/DeadlineQueue" "keys" "[Lcom/example/kttl/kttl/keyspace/Key;" (.ref ka) ∧ Fld Z h q "com/example/kttl/kttl/keyspace/DeadlineQueue" "size" "I" (.int (2 : Int32))
theorem pd_6 : parseMethodDescriptor "()Z" = some ⟨[], some .boolean⟩ := by decide +kernel
theorem d_rm_add0_0 : decode prog_15_method_2_code 0 = .ok (.aload_n 2, 1) := by decide +kernel
theorem d_rm_add0_1 : decode prog_15_method_2_code 1 = .ok (.invokevirtual 21, 3) := by decide +kernel
theorem d_rm_add0_4 : decode prog_15_method_2_code 4 = .ok (.ifCond .eq 11, 3) := by decide +kernel
theorem d_rm_add0_7 : decode prog_15_method_2_code 7 = .ok (.aload_n 2, 1) := by decide +kernel
theorem d_rm_add0_8 : decode prog_15_method_2_code 8 = .ok (.getfield 25, 3) := by decide +kernel
theorem d_rm_add0_11 : decode prog_15_method_2_code 11 = .ok (.iconst (-1), 1) := by decide +kernel
theorem d_rm_add0_12 : decode prog_15_method_2_code 12 = .ok (.if_icmp .eq 13, 3) := by decide +kernel
theorem d_rm_add0_25 : decode prog_15_method_2_code 25 = .ok (.aload_n 0, 1) := by decide +kernel
theorem d_rm_add0_26 : decode prog_15_method_2_code 26 = .ok (.getfield 36, 3) := by decide +kernel
theorem d_rm_add0_29 : decode prog_15_method_2_code 29 = .ok (.aload_n 0, 1) := by decide +kernel
theorem d_rm_add0_30 : decode prog_15_method_2_code 30 = .ok (.getfield 11, 3) := by decide +kernel
theorem d_rm_add0_33 : decode prog_15_method_2_code 33 = .ok (.arraylength, 1) := by decide +kernel
theorem d_rm_add0_34 : decode prog_15_method_2_code 34 = .ok (.if_icmp .ne 13, 3) := by decide +kernel
theorem d_rm_add0_47 : decode prog_15_method_2_code 47 = .ok (.aload_n 0, 1) := by decide +kernel
theorem d_rm_add0_48 : decode prog_15_method_2_code 48 = .ok (.dup, 1) := by decide +kernel
theorem d_rm_add0_49 : decode prog_15_method_2_code 49 = .ok (.getfield 36, 3) := by decide +kernel
theorem d_rm_add0_52 : decode prog_15_method_2_code 52 = .ok (.iconst 1, 1) := by decide +kernel
theorem d_rm_add0_53 : decode prog_15_method_2_code 53 = .ok (.iadd, 1) := by decide +kernel
theorem d_rm_add0_54 : decode prog_15_method_2_code 54 = .ok (.putfield 36, 3) := by decide +kernel
theorem d_rm_add0_57 : decode prog_15_method_2_code 57 = .ok (.aload_n 0, 1) := by decide +kernel
theorem d_rm_add0_58 : decode prog_15_method_2_code 58 = .ok (.aload_n 0, 1) := by decide +kernel
theorem d_rm_add0_59 : decode prog_15_method_2_code 59 = .ok (.getfield 36, 3) := by decide +kernel
theorem d_rm_add0_62 : decode prog_15_method_2_code 62 = .ok (.iconst 1, 1) := by decide +kernel
theorem d_rm_add0_63 : decode prog_15_method_2_code 63 = .ok (.isub, 1) := by decide +kernel
theorem d_rm_add0_64 : decode prog_15_method_2_code 64 = .ok (.aload_n 1, 1) := by decide +kernel
theorem d_rm_add0_65 : decode prog_15_method_2_code 65 = .ok (.aload_n 2, 1) := by decide +kernel
theorem d_rm_add0_66 : decode prog_15_method_2_code 66 = .ok (.invokevirtual 43, 3) := by decide +kernel
theorem d_rm_add0_69 : decode prog_15_method_2_code 69 = .ok (.return_, 1) := by decide +kernel
set_option maxRecDepth 65536 in
set_option maxHeartbeats 40000000 in
theorem rm_add0 (l : Launch) (Z : State) (a0 : Array Value) (hw : ∀ d ∈ tables_1, d.before a0 Z = true) (ws : List Jvm.Cond) (q ea ka en k : Addr) (kE kK : ClassId) (d : Int64) (h0 : Heap) (n0 : Nat) (Z0 : n0 ≤ h0.size) (gq : n0 ≤ q) (ga : n0 ≤ ea) (gb : n0 ≤ ka) (ge : n0 ≤ en) (n1 : q ≠ ea) (n2 : q ≠ ka) (n3 : q ≠ en) (n4 : ea ≠ ka) (n5 : en ≠ ea) (n6 : en ≠ ka) (Q_E : Exa Z h0 q "com/example/kttl/kttl/keyspace/DeadlineQueue") (Q_F : Fld Z h0 q "com/example/kttl/kttl/keyspace/DeadlineQueue" "entries" "[Lcom/example/kttl/kttl/keyspace/Entry;" (.ref ea)) (Q_K : Fld Z h0 q "com/example/kttl/kttl/keyspace/DeadlineQueue" "keys" "[Lcom/example/kttl/kttl/keyspace/Key;" (.ref ka)) (X_E : Exa Z h0 en "com/example/kttl/kttl/keyspace/Entry") (X_S : Fld Z h0 en "com/example/kttl/kttl/keyspace/Entry" "slot" "I" (.int (-1 : Int32))) (X_H : Fld Z h0 en "com/example/kttl/kttl/keyspace/Entry" "hasDeadline" "Z" (.int (1 : Int32))) (X_D : Fld Z h0 en "com/example/kttl/kttl/keyspace/Entry" "deadline" "J" (.long d)) (K_E : Exa Z h0 k "com/example/kttl/kttl/keyspace/Key") (VE : Arv Z h0 ea kE (.object "com/example/kttl/kttl/keyspace/Entry") (16 : Int32) ([.null, .null, .null, .null, .null, .null, .null, .null, .null, .null, .null, .null, .null, .null, .null, .null] : List Value) .null) (VK : Arv Z h0 ka kK (.object "com/example/kttl/kttl/keyspace/Key") (16 : Int32) ([.null, .null, .null, .null, .null, .null, .null, .null, .null, .null, .null, .null, .null, .null, .null, .null] : List Value) .null) (OE : Ovr Z kE "com/example/kttl/kttl/keyspace/Entry") (OKK : Ovr Z kK "com/example/kttl/kttl/keyspace/Key") (Q_S : Fld Z h0 q "com/example/kttl/kttl/keyspace/DeadlineQueue" "size" "I" (.int (0 : Int32))) :
    MetFree l (⟨"com/example/kttl/kttl/keyspace/DeadlineQueue", "add", "(Lcom/example/kttl/kttl/keyspace/Key;Lcom/example/kttl/kttl/keyspace/Entry;)V"⟩ : MethodName) (head1 (Jvm.Cond.code (⟨"com/example/kttl/kttl/keyspace/DeadlineQueue", "add", "(Lcom/example/kttl/kttl/keyspace/Key;Lcom/example/kttl/kttl/keyspace/Entry;)V"⟩ : MethodName) prog_15_method_2_code 3 none :: ws) ({ frames := 2, cells := 0, slots := 0, locals := 34 } : Room)) (fun a_ U => a_ = #[(.ref q), (.ref k), (.ref en)] ∧ Z.Warmed39 U.vm ∧ U.heap = h0) (fun _ _ _ _ _ => True) (fun _ U o U' => ∃ v L, o = .returned v ∧ Qad Z q ea ka en kE kK d (0 : Int32) ([(.ref en), .null, .null, .null, .null, .null, .null, .null, .null, .null, .null, .null, .null, .null, .null, .null] : List Value) ([(.ref k), .null, .null, .null, .null, .null, .null, .null, .null, .null, .null, .null, .null, .null, .null, .null] : List Value) h0 n0 v U'.heap L ∧ FrameEnd U o U' L ({ frames := 2, cells := 0, slots := 0, locals := 34 } : Room).cells ({ frames := 2, cells := 0, slots := 0, locals := 34 } : Room).slots) := by
  refine MetFree.of_bodySF (plainFor_of_name pn_2) hisR ?_
  intro p e s m args below meth c s₁ Bd hml0 hP hK
  obtain ⟨rfl, hZ, hh⟩ := hP
  have hx := Bd.exec
  have hby := Bd.bytes
  have hrt := Bd.returns
  have hlk : meth.locks = false := Bd.notSynchronized
  have hml : c.maxLocals = 3 := hml0
  have hown : s.vm.findClass "com/example/kttl/kttl/keyspace/DeadlineQueue" = some m.cls := findClass_of_methodNamed Bd.named
  have hnm := (name_of_methodNamed Bd.named Bd.method).1
  have X0 : Stand p l e ({ frames := 2, cells := 0, slots := 0, locals := 34 } : Room) s m #[(.ref q), (.ref k), (.ref en)] below meth c s₁ [] 0 0 := Stand.of_body Bd
  have e0 : s₁.heap = h0 := by rw [← hh, Bd.state]; rfl
  have N0 := Fr.nil n0
  show own_G p.tables e below (fun o t => ∃ v L, o = .returned v ∧ Qad Z q ea ka en kE kK d (0 : Int32) ([(.ref en), .null, .null, .null, .null, .null, .null, .null, .null, .null, .null, .null, .null, .null, .null, .null] : List Value) ([(.ref k), .null, .null, .null, .null, .null, .null, .null, .null, .null, .null, .null, .null, .null, .null, .null] : List Value) h0 n0 v t.heap L ∧ FrameEnd s o t L ({ frames := 2, cells := 0, slots := 0, locals := 34 } : Room).cells ({ frames := 2, cells := 0, slots := 0, locals := 34 } : Room).slots) (s₁.setTop (entryFrame m #[(.ref q), (.ref k), (.ref en)] 3))
  refine own_G.cast (show entryFrame m #[(.ref q), (.ref k), (.ref en)] 3 = mkF m 0 #[.val (.ref q), .val (.ref k), .val (.ref en)] [] from by first | (simp [entryFrame, mkF, argsToLocals, Value.category]; done) | rfl) ?_
  refine own_G.go (fun t_ k_ => XS.aloadN X0.here hx rfl (hb hby d_rm_add0_0) rfl rfl k_) ?_
  show own_G _ _ _ _ (s₁.setTop (mkF m 1 #[.val (.ref q), .val (.ref k), .val (.ref en)] [(.ref en)]))
  obtain ⟨cq_1, kq_1, q_1a, q_1b, q_1c⟩ := isOf hZ e0 X_E
  obtain ⟨_, T_1, L_1, Q_1, X_1, st_1⟩ := own_callV X0 hx (z := (⟨"com/example/kttl/kttl/keyspace/Entry", "hasDeadline", "()Z"⟩ : MethodName)) hown (mvT hZ (own_w hw 84 rfl)) (mvT hZ (own_w hw 85 rfl)) (notFace_of_selects (args := #[]) (mvT hZ (own_w hw 87 rfl))) (mvT hZ (own_w hw 87 rfl)) (mvT hZ (own_w hw 86 rfl)) (by decide) (Q := (Qp (.int (1 : Int32)) h0)) (backOf (W := 0) (rm_hd l Z a0 hw [] en h0 n0 Z0 X_H) hZ (own_w hw 88 rfl) (own_w hw 20 rfl) (by decide) (by decide)) q_1a q_1c (g := (mkF m 1 #[.val (.ref q), .val (.ref k), .val (.ref en)] [(.ref en)])) rfl (by rw [hml]; rfl) (argsL := []) (rest := []) (lenOf pd_6 rfl) rfl (by show 2 * 0 + _ ≤ _; exact Nat.le_of_eq rfl) (hb hby d_rm_add0_1) e0 rfl (by decide) (by decide)
  obtain ⟨rfl, rfl, eh_1⟩ := Q_1
  refine own_G.via st_1 ?_
  have N_1 := Fr.app N0 (Fr.nil n0)
  show own_G _ _ _ _ (T_1.setTop (mkF m 4 #[.val (.ref q), .val (.ref k), .val (.ref en)] [(.int (1 : Int32))]))
  refine own_G.go (fun t_ k_ => XS.ifNo X_1.here hx rfl (hb hby d_rm_add0_4) rfl ((if0 _ _).trans (feq (by decide : ¬ ((1 : Int32) = (0 : Int32)))).1) k_) ?_
  show own_G _ _ _ _ (T_1.setTop (mkF m 7 #[.val (.ref q), .val (.ref k), .val (.ref en)] []))
  refine own_G.go (fun t_ k_ => XS.aloadN X_1.here hx rfl (hb hby d_rm_add0_7) rfl rfl k_) ?_
  show own_G _ _ _ _ (T_1.setTop (mkF m 8 #[.val (.ref q), .val (.ref k), .val (.ref en)] [(.ref en)]))
  obtain ⟨T_2, X_2, e_2, st_2⟩ := getF X_1 hx hZ hown (host := "") (Or.inl (own_w hw 89 rfl)) Via.refl eh_1 X_S (g := (mkF m 8 #[.val (.ref q), .val (.ref k), .val (.ref en)] [(.ref en)])) rfl rfl (hb hby d_rm_add0_8)
  refine own_G.go st_2 ?_
  show own_G _ _ _ _ (T_2.setTop (mkF m 11 #[.val (.ref q), .val (.ref k), .val (.ref en)] [(.int (-1 : Int32))]))
  refine own_G.go (fun t_ k_ => XS.iconst X_2.here hx rfl (hb hby d_rm_add0_11) k_) ?_
  show own_G _ _ _ _ (T_2.setTop (mkF m 12 #[.val (.ref q), .val (.ref k), .val (.ref en)] [(.int (-1 : Int32)), (.int (-1 : Int32))]))
  refine own_G.go (fun t_ k_ => XS.icmpYes X_2.here hx rfl (pc0 := 12) (pc' := 25) rfl (hb hby d_rm_add0_12) rfl (teq (by decide : (-1 : Int32) = (-1 : Int32))).1 (by decide) (by decide) k_) ?_
  show own_G _ _ _ _ (T_2.setTop (mkF m 25 #[.val (.ref q), .val (.ref k), .val (.ref en)] []))
  refine own_G.go (fun t_ k_ => XS.aloadN X_2.here hx rfl (hb hby d_rm_add0_25) rfl rfl k_) ?_
  show own_G _ _ _ _ (T_2.setTop (mkF m 26 #[.val (.ref q), .val (.ref k), .val (.ref en)] [(.ref q)]))
  obtain ⟨T_3, X_3, e_3, st_3⟩ := getF X_2 hx hZ hown (host := "") (Or.inl (own_w hw 72 rfl)) Via.refl e_2 Q_S (g := (mkF m 26 #[.val (.ref q), .val (.ref k), .val (.ref en)] [(.ref q)])) rfl rfl (hb hby d_rm_add0_26)
  refine own_G.go st_3 ?_
  show own_G _ _ _ _ (T_3.setTop (mkF m 29 #[.val (.ref q), .val (.ref k), .val (.ref en)] [(.int (0 : Int32))]))
  refine own_G.go (fun t_ k_ => XS.aloadN X_3.here hx rfl (hb hby d_rm_add0_29) rfl rfl k_) ?_
  show own_G _ _ _ _ (T_3.setTop (mkF m 30 #[.val (.ref q), .val (.ref k), .val (.ref en)] [(.ref q), (.int (0 : Int32))]))
  obtain ⟨T_4, X_4, e_4, st_4⟩ := getF X_3 hx hZ hown (host := "") (Or.inl (own_w hw 61 rfl)) Via.refl e_3 Q_F (g := (mkF m 30 #[.val (.ref q), .val (.ref k), .val (.ref en)] [(.ref q), (.int (0 : Int32))])) rfl rfl (hb hby d_rm_add0_30)
  refine own_G.go st_4 ?_
  show own_G _ _ _ _ (T_4.setTop (mkF m 33 #[.val (.ref q), .val (.ref k), .val (.ref en)] [(.ref ea), (.int (0 : Int32))]))
  obtain ⟨cel_5, A_5, -, S_5, M_5, -, -⟩ := id VE
  refine own_G.go (X_4.arraylength hx (by rw [e_4]; exact A_5.1) (State.isArrayOf_alike hZ.alike A_5.2.1) (g := (mkF m 33 #[.val (.ref q), .val (.ref k), .val (.ref en)] [(.ref ea), (.int (0 : Int32))])) rfl rfl (hb hby d_rm_add0_33)) ?_
  rw [len_of S_5 M_5]
  show own_G _ _ _ _ (T_4.setTop (mkF m 34 #[.val (.ref q), .val (.ref k), .val (.ref en)] [(.int (16 : Int32)), (.int (0 : Int32))]))
  refine own_G.go (fun t_ k_ => XS.icmpYes X_4.here hx rfl (pc0 := 34) (pc' := 47) rfl (hb hby d_rm_add0_34) rfl (feq (by decide : ¬ ((0 : Int32) = (16 : Int32)))).2 (by decide) (by decide) k_) ?_
  show own_G _ _ _ _ (T_4.setTop (mkF m 47 #[.val (.ref q), .val (.ref k), .val (.ref en)] []))
  refine own_G.go (fun t_ k_ => XS.aloadN X_4.here hx rfl (hb hby d_rm_add0_47) rfl rfl k_) ?_
  show own_G _ _ _ _ (T_4.setTop (mkF m 48 #[.val (.ref q), .val (.ref k), .val (.ref en)] [(.ref q)]))
  refine own_G.go (fun t_ k_ => XS.dup X_4.here hx rfl (hb hby d_rm_add0_48) rfl rfl k_) ?_
  show own_G _ _ _ _ (T_4.setTop (mkF m 49 #[.val (.ref q), .val (.ref k), .val (.ref en)] [(.ref q), (.ref q)]))
  obtain ⟨T_6, X_6, e_6, st_6⟩ := getF X_4 hx hZ hown (host := "") (Or.inl (own_w hw 72 rfl)) Via.refl e_4 Q_S (g := (mkF m 49 #[.val (.ref q), .val (.ref k), .val (.ref en)] [(.ref q), (.ref q)])) rfl rfl (hb hby d_rm_add0_49)
  refine own_G.go st_6 ?_
  show own_G _ _ _ _ (T_6.setTop (mkF m 52 #[.val (.ref q), .val (.ref k), .val (.ref en)] [(.int (0 : Int32)), (.ref q)]))
  refine own_G.go (fun t_ k_ => XS.iconst X_6.here hx rfl (hb hby d_rm_add0_52) k_) ?_
  show own_G _ _ _ _ (T_6.setTop (mkF m 53 #[.val (.ref q), .val (.ref k), .val (.ref en)] [(.int (1 : Int32)), (.int (0 : Int32)), (.ref q)]))
  refine own_G.go (fun t_ k_ => XS.iadd X_6.here hx rfl (hb hby d_rm_add0_53) rfl k_) ?_
  show own_G _ _ _ _ (T_6.setTop (mkF m 54 #[.val (.ref q), .val (.ref k), .val (.ref en)] [(.int (1 : Int32)), (.ref q)]))
  obtain ⟨T_7, h_7, X_7, e_7, W_7, st_7⟩ := putF X_6 hx hZ hown (host := "") (Or.inl (own_w hw 72 rfl)) Via.refl e_6 Q_S Q_E (Or.inl (own_w hw 73 rfl)) (own_w hw 53 rfl) (ty := .int) (by decide) rfl rfl (g := (mkF m 54 #[.val (.ref q), .val (.ref k), .val (.ref en)] [(.int (1 : Int32)), (.ref q)])) rfl rfl (hb hby d_rm_add0_54)
  refine own_G.go st_7 ?_
  have F_7 : Fld Z h_7 q "com/example/kttl/kttl/keyspace/DeadlineQueue" "size" "I" (.int (1 : Int32)) := Q_S.same W_7
  have N_7 := Fr.snoc X_7 N_1 gq
  show own_G _ _ _ _ (T_7.setTop (mkF m 57 #[.val (.ref q), .val (.ref k), .val (.ref en)] []))
  refine own_G.go (fun t_ k_ => XS.aloadN X_7.here hx rfl (hb hby d_rm_add0_57) rfl rfl k_) ?_
  show own_G _ _ _ _ (T_7.setTop (mkF m 58 #[.val (.ref q), .val (.ref k), .val (.ref en)] [(.ref q)]))
  refine own_G.go (fun t_ k_ => XS.aloadN X_7.here hx rfl (hb hby d_rm_add0_58) rfl rfl k_) ?_
  show own_G _ _ _ _ (T_7.setTop (mkF m 59 #[.val (.ref q), .val (.ref k), .val (.ref en)] [(.ref q), (.ref q)]))
  obtain ⟨T_8, X_8, e_8, st_8⟩ := getF X_7 hx hZ hown (host := "") (Or.inl (own_w hw 72 rfl)) Via.refl e_7 F_7 (g := (mkF m 59 #[.val (.ref q), .val (.ref k), .val (.ref en)] [(.ref q), (.ref q)])) rfl rfl (hb hby d_rm_add0_59)
  refine own_G.go st_8 ?_
  show own_G _ _ _ _ (T_8.setTop (mkF m 62 #[.val (.ref q), .val (.ref k), .val (.ref en)] [(.int (1 : Int32)), (.ref q)]))
  refine own_G.go (fun t_ k_ => XS.iconst X_8.here hx rfl (hb hby d_rm_add0_62) k_) ?_
  show own_G _ _ _ _ (T_8.setTop (mkF m 63 #[.val (.ref q), .val (.ref k), .val (.ref en)] [(.int (1 : Int32)), (.int (1 : Int32)), (.ref q)]))
  refine own_G.go (fun t_ k_ => XS.isub X_8.here hx rfl (hb hby d_rm_add0_63) rfl k_) ?_
  show own_G _ _ _ _ (T_8.setTop (mkF m 64 #[.val (.ref q), .val (.ref k), .val (.ref en)] [(.int (0 : Int32)), (.ref q)]))
  refine own_G.go (fun t_ k_ => XS.aloadN X_8.here hx rfl (hb hby d_rm_add0_64) rfl rfl k_) ?_
  show own_G _ _ _ _ (T_8.setTop (mkF m 65 #[.val (.ref q), .val (.ref k), .val (.ref en)] [(.ref k), (.int (0 : Int32)), (.ref q)]))
  refine own_G.go (fun t_ k_ => XS.aloadN X_8.here hx rfl (hb hby d_rm_add0_65) rfl rfl k_) ?_
  show own_G _ _ _ _ (T_8.setTop (mkF m 66 #[.val (.ref q), .val (.ref k), .val (.ref en)] [(.ref en), (.ref k), (.int (0 : Int32)), (.ref q)]))
  have Q_E'_9 : Exa Z h_7 q "com/example/kttl/kttl/keyspace/DeadlineQueue" := (Q_E.wr W_7)
  have Q_F'_10 : Fld Z h_7 q "com/example/kttl/kttl/keyspace/DeadlineQueue" "entries" "[Lcom/example/kttl/kttl/keyspace/Entry;" (.ref ea) := (Q_F.other W_7 (Or.inr (slot_ne (C := "com/example/kttl/kttl/keyspace/DeadlineQueue") (Or.inl (own_w hw 62 rfl)) (Or.inl (own_w hw 73 rfl)) (by decide) (by decide : parseFieldDescriptor "[Lcom/example/kttl/kttl/keyspace/Entry;" = some (.array (.object "com/example/kttl/kttl/keyspace/Entry"))) (by decide : parseFieldDescriptor "I" = some .int))))
  have Q_K'_11 : Fld Z h_7 q "com/example/kttl/kttl/keyspace/DeadlineQueue" "keys" "[Lcom/example/kttl/kttl/keyspace/Key;" (.ref ka) := (Q_K.other W_7 (Or.inr (slot_ne (C := "com/example/kttl/kttl/keyspace/DeadlineQueue") (Or.inl (own_w hw 66 rfl)) (Or.inl (own_w hw 73 rfl)) (by decide) (by decide : parseFieldDescriptor "[Lcom/example/kttl/kttl/keyspace/Key;" = some (.array (.object "com/example/kttl/kttl/keyspace/Key"))) (by decide : parseFieldDescriptor "I" = some .int))))
  have X_E'_12 : Exa Z h_7 en "com/example/kttl/kttl/keyspace/Entry" := (X_E.wr W_7)
  have X_S'_13 : Fld Z h_7 en "com/example/kttl/kttl/keyspace/Entry" "slot" "I" (.int (-1 : Int32)) := (X_S.other W_7 (Or.inl (Ne.symm n3)))
  have X_H'_14 : Fld Z h_7 en "com/example/kttl/kttl/keyspace/Entry" "hasDeadline" "Z" (.int (1 : Int32)) := (X_H.other W_7 (Or.inl (Ne.symm n3)))
  have X_D'_15 : Fld Z h_7 en "com/example/kttl/kttl/keyspace/Entry" "deadline" "J" (.long d) := (X_D.other W_7 (Or.inl (Ne.symm n3)))
  have K_E'_16 : Exa Z h_7 k "com/example/kttl/kttl/keyspace/Key" := (K_E.wr W_7)
  have VE'_17 : Arv Z h_7 ea kE (.object "com/example/kttl/kttl/keyspace/Entry") (16 : Int32) ([.null, .null, .null, .null, .null, .null, .null, .null, .null, .null, .null, .null, .null, .null, .null, .null] : List Value) .null := (VE.other W_7 (Ne.symm n1))
  have VK'_18 : Arv Z h_7 ka kK (.object "com/example/kttl/kttl/keyspace/Key") (16 : Int32) ([.null, .null, .null, .null, .null, .null, .null, .null, .null, .null, .null, .null, .null, .null, .null, .null] : List Value) .null := (VK.other W_7 (Ne.symm n2))
  obtain ⟨_, T_19, L_19, Q_19, X_19, st_19⟩ := own_callP X_8 hx hown (mvT hZ (own_w hw 90 rfl)) (mvT hZ (own_w hw 91 rfl)) (mvP hZ (own_w hw 92 rfl)) (mvT hZ (own_w hw 53 rfl)) (mvT hZ (own_w hw 93 rfl)) (by decide) (Q := (Qpl Z ea ka en kE kK d (0 : Int32) ([(.ref en), .null, .null, .null, .null, .null, .null, .null, .null, .null, .null, .null, .null, .null, .null, .null] : List Value) ([(.ref k), .null, .null, .null, .null, .null, .null, .null, .null, .null, .null, .null, .null, .null, .null, .null] : List Value) h_7 n0)) (backOf (W := 0) (rm_s0 l Z a0 hw [] q ea ka en k kE kK d (.int (-1 : Int32)) h_7 n0 (Nat.le_trans Z0 (Keep.of_wr W_7).1) ga gb ge n1 n2 n3 n4 n5 n6 Q_E'_9 Q_F'_10 Q_K'_11 X_E'_12 X_S'_13 X_H'_14 X_D'_15 K_E'_16 VE'_17 VK'_18 OE OKK ) hZ (own_w hw 93 rfl) (own_w hw 54 rfl) (by decide) (by decide)) Q_E'_9 (g := (mkF m 66 #[.val (.ref q), .val (.ref k), .val (.ref en)] [(.ref en), (.ref k), (.int (0 : Int32)), (.ref q)])) rfl (by rw [hml]; rfl) (argsL := [(.int (0 : Int32)), (.ref k), (.ref en)]) (rest := []) (lenOf pd_4 rfl) rfl (by show 2 * 0 + _ ≤ _; exact Nat.le_of_eq rfl) (hb hby d_rm_add0_66) e_8 rfl (by decide) (by decide)
  obtain ⟨rfl, Nq_19, K_19, VE_19, VK_19, Ex_19, Fs_19, Fh_19, Fd_19⟩ := Q_19
  refine own_G.via st_19 ?_
  have N_19 := Fr.app N_7 Nq_19
  show own_G _ _ _ _ (T_19.setTop (mkF m 69 #[.val (.ref q), .val (.ref k), .val (.ref en)] []))
  have Q_E'_20 : Exa Z T_19.heap q "com/example/kttl/kttl/keyspace/DeadlineQueue" := (Q_E'_9.keep K_19)
  have Q_F'_21 : Fld Z T_19.heap q "com/example/kttl/kttl/keyspace/DeadlineQueue" "entries" "[Lcom/example/kttl/kttl/keyspace/Entry;" (.ref ea) := (Q_F'_10.keep K_19 (ninS n1 (ninS n2 (ninS n3 nin0))))
  have Q_K'_22 : Fld Z T_19.heap q "com/example/kttl/kttl/keyspace/DeadlineQueue" "keys" "[Lcom/example/kttl/kttl/keyspace/Key;" (.ref ka) := (Q_K'_11.keep K_19 (ninS n1 (ninS n2 (ninS n3 nin0))))
  have F_7'_23 : Fld Z T_19.heap q "com/example/kttl/kttl/keyspace/DeadlineQueue" "size" "I" (.int (1 : Int32)) := (F_7.keep K_19 (ninS n1 (ninS n2 (ninS n3 nin0))))
  exact own_G.end_ X_19 hlk (v := none) (fun _ => rfl) (fun fs hr => X_19.returnOut hx hrt (hb hby d_rm_add0_69) hr) rfl ⟨rfl, N_19, (((Keep.refl h0 [q, ea, ka, en]).wr W_7 (Or.inl (List.mem_of_getElem? (i := 0) rfl))).trans K_19 (allS (Or.inl (List.mem_of_getElem? (i := 1) rfl)) (allS (Or.inl (List.mem_of_getElem? (i := 2) rfl)) (allS (Or.inl (List.mem_of_getElem? (i := 3) rfl)) all0)))), VE_19, VK_19, Ex_19, Fs_19, Fh_19, Fd_19, Q_E'_20, Q_F'_21, Q_K'_22, F_7'_23⟩ (by decide) (by decide)
theorem d_rm_add1a_0 : decode prog_15_method_2_code 0 = .ok (.aload_n 2, 1) := by decide +kernel
theorem d_rm_add1a_1 : decode prog_15_method_2_code 1 = .ok (.invokevirtual 21, 3) := by decide +kernel
theorem d_rm_add1a_4 : decode prog_15_method_2_code 4 = .ok (.ifCond .eq 11, 3) := by decide +kernel
theorem d_rm_add1a_7 : decode prog_15_method_2_code 7 = .ok (.aload_n 2, 1) := by decide +kernel
theorem d_rm_add1a_8 : decode prog_15_method_2_code 8 = .ok (.getfield 25, 3) := by decide +kernel
theorem d_rm_add1a_11 : decode prog_15_method_2_code 11 = .ok (.iconst (-1), 1) := by decide +kernel
theorem d_rm_add1a_12 : decode prog_15_method_2_code 12 = .ok (.if_icmp .eq 13, 3) := by decide +kernel
theorem d_rm_add1a_25 : decode prog_15_method_2_code 25 = .ok (.aload_n 0, 1) := by decide +kernel
theorem d_rm_add1a_26 : decode prog_15_method_2_code 26 = .ok (.getfield 36, 3) := by decide +kernel
theorem d_rm_add1a_29 : decode prog_15_method_2_code 29 = .ok (.aload_n 0, 1) := by decide +kernel
theorem d_rm_add1a_30 : decode prog_15_method_2_code 30 = .ok (.getfield 11, 3) := by decide +kernel
theorem d_rm_add1a_33 : decode prog_15_method_2_code 33 = .ok (.arraylength, 1) := by decide +kernel
theorem d_rm_add1a_34 : decode prog_15_method_2_code 34 = .ok (.if_icmp .ne 13, 3) := by decide +kernel
theorem d_rm_add1a_47 : decode prog_15_method_2_code 47 = .ok (.aload_n 0, 1) := by decide +kernel
theorem d_rm_add1a_48 : decode prog_15_method_2_code 48 = .ok (.dup, 1) := by decide +kernel
theorem d_rm_add1a_49 : decode prog_15_method_2_code 49 = .ok (.getfield 36, 3) := by decide +kernel
theorem d_rm_add1a_52 : decode prog_15_method_2_code 52 = .ok (.iconst 1, 1) := by decide +kernel
theorem d_rm_add1a_53 : decode prog_15_method_2_code 53 = .ok (.iadd, 1) := by decide +kernel
theorem d_rm_add1a_54 : decode prog_15_method_2_code 54 = .ok (.putfield 36, 3) := by decide +kernel
theorem d_rm_add1a_57 : decode prog_15_method_2_code 57 = .ok (.aload_n 0, 1) := by decide +kernel
theorem d_rm_add1a_58 : decode prog_15_method_2_code 58 = .ok (.aload_n 0, 1) := by decide +kernel
theorem d_rm_add1a_59 : decode prog_15_method_2_code 59 = .ok (.getfield 36, 3) := by decide +kernel
theorem d_rm_add1a_62 : decode prog_15_method_2_code 62 = .ok (.iconst 1, 1) := by decide +kernel
theorem d_rm_add1a_63 : decode prog_15_method_2_code 63 = .ok (.isub, 1) := by decide +kernel
theorem d_rm_add1a_64 : decode prog_15_method_2_code 64 = .ok (.aload_n 1, 1) := by decide +kernel
theorem d_rm_add1a_65 : decode prog_15_method_2_code 65 = .ok (.aload_n 2, 1) := by decide +kernel
theorem d_rm_add1a_66 : decode prog_15_method_2_code 66 = .ok (.invokevirtual 43, 3) := by decide +kernel
theorem d_rm_add1a_69 : decode prog_15_method_2_code 69 = .ok (.return_, 1) := by decide +kernel
set_option maxRecDepth 65536 in
set_option maxHeartbeats 40000000 in
theorem rm_add1a (l : Launch) (Z : State) (a0 : Array Value) (hw : ∀ d ∈ tables_1, d.before a0 Z = true) (ws : List Jvm.Cond) (q ea ka en k : Addr) (kE kK : ClassId) (d : Int64) (x0 k0 : Addr) (d0 : Int64) (sl0 : Value) (h0 : Heap) (n0 : Nat) (Z0 : n0 ≤ h0.size) (gq : n0 ≤ q) (ga : n0 ≤ ea) (gb : n0 ≤ ka) (ge : n0 ≤ en) (n1 : q ≠ ea) (n2 : q ≠ ka) (n3 : q ≠ en) (n4 : ea ≠ ka) (n5 : en ≠ ea) (n6 : en ≠ ka) (Q_E : Exa Z h0 q "com/example/kttl/kttl/keyspace/DeadlineQueue") (Q_F : Fld Z h0 q "com/example/kttl/kttl/keyspace/DeadlineQueue" "entries" "[Lcom/example/kttl/kttl/keyspace/Entry;" (.ref ea)) (Q_K : Fld Z h0 q "com/example/kttl/kttl/keyspace/DeadlineQueue" "keys" "[Lcom/example/kttl/kttl/keyspace/Key;" (.ref ka)) (X_E : Exa Z h0 en "com/example/kttl/kttl/keyspace/Entry") (X_S : Fld Z h0 en "com/example/kttl/kttl/keyspace/Entry" "slot" "I" (.int (-1 : Int32))) (X_H : Fld Z h0 en "com/example/kttl/kttl/keyspace/Entry" "hasDeadline" "Z" (.int (1 : Int32))) (X_D : Fld Z h0 en "com/example/kttl/kttl/keyspace/Entry" "deadline" "J" (.long d)) (K_E : Exa Z h0 k "com/example/kttl/kttl/keyspace/Key") (VE : Arv Z h0 ea kE (.object "com/example/kttl/kttl/keyspace/Entry") (16 : Int32) ([(.ref x0), .null, .null, .null, .null, .null, .null, .null, .null, .null, .null, .null, .null, .null, .null, .null] : List Value) .null) (VK : Arv Z h0 ka kK (.object "com/example/kttl/kttl/keyspace/Key") (16 : Int32) ([(.ref k0), .null, .null, .null, .null, .null, .null, .null, .null, .null, .null, .null, .null, .null, .null, .null] : List Value) .null) (OE : Ovr Z kE "com/example/kttl/kttl/keyspace/Entry") (OKK : Ovr Z kK "com/example/kttl/kttl/keyspace/Key") (gx : n0 ≤ x0) (m1 : q ≠ x0) (m2 : x0 ≠ ea) (m3 : x0 ≠ ka) (m4 : en ≠ x0) (Y_E : Exa Z h0 x0 "com/example/kttl/kttl/keyspace/Entry") (Y_S : Fld Z h0 x0 "com/example/kttl/kttl/keyspace/Entry" "slot" "I" sl0) (Y_H : Fld Z h0 x0 "com/example/kttl/kttl/keyspace/Entry" "hasDeadline" "Z" (.int (1 : Int32))) (Y_D : Fld Z h0 x0 "com/example/kttl/kttl/keyspace/Entry" "deadline" "J" (.long d0)) (K0_E : Exa Z h0 k0 "com/example/kttl/kttl/keyspace/Key") (hdd : ¬ d < d0) (Q_S : Fld Z h0 q "com/example/kttl/kttl/keyspace/DeadlineQueue" "size" "I" (.int (1 : Int32))) :
    MetFree l (⟨"com/example/kttl/kttl/keyspace/DeadlineQueue", "add", "(Lcom/example/kttl/kttl/keyspace/Key;Lcom/example/kttl/kttl/keyspace/Entry;)V"⟩ : MethodName) (head1 (Jvm.Cond.code (⟨"com/example/kttl/kttl/keyspace/DeadlineQueue", "add", "(Lcom/example/kttl/kttl/keyspace/Key;Lcom/example/kttl/kttl/keyspace/Entry;)V"⟩ : MethodName) prog_15_method_2_code 3 none :: ws) ({ frames := 2, cells := 0, slots := 0, locals := 34 } : Room)) (fun a_ U => a_ = #[(.ref q), (.ref k), (.ref en)] ∧ Z.Warmed39 U.vm ∧ U.heap = h0) (fun _ _ _ _ _ => True) (fun _ U o U' => ∃ v L, o = .returned v ∧ Qad Z q ea ka en kE kK d (1 : Int32) ([(.ref x0), (.ref en), .null, .null, .null, .null, .null, .null, .null, .null, .null, .null, .null, .null, .null, .null] : List Value) ([(.ref k0), (.ref k), .null, .null, .null, .null, .null, .null, .null, .null, .null, .null, .null, .null, .null, .null] : List Value) h0 n0 v U'.heap L ∧ FrameEnd U o U' L ({ frames := 2, cells := 0, slots := 0, locals := 34 } : Room).cells ({ frames := 2, cells := 0, slots := 0, locals := 34 } : Room).slots) := by
  refine MetFree.of_bodySF (plainFor_of_name pn_2) hisR ?_
  intro p e s m args below meth c s₁ Bd hml0 hP hK
  obtain ⟨rfl, hZ, hh⟩ := hP
  have hx := Bd.exec
  have hby := Bd.bytes
  have hrt := Bd.returns
  have hlk : meth.locks = false := Bd.notSynchronized
  have hml : c.maxLocals = 3 := hml0
  have hown : s.vm.findClass "com/example/kttl/kttl/keyspace/DeadlineQueue" = some m.cls := findClass_of_methodNamed Bd.named
  have hnm := (name_of_methodNamed Bd.named Bd.method).1
  have X0 : Stand p l e ({ frames := 2, cells := 0, slots := 0, locals := 34 } : Room) s m #[(.ref q), (.ref k), (.ref en)] below meth c s₁ [] 0 0 := Stand.of_body Bd
  have e0 : s₁.heap = h0 := by rw [← hh, Bd.state]; rfl
  have N0 := Fr.nil n0
  show own_G p.tables e below (fun o t => ∃ v L, o = .returned v ∧ Qad Z q ea ka en kE kK d (1 : Int32) ([(.ref x0), (.ref en), .null, .null, .null, .null, .null, .null, .null, .null, .null, .null, .null, .null, .null, .null] : List Value) ([(.ref k0), (.ref k), .null, .null, .null, .null, .null, .null, .null, .null, .null, .null, .null, .null, .null, .null] : List Value) h0 n0 v t.heap L ∧ FrameEnd s o t L ({ frames := 2, cells := 0, slots := 0, locals := 34 } : Room).cells ({ frames := 2, cells := 0, slots := 0, locals := 34 } : Room).slots) (s₁.setTop (entryFrame m #[(.ref q), (.ref k), (.ref en)] 3))
  refine own_G.cast (show entryFrame m #[(.ref q), (.ref k), (.ref en)] 3 = mkF m 0 #[.val (.ref q), .val (.ref k), .val (.ref en)] [] from by first | (simp [entryFrame, mkF, argsToLocals, Value.category]; done) | rfl) ?_
  refine own_G.go (fun t_ k_ => XS.aloadN X0.here hx rfl (hb hby d_rm_add1a_0) rfl rfl k_) ?_
  show own_G _ _ _ _ (s₁.setTop (mkF m 1 #[.val (.ref q), .val (.ref k), .val (.ref en)] [(.ref en)]))
  obtain ⟨cq_1, kq_1, q_1a, q_1b, q_1c⟩ := isOf hZ e0 X_E
  obtain ⟨_, T_1, L_1, Q_1, X_1, st_1⟩ := own_callV X0 hx (z := (⟨"com/example/kttl/kttl/keyspace/Entry", "hasDeadline", "()Z"⟩ : MethodName)) hown (mvT hZ (own_w hw 84 rfl)) (mvT hZ (own_w hw 85 rfl)) (notFace_of_selects (args := #[]) (mvT hZ (own_w hw 87 rfl))) (mvT hZ (own_w hw 87 rfl)) (mvT hZ (own_w hw 86 rfl)) (by decide) (Q := (Qp (.int (1 : Int32)) h0)) (backOf (W := 0) (rm_hd l Z a0 hw [] en h0 n0 Z0 X_H) hZ (own_w hw 88 rfl) (own_w hw 20 rfl) (by decide) (by decide)) q_1a q_1c (g := (mkF m 1 #[.val (.ref q), .val (.ref k), .val (.ref en)] [(.ref en)])) rfl (by rw [hml]; rfl) (argsL := []) (rest := []) (lenOf pd_6 rfl) rfl (by show 2 * 0 + _ ≤ _; exact Nat.le_of_eq rfl) (hb hby d_rm_add1a_1) e0 rfl (by decide) (by decide)
  obtain ⟨rfl, rfl, eh_1⟩ := Q_1
  refine own_G.via st_1 ?_
  have N_1 := Fr.app N0 (Fr.nil n0)
  show own_G _ _ _ _ (T_1.setTop (mkF m 4 #[.val (.ref q), .val (.ref k), .val (.ref en)] [(.int (1 : Int32))]))
  refine own_G.go (fun t_ k_ => XS.ifNo X_1.here hx rfl (hb hby d_rm_add1a_4) rfl ((if0 _ _).trans (feq (by decide : ¬ ((1 : Int32) = (0 : Int32)))).1) k_) ?_
  show own_G _ _ _ _ (T_1.setTop (mkF m 7 #[.val (.ref q), .val (.ref k), .val (.ref en)] []))
  refine own_G.go (fun t_ k_ => XS.aloadN X_1.here hx rfl (hb hby d_rm_add1a_7) rfl rfl k_) ?_
  show own_G _ _ _ _ (T_1.setTop (mkF m 8 #[.val (.ref q), .val (.ref k), .val (.ref en)] [(.ref en)]))
  obtain ⟨T_2, X_2, e_2, st_2⟩ := getF X_1 hx hZ hown (host := "") (Or.inl (own_w hw 89 rfl)) Via.refl eh_1 X_S (g := (mkF m 8 #[.val (.ref q), .val (.ref k), .val (.ref en)] [(.ref en)])) rfl rfl (hb hby d_rm_add1a_8)
  refine own_G.go st_2 ?_
  show own_G _ _ _ _ (T_2.setTop (mkF m 11 #[.val (.ref q), .val (.ref k), .val (.ref en)] [(.int (-1 : Int32))]))
  refine own_G.go (fun t_ k_ => XS.iconst X_2.here hx rfl (hb hby d_rm_add1a_11) k_) ?_
  show own_G _ _ _ _ (T_2.setTop (mkF m 12 #[.val (.ref q), .val (.ref k), .val (.ref en)] [(.int (-1 : Int32)), (.int (-1 : Int32))]))
  refine own_G.go (fun t_ k_ => XS.icmpYes X_2.here hx rfl (pc0 := 12) (pc' := 25) rfl (hb hby d_rm_add1a_12) rfl (teq (by decide : (-1 : Int32) = (-1 : Int32))).1 (by decide) (by decide) k_) ?_
  show own_G _ _ _ _ (T_2.setTop (mkF m 25 #[.val (.ref q), .val (.ref k), .val (.ref en)] []))
  refine own_G.go (fun t_ k_ => XS.aloadN X_2.here hx rfl (hb hby d_rm_add1a_25) rfl rfl k_) ?_
  show own_G _ _ _ _ (T_2.setTop (mkF m 26 #[.val (.ref q), .val (.ref k), .val (.ref en)] [(.ref q)]))
  obtain ⟨T_3, X_3, e_3, st_3⟩ := getF X_2 hx hZ hown (host := "") (Or.inl (own_w hw 72 rfl)) Via.refl e_2 Q_S (g := (mkF m 26 #[.val (.ref q), .val (.ref k), .val (.ref en)] [(.ref q)])) rfl rfl (hb hby d_rm_add1a_26)
  refine own_G.go st_3 ?_
  show own_G _ _ _ _ (T_3.setTop (mkF m 29 #[.val (.ref q), .val (.ref k), .val (.ref en)] [(.int (1 : Int32))]))
  refine own_G.go (fun t_ k_ => XS.aloadN X_3.here hx rfl (hb hby d_rm_add1a_29) rfl rfl k_) ?_
  show own_G _ _ _ _ (T_3.setTop (mkF m 30 #[.val (.ref q), .val (.ref k), .val (.ref en)] [(.ref q), (.int (1 : Int32))]))
  obtain ⟨T_4, X_4, e_4, st_4⟩ := getF X_3 hx hZ hown (host := "") (Or.inl (own_w hw 61 rfl)) Via.refl e_3 Q_F (g := (mkF m 30 #[.val (.ref q), .val (.ref k), .val (.ref en)] [(.ref q), (.int (1 : Int32))])) rfl rfl (hb hby d_rm_add1a_30)
  refine own_G.go st_4 ?_
  show own_G _ _ _ _ (T_4.setTop (mkF m 33 #[.val (.ref q), .val (.ref k), .val (.ref en)] [(.ref ea), (.int (1 : Int32))]))
  obtain ⟨cel_5, A_5, -, S_5, M_5, -, -⟩ := id VE
  refine own_G.go (X_4.arraylength hx (by rw [e_4]; exact A_5.1) (State.isArrayOf_alike hZ.alike A_5.2.1) (g := (mkF m 33 #[.val (.ref q), .val (.ref k), .val (.ref en)] [(.ref ea), (.int (1 : Int32))])) rfl rfl (hb hby d_rm_add1a_33)) ?_
  rw [len_of S_5 M_5]
  show own_G _ _ _ _ (T_4.setTop (mkF m 34 #[.val (.ref q), .val (.ref k), .val (.ref en)] [(.int (16 : Int32)), (.int (1 : Int32))]))
  refine own_G.go (fun t_ k_ => XS.icmpYes X_4.here hx rfl (pc0 := 34) (pc' := 47) rfl (hb hby d_rm_add1a_34) rfl (feq (by decide : ¬ ((1 : Int32) = (16 : Int32)))).2 (by decide) (by decide) k_) ?_
  show own_G _ _ _ _ (T_4.setTop (mkF m 47 #[.val (.ref q), .val (.ref k), .val (.ref en)] []))
  refine own_G.go (fun t_ k_ => XS.aloadN X_4.here hx rfl (hb hby d_rm_add1a_47) rfl rfl k_) ?_
  show own_G _ _ _ _ (T_4.setTop (mkF m 48 #[.val (.ref q), .val (.ref k), .val (.ref en)] [(.ref q)]))
  refine own_G.go (fun t_ k_ => XS.dup X_4.here hx rfl (hb hby d_rm_add1a_48) rfl rfl k_) ?_
  show own_G _ _ _ _ (T_4.setTop (mkF m 49 #[.val (.ref q), .val (.ref k), .val (.ref en)] [(.ref q), (.ref q)]))
  obtain ⟨T_6, X_6, e_6, st_6⟩ := getF X_4 hx hZ hown (host := "") (Or.inl (own_w hw 72 rfl)) Via.refl e_4 Q_S (g := (mkF m 49 #[.val (.ref q), .val (.ref k), .val (.ref en)] [(.ref q), (.ref q)])) rfl rfl (hb hby d_rm_add1a_49)
  refine own_G.go st_6 ?_
  show own_G _ _ _ _ (T_6.setTop (mkF m 52 #[.val (.ref q), .val (.ref k), .val (.ref en)] [(.int (1 : Int32)), (.ref q)]))
  refine own_G.go (fun t_ k_ => XS.iconst X_6.here hx rfl (hb hby d_rm_add1a_52) k_) ?_
  show own_G _ _ _ _ (T_6.setTop (mkF m 53 #[.val (.ref q), .val (.ref k), .val (.ref en)] [(.int (1 : Int32)), (.int (1 : Int32)), (.ref q)]))
  refine own_G.go (fun t_ k_ => XS.iadd X_6.here hx rfl (hb hby d_rm_add1a_53) rfl k_) ?_
  show own_G _ _ _ _ (T_6.setTop (mkF m 54 #[.val (.ref q), .val (.ref k), .val (.ref en)] [(.int (2 : Int32)), (.ref q)]))
  obtain ⟨T_7, h_7, X_7, e_7, W_7, st_7⟩ := putF X_6 hx hZ hown (host := "") (Or.inl (own_w hw 72 rfl)) Via.refl e_6 Q_S Q_E (Or.inl (own_w hw 73 rfl)) (own_w hw 53 rfl) (ty := .int) (by decide) rfl rfl (g := (mkF m 54 #[.val (.ref q), .val (.ref k), .val (.ref en)] [(.int (2 : Int32)), (.ref q)])) rfl rfl (hb hby d_rm_add1a_54)
  refine own_G.go st_7 ?_
  have F_7 : Fld Z h_7 q "com/example/kttl/kttl/keyspace/DeadlineQueue" "size" "I" (.int (2 : Int32)) := Q_S.same W_7
  have N_7 := Fr.snoc X_7 N_1 gq
  show own_G _ _ _ _ (T_7.setTop (mkF m 57 #[.val (.ref q), .val (.ref k), .val (.ref en)] []))
  refine own_G.go (fun t_ k_ => XS.aloadN X_7.here hx rfl (hb hby d_rm_add1a_57) rfl rfl k_) ?_
  show own_G _ _ _ _ (T_7.setTop (mkF m 58 #[.val (.ref q), .val (.ref k), .val (.ref en)] [(.ref q)]))
  refine own_G.go (fun t_ k_ => XS.aloadN X_7.here hx rfl (hb hby d_rm_add1a_58) rfl rfl k_) ?_
  show own_G _ _ _ _ (T_7.setTop (mkF m 59 #[.val (.ref q), .val (.ref k), .val (.ref en)] [(.ref q), (.ref q)]))
  obtain ⟨T_8, X_8, e_8, st_8⟩ := getF X_7 hx hZ hown (host := "") (Or.inl (own_w hw 72 rfl)) Via.refl e_7 F_7 (g := (mkF m 59 #[.val (.ref q), .val (.ref k), .val (.ref en)] [(.ref q), (.ref q)])) rfl rfl (hb hby d_rm_add1a_59)
  refine own_G.go st_8 ?_
  show own_G _ _ _ _ (T_8.setTop (mkF m 62 #[.val (.ref q), .val (.ref k), .val (.ref en)] [(.int (2 : Int32)), (.ref q)]))
  refine own_G.go (fun t_ k_ => XS.iconst X_8.here hx rfl (hb hby d_rm_add1a_62) k_) ?_
  show own_G _ _ _ _ (T_8.setTop (mkF m 63 #[.val (.ref q), .val (.ref k), .val (.ref en)] [(.int (1 : Int32)), (.int (2 : Int32)), (.ref q)]))
  refine own_G.go (fun t_ k_ => XS.isub X_8.here hx rfl (hb hby d_rm_add1a_63) rfl k_) ?_
  show own_G _ _ _ _ (T_8.setTop (mkF m 64 #[.val (.ref q), .val (.ref k), .val (.ref en)] [(.int (1 : Int32)), (.ref q)]))
  refine own_G.go (fun t_ k_ => XS.aloadN X_8.here hx rfl (hb hby d_rm_add1a_64) rfl rfl k_) ?_
  show own_G _ _ _ _ (T_8.setTop (mkF m 65 #[.val (.ref q), .val (.ref k), .val (.ref en)] [(.ref k), (.int (1 : Int32)), (.ref q)]))
  refine own_G.go (fun t_ k_ => XS.aloadN X_8.here hx rfl (hb hby d_rm_add1a_65) rfl rfl k_) ?_
  show own_G _ _ _ _ (T_8.setTop (mkF m 66 #[.val (.ref q), .val (.ref k), .val (.ref en)] [(.ref en), (.ref k), (.int (1 : Int32)), (.ref q)]))
  have Q_E'_9 : Exa Z h_7 q "com/example/kttl/kttl/keyspace/DeadlineQueue" := (Q_E.wr W_7)
  have Q_F'_10 : Fld Z h_7 q "com/example/kttl/kttl/keyspace/DeadlineQueue" "entries" "[Lcom/example/kttl/kttl/keyspace/Entry;" (.ref ea) := (Q_F.other W_7 (Or.inr (slot_ne (C := "com/example/kttl/kttl/keyspace/DeadlineQueue") (Or.inl (own_w hw 62 rfl)) (Or.inl (own_w hw 73 rfl)) (by decide) (by decide : parseFieldDescriptor "[Lcom/example/kttl/kttl/keyspace/Entry;" = some (.array (.object "com/example/kttl/kttl/keyspace/Entry"))) (by decide : parseFieldDescriptor "I" = some .int))))
  have Q_K'_11 : Fld Z h_7 q "com/example/kttl/kttl/keyspace/DeadlineQueue" "keys" "[Lcom/example/kttl/kttl/keyspace/Key;" (.ref ka) := (Q_K.other W_7 (Or.inr (slot_ne (C := "com/example/kttl/kttl/keyspace/DeadlineQueue") (Or.inl (own_w hw 66 rfl)) (Or.inl (own_w hw 73 rfl)) (by decide) (by decide : parseFieldDescriptor "[Lcom/example/kttl/kttl/keyspace/Key;" = some (.array (.object "com/example/kttl/kttl/keyspace/Key"))) (by decide : parseFieldDescriptor "I" = some .int))))
  have X_E'_12 : Exa Z h_7 en "com/example/kttl/kttl/keyspace/Entry" := (X_E.wr W_7)
  have X_S'_13 : Fld Z h_7 en "com/example/kttl/kttl/keyspace/Entry" "slot" "I" (.int (-1 : Int32)) := (X_S.other W_7 (Or.inl (Ne.symm n3)))
  have X_H'_14 : Fld Z h_7 en "com/example/kttl/kttl/keyspace/Entry" "hasDeadline" "Z" (.int (1 : Int32)) := (X_H.other W_7 (Or.inl (Ne.symm n3)))
  have X_D'_15 : Fld Z h_7 en "com/example/kttl/kttl/keyspace/Entry" "deadline" "J" (.long d) := (X_D.other W_7 (Or.inl (Ne.symm n3)))
  have K_E'_16 : Exa Z h_7 k "com/example/kttl/kttl/keyspace/Key" := (K_E.wr W_7)
  have VE'_17 : Arv Z h_7 ea kE (.object "com/example/kttl/kttl/keyspace/Entry") (16 : Int32) ([(.ref x0), .null, .null, .null, .null, .null, .null, .null, .null, .null, .null, .null, .null, .null, .null, .null] : List Value) .null := (VE.other W_7 (Ne.symm n1))
  have VK'_18 : Arv Z h_7 ka kK (.object "com/example/kttl/kttl/keyspace/Key") (16 : Int32) ([(.ref k0), .null, .null, .null, .null, .null, .null, .null, .null, .null, .null, .null, .null, .null, .null, .null] : List Value) .null := (VK.other W_7 (Ne.symm n2))
  have Y_E'_19 : Exa Z h_7 x0 "com/example/kttl/kttl/keyspace/Entry" := (Y_E.wr W_7)
  have Y_S'_20 : Fld Z h_7 x0 "com/example/kttl/kttl/keyspace/Entry" "slot" "I" sl0 := (Y_S.other W_7 (Or.inl (Ne.symm m1)))
  have Y_H'_21 : Fld Z h_7 x0 "com/example/kttl/kttl/keyspace/Entry" "hasDeadline" "Z" (.int (1 : Int32)) := (Y_H.other W_7 (Or.inl (Ne.symm m1)))
  have Y_D'_22 : Fld Z h_7 x0 "com/example/kttl/kttl/keyspace/Entry" "deadline" "J" (.long d0) := (Y_D.other W_7 (Or.inl (Ne.symm m1)))
  have K0_E'_23 : Exa Z h_7 k0 "com/example/kttl/kttl/keyspace/Key" := (K0_E.wr W_7)
  obtain ⟨_, T_24, L_24, Q_24, X_24, st_24⟩ := own_callP X_8 hx hown (mvT hZ (own_w hw 90 rfl)) (mvT hZ (own_w hw 91 rfl)) (mvP hZ (own_w hw 92 rfl)) (mvT hZ (own_w hw 53 rfl)) (mvT hZ (own_w hw 93 rfl)) (by decide) (Q := (Qpl Z ea ka en kE kK d (1 : Int32) ([(.ref x0), (.ref en), .null, .null, .null, .null, .null, .null, .null, .null, .null, .null, .null, .null, .null, .null] : List Value) ([(.ref k0), (.ref k), .null, .null, .null, .null, .null, .null, .null, .null, .null, .null, .null, .null, .null, .null] : List Value) h_7 n0)) (backOf (W := 0) (rm_s1a l Z a0 hw [] q ea ka en k kE kK d (.int (-1 : Int32)) x0 k0 d0 sl0 h_7 n0 (Nat.le_trans Z0 (Keep.of_wr W_7).1) ga gb ge n1 n2 n3 n4 n5 n6 Q_E'_9 Q_F'_10 Q_K'_11 X_E'_12 X_S'_13 X_H'_14 X_D'_15 K_E'_16 VE'_17 VK'_18 OE OKK gx m1 m2 m3 m4 Y_E'_19 Y_S'_20 Y_H'_21 Y_D'_22 K0_E'_23 hdd) hZ (own_w hw 93 rfl) (own_w hw 54 rfl) (by decide) (by decide)) Q_E'_9 (g := (mkF m 66 #[.val (.ref q), .val (.ref k), .val (.ref en)] [(.ref en), (.ref k), (.int (1 : Int32)), (.ref q)])) rfl (by rw [hml]; rfl) (argsL := [(.int (1 : Int32)), (.ref k), (.ref en)]) (rest := []) (lenOf pd_4 rfl) rfl (by show 2 * 0 + _ ≤ _; exact Nat.le_of_eq rfl) (hb hby d_rm_add1a_66) e_8 rfl (by decide) (by decide)
  obtain ⟨rfl, Nq_24, K_24, VE_24, VK_24, Ex_24, Fs_24, Fh_24, Fd_24⟩ := Q_24
  refine own_G.via st_24 ?_
  have N_24 := Fr.app N_7 Nq_24
  show own_G _ _ _ _ (T_24.setTop (mkF m 69 #[.val (.ref q), .val (.ref k), .val (.ref en)] []))
  have Q_E'_25 : Exa Z T_24.heap q "com/example/kttl/kttl/keyspace/DeadlineQueue" := (Q_E'_9.keep K_24)
  have Q_F'_26 : Fld Z T_24.heap q "com/example/kttl/kttl/keyspace/DeadlineQueue" "entries" "[Lcom/example/kttl/kttl/keyspace/Entry;" (.ref ea) := (Q_F'_10.keep K_24 (ninS n1 (ninS n2 (ninS n3 nin0))))
  have Q_K'_27 : Fld Z T_24.heap q "com/example/kttl/kttl/keyspace/DeadlineQueue" "keys" "[Lcom/example/kttl/kttl/keyspace/Key;" (.ref ka) := (Q_K'_11.keep K_24 (ninS n1 (ninS n2 (ninS n3 nin0))))
  have F_7'_28 : Fld Z T_24.heap q "com/example/kttl/kttl/keyspace/DeadlineQueue" "size" "I" (.int (2 : Int32)) := (F_7.keep K_24 (ninS n1 (ninS n2 (ninS n3 nin0))))
  exact own_G.end_ X_24 hlk (v := none) (fun _ => rfl) (fun fs hr => X_24.returnOut hx hrt (hb hby d_rm_add1a_69) hr) rfl ⟨rfl, N_24, (((Keep.refl h0 [q, ea, ka, en]).wr W_7 (Or.inl (List.mem_of_getElem? (i := 0) rfl))).trans K_24 (allS (Or.inl (List.mem_of_getElem? (i := 1) rfl)) (allS (Or.inl (List.mem_of_getElem? (i := 2) rfl)) (allS (Or.inl (List.mem_of_getElem? (i := 3) rfl)) all0)))), VE_24, VK_24, Ex_24, Fs_24, Fh_24, Fd_24, Q_E'_25, Q_F'_26, Q_K'_27, F_7'_28⟩ (by decide) (by decide)
theorem d_rm_add1b_0 : decode prog_15_method_2_code 0 = .ok (.aload_n 2, 1) := by decide +kernel
theorem d_rm_add1b_1 : decode prog_15_method_2_code 1 = .ok (.invokevirtual 21, 3) := by decide +kernel
theorem d_rm_add1b_4 : decode prog_15_method_2_code 4 = .ok (.ifCond .eq 11, 3) := by decide +kernel
theorem d_rm_add1b_7 : decode prog_15_method_2_code 7 = .ok (.aload_n 2, 1) := by decide +kernel
theorem d_rm_add1b_8 : decode prog_15_method_2_code 8 = .ok (.getfield 25, 3) := by decide +kernel
theorem d_rm_add1b_11 : decode prog_15_method_2_code 11 = .ok (.iconst (-1), 1) := by decide +kernel
theorem d_rm_add1b_12 : decode prog_15_method_2_code 12 = .ok (.if_icmp .eq 13, 3) := by decide +kernel
theorem d_rm_add1b_25 : decode prog_15_method_2_code 25 = .ok (.aload_n 0, 1) := by decide +kernel
theorem d_rm_add1b_26 : decode prog_15_method_2_code 26 = .ok (.getfield 36, 3) := by decide +kernel
theorem d_rm_add1b_29 : decode prog_15_method_2_code 29 = .ok (.aload_n 0, 1) := by decide +kernel
theorem d_rm_add1b_30 : decode prog_15_method_2_code 30 = .ok (.getfield 11, 3) := by decide +kernel
theorem d_rm_add1b_33 : decode prog_15_method_2_code 33 = .ok (.arraylength, 1) := by decide +kernel
theorem d_rm_add1b_34 : decode prog_15_method_2_code 34 = .ok (.if_icmp .ne 13, 3) := by decide +kernel
theorem d_rm_add1b_47 : decode prog_15_method_2_code 47 = .ok (.aload_n 0, 1) := by decide +kernel
theorem d_rm_add1b_48 : decode prog_15_method_2_code 48 = .ok (.dup, 1) := by decide +kernel
theorem d_rm_add1b_49 : decode prog_15_method_2_code 49 = .ok (.getfield 36, 3) := by decide +kernel
theorem d_rm_add1b_52 : decode prog_15_method_2_code 52 = .ok (.iconst 1, 1) := by decide +kernel
theorem d_rm_add1b_53 : decode prog_15_method_2_code 53 = .ok (.iadd, 1) := by decide +kernel
theorem d_rm_add1b_54 : decode prog_15_method_2_code 54 = .ok (.putfield 36, 3) := by decide +kernel
theorem d_rm_add1b_57 : decode prog_15_method_2_code 57 = .ok (.aload_n 0, 1) := by decide +kernel
theorem d_rm_add1b_58 : decode prog_15_method_2_code 58 = .ok (.aload_n 0, 1) := by decide +kernel
theorem d_rm_add1b_59 : decode prog_15_method_2_code 59 = .ok (.getfield 36, 3) := by decide +kernel
theorem d_rm_add1b_62 : decode prog_15_method_2_code 62 = .ok (.iconst 1, 1) := by decide +kernel
theorem d_rm_add1b_63 : decode prog_15_method_2_code 63 = .ok (.isub, 1) := by decide +kernel
theorem d_rm_add1b_64 : decode prog_15_method_2_code 64 = .ok (.aload_n 1, 1) := by decide +kernel
theorem d_rm_add1b_65 : decode prog_15_method_2_code 65 = .ok (.aload_n 2, 1) := by decide +kernel
theorem d_rm_add1b_66 : decode prog_15_method_2_code 66 = .ok (.invokevirtual 43, 3) := by decide +kernel
theorem d_rm_add1b_69 : decode prog_15_method_2_code 69 = .ok (.return_, 1) := by decide +kernel
set_option maxRecDepth 65536 in
set_option maxHeartbeats 40000000 in
theorem rm_add1b (l : Launch) (Z : State) (a0 : Array Value) (hw : ∀ d ∈ tables_1, d.before a0 Z = true) (ws : List Jvm.Cond) (q ea ka en k : Addr) (kE kK : ClassId) (d : Int64) (x0 k0 : Addr) (d0 : Int64) (sl0 : Value) (h0 : Heap) (n0 : Nat) (Z0 : n0 ≤ h0.size) (gq : n0 ≤ q) (ga : n0 ≤ ea) (gb : n0 ≤ ka) (ge : n0 ≤ en) (n1 : q ≠ ea) (n2 : q ≠ ka) (n3 : q ≠ en) (n4 : ea ≠ ka) (n5 : en ≠ ea) (n6 : en ≠ ka) (Q_E : Exa Z h0 q "com/example/kttl/kttl/keyspace/DeadlineQueue") (Q_F : Fld Z h0 q "com/example/kttl/kttl/keyspace/DeadlineQueue" "entries" "[Lcom/example/kttl/kttl/keyspace/Entry;" (.ref ea)) (Q_K : Fld Z h0 q "com/example/kttl/kttl/keyspace/DeadlineQueue" "keys" "[Lcom/example/kttl/kttl/keyspace/Key;" (.ref ka)) (X_E : Exa Z h0 en "com/example/kttl/kttl/keyspace/Entry") (X_S : Fld Z h0 en "com/example/kttl/kttl/keyspace/Entry" "slot" "I" (.int (-1 : Int32))) (X_H : Fld Z h0 en "com/example/kttl/kttl/keyspace/Entry" "hasDeadline" "Z" (.int (1 : Int32))) (X_D : Fld Z h0 en "com/example/kttl/kttl/keyspace/Entry" "deadline" "J" (.long d)) (K_E : Exa Z h0 k "com/example/kttl/kttl/keyspace/Key") (VE : Arv Z h0 ea kE (.object "com/example/kttl/kttl/keyspace/Entry") (16 : Int32) ([(.ref x0), .null, .null, .null, .null, .null, .null, .null, .null, .null, .null, .null, .null, .null, .null, .null] : List Value) .null) (VK : Arv Z h0 ka kK (.object "com/example/kttl/kttl/keyspace/Key") (16 : Int32) ([(.ref k0), .null, .null, .null, .null, .null, .null, .null, .null, .null, .null, .null, .null, .null, .null, .null] : List Value) .null) (OE : Ovr Z kE "com/example/kttl/kttl/keyspace/Entry") (OKK : Ovr Z kK "com/example/kttl/kttl/keyspace/Key") (gx : n0 ≤ x0) (m1 : q ≠ x0) (m2 : x0 ≠ ea) (m3 : x0 ≠ ka) (m4 : en ≠ x0) (Y_E : Exa Z h0 x0 "com/example/kttl/kttl/keyspace/Entry") (Y_S : Fld Z h0 x0 "com/example/kttl/kttl/keyspace/Entry" "slot" "I" sl0) (Y_H : Fld Z h0 x0 "com/example/kttl/kttl/keyspace/Entry" "hasDeadline" "Z" (.int (1 : Int32))) (Y_D : Fld Z h0 x0 "com/example/kttl/kttl/keyspace/Entry" "deadline" "J" (.long d0)) (K0_E : Exa Z h0 k0 "com/example/kttl/kttl/keyspace/Key") (hdd : d < d0) (Q_S : Fld Z h0 q "com/example/kttl/kttl/keyspace/DeadlineQueue" "size" "I" (.int (1 : Int32))) :
    MetFree l (⟨"com/example/kttl/kttl/keyspace/DeadlineQueue", "add", "(Lcom/example/kttl/kttl/keyspace/Key;Lcom/example/kttl/kttl/keyspace/Entry;)V"⟩ : MethodName) (head1 (Jvm.Cond.code (⟨"com/example/kttl/kttl/keyspace/DeadlineQueue", "add", "(Lcom/example/kttl/kttl/keyspace/Key;Lcom/example/kttl/kttl/keyspace/Entry;)V"⟩ : MethodName) prog_15_method_2_code 3 none :: ws) ({ frames := 2, cells := 0, slots := 0, locals := 34 } : Room)) (fun a_ U => a_ = #[(.ref q), (.ref k), (.ref en)] ∧ Z.Warmed39 U.vm ∧ U.heap = h0) (fun _ _ _ _ _ => True) (fun _ U o U' => ∃ v L, o = .returned v ∧ Qadw Z q ea ka en x0 kE kK d d0 ([(.ref en), (.ref x0), .null, .null, .null, .null, .null, .null, .null, .null, .null, .null, .null, .null, .null, .null] : List Value) ([(.ref k), (.ref k0), .null, .null, .null, .null, .null, .null, .null, .null, .null, .null, .null, .null, .null, .null] : List Value) h0 n0 v U'.heap L ∧ FrameEnd U o U' L ({ frames := 2, cells := 0, slots := 0, locals := 34 } : Room).cells ({ frames := 2, cells := 0, slots := 0, locals := 34 } : Room).slots) := by
  refine MetFree.of_bodySF (plainFor_of_name pn_2) hisR ?_
  intro p e s m args below meth c s₁ Bd hml0 hP hK
  obtain ⟨rfl, hZ, hh⟩ := hP
  have hx := Bd.exec
  have hby := Bd.bytes
  have hrt := Bd.returns
  have hlk : meth.locks = false := Bd.notSynchronized
  have hml : c.maxLocals = 3 := hml0
  have hown : s.vm.findClass "com/example/kttl/kttl/keyspace/DeadlineQueue" = some m.cls := findClass_of_methodNamed Bd.named
  have hnm := (name_of_methodNamed Bd.named Bd.method).1
  have X0 : Stand p l e ({ frames := 2, cells := 0, slots := 0, locals := 34 } : Room) s m #[(.ref q), (.ref k), (.ref en)] below meth c s₁ [] 0 0 := Stand.of_body Bd
  have e0 : s₁.heap = h0 := by rw [← hh, Bd.state]; rfl
  have N0 := Fr.nil n0
  show own_G p.tables e below (fun o t => ∃ v L, o = .returned v ∧ Qadw Z q ea ka en x0 kE kK d d0 ([(.ref en), (.ref x0), .null, .null, .null, .null, .null, .null, .null, .null, .null, .null, .null, .null, .null, .null] : List Value) ([(.ref k), (.ref k0), .null, .null, .null, .null, .null, .null, .null, .null, .null, .null, .null, .null, .null, .null] : List Value) h0 n0 v t.heap L ∧ FrameEnd s o t L ({ frames := 2, cells := 0, slots := 0, locals := 34 } : Room).cells ({ frames := 2, cells := 0, slots := 0, locals := 34 } : Room).slots) (s₁.setTop (entryFrame m #[(.ref q), (.ref k), (.ref en)] 3))
  refine own_G.cast (show entryFrame m #[(.ref q), (.ref k), (.ref en)] 3 = mkF m 0 #[.val (.ref q), .val (.ref k), .val (.ref en)] [] from by first | (simp [entryFrame, mkF, argsToLocals, Value.category]; done) | rfl) ?_
  refine own_G.go (fun t_ k_ => XS.aloadN X0.here hx rfl (hb hby d_rm_add1b_0) rfl rfl k_) ?_
  show own_G _ _ _ _ (s₁.setTop (mkF m 1 #[.val (.ref q), .val (.ref k), .val (.ref en)] [(.ref en)]))
  obtain ⟨cq_1, kq_1, q_1a, q_1b, q_1c⟩ := isOf hZ e0 X_E
  obtain ⟨_, T_1, L_1, Q_1, X_1, st_1⟩ := own_callV X0 hx (z := (⟨"com/example/kttl/kttl/keyspace/Entry", "hasDeadline", "()Z"⟩ : MethodName)) hown (mvT hZ (own_w hw 84 rfl)) (mvT hZ (own_w hw 85 rfl)) (notFace_of_selects (args := #[]) (mvT hZ (own_w hw 87 rfl))) (mvT hZ (own_w hw 87 rfl)) (mvT hZ (own_w hw 86 rfl)) (by decide) (Q := (Qp (.int (1 : Int32)) h0)) (backOf (W := 0) (rm_hd l Z a0 hw [] en h0 n0 Z0 X_H) hZ (own_w hw 88 rfl) (own_w hw 20 rfl) (by decide) (by decide)) q_1a q_1c (g := (mkF m 1 #[.val (.ref q), .val (.ref k), .val (.ref en)] [(.ref en)])) rfl (by rw [hml]; rfl) (argsL := []) (rest := []) (lenOf pd_6 rfl) rfl (by show 2 * 0 + _ ≤ _; exact Nat.le_of_eq rfl) (hb hby d_rm_add1b_1) e0 rfl (by decide) (by decide)
  obtain ⟨rfl, rfl, eh_1⟩ := Q_1
  refine own_G.via st_1 ?_
  have N_1 := Fr.app N0 (Fr.nil n0)
  show own_G _ _ _ _ (T_1.setTop (mkF m 4 #[.val (.ref q), .val (.ref k), .val (.ref en)] [(.int (1 : Int32))]))
  refine own_G.go (fun t_ k_ => XS.ifNo X_1.here hx rfl (hb hby d_rm_add1b_4) rfl ((if0 _ _).trans (feq (by decide : ¬ ((1 : Int32) = (0 : Int32)))).1) k_) ?_
  show own_G _ _ _ _ (T_1.setTop (mkF m 7 #[.val (.ref q), .val (.ref k), .val (.ref en)] []))
  refine own_G.go (fun t_ k_ => XS.aloadN X_1.here hx rfl (hb hby d_rm_add1b_7) rfl rfl k_) ?_
  show own_G _ _ _ _ (T_1.setTop (mkF m 8 #[.val (.ref q), .val (.ref k), .val (.ref en)] [(.ref en)]))
  obtain ⟨T_2, X_2, e_2, st_2⟩ := getF X_1 hx hZ hown (host := "") (Or.inl (own_w hw 89 rfl)) Via.refl eh_1 X_S (g := (mkF m 8 #[.val (.ref q), .val (.ref k), .val (.ref en)] [(.ref en)])) rfl rfl (hb hby d_rm_add1b_8)
  refine own_G.go st_2 ?_
  show own_G _ _ _ _ (T_2.setTop (mkF m 11 #[.val (.ref q), .val (.ref k), .val (.ref en)] [(.int (-1 : Int32))]))
  refine own_G.go (fun t_ k_ => XS.iconst X_2.here hx rfl (hb hby d_rm_add1b_11) k_) ?_
  show own_G _ _ _ _ (T_2.setTop (mkF m 12 #[.val (.ref q), .val (.ref k), .val (.ref en)] [(.int (-1 : Int32)), (.int (-1 : Int32))]))
  refine own_G.go (fun t_ k_ => XS.icmpYes X_2.here hx rfl (pc0 := 12) (pc' := 25) rfl (hb hby d_rm_add1b_12) rfl (teq (by decide : (-1 : Int32) = (-1 : Int32))).1 (by decide) (by decide) k_) ?_
  show own_G _ _ _ _ (T_2.setTop (mkF m 25 #[.val (.ref q), .val (.ref k), .val (.ref en)] []))
  refine own_G.go (fun t_ k_ => XS.aloadN X_2.here hx rfl (hb hby d_rm_add1b_25) rfl rfl k_) ?_
  show own_G _ _ _ _ (T_2.setTop (mkF m 26 #[.val (.ref q), .val (.ref k), .val (.ref en)] [(.ref q)]))
  obtain ⟨T_3, X_3, e_3, st_3⟩ := getF X_2 hx hZ hown (host := "") (Or.inl (own_w hw 72 rfl)) Via.refl e_2 Q_S (g := (mkF m 26 #[.val (.ref q), .val (.ref k), .val (.ref en)] [(.ref q)])) rfl rfl (hb hby d_rm_add1b_26)
  refine own_G.go st_3 ?_
  show own_G _ _ _ _ (T_3.setTop (mkF m 29 #[.val (.ref q), .val (.ref k), .val (.ref en)] [(.int (1 : Int32))]))
  refine own_G.go (fun t_ k_ => XS.aloadN X_3.here hx rfl (hb hby d_rm_add1b_29) rfl rfl k_) ?_
  show own_G _ _ _ _ (T_3.setTop (mkF m 30 #[.val (.ref q), .val (.ref k), .val (.ref en)] [(.ref q), (.int (1 : Int32))]))
  obtain ⟨T_4, X_4, e_4, st_4⟩ := getF X_3 hx hZ hown (host := "") (Or.inl (own_w hw 61 rfl)) Via.refl e_3 Q_F (g := (mkF m 30 #[.val (.ref q), .val (.ref k), .val (.ref en)] [(.ref q), (.int (1 : Int32))])) rfl rfl (hb hby d_rm_add1b_30)
  refine own_G.go st_4 ?_
  show own_G _ _ _ _ (T_4.setTop (mkF m 33 #[.val (.ref q), .val (.ref k), .val (.ref en)] [(.ref ea), (.int (1 : Int32))]))
  obtain ⟨cel_5, A_5, -, S_5, M_5, -, -⟩ := id VE
  refine own_G.go (X_4.arraylength hx (by rw [e_4]; exact A_5.1) (State.isArrayOf_alike hZ.alike A_5.2.1) (g := (mkF m 33 #[.val (.ref q), .val (.ref k), .val (.ref en)] [(.ref ea), (.int (1 : Int32))])) rfl rfl (hb hby d_rm_add1b_33)) ?_
  rw [len_of S_5 M_5]
  show own_G _ _ _ _ (T_4.setTop (mkF m 34 #[.val (.ref q), .val (.ref k), .val (.ref en)] [(.int (16 : Int32)), (.int (1 : Int32))]))
  refine own_G.go (fun t_ k_ => XS.icmpYes X_4.here hx rfl (pc0 := 34) (pc' := 47) rfl (hb hby d_rm_add1b_34) rfl (feq (by decide : ¬ ((1 : Int32) = (16 : Int32)))).2 (by decide) (by decide) k_) ?_
  show own_G _ _ _ _ (T_4.setTop (mkF m 47 #[.val (.ref q), .val (.ref k), .val (.ref en)] []))
  refine own_G.go (fun t_ k_ => XS.aloadN X_4.here hx rfl (hb hby d_rm_add1b_47) rfl rfl k_) ?_
  show own_G _ _ _ _ (T_4.setTop (mkF m 48 #[.val (.ref q), .val (.ref k), .val (.ref en)] [(.ref q)]))
  refine own_G.go (fun t_ k_ => XS.dup X_4.here hx rfl (hb hby d_rm_add1b_48) rfl rfl k_) ?_
  show own_G _ _ _ _ (T_4.setTop (mkF m 49 #[.val (.ref q), .val (.ref k), .val (.ref en)] [(.ref q), (.ref q)]))
  obtain ⟨T_6, X_6, e_6, st_6⟩ := getF X_4 hx hZ hown (host := "") (Or.inl (own_w hw 72 rfl)) Via.refl e_4 Q_S (g := (mkF m 49 #[.val (.ref q), .val (.ref k), .val (.ref en)] [(.ref q), (.ref q)])) rfl rfl (hb hby d_rm_add1b_49)
  refine own_G.go st_6 ?_
  show own_G _ _ _ _ (T_6.setTop (mkF m 52 #[.val (.ref q), .val (.ref k), .val (.ref en)] [(.int (1 : Int32)), (.ref q)]))
  refine own_G.go (fun t_ k_ => XS.iconst X_6.here hx rfl (hb hby d_rm_add1b_52) k_) ?_
  show own_G _ _ _ _ (T_6.setTop (mkF m 53 #[.val (.ref q), .val (.ref k), .val (.ref en)] [(.int (1 : Int32)), (.int (1 : Int32)), (.ref q)]))
  refine own_G.go (fun t_ k_ => XS.iadd X_6.here hx rfl (hb hby d_rm_add1b_53) rfl k_) ?_
  show own_G _ _ _ _ (T_6.setTop (mkF m 54 #[.val (.ref q), .val (.ref k), .val (.ref en)] [(.int (2 : Int32)), (.ref q)]))
  obtain ⟨T_7, h_7, X_7, e_7, W_7, st_7⟩ := putF X_6 hx hZ hown (host := "") (Or.inl (own_w hw 72 rfl)) Via.refl e_6 Q_S Q_E (Or.inl (own_w hw 73 rfl)) (own_w hw 53 rfl) (ty := .int) (by decide) rfl rfl (g := (mkF m 54 #[.val (.ref q), .val (.ref k), .val (.ref en)] [(.int (2 : Int32)), (.ref q)])) rfl rfl (hb hby d_rm_add1b_54)
  refine own_G.go st_7 ?_
  have F_7 : Fld Z h_7 q "com/example/kttl/kttl/keyspace/DeadlineQueue" "size" "I" (.int (2 : Int32)) := Q_S.same W_7
  have N_7 := Fr.snoc X_7 N_1 gq
  show own_G _ _ _ _ (T_7.setTop (mkF m 57 #[.val (.ref q), .val (.ref k), .val (.ref en)] []))
  refine own_G.go (fun t_ k_ => XS.aloadN X_7.here hx rfl (hb hby d_rm_add1b_57) rfl rfl k_) ?_
  show own_G _ _ _ _ (T_7.setTop (mkF m 58 #[.val (.ref q), .val (.ref k), .val (.ref en)] [(.ref q)]))
  refine own_G.go (fun t_ k_ => XS.aloadN X_7.here hx rfl (hb hby d_rm_add1b_58) rfl rfl k_) ?_
  show own_G _ _ _ _ (T_7.setTop (mkF m 59 #[.val (.ref q), .val (.ref k), .val (.ref en)] [(.ref q), (.ref q)]))
  obtain ⟨T_8, X_8, e_8, st_8⟩ := getF X_7 hx hZ hown (host := "") (Or.inl (own_w hw 72 rfl)) Via.refl e_7 F_7 (g := (mkF m 59 #[.val (.ref q), .val (.ref k), .val (.ref en)] [(.ref q), (.ref q)])) rfl rfl (hb hby d_rm_add1b_59)
  refine own_G.go st_8 ?_
  show own_G _ _ _ _ (T_8.setTop (mkF m 62 #[.val (.ref q), .val (.ref k), .val (.ref en)] [(.int (2 : Int32)), (.ref q)]))
  refine own_G.go (fun t_ k_ => XS.iconst X_8.here hx rfl (hb hby d_rm_add1b_62) k_) ?_
  show own_G _ _ _ _ (T_8.setTop (mkF m 63 #[.val (.ref q), .val (.ref k), .val (.ref en)] [(.int (1 : Int32)), (.int (2 : Int32)), (.ref q)]))
  refine own_G.go (fun t_ k_ => XS.isub X_8.here hx rfl (hb hby d_rm_add1b_63) rfl k_) ?_
  show own_G _ _ _ _ (T_8.setTop (mkF m 64 #[.val (.ref q), .val (.ref k), .val (.ref en)] [(.int (1 : Int32)), (.ref q)]))
  refine own_G.go (fun t_ k_ => XS.aloadN X_8.here hx rfl (hb hby d_rm_add1b_64) rfl rfl k_) ?_
  show own_G _ _ _ _ (T_8.setTop (mkF m 65 #[.val (.ref q), .val (.ref k), .val (.ref en)] [(.ref k), (.int (1 : Int32)), (.ref q)]))
  refine own_G.go (fun t_ k_ => XS.aloadN X_8.here hx rfl (hb hby d_rm_add1b_65) rfl rfl k_) ?_
  show own_G _ _ _ _ (T_8.setTop (mkF m 66 #[.val (.ref q), .val (.ref k), .val (.ref en)] [(.ref en), (.ref k), (.int (1 : Int32)), (.ref q)]))
  have Q_E'_9 : Exa Z h_7 q "com/example/kttl/kttl/keyspace/DeadlineQueue" := (Q_E.wr W_7)
  have Q_F'_10 : Fld Z h_7 q "com/example/kttl/kttl/keyspace/DeadlineQueue" "entries" "[Lcom/example/kttl/kttl/keyspace/Entry;" (.ref ea) := (Q_F.other W_7 (Or.inr (slot_ne (C := "com/example/kttl/kttl/keyspace/DeadlineQueue") (Or.inl (own_w hw 62 rfl)) (Or.inl (own_w hw 73 rfl)) (by decide) (by decide : parseFieldDescriptor "[Lcom/example/kttl/kttl/keyspace/Entry;" = some (.array (.object "com/example/kttl/kttl/keyspace/Entry"))) (by decide : parseFieldDescriptor "I" = some .int))))
  have Q_K'_11 : Fld Z h_7 q "com/example/kttl/kttl/keyspace/DeadlineQueue" "keys" "[Lcom/example/kttl/kttl/keyspace/Key;" (.ref ka) := (Q_K.other W_7 (Or.inr (slot_ne (C := "com/example/kttl/kttl/keyspace/DeadlineQueue") (Or.inl (own_w hw 66 rfl)) (Or.inl (own_w hw 73 rfl)) (by decide) (by decide : parseFieldDescriptor "[Lcom/example/kttl/kttl/keyspace/Key;" = some (.array (.object "com/example/kttl/kttl/keyspace/Key"))) (by decide : parseFieldDescriptor "I" = some .int))))
  have X_E'_12 : Exa Z h_7 en "com/example/kttl/kttl/keyspace/Entry" := (X_E.wr W_7)
  have X_S'_13 : Fld Z h_7 en "com/example/kttl/kttl/keyspace/Entry" "slot" "I" (.int (-1 : Int32)) := (X_S.other W_7 (Or.inl (Ne.symm n3)))
  have X_H'_14 : Fld Z h_7 en "com/example/kttl/kttl/keyspace/Entry" "hasDeadline" "Z" (.int (1 : Int32)) := (X_H.other W_7 (Or.inl (Ne.symm n3)))
  have X_D'_15 : Fld Z h_7 en "com/example/kttl/kttl/keyspace/Entry" "deadline" "J" (.long d) := (X_D.other W_7 (Or.inl (Ne.symm n3)))
  have K_E'_16 : Exa Z h_7 k "com/example/kttl/kttl/keyspace/Key" := (K_E.wr W_7)
  have VE'_17 : Arv Z h_7 ea kE (.object "com/example/kttl/kttl/keyspace/Entry") (16 : Int32) ([(.ref x0), .null, .null, .null, .null, .null, .null, .null, .null, .null, .null, .null, .null, .null, .null, .null] : List Value) .null := (VE.other W_7 (Ne.symm n1))
  have VK'_18 : Arv Z h_7 ka kK (.object "com/example/kttl/kttl/keyspace/Key") (16 : Int32) ([(.ref k0), .null, .null, .null, .null, .null, .null, .null, .null, .null, .null, .null, .null, .null, .null, .null] : List Value) .null := (VK.other W_7 (Ne.symm n2))
  have Y_E'_19 : Exa Z h_7 x0 "com/example/kttl/kttl/keyspace/Entry" := (Y_E.wr W_7)
  have Y_S'_20 : Fld Z h_7 x0 "com/example/kttl/kttl/keyspace/Entry" "slot" "I" sl0 := (Y_S.other W_7 (Or.inl (Ne.symm m1)))
  have Y_H'_21 : Fld Z h_7 x0 "com/example/kttl/kttl/keyspace/Entry" "hasDeadline" "Z" (.int (1 : Int32)) := (Y_H.other W_7 (Or.inl (Ne.symm m1)))
  have Y_D'_22 : Fld Z h_7 x0 "com/example/kttl/kttl/keyspace/Entry" "deadline" "J" (.long d0) := (Y_D.other W_7 (Or.inl (Ne.symm m1)))
  have K0_E'_23 : Exa Z h_7 k0 "com/example/kttl/kttl/keyspace/Key" := (K0_E.wr W_7)
  obtain ⟨_, T_24, L_24, Q_24, X_24, st_24⟩ := own_callP X_8 hx hown (mvT hZ (own_w hw 90 rfl)) (mvT hZ (own_w hw 91 rfl)) (mvP hZ (own_w hw 92 rfl)) (mvT hZ (own_w hw 53 rfl)) (mvT hZ (own_w hw 93 rfl)) (by decide) (Q := (Qsw Z ea ka en x0 kE kK d d0 ([(.ref en), (.ref x0), .null, .null, .null, .null, .null, .null, .null, .null, .null, .null, .null, .null, .null, .null] : List Value) ([(.ref k), (.ref k0), .null, .null, .null, .null, .null, .null, .null, .null, .null, .null, .null, .null, .null, .null] : List Value) h_7 n0)) (backOf (W := 0) (rm_s1b l Z a0 hw [] q ea ka en k kE kK d (.int (-1 : Int32)) x0 k0 d0 sl0 h_7 n0 (Nat.le_trans Z0 (Keep.of_wr W_7).1) ga gb ge n1 n2 n3 n4 n5 n6 Q_E'_9 Q_F'_10 Q_K'_11 X_E'_12 X_S'_13 X_H'_14 X_D'_15 K_E'_16 VE'_17 VK'_18 OE OKK gx m1 m2 m3 m4 Y_E'_19 Y_S'_20 Y_H'_21 Y_D'_22 K0_E'_23 hdd) hZ (own_w hw 93 rfl) (own_w hw 54 rfl) (by decide) (by decide)) Q_E'_9 (g := (mkF m 66 #[.val (.ref q), .val (.ref k), .val (.ref en)] [(.ref en), (.ref k), (.int (1 : Int32)), (.ref q)])) rfl (by rw [hml]; rfl) (argsL := [(.int (1 : Int32)), (.ref k), (.ref en)]) (rest := []) (lenOf pd_4 rfl) rfl (by show 2 * 0 + _ ≤ _; exact Nat.le_of_eq rfl) (hb hby d_rm_add1b_66) e_8 rfl (by decide) (by decide)
  obtain ⟨rfl, Nq_24, K_24, VE_24, VK_24, Ex_24, Fs_24, Fh_24, Fd_24, Ey_24, Gs_24, Gh_24, Gd_24⟩ := Q_24
  refine own_G.via st_24 ?_
  have N_24 := Fr.app N_7 Nq_24
  show own_G _ _ _ _ (T_24.setTop (mkF m 69 #[.val (.ref q), .val (.ref k), .val (.ref en)] []))
  have Q_E'_25 : Exa Z T_24.heap q "com/example/kttl/kttl/keyspace/DeadlineQueue" := (Q_E'_9.keep K_24)
  have Q_F'_26 : Fld Z T_24.heap q "com/example/kttl/kttl/keyspace/DeadlineQueue" "entries" "[Lcom/example/kttl/kttl/keyspace/Entry;" (.ref ea) := (Q_F'_10.keep K_24 (ninS n1 (ninS n2 (ninS n3 (ninS m1 nin0)))))
  have Q_K'_27 : Fld Z T_24.heap q "com/example/kttl/kttl/keyspace/DeadlineQueue" "keys" "[Lcom/example/kttl/kttl/keyspace/Key;" (.ref ka) := (Q_K'_11.keep K_24 (ninS n1 (ninS n2 (ninS n3 (ninS m1 nin0)))))
  have F_7'_28 : Fld Z T_24.heap q "com/example/kttl/kttl/keyspace/DeadlineQueue" "size" "I" (.int (2 : Int32)) := (F_7.keep K_24 (ninS n1 (ninS n2 (ninS n3 (ninS m1 nin0)))))
  exact own_G.end_ X_24 hlk (v := none) (fun _ => rfl) (fun fs hr => X_24.returnOut hx hrt (hb hby d_rm_add1b_69) hr) rfl ⟨rfl, N_24, (((Keep.refl h0 [q, ea, ka, en, x0]).wr W_7 (Or.inl (List.mem_of_getElem? (i := 0) rfl))).trans K_24 (allS (Or.inl (List.mem_of_getElem? (i := 1) rfl)) (allS (Or.inl (List.mem_of_getElem? (i := 2) rfl)) (allS (Or.inl (List.mem_of_getElem? (i := 3) rfl)) (allS (Or.inl (List.mem_of_getElem? (i := 4) rfl)) all0))))), VE_24, VK_24, Ex_24, Fs_24, Fh_24, Fd_24, Ey_24, Gs_24, Gh_24, Gd_24, Q_E'_25, Q_F'_26, Q_K'_27, F_7'_28⟩ (by decide) (by decide)
theorem d_rm_ed_0 : decode prog_15_method_6_code 0 = .ok (.aload_n 0, 1) := by decide +kernel
theorem d_rm_ed_1 : decode prog_15_method_6_code 1 = .ok (.getfield 11, 3) := by decide +kernel
theorem d_rm_ed_4 : decode prog_15_method_6_code 4 = .ok (.iconst 0, 1) := by decide +kernel
theorem d_rm_ed_5 : decode prog_15_method_6_code 5 = .ok (.aaload, 1) := by decide +kernel
theorem d_rm_ed_6 : decode prog_15_method_6_code 6 = .ok (.invokevirtual 49, 3) := by decide +kernel
theorem d_rm_ed_9 : decode prog_15_method_6_code 9 = .ok (.lreturn, 1) := by decide +kernel
set_option maxRecDepth 65536 in
set_option maxHeartbeats 40000000 in
theorem rm_ed (l : Launch) (Z : State) (a0 : Array Value) (hw : ∀ d ∈ tables_1, d.before a0 Z = true) (ws : List Jvm.Cond) (q ea x0 x1 : Addr) (kE : ClassId) (d : Int64) (h0 : Heap) (n0 : Nat) (Z0 : n0 ≤ h0.size) (Q_F : Fld Z h0 q "com/example/kttl/kttl/keyspace/DeadlineQueue" "entries" "[Lcom/example/kttl/kttl/keyspace/Entry;" (.ref ea)) (VE : Arv Z h0 ea kE (.object "com/example/kttl/kttl/keyspace/Entry") (16 : Int32) ([(.ref x0), (.ref x1), .null, .null, .null, .null, .null, .null, .null, .null, .null, .null, .null, .null, .null, .null] : List Value) .null) (X_E : Exa Z h0 x0 "com/example/kttl/kttl/keyspace/Entry") (X_H : Fld Z h0 x0 "com/example/kttl/kttl/keyspace/Entry" "hasDeadline" "Z" (.int (1 : Int32))) (X_D : Fld Z h0 x0 "com/example/kttl/kttl/keyspace/Entry" "deadline" "J" (.long d)) :
    MetFree l (⟨"com/example/kttl/kttl/keyspace/DeadlineQueue", "earliestDeadline", "()J"⟩ : MethodName) (head1 (Jvm.Cond.code (⟨"com/example/kttl/kttl/keyspace/DeadlineQueue", "earliestDeadline", "()J"⟩ : MethodName) prog_15_method_6_code 1 (some .long) :: ws) ({ frames := 1, cells := 0, slots := 0, locals := 12 } : Room)) (fun a_ U => a_ = #[(.ref q)] ∧ Z.Warmed39 U.vm ∧ U.heap = h0) (fun _ _ _ _ _ => True) (fun _ U o U' => ∃ v L, o = .returned v ∧ Qp (.long d) h0 v U'.heap L ∧ FrameEnd U o U' L ({ frames := 1, cells := 0, slots := 0, locals := 12 } : Room).cells ({ frames := 1, cells := 0, slots := 0, locals := 12 } : Room).slots) := by
  refine MetFree.of_bodySF (plainFor_of_name pn_2) hisR ?_
  intro p e s m args below meth c s₁ Bd hml0 hP hK
  obtain ⟨rfl, hZ, hh⟩ := hP
  have hx := Bd.exec
  have hby := Bd.bytes
  have hrt := Bd.returns
  have hlk : meth.locks = false := Bd.notSynchronized
  have hml : c.maxLocals = 1 := hml0
  have hown : s.vm.findClass "com/example/kttl/kttl/keyspace/DeadlineQueue" = some m.cls := findClass_of_methodNamed Bd.named
  have hnm := (name_of_methodNamed Bd.named Bd.method).1
  have X0 : Stand p l e ({ frames := 1, cells := 0, slots := 0, locals := 12 } : Room) s m #[(.ref q)] below meth c s₁ [] 0 0 := Stand.of_body Bd
  have e0 : s₁.heap = h0 := by rw [← hh, Bd.state]; rfl
  have N0 := Fr.nil n0
  show own_G p.tables e below (fun o t => ∃ v L, o = .returned v ∧ Qp (.long d) h0 v t.heap L ∧ FrameEnd s o t L ({ frames := 1, cells := 0, slots := 0, locals := 12 } : Room).cells ({ frames := 1, cells := 0, slots := 0, locals := 12 } : Room).slots) (s₁.setTop (entryFrame m #[(.ref q)] 1))
  refine own_G.cast (show entryFrame m #[(.ref q)] 1 = mkF m 0 #[.val (.ref q)] [] from by first | (simp [entryFrame, mkF, argsToLocals, Value.category]; done) | rfl) ?_
  refine own_G.go (fun t_ k_ => XS.aloadN X0.here hx rfl (hb hby d_rm_ed_0) rfl rfl k_) ?_
  show own_G _ _ _ _ (s₁.setTop (mkF m 1 #[.val (.ref q)] [(.ref q)]))
  obtain ⟨T_1, X_1, e_1, st_1⟩ := getF X0 hx hZ hown (host := "") (Or.inl (own_w hw 61 rfl)) Via.refl e0 Q_F (g := (mkF m 1 #[.val (.ref q)] [(.ref q)])) rfl rfl (hb hby d_rm_ed_1)
  refine own_G.go st_1 ?_
  show own_G _ _ _ _ (T_1.setTop (mkF m 4 #[.val (.ref q)] [(.ref ea)]))
  refine own_G.go (fun t_ k_ => XS.iconst X_1.here hx rfl (hb hby d_rm_ed_4) k_) ?_
  show own_G _ _ _ _ (T_1.setTop (mkF m 5 #[.val (.ref q)] [(.int (0 : Int32)), (.ref ea)]))
  obtain ⟨cel_2, A_2, -, S_2, M_2, H_2, -⟩ := id VE
  have I_2 : ¬ ((0 : Int32) < 0 ∨ cel_2.slots.size ≤ ((0 : Int32)).toNatClampNeg) := inb_of S_2 ⟨(by decide), (by decide : (0 : Int32) < (16 : Int32))⟩
  refine own_G.go (X_1.aaload hx (j := (0 : Int32)) (v := (.ref x0)) (by rw [e_1]; exact A_2.1) (State.isArrayOf_alike hZ.alike A_2.2.1) rfl A_2.2.2 I_2 (H_2.at I_2 rfl) (g := (mkF m 5 #[.val (.ref q)] [(.int (0 : Int32)), (.ref ea)])) rfl rfl (hb hby d_rm_ed_5)) ?_
  show own_G _ _ _ _ (T_1.setTop (mkF m 6 #[.val (.ref q)] [(.ref x0)]))
  obtain ⟨cq_3, kq_3, q_3a, q_3b, q_3c⟩ := isOf hZ e_1 X_E
  obtain ⟨_, T_3, L_3, Q_3, X_3, st_3⟩ := own_callV X_1 hx (z := (⟨"com/example/kttl/kttl/keyspace/Entry", "deadline", "()J"⟩ : MethodName)) hown (mvT hZ (own_w hw 100 rfl)) (mvT hZ (own_w hw 101 rfl)) (notFace_of_selects (args := #[]) (mvT hZ (own_w hw 103 rfl))) (mvT hZ (own_w hw 103 rfl)) (mvT hZ (own_w hw 102 rfl)) (by decide) (Q := (Qp (.long d) h0)) (backOf (W := 0) (rm_dl l Z a0 hw [] x0 d h0 n0 Z0 X_H X_D) hZ (own_w hw 104 rfl) (own_w hw 20 rfl) (by decide) (by decide)) q_3a q_3c (g := (mkF m 6 #[.val (.ref q)] [(.ref x0)])) rfl (by rw [hml]; rfl) (argsL := []) (rest := []) (lenOf pd_5 rfl) rfl (by show 2 * 0 + _ ≤ _; exact Nat.le_of_eq rfl) (hb hby d_rm_ed_6) e_1 rfl (by decide) (by decide)
  obtain ⟨rfl, rfl, eh_3⟩ := Q_3
  refine own_G.via st_3 ?_
  have N_3 := Fr.app N0 (Fr.nil n0)
  show own_G _ _ _ _ (T_3.setTop (mkF m 9 #[.val (.ref q)] [(.long d)]))
  exact own_G.end_ X_3 hlk (v := (some (.long d))) (fun h => by rw [hrt] at h; cases h) (fun fs hr => retOut X_3 hx hrt rfl (Or.inr (Or.inl ⟨rfl, rfl, _, rfl⟩)) (hb hby d_rm_ed_9) hr) eh_3 ⟨rfl, rfl, rfl⟩ (by decide) (by decide)
theorem d_rm_ek_0 : decode prog_15_method_5_code 0 = .ok (.aload_n 0, 1) := by decide +kernel
theorem d_rm_ek_1 : decode prog_15_method_5_code 1 = .ok (.getfield 17, 3) := by decide +kernel
theorem d_rm_ek_4 : decode prog_15_method_5_code 4 = .ok (.iconst 0, 1) := by decide +kernel
theorem d_rm_ek_5 : decode prog_15_method_5_code 5 = .ok (.aaload, 1) := by decide +kernel
theorem d_rm_ek_6 : decode prog_15_method_5_code 6 = .ok (.areturn, 1) := by decide +kernel
set_option maxRecDepth 65536 in
set_option maxHeartbeats 40000000 in
theorem rm_ek (l : Launch) (Z : State) (a0 : Array Value) (hw : ∀ d ∈ tables_1, d.before a0 Z = true) (ws : List Jvm.Cond) (q ka k0 k1 : Addr) (kK : ClassId) (h0 : Heap) (n0 : Nat) (Z0 : n0 ≤ h0.size) (Q_K : Fld Z h0 q "com/example/kttl/kttl/keyspace/DeadlineQueue" "keys" "[Lcom/example/kttl/kttl/keyspace/Key;" (.ref ka)) (VK : Arv Z h0 ka kK (.object "com/example/kttl/kttl/keyspace/Key") (16 : Int32) ([(.ref k0), (.ref k1), .null, .null, .null, .null, .null, .null, .null, .null, .null, .null, .null, .null, .null, .null] : List Value) .null) :
    MetFree l (⟨"com/example/kttl/kttl/keyspace/DeadlineQueue", "earliestKey", "()Lcom/example/kttl/kttl/keyspace/Key;"⟩ : MethodName) (head1 (Jvm.Cond.code (⟨"com/example/kttl/kttl/keyspace/DeadlineQueue", "earliestKey", "()Lcom/example/kttl/kttl/keyspace/Key;"⟩ : MethodName) prog_15_method_5_code 1 (some (.object "com/example/kttl/kttl/keyspace/Key")) :: ws) ({ frames := 0, cells := 0, slots := 0, locals := 0 } : Room)) (fun a_ U => a_ = #[(.ref q)] ∧ Z.Warmed39 U.vm ∧ U.heap = h0) (fun _ _ _ _ _ => True) (fun _ U o U' => ∃ v L, o = .returned v ∧ Qp (.ref k0) h0 v U'.heap L ∧ FrameEnd U o U' L ({ frames := 0, cells := 0, slots := 0, locals := 0 } : Room).cells ({ frames := 0, cells := 0, slots := 0, locals := 0 } : Room).slots) := by
  refine MetFree.of_bodySF (plainFor_of_name pn_2) hisR ?_
  intro p e s m args below meth c s₁ Bd hml0 hP hK
  obtain ⟨rfl, hZ, hh⟩ := hP
  have hx := Bd.exec
  have hby := Bd.bytes
  have hrt := Bd.returns
  have hlk : meth.locks = false := Bd.notSynchronized
  have hml : c.maxLocals = 1 := hml0
  have hown : s.vm.findClass "com/example/kttl/kttl/keyspace/DeadlineQueue" = some m.cls := findClass_of_methodNamed Bd.named
  have hnm := (name_of_methodNamed Bd.named Bd.method).1
  have X0 : Stand p l e ({ frames := 0, cells := 0, slots := 0, locals := 0 } : Room) s m #[(.ref q)] below meth c s₁ [] 0 0 := Stand.of_body Bd
  have e0 : s₁.heap = h0 := by rw [← hh, Bd.state]; rfl
  have N0 := Fr.nil n0
  show own_G p.tables e below (fun o t => ∃ v L, o = .returned v ∧ Qp (.ref k0) h0 v t.heap L ∧ FrameEnd s o t L ({ frames := 0, cells := 0, slots := 0, locals := 0 } : Room).cells ({ frames := 0, cells := 0, slots := 0, locals := 0 } : Room).slots) (s₁.setTop (entryFrame m #[(.ref q)] 1))
  refine own_G.cast (show entryFrame m #[(.ref q)] 1 = mkF m 0 #[.val (.ref q)] [] from by first | (simp [entryFrame, mkF, argsToLocals, Value.category]; done) | rfl) ?_
  refine own_G.go (fun t_ k_ => XS.aloadN X0.here hx rfl (hb hby d_rm_ek_0) rfl rfl k_) ?_
  show own_G _ _ _ _ (s₁.setTop (mkF m 1 #[.val (.ref q)] [(.ref q)]))
  obtain ⟨T_1, X_1, e_1, st_1⟩ := getF X0 hx hZ hown (host := "") (Or.inl (own_w hw 65 rfl)) Via.refl e0 Q_K (g := (mkF m 1 #[.val (.ref q)] [(.ref q)])) rfl rfl (hb hby d_rm_ek_1)
  refine own_G.go st_1 ?_
  show own_G _ _ _ _ (T_1.setTop (mkF m 4 #[.val (.ref q)] [(.ref ka)]))
  refine own_G.go (fun t_ k_ => XS.iconst X_1.here hx rfl (hb hby d_rm_ek_4) k_) ?_
  show own_G _ _ _ _ (T_1.setTop (mkF m 5 #[.val (.ref q)] [(.int (0 : Int32)), (.ref ka)]))
  obtain ⟨cel_2, A_2, -, S_2, M_2, H_2, -⟩ := id VK
  have I_2 : ¬ ((0 : Int32) < 0 ∨ cel_2.slots.size ≤ ((0 : Int32)).toNatClampNeg) := inb_of S_2 ⟨(by decide), (by decide : (0 : Int32) < (16 : Int32))⟩
  refine own_G.go (X_1.aaload hx (j := (0 : Int32)) (v := (.ref k0)) (by rw [e_1]; exact A_2.1) (State.isArrayOf_alike hZ.alike A_2.2.1) rfl A_2.2.2 I_2 (H_2.at I_2 rfl) (g := (mkF m 5 #[.val (.ref q)] [(.int (0 : Int32)), (.ref ka)])) rfl rfl (hb hby d_rm_ek_5)) ?_
  show own_G _ _ _ _ (T_1.setTop (mkF m 6 #[.val (.ref q)] [(.ref k0)]))
  exact own_G.end_ X_1 hlk (v := (some (.ref k0))) (fun h => by rw [hrt] at h; cases h) (fun fs hr => retOut X_1 hx hrt rfl (Or.inr (Or.inr (Or.inr (Or.inr ⟨rfl, rfl, rfl⟩)))) (hb hby d_rm_ek_6) hr) e_1 ⟨rfl, rfl, rfl⟩ (by decide) (by decide)
def Qlaw (n0 : Nat) (v : Option Value) (h : Heap) (L : List Loc) : Prop := v = some (.int 1) ∧ Fr n0 L
theorem pn_6 : plainName "com/example/kttl/kttl/keyspace/DeadlineQueueClearPinLaw" = true := by first | (simp [plainName, overriddenIn]; done) | decide +kernel
theorem pd_7 : parseMethodDescriptor "([BJ)Lcom/example/kttl/kttl/keyspace/Entry;" = some ⟨[(.array .byte), .long], some (.object "com/example/kttl/kttl/keyspace/Entry")⟩ := by decide +kernel
theorem pd_8 : parseMethodDescriptor "()V" = some ⟨[], none⟩ := by decide +kernel
theorem pd_9 : parseMethodDescriptor "(Lcom/example/kttl/kttl/keyspace/Key;Lcom/example/kttl/kttl/keyspace/Entry;)V" = some ⟨[(.object "com/example/kttl/kttl/keyspace/Key"), (.object "com/example/kttl/kttl/keyspace/Entry")], none⟩ := by decide +kernel
theorem pd_10 : parseMethodDescriptor "()Lcom/example/kttl/kttl/keyspace/Key;" = some ⟨[], some (.object "com/example/kttl/kttl/keyspace/Key")⟩ := by decide +kernel
set_option maxRecDepth 65536 in
set_option maxHeartbeats 40000000 in
theorem rm_law (l : Launch) (Z : State) (a0 : Array Value) (hw : ∀ d ∈ tables_1, d.before a0 Z = true) (ws : List Jvm.Cond) (p0 : Int32) (p1 p2 p3 p4 : Int64) (kd : Addr) (h0 : Heap) (n0 : Nat) (Z0 : n0 ≤ h0.size) (OK : Sta Z Z.heap "com/example/kttl/kttl/keyspace/Kind" "STRING" "Lcom/example/kttl/kttl/keyspace/Kind;" (.ref kd)) (X00 : Old Z n0 h0) :
    MetFree l x (head1 (Jvm.Cond.code x code maxLocals ret :: ws) room_1) (fun a_ U => a_ = #[(.int p0), (.long p1), (.long p2), (.long p3), (.long p4)] ∧ Z.Warmed39 U.vm ∧ U.heap = h0) (fun _ _ _ _ _ => True) (fun _ U o U' => ∃ v L, o = .returned v ∧ Qlaw n0 v U'.heap L ∧ FrameEnd U o U' L room_1.cells room_1.slots) := by
  refine MetFree.of_bodySF (plainFor_of_name pn_6) hisR ?_
  intro p e s m args below meth c s₁ Bd hml0 hP hK
  obtain ⟨rfl, hZ, hh⟩ := hP
  have hx := Bd.exec
  have hby := Bd.bytes
  have hrt := Bd.returns
  have hlk : meth.locks = false := Bd.notSynchronized
  have hml : c.maxLocals = 21 := hml0
  have hown : s.vm.findClass "com/example/kttl/kttl/keyspace/DeadlineQueueClearPinLaw" = some m.cls := findClass_of_methodNamed Bd.named
  have hnm := (name_of_methodNamed Bd.named Bd.method).1
  have X0 : Stand p l e room_1 s m #[(.int p0), (.long p1), (.long p2), (.long p3), (.long p4)] below meth c s₁ [] 0 0 := Stand.of_body Bd
  have e0 : s₁.heap = h0 := by rw [← hh, Bd.state]; rfl
  have N0 := Fr.nil n0
  show own_G p.tables e below (fun o t => ∃ v L, o = .returned v ∧ Qlaw n0 v t.heap L ∧ FrameEnd s o t L room_1.cells room_1.slots) (s₁.setTop (entryFrame m #[(.int p0), (.long p1), (.long p2), (.long p3), (.long p4)] maxLocals))
  refine own_G.cast (show entryFrame m #[(.int p0), (.long p1), (.long p2), (.long p3), (.long p4)] maxLocals = mkF m 0 #[.val (.int p0), .val (.long p1), .second, .val (.long p2), .second, .val (.long p3), .second, .val (.long p4), .second, .unset, .unset, .unset, .unset, .unset, .unset, .unset, .unset, .unset, .unset, .unset, .unset] [] from by first | (simp [entryFrame, mkF, argsToLocals, Value.category, maxLocals]; done) | rfl) ?_
  obtain ⟨T_1, h_1, X_1, e_1, E_1, A_1, D_1, -, st_1⟩ := newO X0 hx hZ hown (own_w hw 0 rfl) (own_w hw 1 rfl) (own_w hw 2 rfl) e0 (g := (mkF m 0 #[.val (.int p0), .val (.long p1), .second, .val (.long p2), .second, .val (.long p3), .second, .val (.long p4), .second, .unset, .unset, .unset, .unset, .unset, .unset, .unset, .unset, .unset, .unset, .unset, .unset] [])) rfl (hb hby at_0) (by decide) (by decide)
  obtain ⟨a_1, g_1⟩ : ∃ z, z = h0.size := ⟨_, rfl⟩
  rw [← g_1] at A_1 D_1 st_1
  refine own_G.go st_1 ?_
  have F_1_bytes : Fld Z h_1 a_1 "com/example/kttl/kttl/keyspace/Key" "bytes" "[B" .null := D_1 (Or.inr (own_w hw 11 rfl)) (ty := (.array .byte)) (by decide)
  have F_1_hash : Fld Z h_1 a_1 "com/example/kttl/kttl/keyspace/Key" "hash" "I" (.int (0 : Int32)) := D_1 (Or.inr (own_w hw 17 rfl)) (ty := .int) (by decide)
  show own_G _ _ _ _ (T_1.setTop (mkF m 3 #[.val (.int p0), .val (.long p1), .second, .val (.long p2), .second, .val (.long p3), .second, .val (.long p4), .second, .unset, .unset, .unset, .unset, .unset, .unset, .unset, .unset, .unset, .unset, .unset, .unset] [(.ref a_1)]))
  refine own_G.go (fun t_ k_ => XS.dup X_1.here hx rfl (hb hby at_3) rfl rfl k_) ?_
  show own_G _ _ _ _ (T_1.setTop (mkF m 4 #[.val (.int p0), .val (.long p1), .second, .val (.long p2), .second, .val (.long p3), .second, .val (.long p4), .second, .unset, .unset, .unset, .unset, .unset, .unset, .unset, .unset, .unset, .unset, .unset, .unset] [(.ref a_1), (.ref a_1)]))
  refine own_G.go (fun t_ k_ => XS.iconst X_1.here hx rfl (hb hby at_4) k_) ?_
  show own_G _ _ _ _ (T_1.setTop (mkF m 5 #[.val (.int p0), .val (.long p1), .second, .val (.long p2), .second, .val (.long p3), .second, .val (.long p4), .second, .unset, .unset, .unset, .unset, .unset, .unset, .unset, .unset, .unset, .unset, .unset, .unset] [(.int (1 : Int32)), (.ref a_1), (.ref a_1)]))
  obtain ⟨T_2, h_2, k_2, X_2, e_2, E_2, A_2, st_2⟩ := newP X_1 hx hZ (own_w hw 3 rfl) e_1 (g := (mkF m 5 #[.val (.int p0), .val (.long p1), .second, .val (.long p2), .second, .val (.long p3), .second, .val (.long p4), .second, .unset, .unset, .unset, .unset, .unset, .unset, .unset, .unset, .unset, .unset, .unset, .unset] [(.int (1 : Int32)), (.ref a_1), (.ref a_1)])) rfl (hb hby at_5) rfl (by decide : ¬ ((1 : Int32) < (0 : Int32))) (cap := 1) (by decide : ((1 : Int32)).toNatClampNeg ≤ 1) (by decide) (by decide) (by decide)
  obtain ⟨a_2, g_2⟩ : ∃ z, z = h_1.size := ⟨_, rfl⟩
  rw [← g_2] at A_2 st_2
  refine own_G.go st_2 ?_
  have V_2 : Arv Z h_2 a_2 k_2 .byte (1 : Int32) ([(.int (0 : Int32))] : List Value) (.int (0 : Int32)) := (Arv.new A_2 (by decide : ¬ ((1 : Int32) < (0 : Int32)))).pad (pad_rep [] (.int (0 : Int32)) 1)
  show own_G _ _ _ _ (T_2.setTop (mkF m 7 #[.val (.int p0), .val (.long p1), .second, .val (.long p2), .second, .val (.long p3), .second, .val (.long p4), .second, .unset, .unset, .unset, .unset, .unset, .unset, .unset, .unset, .unset, .unset, .unset, .unset] [(.ref a_2), (.ref a_1), (.ref a_1)]))
  refine own_G.go (fun t_ k_ => XS.dup X_2.here hx rfl (hb hby at_7) rfl rfl k_) ?_
  show own_G _ _ _ _ (T_2.setTop (mkF m 8 #[.val (.int p0), .val (.long p1), .second, .val (.long p2), .second, .val (.long p3), .second, .val (.long p4), .second, .unset, .unset, .unset, .unset, .unset, .unset, .unset, .unset, .unset, .unset, .unset, .unset] [(.ref a_2), (.ref a_2), (.ref a_1), (.ref a_1)]))
  refine own_G.go (fun t_ k_ => XS.iconst X_2.here hx rfl (hb hby at_8) k_) ?_
  show own_G _ _ _ _ (T_2.setTop (mkF m 9 #[.val (.int p0), .val (.long p1), .second, .val (.long p2), .second, .val (.long p3), .second, .val (.long p4), .second, .unset, .unset, .unset, .unset, .unset, .unset, .unset, .unset, .unset, .unset, .unset, .unset] [(.int (0 : Int32)), (.ref a_2), (.ref a_2), (.ref a_1), (.ref a_1)]))
  refine own_G.go (fun t_ k_ => XS.iconst X_2.here hx rfl (hb hby at_9) k_) ?_
  show own_G _ _ _ _ (T_2.setTop (mkF m 10 #[.val (.int p0), .val (.long p1), .second, .val (.long p2), .second, .val (.long p3), .second, .val (.long p4), .second, .unset, .unset, .unset, .unset, .unset, .unset, .unset, .unset, .unset, .unset, .unset, .unset] [(.int (1 : Int32)), (.int (0 : Int32)), (.ref a_2), (.ref a_2), (.ref a_1), (.ref a_1)]))
  obtain ⟨T_3, h_3, X_3, e_3, W_3, V_3, st_3⟩ := own_stB X_2 hx hZ e_2 V_2 (j := (0 : Int32)) 0 (Nat.le_of_ble_eq_true rfl) (by decide) (by decide : ¬ ((0 : Int32) < (0 : Int32)) ∧ (0 : Int32) < (1 : Int32)) (g := (mkF m 10 #[.val (.int p0), .val (.long p1), .second, .val (.long p2), .second, .val (.long p3), .second, .val (.long p4), .second, .unset, .unset, .unset, .unset, .unset, .unset, .unset, .unset, .unset, .unset, .unset, .unset] [(.int (1 : Int32)), (.int (0 : Int32)), (.ref a_2), (.ref a_2), (.ref a_1), (.ref a_1)])) rfl rfl (hb hby at_10)
  refine own_G.go st_3 ?_
  have V_3q : Arv Z h_3 a_2 k_2 .byte (1 : Int32) ([(.int (nar .byte (1 : Int32)))] : List Value) (.int (0 : Int32)) := V_3
  have g0_a_2 : n0 ≤ a_2 := Nat.le_trans (Nat.le_trans Z0 E_1.1) (Nat.le_of_eq g_2.symm)
  have N_3 := Fr.snoc X_3 N0 g0_a_2
  show own_G _ _ _ _ (T_3.setTop (mkF m 11 #[.val (.int p0), .val (.long p1), .second, .val (.long p2), .second, .val (.long p3), .second, .val (.long p4), .second, .unset, .unset, .unset, .unset, .unset, .unset, .unset, .unset, .unset, .unset, .unset, .unset] [(.ref a_2), (.ref a_1), (.ref a_1)]))
  have A_1'_4 : Exa Z h_3 a_1 "com/example/kttl/kttl/keyspace/Key" := ((A_1.ext E_2).wr W_3)
  have F_1_bytes'_5 : Fld Z h_3 a_1 "com/example/kttl/kttl/keyspace/Key" "bytes" "[B" .null := ((F_1_bytes.ext E_2).other W_3 (Or.inl (Nat.ne_of_lt (Nat.lt_of_lt_of_le A_1.lt (Nat.le_of_eq g_2.symm)))))
  have F_1_hash'_6 : Fld Z h_3 a_1 "com/example/kttl/kttl/keyspace/Key" "hash" "I" (.int (0 : Int32)) := ((F_1_hash.ext E_2).other W_3 (Or.inl (Nat.ne_of_lt (Nat.lt_of_lt_of_le A_1.lt (Nat.le_of_eq g_2.symm)))))
  have g0_a_1 : n0 ≤ a_1 := Nat.le_trans Z0 (Nat.le_of_eq g_1.symm)
  obtain ⟨_, T_7, L_7, Q_7, X_7, st_7⟩ := own_callI X_3 hx rfl hown (mvT hZ (own_w hw 4 rfl)) (mvT hZ (own_w hw 5 rfl)) (mvT hZ (own_w hw 6 rfl)) (by decide) (Q := (Qkey Z a_1 h_3 n0)) (backOf (W := 1) (rm_key l Z a0 hw [] a_1 a_2 k_2 (nar .byte (1 : Int32)) h_3 n0 (Nat.le_trans Z0 (Nat.le_trans (Nat.le_trans E_1.1 E_2.1) (Keep.of_wr W_3).1)) g0_a_1 (Ne.symm (Nat.ne_of_lt (Nat.lt_of_lt_of_le A_1.lt (Nat.le_of_eq g_2.symm)))) A_1'_4 F_1_bytes'_5 F_1_hash'_6 V_3q) hZ (own_w hw 6 rfl) (own_w hw 2 rfl) (by decide) (by decide)) (a := a_1) (g := (mkF m 11 #[.val (.int p0), .val (.long p1), .second, .val (.long p2), .second, .val (.long p3), .second, .val (.long p4), .second, .unset, .unset, .unset, .unset, .unset, .unset, .unset, .unset, .unset, .unset, .unset, .unset] [(.ref a_2), (.ref a_1), (.ref a_1)])) rfl (by rw [hml]; rfl) (argsL := [(.ref a_2)]) (rest := [(.ref a_1)]) (lenOf pd_2 rfl) rfl (by show 2 * 0 + _ ≤ _; exact Nat.le_of_eq rfl) (hb hby at_11) e_3 rfl (by decide) (by decide)
  obtain ⟨rfl, Nq_7, K_7, Ex_7⟩ := Q_7
  refine own_G.via st_7 ?_
  have N_7 := Fr.app N_3 Nq_7
  show own_G _ _ _ _ (T_7.setTop (mkF m 14 #[.val (.int p0), .val (.long p1), .second, .val (.long p2), .second, .val (.long p3), .second, .val (.long p4), .second, .unset, .unset, .unset, .unset, .unset, .unset, .unset, .unset, .unset, .unset, .unset, .unset] [(.ref a_1)]))
  refine own_G.go (fun t_ k_ => XS.astore X_7.here hx rfl (hb hby at_14) rfl rfl (l' := #[.val (.int p0), .val (.long p1), .second, .val (.long p2), .second, .val (.long p3), .second, .val (.long p4), .second, .val (.ref a_1), .unset, .unset, .unset, .unset, .unset, .unset, .unset, .unset, .unset, .unset, .unset]) rfl k_) ?_
  show own_G _ _ _ _ (T_7.setTop (mkF m 16 #[.val (.int p0), .val (.long p1), .second, .val (.long p2), .second, .val (.long p3), .second, .val (.long p4), .second, .val (.ref a_1), .unset, .unset, .unset, .unset, .unset, .unset, .unset, .unset, .unset, .unset, .unset] []))
  obtain ⟨T_8, h_8, X_8, e_8, E_8, A_8, D_8, -, st_8⟩ := newO X_7 hx hZ hown (own_w hw 0 rfl) (own_w hw 1 rfl) (own_w hw 2 rfl) rfl (g := (mkF m 16 #[.val (.int p0), .val (.long p1), .second, .val (.long p2), .second, .val (.long p3), .second, .val (.long p4), .second, .val (.ref a_1), .unset, .unset, .unset, .unset, .unset, .unset, .unset, .unset, .unset, .unset, .unset] [])) rfl (hb hby at_16) (by decide) (by decide)
  obtain ⟨a_8, g_8⟩ : ∃ z, z = T_7.heap.size := ⟨_, rfl⟩
  rw [← g_8] at A_8 D_8 st_8
  refine own_G.go st_8 ?_
  have F_8_bytes : Fld Z h_8 a_8 "com/example/kttl/kttl/keyspace/Key" "bytes" "[B" .null := D_8 (Or.inr (own_w hw 11 rfl)) (ty := (.array .byte)) (by decide)
  have F_8_hash : Fld Z h_8 a_8 "com/example/kttl/kttl/keyspace/Key" "hash" "I" (.int (0 : Int32)) := D_8 (Or.inr (own_w hw 17 rfl)) (ty := .int) (by decide)
  show own_G _ _ _ _ (T_8.setTop (mkF m 19 #[.val (.int p0), .val (.long p1), .second, .val (.long p2), .second, .val (.long p3), .second, .val (.long p4), .second, .val (.ref a_1), .unset, .unset, .unset, .unset, .unset, .unset, .unset, .unset, .unset, .unset, .unset] [(.ref a_8)]))
  refine own_G.go (fun t_ k_ => XS.dup X_8.here hx rfl (hb hby at_19) rfl rfl k_) ?_
  show own_G _ _ _ _ (T_8.setTop (mkF m 20 #[.val (.int p0), .val (.long p1), .second, .val (.long p2), .second, .val (.long p3), .second, .val (.long p4), .second, .val (.ref a_1), .unset, .unset, .unset, .unset, .unset, .unset, .unset, .unset, .unset, .unset, .unset] [(.ref a_8), (.ref a_8)]))
  refine own_G.go (fun t_ k_ => XS.iconst X_8.here hx rfl (hb hby at_20) k_) ?_
  show own_G _ _ _ _ (T_8.setTop (mkF m 21 #[.val (.int p0), .val (.long p1), .second, .val (.long p2), .second, .val (.long p3), .second, .val (.long p4), .second, .val (.ref a_1), .unset, .unset, .unset, .unset, .unset, .unset, .unset, .unset, .unset, .unset, .unset] [(.int (1 : Int32)), (.ref a_8), (.ref a_8)]))
  obtain ⟨T_9, h_9, k_9, X_9, e_9, E_9, A_9, st_9⟩ := newP X_8 hx hZ (own_w hw 3 rfl) e_8 (g := (mkF m 21 #[.val (.int p0), .val (.long p1), .second, .val (.long p2), .second, .val (.long p3), .second, .val (.long p4), .second, .val (.ref a_1), .unset, .unset, .unset, .unset, .unset, .unset, .unset, .unset, .unset, .unset, .unset] [(.int (1 : Int32)), (.ref a_8), (.ref a_8)])) rfl (hb hby at_21) rfl (by decide : ¬ ((1 : Int32) < (0 : Int32))) (cap := 1) (by decide : ((1 : Int32)).toNatClampNeg ≤ 1) (by decide) (by decide) (by decide)
  obtain ⟨a_9, g_9⟩ : ∃ z, z = h_8.size := ⟨_, rfl⟩
  rw [← g_9] at A_9 st_9
  refine own_G.go st_9 ?_
  have V_9 : Arv Z h_9 a_9 k_9 .byte (1 : Int32) ([(.int (0 : Int32))] : List Value) (.int (0 : Int32)) := (Arv.new A_9 (by decide : ¬ ((1 : Int32) < (0 : Int32)))).pad (pad_rep [] (.int (0 : Int32)) 1)
  show own_G _ _ _ _ (T_9.setTop (mkF m 23 #[.val (.int p0), .val (.long p1), .second, .val (.long p2), .second, .val (.long p3), .second, .val (.long p4), .second, .val (.ref a_1), .unset, .unset, .unset, .unset, .unset, .unset, .unset, .unset, .unset, .unset, .unset] [(.ref a_9), (.ref a_8), (.ref a_8)]))
  refine own_G.go (fun t_ k_ => XS.dup X_9.here hx rfl (hb hby at_23) rfl rfl k_) ?_
  show own_G _ _ _ _ (T_9.setTop (mkF m 24 #[.val (.int p0), .val (.long p1), .second, .val (.long p2), .second, .val (.long p3), .second, .val (.long p4), .second, .val (.ref a_1), .unset, .unset, .unset, .unset, .unset, .unset, .unset, .unset, .unset, .unset, .unset] [(.ref a_9), (.ref a_9), (.ref a_8), (.ref a_8)]))
  refine own_G.go (fun t_ k_ => XS.iconst X_9.here hx rfl (hb hby at_24) k_) ?_
  show own_G _ _ _ _ (T_9.setTop (mkF m 25 #[.val (.int p0), .val (.long p1), .second, .val (.long p2), .second, .val (.long p3), .second, .val (.long p4), .second, .val (.ref a_1), .unset, .unset, .unset, .unset, .unset, .unset, .unset, .unset, .unset, .unset, .unset] [(.int (0 : Int32)), (.ref a_9), (.ref a_9), (.ref a_8), (.ref a_8)]))
  refine own_G.go (fun t_ k_ => XS.iconst X_9.here hx rfl (hb hby at_25) k_) ?_
  show own_G _ _ _ _ (T_9.setTop (mkF m 26 #[.val (.int p0), .val (.long p1), .second, .val (.long p2), .second, .val (.long p3), .second, .val (.long p4), .second, .val (.ref a_1), .unset, .unset, .unset, .unset, .unset, .unset, .unset, .unset, .unset, .unset, .unset] [(.int (2 : Int32)), (.int (0 : Int32)), (.ref a_9), (.ref a_9), (.ref a_8), (.ref a_8)]))
  obtain ⟨T_10, h_10, X_10, e_10, W_10, V_10, st_10⟩ := own_stB X_9 hx hZ e_9 V_9 (j := (0 : Int32)) 0 (Nat.le_of_ble_eq_true rfl) (by decide) (by decide : ¬ ((0 : Int32) < (0 : Int32)) ∧ (0 : Int32) < (1 : Int32)) (g := (mkF m 26 #[.val (.int p0), .val (.long p1), .second, .val (.long p2), .second, .val (.long p3), .second, .val (.long p4), .second, .val (.ref a_1), .unset, .unset, .unset, .unset, .unset, .unset, .unset, .unset, .unset, .unset, .unset] [(.int (2 : Int32)), (.int (0 : Int32)), (.ref a_9), (.ref a_9), (.ref a_8), (.ref a_8)])) rfl rfl (hb hby at_26)
  refine own_G.go st_10 ?_
  have V_10q : Arv Z h_10 a_9 k_9 .byte (1 : Int32) ([(.int (nar .byte (2 : Int32)))] : List Value) (.int (0 : Int32)) := V_10
  have g0_a_9 : n0 ≤ a_9 := Nat.le_trans (Nat.le_trans Z0 (Nat.le_trans (Nat.le_trans (Nat.le_trans (Nat.le_trans E_1.1 E_2.1) (Keep.of_wr W_3).1) K_7.1) E_8.1)) (Nat.le_of_eq g_9.symm)
  have N_10 := Fr.snoc X_10 N_7 g0_a_9
  show own_G _ _ _ _ (T_10.setTop (mkF m 27 #[.val (.int p0), .val (.long p1), .second, .val (.long p2), .second, .val (.long p3), .second, .val (.long p4), .second, .val (.ref a_1), .unset, .unset, .unset, .unset, .unset, .unset, .unset, .unset, .unset, .unset, .unset] [(.ref a_9), (.ref a_8), (.ref a_8)]))
  have A_8'_11 : Exa Z h_10 a_8 "com/example/kttl/kttl/keyspace/Key" := ((A_8.ext E_9).wr W_10)
  have F_8_bytes'_12 : Fld Z h_10 a_8 "com/example/kttl/kttl/keyspace/Key" "bytes" "[B" .null := ((F_8_bytes.ext E_9).other W_10 (Or.inl (Nat.ne_of_lt (Nat.lt_of_lt_of_le A_8.lt (Nat.le_of_eq g_9.symm)))))
  have F_8_hash'_13 : Fld Z h_10 a_8 "com/example/kttl/kttl/keyspace/Key" "hash" "I" (.int (0 : Int32)) := ((F_8_hash.ext E_9).other W_10 (Or.inl (Nat.ne_of_lt (Nat.lt_of_lt_of_le A_8.lt (Nat.le_of_eq g_9.symm)))))
  have g0_a_8 : n0 ≤ a_8 := Nat.le_trans (Nat.le_trans Z0 (Nat.le_trans (Nat.le_trans (Nat.le_trans E_1.1 E_2.1) (Keep.of_wr W_3).1) K_7.1)) (Nat.le_of_eq g_8.symm)
  obtain ⟨_, T_14, L_14, Q_14, X_14, st_14⟩ := own_callI X_10 hx rfl hown (mvT hZ (own_w hw 4 rfl)) (mvT hZ (own_w hw 5 rfl)) (mvT hZ (own_w hw 6 rfl)) (by decide) (Q := (Qkey Z a_8 h_10 n0)) (backOf (W := 1) (rm_key l Z a0 hw [] a_8 a_9 k_9 (nar .byte (2 : Int32)) h_10 n0 (Nat.le_trans Z0 (Nat.le_trans (Nat.le_trans (Nat.le_trans (Nat.le_trans (Nat.le_trans (Nat.le_trans E_1.1 E_2.1) (Keep.of_wr W_3).1) K_7.1) E_8.1) E_9.1) (Keep.of_wr W_10).1)) g0_a_8 (Ne.symm (Nat.ne_of_lt (Nat.lt_of_lt_of_le A_8.lt (Nat.le_of_eq g_9.symm)))) A_8'_11 F_8_bytes'_12 F_8_hash'_13 V_10q) hZ (own_w hw 6 rfl) (own_w hw 2 rfl) (by decide) (by decide)) (a := a_8) (g := (mkF m 27 #[.val (.int p0), .val (.long p1), .second, .val (.long p2), .second, .val (.long p3), .second, .val (.long p4), .second, .val (.ref a_1), .unset, .unset, .unset, .unset, .unset, .unset, .unset, .unset, .unset, .unset, .unset] [(.ref a_9), (.ref a_8), (.ref a_8)])) rfl (by rw [hml]; rfl) (argsL := [(.ref a_9)]) (rest := [(.ref a_8)]) (lenOf pd_2 rfl) rfl (by show 2 * 0 + _ ≤ _; exact Nat.le_of_eq rfl) (hb hby at_27) e_10 rfl (by decide) (by decide)
  obtain ⟨rfl, Nq_14, K_14, Ex_14⟩ := Q_14
  refine own_G.via st_14 ?_
  have N_14 := Fr.app N_10 Nq_14
  show own_G _ _ _ _ (T_14.setTop (mkF m 30 #[.val (.int p0), .val (.long p1), .second, .val (.long p2), .second, .val (.long p3), .second, .val (.long p4), .second, .val (.ref a_1), .unset, .unset, .unset, .unset, .unset, .unset, .unset, .unset, .unset, .unset, .unset] [(.ref a_8)]))
  refine own_G.go (fun t_ k_ => XS.astore X_14.here hx rfl (hb hby at_30) rfl rfl (l' := #[.val (.int p0), .val (.long p1), .second, .val (.long p2), .second, .val (.long p3), .second, .val (.long p4), .second, .val (.ref a_1), .val (.ref a_8), .unset, .unset, .unset, .unset, .unset, .unset, .unset, .unset, .unset, .unset]) rfl k_) ?_
  show own_G _ _ _ _ (T_14.setTop (mkF m 32 #[.val (.int p0), .val (.long p1), .second, .val (.long p2), .second, .val (.long p3), .second, .val (.long p4), .second, .val (.ref a_1), .val (.ref a_8), .unset, .unset, .unset, .unset, .unset, .unset, .unset, .unset, .unset, .unset] []))
  refine own_G.go (fun t_ k_ => XS.iconst X_14.here hx rfl (hb hby at_32) k_) ?_
  show own_G _ _ _ _ (T_14.setTop (mkF m 33 #[.val (.int p0), .val (.long p1), .second, .val (.long p2), .second, .val (.long p3), .second, .val (.long p4), .second, .val (.ref a_1), .val (.ref a_8), .unset, .unset, .unset, .unset, .unset, .unset, .unset, .unset, .unset, .unset] [(.int (0 : Int32))]))
  obtain ⟨T_15, h_15, k_15, X_15, e_15, E_15, A_15, st_15⟩ := newP X_14 hx hZ (own_w hw 3 rfl) rfl (g := (mkF m 33 #[.val (.int p0), .val (.long p1), .second, .val (.long p2), .second, .val (.long p3), .second, .val (.long p4), .second, .val (.ref a_1), .val (.ref a_8), .unset, .unset, .unset, .unset, .unset, .unset, .unset, .unset, .unset, .unset] [(.int (0 : Int32))])) rfl (hb hby at_33) rfl (by decide : ¬ ((0 : Int32) < (0 : Int32))) (cap := 0) (by decide : ((0 : Int32)).toNatClampNeg ≤ 0) (by decide) (by decide) (by decide)
  obtain ⟨a_15, g_15⟩ : ∃ z, z = T_14.heap.size := ⟨_, rfl⟩
  rw [← g_15] at A_15 st_15
  refine own_G.go st_15 ?_
  have V_15 : Arv Z h_15 a_15 k_15 .byte (0 : Int32) ([] : List Value) (.int (0 : Int32)) := (Arv.new A_15 (by decide : ¬ ((0 : Int32) < (0 : Int32)))).pad (pad_rep [] (.int (0 : Int32)) 0)
  show own_G _ _ _ _ (T_15.setTop (mkF m 35 #[.val (.int p0), .val (.long p1), .second, .val (.long p2), .second, .val (.long p3), .second, .val (.long p4), .second, .val (.ref a_1), .val (.ref a_8), .unset, .unset, .unset, .unset, .unset, .unset, .unset, .unset, .unset, .unset] [(.ref a_15)]))
  refine own_G.go (fun t_ k_ => XS.lloadN X_15.here hx rfl (hb hby at_35) rfl k_) ?_
  show own_G _ _ _ _ (T_15.setTop (mkF m 36 #[.val (.int p0), .val (.long p1), .second, .val (.long p2), .second, .val (.long p3), .second, .val (.long p4), .second, .val (.ref a_1), .val (.ref a_8), .unset, .unset, .unset, .unset, .unset, .unset, .unset, .unset, .unset, .unset] [(.long p1), (.ref a_15)]))
  have O_16d : Old Z n0 h_15 := (((((((((X00.ext E_1).ext E_2).wr W_3 g0_a_2).keep K_7 (allS g0_a_1 all0)).ext E_8).ext E_9).wr W_10 g0_a_9).keep K_14 (allS g0_a_8 all0)).ext E_15)
  obtain ⟨_, T_17, L_17, Q_17, X_17, st_17⟩ := own_callS X_15 hx hown (mvT hZ (own_w hw 18 rfl)) (mvT hZ (own_w hw 19 rfl)) (mvT hZ (own_w hw 20 rfl)) (mvT hZ (own_w hw 21 rfl)) (by decide) (Q := (Qof Z p1 h_15 n0)) (backOf (W := 0) (rm_of l Z a0 hw [] a_15 k_15 p1 kd h_15 n0 (Nat.le_trans Z0 (Nat.le_trans (Nat.le_trans (Nat.le_trans (Nat.le_trans (Nat.le_trans (Nat.le_trans (Nat.le_trans (Nat.le_trans E_1.1 E_2.1) (Keep.of_wr W_3).1) K_7.1) E_8.1) E_9.1) (Keep.of_wr W_10).1) K_14.1) E_15.1)) V_15 OK O_16d) hZ (own_w hw 21 rfl) (own_w hw 20 rfl) (by decide) (by decide)) (g := (mkF m 36 #[.val (.int p0), .val (.long p1), .second, .val (.long p2), .second, .val (.long p3), .second, .val (.long p4), .second, .val (.ref a_1), .val (.ref a_8), .unset, .unset, .unset, .unset, .unset, .unset, .unset, .unset, .unset, .unset] [(.long p1), (.ref a_15)])) rfl (by rw [hml]; rfl) (argsL := [(.ref a_15), (.long p1)]) (rest := []) (lenOf pd_7 rfl) rfl (by show 2 * 0 + _ ≤ _; exact Nat.le_of_eq rfl) (hb hby at_36) e_15 rfl (by decide) (by decide)
  obtain ⟨r_17, rfl, Nq_17, K_17, lo_17, Ex_17, Fs_17, Fh_17, Fd_17⟩ := Q_17
  refine own_G.via st_17 ?_
  have N_17 := Fr.app N_14 Nq_17
  show own_G _ _ _ _ (T_17.setTop (mkF m 39 #[.val (.int p0), .val (.long p1), .second, .val (.long p2), .second, .val (.long p3), .second, .val (.long p4), .second, .val (.ref a_1), .val (.ref a_8), .unset, .unset, .unset, .unset, .unset, .unset, .unset, .unset, .unset, .unset] [(.ref r_17)]))
  refine own_G.go (fun t_ k_ => XS.astore X_17.here hx rfl (hb hby at_39) rfl rfl (l' := #[.val (.int p0), .val (.long p1), .second, .val (.long p2), .second, .val (.long p3), .second, .val (.long p4), .second, .val (.ref a_1), .val (.ref a_8), .val (.ref r_17), .unset, .unset, .unset, .unset, .unset, .unset, .unset, .unset, .unset]) rfl k_) ?_
  show own_G _ _ _ _ (T_17.setTop (mkF m 41 #[.val (.int p0), .val (.long p1), .second, .val (.long p2), .second, .val (.long p3), .second, .val (.long p4), .second, .val (.ref a_1), .val (.ref a_8), .val (.ref r_17), .unset, .unset, .unset, .unset, .unset, .unset, .unset, .unset, .unset] []))
  refine own_G.go (fun t_ k_ => XS.iconst X_17.here hx rfl (hb hby at_41) k_) ?_
  show own_G _ _ _ _ (T_17.setTop (mkF m 42 #[.val (.int p0), .val (.long p1), .second, .val (.long p2), .second, .val (.long p3), .second, .val (.long p4), .second, .val (.ref a_1), .val (.ref a_8), .val (.ref r_17), .unset, .unset, .unset, .unset, .unset, .unset, .unset, .unset, .unset] [(.int (0 : Int32))]))
  obtain ⟨T_18, h_18, k_18, X_18, e_18, E_18, A_18, st_18⟩ := newP X_17 hx hZ (own_w hw 3 rfl) rfl (g := (mkF m 42 #[.val (.int p0), .val (.long p1), .second, .val (.long p2), .second, .val (.long p3), .second, .val (.long p4), .second, .val (.ref a_1), .val (.ref a_8), .val (.ref r_17), .unset, .unset, .unset, .unset, .unset, .unset, .unset, .unset, .unset] [(.int (0 : Int32))])) rfl (hb hby at_42) rfl (by decide : ¬ ((0 : Int32) < (0 : Int32))) (cap := 0) (by decide : ((0 : Int32)).toNatClampNeg ≤ 0) (by decide) (by decide) (by decide)
  obtain ⟨a_18, g_18⟩ : ∃ z, z = T_17.heap.size := ⟨_, rfl⟩
  rw [← g_18] at A_18 st_18
  refine own_G.go st_18 ?_
  have V_18 : Arv Z h_18 a_18 k_18 .byte (0 : Int32) ([] : List Value) (.int (0 : Int32)) := (Arv.new A_18 (by decide : ¬ ((0 : Int32) < (0 : Int32)))).pad (pad_rep [] (.int (0 : Int32)) 0)
  show own_G _ _ _ _ (T_18.setTop (mkF m 44 #[.val (.int p0), .val (.long p1), .second, .val (.long p2), .second, .val (.long p3), .second, .val (.long p4), .second, .val (.ref a_1), .val (.ref a_8), .val (.ref r_17), .unset, .unset, .unset, .unset, .unset, .unset, .unset, .unset, .unset] [(.ref a_18)]))
  refine own_G.go (fun t_ k_ => XS.lloadN X_18.here hx rfl (hb hby at_44) rfl k_) ?_
  show own_G _ _ _ _ (T_18.setTop (mkF m 45 #[.val (.int p0), .val (.long p1), .second, .val (.long p2), .second, .val (.long p3), .second, .val (.long p4), .second, .val (.ref a_1), .val (.ref a_8), .val (.ref r_17), .unset, .unset, .unset, .unset, .unset, .unset, .unset, .unset, .unset] [(.long p2), (.ref a_18)]))
  have O_19d : Old Z n0 h_18 := ((O_16d.keep K_17 all0).ext E_18)
  obtain ⟨_, T_20, L_20, Q_20, X_20, st_20⟩ := own_callS X_18 hx hown (mvT hZ (own_w hw 18 rfl)) (mvT hZ (own_w hw 19 rfl)) (mvT hZ (own_w hw 20 rfl)) (mvT hZ (own_w hw 21 rfl)) (by decide) (Q := (Qof Z p2 h_18 n0)) (backOf (W := 0) (rm_of l Z a0 hw [] a_18 k_18 p2 kd h_18 n0 (Nat.le_trans Z0 (Nat.le_trans (Nat.le_trans (Nat.le_trans (Nat.le_trans (Nat.le_trans (Nat.le_trans (Nat.le_trans (Nat.le_trans (Nat.le_trans (Nat.le_trans E_1.1 E_2.1) (Keep.of_wr W_3).1) K_7.1) E_8.1) E_9.1) (Keep.of_wr W_10).1) K_14.1) E_15.1) K_17.1) E_18.1)) V_18 OK O_19d) hZ (own_w hw 21 rfl) (own_w hw 20 rfl) (by decide) (by decide)) (g := (mkF m 45 #[.val (.int p0), .val (.long p1), .second, .val (.long p2), .second, .val (.long p3), .second, .val (.long p4), .second, .val (.ref a_1), .val (.ref a_8), .val (.ref r_17), .unset, .unset, .unset, .unset, .unset, .unset, .unset, .unset, .unset] [(.long p2), (.ref a_18)])) rfl (by rw [hml]; rfl) (argsL := [(.ref a_18), (.long p2)]) (rest := []) (lenOf pd_7 rfl) rfl (by show 2 * 0 + _ ≤ _; exact Nat.le_of_eq rfl) (hb hby at_45) e_18 rfl (by decide) (by decide)
  obtain ⟨r_20, rfl, Nq_20, K_20, lo_20, Ex_20, Fs_20, Fh_20, Fd_20⟩ := Q_20
  refine own_G.via st_20 ?_
  have N_20 := Fr.app N_17 Nq_20
  show own_G _ _ _ _ (T_20.setTop (mkF m 48 #[.val (.int p0), .val (.long p1), .second, .val (.long p2), .second, .val (.long p3), .second, .val (.long p4), .second, .val (.ref a_1), .val (.ref a_8), .val (.ref r_17), .unset, .unset, .unset, .unset, .unset, .unset, .unset, .unset, .unset] [(.ref r_20)]))
  refine own_G.go (fun t_ k_ => XS.astore X_20.here hx rfl (hb hby at_48) rfl rfl (l' := #[.val (.int p0), .val (.long p1), .second, .val (.long p2), .second, .val (.long p3), .second, .val (.long p4), .second, .val (.ref a_1), .val (.ref a_8), .val (.ref r_17), .val (.ref r_20), .unset, .unset, .unset, .unset, .unset, .unset, .unset, .unset]) rfl k_) ?_
  show own_G _ _ _ _ (T_20.setTop (mkF m 50 #[.val (.int p0), .val (.long p1), .second, .val (.long p2), .second, .val (.long p3), .second, .val (.long p4), .second, .val (.ref a_1), .val (.ref a_8), .val (.ref r_17), .val (.ref r_20), .unset, .unset, .unset, .unset, .unset, .unset, .unset, .unset] []))
  refine own_G.go (fun t_ k_ => XS.iconst X_20.here hx rfl (hb hby at_50) k_) ?_
  show own_G _ _ _ _ (T_20.setTop (mkF m 51 #[.val (.int p0), .val (.long p1), .second, .val (.long p2), .second, .val (.long p3), .second, .val (.long p4), .second, .val (.ref a_1), .val (.ref a_8), .val (.ref r_17), .val (.ref r_20), .unset, .unset, .unset, .unset, .unset, .unset, .unset, .unset] [(.int (0 : Int32))]))
  obtain ⟨T_21, h_21, k_21, X_21, e_21, E_21, A_21, st_21⟩ := newP X_20 hx hZ (own_w hw 3 rfl) rfl (g := (mkF m 51 #[.val (.int p0), .val (.long p1), .second, .val (.long p2), .second, .val (.long p3), .second, .val (.long p4), .second, .val (.ref a_1), .val (.ref a_8), .val (.ref r_17), .val (.ref r_20), .unset, .unset, .unset, .unset, .unset, .unset, .unset, .unset] [(.int (0 : Int32))])) rfl (hb hby at_51) rfl (by decide : ¬ ((0 : Int32) < (0 : Int32))) (cap := 0) (by decide : ((0 : Int32)).toNatClampNeg ≤ 0) (by decide) (by decide) (by decide)
  obtain ⟨a_21, g_21⟩ : ∃ z, z = T_20.heap.size := ⟨_, rfl⟩
  rw [← g_21] at A_21 st_21
  refine own_G.go st_21 ?_
  have V_21 : Arv Z h_21 a_21 k_21 .byte (0 : Int32) ([] : List Value) (.int (0 : Int32)) := (Arv.new A_21 (by decide : ¬ ((0 : Int32) < (0 : Int32)))).pad (pad_rep [] (.int (0 : Int32)) 0)
  show own_G _ _ _ _ (T_21.setTop (mkF m 53 #[.val (.int p0), .val (.long p1), .second, .val (.long p2), .second, .val (.long p3), .second, .val (.long p4), .second, .val (.ref a_1), .val (.ref a_8), .val (.ref r_17), .val (.ref r_20), .unset, .unset, .unset, .unset, .unset, .unset, .unset, .unset] [(.ref a_21)]))
  refine own_G.go (fun t_ k_ => XS.lload X_21.here hx rfl (hb hby at_53) rfl k_) ?_
  show own_G _ _ _ _ (T_21.setTop (mkF m 55 #[.val (.int p0), .val (.long p1), .second, .val (.long p2), .second, .val (.long p3), .second, .val (.long p4), .second, .val (.ref a_1), .val (.ref a_8), .val (.ref r_17), .val (.ref r_20), .unset, .unset, .unset, .unset, .unset, .unset, .unset, .unset] [(.long p3), (.ref a_21)]))
  have O_22d : Old Z n0 h_21 := ((O_19d.keep K_20 all0).ext E_21)
  obtain ⟨_, T_23, L_23, Q_23, X_23, st_23⟩ := own_callS X_21 hx hown (mvT hZ (own_w hw 18 rfl)) (mvT hZ (own_w hw 19 rfl)) (mvT hZ (own_w hw 20 rfl)) (mvT hZ (own_w hw 21 rfl)) (by decide) (Q := (Qof Z p3 h_21 n0)) (backOf (W := 0) (rm_of l Z a0 hw [] a_21 k_21 p3 kd h_21 n0 (Nat.le_trans Z0 (Nat.le_trans (Nat.le_trans (Nat.le_trans (Nat.le_trans (Nat.le_trans (Nat.le_trans (Nat.le_trans (Nat.le_trans (Nat.le_trans (Nat.le_trans (Nat.le_trans (Nat.le_trans E_1.1 E_2.1) (Keep.of_wr W_3).1) K_7.1) E_8.1) E_9.1) (Keep.of_wr W_10).1) K_14.1) E_15.1) K_17.1) E_18.1) K_20.1) E_21.1)) V_21 OK O_22d) hZ (own_w hw 21 rfl) (own_w hw 20 rfl) (by decide) (by decide)) (g := (mkF m 55 #[.val (.int p0), .val (.long p1), .second, .val (.long p2), .second, .val (.long p3), .second, .val (.long p4), .second, .val (.ref a_1), .val (.ref a_8), .val (.ref r_17), .val (.ref r_20), .unset, .unset, .unset, .unset, .unset, .unset, .unset, .unset] [(.long p3), (.ref a_21)])) rfl (by rw [hml]; rfl) (argsL := [(.ref a_21), (.long p3)]) (rest := []) (lenOf pd_7 rfl) rfl (by show 2 * 0 + _ ≤ _; exact Nat.le_of_eq rfl) (hb hby at_55) e_21 rfl (by decide) (by decide)
  obtain ⟨r_23, rfl, Nq_23, K_23, lo_23, Ex_23, Fs_23, Fh_23, Fd_23⟩ := Q_23
  refine own_G.via st_23 ?_
  have N_23 := Fr.app N_20 Nq_23
  show own_G _ _ _ _ (T_23.setTop (mkF m 58 #[.val (.int p0), .val (.long p1), .second, .val (.long p2), .second, .val (.long p3), .second, .val (.long p4), .second, .val (.ref a_1), .val (.ref a_8), .val (.ref r_17), .val (.ref r_20), .unset, .unset, .unset, .unset, .unset, .unset, .unset, .unset] [(.ref r_23)]))
  refine own_G.go (fun t_ k_ => XS.astore X_23.here hx rfl (hb hby at_58) rfl rfl (l' := #[.val (.int p0), .val (.long p1), .second, .val (.long p2), .second, .val (.long p3), .second, .val (.long p4), .second, .val (.ref a_1), .val (.ref a_8), .val (.ref r_17), .val (.ref r_20), .val (.ref r_23), .unset, .unset, .unset, .unset, .unset, .unset, .unset]) rfl k_) ?_
  show own_G _ _ _ _ (T_23.setTop (mkF m 60 #[.val (.int p0), .val (.long p1), .second, .val (.long p2), .second, .val (.long p3), .second, .val (.long p4), .second, .val (.ref a_1), .val (.ref a_8), .val (.ref r_17), .val (.ref r_20), .val (.ref r_23), .unset, .unset, .unset, .unset, .unset, .unset, .unset] []))
  refine own_G.go (fun t_ k_ => XS.iconst X_23.here hx rfl (hb hby at_60) k_) ?_
  show own_G _ _ _ _ (T_23.setTop (mkF m 61 #[.val (.int p0), .val (.long p1), .second, .val (.long p2), .second, .val (.long p3), .second, .val (.long p4), .second, .val (.ref a_1), .val (.ref a_8), .val (.ref r_17), .val (.ref r_20), .val (.ref r_23), .unset, .unset, .unset, .unset, .unset, .unset, .unset] [(.int (0 : Int32))]))
  obtain ⟨T_24, h_24, k_24, X_24, e_24, E_24, A_24, st_24⟩ := newP X_23 hx hZ (own_w hw 3 rfl) rfl (g := (mkF m 61 #[.val (.int p0), .val (.long p1), .second, .val (.long p2), .second, .val (.long p3), .second, .val (.long p4), .second, .val (.ref a_1), .val (.ref a_8), .val (.ref r_17), .val (.ref r_20), .val (.ref r_23), .unset, .unset, .unset, .unset, .unset, .unset, .unset] [(.int (0 : Int32))])) rfl (hb hby at_61) rfl (by decide : ¬ ((0 : Int32) < (0 : Int32))) (cap := 0) (by decide : ((0 : Int32)).toNatClampNeg ≤ 0) (by decide) (by decide) (by decide)
  obtain ⟨a_24, g_24⟩ : ∃ z, z = T_23.heap.size := ⟨_, rfl⟩
  rw [← g_24] at A_24 st_24
  refine own_G.go st_24 ?_
  have V_24 : Arv Z h_24 a_24 k_24 .byte (0 : Int32) ([] : List Value) (.int (0 : Int32)) := (Arv.new A_24 (by decide : ¬ ((0 : Int32) < (0 : Int32)))).pad (pad_rep [] (.int (0 : Int32)) 0)
  show own_G _ _ _ _ (T_24.setTop (mkF m 63 #[.val (.int p0), .val (.long p1), .second, .val (.long p2), .second, .val (.long p3), .second, .val (.long p4), .second, .val (.ref a_1), .val (.ref a_8), .val (.ref r_17), .val (.ref r_20), .val (.ref r_23), .unset, .unset, .unset, .unset, .unset, .unset, .unset] [(.ref a_24)]))
  refine own_G.go (fun t_ k_ => XS.lload X_24.here hx rfl (hb hby at_63) rfl k_) ?_
  show own_G _ _ _ _ (T_24.setTop (mkF m 65 #[.val (.int p0), .val (.long p1), .second, .val (.long p2), .second, .val (.long p3), .second, .val (.long p4), .second, .val (.ref a_1), .val (.ref a_8), .val (.ref r_17), .val (.ref r_20), .val (.ref r_23), .unset, .unset, .unset, .unset, .unset, .unset, .unset] [(.long p4), (.ref a_24)]))
  have O_25d : Old Z n0 h_24 := ((O_22d.keep K_23 all0).ext E_24)
  obtain ⟨_, T_26, L_26, Q_26, X_26, st_26⟩ := own_callS X_24 hx hown (mvT hZ (own_w hw 18 rfl)) (mvT hZ (own_w hw 19 rfl)) (mvT hZ (own_w hw 20 rfl)) (mvT hZ (own_w hw 21 rfl)) (by decide) (Q := (Qof Z p4 h_24 n0)) (backOf (W := 0) (rm_of l Z a0 hw [] a_24 k_24 p4 kd h_24 n0 (Nat.le_trans Z0 (Nat.le_trans (Nat.le_trans (Nat.le_trans (Nat.le_trans (Nat.le_trans (Nat.le_trans (Nat.le_trans (Nat.le_trans (Nat.le_trans (Nat.le_trans (Nat.le_trans (Nat.le_trans (Nat.le_trans (Nat.le_trans E_1.1 E_2.1) (Keep.of_wr W_3).1) K_7.1) E_8.1) E_9.1) (Keep.of_wr W_10).1) K_14.1) E_15.1) K_17.1) E_18.1) K_20.1) E_21.1) K_23.1) E_24.1)) V_24 OK O_25d) hZ (own_w hw 21 rfl) (own_w hw 20 rfl) (by decide) (by decide)) (g := (mkF m 65 #[.val (.int p0), .val (.long p1), .second, .val (.long p2), .second, .val (.long p3), .second, .val (.long p4), .second, .val (.ref a_1), .val (.ref a_8), .val (.ref r_17), .val (.ref r_20), .val (.ref r_23), .unset, .unset, .unset, .unset, .unset, .unset, .unset] [(.long p4), (.ref a_24)])) rfl (by rw [hml]; rfl) (argsL := [(.ref a_24), (.long p4)]) (rest := []) (lenOf pd_7 rfl) rfl (by show 2 * 0 + _ ≤ _; exact Nat.le_of_eq rfl) (hb hby at_65) e_24 rfl (by decide) (by decide)
  obtain ⟨r_26, rfl, Nq_26, K_26, lo_26, Ex_26, Fs_26, Fh_26, Fd_26⟩ := Q_26
  refine own_G.via st_26 ?_
  have N_26 := Fr.app N_23 Nq_26
  show own_G _ _ _ _ (T_26.setTop (mkF m 68 #[.val (.int p0), .val (.long p1), .second, .val (.long p2), .second, .val (.long p3), .second, .val (.long p4), .second, .val (.ref a_1), .val (.ref a_8), .val (.ref r_17), .val (.ref r_20), .val (.ref r_23), .unset, .unset, .unset, .unset, .unset, .unset, .unset] [(.ref r_26)]))
  refine own_G.go (fun t_ k_ => XS.astore X_26.here hx rfl (hb hby at_68) rfl rfl (l' := #[.val (.int p0), .val (.long p1), .second, .val (.long p2), .second, .val (.long p3), .second, .val (.long p4), .second, .val (.ref a_1), .val (.ref a_8), .val (.ref r_17), .val (.ref r_20), .val (.ref r_23), .val (.ref r_26), .unset, .unset, .unset, .unset, .unset, .unset]) rfl k_) ?_
  show own_G _ _ _ _ (T_26.setTop (mkF m 70 #[.val (.int p0), .val (.long p1), .second, .val (.long p2), .second, .val (.long p3), .second, .val (.long p4), .second, .val (.ref a_1), .val (.ref a_8), .val (.ref r_17), .val (.ref r_20), .val (.ref r_23), .val (.ref r_26), .unset, .unset, .unset, .unset, .unset, .unset] []))
  obtain ⟨T_27, h_27, X_27, e_27, E_27, A_27, D_27, -, st_27⟩ := newO X_26 hx hZ hown (own_w hw 52 rfl) (own_w hw 53 rfl) (own_w hw 54 rfl) rfl (g := (mkF m 70 #[.val (.int p0), .val (.long p1), .second, .val (.long p2), .second, .val (.long p3), .second, .val (.long p4), .second, .val (.ref a_1), .val (.ref a_8), .val (.ref r_17), .val (.ref r_20), .val (.ref r_23), .val (.ref r_26), .unset, .unset, .unset, .unset, .unset, .unset] [])) rfl (hb hby at_70) (by decide) (by decide)
  obtain ⟨a_27, g_27⟩ : ∃ z, z = T_26.heap.size := ⟨_, rfl⟩
  rw [← g_27] at A_27 D_27 st_27
  refine own_G.go st_27 ?_
  have F_27_entries : Fld Z h_27 a_27 "com/example/kttl/kttl/keyspace/DeadlineQueue" "entries" "[Lcom/example/kttl/kttl/keyspace/Entry;" .null := D_27 (Or.inl (own_w hw 62 rfl)) (ty := (.array (.object "com/example/kttl/kttl/keyspace/Entry"))) (by decide)
  have F_27_keys : Fld Z h_27 a_27 "com/example/kttl/kttl/keyspace/DeadlineQueue" "keys" "[Lcom/example/kttl/kttl/keyspace/Key;" .null := D_27 (Or.inl (own_w hw 66 rfl)) (ty := (.array (.object "com/example/kttl/kttl/keyspace/Key"))) (by decide)
  have F_27_size : Fld Z h_27 a_27 "com/example/kttl/kttl/keyspace/DeadlineQueue" "size" "I" (.int (0 : Int32)) := D_27 (Or.inl (own_w hw 73 rfl)) (ty := .int) (by decide)
  show own_G _ _ _ _ (T_27.setTop (mkF m 73 #[.val (.int p0), .val (.long p1), .second, .val (.long p2), .second, .val (.long p3), .second, .val (.long p4), .second, .val (.ref a_1), .val (.ref a_8), .val (.ref r_17), .val (.ref r_20), .val (.ref r_23), .val (.ref r_26), .unset, .unset, .unset, .unset, .unset, .unset] [(.ref a_27)]))
  refine own_G.go (fun t_ k_ => XS.dup X_27.here hx rfl (hb hby at_73) rfl rfl k_) ?_
  show own_G _ _ _ _ (T_27.setTop (mkF m 74 #[.val (.int p0), .val (.long p1), .second, .val (.long p2), .second, .val (.long p3), .second, .val (.long p4), .second, .val (.ref a_1), .val (.ref a_8), .val (.ref r_17), .val (.ref r_20), .val (.ref r_23), .val (.ref r_26), .unset, .unset, .unset, .unset, .unset, .unset] [(.ref a_27), (.ref a_27)]))
  have g0_a_27 : n0 ≤ a_27 := Nat.le_trans (Nat.le_trans Z0 (Nat.le_trans (Nat.le_trans (Nat.le_trans (Nat.le_trans (Nat.le_trans (Nat.le_trans (Nat.le_trans (Nat.le_trans (Nat.le_trans (Nat.le_trans (Nat.le_trans (Nat.le_trans (Nat.le_trans (Nat.le_trans (Nat.le_trans E_1.1 E_2.1) (Keep.of_wr W_3).1) K_7.1) E_8.1) E_9.1) (Keep.of_wr W_10).1) K_14.1) E_15.1) K_17.1) E_18.1) K_20.1) E_21.1) K_23.1) E_24.1) K_26.1)) (Nat.le_of_eq g_27.symm)
  obtain ⟨_, T_28, L_28, Q_28, X_28, st_28⟩ := own_callI X_27 hx rfl hown (mvT hZ (own_w hw 55 rfl)) (mvT hZ (own_w hw 56 rfl)) (mvT hZ (own_w hw 57 rfl)) (by decide) (Q := (Qdq Z a_27 h_27 n0)) (backOf (W := 1) (rm_dq l Z a0 hw [] a_27 h_27 n0 (Nat.le_trans Z0 (Nat.le_trans (Nat.le_trans (Nat.le_trans (Nat.le_trans (Nat.le_trans (Nat.le_trans (Nat.le_trans (Nat.le_trans (Nat.le_trans (Nat.le_trans (Nat.le_trans (Nat.le_trans (Nat.le_trans (Nat.le_trans (Nat.le_trans (Nat.le_trans E_1.1 E_2.1) (Keep.of_wr W_3).1) K_7.1) E_8.1) E_9.1) (Keep.of_wr W_10).1) K_14.1) E_15.1) K_17.1) E_18.1) K_20.1) E_21.1) K_23.1) E_24.1) K_26.1) E_27.1)) g0_a_27 A_27 F_27_entries F_27_keys F_27_size) hZ (own_w hw 57 rfl) (own_w hw 54 rfl) (by decide) (by decide)) (a := a_27) (g := (mkF m 74 #[.val (.int p0), .val (.long p1), .second, .val (.long p2), .second, .val (.long p3), .second, .val (.long p4), .second, .val (.ref a_1), .val (.ref a_8), .val (.ref r_17), .val (.ref r_20), .val (.ref r_23), .val (.ref r_26), .unset, .unset, .unset, .unset, .unset, .unset] [(.ref a_27), (.ref a_27)])) rfl (by rw [hml]; rfl) (argsL := []) (rest := [(.ref a_27)]) (lenOf pd_8 rfl) rfl (by show 2 * 0 + _ ≤ _; exact Nat.le_of_eq rfl) (hb hby at_74) e_27 rfl (by decide) (by decide)
  obtain ⟨ea_28, ka_28, kE_28, kK_28, rfl, Nq_28, K_28, la_28, lk_28, nek_28, Ex_28, F1_28, F2_28, F3_28, VE_28, VK_28, OE_28, OK_28⟩ := Q_28
  refine own_G.via st_28 ?_
  have N_28 := Fr.app N_26 Nq_28
  show own_G _ _ _ _ (T_28.setTop (mkF m 77 #[.val (.int p0), .val (.long p1), .second, .val (.long p2), .second, .val (.long p3), .second, .val (.long p4), .second, .val (.ref a_1), .val (.ref a_8), .val (.ref r_17), .val (.ref r_20), .val (.ref r_23), .val (.ref r_26), .unset, .unset, .unset, .unset, .unset, .unset] [(.ref a_27)]))
  refine own_G.go (fun t_ k_ => XS.astore X_28.here hx rfl (hb hby at_77) rfl rfl (l' := #[.val (.int p0), .val (.long p1), .second, .val (.long p2), .second, .val (.long p3), .second, .val (.long p4), .second, .val (.ref a_1), .val (.ref a_8), .val (.ref r_17), .val (.ref r_20), .val (.ref r_23), .val (.ref r_26), .val (.ref a_27), .unset, .unset, .unset, .unset, .unset]) rfl k_) ?_
  show own_G _ _ _ _ (T_28.setTop (mkF m 79 #[.val (.int p0), .val (.long p1), .second, .val (.long p2), .second, .val (.long p3), .second, .val (.long p4), .second, .val (.ref a_1), .val (.ref a_8), .val (.ref r_17), .val (.ref r_20), .val (.ref r_23), .val (.ref r_26), .val (.ref a_27), .unset, .unset, .unset, .unset, .unset] []))
  refine own_G.go (fun t_ k_ => XS.iloadN X_28.here hx rfl (hb hby at_79) rfl k_) ?_
  show own_G _ _ _ _ (T_28.setTop (mkF m 80 #[.val (.int p0), .val (.long p1), .second, .val (.long p2), .second, .val (.long p3), .second, .val (.long p4), .second, .val (.ref a_1), .val (.ref a_8), .val (.ref r_17), .val (.ref r_20), .val (.ref r_23), .val (.ref r_26), .val (.ref a_27), .unset, .unset, .unset, .unset, .unset] [(.int p0)]))
  refine own_G.go (fun t_ k_ => XS.iconst X_28.here hx rfl (hb hby at_80) k_) ?_
  show own_G _ _ _ _ (T_28.setTop (mkF m 81 #[.val (.int p0), .val (.long p1), .second, .val (.long p2), .second, .val (.long p3), .second, .val (.long p4), .second, .val (.ref a_1), .val (.ref a_8), .val (.ref r_17), .val (.ref r_20), .val (.ref r_23), .val (.ref r_26), .val (.ref a_27), .unset, .unset, .unset, .unset, .unset] [(.int (3 : Int32)), (.int p0)]))
  refine own_G.go (fun t_ k_ => XS.iand X_28.here hx rfl (hb hby at_81) rfl k_) ?_
  show own_G _ _ _ _ (T_28.setTop (mkF m 82 #[.val (.int p0), .val (.long p1), .second, .val (.long p2), .second, .val (.long p3), .second, .val (.long p4), .second, .val (.ref a_1), .val (.ref a_8), .val (.ref r_17), .val (.ref r_20), .val (.ref r_23), .val (.ref r_26), .val (.ref a_27), .unset, .unset, .unset, .unset, .unset] [(.int (p0 &&& (3 : Int32)))]))
  refine own_G.go (fun t_ k_ => XS.istore X_28.here hx rfl (hb hby at_82) rfl (l' := #[.val (.int p0), .val (.long p1), .second, .val (.long p2), .second, .val (.long p3), .second, .val (.long p4), .second, .val (.ref a_1), .val (.ref a_8), .val (.ref r_17), .val (.ref r_20), .val (.ref r_23), .val (.ref r_26), .val (.ref a_27), .val (.int (p0 &&& (3 : Int32))), .unset, .unset, .unset, .unset]) rfl k_) ?_
  show own_G _ _ _ _ (T_28.setTop (mkF m 84 #[.val (.int p0), .val (.long p1), .second, .val (.long p2), .second, .val (.long p3), .second, .val (.long p4), .second, .val (.ref a_1), .val (.ref a_8), .val (.ref r_17), .val (.ref r_20), .val (.ref r_23), .val (.ref r_26), .val (.ref a_27), .val (.int (p0 &&& (3 : Int32))), .unset, .unset, .unset, .unset] []))
  have ne_a_27_a_1 : a_27 ≠ a_1 := (Ne.symm (Nat.ne_of_lt (Nat.lt_of_lt_of_le (Nat.lt_of_lt_of_le A_1.lt (Nat.le_trans (Nat.le_trans (Nat.le_trans (Nat.le_trans (Nat.le_trans (Nat.le_trans (Nat.le_trans (Nat.le_trans (Nat.le_trans (Nat.le_trans (Nat.le_trans (Nat.le_trans (Nat.le_trans (Nat.le_trans E_2.1 (Keep.of_wr W_3).1) K_7.1) E_8.1) E_9.1) (Keep.of_wr W_10).1) K_14.1) E_15.1) K_17.1) E_18.1) K_20.1) E_21.1) K_23.1) E_24.1) K_26.1)) (Nat.le_of_eq g_27.symm))))
  have ne_a_27_a_8 : a_27 ≠ a_8 := (Ne.symm (Nat.ne_of_lt (Nat.lt_of_lt_of_le (Nat.lt_of_lt_of_le A_8.lt (Nat.le_trans (Nat.le_trans (Nat.le_trans (Nat.le_trans (Nat.le_trans (Nat.le_trans (Nat.le_trans (Nat.le_trans (Nat.le_trans (Nat.le_trans E_9.1 (Keep.of_wr W_10).1) K_14.1) E_15.1) K_17.1) E_18.1) K_20.1) E_21.1) K_23.1) E_24.1) K_26.1)) (Nat.le_of_eq g_27.symm))))
  have ne_a_27_r_23 : a_27 ≠ r_23 := (Ne.symm (Nat.ne_of_lt (Nat.lt_of_lt_of_le (Nat.lt_of_lt_of_le Ex_23.lt (Nat.le_trans E_24.1 K_26.1)) (Nat.le_of_eq g_27.symm))))
  have ne_a_27_r_26 : a_27 ≠ r_26 := (Ne.symm (Nat.ne_of_lt (Nat.lt_of_lt_of_le Ex_26.lt (Nat.le_of_eq g_27.symm))))
  have ne_a_1_a_8 : a_1 ≠ a_8 := (Nat.ne_of_lt (Nat.lt_of_lt_of_le (Nat.lt_of_lt_of_le A_1.lt (Nat.le_trans (Nat.le_trans E_2.1 (Keep.of_wr W_3).1) K_7.1)) (Nat.le_of_eq g_8.symm)))
  have ne_a_1_r_23 : a_1 ≠ r_23 := (Nat.ne_of_lt (Nat.lt_of_lt_of_le (Nat.lt_of_lt_of_le A_1.lt (Nat.le_trans (Nat.le_trans (Nat.le_trans (Nat.le_trans (Nat.le_trans (Nat.le_trans (Nat.le_trans (Nat.le_trans (Nat.le_trans (Nat.le_trans (Nat.le_trans E_2.1 (Keep.of_wr W_3).1) K_7.1) E_8.1) E_9.1) (Keep.of_wr W_10).1) K_14.1) E_15.1) K_17.1) E_18.1) K_20.1) E_21.1)) lo_23))
  have ne_a_1_r_26 : a_1 ≠ r_26 := (Nat.ne_of_lt (Nat.lt_of_lt_of_le (Nat.lt_of_lt_of_le A_1.lt (Nat.le_trans (Nat.le_trans (Nat.le_trans (Nat.le_trans (Nat.le_trans (Nat.le_trans (Nat.le_trans (Nat.le_trans (Nat.le_trans (Nat.le_trans (Nat.le_trans (Nat.le_trans (Nat.le_trans E_2.1 (Keep.of_wr W_3).1) K_7.1) E_8.1) E_9.1) (Keep.of_wr W_10).1) K_14.1) E_15.1) K_17.1) E_18.1) K_20.1) E_21.1) K_23.1) E_24.1)) lo_26))
  have ne_a_8_r_23 : a_8 ≠ r_23 := (Nat.ne_of_lt (Nat.lt_of_lt_of_le (Nat.lt_of_lt_of_le A_8.lt (Nat.le_trans (Nat.le_trans (Nat.le_trans (Nat.le_trans (Nat.le_trans (Nat.le_trans (Nat.le_trans E_9.1 (Keep.of_wr W_10).1) K_14.1) E_15.1) K_17.1) E_18.1) K_20.1) E_21.1)) lo_23))
  have ne_a_8_r_26 : a_8 ≠ r_26 := (Nat.ne_of_lt (Nat.lt_of_lt_of_le (Nat.lt_of_lt_of_le A_8.lt (Nat.le_trans (Nat.le_trans (Nat.le_trans (Nat.le_trans (Nat.le_trans (Nat.le_trans (Nat.le_trans (Nat.le_trans (Nat.le_trans E_9.1 (Keep.of_wr W_10).1) K_14.1) E_15.1) K_17.1) E_18.1) K_20.1) E_21.1) K_23.1) E_24.1)) lo_26))
  have ne_r_23_r_26 : r_23 ≠ r_26 := (Nat.ne_of_lt (Nat.lt_of_lt_of_le (Nat.lt_of_lt_of_le Ex_23.lt E_24.1) lo_26))
  have g0_r_23 : n0 ≤ r_23 := Nat.le_trans (Nat.le_trans Z0 (Nat.le_trans (Nat.le_trans (Nat.le_trans (Nat.le_trans (Nat.le_trans (Nat.le_trans (Nat.le_trans (Nat.le_trans (Nat.le_trans (Nat.le_trans (Nat.le_trans (Nat.le_trans E_1.1 E_2.1) (Keep.of_wr W_3).1) K_7.1) E_8.1) E_9.1) (Keep.of_wr W_10).1) K_14.1) E_15.1) K_17.1) E_18.1) K_20.1) E_21.1)) lo_23
  have g0_r_26 : n0 ≤ r_26 := Nat.le_trans (Nat.le_trans Z0 (Nat.le_trans (Nat.le_trans (Nat.le_trans (Nat.le_trans (Nat.le_trans (Nat.le_trans (Nat.le_trans (Nat.le_trans (Nat.le_trans (Nat.le_trans (Nat.le_trans (Nat.le_trans (Nat.le_trans (Nat.le_trans E_1.1 E_2.1) (Keep.of_wr W_3).1) K_7.1) E_8.1) E_9.1) (Keep.of_wr W_10).1) K_14.1) E_15.1) K_17.1) E_18.1) K_20.1) E_21.1) K_23.1) E_24.1)) lo_26
  have J114 : ∀ (TJ : State) (hJ : Heap) (locsJ : List Loc) (v1 v2 v3 : Value), Stand p l e room_1 s m #[(.int p0), (.long p1), (.long p2), (.long p3), (.long p4)] below meth c TJ locsJ 40 200 → TJ.heap = hJ → Fr n0 locsJ → n0 ≤ hJ.size → Old Z n0 hJ → (Exa Z hJ a_27 "com/example/kttl/kttl/keyspace/DeadlineQueue") → (Fld Z hJ a_27 "com/example/kttl/kttl/keyspace/DeadlineQueue" "entries" "[Lcom/example/kttl/kttl/keyspace/Entry;" v1) → (Fld Z hJ a_27 "com/example/kttl/kttl/keyspace/DeadlineQueue" "keys" "[Lcom/example/kttl/kttl/keyspace/Key;" v2) → (Fld Z hJ a_27 "com/example/kttl/kttl/keyspace/DeadlineQueue" "size" "I" v3) → (Exa Z hJ a_1 "com/example/kttl/kttl/keyspace/Key") → (Exa Z hJ a_8 "com/example/kttl/kttl/keyspace/Key") → (Exa Z hJ r_23 "com/example/kttl/kttl/keyspace/Entry") → (Fld Z hJ r_23 "com/example/kttl/kttl/keyspace/Entry" "slot" "I" (.int (-1 : Int32))) → (Fld Z hJ r_23 "com/example/kttl/kttl/keyspace/Entry" "hasDeadline" "Z" (.int (1 : Int32))) → (Fld Z hJ r_23 "com/example/kttl/kttl/keyspace/Entry" "deadline" "J" (.long p3)) → (Exa Z hJ r_26 "com/example/kttl/kttl/keyspace/Entry") → (Fld Z hJ r_26 "com/example/kttl/kttl/keyspace/Entry" "slot" "I" (.int (-1 : Int32))) → (Fld Z hJ r_26 "com/example/kttl/kttl/keyspace/Entry" "hasDeadline" "Z" (.int (1 : Int32))) → (Fld Z hJ r_26 "com/example/kttl/kttl/keyspace/Entry" "deadline" "J" (.long p4)) → own_G p.tables e below (fun o t => ∃ v L, o = .returned v ∧ Qlaw n0 v t.heap L ∧ FrameEnd s o t L room_1.cells room_1.slots) (TJ.setTop (mkF m 114 #[.val (.int p0), .val (.long p1), .second, .val (.long p2), .second, .val (.long p3), .second, .val (.long p4), .second, .val (.ref a_1), .val (.ref a_8), .val (.ref r_17), .val (.ref r_20), .val (.ref r_23), .val (.ref r_26), .val (.ref a_27), .val (.int (p0 &&& (3 : Int32))), .unset, .unset, .unset, .unset] [])) := by
    intro TJ hJ locsJ v1 v2 v3 XJ eJ NJ ZJ OJ JQ JF JK JS JK1 JK2 JX_E JX_S JX_H JX_D JY_E JY_S JY_H JY_D
    refine own_G.go (fun t_ k_ => XS.aload XJ.here hx rfl (hb hby at_114) rfl rfl k_) ?_
    show own_G _ _ _ _ (TJ.setTop (mkF m 116 #[.val (.int p0), .val (.long p1), .second, .val (.long p2), .second, .val (.long p3), .second, .val (.long p4), .second, .val (.ref a_1), .val (.ref a_8), .val (.ref r_17), .val (.ref r_20), .val (.ref r_23), .val (.ref r_26), .val (.ref a_27), .val (.int (p0 &&& (3 : Int32))), .unset, .unset, .unset, .unset] [(.ref a_27)]))
    obtain ⟨cq_29, kq_29, q_29a, q_29b, q_29c⟩ := isOf hZ eJ JQ
    obtain ⟨_, T_29, L_29, Q_29, X_29, st_29⟩ := own_callV XJ hx (z := (⟨"com/example/kttl/kttl/keyspace/DeadlineQueue", "clear", "()V"⟩ : MethodName)) hown (mvT hZ (own_w hw 67 rfl)) (mvT hZ (own_w hw 68 rfl)) (notFace_of_selects (args := #[]) (mvT hZ (own_w hw 70 rfl))) (mvT hZ (own_w hw 70 rfl)) (mvT hZ (own_w hw 69 rfl)) (by decide) (Q := (Qdq Z a_27 hJ n0)) (backOf (W := 0) (rm_clear l Z a0 hw [] a_27 v1 v2 v3 hJ n0 ZJ g0_a_27 JQ JF JK JS) hZ (own_w hw 71 rfl) (own_w hw 54 rfl) (by decide) (by decide)) q_29a q_29c (g := (mkF m 116 #[.val (.int p0), .val (.long p1), .second, .val (.long p2), .second, .val (.long p3), .second, .val (.long p4), .second, .val (.ref a_1), .val (.ref a_8), .val (.ref r_17), .val (.ref r_20), .val (.ref r_23), .val (.ref r_26), .val (.ref a_27), .val (.int (p0 &&& (3 : Int32))), .unset, .unset, .unset, .unset] [(.ref a_27)])) rfl (by rw [hml]; rfl) (argsL := []) (rest := []) (lenOf pd_8 rfl) rfl (by show 2 * 0 + _ ≤ _; exact Nat.le_of_eq rfl) (hb hby at_116) eJ rfl (by decide) (by decide)
    obtain ⟨ea_29, ka_29, kE_29, kK_29, rfl, Nq_29, K_29, la_29, lk_29, nek_29, Ex_29, F1_29, F2_29, F3_29, VE_29, VK_29, OE_29, OK_29⟩ := Q_29
    refine own_G.via st_29 ?_
    have N_29 := Fr.app NJ Nq_29
    show own_G _ _ _ _ (T_29.setTop (mkF m 119 #[.val (.int p0), .val (.long p1), .second, .val (.long p2), .second, .val (.long p3), .second, .val (.long p4), .second, .val (.ref a_1), .val (.ref a_8), .val (.ref r_17), .val (.ref r_20), .val (.ref r_23), .val (.ref r_26), .val (.ref a_27), .val (.int (p0 &&& (3 : Int32))), .unset, .unset, .unset, .unset] []))
    refine own_G.go (fun t_ k_ => XS.aload X_29.here hx rfl (hb hby at_119) rfl rfl k_) ?_
    show own_G _ _ _ _ (T_29.setTop (mkF m 121 #[.val (.int p0), .val (.long p1), .second, .val (.long p2), .second, .val (.long p3), .second, .val (.long p4), .second, .val (.ref a_1), .val (.ref a_8), .val (.ref r_17), .val (.ref r_20), .val (.ref r_23), .val (.ref r_26), .val (.ref a_27), .val (.int (p0 &&& (3 : Int32))), .unset, .unset, .unset, .unset] [(.ref a_27)]))
    obtain ⟨cq_30, kq_30, q_30a, q_30b, q_30c⟩ := isOf hZ rfl Ex_29
    obtain ⟨_, T_30, L_30, Q_30, X_30, st_30⟩ := own_callV X_29 hx (z := (⟨"com/example/kttl/kttl/keyspace/DeadlineQueue", "isEmpty", "()Z"⟩ : MethodName)) hown (mvT hZ (own_w hw 74 rfl)) (mvT hZ (own_w hw 75 rfl)) (notFace_of_selects (args := #[]) (mvT hZ (own_w hw 77 rfl))) (mvT hZ (own_w hw 77 rfl)) (mvT hZ (own_w hw 76 rfl)) (by decide) (Q := (Qp (.int (1 : Int32)) T_29.heap)) (backOf (W := 0) (rm_ie l Z a0 hw [] a_27 T_29.heap n0 (Nat.le_trans ZJ K_29.1) F3_29) hZ (own_w hw 78 rfl) (own_w hw 54 rfl) (by decide) (by decide)) q_30a q_30c (g := (mkF m 121 #[.val (.int p0), .val (.long p1), .second, .val (.long p2), .second, .val (.long p3), .second, .val (.long p4), .second, .val (.ref a_1), .val (.ref a_8), .val (.ref r_17), .val (.ref r_20), .val (.ref r_23), .val (.ref r_26), .val (.ref a_27), .val (.int (p0 &&& (3 : Int32))), .unset, .unset, .unset, .unset] [(.ref a_27)])) rfl (by rw [hml]; rfl) (argsL := []) (rest := []) (lenOf pd_6 rfl) rfl (by show 2 * 0 + _ ≤ _; exact Nat.le_of_eq rfl) (hb hby at_121) rfl rfl (by decide) (by decide)
    obtain ⟨rfl, rfl, eh_30⟩ := Q_30
    refine own_G.via st_30 ?_
    have N_30 := Fr.app N_29 (Fr.nil n0)
    show own_G _ _ _ _ (T_30.setTop (mkF m 124 #[.val (.int p0), .val (.long p1), .second, .val (.long p2), .second, .val (.long p3), .second, .val (.long p4), .second, .val (.ref a_1), .val (.ref a_8), .val (.ref r_17), .val (.ref r_20), .val (.ref r_23), .val (.ref r_26), .val (.ref a_27), .val (.int (p0 &&& (3 : Int32))), .unset, .unset, .unset, .unset] [(.int (1 : Int32))]))
    refine own_G.go (fun t_ k_ => XS.istore X_30.here hx rfl (hb hby at_124) rfl (l' := #[.val (.int p0), .val (.long p1), .second, .val (.long p2), .second, .val (.long p3), .second, .val (.long p4), .second, .val (.ref a_1), .val (.ref a_8), .val (.ref r_17), .val (.ref r_20), .val (.ref r_23), .val (.ref r_26), .val (.ref a_27), .val (.int (p0 &&& (3 : Int32))), .val (.int (1 : Int32)), .unset, .unset, .unset]) rfl k_) ?_
    show own_G _ _ _ _ (T_30.setTop (mkF m 126 #[.val (.int p0), .val (.long p1), .second, .val (.long p2), .second, .val (.long p3), .second, .val (.long p4), .second, .val (.ref a_1), .val (.ref a_8), .val (.ref r_17), .val (.ref r_20), .val (.ref r_23), .val (.ref r_26), .val (.ref a_27), .val (.int (p0 &&& (3 : Int32))), .val (.int (1 : Int32)), .unset, .unset, .unset] []))
    refine own_G.go (fun t_ k_ => XS.aload X_30.here hx rfl (hb hby at_126) rfl rfl k_) ?_
    show own_G _ _ _ _ (T_30.setTop (mkF m 128 #[.val (.int p0), .val (.long p1), .second, .val (.long p2), .second, .val (.long p3), .second, .val (.long p4), .second, .val (.ref a_1), .val (.ref a_8), .val (.ref r_17), .val (.ref r_20), .val (.ref r_23), .val (.ref r_26), .val (.ref a_27), .val (.int (p0 &&& (3 : Int32))), .val (.int (1 : Int32)), .unset, .unset, .unset] [(.ref a_27)]))
    refine own_G.go (fun t_ k_ => XS.aload X_30.here hx rfl (hb hby at_128) rfl rfl k_) ?_
    show own_G _ _ _ _ (T_30.setTop (mkF m 130 #[.val (.int p0), .val (.long p1), .second, .val (.long p2), .second, .val (.long p3), .second, .val (.long p4), .second, .val (.ref a_1), .val (.ref a_8), .val (.ref r_17), .val (.ref r_20), .val (.ref r_23), .val (.ref r_26), .val (.ref a_27), .val (.int (p0 &&& (3 : Int32))), .val (.int (1 : Int32)), .unset, .unset, .unset] [(.ref a_1), (.ref a_27)]))
    refine own_G.go (fun t_ k_ => XS.aload X_30.here hx rfl (hb hby at_130) rfl rfl k_) ?_
    show own_G _ _ _ _ (T_30.setTop (mkF m 132 #[.val (.int p0), .val (.long p1), .second, .val (.long p2), .second, .val (.long p3), .second, .val (.long p4), .second, .val (.ref a_1), .val (.ref a_8), .val (.ref r_17), .val (.ref r_20), .val (.ref r_23), .val (.ref r_26), .val (.ref a_27), .val (.int (p0 &&& (3 : Int32))), .val (.int (1 : Int32)), .unset, .unset, .unset] [(.ref r_23), (.ref a_1), (.ref a_27)]))
    have JX_E'_31 : Exa Z T_29.heap r_23 "com/example/kttl/kttl/keyspace/Entry" := (JX_E.keep K_29)
    have JX_S'_32 : Fld Z T_29.heap r_23 "com/example/kttl/kttl/keyspace/Entry" "slot" "I" (.int (-1 : Int32)) := (JX_S.keep K_29 (ninS (Ne.symm ne_a_27_r_23) nin0))
    have JX_H'_33 : Fld Z T_29.heap r_23 "com/example/kttl/kttl/keyspace/Entry" "hasDeadline" "Z" (.int (1 : Int32)) := (JX_H.keep K_29 (ninS (Ne.symm ne_a_27_r_23) nin0))
    have JX_D'_34 : Fld Z T_29.heap r_23 "com/example/kttl/kttl/keyspace/Entry" "deadline" "J" (.long p3) := (JX_D.keep K_29 (ninS (Ne.symm ne_a_27_r_23) nin0))
    have JK1'_35 : Exa Z T_29.heap a_1 "com/example/kttl/kttl/keyspace/Key" := (JK1.keep K_29)
    have g0_ea_29 : n0 ≤ ea_29 := Nat.le_trans ZJ la_29
    have g0_ka_29 : n0 ≤ ka_29 := Nat.le_trans ZJ lk_29
    obtain ⟨cq_36, kq_36, q_36a, q_36b, q_36c⟩ := isOf hZ eh_30 Ex_29
    obtain ⟨_, T_36, L_36, Q_36, X_36, st_36⟩ := own_callV X_30 hx (z := (⟨"com/example/kttl/kttl/keyspace/DeadlineQueue", "add", "(Lcom/example/kttl/kttl/keyspace/Key;Lcom/example/kttl/kttl/keyspace/Entry;)V"⟩ : MethodName)) hown (mvT hZ (own_w hw 79 rfl)) (mvT hZ (own_w hw 80 rfl)) (notFace_of_selects (args := #[]) (mvT hZ (own_w hw 82 rfl))) (mvT hZ (own_w hw 82 rfl)) (mvT hZ (own_w hw 81 rfl)) (by decide) (Q := (Qad Z a_27 ea_29 ka_29 r_23 kE_29 kK_29 p3 (0 : Int32) ([(.ref r_23), .null, .null, .null, .null, .null, .null, .null, .null, .null, .null, .null, .null, .null, .null, .null] : List Value) ([(.ref a_1), .null, .null, .null, .null, .null, .null, .null, .null, .null, .null, .null, .null, .null, .null, .null] : List Value) T_29.heap n0)) (backOf (W := 0) (rm_add0 l Z a0 hw [] a_27 ea_29 ka_29 r_23 a_1 kE_29 kK_29 p3 T_29.heap n0 (Nat.le_trans ZJ K_29.1) g0_a_27 g0_ea_29 g0_ka_29 g0_r_23 (Nat.ne_of_lt (Nat.lt_of_lt_of_le JQ.lt la_29)) (Nat.ne_of_lt (Nat.lt_of_lt_of_le JQ.lt lk_29)) ne_a_27_r_23 nek_29 (Nat.ne_of_lt (Nat.lt_of_lt_of_le JX_E.lt la_29)) (Nat.ne_of_lt (Nat.lt_of_lt_of_le JX_E.lt lk_29)) Ex_29 F1_29 F2_29 JX_E'_31 JX_S'_32 JX_H'_33 JX_D'_34 JK1'_35 VE_29 VK_29 OE_29 OK_29  F3_29) hZ (own_w hw 83 rfl) (own_w hw 54 rfl) (by decide) (by decide)) q_36a q_36c (g := (mkF m 132 #[.val (.int p0), .val (.long p1), .second, .val (.long p2), .second, .val (.long p3), .second, .val (.long p4), .second, .val (.ref a_1), .val (.ref a_8), .val (.ref r_17), .val (.ref r_20), .val (.ref r_23), .val (.ref r_26), .val (.ref a_27), .val (.int (p0 &&& (3 : Int32))), .val (.int (1 : Int32)), .unset, .unset, .unset] [(.ref r_23), (.ref a_1), (.ref a_27)])) rfl (by rw [hml]; rfl) (argsL := [(.ref a_1), (.ref r_23)]) (rest := []) (lenOf pd_9 rfl) rfl (by show 2 * 0 + _ ≤ _; exact Nat.le_of_eq rfl) (hb hby at_132) eh_30 rfl (by decide) (by decide)
    obtain ⟨rfl, Nq_36, K_36, VE_36, VK_36, Ex_36, Fs_36, Fh_36, Fd_36, Eq_36, Qf_36, Qk_36, Qs_36⟩ := Q_36
    refine own_G.via st_36 ?_
    have Qt_36 : Fld Z T_36.heap a_27 "com/example/kttl/kttl/keyspace/DeadlineQueue" "size" "I" (.int (1 : Int32)) := Qs_36
    have N_36 := Fr.app N_30 Nq_36
    show own_G _ _ _ _ (T_36.setTop (mkF m 135 #[.val (.int p0), .val (.long p1), .second, .val (.long p2), .second, .val (.long p3), .second, .val (.long p4), .second, .val (.ref a_1), .val (.ref a_8), .val (.ref r_17), .val (.ref r_20), .val (.ref r_23), .val (.ref r_26), .val (.ref a_27), .val (.int (p0 &&& (3 : Int32))), .val (.int (1 : Int32)), .unset, .unset, .unset] []))
    refine own_G.go (fun t_ k_ => XS.aload X_36.here hx rfl (hb hby at_135) rfl rfl k_) ?_
    show own_G _ _ _ _ (T_36.setTop (mkF m 137 #[.val (.int p0), .val (.long p1), .second, .val (.long p2), .second, .val (.long p3), .second, .val (.long p4), .second, .val (.ref a_1), .val (.ref a_8), .val (.ref r_17), .val (.ref r_20), .val (.ref r_23), .val (.ref r_26), .val (.ref a_27), .val (.int (p0 &&& (3 : Int32))), .val (.int (1 : Int32)), .unset, .unset, .unset] [(.ref a_27)]))
    refine own_G.go (fun t_ k_ => XS.aload X_36.here hx rfl (hb hby at_137) rfl rfl k_) ?_
    show own_G _ _ _ _ (T_36.setTop (mkF m 139 #[.val (.int p0), .val (.long p1), .second, .val (.long p2), .second, .val (.long p3), .second, .val (.long p4), .second, .val (.ref a_1), .val (.ref a_8), .val (.ref r_17), .val (.ref r_20), .val (.ref r_23), .val (.ref r_26), .val (.ref a_27), .val (.int (p0 &&& (3 : Int32))), .val (.int (1 : Int32)), .unset, .unset, .unset] [(.ref a_8), (.ref a_27)]))
    refine own_G.go (fun t_ k_ => XS.aload X_36.here hx rfl (hb hby at_139) rfl rfl k_) ?_
    show own_G _ _ _ _ (T_36.setTop (mkF m 141 #[.val (.int p0), .val (.long p1), .second, .val (.long p2), .second, .val (.long p3), .second, .val (.long p4), .second, .val (.ref a_1), .val (.ref a_8), .val (.ref r_17), .val (.ref r_20), .val (.ref r_23), .val (.ref r_26), .val (.ref a_27), .val (.int (p0 &&& (3 : Int32))), .val (.int (1 : Int32)), .unset, .unset, .unset] [(.ref r_26), (.ref a_8), (.ref a_27)]))
    by_cases hdd_141 : p4 < p3
    · have JY_E'_37 : Exa Z T_36.heap r_26 "com/example/kttl/kttl/keyspace/Entry" := ((JY_E.keep K_29).keep K_36)
      have JY_S'_38 : Fld Z T_36.heap r_26 "com/example/kttl/kttl/keyspace/Entry" "slot" "I" (.int (-1 : Int32)) := ((JY_S.keep K_29 (ninS (Ne.symm ne_a_27_r_26) nin0)).keep K_36 (ninS (Ne.symm ne_a_27_r_26) (ninS (Nat.ne_of_lt (Nat.lt_of_lt_of_le JY_E.lt la_29)) (ninS (Nat.ne_of_lt (Nat.lt_of_lt_of_le JY_E.lt lk_29)) (ninS (Ne.symm ne_r_23_r_26) nin0)))))
      have JY_H'_39 : Fld Z T_36.heap r_26 "com/example/kttl/kttl/keyspace/Entry" "hasDeadline" "Z" (.int (1 : Int32)) := ((JY_H.keep K_29 (ninS (Ne.symm ne_a_27_r_26) nin0)).keep K_36 (ninS (Ne.symm ne_a_27_r_26) (ninS (Nat.ne_of_lt (Nat.lt_of_lt_of_le JY_E.lt la_29)) (ninS (Nat.ne_of_lt (Nat.lt_of_lt_of_le JY_E.lt lk_29)) (ninS (Ne.symm ne_r_23_r_26) nin0)))))
      have JY_D'_40 : Fld Z T_36.heap r_26 "com/example/kttl/kttl/keyspace/Entry" "deadline" "J" (.long p4) := ((JY_D.keep K_29 (ninS (Ne.symm ne_a_27_r_26) nin0)).keep K_36 (ninS (Ne.symm ne_a_27_r_26) (ninS (Nat.ne_of_lt (Nat.lt_of_lt_of_le JY_E.lt la_29)) (ninS (Nat.ne_of_lt (Nat.lt_of_lt_of_le JY_E.lt lk_29)) (ninS (Ne.symm ne_r_23_r_26) nin0)))))
      have JK2'_41 : Exa Z T_36.heap a_8 "com/example/kttl/kttl/keyspace/Key" := ((JK2.keep K_29).keep K_36)
      have JK1'_42 : Exa Z T_36.heap a_1 "com/example/kttl/kttl/keyspace/Key" := (JK1'_35.keep K_36)
      obtain ⟨cq_43, kq_43, q_43a, q_43b, q_43c⟩ := isOf hZ rfl Eq_36
      obtain ⟨_, T_43, L_43, Q_43, X_43, st_43⟩ := own_callV X_36 hx (z := (⟨"com/example/kttl/kttl/keyspace/DeadlineQueue", "add", "(Lcom/example/kttl/kttl/keyspace/Key;Lcom/example/kttl/kttl/keyspace/Entry;)V"⟩ : MethodName)) hown (mvT hZ (own_w hw 79 rfl)) (mvT hZ (own_w hw 80 rfl)) (notFace_of_selects (args := #[]) (mvT hZ (own_w hw 82 rfl))) (mvT hZ (own_w hw 82 rfl)) (mvT hZ (own_w hw 81 rfl)) (by decide) (Q := (Qadw Z a_27 ea_29 ka_29 r_26 r_23 kE_29 kK_29 p4 p3 ([(.ref r_26), (.ref r_23), .null, .null, .null, .null, .null, .null, .null, .null, .null, .null, .null, .null, .null, .null] : List Value) ([(.ref a_8), (.ref a_1), .null, .null, .null, .null, .null, .null, .null, .null, .null, .null, .null, .null, .null, .null] : List Value) T_36.heap n0)) (backOf (W := 0) (rm_add1b l Z a0 hw [] a_27 ea_29 ka_29 r_26 a_8 kE_29 kK_29 p4 r_23 a_1 p3 (.int (0 : Int32)) T_36.heap n0 (Nat.le_trans ZJ (Nat.le_trans K_29.1 K_36.1)) g0_a_27 g0_ea_29 g0_ka_29 g0_r_26 (Nat.ne_of_lt (Nat.lt_of_lt_of_le JQ.lt la_29)) (Nat.ne_of_lt (Nat.lt_of_lt_of_le JQ.lt lk_29)) ne_a_27_r_26 nek_29 (Nat.ne_of_lt (Nat.lt_of_lt_of_le JY_E.lt la_29)) (Nat.ne_of_lt (Nat.lt_of_lt_of_le JY_E.lt lk_29)) Eq_36 Qf_36 Qk_36 JY_E'_37 JY_S'_38 JY_H'_39 JY_D'_40 JK2'_41 VE_36 VK_36 OE_29 OK_29 g0_r_23 ne_a_27_r_23 (Nat.ne_of_lt (Nat.lt_of_lt_of_le JX_E.lt la_29)) (Nat.ne_of_lt (Nat.lt_of_lt_of_le JX_E.lt lk_29)) (Ne.symm ne_r_23_r_26) Ex_36 Fs_36 Fh_36 Fd_36 JK1'_42 hdd_141 Qt_36) hZ (own_w hw 83 rfl) (own_w hw 54 rfl) (by decide) (by decide)) q_43a q_43c (g := (mkF m 141 #[.val (.int p0), .val (.long p1), .second, .val (.long p2), .second, .val (.long p3), .second, .val (.long p4), .second, .val (.ref a_1), .val (.ref a_8), .val (.ref r_17), .val (.ref r_20), .val (.ref r_23), .val (.ref r_26), .val (.ref a_27), .val (.int (p0 &&& (3 : Int32))), .val (.int (1 : Int32)), .unset, .unset, .unset] [(.ref r_26), (.ref a_8), (.ref a_27)])) rfl (by rw [hml]; rfl) (argsL := [(.ref a_8), (.ref r_26)]) (rest := []) (lenOf pd_9 rfl) rfl (by show 2 * 0 + _ ≤ _; exact Nat.le_of_eq rfl) (hb hby at_141) rfl rfl (by decide) (by decide)
      obtain ⟨rfl, Nq_43, K_43, VE_43, VK_43, Ex_43, Fs_43, Fh_43, Fd_43, Ey_43, Gs_43, Gh_43, Gd_43, Eq_43, Qf_43, Qk_43, Qs_43⟩ := Q_43
      refine own_G.via st_43 ?_
      have Qt_43 : Fld Z T_43.heap a_27 "com/example/kttl/kttl/keyspace/DeadlineQueue" "size" "I" (.int (2 : Int32)) := Qs_43
      have N_43 := Fr.app N_36 Nq_43
      show own_G _ _ _ _ (T_43.setTop (mkF m 144 #[.val (.int p0), .val (.long p1), .second, .val (.long p2), .second, .val (.long p3), .second, .val (.long p4), .second, .val (.ref a_1), .val (.ref a_8), .val (.ref r_17), .val (.ref r_20), .val (.ref r_23), .val (.ref r_26), .val (.ref a_27), .val (.int (p0 &&& (3 : Int32))), .val (.int (1 : Int32)), .unset, .unset, .unset] []))
      refine own_G.go (fun t_ k_ => XS.lload X_43.here hx rfl (hb hby at_144) rfl k_) ?_
      show own_G _ _ _ _ (T_43.setTop (mkF m 146 #[.val (.int p0), .val (.long p1), .second, .val (.long p2), .second, .val (.long p3), .second, .val (.long p4), .second, .val (.ref a_1), .val (.ref a_8), .val (.ref r_17), .val (.ref r_20), .val (.ref r_23), .val (.ref r_26), .val (.ref a_27), .val (.int (p0 &&& (3 : Int32))), .val (.int (1 : Int32)), .unset, .unset, .unset] [(.long p4)]))
      refine own_G.go (fun t_ k_ => XS.lload X_43.here hx rfl (hb hby at_146) rfl k_) ?_
      show own_G _ _ _ _ (T_43.setTop (mkF m 148 #[.val (.int p0), .val (.long p1), .second, .val (.long p2), .second, .val (.long p3), .second, .val (.long p4), .second, .val (.ref a_1), .val (.ref a_8), .val (.ref r_17), .val (.ref r_20), .val (.ref r_23), .val (.ref r_26), .val (.ref a_27), .val (.int (p0 &&& (3 : Int32))), .val (.int (1 : Int32)), .unset, .unset, .unset] [(.long p3), (.long p4)]))
      refine own_G.go (fun t_ k_ => XS.lcmp X_43.here hx rfl (hb hby at_148) rfl k_) ?_
      show own_G _ _ _ _ (T_43.setTop (mkF m 149 #[.val (.int p0), .val (.long p1), .second, .val (.long p2), .second, .val (.long p3), .second, .val (.long p4), .second, .val (.ref a_1), .val (.ref a_8), .val (.ref r_17), .val (.ref r_20), .val (.ref r_23), .val (.ref r_26), .val (.ref a_27), .val (.int (p0 &&& (3 : Int32))), .val (.int (1 : Int32)), .unset, .unset, .unset] [(.int (lcmpW p4 p3))]))
      refine own_G.go (fun t_ k_ => XS.ifNo X_43.here hx rfl (hb hby at_149) rfl ((if0 _ _).trans (tlt ((lw_lt _ _).mpr hdd_141 : (lcmpW p4 p3) < (0 : Int32))).2.1) k_) ?_
      show own_G _ _ _ _ (T_43.setTop (mkF m 152 #[.val (.int p0), .val (.long p1), .second, .val (.long p2), .second, .val (.long p3), .second, .val (.long p4), .second, .val (.ref a_1), .val (.ref a_8), .val (.ref r_17), .val (.ref r_20), .val (.ref r_23), .val (.ref r_26), .val (.ref a_27), .val (.int (p0 &&& (3 : Int32))), .val (.int (1 : Int32)), .unset, .unset, .unset] []))
      refine own_G.go (fun t_ k_ => XS.lload X_43.here hx rfl (hb hby at_152) rfl k_) ?_
      show own_G _ _ _ _ (T_43.setTop (mkF m 154 #[.val (.int p0), .val (.long p1), .second, .val (.long p2), .second, .val (.long p3), .second, .val (.long p4), .second, .val (.ref a_1), .val (.ref a_8), .val (.ref r_17), .val (.ref r_20), .val (.ref r_23), .val (.ref r_26), .val (.ref a_27), .val (.int (p0 &&& (3 : Int32))), .val (.int (1 : Int32)), .unset, .unset, .unset] [(.long p4)]))
      refine own_G.go (fun t_ k_ => XS.lstore X_43.here hx rfl (hb hby at_154) rfl (l' := #[.val (.int p0), .val (.long p1), .second, .val (.long p2), .second, .val (.long p3), .second, .val (.long p4), .second, .val (.ref a_1), .val (.ref a_8), .val (.ref r_17), .val (.ref r_20), .val (.ref r_23), .val (.ref r_26), .val (.ref a_27), .val (.int (p0 &&& (3 : Int32))), .val (.int (1 : Int32)), .val (.long p4), .second, .unset]) rfl k_) ?_
      show own_G _ _ _ _ (T_43.setTop (mkF m 156 #[.val (.int p0), .val (.long p1), .second, .val (.long p2), .second, .val (.long p3), .second, .val (.long p4), .second, .val (.ref a_1), .val (.ref a_8), .val (.ref r_17), .val (.ref r_20), .val (.ref r_23), .val (.ref r_26), .val (.ref a_27), .val (.int (p0 &&& (3 : Int32))), .val (.int (1 : Int32)), .val (.long p4), .second, .unset] []))
      refine own_G.go (fun t_ k_ => XS.aload X_43.here hx rfl (hb hby at_156) rfl rfl k_) ?_
      show own_G _ _ _ _ (T_43.setTop (mkF m 158 #[.val (.int p0), .val (.long p1), .second, .val (.long p2), .second, .val (.long p3), .second, .val (.long p4), .second, .val (.ref a_1), .val (.ref a_8), .val (.ref r_17), .val (.ref r_20), .val (.ref r_23), .val (.ref r_26), .val (.ref a_27), .val (.int (p0 &&& (3 : Int32))), .val (.int (1 : Int32)), .val (.long p4), .second, .unset] [(.ref a_8)]))
      refine own_G.go (fun t_ k_ => XS.astore X_43.here hx rfl (hb hby at_158) rfl rfl (l' := #[.val (.int p0), .val (.long p1), .second, .val (.long p2), .second, .val (.long p3), .second, .val (.long p4), .second, .val (.ref a_1), .val (.ref a_8), .val (.ref r_17), .val (.ref r_20), .val (.ref r_23), .val (.ref r_26), .val (.ref a_27), .val (.int (p0 &&& (3 : Int32))), .val (.int (1 : Int32)), .val (.long p4), .second, .val (.ref a_8)]) rfl k_) ?_
      show own_G _ _ _ _ (T_43.setTop (mkF m 160 #[.val (.int p0), .val (.long p1), .second, .val (.long p2), .second, .val (.long p3), .second, .val (.long p4), .second, .val (.ref a_1), .val (.ref a_8), .val (.ref r_17), .val (.ref r_20), .val (.ref r_23), .val (.ref r_26), .val (.ref a_27), .val (.int (p0 &&& (3 : Int32))), .val (.int (1 : Int32)), .val (.long p4), .second, .val (.ref a_8)] []))
      refine own_G.go (fun t_ k_ => XS.goto X_43.here hx rfl (pc0 := 160) (pc' := 171) rfl (hb hby at_160) (by decide) (by decide) k_) ?_
      show own_G _ _ _ _ (T_43.setTop (mkF m 171 #[.val (.int p0), .val (.long p1), .second, .val (.long p2), .second, .val (.long p3), .second, .val (.long p4), .second, .val (.ref a_1), .val (.ref a_8), .val (.ref r_17), .val (.ref r_20), .val (.ref r_23), .val (.ref r_26), .val (.ref a_27), .val (.int (p0 &&& (3 : Int32))), .val (.int (1 : Int32)), .val (.long p4), .second, .val (.ref a_8)] []))
      refine own_G.go (fun t_ k_ => XS.iload X_43.here hx rfl (hb hby at_171) rfl k_) ?_
      show own_G _ _ _ _ (T_43.setTop (mkF m 173 #[.val (.int p0), .val (.long p1), .second, .val (.long p2), .second, .val (.long p3), .second, .val (.long p4), .second, .val (.ref a_1), .val (.ref a_8), .val (.ref r_17), .val (.ref r_20), .val (.ref r_23), .val (.ref r_26), .val (.ref a_27), .val (.int (p0 &&& (3 : Int32))), .val (.int (1 : Int32)), .val (.long p4), .second, .val (.ref a_8)] [(.int (1 : Int32))]))
      refine own_G.go (fun t_ k_ => XS.ifNo X_43.here hx rfl (hb hby at_173) rfl ((if0 _ _).trans (feq (by decide : ¬ ((1 : Int32) = (0 : Int32)))).1) k_) ?_
      show own_G _ _ _ _ (T_43.setTop (mkF m 176 #[.val (.int p0), .val (.long p1), .second, .val (.long p2), .second, .val (.long p3), .second, .val (.long p4), .second, .val (.ref a_1), .val (.ref a_8), .val (.ref r_17), .val (.ref r_20), .val (.ref r_23), .val (.ref r_26), .val (.ref a_27), .val (.int (p0 &&& (3 : Int32))), .val (.int (1 : Int32)), .val (.long p4), .second, .val (.ref a_8)] []))
      refine own_G.go (fun t_ k_ => XS.aload X_43.here hx rfl (hb hby at_176) rfl rfl k_) ?_
      show own_G _ _ _ _ (T_43.setTop (mkF m 178 #[.val (.int p0), .val (.long p1), .second, .val (.long p2), .second, .val (.long p3), .second, .val (.long p4), .second, .val (.ref a_1), .val (.ref a_8), .val (.ref r_17), .val (.ref r_20), .val (.ref r_23), .val (.ref r_26), .val (.ref a_27), .val (.int (p0 &&& (3 : Int32))), .val (.int (1 : Int32)), .val (.long p4), .second, .val (.ref a_8)] [(.ref a_27)]))
      obtain ⟨cq_44, kq_44, q_44a, q_44b, q_44c⟩ := isOf hZ rfl Eq_43
      obtain ⟨_, T_44, L_44, Q_44, X_44, st_44⟩ := own_callV X_43 hx (z := (⟨"com/example/kttl/kttl/keyspace/DeadlineQueue", "earliestDeadline", "()J"⟩ : MethodName)) hown (mvT hZ (own_w hw 105 rfl)) (mvT hZ (own_w hw 106 rfl)) (notFace_of_selects (args := #[]) (mvT hZ (own_w hw 108 rfl))) (mvT hZ (own_w hw 108 rfl)) (mvT hZ (own_w hw 107 rfl)) (by decide) (Q := (Qp (.long p4) T_43.heap)) (backOf (W := 0) (rm_ed l Z a0 hw [] a_27 ea_29 r_26 r_23 kE_29 p4 T_43.heap n0 (Nat.le_trans ZJ (Nat.le_trans (Nat.le_trans K_29.1 K_36.1) K_43.1)) Qf_43 VE_43 Ex_43 Fh_43 Fd_43) hZ (own_w hw 109 rfl) (own_w hw 54 rfl) (by decide) (by decide)) q_44a q_44c (g := (mkF m 178 #[.val (.int p0), .val (.long p1), .second, .val (.long p2), .second, .val (.long p3), .second, .val (.long p4), .second, .val (.ref a_1), .val (.ref a_8), .val (.ref r_17), .val (.ref r_20), .val (.ref r_23), .val (.ref r_26), .val (.ref a_27), .val (.int (p0 &&& (3 : Int32))), .val (.int (1 : Int32)), .val (.long p4), .second, .val (.ref a_8)] [(.ref a_27)])) rfl (by rw [hml]; rfl) (argsL := []) (rest := []) (lenOf pd_5 rfl) rfl (by show 2 * 0 + _ ≤ _; exact Nat.le_of_eq rfl) (hb hby at_178) rfl rfl (by decide) (by decide)
      obtain ⟨rfl, rfl, eh_44⟩ := Q_44
      refine own_G.via st_44 ?_
      have N_44 := Fr.app N_43 (Fr.nil n0)
      show own_G _ _ _ _ (T_44.setTop (mkF m 181 #[.val (.int p0), .val (.long p1), .second, .val (.long p2), .second, .val (.long p3), .second, .val (.long p4), .second, .val (.ref a_1), .val (.ref a_8), .val (.ref r_17), .val (.ref r_20), .val (.ref r_23), .val (.ref r_26), .val (.ref a_27), .val (.int (p0 &&& (3 : Int32))), .val (.int (1 : Int32)), .val (.long p4), .second, .val (.ref a_8)] [(.long p4)]))
      refine own_G.go (fun t_ k_ => XS.lload X_44.here hx rfl (hb hby at_181) rfl k_) ?_
      show own_G _ _ _ _ (T_44.setTop (mkF m 183 #[.val (.int p0), .val (.long p1), .second, .val (.long p2), .second, .val (.long p3), .second, .val (.long p4), .second, .val (.ref a_1), .val (.ref a_8), .val (.ref r_17), .val (.ref r_20), .val (.ref r_23), .val (.ref r_26), .val (.ref a_27), .val (.int (p0 &&& (3 : Int32))), .val (.int (1 : Int32)), .val (.long p4), .second, .val (.ref a_8)] [(.long p4), (.long p4)]))
      refine own_G.go (fun t_ k_ => XS.lcmp X_44.here hx rfl (hb hby at_183) rfl k_) ?_
      show own_G _ _ _ _ (T_44.setTop (mkF m 184 #[.val (.int p0), .val (.long p1), .second, .val (.long p2), .second, .val (.long p3), .second, .val (.long p4), .second, .val (.ref a_1), .val (.ref a_8), .val (.ref r_17), .val (.ref r_20), .val (.ref r_23), .val (.ref r_26), .val (.ref a_27), .val (.int (p0 &&& (3 : Int32))), .val (.int (1 : Int32)), .val (.long p4), .second, .val (.ref a_8)] [(.int (lcmpW p4 p4))]))
      refine own_G.go (fun t_ k_ => XS.ifNo X_44.here hx rfl (hb hby at_184) rfl ((if0 _ _).trans (teq ((lw_eq _ _).mpr rfl : (lcmpW p4 p4) = (0 : Int32))).2) k_) ?_
      show own_G _ _ _ _ (T_44.setTop (mkF m 187 #[.val (.int p0), .val (.long p1), .second, .val (.long p2), .second, .val (.long p3), .second, .val (.long p4), .second, .val (.ref a_1), .val (.ref a_8), .val (.ref r_17), .val (.ref r_20), .val (.ref r_23), .val (.ref r_26), .val (.ref a_27), .val (.int (p0 &&& (3 : Int32))), .val (.int (1 : Int32)), .val (.long p4), .second, .val (.ref a_8)] []))
      refine own_G.go (fun t_ k_ => XS.aload X_44.here hx rfl (hb hby at_187) rfl rfl k_) ?_
      show own_G _ _ _ _ (T_44.setTop (mkF m 189 #[.val (.int p0), .val (.long p1), .second, .val (.long p2), .second, .val (.long p3), .second, .val (.long p4), .second, .val (.ref a_1), .val (.ref a_8), .val (.ref r_17), .val (.ref r_20), .val (.ref r_23), .val (.ref r_26), .val (.ref a_27), .val (.int (p0 &&& (3 : Int32))), .val (.int (1 : Int32)), .val (.long p4), .second, .val (.ref a_8)] [(.ref a_27)]))
      obtain ⟨cq_45, kq_45, q_45a, q_45b, q_45c⟩ := isOf hZ eh_44 Eq_43
      obtain ⟨_, T_45, L_45, Q_45, X_45, st_45⟩ := own_callV X_44 hx (z := (⟨"com/example/kttl/kttl/keyspace/DeadlineQueue", "earliestKey", "()Lcom/example/kttl/kttl/keyspace/Key;"⟩ : MethodName)) hown (mvT hZ (own_w hw 110 rfl)) (mvT hZ (own_w hw 111 rfl)) (notFace_of_selects (args := #[]) (mvT hZ (own_w hw 113 rfl))) (mvT hZ (own_w hw 113 rfl)) (mvT hZ (own_w hw 112 rfl)) (by decide) (Q := (Qp (.ref a_8) T_43.heap)) (backOf (W := 0) (rm_ek l Z a0 hw [] a_27 ka_29 a_8 a_1 kK_29 T_43.heap n0 (Nat.le_trans ZJ (Nat.le_trans (Nat.le_trans K_29.1 K_36.1) K_43.1)) Qk_43 VK_43) hZ (own_w hw 114 rfl) (own_w hw 54 rfl) (by decide) (by decide)) q_45a q_45c (g := (mkF m 189 #[.val (.int p0), .val (.long p1), .second, .val (.long p2), .second, .val (.long p3), .second, .val (.long p4), .second, .val (.ref a_1), .val (.ref a_8), .val (.ref r_17), .val (.ref r_20), .val (.ref r_23), .val (.ref r_26), .val (.ref a_27), .val (.int (p0 &&& (3 : Int32))), .val (.int (1 : Int32)), .val (.long p4), .second, .val (.ref a_8)] [(.ref a_27)])) rfl (by rw [hml]; rfl) (argsL := []) (rest := []) (lenOf pd_10 rfl) rfl (by show 2 * 0 + _ ≤ _; exact Nat.le_of_eq rfl) (hb hby at_189) eh_44 rfl (by decide) (by decide)
      obtain ⟨rfl, rfl, eh_45⟩ := Q_45
      refine own_G.via st_45 ?_
      have N_45 := Fr.app N_44 (Fr.nil n0)
      show own_G _ _ _ _ (T_45.setTop (mkF m 192 #[.val (.int p0), .val (.long p1), .second, .val (.long p2), .second, .val (.long p3), .second, .val (.long p4), .second, .val (.ref a_1), .val (.ref a_8), .val (.ref r_17), .val (.ref r_20), .val (.ref r_23), .val (.ref r_26), .val (.ref a_27), .val (.int (p0 &&& (3 : Int32))), .val (.int (1 : Int32)), .val (.long p4), .second, .val (.ref a_8)] [(.ref a_8)]))
      refine own_G.go (fun t_ k_ => XS.aload X_45.here hx rfl (hb hby at_192) rfl rfl k_) ?_
      show own_G _ _ _ _ (T_45.setTop (mkF m 194 #[.val (.int p0), .val (.long p1), .second, .val (.long p2), .second, .val (.long p3), .second, .val (.long p4), .second, .val (.ref a_1), .val (.ref a_8), .val (.ref r_17), .val (.ref r_20), .val (.ref r_23), .val (.ref r_26), .val (.ref a_27), .val (.int (p0 &&& (3 : Int32))), .val (.int (1 : Int32)), .val (.long p4), .second, .val (.ref a_8)] [(.ref a_8), (.ref a_8)]))
      refine own_G.go (fun t_ k_ => Jvm.RoadKit.acmp (g := (mkF m 194 #[.val (.int p0), .val (.long p1), .second, .val (.long p2), .second, .val (.long p3), .second, .val (.long p4), .second, .val (.ref a_1), .val (.ref a_8), .val (.ref r_17), .val (.ref r_20), .val (.ref r_23), .val (.ref r_26), .val (.ref a_27), .val (.int (p0 &&& (3 : Int32))), .val (.int (1 : Int32)), .val (.long p4), .second, .val (.ref a_8)] [(.ref a_8), (.ref a_8)])) X_45 hx rfl rfl rfl (pc0 := 194) (pc' := 197) (same := true) rfl (hb hby at_194) rfl (decide_eq_true (rfl : ((.ref a_8) : Value) = (.ref a_8))) (by decide) (by decide) k_) ?_
      show own_G _ _ _ _ (T_45.setTop (mkF m 197 #[.val (.int p0), .val (.long p1), .second, .val (.long p2), .second, .val (.long p3), .second, .val (.long p4), .second, .val (.ref a_1), .val (.ref a_8), .val (.ref r_17), .val (.ref r_20), .val (.ref r_23), .val (.ref r_26), .val (.ref a_27), .val (.int (p0 &&& (3 : Int32))), .val (.int (1 : Int32)), .val (.long p4), .second, .val (.ref a_8)] []))
      refine own_G.go (fun t_ k_ => XS.iconst X_45.here hx rfl (hb hby at_197) k_) ?_
      show own_G _ _ _ _ (T_45.setTop (mkF m 198 #[.val (.int p0), .val (.long p1), .second, .val (.long p2), .second, .val (.long p3), .second, .val (.long p4), .second, .val (.ref a_1), .val (.ref a_8), .val (.ref r_17), .val (.ref r_20), .val (.ref r_23), .val (.ref r_26), .val (.ref a_27), .val (.int (p0 &&& (3 : Int32))), .val (.int (1 : Int32)), .val (.long p4), .second, .val (.ref a_8)] [(.int (1 : Int32))]))
      refine own_G.go (fun t_ k_ => XS.goto X_45.here hx rfl (pc0 := 198) (pc' := 202) rfl (hb hby at_198) (by decide) (by decide) k_) ?_
      show own_G _ _ _ _ (T_45.setTop (mkF m 202 #[.val (.int p0), .val (.long p1), .second, .val (.long p2), .second, .val (.long p3), .second, .val (.long p4), .second, .val (.ref a_1), .val (.ref a_8), .val (.ref r_17), .val (.ref r_20), .val (.ref r_23), .val (.ref r_26), .val (.ref a_27), .val (.int (p0 &&& (3 : Int32))), .val (.int (1 : Int32)), .val (.long p4), .second, .val (.ref a_8)] [(.int (1 : Int32))]))
      exact own_G.end_ X_45 hlk (v := (some (.int (1 : Int32)))) (fun h => by rw [hrt] at h; cases h) (fun fs hr => retN X_45 hx (z := (1 : Int32)) (t := .boolean) hrt (by simp) (hb hby at_202) hr) eh_45 ⟨rfl, N_45⟩ (by decide) (by decide)
    · have JY_E'_46 : Exa Z T_36.heap r_26 "com/example/kttl/kttl/keyspace/Entry" := ((JY_E.keep K_29).keep K_36)
      have JY_S'_47 : Fld Z T_36.heap r_26 "com/example/kttl/kttl/keyspace/Entry" "slot" "I" (.int (-1 : Int32)) := ((JY_S.keep K_29 (ninS (Ne.symm ne_a_27_r_26) nin0)).keep K_36 (ninS (Ne.symm ne_a_27_r_26) (ninS (Nat.ne_of_lt (Nat.lt_of_lt_of_le JY_E.lt la_29)) (ninS (Nat.ne_of_lt (Nat.lt_of_lt_of_le JY_E.lt lk_29)) (ninS (Ne.symm ne_r_23_r_26) nin0)))))
      have JY_H'_48 : Fld Z T_36.heap r_26 "com/example/kttl/kttl/keyspace/Entry" "hasDeadline" "Z" (.int (1 : Int32)) := ((JY_H.keep K_29 (ninS (Ne.symm ne_a_27_r_26) nin0)).keep K_36 (ninS (Ne.symm ne_a_27_r_26) (ninS (Nat.ne_of_lt (Nat.lt_of_lt_of_le JY_E.lt la_29)) (ninS (Nat.ne_of_lt (Nat.lt_of_lt_of_le JY_E.lt lk_29)) (ninS (Ne.symm ne_r_23_r_26) nin0)))))
      have JY_D'_49 : Fld Z T_36.heap r_26 "com/example/kttl/kttl/keyspace/Entry" "deadline" "J" (.long p4) := ((JY_D.keep K_29 (ninS (Ne.symm ne_a_27_r_26) nin0)).keep K_36 (ninS (Ne.symm ne_a_27_r_26) (ninS (Nat.ne_of_lt (Nat.lt_of_lt_of_le JY_E.lt la_29)) (ninS (Nat.ne_of_lt (Nat.lt_of_lt_of_le JY_E.lt lk_29)) (ninS (Ne.symm ne_r_23_r_26) nin0)))))
      have JK2'_50 : Exa Z T_36.heap a_8 "com/example/kttl/kttl/keyspace/Key" := ((JK2.keep K_29).keep K_36)
      have JK1'_51 : Exa Z T_36.heap a_1 "com/example/kttl/kttl/keyspace/Key" := (JK1'_35.keep K_36)
      obtain ⟨cq_52, kq_52, q_52a, q_52b, q_52c⟩ := isOf hZ rfl Eq_36
      obtain ⟨_, T_52, L_52, Q_52, X_52, st_52⟩ := own_callV X_36 hx (z := (⟨"com/example/kttl/kttl/keyspace/DeadlineQueue", "add", "(Lcom/example/kttl/kttl/keyspace/Key;Lcom/example/kttl/kttl/keyspace/Entry;)V"⟩ : MethodName)) hown (mvT hZ (own_w hw 79 rfl)) (mvT hZ (own_w hw 80 rfl)) (notFace_of_selects (args := #[]) (mvT hZ (own_w hw 82 rfl))) (mvT hZ (own_w hw 82 rfl)) (mvT hZ (own_w hw 81 rfl)) (by decide) (Q := (Qad Z a_27 ea_29 ka_29 r_26 kE_29 kK_29 p4 (1 : Int32) ([(.ref r_23), (.ref r_26), .null, .null, .null, .null, .null, .null, .null, .null, .null, .null, .null, .null, .null, .null] : List Value) ([(.ref a_1), (.ref a_8), .null, .null, .null, .null, .null, .null, .null, .null, .null, .null, .null, .null, .null, .null] : List Value) T_36.heap n0)) (backOf (W := 0) (rm_add1a l Z a0 hw [] a_27 ea_29 ka_29 r_26 a_8 kE_29 kK_29 p4 r_23 a_1 p3 (.int (0 : Int32)) T_36.heap n0 (Nat.le_trans ZJ (Nat.le_trans K_29.1 K_36.1)) g0_a_27 g0_ea_29 g0_ka_29 g0_r_26 (Nat.ne_of_lt (Nat.lt_of_lt_of_le JQ.lt la_29)) (Nat.ne_of_lt (Nat.lt_of_lt_of_le JQ.lt lk_29)) ne_a_27_r_26 nek_29 (Nat.ne_of_lt (Nat.lt_of_lt_of_le JY_E.lt la_29)) (Nat.ne_of_lt (Nat.lt_of_lt_of_le JY_E.lt lk_29)) Eq_36 Qf_36 Qk_36 JY_E'_46 JY_S'_47 JY_H'_48 JY_D'_49 JK2'_50 VE_36 VK_36 OE_29 OK_29 g0_r_23 ne_a_27_r_23 (Nat.ne_of_lt (Nat.lt_of_lt_of_le JX_E.lt la_29)) (Nat.ne_of_lt (Nat.lt_of_lt_of_le JX_E.lt lk_29)) (Ne.symm ne_r_23_r_26) Ex_36 Fs_36 Fh_36 Fd_36 JK1'_51 hdd_141 Qt_36) hZ (own_w hw 83 rfl) (own_w hw 54 rfl) (by decide) (by decide)) q_52a q_52c (g := (mkF m 141 #[.val (.int p0), .val (.long p1), .second, .val (.long p2), .second, .val (.long p3), .second, .val (.long p4), .second, .val (.ref a_1), .val (.ref a_8), .val (.ref r_17), .val (.ref r_20), .val (.ref r_23), .val (.ref r_26), .val (.ref a_27), .val (.int (p0 &&& (3 : Int32))), .val (.int (1 : Int32)), .unset, .unset, .unset] [(.ref r_26), (.ref a_8), (.ref a_27)])) rfl (by rw [hml]; rfl) (argsL := [(.ref a_8), (.ref r_26)]) (rest := []) (lenOf pd_9 rfl) rfl (by show 2 * 0 + _ ≤ _; exact Nat.le_of_eq rfl) (hb hby at_141) rfl rfl (by decide) (by decide)
      obtain ⟨rfl, Nq_52, K_52, VE_52, VK_52, Ex_52, Fs_52, Fh_52, Fd_52, Eq_52, Qf_52, Qk_52, Qs_52⟩ := Q_52
      refine own_G.via st_52 ?_
      have Qt_52 : Fld Z T_52.heap a_27 "com/example/kttl/kttl/keyspace/DeadlineQueue" "size" "I" (.int (2 : Int32)) := Qs_52
      have N_52 := Fr.app N_36 Nq_52
      show own_G _ _ _ _ (T_52.setTop (mkF m 144 #[.val (.int p0), .val (.long p1), .second, .val (.long p2), .second, .val (.long p3), .second, .val (.long p4), .second, .val (.ref a_1), .val (.ref a_8), .val (.ref r_17), .val (.ref r_20), .val (.ref r_23), .val (.ref r_26), .val (.ref a_27), .val (.int (p0 &&& (3 : Int32))), .val (.int (1 : Int32)), .unset, .unset, .unset] []))
      refine own_G.go (fun t_ k_ => XS.lload X_52.here hx rfl (hb hby at_144) rfl k_) ?_
      show own_G _ _ _ _ (T_52.setTop (mkF m 146 #[.val (.int p0), .val (.long p1), .second, .val (.long p2), .second, .val (.long p3), .second, .val (.long p4), .second, .val (.ref a_1), .val (.ref a_8), .val (.ref r_17), .val (.ref r_20), .val (.ref r_23), .val (.ref r_26), .val (.ref a_27), .val (.int (p0 &&& (3 : Int32))), .val (.int (1 : Int32)), .unset, .unset, .unset] [(.long p4)]))
      refine own_G.go (fun t_ k_ => XS.lload X_52.here hx rfl (hb hby at_146) rfl k_) ?_
      show own_G _ _ _ _ (T_52.setTop (mkF m 148 #[.val (.int p0), .val (.long p1), .second, .val (.long p2), .second, .val (.long p3), .second, .val (.long p4), .second, .val (.ref a_1), .val (.ref a_8), .val (.ref r_17), .val (.ref r_20), .val (.ref r_23), .val (.ref r_26), .val (.ref a_27), .val (.int (p0 &&& (3 : Int32))), .val (.int (1 : Int32)), .unset, .unset, .unset] [(.long p3), (.long p4)]))
      refine own_G.go (fun t_ k_ => XS.lcmp X_52.here hx rfl (hb hby at_148) rfl k_) ?_
      show own_G _ _ _ _ (T_52.setTop (mkF m 149 #[.val (.int p0), .val (.long p1), .second, .val (.long p2), .second, .val (.long p3), .second, .val (.long p4), .second, .val (.ref a_1), .val (.ref a_8), .val (.ref r_17), .val (.ref r_20), .val (.ref r_23), .val (.ref r_26), .val (.ref a_27), .val (.int (p0 &&& (3 : Int32))), .val (.int (1 : Int32)), .unset, .unset, .unset] [(.int (lcmpW p4 p3))]))
      refine own_G.go (fun t_ k_ => XS.ifYes X_52.here hx rfl (pc0 := 149) (pc' := 163) rfl (hb hby at_149) rfl ((if0 _ _).trans (flt (fun q => hdd_141 ((lw_lt _ _).mp q) : ¬ (lcmpW p4 p3) < (0 : Int32))).2.1) (by decide) (by decide) k_) ?_
      show own_G _ _ _ _ (T_52.setTop (mkF m 163 #[.val (.int p0), .val (.long p1), .second, .val (.long p2), .second, .val (.long p3), .second, .val (.long p4), .second, .val (.ref a_1), .val (.ref a_8), .val (.ref r_17), .val (.ref r_20), .val (.ref r_23), .val (.ref r_26), .val (.ref a_27), .val (.int (p0 &&& (3 : Int32))), .val (.int (1 : Int32)), .unset, .unset, .unset] []))
      refine own_G.go (fun t_ k_ => XS.lload X_52.here hx rfl (hb hby at_163) rfl k_) ?_
      show own_G _ _ _ _ (T_52.setTop (mkF m 165 #[.val (.int p0), .val (.long p1), .second, .val (.long p2), .second, .val (.long p3), .second, .val (.long p4), .second, .val (.ref a_1), .val (.ref a_8), .val (.ref r_17), .val (.ref r_20), .val (.ref r_23), .val (.ref r_26), .val (.ref a_27), .val (.int (p0 &&& (3 : Int32))), .val (.int (1 : Int32)), .unset, .unset, .unset] [(.long p3)]))
      refine own_G.go (fun t_ k_ => XS.lstore X_52.here hx rfl (hb hby at_165) rfl (l' := #[.val (.int p0), .val (.long p1), .second, .val (.long p2), .second, .val (.long p3), .second, .val (.long p4), .second, .val (.ref a_1), .val (.ref a_8), .val (.ref r_17), .val (.ref r_20), .val (.ref r_23), .val (.ref r_26), .val (.ref a_27), .val (.int (p0 &&& (3 : Int32))), .val (.int (1 : Int32)), .val (.long p3), .second, .unset]) rfl k_) ?_
      show own_G _ _ _ _ (T_52.setTop (mkF m 167 #[.val (.int p0), .val (.long p1), .second, .val (.long p2), .second, .val (.long p3), .second, .val (.long p4), .second, .val (.ref a_1), .val (.ref a_8), .val (.ref r_17), .val (.ref r_20), .val (.ref r_23), .val (.ref r_26), .val (.ref a_27), .val (.int (p0 &&& (3 : Int32))), .val (.int (1 : Int32)), .val (.long p3), .second, .unset] []))
      refine own_G.go (fun t_ k_ => XS.aload X_52.here hx rfl (hb hby at_167) rfl rfl k_) ?_
      show own_G _ _ _ _ (T_52.setTop (mkF m 169 #[.val (.int p0), .val (.long p1), .second, .val (.long p2), .second, .val (.long p3), .second, .val (.long p4), .second, .val (.ref a_1), .val (.ref a_8), .val (.ref r_17), .val (.ref r_20), .val (.ref r_23), .val (.ref r_26), .val (.ref a_27), .val (.int (p0 &&& (3 : Int32))), .val (.int (1 : Int32)), .val (.long p3), .second, .unset] [(.ref a_1)]))
      refine own_G.go (fun t_ k_ => XS.astore X_52.here hx rfl (hb hby at_169) rfl rfl (l' := #[.val (.int p0), .val (.long p1), .second, .val (.long p2), .second, .val (.long p3), .second, .val (.long p4), .second, .val (.ref a_1), .val (.ref a_8), .val (.ref r_17), .val (.ref r_20), .val (.ref r_23), .val (.ref r_26), .val (.ref a_27), .val (.int (p0 &&& (3 : Int32))), .val (.int (1 : Int32)), .val (.long p3), .second, .val (.ref a_1)]) rfl k_) ?_
      show own_G _ _ _ _ (T_52.setTop (mkF m 171 #[.val (.int p0), .val (.long p1), .second, .val (.long p2), .second, .val (.long p3), .second, .val (.long p4), .second, .val (.ref a_1), .val (.ref a_8), .val (.ref r_17), .val (.ref r_20), .val (.ref r_23), .val (.ref r_26), .val (.ref a_27), .val (.int (p0 &&& (3 : Int32))), .val (.int (1 : Int32)), .val (.long p3), .second, .val (.ref a_1)] []))
      refine own_G.go (fun t_ k_ => XS.iload X_52.here hx rfl (hb hby at_171) rfl k_) ?_
      show own_G _ _ _ _ (T_52.setTop (mkF m 173 #[.val (.int p0), .val (.long p1), .second, .val (.long p2), .second, .val (.long p3), .second, .val (.long p4), .second, .val (.ref a_1), .val (.ref a_8), .val (.ref r_17), .val (.ref r_20), .val (.ref r_23), .val (.ref r_26), .val (.ref a_27), .val (.int (p0 &&& (3 : Int32))), .val (.int (1 : Int32)), .val (.long p3), .second, .val (.ref a_1)] [(.int (1 : Int32))]))
      refine own_G.go (fun t_ k_ => XS.ifNo X_52.here hx rfl (hb hby at_173) rfl ((if0 _ _).trans (feq (by decide : ¬ ((1 : Int32) = (0 : Int32)))).1) k_) ?_
      show own_G _ _ _ _ (T_52.setTop (mkF m 176 #[.val (.int p0), .val (.long p1), .second, .val (.long p2), .second, .val (.long p3), .second, .val (.long p4), .second, .val (.ref a_1), .val (.ref a_8), .val (.ref r_17), .val (.ref r_20), .val (.ref r_23), .val (.ref r_26), .val (.ref a_27), .val (.int (p0 &&& (3 : Int32))), .val (.int (1 : Int32)), .val (.long p3), .second, .val (.ref a_1)] []))
      refine own_G.go (fun t_ k_ => XS.aload X_52.here hx rfl (hb hby at_176) rfl rfl k_) ?_
      show own_G _ _ _ _ (T_52.setTop (mkF m 178 #[.val (.int p0), .val (.long p1), .second, .val (.long p2), .second, .val (.long p3), .second, .val (.long p4), .second, .val (.ref a_1), .val (.ref a_8), .val (.ref r_17), .val (.ref r_20), .val (.ref r_23), .val (.ref r_26), .val (.ref a_27), .val (.int (p0 &&& (3 : Int32))), .val (.int (1 : Int32)), .val (.long p3), .second, .val (.ref a_1)] [(.ref a_27)]))
      have Ex_36'_53 : Exa Z T_52.heap r_23 "com/example/kttl/kttl/keyspace/Entry" := (Ex_36.keep K_52)
      have Fh_36'_54 : Fld Z T_52.heap r_23 "com/example/kttl/kttl/keyspace/Entry" "hasDeadline" "Z" (.int (1 : Int32)) := (Fh_36.keep K_52 (ninS (Ne.symm ne_a_27_r_23) (ninS (Nat.ne_of_lt (Nat.lt_of_lt_of_le JX_E.lt la_29)) (ninS (Nat.ne_of_lt (Nat.lt_of_lt_of_le JX_E.lt lk_29)) (ninS ne_r_23_r_26 nin0)))))
      have Fd_36'_55 : Fld Z T_52.heap r_23 "com/example/kttl/kttl/keyspace/Entry" "deadline" "J" (.long p3) := (Fd_36.keep K_52 (ninS (Ne.symm ne_a_27_r_23) (ninS (Nat.ne_of_lt (Nat.lt_of_lt_of_le JX_E.lt la_29)) (ninS (Nat.ne_of_lt (Nat.lt_of_lt_of_le JX_E.lt lk_29)) (ninS ne_r_23_r_26 nin0)))))
      obtain ⟨cq_56, kq_56, q_56a, q_56b, q_56c⟩ := isOf hZ rfl Eq_52
      obtain ⟨_, T_56, L_56, Q_56, X_56, st_56⟩ := own_callV X_52 hx (z := (⟨"com/example/kttl/kttl/keyspace/DeadlineQueue", "earliestDeadline", "()J"⟩ : MethodName)) hown (mvT hZ (own_w hw 105 rfl)) (mvT hZ (own_w hw 106 rfl)) (notFace_of_selects (args := #[]) (mvT hZ (own_w hw 108 rfl))) (mvT hZ (own_w hw 108 rfl)) (mvT hZ (own_w hw 107 rfl)) (by decide) (Q := (Qp (.long p3) T_52.heap)) (backOf (W := 0) (rm_ed l Z a0 hw [] a_27 ea_29 r_23 r_26 kE_29 p3 T_52.heap n0 (Nat.le_trans ZJ (Nat.le_trans (Nat.le_trans K_29.1 K_36.1) K_52.1)) Qf_52 VE_52 Ex_36'_53 Fh_36'_54 Fd_36'_55) hZ (own_w hw 109 rfl) (own_w hw 54 rfl) (by decide) (by decide)) q_56a q_56c (g := (mkF m 178 #[.val (.int p0), .val (.long p1), .second, .val (.long p2), .second, .val (.long p3), .second, .val (.long p4), .second, .val (.ref a_1), .val (.ref a_8), .val (.ref r_17), .val (.ref r_20), .val (.ref r_23), .val (.ref r_26), .val (.ref a_27), .val (.int (p0 &&& (3 : Int32))), .val (.int (1 : Int32)), .val (.long p3), .second, .val (.ref a_1)] [(.ref a_27)])) rfl (by rw [hml]; rfl) (argsL := []) (rest := []) (lenOf pd_5 rfl) rfl (by show 2 * 0 + _ ≤ _; exact Nat.le_of_eq rfl) (hb hby at_178) rfl rfl (by decide) (by decide)
      obtain ⟨rfl, rfl, eh_56⟩ := Q_56
      refine own_G.via st_56 ?_
      have N_56 := Fr.app N_52 (Fr.nil n0)
      show own_G _ _ _ _ (T_56.setTop (mkF m 181 #[.val (.int p0), .val (.long p1), .second, .val (.long p2), .second, .val (.long p3), .second, .val (.long p4), .second, .val (.ref a_1), .val (.ref a_8), .val (.ref r_17), .val (.ref r_20), .val (.ref r_23), .val (.ref r_26), .val (.ref a_27), .val (.int (p0 &&& (3 : Int32))), .val (.int (1 : Int32)), .val (.long p3), .second, .val (.ref a_1)] [(.long p3)]))
      refine own_G.go (fun t_ k_ => XS.lload X_56.here hx rfl (hb hby at_181) rfl k_) ?_
      show own_G _ _ _ _ (T_56.setTop (mkF m 183 #[.val (.int p0), .val (.long p1), .second, .val (.long p2), .second, .val (.long p3), .second, .val (.long p4), .second, .val (.ref a_1), .val (.ref a_8), .val (.ref r_17), .val (.ref r_20), .val (.ref r_23), .val (.ref r_26), .val (.ref a_27), .val (.int (p0 &&& (3 : Int32))), .val (.int (1 : Int32)), .val (.long p3), .second, .val (.ref a_1)] [(.long p3), (.long p3)]))
      refine own_G.go (fun t_ k_ => XS.lcmp X_56.here hx rfl (hb hby at_183) rfl k_) ?_
      show own_G _ _ _ _ (T_56.setTop (mkF m 184 #[.val (.int p0), .val (.long p1), .second, .val (.long p2), .second, .val (.long p3), .second, .val (.long p4), .second, .val (.ref a_1), .val (.ref a_8), .val (.ref r_17), .val (.ref r_20), .val (.ref r_23), .val (.ref r_26), .val (.ref a_27), .val (.int (p0 &&& (3 : Int32))), .val (.int (1 : Int32)), .val (.long p3), .second, .val (.ref a_1)] [(.int (lcmpW p3 p3))]))
      refine own_G.go (fun t_ k_ => XS.ifNo X_56.here hx rfl (hb hby at_184) rfl ((if0 _ _).trans (teq ((lw_eq _ _).mpr rfl : (lcmpW p3 p3) = (0 : Int32))).2) k_) ?_
      show own_G _ _ _ _ (T_56.setTop (mkF m 187 #[.val (.int p0), .val (.long p1), .second, .val (.long p2), .second, .val (.long p3), .second, .val (.long p4), .second, .val (.ref a_1), .val (.ref a_8), .val (.ref r_17), .val (.ref r_20), .val (.ref r_23), .val (.ref r_26), .val (.ref a_27), .val (.int (p0 &&& (3 : Int32))), .val (.int (1 : Int32)), .val (.long p3), .second, .val (.ref a_1)] []))
      refine own_G.go (fun t_ k_ => XS.aload X_56.here hx rfl (hb hby at_187) rfl rfl k_) ?_
      show own_G _ _ _ _ (T_56.setTop (mkF m 189 #[.val (.int p0), .val (.long p1), .second, .val (.long p2), .second, .val (.long p3), .second, .val (.long p4), .second, .val (.ref a_1), .val (.ref a_8), .val (.ref r_17), .val (.ref r_20), .val (.ref r_23), .val (.ref r_26), .val (.ref a_27), .val (.int (p0 &&& (3 : Int32))), .val (.int (1 : Int32)), .val (.long p3), .second, .val (.ref a_1)] [(.ref a_27)]))
      obtain ⟨cq_57, kq_57, q_57a, q_57b, q_57c⟩ := isOf hZ eh_56 Eq_52
      obtain ⟨_, T_57, L_57, Q_57, X_57, st_57⟩ := own_callV X_56 hx (z := (⟨"com/example/kttl/kttl/keyspace/DeadlineQueue", "earliestKey", "()Lcom/example/kttl/kttl/keyspace/Key;"⟩ : MethodName)) hown (mvT hZ (own_w hw 110 rfl)) (mvT hZ (own_w hw 111 rfl)) (notFace_of_selects (args := #[]) (mvT hZ (own_w hw 113 rfl))) (mvT hZ (own_w hw 113 rfl)) (mvT hZ (own_w hw 112 rfl)) (by decide) (Q := (Qp (.ref a_1) T_52.heap)) (backOf (W := 0) (rm_ek l Z a0 hw [] a_27 ka_29 a_1 a_8 kK_29 T_52.heap n0 (Nat.le_trans ZJ (Nat.le_trans (Nat.le_trans K_29.1 K_36.1) K_52.1)) Qk_52 VK_52) hZ (own_w hw 114 rfl) (own_w hw 54 rfl) (by decide) (by decide)) q_57a q_57c (g := (mkF m 189 #[.val (.int p0), .val (.long p1), .second, .val (.long p2), .second, .val (.long p3), .second, .val (.long p4), .second, .val (.ref a_1), .val (.ref a_8), .val (.ref r_17), .val (.ref r_20), .val (.ref r_23), .val (.ref r_26), .val (.ref a_27), .val (.int (p0 &&& (3 : Int32))), .val (.int (1 : Int32)), .val (.long p3), .second, .val (.ref a_1)] [(.ref a_27)])) rfl (by rw [hml]; rfl) (argsL := []) (rest := []) (lenOf pd_10 rfl) rfl (by show 2 * 0 + _ ≤ _; exact Nat.le_of_eq rfl) (hb hby at_189) eh_56 rfl (by decide) (by decide)
      obtain ⟨rfl, rfl, eh_57⟩ := Q_57
      refine own_G.via st_57 ?_
      have N_57 := Fr.app N_56 (Fr.nil n0)
      show own_G _ _ _ _ (T_57.setTop (mkF m 192 #[.val (.int p0), .val (.long p1), .second, .val (.long p2), .second, .val (.long p3), .second, .val (.long p4), .second, .val (.ref a_1), .val (.ref a_8), .val (.ref r_17), .val (.ref r_20), .val (.ref r_23), .val (.ref r_26), .val (.ref a_27), .val (.int (p0 &&& (3 : Int32))), .val (.int (1 : Int32)), .val (.long p3), .second, .val (.ref a_1)] [(.ref a_1)]))
      refine own_G.go (fun t_ k_ => XS.aload X_57.here hx rfl (hb hby at_192) rfl rfl k_) ?_
      show own_G _ _ _ _ (T_57.setTop (mkF m 194 #[.val (.int p0), .val (.long p1), .second, .val (.long p2), .second, .val (.long p3), .second, .val (.long p4), .second, .val (.ref a_1), .val (.ref a_8), .val (.ref r_17), .val (.ref r_20), .val (.ref r_23), .val (.ref r_26), .val (.ref a_27), .val (.int (p0 &&& (3 : Int32))), .val (.int (1 : Int32)), .val (.long p3), .second, .val (.ref a_1)] [(.ref a_1), (.ref a_1)]))
      refine own_G.go (fun t_ k_ => Jvm.RoadKit.acmp (g := (mkF m 194 #[.val (.int p0), .val (.long p1), .second, .val (.long p2), .second, .val (.long p3), .second, .val (.long p4), .second, .val (.ref a_1), .val (.ref a_8), .val (.ref r_17), .val (.ref r_20), .val (.ref r_23), .val (.ref r_26), .val (.ref a_27), .val (.int (p0 &&& (3 : Int32))), .val (.int (1 : Int32)), .val (.long p3), .second, .val (.ref a_1)] [(.ref a_1), (.ref a_1)])) X_57 hx rfl rfl rfl (pc0 := 194) (pc' := 197) (same := true) rfl (hb hby at_194) rfl (decide_eq_true (rfl : ((.ref a_1) : Value) = (.ref a_1))) (by decide) (by decide) k_) ?_
      show own_G _ _ _ _ (T_57.setTop (mkF m 197 #[.val (.int p0), .val (.long p1), .second, .val (.long p2), .second, .val (.long p3), .second, .val (.long p4), .second, .val (.ref a_1), .val (.ref a_8), .val (.ref r_17), .val (.ref r_20), .val (.ref r_23), .val (.ref r_26), .val (.ref a_27), .val (.int (p0 &&& (3 : Int32))), .val (.int (1 : Int32)), .val (.long p3), .second, .val (.ref a_1)] []))
      refine own_G.go (fun t_ k_ => XS.iconst X_57.here hx rfl (hb hby at_197) k_) ?_
      show own_G _ _ _ _ (T_57.setTop (mkF m 198 #[.val (.int p0), .val (.long p1), .second, .val (.long p2), .second, .val (.long p3), .second, .val (.long p4), .second, .val (.ref a_1), .val (.ref a_8), .val (.ref r_17), .val (.ref r_20), .val (.ref r_23), .val (.ref r_26), .val (.ref a_27), .val (.int (p0 &&& (3 : Int32))), .val (.int (1 : Int32)), .val (.long p3), .second, .val (.ref a_1)] [(.int (1 : Int32))]))
      refine own_G.go (fun t_ k_ => XS.goto X_57.here hx rfl (pc0 := 198) (pc' := 202) rfl (hb hby at_198) (by decide) (by decide) k_) ?_
      show own_G _ _ _ _ (T_57.setTop (mkF m 202 #[.val (.int p0), .val (.long p1), .second, .val (.long p2), .second, .val (.long p3), .second, .val (.long p4), .second, .val (.ref a_1), .val (.ref a_8), .val (.ref r_17), .val (.ref r_20), .val (.ref r_23), .val (.ref r_26), .val (.ref a_27), .val (.int (p0 &&& (3 : Int32))), .val (.int (1 : Int32)), .val (.long p3), .second, .val (.ref a_1)] [(.int (1 : Int32))]))
      exact own_G.end_ X_57 hlk (v := (some (.int (1 : Int32)))) (fun h => by rw [hrt] at h; cases h) (fun fs hr => retN X_57 hx (z := (1 : Int32)) (t := .boolean) hrt (by simp) (hb hby at_202) hr) eh_57 ⟨rfl, N_57⟩ (by decide) (by decide)
  refine own_G.go (fun t_ k_ => XS.iload X_28.here hx rfl (hb hby at_84) rfl k_) ?_
  show own_G _ _ _ _ (T_28.setTop (mkF m 86 #[.val (.int p0), .val (.long p1), .second, .val (.long p2), .second, .val (.long p3), .second, .val (.long p4), .second, .val (.ref a_1), .val (.ref a_8), .val (.ref r_17), .val (.ref r_20), .val (.ref r_23), .val (.ref r_26), .val (.ref a_27), .val (.int (p0 &&& (3 : Int32))), .unset, .unset, .unset, .unset] [(.int (p0 &&& (3 : Int32)))]))
  refine own_G.go (fun t_ k_ => XS.iconst X_28.here hx rfl (hb hby at_86) k_) ?_
  show own_G _ _ _ _ (T_28.setTop (mkF m 87 #[.val (.int p0), .val (.long p1), .second, .val (.long p2), .second, .val (.long p3), .second, .val (.long p4), .second, .val (.ref a_1), .val (.ref a_8), .val (.ref r_17), .val (.ref r_20), .val (.ref r_23), .val (.ref r_26), .val (.ref a_27), .val (.int (p0 &&& (3 : Int32))), .unset, .unset, .unset, .unset] [(.int (1 : Int32)), (.int (p0 &&& (3 : Int32)))]))
  by_cases hA : (p0 &&& (3 : Int32)) < (1 : Int32)
  · refine own_G.go (fun t_ k_ => XS.icmpYes X_28.here hx rfl (pc0 := 87) (pc' := 99) rfl (hb hby at_87) rfl (tlt hA).1 (by decide) (by decide) k_) ?_
    show own_G _ _ _ _ (T_28.setTop (mkF m 99 #[.val (.int p0), .val (.long p1), .second, .val (.long p2), .second, .val (.long p3), .second, .val (.long p4), .second, .val (.ref a_1), .val (.ref a_8), .val (.ref r_17), .val (.ref r_20), .val (.ref r_23), .val (.ref r_26), .val (.ref a_27), .val (.int (p0 &&& (3 : Int32))), .unset, .unset, .unset, .unset] []))
    refine own_G.go (fun t_ k_ => XS.iload X_28.here hx rfl (hb hby at_99) rfl k_) ?_
    show own_G _ _ _ _ (T_28.setTop (mkF m 101 #[.val (.int p0), .val (.long p1), .second, .val (.long p2), .second, .val (.long p3), .second, .val (.long p4), .second, .val (.ref a_1), .val (.ref a_8), .val (.ref r_17), .val (.ref r_20), .val (.ref r_23), .val (.ref r_26), .val (.ref a_27), .val (.int (p0 &&& (3 : Int32))), .unset, .unset, .unset, .unset] [(.int (p0 &&& (3 : Int32)))]))
    refine own_G.go (fun t_ k_ => XS.iconst X_28.here hx rfl (hb hby at_101) k_) ?_
    show own_G _ _ _ _ (T_28.setTop (mkF m 102 #[.val (.int p0), .val (.long p1), .second, .val (.long p2), .second, .val (.long p3), .second, .val (.long p4), .second, .val (.ref a_1), .val (.ref a_8), .val (.ref r_17), .val (.ref r_20), .val (.ref r_23), .val (.ref r_26), .val (.ref a_27), .val (.int (p0 &&& (3 : Int32))), .unset, .unset, .unset, .unset] [(.int (2 : Int32)), (.int (p0 &&& (3 : Int32)))]))
    refine own_G.go (fun t_ k_ => XS.icmpYes X_28.here hx rfl (pc0 := 102) (pc' := 114) rfl (hb hby at_102) rfl (tlt (own_12 hA : (p0 &&& (3 : Int32)) < (2 : Int32))).1 (by decide) (by decide) k_) ?_
    show own_G _ _ _ _ (T_28.setTop (mkF m 114 #[.val (.int p0), .val (.long p1), .second, .val (.long p2), .second, .val (.long p3), .second, .val (.long p4), .second, .val (.ref a_1), .val (.ref a_8), .val (.ref r_17), .val (.ref r_20), .val (.ref r_23), .val (.ref r_26), .val (.ref a_27), .val (.int (p0 &&& (3 : Int32))), .unset, .unset, .unset, .unset] []))
    have Ex_7'_58 : Exa Z T_28.heap a_1 "com/example/kttl/kttl/keyspace/Key" := ((((((((((((((Ex_7.ext E_8).ext E_9).wr W_10).keep K_14).ext E_15).keep K_17).ext E_18).keep K_20).ext E_21).keep K_23).ext E_24).keep K_26).ext E_27).keep K_28)
    have Ex_14'_59 : Exa Z T_28.heap a_8 "com/example/kttl/kttl/keyspace/Key" := ((((((((((Ex_14.ext E_15).keep K_17).ext E_18).keep K_20).ext E_21).keep K_23).ext E_24).keep K_26).ext E_27).keep K_28)
    have Ex_23'_60 : Exa Z T_28.heap r_23 "com/example/kttl/kttl/keyspace/Entry" := ((((Ex_23.ext E_24).keep K_26).ext E_27).keep K_28)
    have Fs_23'_61 : Fld Z T_28.heap r_23 "com/example/kttl/kttl/keyspace/Entry" "slot" "I" (.int (-1 : Int32)) := ((((Fs_23.ext E_24).keep K_26 nin0).ext E_27).keep K_28 (ninS (Ne.symm ne_a_27_r_23) nin0))
    have Fh_23'_62 : Fld Z T_28.heap r_23 "com/example/kttl/kttl/keyspace/Entry" "hasDeadline" "Z" (.int (1 : Int32)) := ((((Fh_23.ext E_24).keep K_26 nin0).ext E_27).keep K_28 (ninS (Ne.symm ne_a_27_r_23) nin0))
    have Fd_23'_63 : Fld Z T_28.heap r_23 "com/example/kttl/kttl/keyspace/Entry" "deadline" "J" (.long p3) := ((((Fd_23.ext E_24).keep K_26 nin0).ext E_27).keep K_28 (ninS (Ne.symm ne_a_27_r_23) nin0))
    have Ex_26'_64 : Exa Z T_28.heap r_26 "com/example/kttl/kttl/keyspace/Entry" := ((Ex_26.ext E_27).keep K_28)
    have Fs_26'_65 : Fld Z T_28.heap r_26 "com/example/kttl/kttl/keyspace/Entry" "slot" "I" (.int (-1 : Int32)) := ((Fs_26.ext E_27).keep K_28 (ninS (Ne.symm ne_a_27_r_26) nin0))
    have Fh_26'_66 : Fld Z T_28.heap r_26 "com/example/kttl/kttl/keyspace/Entry" "hasDeadline" "Z" (.int (1 : Int32)) := ((Fh_26.ext E_27).keep K_28 (ninS (Ne.symm ne_a_27_r_26) nin0))
    have Fd_26'_67 : Fld Z T_28.heap r_26 "com/example/kttl/kttl/keyspace/Entry" "deadline" "J" (.long p4) := ((Fd_26.ext E_27).keep K_28 (ninS (Ne.symm ne_a_27_r_26) nin0))
    have Z_68s : n0 ≤ T_28.heap.size := (Nat.le_trans Z0 (Nat.le_trans (Nat.le_trans (Nat.le_trans (Nat.le_trans (Nat.le_trans (Nat.le_trans (Nat.le_trans (Nat.le_trans (Nat.le_trans (Nat.le_trans (Nat.le_trans (Nat.le_trans (Nat.le_trans (Nat.le_trans (Nat.le_trans (Nat.le_trans (Nat.le_trans E_1.1 E_2.1) (Keep.of_wr W_3).1) K_7.1) E_8.1) E_9.1) (Keep.of_wr W_10).1) K_14.1) E_15.1) K_17.1) E_18.1) K_20.1) E_21.1) K_23.1) E_24.1) K_26.1) E_27.1) K_28.1))
    have O_69d : Old Z n0 T_28.heap := (((O_25d.keep K_26 all0).ext E_27).keep K_28 (allS g0_a_27 all0))
    exact J114 _ _ _ _ _ _ (X_28.mono (by decide) (by decide)) rfl N_28 Z_68s O_69d Ex_28 F1_28 F2_28 F3_28 Ex_7'_58 Ex_14'_59 Ex_23'_60 Fs_23'_61 Fh_23'_62 Fd_23'_63 Ex_26'_64 Fs_26'_65 Fh_26'_66 Fd_26'_67
  · refine own_G.go (fun t_ k_ => XS.icmpNo X_28.here hx rfl (hb hby at_87) rfl (flt hA).1 k_) ?_
    show own_G _ _ _ _ (T_28.setTop (mkF m 90 #[.val (.int p0), .val (.long p1), .second, .val (.long p2), .second, .val (.long p3), .second, .val (.long p4), .second, .val (.ref a_1), .val (.ref a_8), .val (.ref r_17), .val (.ref r_20), .val (.ref r_23), .val (.ref r_26), .val (.ref a_27), .val (.int (p0 &&& (3 : Int32))), .unset, .unset, .unset, .unset] []))
    refine own_G.go (fun t_ k_ => XS.aload X_28.here hx rfl (hb hby at_90) rfl rfl k_) ?_
    show own_G _ _ _ _ (T_28.setTop (mkF m 92 #[.val (.int p0), .val (.long p1), .second, .val (.long p2), .second, .val (.long p3), .second, .val (.long p4), .second, .val (.ref a_1), .val (.ref a_8), .val (.ref r_17), .val (.ref r_20), .val (.ref r_23), .val (.ref r_26), .val (.ref a_27), .val (.int (p0 &&& (3 : Int32))), .unset, .unset, .unset, .unset] [(.ref a_27)]))
    refine own_G.go (fun t_ k_ => XS.aload X_28.here hx rfl (hb hby at_92) rfl rfl k_) ?_
    show own_G _ _ _ _ (T_28.setTop (mkF m 94 #[.val (.int p0), .val (.long p1), .second, .val (.long p2), .second, .val (.long p3), .second, .val (.long p4), .second, .val (.ref a_1), .val (.ref a_8), .val (.ref r_17), .val (.ref r_20), .val (.ref r_23), .val (.ref r_26), .val (.ref a_27), .val (.int (p0 &&& (3 : Int32))), .unset, .unset, .unset, .unset] [(.ref a_1), (.ref a_27)]))
    refine own_G.go (fun t_ k_ => XS.aload X_28.here hx rfl (hb hby at_94) rfl rfl k_) ?_
    show own_G _ _ _ _ (T_28.setTop (mkF m 96 #[.val (.int p0), .val (.long p1), .second, .val (.long p2), .second, .val (.long p3), .second, .val (.long p4), .second, .val (.ref a_1), .val (.ref a_8), .val (.ref r_17), .val (.ref r_20), .val (.ref r_23), .val (.ref r_26), .val (.ref a_27), .val (.int (p0 &&& (3 : Int32))), .unset, .unset, .unset, .unset] [(.ref r_17), (.ref a_1), (.ref a_27)]))
    have Ex_17'_70 : Exa Z T_28.heap r_17 "com/example/kttl/kttl/keyspace/Entry" := ((((((((Ex_17.ext E_18).keep K_20).ext E_21).keep K_23).ext E_24).keep K_26).ext E_27).keep K_28)
    have Fs_17'_71 : Fld Z T_28.heap r_17 "com/example/kttl/kttl/keyspace/Entry" "slot" "I" (.int (-1 : Int32)) := ((((((((Fs_17.ext E_18).keep K_20 nin0).ext E_21).keep K_23 nin0).ext E_24).keep K_26 nin0).ext E_27).keep K_28 (ninS (Nat.ne_of_lt (Nat.lt_of_lt_of_le (Nat.lt_of_lt_of_le Ex_17.lt (Nat.le_trans (Nat.le_trans (Nat.le_trans (Nat.le_trans (Nat.le_trans E_18.1 K_20.1) E_21.1) K_23.1) E_24.1) K_26.1)) (Nat.le_of_eq g_27.symm))) nin0))
    have Fh_17'_72 : Fld Z T_28.heap r_17 "com/example/kttl/kttl/keyspace/Entry" "hasDeadline" "Z" (.int (1 : Int32)) := ((((((((Fh_17.ext E_18).keep K_20 nin0).ext E_21).keep K_23 nin0).ext E_24).keep K_26 nin0).ext E_27).keep K_28 (ninS (Nat.ne_of_lt (Nat.lt_of_lt_of_le (Nat.lt_of_lt_of_le Ex_17.lt (Nat.le_trans (Nat.le_trans (Nat.le_trans (Nat.le_trans (Nat.le_trans E_18.1 K_20.1) E_21.1) K_23.1) E_24.1) K_26.1)) (Nat.le_of_eq g_27.symm))) nin0))
    have Fd_17'_73 : Fld Z T_28.heap r_17 "com/example/kttl/kttl/keyspace/Entry" "deadline" "J" (.long p1) := ((((((((Fd_17.ext E_18).keep K_20 nin0).ext E_21).keep K_23 nin0).ext E_24).keep K_26 nin0).ext E_27).keep K_28 (ninS (Nat.ne_of_lt (Nat.lt_of_lt_of_le (Nat.lt_of_lt_of_le Ex_17.lt (Nat.le_trans (Nat.le_trans (Nat.le_trans (Nat.le_trans (Nat.le_trans E_18.1 K_20.1) E_21.1) K_23.1) E_24.1) K_26.1)) (Nat.le_of_eq g_27.symm))) nin0))
    have Ex_7'_74 : Exa Z T_28.heap a_1 "com/example/kttl/kttl/keyspace/Key" := ((((((((((((((Ex_7.ext E_8).ext E_9).wr W_10).keep K_14).ext E_15).keep K_17).ext E_18).keep K_20).ext E_21).keep K_23).ext E_24).keep K_26).ext E_27).keep K_28)
    have g0_ea_28 : n0 ≤ ea_28 := Nat.le_trans (Nat.le_trans Z0 (Nat.le_trans (Nat.le_trans (Nat.le_trans (Nat.le_trans (Nat.le_trans (Nat.le_trans (Nat.le_trans (Nat.le_trans (Nat.le_trans (Nat.le_trans (Nat.le_trans (Nat.le_trans (Nat.le_trans (Nat.le_trans (Nat.le_trans (Nat.le_trans E_1.1 E_2.1) (Keep.of_wr W_3).1) K_7.1) E_8.1) E_9.1) (Keep.of_wr W_10).1) K_14.1) E_15.1) K_17.1) E_18.1) K_20.1) E_21.1) K_23.1) E_24.1) K_26.1) E_27.1)) la_28
    have g0_ka_28 : n0 ≤ ka_28 := Nat.le_trans (Nat.le_trans Z0 (Nat.le_trans (Nat.le_trans (Nat.le_trans (Nat.le_trans (Nat.le_trans (Nat.le_trans (Nat.le_trans (Nat.le_trans (Nat.le_trans (Nat.le_trans (Nat.le_trans (Nat.le_trans (Nat.le_trans (Nat.le_trans (Nat.le_trans (Nat.le_trans E_1.1 E_2.1) (Keep.of_wr W_3).1) K_7.1) E_8.1) E_9.1) (Keep.of_wr W_10).1) K_14.1) E_15.1) K_17.1) E_18.1) K_20.1) E_21.1) K_23.1) E_24.1) K_26.1) E_27.1)) lk_28
    have g0_r_17 : n0 ≤ r_17 := Nat.le_trans (Nat.le_trans Z0 (Nat.le_trans (Nat.le_trans (Nat.le_trans (Nat.le_trans (Nat.le_trans (Nat.le_trans (Nat.le_trans (Nat.le_trans E_1.1 E_2.1) (Keep.of_wr W_3).1) K_7.1) E_8.1) E_9.1) (Keep.of_wr W_10).1) K_14.1) E_15.1)) lo_17
    obtain ⟨cq_75, kq_75, q_75a, q_75b, q_75c⟩ := isOf hZ rfl Ex_28
    obtain ⟨_, T_75, L_75, Q_75, X_75, st_75⟩ := own_callV X_28 hx (z := (⟨"com/example/kttl/kttl/keyspace/DeadlineQueue", "add", "(Lcom/example/kttl/kttl/keyspace/Key;Lcom/example/kttl/kttl/keyspace/Entry;)V"⟩ : MethodName)) hown (mvT hZ (own_w hw 79 rfl)) (mvT hZ (own_w hw 80 rfl)) (notFace_of_selects (args := #[]) (mvT hZ (own_w hw 82 rfl))) (mvT hZ (own_w hw 82 rfl)) (mvT hZ (own_w hw 81 rfl)) (by decide) (Q := (Qad Z a_27 ea_28 ka_28 r_17 kE_28 kK_28 p1 (0 : Int32) ([(.ref r_17), .null, .null, .null, .null, .null, .null, .null, .null, .null, .null, .null, .null, .null, .null, .null] : List Value) ([(.ref a_1), .null, .null, .null, .null, .null, .null, .null, .null, .null, .null, .null, .null, .null, .null, .null] : List Value) T_28.heap n0)) (backOf (W := 0) (rm_add0 l Z a0 hw [] a_27 ea_28 ka_28 r_17 a_1 kE_28 kK_28 p1 T_28.heap n0 (Nat.le_trans Z0 (Nat.le_trans (Nat.le_trans (Nat.le_trans (Nat.le_trans (Nat.le_trans (Nat.le_trans (Nat.le_trans (Nat.le_trans (Nat.le_trans (Nat.le_trans (Nat.le_trans (Nat.le_trans (Nat.le_trans (Nat.le_trans (Nat.le_trans (Nat.le_trans (Nat.le_trans E_1.1 E_2.1) (Keep.of_wr W_3).1) K_7.1) E_8.1) E_9.1) (Keep.of_wr W_10).1) K_14.1) E_15.1) K_17.1) E_18.1) K_20.1) E_21.1) K_23.1) E_24.1) K_26.1) E_27.1) K_28.1)) g0_a_27 g0_ea_28 g0_ka_28 g0_r_17 (Nat.ne_of_lt (Nat.lt_of_lt_of_le A_27.lt la_28)) (Nat.ne_of_lt (Nat.lt_of_lt_of_le A_27.lt lk_28)) (Ne.symm (Nat.ne_of_lt (Nat.lt_of_lt_of_le (Nat.lt_of_lt_of_le Ex_17.lt (Nat.le_trans (Nat.le_trans (Nat.le_trans (Nat.le_trans (Nat.le_trans E_18.1 K_20.1) E_21.1) K_23.1) E_24.1) K_26.1)) (Nat.le_of_eq g_27.symm)))) nek_28 (Nat.ne_of_lt (Nat.lt_of_lt_of_le (Nat.lt_of_lt_of_le Ex_17.lt (Nat.le_trans (Nat.le_trans (Nat.le_trans (Nat.le_trans (Nat.le_trans (Nat.le_trans E_18.1 K_20.1) E_21.1) K_23.1) E_24.1) K_26.1) E_27.1)) la_28)) (Nat.ne_of_lt (Nat.lt_of_lt_of_le (Nat.lt_of_lt_of_le Ex_17.lt (Nat.le_trans (Nat.le_trans (Nat.le_trans (Nat.le_trans (Nat.le_trans (Nat.le_trans E_18.1 K_20.1) E_21.1) K_23.1) E_24.1) K_26.1) E_27.1)) lk_28)) Ex_28 F1_28 F2_28 Ex_17'_70 Fs_17'_71 Fh_17'_72 Fd_17'_73 Ex_7'_74 VE_28 VK_28 OE_28 OK_28  F3_28) hZ (own_w hw 83 rfl) (own_w hw 54 rfl) (by decide) (by decide)) q_75a q_75c (g := (mkF m 96 #[.val (.int p0), .val (.long p1), .second, .val (.long p2), .second, .val (.long p3), .second, .val (.long p4), .second, .val (.ref a_1), .val (.ref a_8), .val (.ref r_17), .val (.ref r_20), .val (.ref r_23), .val (.ref r_26), .val (.ref a_27), .val (.int (p0 &&& (3 : Int32))), .unset, .unset, .unset, .unset] [(.ref r_17), (.ref a_1), (.ref a_27)])) rfl (by rw [hml]; rfl) (argsL := [(.ref a_1), (.ref r_17)]) (rest := []) (lenOf pd_9 rfl) rfl (by show 2 * 0 + _ ≤ _; exact Nat.le_of_eq rfl) (hb hby at_96) rfl rfl (by decide) (by decide)
    obtain ⟨rfl, Nq_75, K_75, VE_75, VK_75, Ex_75, Fs_75, Fh_75, Fd_75, Eq_75, Qf_75, Qk_75, Qs_75⟩ := Q_75
    refine own_G.via st_75 ?_
    have Qt_75 : Fld Z T_75.heap a_27 "com/example/kttl/kttl/keyspace/DeadlineQueue" "size" "I" (.int (1 : Int32)) := Qs_75
    have N_75 := Fr.app N_28 Nq_75
    show own_G _ _ _ _ (T_75.setTop (mkF m 99 #[.val (.int p0), .val (.long p1), .second, .val (.long p2), .second, .val (.long p3), .second, .val (.long p4), .second, .val (.ref a_1), .val (.ref a_8), .val (.ref r_17), .val (.ref r_20), .val (.ref r_23), .val (.ref r_26), .val (.ref a_27), .val (.int (p0 &&& (3 : Int32))), .unset, .unset, .unset, .unset] []))
    refine own_G.go (fun t_ k_ => XS.iload X_75.here hx rfl (hb hby at_99) rfl k_) ?_
    show own_G _ _ _ _ (T_75.setTop (mkF m 101 #[.val (.int p0), .val (.long p1), .second, .val (.long p2), .second, .val (.long p3), .second, .val (.long p4), .second, .val (.ref a_1), .val (.ref a_8), .val (.ref r_17), .val (.ref r_20), .val (.ref r_23), .val (.ref r_26), .val (.ref a_27), .val (.int (p0 &&& (3 : Int32))), .unset, .unset, .unset, .unset] [(.int (p0 &&& (3 : Int32)))]))
    refine own_G.go (fun t_ k_ => XS.iconst X_75.here hx rfl (hb hby at_101) k_) ?_
    show own_G _ _ _ _ (T_75.setTop (mkF m 102 #[.val (.int p0), .val (.long p1), .second, .val (.long p2), .second, .val (.long p3), .second, .val (.long p4), .second, .val (.ref a_1), .val (.ref a_8), .val (.ref r_17), .val (.ref r_20), .val (.ref r_23), .val (.ref r_26), .val (.ref a_27), .val (.int (p0 &&& (3 : Int32))), .unset, .unset, .unset, .unset] [(.int (2 : Int32)), (.int (p0 &&& (3 : Int32)))]))
    by_cases hB : (p0 &&& (3 : Int32)) < (2 : Int32)
    · refine own_G.go (fun t_ k_ => XS.icmpYes X_75.here hx rfl (pc0 := 102) (pc' := 114) rfl (hb hby at_102) rfl (tlt hB).1 (by decide) (by decide) k_) ?_
      show own_G _ _ _ _ (T_75.setTop (mkF m 114 #[.val (.int p0), .val (.long p1), .second, .val (.long p2), .second, .val (.long p3), .second, .val (.long p4), .second, .val (.ref a_1), .val (.ref a_8), .val (.ref r_17), .val (.ref r_20), .val (.ref r_23), .val (.ref r_26), .val (.ref a_27), .val (.int (p0 &&& (3 : Int32))), .unset, .unset, .unset, .unset] []))
      have Ex_7'_76 : Exa Z T_75.heap a_1 "com/example/kttl/kttl/keyspace/Key" := (Ex_7'_74.keep K_75)
      have Ex_14'_77 : Exa Z T_75.heap a_8 "com/example/kttl/kttl/keyspace/Key" := (((((((((((Ex_14.ext E_15).keep K_17).ext E_18).keep K_20).ext E_21).keep K_23).ext E_24).keep K_26).ext E_27).keep K_28).keep K_75)
      have Ex_23'_78 : Exa Z T_75.heap r_23 "com/example/kttl/kttl/keyspace/Entry" := (((((Ex_23.ext E_24).keep K_26).ext E_27).keep K_28).keep K_75)
      have Fs_23'_79 : Fld Z T_75.heap r_23 "com/example/kttl/kttl/keyspace/Entry" "slot" "I" (.int (-1 : Int32)) := (((((Fs_23.ext E_24).keep K_26 nin0).ext E_27).keep K_28 (ninS (Ne.symm ne_a_27_r_23) nin0)).keep K_75 (ninS (Ne.symm ne_a_27_r_23) (ninS (Nat.ne_of_lt (Nat.lt_of_lt_of_le (Nat.lt_of_lt_of_le Ex_23.lt (Nat.le_trans (Nat.le_trans E_24.1 K_26.1) E_27.1)) la_28)) (ninS (Nat.ne_of_lt (Nat.lt_of_lt_of_le (Nat.lt_of_lt_of_le Ex_23.lt (Nat.le_trans (Nat.le_trans E_24.1 K_26.1) E_27.1)) lk_28)) (ninS (Ne.symm (Nat.ne_of_lt (Nat.lt_of_lt_of_le (Nat.lt_of_lt_of_le Ex_17.lt (Nat.le_trans (Nat.le_trans E_18.1 K_20.1) E_21.1)) lo_23))) nin0)))))
      have Fh_23'_80 : Fld Z T_75.heap r_23 "com/example/kttl/kttl/keyspace/Entry" "hasDeadline" "Z" (.int (1 : Int32)) := (((((Fh_23.ext E_24).keep K_26 nin0).ext E_27).keep K_28 (ninS (Ne.symm ne_a_27_r_23) nin0)).keep K_75 (ninS (Ne.symm ne_a_27_r_23) (ninS (Nat.ne_of_lt (Nat.lt_of_lt_of_le (Nat.lt_of_lt_of_le Ex_23.lt (Nat.le_trans (Nat.le_trans E_24.1 K_26.1) E_27.1)) la_28)) (ninS (Nat.ne_of_lt (Nat.lt_of_lt_of_le (Nat.lt_of_lt_of_le Ex_23.lt (Nat.le_trans (Nat.le_trans E_24.1 K_26.1) E_27.1)) lk_28)) (ninS (Ne.symm (Nat.ne_of_lt (Nat.lt_of_lt_of_le (Nat.lt_of_lt_of_le Ex_17.lt (Nat.le_trans (Nat.le_trans E_18.1 K_20.1) E_21.1)) lo_23))) nin0)))))
      have Fd_23'_81 : Fld Z T_75.heap r_23 "com/example/kttl/kttl/keyspace/Entry" "deadline" "J" (.long p3) := (((((Fd_23.ext E_24).keep K_26 nin0).ext E_27).keep K_28 (ninS (Ne.symm ne_a_27_r_23) nin0)).keep K_75 (ninS (Ne.symm ne_a_27_r_23) (ninS (Nat.ne_of_lt (Nat.lt_of_lt_of_le (Nat.lt_of_lt_of_le Ex_23.lt (Nat.le_trans (Nat.le_trans E_24.1 K_26.1) E_27.1)) la_28)) (ninS (Nat.ne_of_lt (Nat.lt_of_lt_of_le (Nat.lt_of_lt_of_le Ex_23.lt (Nat.le_trans (Nat.le_trans E_24.1 K_26.1) E_27.1)) lk_28)) (ninS (Ne.symm (Nat.ne_of_lt (Nat.lt_of_lt_of_le (Nat.lt_of_lt_of_le Ex_17.lt (Nat.le_trans (Nat.le_trans E_18.1 K_20.1) E_21.1)) lo_23))) nin0)))))
      have Ex_26'_82 : Exa Z T_75.heap r_26 "com/example/kttl/kttl/keyspace/Entry" := (((Ex_26.ext E_27).keep K_28).keep K_75)
      have Fs_26'_83 : Fld Z T_75.heap r_26 "com/example/kttl/kttl/keyspace/Entry" "slot" "I" (.int (-1 : Int32)) := (((Fs_26.ext E_27).keep K_28 (ninS (Ne.symm ne_a_27_r_26) nin0)).keep K_75 (ninS (Ne.symm ne_a_27_r_26) (ninS (Nat.ne_of_lt (Nat.lt_of_lt_of_le (Nat.lt_of_lt_of_le Ex_26.lt E_27.1) la_28)) (ninS (Nat.ne_of_lt (Nat.lt_of_lt_of_le (Nat.lt_of_lt_of_le Ex_26.lt E_27.1) lk_28)) (ninS (Ne.symm (Nat.ne_of_lt (Nat.lt_of_lt_of_le (Nat.lt_of_lt_of_le Ex_17.lt (Nat.le_trans (Nat.le_trans (Nat.le_trans (Nat.le_trans E_18.1 K_20.1) E_21.1) K_23.1) E_24.1)) lo_26))) nin0)))))
      have Fh_26'_84 : Fld Z T_75.heap r_26 "com/example/kttl/kttl/keyspace/Entry" "hasDeadline" "Z" (.int (1 : Int32)) := (((Fh_26.ext E_27).keep K_28 (ninS (Ne.symm ne_a_27_r_26) nin0)).keep K_75 (ninS (Ne.symm ne_a_27_r_26) (ninS (Nat.ne_of_lt (Nat.lt_of_lt_of_le (Nat.lt_of_lt_of_le Ex_26.lt E_27.1) la_28)) (ninS (Nat.ne_of_lt (Nat.lt_of_lt_of_le (Nat.lt_of_lt_of_le Ex_26.lt E_27.1) lk_28)) (ninS (Ne.symm (Nat.ne_of_lt (Nat.lt_of_lt_of_le (Nat.lt_of_lt_of_le Ex_17.lt (Nat.le_trans (Nat.le_trans (Nat.le_trans (Nat.le_trans E_18.1 K_20.1) E_21.1) K_23.1) E_24.1)) lo_26))) nin0)))))
      have Fd_26'_85 : Fld Z T_75.heap r_26 "com/example/kttl/kttl/keyspace/Entry" "deadline" "J" (.long p4) := (((Fd_26.ext E_27).keep K_28 (ninS (Ne.symm ne_a_27_r_26) nin0)).keep K_75 (ninS (Ne.symm ne_a_27_r_26) (ninS (Nat.ne_of_lt (Nat.lt_of_lt_of_le (Nat.lt_of_lt_of_le Ex_26.lt E_27.1) la_28)) (ninS (Nat.ne_of_lt (Nat.lt_of_lt_of_le (Nat.lt_of_lt_of_le Ex_26.lt E_27.1) lk_28)) (ninS (Ne.symm (Nat.ne_of_lt (Nat.lt_of_lt_of_le (Nat.lt_of_lt_of_le Ex_17.lt (Nat.le_trans (Nat.le_trans (Nat.le_trans (Nat.le_trans E_18.1 K_20.1) E_21.1) K_23.1) E_24.1)) lo_26))) nin0)))))
      have Z_86s : n0 ≤ T_75.heap.size := (Nat.le_trans Z0 (Nat.le_trans (Nat.le_trans (Nat.le_trans (Nat.le_trans (Nat.le_trans (Nat.le_trans (Nat.le_trans (Nat.le_trans (Nat.le_trans (Nat.le_trans (Nat.le_trans (Nat.le_trans (Nat.le_trans (Nat.le_trans (Nat.le_trans (Nat.le_trans (Nat.le_trans (Nat.le_trans E_1.1 E_2.1) (Keep.of_wr W_3).1) K_7.1) E_8.1) E_9.1) (Keep.of_wr W_10).1) K_14.1) E_15.1) K_17.1) E_18.1) K_20.1) E_21.1) K_23.1) E_24.1) K_26.1) E_27.1) K_28.1) K_75.1))
      have O_87d : Old Z n0 T_75.heap := ((((O_25d.keep K_26 all0).ext E_27).keep K_28 (allS g0_a_27 all0)).keep K_75 (allS g0_a_27 (allS g0_ea_28 (allS g0_ka_28 (allS g0_r_17 all0)))))
      exact J114 _ _ _ _ _ _ (X_75.mono (by decide) (by decide)) rfl N_75 Z_86s O_87d Eq_75 Qf_75 Qk_75 Qt_75 Ex_7'_76 Ex_14'_77 Ex_23'_78 Fs_23'_79 Fh_23'_80 Fd_23'_81 Ex_26'_82 Fs_26'_83 Fh_26'_84 Fd_26'_85
    · refine own_G.go (fun t_ k_ => XS.icmpNo X_75.here hx rfl (hb hby at_102) rfl (flt hB).1 k_) ?_
      show own_G _ _ _ _ (T_75.setTop (mkF m 105 #[.val (.int p0), .val (.long p1), .second, .val (.long p2), .second, .val (.long p3), .second, .val (.long p4), .second, .val (.ref a_1), .val (.ref a_8), .val (.ref r_17), .val (.ref r_20), .val (.ref r_23), .val (.ref r_26), .val (.ref a_27), .val (.int (p0 &&& (3 : Int32))), .unset, .unset, .unset, .unset] []))
      refine own_G.go (fun t_ k_ => XS.aload X_75.here hx rfl (hb hby at_105) rfl rfl k_) ?_
      show own_G _ _ _ _ (T_75.setTop (mkF m 107 #[.val (.int p0), .val (.long p1), .second, .val (.long p2), .second, .val (.long p3), .second, .val (.long p4), .second, .val (.ref a_1), .val (.ref a_8), .val (.ref r_17), .val (.ref r_20), .val (.ref r_23), .val (.ref r_26), .val (.ref a_27), .val (.int (p0 &&& (3 : Int32))), .unset, .unset, .unset, .unset] [(.ref a_27)]))
      refine own_G.go (fun t_ k_ => XS.aload X_75.here hx rfl (hb hby at_107) rfl rfl k_) ?_
      show own_G _ _ _ _ (T_75.setTop (mkF m 109 #[.val (.int p0), .val (.long p1), .second, .val (.long p2), .second, .val (.long p3), .second, .val (.long p4), .second, .val (.ref a_1), .val (.ref a_8), .val (.ref r_17), .val (.ref r_20), .val (.ref r_23), .val (.ref r_26), .val (.ref a_27), .val (.int (p0 &&& (3 : Int32))), .unset, .unset, .unset, .unset] [(.ref a_8), (.ref a_27)]))
      refine own_G.go (fun t_ k_ => XS.aload X_75.here hx rfl (hb hby at_109) rfl rfl k_) ?_
      show own_G _ _ _ _ (T_75.setTop (mkF m 111 #[.val (.int p0), .val (.long p1), .second, .val (.long p2), .second, .val (.long p3), .second, .val (.long p4), .second, .val (.ref a_1), .val (.ref a_8), .val (.ref r_17), .val (.ref r_20), .val (.ref r_23), .val (.ref r_26), .val (.ref a_27), .val (.int (p0 &&& (3 : Int32))), .unset, .unset, .unset, .unset] [(.ref r_20), (.ref a_8), (.ref a_27)]))
      by_cases hdd_111 : p2 < p1
      · have Ex_20'_88 : Exa Z T_75.heap r_20 "com/example/kttl/kttl/keyspace/Entry" := (((((((Ex_20.ext E_21).keep K_23).ext E_24).keep K_26).ext E_27).keep K_28).keep K_75)
        have Fs_20'_89 : Fld Z T_75.heap r_20 "com/example/kttl/kttl/keyspace/Entry" "slot" "I" (.int (-1 : Int32)) := (((((((Fs_20.ext E_21).keep K_23 nin0).ext E_24).keep K_26 nin0).ext E_27).keep K_28 (ninS (Nat.ne_of_lt (Nat.lt_of_lt_of_le (Nat.lt_of_lt_of_le Ex_20.lt (Nat.le_trans (Nat.le_trans (Nat.le_trans E_21.1 K_23.1) E_24.1) K_26.1)) (Nat.le_of_eq g_27.symm))) nin0)).keep K_75 (ninS (Nat.ne_of_lt (Nat.lt_of_lt_of_le (Nat.lt_of_lt_of_le Ex_20.lt (Nat.le_trans (Nat.le_trans (Nat.le_trans E_21.1 K_23.1) E_24.1) K_26.1)) (Nat.le_of_eq g_27.symm))) (ninS (Nat.ne_of_lt (Nat.lt_of_lt_of_le (Nat.lt_of_lt_of_le Ex_20.lt (Nat.le_trans (Nat.le_trans (Nat.le_trans (Nat.le_trans E_21.1 K_23.1) E_24.1) K_26.1) E_27.1)) la_28)) (ninS (Nat.ne_of_lt (Nat.lt_of_lt_of_le (Nat.lt_of_lt_of_le Ex_20.lt (Nat.le_trans (Nat.le_trans (Nat.le_trans (Nat.le_trans E_21.1 K_23.1) E_24.1) K_26.1) E_27.1)) lk_28)) (ninS (Ne.symm (Nat.ne_of_lt (Nat.lt_of_lt_of_le (Nat.lt_of_lt_of_le Ex_17.lt E_18.1) lo_20))) nin0)))))
        have Fh_20'_90 : Fld Z T_75.heap r_20 "com/example/kttl/kttl/keyspace/Entry" "hasDeadline" "Z" (.int (1 : Int32)) := (((((((Fh_20.ext E_21).keep K_23 nin0).ext E_24).keep K_26 nin0).ext E_27).keep K_28 (ninS (Nat.ne_of_lt (Nat.lt_of_lt_of_le (Nat.lt_of_lt_of_le Ex_20.lt (Nat.le_trans (Nat.le_trans (Nat.le_trans E_21.1 K_23.1) E_24.1) K_26.1)) (Nat.le_of_eq g_27.symm))) nin0)).keep K_75 (ninS (Nat.ne_of_lt (Nat.lt_of_lt_of_le (Nat.lt_of_lt_of_le Ex_20.lt (Nat.le_trans (Nat.le_trans (Nat.le_trans E_21.1 K_23.1) E_24.1) K_26.1)) (Nat.le_of_eq g_27.symm))) (ninS (Nat.ne_of_lt (Nat.lt_of_lt_of_le (Nat.lt_of_lt_of_le Ex_20.lt (Nat.le_trans (Nat.le_trans (Nat.le_trans (Nat.le_trans E_21.1 K_23.1) E_24.1) K_26.1) E_27.1)) la_28)) (ninS (Nat.ne_of_lt (Nat.lt_of_lt_of_le (Nat.lt_of_lt_of_le Ex_20.lt (Nat.le_trans (Nat.le_trans (Nat.le_trans (Nat.le_trans E_21.1 K_23.1) E_24.1) K_26.1) E_27.1)) lk_28)) (ninS (Ne.symm (Nat.ne_of_lt (Nat.lt_of_lt_of_le (Nat.lt_of_lt_of_le Ex_17.lt E_18.1) lo_20))) nin0)))))
        have Fd_20'_91 : Fld Z T_75.heap r_20 "com/example/kttl/kttl/keyspace/Entry" "deadline" "J" (.long p2) := (((((((Fd_20.ext E_21).keep K_23 nin0).ext E_24).keep K_26 nin0).ext E_27).keep K_28 (ninS (Nat.ne_of_lt (Nat.lt_of_lt_of_le (Nat.lt_of_lt_of_le Ex_20.lt (Nat.le_trans (Nat.le_trans (Nat.le_trans E_21.1 K_23.1) E_24.1) K_26.1)) (Nat.le_of_eq g_27.symm))) nin0)).keep K_75 (ninS (Nat.ne_of_lt (Nat.lt_of_lt_of_le (Nat.lt_of_lt_of_le Ex_20.lt (Nat.le_trans (Nat.le_trans (Nat.le_trans E_21.1 K_23.1) E_24.1) K_26.1)) (Nat.le_of_eq g_27.symm))) (ninS (Nat.ne_of_lt (Nat.lt_of_lt_of_le (Nat.lt_of_lt_of_le Ex_20.lt (Nat.le_trans (Nat.le_trans (Nat.le_trans (Nat.le_trans E_21.1 K_23.1) E_24.1) K_26.1) E_27.1)) la_28)) (ninS (Nat.ne_of_lt (Nat.lt_of_lt_of_le (Nat.lt_of_lt_of_le Ex_20.lt (Nat.le_trans (Nat.le_trans (Nat.le_trans (Nat.le_trans E_21.1 K_23.1) E_24.1) K_26.1) E_27.1)) lk_28)) (ninS (Ne.symm (Nat.ne_of_lt (Nat.lt_of_lt_of_le (Nat.lt_of_lt_of_le Ex_17.lt E_18.1) lo_20))) nin0)))))
        have Ex_14'_92 : Exa Z T_75.heap a_8 "com/example/kttl/kttl/keyspace/Key" := (((((((((((Ex_14.ext E_15).keep K_17).ext E_18).keep K_20).ext E_21).keep K_23).ext E_24).keep K_26).ext E_27).keep K_28).keep K_75)
        have Ex_7'_93 : Exa Z T_75.heap a_1 "com/example/kttl/kttl/keyspace/Key" := (Ex_7'_74.keep K_75)
        have g0_r_20 : n0 ≤ r_20 := Nat.le_trans (Nat.le_trans Z0 (Nat.le_trans (Nat.le_trans (Nat.le_trans (Nat.le_trans (Nat.le_trans (Nat.le_trans (Nat.le_trans (Nat.le_trans (Nat.le_trans (Nat.le_trans E_1.1 E_2.1) (Keep.of_wr W_3).1) K_7.1) E_8.1) E_9.1) (Keep.of_wr W_10).1) K_14.1) E_15.1) K_17.1) E_18.1)) lo_20
        obtain ⟨cq_94, kq_94, q_94a, q_94b, q_94c⟩ := isOf hZ rfl Eq_75
        obtain ⟨_, T_94, L_94, Q_94, X_94, st_94⟩ := own_callV X_75 hx (z := (⟨"com/example/kttl/kttl/keyspace/DeadlineQueue", "add", "(Lcom/example/kttl/kttl/keyspace/Key;Lcom/example/kttl/kttl/keyspace/Entry;)V"⟩ : MethodName)) hown (mvT hZ (own_w hw 79 rfl)) (mvT hZ (own_w hw 80 rfl)) (notFace_of_selects (args := #[]) (mvT hZ (own_w hw 82 rfl))) (mvT hZ (own_w hw 82 rfl)) (mvT hZ (own_w hw 81 rfl)) (by decide) (Q := (Qadw Z a_27 ea_28 ka_28 r_20 r_17 kE_28 kK_28 p2 p1 ([(.ref r_20), (.ref r_17), .null, .null, .null, .null, .null, .null, .null, .null, .null, .null, .null, .null, .null, .null] : List Value) ([(.ref a_8), (.ref a_1), .null, .null, .null, .null, .null, .null, .null, .null, .null, .null, .null, .null, .null, .null] : List Value) T_75.heap n0)) (backOf (W := 0) (rm_add1b l Z a0 hw [] a_27 ea_28 ka_28 r_20 a_8 kE_28 kK_28 p2 r_17 a_1 p1 (.int (0 : Int32)) T_75.heap n0 (Nat.le_trans Z0 (Nat.le_trans (Nat.le_trans (Nat.le_trans (Nat.le_trans (Nat.le_trans (Nat.le_trans (Nat.le_trans (Nat.le_trans (Nat.le_trans (Nat.le_trans (Nat.le_trans (Nat.le_trans (Nat.le_trans (Nat.le_trans (Nat.le_trans (Nat.le_trans (Nat.le_trans (Nat.le_trans E_1.1 E_2.1) (Keep.of_wr W_3).1) K_7.1) E_8.1) E_9.1) (Keep.of_wr W_10).1) K_14.1) E_15.1) K_17.1) E_18.1) K_20.1) E_21.1) K_23.1) E_24.1) K_26.1) E_27.1) K_28.1) K_75.1)) g0_a_27 g0_ea_28 g0_ka_28 g0_r_20 (Nat.ne_of_lt (Nat.lt_of_lt_of_le A_27.lt la_28)) (Nat.ne_of_lt (Nat.lt_of_lt_of_le A_27.lt lk_28)) (Ne.symm (Nat.ne_of_lt (Nat.lt_of_lt_of_le (Nat.lt_of_lt_of_le Ex_20.lt (Nat.le_trans (Nat.le_trans (Nat.le_trans E_21.1 K_23.1) E_24.1) K_26.1)) (Nat.le_of_eq g_27.symm)))) nek_28 (Nat.ne_of_lt (Nat.lt_of_lt_of_le (Nat.lt_of_lt_of_le Ex_20.lt (Nat.le_trans (Nat.le_trans (Nat.le_trans (Nat.le_trans E_21.1 K_23.1) E_24.1) K_26.1) E_27.1)) la_28)) (Nat.ne_of_lt (Nat.lt_of_lt_of_le (Nat.lt_of_lt_of_le Ex_20.lt (Nat.le_trans (Nat.le_trans (Nat.le_trans (Nat.le_trans E_21.1 K_23.1) E_24.1) K_26.1) E_27.1)) lk_28)) Eq_75 Qf_75 Qk_75 Ex_20'_88 Fs_20'_89 Fh_20'_90 Fd_20'_91 Ex_14'_92 VE_75 VK_75 OE_28 OK_28 g0_r_17 (Ne.symm (Nat.ne_of_lt (Nat.lt_of_lt_of_le (Nat.lt_of_lt_of_le Ex_17.lt (Nat.le_trans (Nat.le_trans (Nat.le_trans (Nat.le_trans (Nat.le_trans E_18.1 K_20.1) E_21.1) K_23.1) E_24.1) K_26.1)) (Nat.le_of_eq g_27.symm)))) (Nat.ne_of_lt (Nat.lt_of_lt_of_le (Nat.lt_of_lt_of_le Ex_17.lt (Nat.le_trans (Nat.le_trans (Nat.le_trans (Nat.le_trans (Nat.le_trans (Nat.le_trans E_18.1 K_20.1) E_21.1) K_23.1) E_24.1) K_26.1) E_27.1)) la_28)) (Nat.ne_of_lt (Nat.lt_of_lt_of_le (Nat.lt_of_lt_of_le Ex_17.lt (Nat.le_trans (Nat.le_trans (Nat.le_trans (Nat.le_trans (Nat.le_trans (Nat.le_trans E_18.1 K_20.1) E_21.1) K_23.1) E_24.1) K_26.1) E_27.1)) lk_28)) (Ne.symm (Nat.ne_of_lt (Nat.lt_of_lt_of_le (Nat.lt_of_lt_of_le Ex_17.lt E_18.1) lo_20))) Ex_75 Fs_75 Fh_75 Fd_75 Ex_7'_93 hdd_111 Qt_75) hZ (own_w hw 83 rfl) (own_w hw 54 rfl) (by decide) (by decide)) q_94a q_94c (g := (mkF m 111 #[.val (.int p0), .val (.long p1), .second, .val (.long p2), .second, .val (.long p3), .second, .val (.long p4), .second, .val (.ref a_1), .val (.ref a_8), .val (.ref r_17), .val (.ref r_20), .val (.ref r_23), .val (.ref r_26), .val (.ref a_27), .val (.int (p0 &&& (3 : Int32))), .unset, .unset, .unset, .unset] [(.ref r_20), (.ref a_8), (.ref a_27)])) rfl (by rw [hml]; rfl) (argsL := [(.ref a_8), (.ref r_20)]) (rest := []) (lenOf pd_9 rfl) rfl (by show 2 * 0 + _ ≤ _; exact Nat.le_of_eq rfl) (hb hby at_111) rfl rfl (by decide) (by decide)
        obtain ⟨rfl, Nq_94, K_94, VE_94, VK_94, Ex_94, Fs_94, Fh_94, Fd_94, Ey_94, Gs_94, Gh_94, Gd_94, Eq_94, Qf_94, Qk_94, Qs_94⟩ := Q_94
        refine own_G.via st_94 ?_
        have Qt_94 : Fld Z T_94.heap a_27 "com/example/kttl/kttl/keyspace/DeadlineQueue" "size" "I" (.int (2 : Int32)) := Qs_94
        have N_94 := Fr.app N_75 Nq_94
        show own_G _ _ _ _ (T_94.setTop (mkF m 114 #[.val (.int p0), .val (.long p1), .second, .val (.long p2), .second, .val (.long p3), .second, .val (.long p4), .second, .val (.ref a_1), .val (.ref a_8), .val (.ref r_17), .val (.ref r_20), .val (.ref r_23), .val (.ref r_26), .val (.ref a_27), .val (.int (p0 &&& (3 : Int32))), .unset, .unset, .unset, .unset] []))
        have Ex_7'_95 : Exa Z T_94.heap a_1 "com/example/kttl/kttl/keyspace/Key" := (Ex_7'_93.keep K_94)
        have Ex_14'_96 : Exa Z T_94.heap a_8 "com/example/kttl/kttl/keyspace/Key" := (Ex_14'_92.keep K_94)
        have Ex_23'_97 : Exa Z T_94.heap r_23 "com/example/kttl/kttl/keyspace/Entry" := ((((((Ex_23.ext E_24).keep K_26).ext E_27).keep K_28).keep K_75).keep K_94)
        have Fs_23'_98 : Fld Z T_94.heap r_23 "com/example/kttl/kttl/keyspace/Entry" "slot" "I" (.int (-1 : Int32)) := ((((((Fs_23.ext E_24).keep K_26 nin0).ext E_27).keep K_28 (ninS (Ne.symm ne_a_27_r_23) nin0)).keep K_75 (ninS (Ne.symm ne_a_27_r_23) (ninS (Nat.ne_of_lt (Nat.lt_of_lt_of_le (Nat.lt_of_lt_of_le Ex_23.lt (Nat.le_trans (Nat.le_trans E_24.1 K_26.1) E_27.1)) la_28)) (ninS (Nat.ne_of_lt (Nat.lt_of_lt_of_le (Nat.lt_of_lt_of_le Ex_23.lt (Nat.le_trans (Nat.le_trans E_24.1 K_26.1) E_27.1)) lk_28)) (ninS (Ne.symm (Nat.ne_of_lt (Nat.lt_of_lt_of_le (Nat.lt_of_lt_of_le Ex_17.lt (Nat.le_trans (Nat.le_trans E_18.1 K_20.1) E_21.1)) lo_23))) nin0))))).keep K_94 (ninS (Ne.symm ne_a_27_r_23) (ninS (Nat.ne_of_lt (Nat.lt_of_lt_of_le (Nat.lt_of_lt_of_le Ex_23.lt (Nat.le_trans (Nat.le_trans E_24.1 K_26.1) E_27.1)) la_28)) (ninS (Nat.ne_of_lt (Nat.lt_of_lt_of_le (Nat.lt_of_lt_of_le Ex_23.lt (Nat.le_trans (Nat.le_trans E_24.1 K_26.1) E_27.1)) lk_28)) (ninS (Ne.symm (Nat.ne_of_lt (Nat.lt_of_lt_of_le (Nat.lt_of_lt_of_le Ex_20.lt E_21.1) lo_23))) (ninS (Ne.symm (Nat.ne_of_lt (Nat.lt_of_lt_of_le (Nat.lt_of_lt_of_le Ex_17.lt (Nat.le_trans (Nat.le_trans E_18.1 K_20.1) E_21.1)) lo_23))) nin0))))))
        have Fh_23'_99 : Fld Z T_94.heap r_23 "com/example/kttl/kttl/keyspace/Entry" "hasDeadline" "Z" (.int (1 : Int32)) := ((((((Fh_23.ext E_24).keep K_26 nin0).ext E_27).keep K_28 (ninS (Ne.symm ne_a_27_r_23) nin0)).keep K_75 (ninS (Ne.symm ne_a_27_r_23) (ninS (Nat.ne_of_lt (Nat.lt_of_lt_of_le (Nat.lt_of_lt_of_le Ex_23.lt (Nat.le_trans (Nat.le_trans E_24.1 K_26.1) E_27.1)) la_28)) (ninS (Nat.ne_of_lt (Nat.lt_of_lt_of_le (Nat.lt_of_lt_of_le Ex_23.lt (Nat.le_trans (Nat.le_trans E_24.1 K_26.1) E_27.1)) lk_28)) (ninS (Ne.symm (Nat.ne_of_lt (Nat.lt_of_lt_of_le (Nat.lt_of_lt_of_le Ex_17.lt (Nat.le_trans (Nat.le_trans E_18.1 K_20.1) E_21.1)) lo_23))) nin0))))).keep K_94 (ninS (Ne.symm ne_a_27_r_23) (ninS (Nat.ne_of_lt (Nat.lt_of_lt_of_le (Nat.lt_of_lt_of_le Ex_23.lt (Nat.le_trans (Nat.le_trans E_24.1 K_26.1) E_27.1)) la_28)) (ninS (Nat.ne_of_lt (Nat.lt_of_lt_of_le (Nat.lt_of_lt_of_le Ex_23.lt (Nat.le_trans (Nat.le_trans E_24.1 K_26.1) E_27.1)) lk_28)) (ninS (Ne.symm (Nat.ne_of_lt (Nat.lt_of_lt_of_le (Nat.lt_of_lt_of_le Ex_20.lt E_21.1) lo_23))) (ninS (Ne.symm (Nat.ne_of_lt (Nat.lt_of_lt_of_le (Nat.lt_of_lt_of_le Ex_17.lt (Nat.le_trans (Nat.le_trans E_18.1 K_20.1) E_21.1)) lo_23))) nin0))))))
        have Fd_23'_100 : Fld Z T_94.heap r_23 "com/example/kttl/kttl/keyspace/Entry" "deadline" "J" (.long p3) := ((((((Fd_23.ext E_24).keep K_26 nin0).ext E_27).keep K_28 (ninS (Ne.symm ne_a_27_r_23) nin0)).keep K_75 (ninS (Ne.symm ne_a_27_r_23) (ninS (Nat.ne_of_lt (Nat.lt_of_lt_of_le (Nat.lt_of_lt_of_le Ex_23.lt (Nat.le_trans (Nat.le_trans E_24.1 K_26.1) E_27.1)) la_28)) (ninS (Nat.ne_of_lt (Nat.lt_of_lt_of_le (Nat.lt_of_lt_of_le Ex_23.lt (Nat.le_trans (Nat.le_trans E_24.1 K_26.1) E_27.1)) lk_28)) (ninS (Ne.symm (Nat.ne_of_lt (Nat.lt_of_lt_of_le (Nat.lt_of_lt_of_le Ex_17.lt (Nat.le_trans (Nat.le_trans E_18.1 K_20.1) E_21.1)) lo_23))) nin0))))).keep K_94 (ninS (Ne.symm ne_a_27_r_23) (ninS (Nat.ne_of_lt (Nat.lt_of_lt_of_le (Nat.lt_of_lt_of_le Ex_23.lt (Nat.le_trans (Nat.le_trans E_24.1 K_26.1) E_27.1)) la_28)) (ninS (Nat.ne_of_lt (Nat.lt_of_lt_of_le (Nat.lt_of_lt_of_le Ex_23.lt (Nat.le_trans (Nat.le_trans E_24.1 K_26.1) E_27.1)) lk_28)) (ninS (Ne.symm (Nat.ne_of_lt (Nat.lt_of_lt_of_le (Nat.lt_of_lt_of_le Ex_20.lt E_21.1) lo_23))) (ninS (Ne.symm (Nat.ne_of_lt (Nat.lt_of_lt_of_le (Nat.lt_of_lt_of_le Ex_17.lt (Nat.le_trans (Nat.le_trans E_18.1 K_20.1) E_21.1)) lo_23))) nin0))))))
        have Ex_26'_101 : Exa Z T_94.heap r_26 "com/example/kttl/kttl/keyspace/Entry" := ((((Ex_26.ext E_27).keep K_28).keep K_75).keep K_94)
        have Fs_26'_102 : Fld Z T_94.heap r_26 "com/example/kttl/kttl/keyspace/Entry" "slot" "I" (.int (-1 : Int32)) := ((((Fs_26.ext E_27).keep K_28 (ninS (Ne.symm ne_a_27_r_26) nin0)).keep K_75 (ninS (Ne.symm ne_a_27_r_26) (ninS (Nat.ne_of_lt (Nat.lt_of_lt_of_le (Nat.lt_of_lt_of_le Ex_26.lt E_27.1) la_28)) (ninS (Nat.ne_of_lt (Nat.lt_of_lt_of_le (Nat.lt_of_lt_of_le Ex_26.lt E_27.1) lk_28)) (ninS (Ne.symm (Nat.ne_of_lt (Nat.lt_of_lt_of_le (Nat.lt_of_lt_of_le Ex_17.lt (Nat.le_trans (Nat.le_trans (Nat.le_trans (Nat.le_trans E_18.1 K_20.1) E_21.1) K_23.1) E_24.1)) lo_26))) nin0))))).keep K_94 (ninS (Ne.symm ne_a_27_r_26) (ninS (Nat.ne_of_lt (Nat.lt_of_lt_of_le (Nat.lt_of_lt_of_le Ex_26.lt E_27.1) la_28)) (ninS (Nat.ne_of_lt (Nat.lt_of_lt_of_le (Nat.lt_of_lt_of_le Ex_26.lt E_27.1) lk_28)) (ninS (Ne.symm (Nat.ne_of_lt (Nat.lt_of_lt_of_le (Nat.lt_of_lt_of_le Ex_20.lt (Nat.le_trans (Nat.le_trans E_21.1 K_23.1) E_24.1)) lo_26))) (ninS (Ne.symm (Nat.ne_of_lt (Nat.lt_of_lt_of_le (Nat.lt_of_lt_of_le Ex_17.lt (Nat.le_trans (Nat.le_trans (Nat.le_trans (Nat.le_trans E_18.1 K_20.1) E_21.1) K_23.1) E_24.1)) lo_26))) nin0))))))
        have Fh_26'_103 : Fld Z T_94.heap r_26 "com/example/kttl/kttl/keyspace/Entry" "hasDeadline" "Z" (.int (1 : Int32)) := ((((Fh_26.ext E_27).keep K_28 (ninS (Ne.symm ne_a_27_r_26) nin0)).keep K_75 (ninS (Ne.symm ne_a_27_r_26) (ninS (Nat.ne_of_lt (Nat.lt_of_lt_of_le (Nat.lt_of_lt_of_le Ex_26.lt E_27.1) la_28)) (ninS (Nat.ne_of_lt (Nat.lt_of_lt_of_le (Nat.lt_of_lt_of_le Ex_26.lt E_27.1) lk_28)) (ninS (Ne.symm (Nat.ne_of_lt (Nat.lt_of_lt_of_le (Nat.lt_of_lt_of_le Ex_17.lt (Nat.le_trans (Nat.le_trans (Nat.le_trans (Nat.le_trans E_18.1 K_20.1) E_21.1) K_23.1) E_24.1)) lo_26))) nin0))))).keep K_94 (ninS (Ne.symm ne_a_27_r_26) (ninS (Nat.ne_of_lt (Nat.lt_of_lt_of_le (Nat.lt_of_lt_of_le Ex_26.lt E_27.1) la_28)) (ninS (Nat.ne_of_lt (Nat.lt_of_lt_of_le (Nat.lt_of_lt_of_le Ex_26.lt E_27.1) lk_28)) (ninS (Ne.symm (Nat.ne_of_lt (Nat.lt_of_lt_of_le (Nat.lt_of_lt_of_le Ex_20.lt (Nat.le_trans (Nat.le_trans E_21.1 K_23.1) E_24.1)) lo_26))) (ninS (Ne.symm (Nat.ne_of_lt (Nat.lt_of_lt_of_le (Nat.lt_of_lt_of_le Ex_17.lt (Nat.le_trans (Nat.le_trans (Nat.le_trans (Nat.le_trans E_18.1 K_20.1) E_21.1) K_23.1) E_24.1)) lo_26))) nin0))))))
        have Fd_26'_104 : Fld Z T_94.heap r_26 "com/example/kttl/kttl/keyspace/Entry" "deadline" "J" (.long p4) := ((((Fd_26.ext E_27).keep K_28 (ninS (Ne.symm ne_a_27_r_26) nin0)).keep K_75 (ninS (Ne.symm ne_a_27_r_26) (ninS (Nat.ne_of_lt (Nat.lt_of_lt_of_le (Nat.lt_of_lt_of_le Ex_26.lt E_27.1) la_28)) (ninS (Nat.ne_of_lt (Nat.lt_of_lt_of_le (Nat.lt_of_lt_of_le Ex_26.lt E_27.1) lk_28)) (ninS (Ne.symm (Nat.ne_of_lt (Nat.lt_of_lt_of_le (Nat.lt_of_lt_of_le Ex_17.lt (Nat.le_trans (Nat.le_trans (Nat.le_trans (Nat.le_trans E_18.1 K_20.1) E_21.1) K_23.1) E_24.1)) lo_26))) nin0))))).keep K_94 (ninS (Ne.symm ne_a_27_r_26) (ninS (Nat.ne_of_lt (Nat.lt_of_lt_of_le (Nat.lt_of_lt_of_le Ex_26.lt E_27.1) la_28)) (ninS (Nat.ne_of_lt (Nat.lt_of_lt_of_le (Nat.lt_of_lt_of_le Ex_26.lt E_27.1) lk_28)) (ninS (Ne.symm (Nat.ne_of_lt (Nat.lt_of_lt_of_le (Nat.lt_of_lt_of_le Ex_20.lt (Nat.le_trans (Nat.le_trans E_21.1 K_23.1) E_24.1)) lo_26))) (ninS (Ne.symm (Nat.ne_of_lt (Nat.lt_of_lt_of_le (Nat.lt_of_lt_of_le Ex_17.lt (Nat.le_trans (Nat.le_trans (Nat.le_trans (Nat.le_trans E_18.1 K_20.1) E_21.1) K_23.1) E_24.1)) lo_26))) nin0))))))
        have Z_105s : n0 ≤ T_94.heap.size := (Nat.le_trans Z0 (Nat.le_trans (Nat.le_trans (Nat.le_trans (Nat.le_trans (Nat.le_trans (Nat.le_trans (Nat.le_trans (Nat.le_trans (Nat.le_trans (Nat.le_trans (Nat.le_trans (Nat.le_trans (Nat.le_trans (Nat.le_trans (Nat.le_trans (Nat.le_trans (Nat.le_trans (Nat.le_trans (Nat.le_trans E_1.1 E_2.1) (Keep.of_wr W_3).1) K_7.1) E_8.1) E_9.1) (Keep.of_wr W_10).1) K_14.1) E_15.1) K_17.1) E_18.1) K_20.1) E_21.1) K_23.1) E_24.1) K_26.1) E_27.1) K_28.1) K_75.1) K_94.1))
        have O_106d : Old Z n0 T_94.heap := (((((O_25d.keep K_26 all0).ext E_27).keep K_28 (allS g0_a_27 all0)).keep K_75 (allS g0_a_27 (allS g0_ea_28 (allS g0_ka_28 (allS g0_r_17 all0))))).keep K_94 (allS g0_a_27 (allS g0_ea_28 (allS g0_ka_28 (allS g0_r_20 (allS g0_r_17 all0))))))
        exact J114 _ _ _ _ _ _ (X_94.mono (by decide) (by decide)) rfl N_94 Z_105s O_106d Eq_94 Qf_94 Qk_94 Qt_94 Ex_7'_95 Ex_14'_96 Ex_23'_97 Fs_23'_98 Fh_23'_99 Fd_23'_100 Ex_26'_101 Fs_26'_102 Fh_26'_103 Fd_26'_104
      · have Ex_20'_107 : Exa Z T_75.heap r_20 "com/example/kttl/kttl/keyspace/Entry" := (((((((Ex_20.ext E_21).keep K_23).ext E_24).keep K_26).ext E_27).keep K_28).keep K_75)
        have Fs_20'_108 : Fld Z T_75.heap r_20 "com/example/kttl/kttl/keyspace/Entry" "slot" "I" (.int (-1 : Int32)) := (((((((Fs_20.ext E_21).keep K_23 nin0).ext E_24).keep K_26 nin0).ext E_27).keep K_28 (ninS (Nat.ne_of_lt (Nat.lt_of_lt_of_le (Nat.lt_of_lt_of_le Ex_20.lt (Nat.le_trans (Nat.le_trans (Nat.le_trans E_21.1 K_23.1) E_24.1) K_26.1)) (Nat.le_of_eq g_27.symm))) nin0)).keep K_75 (ninS (Nat.ne_of_lt (Nat.lt_of_lt_of_le (Nat.lt_of_lt_of_le Ex_20.lt (Nat.le_trans (Nat.le_trans (Nat.le_trans E_21.1 K_23.1) E_24.1) K_26.1)) (Nat.le_of_eq g_27.symm))) (ninS (Nat.ne_of_lt (Nat.lt_of_lt_of_le (Nat.lt_of_lt_of_le Ex_20.lt (Nat.le_trans (Nat.le_trans (Nat.le_trans (Nat.le_trans E_21.1 K_23.1) E_24.1) K_26.1) E_27.1)) la_28)) (ninS (Nat.ne_of_lt (Nat.lt_of_lt_of_le (Nat.lt_of_lt_of_le Ex_20.lt (Nat.le_trans (Nat.le_trans (Nat.le_trans (Nat.le_trans E_21.1 K_23.1) E_24.1) K_26.1) E_27.1)) lk_28)) (ninS (Ne.symm (Nat.ne_of_lt (Nat.lt_of_lt_of_le (Nat.lt_of_lt_of_le Ex_17.lt E_18.1) lo_20))) nin0)))))
        have Fh_20'_109 : Fld Z T_75.heap r_20 "com/example/kttl/kttl/keyspace/Entry" "hasDeadline" "Z" (.int (1 : Int32)) := (((((((Fh_20.ext E_21).keep K_23 nin0).ext E_24).keep K_26 nin0).ext E_27).keep K_28 (ninS (Nat.ne_of_lt (Nat.lt_of_lt_of_le (Nat.lt_of_lt_of_le Ex_20.lt (Nat.le_trans (Nat.le_trans (Nat.le_trans E_21.1 K_23.1) E_24.1) K_26.1)) (Nat.le_of_eq g_27.symm))) nin0)).keep K_75 (ninS (Nat.ne_of_lt (Nat.lt_of_lt_of_le (Nat.lt_of_lt_of_le Ex_20.lt (Nat.le_trans (Nat.le_trans (Nat.le_trans E_21.1 K_23.1) E_24.1) K_26.1)) (Nat.le_of_eq g_27.symm))) (ninS (Nat.ne_of_lt (Nat.lt_of_lt_of_le (Nat.lt_of_lt_of_le Ex_20.lt (Nat.le_trans (Nat.le_trans (Nat.le_trans (Nat.le_trans E_21.1 K_23.1) E_24.1) K_26.1) E_27.1)) la_28)) (ninS (Nat.ne_of_lt (Nat.lt_of_lt_of_le (Nat.lt_of_lt_of_le Ex_20.lt (Nat.le_trans (Nat.le_trans (Nat.le_trans (Nat.le_trans E_21.1 K_23.1) E_24.1) K_26.1) E_27.1)) lk_28)) (ninS (Ne.symm (Nat.ne_of_lt (Nat.lt_of_lt_of_le (Nat.lt_of_lt_of_le Ex_17.lt E_18.1) lo_20))) nin0)))))
        have Fd_20'_110 : Fld Z T_75.heap r_20 "com/example/kttl/kttl/keyspace/Entry" "deadline" "J" (.long p2) := (((((((Fd_20.ext E_21).keep K_23 nin0).ext E_24).keep K_26 nin0).ext E_27).keep K_28 (ninS (Nat.ne_of_lt (Nat.lt_of_lt_of_le (Nat.lt_of_lt_of_le Ex_20.lt (Nat.le_trans (Nat.le_trans (Nat.le_trans E_21.1 K_23.1) E_24.1) K_26.1)) (Nat.le_of_eq g_27.symm))) nin0)).keep K_75 (ninS (Nat.ne_of_lt (Nat.lt_of_lt_of_le (Nat.lt_of_lt_of_le Ex_20.lt (Nat.le_trans (Nat.le_trans (Nat.le_trans E_21.1 K_23.1) E_24.1) K_26.1)) (Nat.le_of_eq g_27.symm))) (ninS (Nat.ne_of_lt (Nat.lt_of_lt_of_le (Nat.lt_of_lt_of_le Ex_20.lt (Nat.le_trans (Nat.le_trans (Nat.le_trans (Nat.le_trans E_21.1 K_23.1) E_24.1) K_26.1) E_27.1)) la_28)) (ninS (Nat.ne_of_lt (Nat.lt_of_lt_of_le (Nat.lt_of_lt_of_le Ex_20.lt (Nat.le_trans (Nat.le_trans (Nat.le_trans (Nat.le_trans E_21.1 K_23.1) E_24.1) K_26.1) E_27.1)) lk_28)) (ninS (Ne.symm (Nat.ne_of_lt (Nat.lt_of_lt_of_le (Nat.lt_of_lt_of_le Ex_17.lt E_18.1) lo_20))) nin0)))))
        have Ex_14'_111 : Exa Z T_75.heap a_8 "com/example/kttl/kttl/keyspace/Key" := (((((((((((Ex_14.ext E_15).keep K_17).ext E_18).keep K_20).ext E_21).keep K_23).ext E_24).keep K_26).ext E_27).keep K_28).keep K_75)
        have Ex_7'_112 : Exa Z T_75.heap a_1 "com/example/kttl/kttl/keyspace/Key" := (Ex_7'_74.keep K_75)
        have g0_r_20 : n0 ≤ r_20 := Nat.le_trans (Nat.le_trans Z0 (Nat.le_trans (Nat.le_trans (Nat.le_trans (Nat.le_trans (Nat.le_trans (Nat.le_trans (Nat.le_trans (Nat.le_trans (Nat.le_trans (Nat.le_trans E_1.1 E_2.1) (Keep.of_wr W_3).1) K_7.1) E_8.1) E_9.1) (Keep.of_wr W_10).1) K_14.1) E_15.1) K_17.1) E_18.1)) lo_20
        obtain ⟨cq_113, kq_113, q_113a, q_113b, q_113c⟩ := isOf hZ rfl Eq_75
        obtain ⟨_, T_113, L_113, Q_113, X_113, st_113⟩ := own_callV X_75 hx (z := (⟨"com/example/kttl/kttl/keyspace/DeadlineQueue", "add", "(Lcom/example/kttl/kttl/keyspace/Key;Lcom/example/kttl/kttl/keyspace/Entry;)V"⟩ : MethodName)) hown (mvT hZ (own_w hw 79 rfl)) (mvT hZ (own_w hw 80 rfl)) (notFace_of_selects (args := #[]) (mvT hZ (own_w hw 82 rfl))) (mvT hZ (own_w hw 82 rfl)) (mvT hZ (own_w hw 81 rfl)) (by decide) (Q := (Qad Z a_27 ea_28 ka_28 r_20 kE_28 kK_28 p2 (1 : Int32) ([(.ref r_17), (.ref r_20), .null, .null, .null, .null, .null, .null, .null, .null, .null, .null, .null, .null, .null, .null] : List Value) ([(.ref a_1), (.ref a_8), .null, .null, .null, .null, .null, .null, .null, .null, .null, .null, .null, .null, .null, .null] : List Value) T_75.heap n0)) (backOf (W := 0) (rm_add1a l Z a0 hw [] a_27 ea_28 ka_28 r_20 a_8 kE_28 kK_28 p2 r_17 a_1 p1 (.int (0 : Int32)) T_75.heap n0 (Nat.le_trans Z0 (Nat.le_trans (Nat.le_trans (Nat.le_trans (Nat.le_trans (Nat.le_trans (Nat.le_trans (Nat.le_trans (Nat.le_trans (Nat.le_trans (Nat.le_trans (Nat.le_trans (Nat.le_trans (Nat.le_trans (Nat.le_trans (Nat.le_trans (Nat.le_trans (Nat.le_trans (Nat.le_trans E_1.1 E_2.1) (Keep.of_wr W_3).1) K_7.1) E_8.1) E_9.1) (Keep.of_wr W_10).1) K_14.1) E_15.1) K_17.1) E_18.1) K_20.1) E_21.1) K_23.1) E_24.1) K_26.1) E_27.1) K_28.1) K_75.1)) g0_a_27 g0_ea_28 g0_ka_28 g0_r_20 (Nat.ne_of_lt (Nat.lt_of_lt_of_le A_27.lt la_28)) (Nat.ne_of_lt (Nat.lt_of_lt_of_le A_27.lt lk_28)) (Ne.symm (Nat.ne_of_lt (Nat.lt_of_lt_of_le (Nat.lt_of_lt_of_le Ex_20.lt (Nat.le_trans (Nat.le_trans (Nat.le_trans E_21.1 K_23.1) E_24.1) K_26.1)) (Nat.le_of_eq g_27.symm)))) nek_28 (Nat.ne_of_lt (Nat.lt_of_lt_of_le (Nat.lt_of_lt_of_le Ex_20.lt (Nat.le_trans (Nat.le_trans (Nat.le_trans (Nat.le_trans E_21.1 K_23.1) E_24.1) K_26.1) E_27.1)) la_28)) (Nat.ne_of_lt (Nat.lt_of_lt_of_le (Nat.lt_of_lt_of_le Ex_20.lt (Nat.le_trans (Nat.le_trans (Nat.le_trans (Nat.le_trans E_21.1 K_23.1) E_24.1) K_26.1) E_27.1)) lk_28)) Eq_75 Qf_75 Qk_75 Ex_20'_107 Fs_20'_108 Fh_20'_109 Fd_20'_110 Ex_14'_111 VE_75 VK_75 OE_28 OK_28 g0_r_17 (Ne.symm (Nat.ne_of_lt (Nat.lt_of_lt_of_le (Nat.lt_of_lt_of_le Ex_17.lt (Nat.le_trans (Nat.le_trans (Nat.le_trans (Nat.le_trans (Nat.le_trans E_18.1 K_20.1) E_21.1) K_23.1) E_24.1) K_26.1)) (Nat.le_of_eq g_27.symm)))) (Nat.ne_of_lt (Nat.lt_of_lt_of_le (Nat.lt_of_lt_of_le Ex_17.lt (Nat.le_trans (Nat.le_trans (Nat.le_trans (Nat.le_trans (Nat.le_trans (Nat.le_trans E_18.1 K_20.1) E_21.1) K_23.1) E_24.1) K_26.1) E_27.1)) la_28)) (Nat.ne_of_lt (Nat.lt_of_lt_of_le (Nat.lt_of_lt_of_le Ex_17.lt (Nat.le_trans (Nat.le_trans (Nat.le_trans (Nat.le_trans (Nat.le_trans (Nat.le_trans E_18.1 K_20.1) E_21.1) K_23.1) E_24.1) K_26.1) E_27.1)) lk_28)) (Ne.symm (Nat.ne_of_lt (Nat.lt_of_lt_of_le (Nat.lt_of_lt_of_le Ex_17.lt E_18.1) lo_20))) Ex_75 Fs_75 Fh_75 Fd_75 Ex_7'_112 hdd_111 Qt_75) hZ (own_w hw 83 rfl) (own_w hw 54 rfl) (by decide) (by decide)) q_113a q_113c (g := (mkF m 111 #[.val (.int p0), .val (.long p1), .second, .val (.long p2), .second, .val (.long p3), .second, .val (.long p4), .second, .val (.ref a_1), .val (.ref a_8), .val (.ref r_17), .val (.ref r_20), .val (.ref r_23), .val (.ref r_26), .val (.ref a_27), .val (.int (p0 &&& (3 : Int32))), .unset, .unset, .unset, .unset] [(.ref r_20), (.ref a_8), (.ref a_27)])) rfl (by rw [hml]; rfl) (argsL := [(.ref a_8), (.ref r_20)]) (rest := []) (lenOf pd_9 rfl) rfl (by show 2 * 0 + _ ≤ _; exact Nat.le_of_eq rfl) (hb hby at_111) rfl rfl (by decide) (by decide)
        obtain ⟨rfl, Nq_113, K_113, VE_113, VK_113, Ex_113, Fs_113, Fh_113, Fd_113, Eq_113, Qf_113, Qk_113, Qs_113⟩ := Q_113
        refine own_G.via st_113 ?_
        have Qt_113 : Fld Z T_113.heap a_27 "com/example/kttl/kttl/keyspace/DeadlineQueue" "size" "I" (.int (2 : Int32)) := Qs_113
        have N_113 := Fr.app N_75 Nq_113
        show own_G _ _ _ _ (T_113.setTop (mkF m 114 #[.val (.int p0), .val (.long p1), .second, .val (.long p2), .second, .val (.long p3), .second, .val (.long p4), .second, .val (.ref a_1), .val (.ref a_8), .val (.ref r_17), .val (.ref r_20), .val (.ref r_23), .val (.ref r_26), .val (.ref a_27), .val (.int (p0 &&& (3 : Int32))), .unset, .unset, .unset, .unset] []))
        have Ex_7'_114 : Exa Z T_113.heap a_1 "com/example/kttl/kttl/keyspace/Key" := (Ex_7'_112.keep K_113)
        have Ex_14'_115 : Exa Z T_113.heap a_8 "com/example/kttl/kttl/keyspace/Key" := (Ex_14'_111.keep K_113)
        have Ex_23'_116 : Exa Z T_113.heap r_23 "com/example/kttl/kttl/keyspace/Entry" := ((((((Ex_23.ext E_24).keep K_26).ext E_27).keep K_28).keep K_75).keep K_113)
        have Fs_23'_117 : Fld Z T_113.heap r_23 "com/example/kttl/kttl/keyspace/Entry" "slot" "I" (.int (-1 : Int32)) := ((((((Fs_23.ext E_24).keep K_26 nin0).ext E_27).keep K_28 (ninS (Ne.symm ne_a_27_r_23) nin0)).keep K_75 (ninS (Ne.symm ne_a_27_r_23) (ninS (Nat.ne_of_lt (Nat.lt_of_lt_of_le (Nat.lt_of_lt_of_le Ex_23.lt (Nat.le_trans (Nat.le_trans E_24.1 K_26.1) E_27.1)) la_28)) (ninS (Nat.ne_of_lt (Nat.lt_of_lt_of_le (Nat.lt_of_lt_of_le Ex_23.lt (Nat.le_trans (Nat.le_trans E_24.1 K_26.1) E_27.1)) lk_28)) (ninS (Ne.symm (Nat.ne_of_lt (Nat.lt_of_lt_of_le (Nat.lt_of_lt_of_le Ex_17.lt (Nat.le_trans (Nat.le_trans E_18.1 K_20.1) E_21.1)) lo_23))) nin0))))).keep K_113 (ninS (Ne.symm ne_a_27_r_23) (ninS (Nat.ne_of_lt (Nat.lt_of_lt_of_le (Nat.lt_of_lt_of_le Ex_23.lt (Nat.le_trans (Nat.le_trans E_24.1 K_26.1) E_27.1)) la_28)) (ninS (Nat.ne_of_lt (Nat.lt_of_lt_of_le (Nat.lt_of_lt_of_le Ex_23.lt (Nat.le_trans (Nat.le_trans E_24.1 K_26.1) E_27.1)) lk_28)) (ninS (Ne.symm (Nat.ne_of_lt (Nat.lt_of_lt_of_le (Nat.lt_of_lt_of_le Ex_20.lt E_21.1) lo_23))) nin0)))))
        have Fh_23'_118 : Fld Z T_113.heap r_23 "com/example/kttl/kttl/keyspace/Entry" "hasDeadline" "Z" (.int (1 : Int32)) := ((((((Fh_23.ext E_24).keep K_26 nin0).ext E_27).keep K_28 (ninS (Ne.symm ne_a_27_r_23) nin0)).keep K_75 (ninS (Ne.symm ne_a_27_r_23) (ninS (Nat.ne_of_lt (Nat.lt_of_lt_of_le (Nat.lt_of_lt_of_le Ex_23.lt (Nat.le_trans (Nat.le_trans E_24.1 K_26.1) E_27.1)) la_28)) (ninS (Nat.ne_of_lt (Nat.lt_of_lt_of_le (Nat.lt_of_lt_of_le Ex_23.lt (Nat.le_trans (Nat.le_trans E_24.1 K_26.1) E_27.1)) lk_28)) (ninS (Ne.symm (Nat.ne_of_lt (Nat.lt_of_lt_of_le (Nat.lt_of_lt_of_le Ex_17.lt (Nat.le_trans (Nat.le_trans E_18.1 K_20.1) E_21.1)) lo_23))) nin0))))).keep K_113 (ninS (Ne.symm ne_a_27_r_23) (ninS (Nat.ne_of_lt (Nat.lt_of_lt_of_le (Nat.lt_of_lt_of_le Ex_23.lt (Nat.le_trans (Nat.le_trans E_24.1 K_26.1) E_27.1)) la_28)) (ninS (Nat.ne_of_lt (Nat.lt_of_lt_of_le (Nat.lt_of_lt_of_le Ex_23.lt (Nat.le_trans (Nat.le_trans E_24.1 K_26.1) E_27.1)) lk_28)) (ninS (Ne.symm (Nat.ne_of_lt (Nat.lt_of_lt_of_le (Nat.lt_of_lt_of_le Ex_20.lt E_21.1) lo_23))) nin0)))))
        have Fd_23'_119 : Fld Z T_113.heap r_23 "com/example/kttl/kttl/keyspace/Entry" "deadline" "J" (.long p3) := ((((((Fd_23.ext E_24).keep K_26 nin0).ext E_27).keep K_28 (ninS (Ne.symm ne_a_27_r_23) nin0)).keep K_75 (ninS (Ne.symm ne_a_27_r_23) (ninS (Nat.ne_of_lt (Nat.lt_of_lt_of_le (Nat.lt_of_lt_of_le Ex_23.lt (Nat.le_trans (Nat.le_trans E_24.1 K_26.1) E_27.1)) la_28)) (ninS (Nat.ne_of_lt (Nat.lt_of_lt_of_le (Nat.lt_of_lt_of_le Ex_23.lt (Nat.le_trans (Nat.le_trans E_24.1 K_26.1) E_27.1)) lk_28)) (ninS (Ne.symm (Nat.ne_of_lt (Nat.lt_of_lt_of_le (Nat.lt_of_lt_of_le Ex_17.lt (Nat.le_trans (Nat.le_trans E_18.1 K_20.1) E_21.1)) lo_23))) nin0))))).keep K_113 (ninS (Ne.symm ne_a_27_r_23) (ninS (Nat.ne_of_lt (Nat.lt_of_lt_of_le (Nat.lt_of_lt_of_le Ex_23.lt (Nat.le_trans (Nat.le_trans E_24.1 K_26.1) E_27.1)) la_28)) (ninS (Nat.ne_of_lt (Nat.lt_of_lt_of_le (Nat.lt_of_lt_of_le Ex_23.lt (Nat.le_trans (Nat.le_trans E_24.1 K_26.1) E_27.1)) lk_28)) (ninS (Ne.symm (Nat.ne_of_lt (Nat.lt_of_lt_of_le (Nat.lt_of_lt_of_le Ex_20.lt E_21.1) lo_23))) nin0)))))
        have Ex_26'_120 : Exa Z T_113.heap r_26 "com/example/kttl/kttl/keyspace/Entry" := ((((Ex_26.ext E_27).keep K_28).keep K_75).keep K_113)
        have Fs_26'_121 : Fld Z T_113.heap r_26 "com/example/kttl/kttl/keyspace/Entry" "slot" "I" (.int (-1 : Int32)) := ((((Fs_26.ext E_27).keep K_28 (ninS (Ne.symm ne_a_27_r_26) nin0)).keep K_75 (ninS (Ne.symm ne_a_27_r_26) (ninS (Nat.ne_of_lt (Nat.lt_of_lt_of_le (Nat.lt_of_lt_of_le Ex_26.lt E_27.1) la_28)) (ninS (Nat.ne_of_lt (Nat.lt_of_lt_of_le (Nat.lt_of_lt_of_le Ex_26.lt E_27.1) lk_28)) (ninS (Ne.symm (Nat.ne_of_lt (Nat.lt_of_lt_of_le (Nat.lt_of_lt_of_le Ex_17.lt (Nat.le_trans (Nat.le_trans (Nat.le_trans (Nat.le_trans E_18.1 K_20.1) E_21.1) K_23.1) E_24.1)) lo_26))) nin0))))).keep K_113 (ninS (Ne.symm ne_a_27_r_26) (ninS (Nat.ne_of_lt (Nat.lt_of_lt_of_le (Nat.lt_of_lt_of_le Ex_26.lt E_27.1) la_28)) (ninS (Nat.ne_of_lt (Nat.lt_of_lt_of_le (Nat.lt_of_lt_of_le Ex_26.lt E_27.1) lk_28)) (ninS (Ne.symm (Nat.ne_of_lt (Nat.lt_of_lt_of_le (Nat.lt_of_lt_of_le Ex_20.lt (Nat.le_trans (Nat.le_trans E_21.1 K_23.1) E_24.1)) lo_26))) nin0)))))
        have Fh_26'_122 : Fld Z T_113.heap r_26 "com/example/kttl/kttl/keyspace/Entry" "hasDeadline" "Z" (.int (1 : Int32)) := ((((Fh_26.ext E_27).keep K_28 (ninS (Ne.symm ne_a_27_r_26) nin0)).keep K_75 (ninS (Ne.symm ne_a_27_r_26) (ninS (Nat.ne_of_lt (Nat.lt_of_lt_of_le (Nat.lt_of_lt_of_le Ex_26.lt E_27.1) la_28)) (ninS (Nat.ne_of_lt (Nat.lt_of_lt_of_le (Nat.lt_of_lt_of_le Ex_26.lt E_27.1) lk_28)) (ninS (Ne.symm (Nat.ne_of_lt (Nat.lt_of_lt_of_le (Nat.lt_of_lt_of_le Ex_17.lt (Nat.le_trans (Nat.le_trans (Nat.le_trans (Nat.le_trans E_18.1 K_20.1) E_21.1) K_23.1) E_24.1)) lo_26))) nin0))))).keep K_113 (ninS (Ne.symm ne_a_27_r_26) (ninS (Nat.ne_of_lt (Nat.lt_of_lt_of_le (Nat.lt_of_lt_of_le Ex_26.lt E_27.1) la_28)) (ninS (Nat.ne_of_lt (Nat.lt_of_lt_of_le (Nat.lt_of_lt_of_le Ex_26.lt E_27.1) lk_28)) (ninS (Ne.symm (Nat.ne_of_lt (Nat.lt_of_lt_of_le (Nat.lt_of_lt_of_le Ex_20.lt (Nat.le_trans (Nat.le_trans E_21.1 K_23.1) E_24.1)) lo_26))) nin0)))))
        have Fd_26'_123 : Fld Z T_113.heap r_26 "com/example/kttl/kttl/keyspace/Entry" "deadline" "J" (.long p4) := ((((Fd_26.ext E_27).keep K_28 (ninS (Ne.symm ne_a_27_r_26) nin0)).keep K_75 (ninS (Ne.symm ne_a_27_r_26) (ninS (Nat.ne_of_lt (Nat.lt_of_lt_of_le (Nat.lt_of_lt_of_le Ex_26.lt E_27.1) la_28)) (ninS (Nat.ne_of_lt (Nat.lt_of_lt_of_le (Nat.lt_of_lt_of_le Ex_26.lt E_27.1) lk_28)) (ninS (Ne.symm (Nat.ne_of_lt (Nat.lt_of_lt_of_le (Nat.lt_of_lt_of_le Ex_17.lt (Nat.le_trans (Nat.le_trans (Nat.le_trans (Nat.le_trans E_18.1 K_20.1) E_21.1) K_23.1) E_24.1)) lo_26))) nin0))))).keep K_113 (ninS (Ne.symm ne_a_27_r_26) (ninS (Nat.ne_of_lt (Nat.lt_of_lt_of_le (Nat.lt_of_lt_of_le Ex_26.lt E_27.1) la_28)) (ninS (Nat.ne_of_lt (Nat.lt_of_lt_of_le (Nat.lt_of_lt_of_le Ex_26.lt E_27.1) lk_28)) (ninS (Ne.symm (Nat.ne_of_lt (Nat.lt_of_lt_of_le (Nat.lt_of_lt_of_le Ex_20.lt (Nat.le_trans (Nat.le_trans E_21.1 K_23.1) E_24.1)) lo_26))) nin0)))))
        have Z_124s : n0 ≤ T_113.heap.size := (Nat.le_trans Z0 (Nat.le_trans (Nat.le_trans (Nat.le_trans (Nat.le_trans (Nat.le_trans (Nat.le_trans (Nat.le_trans (Nat.le_trans (Nat.le_trans (Nat.le_trans (Nat.le_trans (Nat.le_trans (Nat.le_trans (Nat.le_trans (Nat.le_trans (Nat.le_trans (Nat.le_trans (Nat.le_trans (Nat.le_trans E_1.1 E_2.1) (Keep.of_wr W_3).1) K_7.1) E_8.1) E_9.1) (Keep.of_wr W_10).1) K_14.1) E_15.1) K_17.1) E_18.1) K_20.1) E_21.1) K_23.1) E_24.1) K_26.1) E_27.1) K_28.1) K_75.1) K_113.1))
        have O_125d : Old Z n0 T_113.heap := (((((O_25d.keep K_26 all0).ext E_27).keep K_28 (allS g0_a_27 all0)).keep K_75 (allS g0_a_27 (allS g0_ea_28 (allS g0_ka_28 (allS g0_r_17 all0))))).keep K_113 (allS g0_a_27 (allS g0_ea_28 (allS g0_ka_28 (allS g0_r_20 all0)))))
        exact J114 _ _ _ _ _ _ (X_113.mono (by decide) (by decide)) rfl N_113 Z_124s O_125d Eq_113 Qf_113 Qk_113 Qt_113 Ex_7'_114 Ex_14'_115 Ex_23'_116 Fs_23'_117 Fh_23'_118 Fd_23'_119 Ex_26'_120 Fs_26'_121 Fh_26'_122 Fd_26'_123
set_option maxRecDepth 65536 in
set_option maxHeartbeats 40000000 in
theorem comes_1 {Post : Tables → Env → Array Value → State → Outcome → State → Prop} (hpost : ∀ tb e args s v u, (limb_1_1.after args s (.returned v) u = true ∧ limb_1_2.after args s (.returned v) u = true ∧ True) → FrameEnd s (.returned v) u (Jvm.fieldLocs frame_1_writes args s ++ Jvm.arrayLocs frame_1_arrays args s ++ Jvm.staticLocs frame_1_statics s) 56 320 → Post tb e args s (.returned v) u) :
    ArmFor flags0 classFile x code maxLocals ret World_1 tables_1 room_1 Calls_1 rest_1 Pre_1 Post := by
  intro l hfl _ _ p e ha hc hk s m args below hf hA hF happ hP
  obtain ⟨hcalls, hrest, hpre⟩ := hP
  obtain ⟨-, -, -, hnamed, -, -, -, hat⟩ := (Spec.applies_iff hf).mp happ
  obtain ⟨hg, hn⟩ := and_e (Cond.before_iff.mp (show (Jvm.Cond.and given_1 narrow_1).before args s = true from hpre))
  obtain ⟨hcnt, hr_0⟩ := and_e hg
  obtain ⟨ha_0, hr_1⟩ := and_e hr_0
  obtain ⟨ha_1, hr_2⟩ := and_e hr_1
  obtain ⟨ha_2, hr_3⟩ := and_e hr_2
  obtain ⟨ha_3, hr_4⟩ := and_e hr_3
  obtain ⟨w0, w1, w2, w3, w4, rfl⟩ : ∃ w0 w1 w2 w3 w4 : Value, args = #[w0, w1, w2, w3, w4] := by
    have hs : args.size = 5 := by simpa [Cond.value, given_1] using hcnt
    obtain ⟨L⟩ := args
    match L, hs with
    | [w0, w1, w2, w3, w4], _ => exact ⟨w0, w1, w2, w3, w4, rfl⟩
  have hw := fun d (hd : d ∈ tables_1) => atoms_spec (ws := Jvm.Cond.code x code maxLocals ret :: tables_1) hat d (List.mem_cons_of_mem _ hd)
  have hfit : Fit s := fun {y c} hc i hi => by
    obtain ⟨ha, rfl⟩ := Array.getElem?_eq_some_iff.mp hc
    have q := List.all_eq_true.mp ((Array.all_eq_true_iff_forall_mem.mp hF) _ (Array.getElem_mem ha)) i (List.mem_range.mpr hi)
    simpa [Array.getElem?_eq_getElem hi] using q
  obtain ⟨i0, ei0⟩ := is_v ha_0
  obtain rfl : w0 = (.int i0) := Option.some.inj ei0
  obtain ⟨i1, ei1⟩ := isL_v ha_1
  obtain rfl : w1 = (.long i1) := Option.some.inj ei1
  obtain ⟨i2, ei2⟩ := isL_v ha_2
  obtain rfl : w2 = (.long i2) := Option.some.inj ei2
  obtain ⟨i3, ei3⟩ := isL_v ha_3
  obtain rfl : w3 = (.long i3) := Option.some.inj ei3
  obtain ⟨i4, ei4⟩ := isL_v hr_4
  obtain rfl : w4 = (.long i4) := Option.some.inj ei4
  have hn' : narrow_1.before _ s = true := Cond.before_iff.mpr hn
  obtain ⟨kd, -, -, -, ekd, -⟩ := Cond.exactly_spec hn'
  have OK : Sta s s.heap "com/example/kttl/kttl/keyspace/Kind" "STRING" "Lcom/example/kttl/kttl/keyspace/Kind;" (.ref kd) := Sta.start ekd (Or.inr ⟨hw _ (List.mem_of_getElem? (i := 25) rfl), hw _ (List.mem_of_getElem? (i := 26) rfl)⟩)
  obtain ⟨n, o, h1, h2, h3, _, L, rfl, ⟨rfl, N⟩, hq⟩ := rm_law l s _ hw tables_1 i0 i1 i2 i3 i4 kd s.heap s.heap.size (Nat.le_refl _) OK (Old.start s) p e ha hc hk s m _ below hf ((Spec.applies_iff_loose hf).mp happ).1 ⟨rfl, State.Warmed39.refl s, rfl⟩ trivial
  refine ⟨n, _, h1, h2, h3, hpost _ _ _ _ _ _ ⟨Cond.after_iff.mpr rfl, Cond.after_iff.mpr (eq_i res_at (Term.int_eval (1)) rfl), trivial⟩ ⟨hq.1, hq.2.1, (hq.2.2.sift fun y hy => Or.inr (N y hy)).mono (by decide) (by decide)⟩⟩
theorem main_1_1 : Claimed_1_1 := comes_1 fun _ _ _ _ _ _ h hF => ⟨h.1, hF⟩
theorem main_1_2 : Claimed_1_2 := comes_1 fun _ _ _ _ _ _ h hF => ⟨h.2.1, hF⟩
end Jvm.Pilot.@@N@@
namespace Jvm.Pilot.@@N@@
open Jvm Jvm.ClassFile Sem Op Lib Jvm.Free Jvm.Stand Jvm.Pilot.@@N@@.Jvm.D
/-! MADE BY PROGRAM (witnessworld.py) out of the Statement's table words and the real class files: 19 classes; the members and pool entries that the words name. The judged class is class 1, her method 1. -/
namespace start1
open Jvm.ClassFile
def u (s : String) : CpInfo := .utf8 (stringToUtf16 s)
/-- a pool by its gaps: so many unusable entries, then the entry; so many at the end -/
def gap : Nat → List CpInfo → List CpInfo
  | 0, r => r
  | n + 1, r => .unusable :: gap n r
def poolList (es : List (Nat × CpInfo)) (last : Nat) : List CpInfo := es.foldr (fun e r => gap e.1 (e.2 :: r)) (gap last [])
def pool (es : List (Nat × CpInfo)) (last : Nat) : Array CpInfo := ⟨poolList es last⟩
def fileOf (pool : Array CpInfo) (this : Nat) (attrs : Array Attribute := #[]) (ms : Array MethodInfo := #[]) (fl : Nat := 33) (sup : Nat := 0) (ifs : Array Nat := #[]) (fds : Array FieldInfo := #[]) : ClassFile where
  minorVersion := 0
  majorVersion := 65
  constantPool := pool
  accessFlags := fl
  thisClass := this
  superClass := sup
  interfaces := ifs
  fields := fds
  methods := ms
  attributes := attrs
def plain (name : String) (sup : Option ClassId) : Class where
  name := name
  kind := .ordinary
  loader := none
  accessFlags := 33
  super := sup
  interfaces := #[]
  cf := none
  fields := #[]
  methods := #[]
  instanceTypes := #[]
  staticTypes := #[]
  resolved := #[]
  callSites := []
  init := .initialized
  statics := none
  mirror := none

def pool0 : Array CpInfo := pool [(5, u "<init>"), (0, u "()V"), (1, .class_ 10), (1, u "java/lang/Object")] 113

def k0c0 : Code := { maxStack := 0, maxLocals := 1, code := object_method_1_code, exceptionTable := #[], attributes := #[] }
def k0m0 : Method := { name := "<init>", desc := "()V", sig := { parameters := [], returnType := none }, accessFlags := 1, code := some k0c0 }
/-- java/lang/Object -/
def k0 : Class := { plain "java/lang/Object" none with
  accessFlags := 33
  interfaces := #[]
  cf := some (fileOf pool0 8 #[] #[{ accessFlags := 1, nameIndex := 5, descriptorIndex := 6, attributes := #[] }] 33 0 #[] #[])
  fields := #[]
  methods := #[k0m0]
  instanceTypes := #[]
  staticTypes := #[]
  resolved := Array.replicate 124 none
  statics := none }

def pool1 : Array CpInfo := pool [(2, .class_ 4), (0, .nameAndType 5 6), (0, u "java/lang/Object"), (0, u "<init>"), (0, u "()V"), (0, .class_ 8), (0, u "com/example/kttl/kttl/keyspace/Key"), (0, .methodref 7 10), (0, .nameAndType 5 11), (0, u "([B)V"), (0, .methodref 13 14), (0, .class_ 15), (0, .nameAndType 16 17), (0, u "com/example/kttl/kttl/keyspace/Entry"), (0, u "of"), (0, u "([BJ)Lcom/example/kttl/kttl/keyspace/Entry;"), (0, .class_ 19), (0, u "com/example/kttl/kttl/keyspace/DeadlineQueue"), (0, .methodref 18 3), (0, .methodref 18 22), (0, .nameAndType 23 24), (0, u "add"), (0, u "(Lcom/example/kttl/kttl/keyspace/Key;Lcom/example/kttl/kttl/keyspace/Entry;)V"), (0, .methodref 18 26), (0, .nameAndType 27 6), (0, u "clear"), (0, .methodref 18 29), (0, .nameAndType 30 31), (0, u "isEmpty"), (0, u "()Z"), (0, .methodref 18 33), (0, .nameAndType 34 35), (0, u "earliestDeadline"), (0, u "()J"), (0, .methodref 18 37), (0, .nameAndType 38 39), (0, u "earliestKey"), (0, u "()Lcom/example/kttl/kttl/keyspace/Key;"), (0, .class_ 41), (0, u "com/example/kttl/kttl/keyspace/DeadlineQueueClearPinLaw"), (2, u "law"), (0, u "(IJJJJ)Z")] 3

def k1m0 : Method := { name := "<init>", desc := "()V", sig := { parameters := [], returnType := none }, accessFlags := 1, code := none }
def k1c1 : Code := { maxStack := 6, maxLocals := 21, code := code, exceptionTable := #[], attributes := #[] }
def k1m1 : Method := { name := "law", desc := "(IJJJJ)Z", sig := { parameters := [.int, .long, .long, .long, .long], returnType := some .boolean }, accessFlags := 9, code := some k1c1 }
/-- com/example/kttl/kttl/keyspace/DeadlineQueueClearPinLaw -/
def k1 : Class := { plain "com/example/kttl/kttl/keyspace/DeadlineQueueClearPinLaw" (some 0) with
  accessFlags := 49
  interfaces := #[]
  cf := some (fileOf pool1 40 #[] #[{ accessFlags := 1, nameIndex := 5, descriptorIndex := 6, attributes := #[] }, { accessFlags := 9, nameIndex := 44, descriptorIndex := 45, attributes := #[] }] 49 2 #[] #[])
  fields := #[]
  methods := #[k1m0, k1m1]
  instanceTypes := #[]
  staticTypes := #[]
  resolved := Array.replicate 49 none
  statics := none }

def pool2 : Array CpInfo := pool [(1, .class_ 2), (0, u "java/lang/Comparable"), (0, .class_ 4), (0, u "java/lang/Object")] 7

/-- java/lang/Comparable -/
def k2 : Class := { plain "java/lang/Comparable" (some 0) with
  accessFlags := 1537
  interfaces := #[]
  cf := some (fileOf pool2 1 #[] #[] 1537 3 #[] #[])
  fields := #[]
  methods := #[]
  instanceTypes := #[]
  staticTypes := #[]
  resolved := Array.replicate 12 none
  statics := none }

def pool3 : Array CpInfo := pool [(1, .methodref 2 3), (0, .class_ 4), (0, .nameAndType 5 6), (0, u "java/lang/Object"), (0, u "<init>"), (0, u "()V"), (0, .fieldref 8 9), (0, .class_ 10), (0, .nameAndType 11 12), (0, u "com/example/kttl/kttl/keyspace/Key"), (0, u "bytes"), (0, u "[B"), (0, .methodref 14 15), (0, .class_ 16), (0, .nameAndType 17 18), (0, u "java/util/Arrays"), (0, u "hashCode"), (0, u "([B)I"), (0, .fieldref 8 20), (0, .nameAndType 21 22), (0, u "hash"), (0, u "I"), (12, .class_ 36), (0, u "java/lang/Comparable"), (0, u "([B)V")] 12

def k3c0 : Code := { maxStack := 2, maxLocals := 2, code := prog_21_method_1_code, exceptionTable := #[], attributes := #[] }
def k3m0 : Method := { name := "<init>", desc := "([B)V", sig := { parameters := [(.array .byte)], returnType := none }, accessFlags := 0, code := some k3c0 }
/-- com/example/kttl/kttl/keyspace/Key -/
def k3 : Class := { plain "com/example/kttl/kttl/keyspace/Key" (some 0) with
  accessFlags := 48
  interfaces := #[2]
  cf := some (fileOf pool3 8 #[] #[{ accessFlags := 0, nameIndex := 5, descriptorIndex := 37, attributes := #[] }] 48 2 #[35] #[{ accessFlags := 18, nameIndex := 11, descriptorIndex := 12, attributes := #[] }, { accessFlags := 18, nameIndex := 21, descriptorIndex := 22, attributes := #[] }])
  fields := #[{ name := "bytes", type := (.array .byte), accessFlags := 18, slot := 0, constantValue := 0 }, { name := "hash", type := .int, accessFlags := 18, slot := 1, constantValue := 0 }]
  methods := #[k3m0]
  instanceTypes := #[(.array .byte), .int]
  staticTypes := #[]
  resolved := Array.replicate 50 none
  statics := none }

def pool4 : Array CpInfo := pool [(2, .class_ 4), (1, u "java/lang/Object"), (0, u "<init>"), (0, u "()V"), (7, .class_ 16), (1, u "java/util/Arrays"), (57, .class_ 76), (1, u "java/util/Arrays$NaturalOrder"), (36, .class_ 115), (1, u "java/util/Arrays$LegacyMergeSort"), (1, u "Z"), (257, .class_ 376), (0, u "java/util/Arrays$ArrayList"), (8, u "hashCode"), (16, u "([B)I"), (42, u "$assertionsDisabled"), (269, u "MIN_ARRAY_SORT_GRAN"), (0, u "I"), (2, u "INSERTIONSORT_THRESHOLD"), (255, .class_ 976), (0, u "java/util/Arrays$ArrayItr")] 52

def k4m0 : Method := { name := "<init>", desc := "()V", sig := { parameters := [], returnType := none }, accessFlags := 2, code := none }
def k4c1 : Code := { maxStack := 5, maxLocals := 1, code := jdk_65_method_153_code, exceptionTable := #[], attributes := #[] }
def k4m1 : Method := { name := "hashCode", desc := "([B)I", sig := { parameters := [(.array .byte)], returnType := some .int }, accessFlags := 9, code := some k4c1 }
/-- java/util/Arrays -/
def k4 : Class := { plain "java/util/Arrays" (some 0) with
  accessFlags := 49
  interfaces := #[]
  cf := some (fileOf pool4 14 #[.nestMembers #[975, 375, 113, 74]] #[{ accessFlags := 2, nameIndex := 5, descriptorIndex := 6, attributes := #[] }, { accessFlags := 9, nameIndex := 385, descriptorIndex := 402, attributes := #[] }] 49 2 #[] #[{ accessFlags := 26, nameIndex := 715, descriptorIndex := 716, attributes := #[] }, { accessFlags := 26, nameIndex := 719, descriptorIndex := 716, attributes := #[] }, { accessFlags := 4120, nameIndex := 445, descriptorIndex := 117, attributes := #[] }])
  fields := #[{ name := "MIN_ARRAY_SORT_GRAN", type := .int, accessFlags := 26, slot := 0, constantValue := 0 }, { name := "INSERTIONSORT_THRESHOLD", type := .int, accessFlags := 26, slot := 1, constantValue := 0 }, { name := "$assertionsDisabled", type := .boolean, accessFlags := 4120, slot := 2, constantValue := 0 }]
  methods := #[k4m0, k4m1]
  instanceTypes := #[]
  staticTypes := #[.int, .int, .boolean]
  resolved := Array.replicate 1029 none
  statics := none }

def pool5 : Array CpInfo := pool [(1, .methodref 2 3), (0, .class_ 4), (0, .nameAndType 5 6), (0, u "java/lang/Object"), (0, u "<init>"), (0, u "()V"), (0, .class_ 8), (0, u "com/example/kttl/kttl/keyspace/Entry"), (0, .fieldref 7 10), (0, .nameAndType 11 12), (0, u "slot"), (0, u "I"), (0, .fieldref 7 14), (0, .nameAndType 15 16), (0, u "kind"), (0, u "Lcom/example/kttl/kttl/keyspace/Kind;"), (0, .fieldref 7 18), (0, .nameAndType 19 20), (0, u "value"), (0, u "Ljava/lang/Object;"), (0, .fieldref 7 22), (0, .nameAndType 23 24), (0, u "hasDeadline"), (0, u "Z"), (0, .fieldref 7 26), (0, .nameAndType 27 28), (0, u "deadline"), (0, u "J"), (0, .fieldref 30 31), (0, .class_ 32), (0, .nameAndType 33 16), (0, u "com/example/kttl/kttl/keyspace/Kind"), (0, u "STRING"), (0, .class_ 35), (0, u "com/example/kttl/kttl/keyspace/StringValue"), (0, .methodref 34 37), (0, .nameAndType 5 38), (0, u "([B)V"), (0, .methodref 7 40), (0, .nameAndType 5 41), (0, u "(Lcom/example/kttl/kttl/keyspace/Kind;Ljava/lang/Object;ZJ)V"), (13, .class_ 57), (1, u "com/example/kttl/kttl/keyspace/Entry$1"), (43, u "NO_SLOT"), (4, u "of"), (1, u "([BJ)Lcom/example/kttl/kttl/keyspace/Entry;"), (10, u "()Z"), (3, u "()J")] 4

def k5c0 : Code := { maxStack := 3, maxLocals := 6, code := prog_18_method_1_code, exceptionTable := #[], attributes := #[] }
def k5m0 : Method := { name := "<init>", desc := "(Lcom/example/kttl/kttl/keyspace/Kind;Ljava/lang/Object;ZJ)V", sig := { parameters := [(.object "com/example/kttl/kttl/keyspace/Kind"), (.object "java/lang/Object"), .boolean, .long], returnType := none }, accessFlags := 2, code := some k5c0 }
def k5c1 : Code := { maxStack := 7, maxLocals := 3, code := prog_18_method_3_code, exceptionTable := #[], attributes := #[] }
def k5m1 : Method := { name := "of", desc := "([BJ)Lcom/example/kttl/kttl/keyspace/Entry;", sig := { parameters := [(.array .byte), .long], returnType := some (.object "com/example/kttl/kttl/keyspace/Entry") }, accessFlags := 8, code := some k5c1 }
def k5c2 : Code := { maxStack := 1, maxLocals := 1, code := prog_18_method_16_code, exceptionTable := #[], attributes := #[] }
def k5m2 : Method := { name := "hasDeadline", desc := "()Z", sig := { parameters := [], returnType := some .boolean }, accessFlags := 1, code := some k5c2 }
def k5c3 : Code := { maxStack := 3, maxLocals := 1, code := prog_18_method_17_code, exceptionTable := #[], attributes := #[] }
def k5m3 : Method := { name := "deadline", desc := "()J", sig := { parameters := [], returnType := some .long }, accessFlags := 1, code := some k5c3 }
/-- com/example/kttl/kttl/keyspace/Entry -/
def k5 : Class := { plain "com/example/kttl/kttl/keyspace/Entry" (some 0) with
  accessFlags := 49
  interfaces := #[]
  cf := some (fileOf pool5 7 #[.nestMembers #[55]] #[{ accessFlags := 2, nameIndex := 5, descriptorIndex := 41, attributes := #[] }, { accessFlags := 8, nameIndex := 106, descriptorIndex := 108, attributes := #[] }, { accessFlags := 1, nameIndex := 23, descriptorIndex := 119, attributes := #[] }, { accessFlags := 1, nameIndex := 27, descriptorIndex := 123, attributes := #[] }] 49 2 #[] #[{ accessFlags := 24, nameIndex := 101, descriptorIndex := 12, attributes := #[] }, { accessFlags := 18, nameIndex := 15, descriptorIndex := 16, attributes := #[] }, { accessFlags := 18, nameIndex := 19, descriptorIndex := 20, attributes := #[] }, { accessFlags := 18, nameIndex := 23, descriptorIndex := 24, attributes := #[] }, { accessFlags := 18, nameIndex := 27, descriptorIndex := 28, attributes := #[] }, { accessFlags := 0, nameIndex := 11, descriptorIndex := 12, attributes := #[] }])
  fields := #[{ name := "NO_SLOT", type := .int, accessFlags := 24, slot := 0, constantValue := 0 }, { name := "kind", type := (.object "com/example/kttl/kttl/keyspace/Kind"), accessFlags := 18, slot := 0, constantValue := 0 }, { name := "value", type := (.object "java/lang/Object"), accessFlags := 18, slot := 1, constantValue := 0 }, { name := "hasDeadline", type := .boolean, accessFlags := 18, slot := 2, constantValue := 0 }, { name := "deadline", type := .long, accessFlags := 18, slot := 3, constantValue := 0 }, { name := "slot", type := .int, accessFlags := 0, slot := 4, constantValue := 0 }]
  methods := #[k5m0, k5m1, k5m2, k5m3]
  instanceTypes := #[(.object "com/example/kttl/kttl/keyspace/Kind"), (.object "java/lang/Object"), .boolean, .long, .int]
  staticTypes := #[.int]
  resolved := Array.replicate 128 none
  statics := none }

def pool6 : Array CpInfo := pool [(1, .class_ 2), (0, u "java/lang/constant/Constable"), (0, .class_ 4), (0, u "java/lang/Object")] 6

/-- java/lang/constant/Constable -/
def k6 : Class := { plain "java/lang/constant/Constable" (some 0) with
  accessFlags := 1537
  interfaces := #[]
  cf := some (fileOf pool6 1 #[] #[] 1537 3 #[] #[])
  fields := #[]
  methods := #[]
  instanceTypes := #[]
  staticTypes := #[]
  resolved := Array.replicate 11 none
  statics := none }

def pool7 : Array CpInfo := pool [(1, .class_ 2), (0, u "java/io/Serializable"), (0, .class_ 4), (0, u "java/lang/Object")] 2

/-- java/io/Serializable -/
def k7 : Class := { plain "java/io/Serializable" (some 0) with
  accessFlags := 1537
  interfaces := #[]
  cf := some (fileOf pool7 1 #[] #[] 1537 3 #[] #[])
  fields := #[]
  methods := #[]
  instanceTypes := #[]
  staticTypes := #[]
  resolved := Array.replicate 7 none
  statics := none }

def pool8 : Array CpInfo := pool [(2, .class_ 4), (1, u "java/lang/Enum"), (0, u "name"), (0, u "Ljava/lang/String;"), (2, u "ordinal"), (0, u "I"), (1, .class_ 14), (1, u "java/lang/Object"), (4, u "hash"), (86, .class_ 108), (1, u "java/lang/Enum$EnumDesc"), (2, .class_ 112), (0, u "java/lang/constant/Constable"), (0, .class_ 114), (0, u "java/lang/Comparable"), (0, .class_ 116), (0, u "java/io/Serializable")] 87

/-- java/lang/Enum -/
def k8 : Class := { plain "java/lang/Enum" (some 0) with
  accessFlags := 1057
  interfaces := #[6, 2, 7]
  cf := some (fileOf pool8 2 #[.nestMembers #[106]] #[] 1057 12 #[111, 113, 115] #[{ accessFlags := 18, nameIndex := 5, descriptorIndex := 6, attributes := #[] }, { accessFlags := 18, nameIndex := 9, descriptorIndex := 10, attributes := #[] }, { accessFlags := 2, nameIndex := 19, descriptorIndex := 10, attributes := #[] }])
  fields := #[{ name := "name", type := (.object "java/lang/String"), accessFlags := 18, slot := 0, constantValue := 0 }, { name := "ordinal", type := .int, accessFlags := 18, slot := 1, constantValue := 0 }, { name := "hash", type := .int, accessFlags := 2, slot := 2, constantValue := 0 }]
  methods := #[]
  instanceTypes := #[(.object "java/lang/String"), .int, .int]
  staticTypes := #[]
  resolved := Array.replicate 204 none
  statics := none }

def pool9 : Array CpInfo := pool [(1, .class_ 2), (0, u "com/example/kttl/kttl/keyspace/Kind"), (2, u "STRING"), (0, u "Lcom/example/kttl/kttl/keyspace/Kind;"), (2, u "LIST"), (2, u "HASH"), (2, u "$VALUES"), (0, u "[Lcom/example/kttl/kttl/keyspace/Kind;"), (6, .class_ 25), (1, u "java/lang/Enum"), (8, u "typeName"), (0, u "Ljava/lang/String;")] 29

/-- com/example/kttl/kttl/keyspace/Kind -/
def k9 : Class := { plain "com/example/kttl/kttl/keyspace/Kind" (some 8) with
  accessFlags := 16433
  interfaces := #[]
  cf := some (fileOf pool9 1 #[] #[] 16433 23 #[] #[{ accessFlags := 16409, nameIndex := 5, descriptorIndex := 6, attributes := #[] }, { accessFlags := 16409, nameIndex := 9, descriptorIndex := 6, attributes := #[] }, { accessFlags := 16409, nameIndex := 12, descriptorIndex := 6, attributes := #[] }, { accessFlags := 18, nameIndex := 34, descriptorIndex := 35, attributes := #[] }, { accessFlags := 4122, nameIndex := 15, descriptorIndex := 16, attributes := #[] }])
  fields := #[{ name := "STRING", type := (.object "com/example/kttl/kttl/keyspace/Kind"), accessFlags := 16409, slot := 0, constantValue := 0 }, { name := "LIST", type := (.object "com/example/kttl/kttl/keyspace/Kind"), accessFlags := 16409, slot := 1, constantValue := 0 }, { name := "HASH", type := (.object "com/example/kttl/kttl/keyspace/Kind"), accessFlags := 16409, slot := 2, constantValue := 0 }, { name := "typeName", type := (.object "java/lang/String"), accessFlags := 18, slot := 3, constantValue := 0 }, { name := "$VALUES", type := (.array (.object "com/example/kttl/kttl/keyspace/Kind")), accessFlags := 4122, slot := 3, constantValue := 0 }]
  methods := #[]
  instanceTypes := #[(.object "java/lang/String"), .int, .int, (.object "java/lang/String")]
  staticTypes := #[(.object "com/example/kttl/kttl/keyspace/Kind"), (.object "com/example/kttl/kttl/keyspace/Kind"), (.object "com/example/kttl/kttl/keyspace/Kind"), (.array (.object "com/example/kttl/kttl/keyspace/Kind"))]
  resolved := Array.replicate 65 none
  statics := some 0 }

def pool10 : Array CpInfo := pool [(3, .methodref 4 5), (0, .class_ 6), (0, .nameAndType 7 8), (0, u "java/lang/Object"), (0, u "<init>"), (0, u "()V"), (0, .fieldref 10 11), (0, .class_ 12), (0, .nameAndType 13 14), (0, u "com/example/kttl/kttl/keyspace/StringValue"), (0, u "bytes"), (0, u "[B"), (0, .fieldref 10 16), (0, .nameAndType 17 18), (0, u "length"), (0, u "I"), (31, u "MAX_ARRAY_LENGTH"), (2, u "([B)V")] 24

def k10c0 : Code := { maxStack := 2, maxLocals := 2, code := prog_25_method_1_code, exceptionTable := #[], attributes := #[] }
def k10m0 : Method := { name := "<init>", desc := "([B)V", sig := { parameters := [(.array .byte)], returnType := none }, accessFlags := 0, code := some k10c0 }
/-- com/example/kttl/kttl/keyspace/StringValue -/
def k10 : Class := { plain "com/example/kttl/kttl/keyspace/StringValue" (some 0) with
  accessFlags := 49
  interfaces := #[]
  cf := some (fileOf pool10 10 #[] #[{ accessFlags := 0, nameIndex := 7, descriptorIndex := 53, attributes := #[] }] 49 4 #[] #[{ accessFlags := 26, nameIndex := 50, descriptorIndex := 18, attributes := #[] }, { accessFlags := 2, nameIndex := 13, descriptorIndex := 14, attributes := #[] }, { accessFlags := 2, nameIndex := 17, descriptorIndex := 18, attributes := #[] }])
  fields := #[{ name := "MAX_ARRAY_LENGTH", type := .int, accessFlags := 26, slot := 0, constantValue := 0 }, { name := "bytes", type := (.array .byte), accessFlags := 2, slot := 0, constantValue := 0 }, { name := "length", type := .int, accessFlags := 2, slot := 1, constantValue := 0 }]
  methods := #[k10m0]
  instanceTypes := #[(.array .byte), .int]
  staticTypes := #[.int]
  resolved := Array.replicate 78 none
  statics := none }

def pool11 : Array CpInfo := pool [(1, .methodref 2 3), (0, .class_ 4), (0, .nameAndType 5 6), (0, u "java/lang/Object"), (0, u "<init>"), (0, u "()V"), (0, .class_ 8), (0, u "com/example/kttl/kttl/keyspace/DeadlineQueue"), (0, .class_ 10), (0, u "com/example/kttl/kttl/keyspace/Entry"), (0, .fieldref 7 12), (0, .nameAndType 13 14), (0, u "entries"), (0, u "[Lcom/example/kttl/kttl/keyspace/Entry;"), (0, .class_ 16), (0, u "com/example/kttl/kttl/keyspace/Key"), (0, .fieldref 7 18), (0, .nameAndType 19 20), (0, u "keys"), (0, u "[Lcom/example/kttl/kttl/keyspace/Key;"), (0, .methodref 9 22), (0, .nameAndType 23 24), (0, u "hasDeadline"), (0, u "()Z"), (0, .fieldref 9 26), (0, .nameAndType 27 28), (0, u "slot"), (0, u "I"), (7, .fieldref 7 37), (0, .nameAndType 38 28), (0, u "size"), (4, .methodref 7 44), (0, .nameAndType 45 46), (0, u "siftUp"), (0, u "(ILcom/example/kttl/kttl/keyspace/Key;Lcom/example/kttl/kttl/keyspace/Entry;)V"), (2, .methodref 9 50), (0, .nameAndType 51 52), (0, u "deadline"), (0, u "()J"), (3, .methodref 7 57), (0, .nameAndType 58 46), (0, u "place"), (8, u "INITIAL_CAPACITY"), (4, u "add"), (0, u "(Lcom/example/kttl/kttl/keyspace/Key;Lcom/example/kttl/kttl/keyspace/Entry;)V"), (3, u "isEmpty"), (0, u "earliestKey"), (0, u "()Lcom/example/kttl/kttl/keyspace/Key;"), (0, u "earliestDeadline"), (0, u "clear")] 2

def k11c0 : Code := { maxStack := 2, maxLocals := 1, code := prog_15_method_1_code, exceptionTable := #[], attributes := #[] }
def k11m0 : Method := { name := "<init>", desc := "()V", sig := { parameters := [], returnType := none }, accessFlags := 0, code := some k11c0 }
def k11c1 : Code := { maxStack := 4, maxLocals := 3, code := prog_15_method_2_code, exceptionTable := #[], attributes := #[] }
def k11m1 : Method := { name := "add", desc := "(Lcom/example/kttl/kttl/keyspace/Key;Lcom/example/kttl/kttl/keyspace/Entry;)V", sig := { parameters := [(.object "com/example/kttl/kttl/keyspace/Key"), (.object "com/example/kttl/kttl/keyspace/Entry")], returnType := none }, accessFlags := 0, code := some k11c1 }
def k11c2 : Code := { maxStack := 1, maxLocals := 1, code := prog_15_method_4_code, exceptionTable := #[], attributes := #[] }
def k11m2 : Method := { name := "isEmpty", desc := "()Z", sig := { parameters := [], returnType := some .boolean }, accessFlags := 0, code := some k11c2 }
def k11c3 : Code := { maxStack := 2, maxLocals := 1, code := prog_15_method_5_code, exceptionTable := #[], attributes := #[] }
def k11m3 : Method := { name := "earliestKey", desc := "()Lcom/example/kttl/kttl/keyspace/Key;", sig := { parameters := [], returnType := some (.object "com/example/kttl/kttl/keyspace/Key") }, accessFlags := 0, code := some k11c3 }
def k11c4 : Code := { maxStack := 2, maxLocals := 1, code := prog_15_method_6_code, exceptionTable := #[], attributes := #[] }
def k11m4 : Method := { name := "earliestDeadline", desc := "()J", sig := { parameters := [], returnType := some .long }, accessFlags := 0, code := some k11c4 }
def k11c5 : Code := { maxStack := 2, maxLocals := 1, code := prog_15_method_7_code, exceptionTable := #[], attributes := #[] }
def k11m5 : Method := { name := "clear", desc := "()V", sig := { parameters := [], returnType := none }, accessFlags := 0, code := some k11c5 }
def k11c6 : Code := { maxStack := 5, maxLocals := 6, code := prog_15_method_8_code, exceptionTable := #[], attributes := #[] }
def k11m6 : Method := { name := "siftUp", desc := "(ILcom/example/kttl/kttl/keyspace/Key;Lcom/example/kttl/kttl/keyspace/Entry;)V", sig := { parameters := [.int, (.object "com/example/kttl/kttl/keyspace/Key"), (.object "com/example/kttl/kttl/keyspace/Entry")], returnType := none }, accessFlags := 2, code := some k11c6 }
def k11c7 : Code := { maxStack := 3, maxLocals := 4, code := prog_15_method_10_code, exceptionTable := #[], attributes := #[] }
def k11m7 : Method := { name := "place", desc := "(ILcom/example/kttl/kttl/keyspace/Key;Lcom/example/kttl/kttl/keyspace/Entry;)V", sig := { parameters := [.int, (.object "com/example/kttl/kttl/keyspace/Key"), (.object "com/example/kttl/kttl/keyspace/Entry")], returnType := none }, accessFlags := 2, code := some k11c7 }
/-- com/example/kttl/kttl/keyspace/DeadlineQueue -/
def k11 : Class := { plain "com/example/kttl/kttl/keyspace/DeadlineQueue" (some 0) with
  accessFlags := 48
  interfaces := #[]
  cf := some (fileOf pool11 7 #[] #[{ accessFlags := 0, nameIndex := 5, descriptorIndex := 6, attributes := #[] }, { accessFlags := 0, nameIndex := 72, descriptorIndex := 73, attributes := #[] }, { accessFlags := 0, nameIndex := 77, descriptorIndex := 24, attributes := #[] }, { accessFlags := 0, nameIndex := 78, descriptorIndex := 79, attributes := #[] }, { accessFlags := 0, nameIndex := 80, descriptorIndex := 52, attributes := #[] }, { accessFlags := 0, nameIndex := 81, descriptorIndex := 6, attributes := #[] }, { accessFlags := 2, nameIndex := 45, descriptorIndex := 46, attributes := #[] }, { accessFlags := 2, nameIndex := 58, descriptorIndex := 46, attributes := #[] }] 48 2 #[] #[{ accessFlags := 26, nameIndex := 67, descriptorIndex := 28, attributes := #[] }, { accessFlags := 2, nameIndex := 13, descriptorIndex := 14, attributes := #[] }, { accessFlags := 2, nameIndex := 19, descriptorIndex := 20, attributes := #[] }, { accessFlags := 2, nameIndex := 38, descriptorIndex := 28, attributes := #[] }])
  fields := #[{ name := "INITIAL_CAPACITY", type := .int, accessFlags := 26, slot := 0, constantValue := 0 }, { name := "entries", type := (.array (.object "com/example/kttl/kttl/keyspace/Entry")), accessFlags := 2, slot := 0, constantValue := 0 }, { name := "keys", type := (.array (.object "com/example/kttl/kttl/keyspace/Key")), accessFlags := 2, slot := 1, constantValue := 0 }, { name := "size", type := .int, accessFlags := 2, slot := 2, constantValue := 0 }]
  methods := #[k11m0, k11m1, k11m2, k11m3, k11m4, k11m5, k11m6, k11m7]
  instanceTypes := #[(.array (.object "com/example/kttl/kttl/keyspace/Entry")), (.array (.object "com/example/kttl/kttl/keyspace/Key")), .int]
  staticTypes := #[.int]
  resolved := Array.replicate 84 none
  statics := none }

def pool12 : Array CpInfo := pool [(1, u "java/lang/Cloneable"), (0, .class_ 1), (0, u "java/lang/Object"), (0, .class_ 3)] 3

/-- java/lang/Cloneable -/
def k12 : Class := { plain "java/lang/Cloneable" (some 0) with
  accessFlags := 1537
  interfaces := #[]
  cf := some (fileOf pool12 2 #[] #[] 1537 4 #[] #[])
  fields := #[]
  methods := #[]
  instanceTypes := #[]
  staticTypes := #[]
  resolved := Array.replicate 8 none
  statics := none }

/-- the primitive byte -/
def k13 : Class := { plain "byte" none with kind := .primitive 'B', accessFlags := 0x411 }
/-- [B -/
def k14 : Class := { plain "[B" (some 0) with kind := .array 13 .byte, interfaces := #[12, 7], accessFlags := 1041 }

/-- the primitive int -/
def k15 : Class := { plain "int" none with kind := .primitive 'I', accessFlags := 0x411 }
/-- [I -/
def k16 : Class := { plain "[I" (some 0) with kind := .array 15 .int, interfaces := #[12, 7], accessFlags := 1041 }

/-- [Lcom/example/kttl/kttl/keyspace/Entry; -/
def k17 : Class := { plain "[Lcom/example/kttl/kttl/keyspace/Entry;" (some 0) with kind := .array 5 (.object "com/example/kttl/kttl/keyspace/Entry"), interfaces := #[12, 7], accessFlags := 1041 }

/-- [Lcom/example/kttl/kttl/keyspace/Key; -/
def k18 : Class := { plain "[Lcom/example/kttl/kttl/keyspace/Key;" (some 0) with kind := .array 3 (.object "com/example/kttl/kttl/keyspace/Key"), interfaces := #[12, 7], accessFlags := 1041 }

def heap : Heap := #[{ cls := 9, slots := #[.ref 1, .null, .null, .null], vm := .statics 9 },
  { cls := 9, slots := #[.null, .int 0, .int 0, .null], vm := .none }]
def classes : Array Class := #[k0, k1, k2, k3, k4, k5, k6, k7, k8, k9, k10, k11, k12, k13, k14, k15, k16, k17, k18]
def interned : List (Array UInt16 × Addr) := []
def slotsUsed : Nat := 8
def theMethod : MethodId := ⟨1, 1⟩
def args0 : Array Value := #[.int 5, .long 7, .long 3, .long 4, .long 5]
def aboutOver (below : List Frame) : State where
  vm := { classes := classes, interned := interned.toArray }
  heap := heap
  slotsUsed := slotsUsed
  threads := #[{ frames := .invoking theMethod args0 :: below }]
def below0 : List Frame := [.native { method := ⟨0, 0⟩, args := #[] }]
def about1 : State := aboutOver below0
def p0 : Program := .bare "" "" ""
def e0 : Env := launch0.env 0 0 0
theorem w_frames : about1.frames = Frame.invoking theMethod args0 :: below0 := rfl
set_option maxRecDepth 65536 in
theorem w_args : argsFit about1.vm theMethod args0 = true := by decide +kernel
set_option maxRecDepth 65536 in
theorem w_heap : heapFits about1 = true := by decide +kernel
set_option maxRecDepth 65536 in
theorem w_runnable : about1.curStatus? = some .runnable := by decide +kernel
set_option maxRecDepth 65536 in
theorem w_alone : about1.alone = true := by decide +kernel
set_option maxRecDepth 65536 in
theorem w_named : about1.methodNamed? x = some theMethod := by decide +kernel
set_option maxRecDepth 65536 in
theorem w_hears : about1.hears theMethod below0 = true := by decide +kernel
set_option maxRecDepth 65536 in
theorem w_ripe : about1.ripe theMethod args0 below0 = true := by decide +kernel
theorem w_running : about1.status = .running := rfl
set_option maxRecDepth 65536 in
theorem w_room : about1.hasRoom e0.platform room_1 = true :=
  launch0.hasRoom_least _ room_1 (by decide +kernel) (by decide +kernel) (by decide +kernel) (by decide +kernel) (by decide +kernel) (by decide +kernel)
theorem allAtoms_all (ts : List Jvm.Cond) (a : Array Jvm.Value) (st : Jvm.State) : (allAtoms ts).before a st = ts.all (fun c => c.before a st) := by
  induction ts with
  | nil => rfl
  | cons c t ih =>
    show (Jvm.Cond.and c (allAtoms t)).before a st = _
    rw [Jvm.Cond.before_and, ih, List.all_cons]
def words1 : List Jvm.Cond := Jvm.Cond.code x code maxLocals ret :: tables_1
/-- a 'code' word, met by the world's own term for the bytes: nothing is compared byte by byte -/
theorem code_word {y : MethodName} {bytes : ByteArray} {mx : Nat} {rt : Option FieldType} {a : Array Value} {s : State} {m : MethodId} {meth : Method} {c : Code} (h1 : s.methodNamed? y = some m) (h2 : s.vm.method? m = some meth) (h3 : meth.code = some c) (h4 : c.code = bytes)
    (h5 : (c.maxLocals == mx && c.exceptionTable.isEmpty && decide (c.maxStack ≤ mostOperands) && decide (meth.sig.returnType = rt) && !meth.locks && decide (parseMethodDescriptor y.desc = some meth.sig)) = true) : (Jvm.Cond.code y bytes mx rt).before a s = true := by
  simp only [Bool.and_eq_true, beq_iff_eq, Bool.not_eq_true', decide_eq_true_eq] at h5
  obtain ⟨⟨⟨⟨⟨g1, g2⟩, g3⟩, g4⟩, g5⟩, g6⟩ := h5
  simp [Cond.before, Cond.holds, Cond.value, h1, h2, h3, h4, g1, g2, g3, g4, g5, g6]
def isCode : Jvm.Cond → Bool
  | .code _ _ _ _ => true
  | _ => false
theorem all_split {L : List Jvm.Cond} {P : Jvm.Cond → Bool} (h1 : L.all (fun c => isCode c || P c) = true) (h2 : ∀ c ∈ L.filter isCode, P c = true) : L.all P = true := by
  refine List.all_eq_true.mpr fun c hc => ?_
  have h := List.all_eq_true.mp h1 c hc
  rcases Bool.eq_false_or_eq_true (isCode c) with hi | hi
  · exact h2 c (List.mem_filter.mpr ⟨hc, hi⟩)
  · simpa [hi] using h
set_option maxRecDepth 65536 in
theorem w_c0 : (Jvm.Cond.code x code maxLocals ret).before args0 about1 = true := code_word (m := ⟨1, 1⟩) (meth := k1m1) (c := k1c1) (by decide +kernel) rfl rfl rfl (by decide +kernel)
set_option maxRecDepth 65536 in
theorem w_c1 : (Jvm.Cond.code ({ cls := "com/example/kttl/kttl/keyspace/Key", name := "<init>", desc := "([B)V" } : Jvm.MethodName) prog_21_method_1_code (2 : Nat) (Option.none : Option Jvm.ClassFile.FieldType)).before args0 about1 = true := code_word (m := ⟨3, 0⟩) (meth := k3m0) (c := k3c0) (by decide +kernel) rfl rfl rfl (by decide +kernel)
set_option maxRecDepth 65536 in
theorem w_c2 : (Jvm.Cond.code ({ cls := "java/lang/Object", name := "<init>", desc := "()V" } : Jvm.MethodName) object_method_1_code (1 : Nat) (Option.none : Option Jvm.ClassFile.FieldType)).before args0 about1 = true := code_word (m := ⟨0, 0⟩) (meth := k0m0) (c := k0c0) (by decide +kernel) rfl rfl rfl (by decide +kernel)
set_option maxRecDepth 65536 in
theorem w_c3 : (Jvm.Cond.code ({ cls := "java/util/Arrays", name := "hashCode", desc := "([B)I" } : Jvm.MethodName) jdk_65_method_153_code (1 : Nat) (Option.some Jvm.ClassFile.FieldType.int)).before args0 about1 = true := code_word (m := ⟨4, 1⟩) (meth := k4m1) (c := k4c1) (by decide +kernel) rfl rfl rfl (by decide +kernel)
set_option maxRecDepth 65536 in
theorem w_c4 : (Jvm.Cond.code ({ cls := "com/example/kttl/kttl/keyspace/Entry", name := "of", desc := "([BJ)Lcom/example/kttl/kttl/keyspace/Entry;" } : Jvm.MethodName) prog_18_method_3_code (3 : Nat) (Option.some (Jvm.ClassFile.FieldType.object "com/example/kttl/kttl/keyspace/Entry"))).before args0 about1 = true := code_word (m := ⟨5, 1⟩) (meth := k5m1) (c := k5c1) (by decide +kernel) rfl rfl rfl (by decide +kernel)
set_option maxRecDepth 65536 in
theorem w_c5 : (Jvm.Cond.code ({ cls := "com/example/kttl/kttl/keyspace/StringValue", name := "<init>", desc := "([B)V" } : Jvm.MethodName) prog_25_method_1_code (2 : Nat) (Option.none : Option Jvm.ClassFile.FieldType)).before args0 about1 = true := code_word (m := ⟨10, 0⟩) (meth := k10m0) (c := k10c0) (by decide +kernel) rfl rfl rfl (by decide +kernel)
set_option maxRecDepth 65536 in
theorem w_c6 : (Jvm.Cond.code ({ cls := "com/example/kttl/kttl/keyspace/Entry", name := "<init>", desc := "(Lcom/example/kttl/kttl/keyspace/Kind;Ljava/lang/Object;ZJ)V" } : Jvm.MethodName) prog_18_method_1_code (6 : Nat) (Option.none : Option Jvm.ClassFile.FieldType)).before args0 about1 = true := code_word (m := ⟨5, 0⟩) (meth := k5m0) (c := k5c0) (by decide +kernel) rfl rfl rfl (by decide +kernel)
set_option maxRecDepth 65536 in
theorem w_c7 : (Jvm.Cond.code ({ cls := "com/example/kttl/kttl/keyspace/DeadlineQueue", name := "<init>", desc := "()V" } : Jvm.MethodName) prog_15_method_1_code (1 : Nat) (Option.none : Option Jvm.ClassFile.FieldType)).before args0 about1 = true := code_word (m := ⟨11, 0⟩) (meth := k11m0) (c := k11c0) (by decide +kernel) rfl rfl rfl (by decide +kernel)
set_option maxRecDepth 65536 in
theorem w_c8 : (Jvm.Cond.code ({ cls := "com/example/kttl/kttl/keyspace/DeadlineQueue", name := "clear", desc := "()V" } : Jvm.MethodName) prog_15_method_7_code (1 : Nat) (Option.none : Option Jvm.ClassFile.FieldType)).before args0 about1 = true := code_word (m := ⟨11, 5⟩) (meth := k11m5) (c := k11c5) (by decide +kernel) rfl rfl rfl (by decide +kernel)
set_option maxRecDepth 65536 in
theorem w_c9 : (Jvm.Cond.code ({ cls := "com/example/kttl/kttl/keyspace/DeadlineQueue", name := "isEmpty", desc := "()Z" } : Jvm.MethodName) prog_15_method_4_code (1 : Nat) (Option.some Jvm.ClassFile.FieldType.boolean)).before args0 about1 = true := code_word (m := ⟨11, 2⟩) (meth := k11m2) (c := k11c2) (by decide +kernel) rfl rfl rfl (by decide +kernel)
set_option maxRecDepth 65536 in
theorem w_c10 : (Jvm.Cond.code ({ cls := "com/example/kttl/kttl/keyspace/DeadlineQueue", name := "add", desc := "(Lcom/example/kttl/kttl/keyspace/Key;Lcom/example/kttl/kttl/keyspace/Entry;)V" } : Jvm.MethodName) prog_15_method_2_code (3 : Nat) (Option.none : Option Jvm.ClassFile.FieldType)).before args0 about1 = true := code_word (m := ⟨11, 1⟩) (meth := k11m1) (c := k11c1) (by decide +kernel) rfl rfl rfl (by decide +kernel)
set_option maxRecDepth 65536 in
theorem w_c11 : (Jvm.Cond.code ({ cls := "com/example/kttl/kttl/keyspace/Entry", name := "hasDeadline", desc := "()Z" } : Jvm.MethodName) prog_18_method_16_code (1 : Nat) (Option.some Jvm.ClassFile.FieldType.boolean)).before args0 about1 = true := code_word (m := ⟨5, 2⟩) (meth := k5m2) (c := k5c2) (by decide +kernel) rfl rfl rfl (by decide +kernel)
set_option maxRecDepth 65536 in
theorem w_c12 : (Jvm.Cond.code ({ cls := "com/example/kttl/kttl/keyspace/DeadlineQueue", name := "siftUp", desc := "(ILcom/example/kttl/kttl/keyspace/Key;Lcom/example/kttl/kttl/keyspace/Entry;)V" } : Jvm.MethodName) prog_15_method_8_code (6 : Nat) (Option.none : Option Jvm.ClassFile.FieldType)).before args0 about1 = true := code_word (m := ⟨11, 6⟩) (meth := k11m6) (c := k11c6) (by decide +kernel) rfl rfl rfl (by decide +kernel)
set_option maxRecDepth 65536 in
theorem w_c13 : (Jvm.Cond.code ({ cls := "com/example/kttl/kttl/keyspace/DeadlineQueue", name := "place", desc := "(ILcom/example/kttl/kttl/keyspace/Key;Lcom/example/kttl/kttl/keyspace/Entry;)V" } : Jvm.MethodName) prog_15_method_10_code (4 : Nat) (Option.none : Option Jvm.ClassFile.FieldType)).before args0 about1 = true := code_word (m := ⟨11, 7⟩) (meth := k11m7) (c := k11c7) (by decide +kernel) rfl rfl rfl (by decide +kernel)
set_option maxRecDepth 65536 in
theorem w_c14 : (Jvm.Cond.code ({ cls := "com/example/kttl/kttl/keyspace/Entry", name := "deadline", desc := "()J" } : Jvm.MethodName) prog_18_method_17_code (1 : Nat) (Option.some Jvm.ClassFile.FieldType.long)).before args0 about1 = true := code_word (m := ⟨5, 3⟩) (meth := k5m3) (c := k5c3) (by decide +kernel) rfl rfl rfl (by decide +kernel)
set_option maxRecDepth 65536 in
theorem w_c15 : (Jvm.Cond.code ({ cls := "com/example/kttl/kttl/keyspace/DeadlineQueue", name := "earliestDeadline", desc := "()J" } : Jvm.MethodName) prog_15_method_6_code (1 : Nat) (Option.some Jvm.ClassFile.FieldType.long)).before args0 about1 = true := code_word (m := ⟨11, 4⟩) (meth := k11m4) (c := k11c4) (by decide +kernel) rfl rfl rfl (by decide +kernel)
set_option maxRecDepth 65536 in
theorem w_c16 : (Jvm.Cond.code ({ cls := "com/example/kttl/kttl/keyspace/DeadlineQueue", name := "earliestKey", desc := "()Lcom/example/kttl/kttl/keyspace/Key;" } : Jvm.MethodName) prog_15_method_5_code (1 : Nat) (Option.some (Jvm.ClassFile.FieldType.object "com/example/kttl/kttl/keyspace/Key"))).before args0 about1 = true := code_word (m := ⟨11, 3⟩) (meth := k11m3) (c := k11c3) (by decide +kernel) rfl rfl rfl (by decide +kernel)
def codes1 : List Jvm.Cond := [Jvm.Cond.code x code maxLocals ret, Jvm.Cond.code ({ cls := "com/example/kttl/kttl/keyspace/Key", name := "<init>", desc := "([B)V" } : Jvm.MethodName) prog_21_method_1_code (2 : Nat) (Option.none : Option Jvm.ClassFile.FieldType), Jvm.Cond.code ({ cls := "java/lang/Object", name := "<init>", desc := "()V" } : Jvm.MethodName) object_method_1_code (1 : Nat) (Option.none : Option Jvm.ClassFile.FieldType), Jvm.Cond.code ({ cls := "java/util/Arrays", name := "hashCode", desc := "([B)I" } : Jvm.MethodName) jdk_65_method_153_code (1 : Nat) (Option.some Jvm.ClassFile.FieldType.int), Jvm.Cond.code ({ cls := "com/example/kttl/kttl/keyspace/Entry", name := "of", desc := "([BJ)Lcom/example/kttl/kttl/keyspace/Entry;" } : Jvm.MethodName) prog_18_method_3_code (3 : Nat) (Option.some (Jvm.ClassFile.FieldType.object "com/example/kttl/kttl/keyspace/Entry")), Jvm.Cond.code ({ cls := "com/example/kttl/kttl/keyspace/StringValue", name := "<init>", desc := "([B)V" } : Jvm.MethodName) prog_25_method_1_code (2 : Nat) (Option.none : Option Jvm.ClassFile.FieldType), Jvm.Cond.code ({ cls := "com/example/kttl/kttl/keyspace/Entry", name := "<init>", desc := "(Lcom/example/kttl/kttl/keyspace/Kind;Ljava/lang/Object;ZJ)V" } : Jvm.MethodName) prog_18_method_1_code (6 : Nat) (Option.none : Option Jvm.ClassFile.FieldType), Jvm.Cond.code ({ cls := "com/example/kttl/kttl/keyspace/DeadlineQueue", name := "<init>", desc := "()V" } : Jvm.MethodName) prog_15_method_1_code (1 : Nat) (Option.none : Option Jvm.ClassFile.FieldType), Jvm.Cond.code ({ cls := "com/example/kttl/kttl/keyspace/DeadlineQueue", name := "clear", desc := "()V" } : Jvm.MethodName) prog_15_method_7_code (1 : Nat) (Option.none : Option Jvm.ClassFile.FieldType), Jvm.Cond.code ({ cls := "com/example/kttl/kttl/keyspace/DeadlineQueue", name := "isEmpty", desc := "()Z" } : Jvm.MethodName) prog_15_method_4_code (1 : Nat) (Option.some Jvm.ClassFile.FieldType.boolean), Jvm.Cond.code ({ cls := "com/example/kttl/kttl/keyspace/DeadlineQueue", name := "add", desc := "(Lcom/example/kttl/kttl/keyspace/Key;Lcom/example/kttl/kttl/keyspace/Entry;)V" } : Jvm.MethodName) prog_15_method_2_code (3 : Nat) (Option.none : Option Jvm.ClassFile.FieldType), Jvm.Cond.code ({ cls := "com/example/kttl/kttl/keyspace/Entry", name := "hasDeadline", desc := "()Z" } : Jvm.MethodName) prog_18_method_16_code (1 : Nat) (Option.some Jvm.ClassFile.FieldType.boolean), Jvm.Cond.code ({ cls := "com/example/kttl/kttl/keyspace/DeadlineQueue", name := "siftUp", desc := "(ILcom/example/kttl/kttl/keyspace/Key;Lcom/example/kttl/kttl/keyspace/Entry;)V" } : Jvm.MethodName) prog_15_method_8_code (6 : Nat) (Option.none : Option Jvm.ClassFile.FieldType), Jvm.Cond.code ({ cls := "com/example/kttl/kttl/keyspace/DeadlineQueue", name := "place", desc := "(ILcom/example/kttl/kttl/keyspace/Key;Lcom/example/kttl/kttl/keyspace/Entry;)V" } : Jvm.MethodName) prog_15_method_10_code (4 : Nat) (Option.none : Option Jvm.ClassFile.FieldType), Jvm.Cond.code ({ cls := "com/example/kttl/kttl/keyspace/Entry", name := "deadline", desc := "()J" } : Jvm.MethodName) prog_18_method_17_code (1 : Nat) (Option.some Jvm.ClassFile.FieldType.long), Jvm.Cond.code ({ cls := "com/example/kttl/kttl/keyspace/DeadlineQueue", name := "earliestDeadline", desc := "()J" } : Jvm.MethodName) prog_15_method_6_code (1 : Nat) (Option.some Jvm.ClassFile.FieldType.long), Jvm.Cond.code ({ cls := "com/example/kttl/kttl/keyspace/DeadlineQueue", name := "earliestKey", desc := "()Lcom/example/kttl/kttl/keyspace/Key;" } : Jvm.MethodName) prog_15_method_5_code (1 : Nat) (Option.some (Jvm.ClassFile.FieldType.object "com/example/kttl/kttl/keyspace/Key"))]
set_option maxRecDepth 65536 in
theorem codes_eq : words1.filter isCode = codes1 := rfl
theorem w_codes : ∀ c ∈ words1.filter isCode, c.before args0 about1 = true := by
  rw [codes_eq]
  intro c hc
  simp only [codes1, List.mem_cons, List.not_mem_nil, or_false] at hc
  rcases hc with rfl | rfl | rfl | rfl | rfl | rfl | rfl | rfl | rfl | rfl | rfl | rfl | rfl | rfl | rfl | rfl | rfl
  · exact w_c0
  · exact w_c1
  · exact w_c2
  · exact w_c3
  · exact w_c4
  · exact w_c5
  · exact w_c6
  · exact w_c7
  · exact w_c8
  · exact w_c9
  · exact w_c10
  · exact w_c11
  · exact w_c12
  · exact w_c13
  · exact w_c14
  · exact w_c15
  · exact w_c16
set_option maxRecDepth 65536 in
theorem w_t1 : (words1.take 24).all (fun c => isCode c || c.before args0 about1) = true := by decide +kernel
set_option maxRecDepth 65536 in
theorem w_t2 : ((words1.drop 24).take 24).all (fun c => isCode c || c.before args0 about1) = true := by decide +kernel
set_option maxRecDepth 65536 in
theorem w_t3 : (((words1.drop 24).drop 24).take 24).all (fun c => isCode c || c.before args0 about1) = true := by decide +kernel
set_option maxRecDepth 65536 in
theorem w_t4 : ((((words1.drop 24).drop 24).drop 24).take 24).all (fun c => isCode c || c.before args0 about1) = true := by decide +kernel
set_option maxRecDepth 65536 in
theorem w_t5 : ((((words1.drop 24).drop 24).drop 24).drop 24).all (fun c => isCode c || c.before args0 about1) = true := by decide +kernel
theorem w_tables : (allAtoms (Jvm.Cond.code x code maxLocals ret :: tables_1)).before args0 about1 = true := by
  rw [allAtoms_all]
  show words1.all (fun c => c.before args0 about1) = true
  refine all_split ?_ w_codes
  rw [← List.take_append_drop 24 words1, List.all_append, w_t1, ← List.take_append_drop 24 (words1.drop 24), List.all_append, w_t2, ← List.take_append_drop 24 ((words1.drop 24).drop 24), List.all_append, w_t3, ← List.take_append_drop 24 (((words1.drop 24).drop 24).drop 24), List.all_append, w_t4, w_t5]
  rfl
set_option maxRecDepth 65536 in
theorem w_case : (Jvm.Cond.and given_1 narrow_1).before args0 about1 = true := by decide +kernel
theorem w_applies : (headSpec (Jvm.Cond.code x code maxLocals ret :: tables_1) room_1).applies x e0.platform about1 = true :=
  (Spec.applies_iff w_frames).mpr ⟨w_running, w_runnable, w_alone, w_named, w_hears, w_ripe, w_room, w_tables⟩
theorem atStart : AtStart classFile x code maxLocals ret World_1 tables_1 room_1 Calls_1 rest_1 Pre_1 launch0 p0 e0 about1 theMethod args0 below0 :=
  ⟨lists_1, trivial, launch0.admits_env _ _ _, launch0.least_env, fairChoices_fair.cas, fairChoices_fair.clock, w_frames, w_args, w_heap, w_applies, trivial, trivial, w_case⟩
end start1
theorem witness_1 : WitnessClaimed_1 := ⟨start1.p0, start1.e0, start1.about1, start1.theMethod, start1.args0, start1.below0, start1.atStart⟩
end Jvm.Pilot.@@N@@
