import JvmDerived
import JvmDerived.Pilot.@@N@@Statement
import JvmDerived.Pilot.@@N@@Code
set_option linter.unusedVariables false
set_option linter.unusedSimpArgs false
namespace Jvm.Pilot.@@N@@
open Jvm Jvm.ClassFile Sem Op Lib Jvm.Free Jvm.Stand Jvm.LawKit Jvm.RoadKit Bundle Jvm.Pilot.@@N@@.Jvm.D
section Own
variable {p : Program} {l : Launch} {e : Env} {R : Room} {s : State} {m : MethodId} {args : Array Value} {below : List Frame} {meth : Method} {c : Code} {Z : State} {a0 : Array Value} {y : MethodName} {bytes : ByteArray} {maxL : Nat} {ret : Option FieldType} {Q : Option Value → Heap → Prop} {P : Option Value → State → Prop} {n0 : Nat} {h : Heap} {k n : Nat} {f f' : JFrame} {pc pc' pt : Nat} {Ls : Array Slot} {S : List Value}
/-- what a walk knows of its own method -/
def Cx (p : Program) (s : State) (m : MethodId) (meth : Method) (c : Code) (Z : State) (y : MethodName) (bytes : ByteArray) (maxL : Nat) (ret : Option FieldType) : Prop :=
  p.tables.exec = Jvm.exec ∧ Z.Warmed39 s.vm ∧ c.code = bytes ∧ c.maxLocals = maxL ∧ s.vm.findClass y.cls = some m.cls ∧ meth.name = y.name ∧ meth.sig.returnType = ret ∧ meth.locks = false
/-- the run from U returns, and what it leaves is as P says -/
def Go (p : Program) (e : Env) (below : List Frame) (P : Option Value → State → Prop) (U : State) : Prop :=
  ∃ s₂ v, Steps p.tables e below U s₂ ∧ s₂.status = .running ∧ Ended s₂ below (.returned v) ∧ P v s₂
/-- as Q says, within the room, seen from the state s -/
def Wst (s : State) (R : Room) (n0 : Nat) (Q : Option Value → Heap → Prop) : Option Value → State → Prop := fun v s₂ => Q v s₂.heap ∧ ∃ L, Fr n0 L ∧ FrameEnd s (.returned v) s₂ L R.cells R.slots
/-- from wherever the walk stands with the heap h, k cells and n slots made, the frame f on top: it ends as P says -/
def G (p : Program) (l : Launch) (e : Env) (R : Room) (s : State) (m : MethodId) (args : Array Value) (below : List Frame) (meth : Method) (c : Code) (n0 : Nat) (P : Option Value → State → Prop) (h : Heap) (k n : Nat) (f : JFrame) : Prop :=
  ∀ T locs, Stand p l e R s m args below meth c T locs k n → T.heap = h → Fr n0 locs → Go p e below P (T.setTop f)
/-- a method's contract at the heap h with the arguments av -/
def Con (l : Launch) (Z : State) (y : MethodName) (bytes : ByteArray) (maxL : Nat) (ret : Option FieldType) (R : Room) (av : Array Value) (h : Heap) (n0 : Nat) (Q : Option Value → Heap → Prop) : Prop :=
  ∀ ws : List Jvm.Cond, MetFree l y (head1 (Jvm.Cond.code y bytes maxL ret :: ws) R) (fun a U => a = av ∧ Z.Warmed39 U.vm ∧ U.heap = h) (fun _ _ _ _ _ => True) (fun _ U o U' => ∃ v L, o = .returned v ∧ (Q v U'.heap ∧ Fr n0 L) ∧ FrameEnd U o U' L R.cells R.slots)
theorem Con.of {av : Array Value} (hy : plainFor y = true) (ef : ∀ m, entryFrame m av maxL = mkF m 0 Ls [])
    (body : ∀ p e s m below meth c, Cx p s m meth c Z y bytes maxL ret → G p l e R s m av below meth c n0 (Wst s R n0 Q) h 0 0 (mkF m 0 Ls [])) : Con l Z y bytes maxL ret R av h n0 Q := by
  intro ws
  refine MetFree.of_bodySF hy hisR ?_
  intro p e s m args below meth c s₁ Bd hml0 hP hK
  obtain ⟨rfl, hZ, hh⟩ := hP
  have X0 : Stand p l e R s m _ below meth c s₁ [] 0 0 := Stand.of_body Bd
  have e0 : s₁.heap = h := by rw [← hh, Bd.state]; rfl
  obtain ⟨s₂, v, h1, h2, h3, h4, L, h5, h6⟩ := body p e s m below meth c ⟨Bd.exec, hZ, Bd.bytes, hml0, findClass_of_methodNamed Bd.named, (name_of_methodNamed Bd.named Bd.method).1, Bd.returns, Bd.notSynchronized⟩ s₁ [] X0 e0 (Fr.nil n0)
  exact ⟨s₂, _, castTop (ef m) h1, h2, h3, v, L, rfl, ⟨h4, h5⟩, h6⟩
theorem Con.imp {av : Array Value} {Q' : Option Value → Heap → Prop} (K : Con l Z y bytes maxL ret R av h n0 Q) (hq : ∀ v h', Q v h' → Q' v h') : Con l Z y bytes maxL ret R av h n0 Q' := by
  intro ws p e ha hc hk s m args below hf happ hP hK
  obtain ⟨n, o, h1, h2, h3, v, L, h4, h5, h6⟩ := K ws p e ha hc hk s m args below hf happ hP hK
  exact ⟨n, o, h1, h2, h3, v, L, h4, ⟨hq _ _ h5.1, h5.2⟩, h6⟩
theorem G.pl (st : ∀ T locs, Stand p l e R s m args below meth c T locs k n → T.heap = h → ∀ t, Steps p.tables e below (T.setTop f') t → Steps p.tables e below (T.setTop f) t) (nx : G p l e R s m args below meth c n0 P h k n f') : G p l e R s m args below meth c n0 P h k n f := fun T locs X eT N => by
  obtain ⟨s₂, o, h1, r⟩ := nx T locs X eT N
  exact ⟨s₂, o, st T locs X eT _ h1, r⟩
/-- a step that hands back another state, the heap as it was -/
theorem G.mv (st : ∀ T locs, Stand p l e R s m args below meth c T locs k n → T.heap = h → ∃ T', Stand p l e R s m args below meth c T' locs k n ∧ T'.heap = h ∧ ∀ t, Steps p.tables e below (T'.setTop f') t → Steps p.tables e below (T.setTop f) t) (nx : G p l e R s m args below meth c n0 P h k n f') : G p l e R s m args below meth c n0 P h k n f := fun T locs X eT N => by
  obtain ⟨T', X', e', q⟩ := st T locs X eT
  obtain ⟨s₂, o, h1, r⟩ := nx T' locs X' e' N
  exact ⟨s₂, o, q _ h1, r⟩
theorem G.mono {k' n' : Nat} (hk : k ≤ k') (hn : n ≤ n') (nx : G p l e R s m args below meth c n0 P h k' n' f) : G p l e R s m args below meth c n0 P h k n f := fun T locs X eT N =>
  nx T locs ⟨X.admits, X.cas, X.clock, X.frames, X.room, X.hears, X.method, X.code, X.here, X.tail, X.warmed, X.limits, X.bytes, X.same.mono hk hn⟩ eT N
theorem G.imp {P' : Option Value → State → Prop} (nx : G p l e R s m args below meth c n0 P h k n f) (hp : ∀ v s₂, P v s₂ → P' v s₂) : G p l e R s m args below meth c n0 P' h k n f := fun T locs X eT N => by
  obtain ⟨s₂, v, h1, h2, h3, h4⟩ := nx T locs X eT N
  exact ⟨s₂, v, h1, h2, h3, hp _ _ h4⟩
theorem twd {d : Jvm.Cond} {L : List Jvm.Cond} (hw : ∀ d ∈ L, d.before a0 Z = true) (i : Nat) (h : L[i]? = some d) : d.before a0 Z = true := hw _ (List.mem_of_getElem? h)
theorem G.iloadN (C : Cx p s m meth c Z y bytes maxL ret) {j : Fin 4} {v : Int32} (hd : decode bytes pc = .ok (.iload_n j, 1)) (hl : Ls[j.val]? = some (.val (.int v))) (hp : pc + 1 = pc') (nx : G p l e R s m args below meth c n0 P h k n (mkF m pc' Ls (.int v :: S))) : G p l e R s m args below meth c n0 P h k n (mkF m pc Ls S) := by
  subst hp; exact G.pl (fun T locs X eT t q => XS.iloadN X.here C.1 rfl (hb C.2.2.1 hd) hl q) nx
theorem G.iload (C : Cx p s m meth c Z y bytes maxL ret) {j : Nat} {v : Int32} (hd : decode bytes pc = .ok (.iload j, 2)) (hl : Ls[j]? = some (.val (.int v))) (hp : pc + 2 = pc') (nx : G p l e R s m args below meth c n0 P h k n (mkF m pc' Ls (.int v :: S))) : G p l e R s m args below meth c n0 P h k n (mkF m pc Ls S) := by
  subst hp; exact G.pl (fun T locs X eT t q => XS.iload X.here C.1 rfl (hb C.2.2.1 hd) hl q) nx
theorem G.lloadN (C : Cx p s m meth c Z y bytes maxL ret) {j : Fin 4} {v : Int64} (hd : decode bytes pc = .ok (.lload_n j, 1)) (hl : Ls[j.val]? = some (.val (.long v))) (hp : pc + 1 = pc') (nx : G p l e R s m args below meth c n0 P h k n (mkF m pc' Ls (.long v :: S))) : G p l e R s m args below meth c n0 P h k n (mkF m pc Ls S) := by
  subst hp; exact G.pl (fun T locs X eT t q => XS.lloadN X.here C.1 rfl (hb C.2.2.1 hd) hl q) nx
theorem G.lload (C : Cx p s m meth c Z y bytes maxL ret) {j : Nat} {v : Int64} (hd : decode bytes pc = .ok (.lload j, 2)) (hl : Ls[j]? = some (.val (.long v))) (hp : pc + 2 = pc') (nx : G p l e R s m args below meth c n0 P h k n (mkF m pc' Ls (.long v :: S))) : G p l e R s m args below meth c n0 P h k n (mkF m pc Ls S) := by
  subst hp; exact G.pl (fun T locs X eT t q => XS.lload X.here C.1 rfl (hb C.2.2.1 hd) hl q) nx
theorem G.aloadN (C : Cx p s m meth c Z y bytes maxL ret) {j : Fin 4} {v : Value} (hd : decode bytes pc = .ok (.aload_n j, 1)) (hl : Ls[j.val]? = some (.val v)) (hv : v.isRef = true) (hp : pc + 1 = pc') (nx : G p l e R s m args below meth c n0 P h k n (mkF m pc' Ls (v :: S))) : G p l e R s m args below meth c n0 P h k n (mkF m pc Ls S) := by
  subst hp; exact G.pl (fun T locs X eT t q => XS.aloadN X.here C.1 rfl (hb C.2.2.1 hd) hl hv q) nx
theorem G.aload (C : Cx p s m meth c Z y bytes maxL ret) {j : Nat} {v : Value} (hd : decode bytes pc = .ok (.aload j, 2)) (hl : Ls[j]? = some (.val v)) (hv : v.isRef = true) (hp : pc + 2 = pc') (nx : G p l e R s m args below meth c n0 P h k n (mkF m pc' Ls (v :: S))) : G p l e R s m args below meth c n0 P h k n (mkF m pc Ls S) := by
  subst hp; exact G.pl (fun T locs X eT t q => XS.aload X.here C.1 rfl (hb C.2.2.1 hd) hl hv q) nx
theorem G.istoreN (C : Cx p s m meth c Z y bytes maxL ret) {j : Fin 4} {v : Int32} {Ls' : Array Slot} (hd : decode bytes pc = .ok (.istore_n j, 1)) (hl : storeLocals Ls j.val (.int v) = some Ls') (hp : pc + 1 = pc') (nx : G p l e R s m args below meth c n0 P h k n (mkF m pc' Ls' S)) : G p l e R s m args below meth c n0 P h k n (mkF m pc Ls (.int v :: S)) := by
  subst hp; exact G.pl (fun T locs X eT t q => XS.istoreN X.here C.1 rfl (hb C.2.2.1 hd) rfl hl q) nx
theorem G.istore (C : Cx p s m meth c Z y bytes maxL ret) {j : Nat} {v : Int32} {Ls' : Array Slot} (hd : decode bytes pc = .ok (.istore j, 2)) (hl : storeLocals Ls j (.int v) = some Ls') (hp : pc + 2 = pc') (nx : G p l e R s m args below meth c n0 P h k n (mkF m pc' Ls' S)) : G p l e R s m args below meth c n0 P h k n (mkF m pc Ls (.int v :: S)) := by
  subst hp; exact G.pl (fun T locs X eT t q => XS.istore X.here C.1 rfl (hb C.2.2.1 hd) rfl hl q) nx
theorem G.lstoreN (C : Cx p s m meth c Z y bytes maxL ret) {j : Fin 4} {v : Int64} {Ls' : Array Slot} (hd : decode bytes pc = .ok (.lstore_n j, 1)) (hl : storeLocals Ls j.val (.long v) = some Ls') (hp : pc + 1 = pc') (nx : G p l e R s m args below meth c n0 P h k n (mkF m pc' Ls' S)) : G p l e R s m args below meth c n0 P h k n (mkF m pc Ls (.long v :: S)) := by
  subst hp; exact G.pl (fun T locs X eT t q => XS.lstoreN X.here C.1 rfl (hb C.2.2.1 hd) rfl hl q) nx
theorem G.lstore (C : Cx p s m meth c Z y bytes maxL ret) {j : Nat} {v : Int64} {Ls' : Array Slot} (hd : decode bytes pc = .ok (.lstore j, 2)) (hl : storeLocals Ls j (.long v) = some Ls') (hp : pc + 2 = pc') (nx : G p l e R s m args below meth c n0 P h k n (mkF m pc' Ls' S)) : G p l e R s m args below meth c n0 P h k n (mkF m pc Ls (.long v :: S)) := by
  subst hp; exact G.pl (fun T locs X eT t q => XS.lstore X.here C.1 rfl (hb C.2.2.1 hd) rfl hl q) nx
theorem G.astoreN (C : Cx p s m meth c Z y bytes maxL ret) {j : Fin 4} {v : Value} {Ls' : Array Slot} (hd : decode bytes pc = .ok (.astore_n j, 1)) (hv : v.isRef = true) (hl : storeLocals Ls j.val v = some Ls') (hp : pc + 1 = pc') (nx : G p l e R s m args below meth c n0 P h k n (mkF m pc' Ls' S)) : G p l e R s m args below meth c n0 P h k n (mkF m pc Ls (v :: S)) := by
  subst hp; exact G.pl (fun T locs X eT t q => XS.astoreN X.here C.1 rfl (hb C.2.2.1 hd) rfl hv hl q) nx
theorem G.astore (C : Cx p s m meth c Z y bytes maxL ret) {j : Nat} {v : Value} {Ls' : Array Slot} (hd : decode bytes pc = .ok (.astore j, 2)) (hv : v.isRef = true) (hl : storeLocals Ls j v = some Ls') (hp : pc + 2 = pc') (nx : G p l e R s m args below meth c n0 P h k n (mkF m pc' Ls' S)) : G p l e R s m args below meth c n0 P h k n (mkF m pc Ls (v :: S)) := by
  subst hp; exact G.pl (fun T locs X eT t q => XS.astore X.here C.1 rfl (hb C.2.2.1 hd) rfl hv hl q) nx
theorem G.iconst (C : Cx p s m meth c Z y bytes maxL ret) {i : Int} {v : Int32} (hd : decode bytes pc = .ok (.iconst i, 1)) (hv : Int32.ofInt i = v) (hp : pc + 1 = pc') (nx : G p l e R s m args below meth c n0 P h k n (mkF m pc' Ls (.int v :: S))) : G p l e R s m args below meth c n0 P h k n (mkF m pc Ls S) := by
  subst hp hv; exact G.pl (fun T locs X eT t q => XS.iconst X.here C.1 rfl (hb C.2.2.1 hd) q) nx
theorem G.bipush (C : Cx p s m meth c Z y bytes maxL ret) {i : Int} {v : Int32} (hd : decode bytes pc = .ok (.bipush i, 2)) (hv : (Int8.ofInt i).toInt32 = v) (hp : pc + 2 = pc') (nx : G p l e R s m args below meth c n0 P h k n (mkF m pc' Ls (.int v :: S))) : G p l e R s m args below meth c n0 P h k n (mkF m pc Ls S) := by
  subst hp hv; exact G.pl (fun T locs X eT t q => XS.bipush X.here C.1 rfl (hb C.2.2.1 hd) q) nx
theorem G.sipush (C : Cx p s m meth c Z y bytes maxL ret) {i : Int} {v : Int32} (hd : decode bytes pc = .ok (.sipush i, 3)) (hv : (Int16.ofInt i).toInt32 = v) (hp : pc + 3 = pc') (nx : G p l e R s m args below meth c n0 P h k n (mkF m pc' Ls (.int v :: S))) : G p l e R s m args below meth c n0 P h k n (mkF m pc Ls S) := by
  subst hp hv; exact G.pl (fun T locs X eT t q => XS.sipush X.here C.1 rfl (hb C.2.2.1 hd) q) nx
theorem G.lconst (C : Cx p s m meth c Z y bytes maxL ret) {j : Fin 2} {v : Int64} (hd : decode bytes pc = .ok (.lconst j, 1)) (hv : Int64.ofNat j = v) (hp : pc + 1 = pc') (nx : G p l e R s m args below meth c n0 P h k n (mkF m pc' Ls (.long v :: S))) : G p l e R s m args below meth c n0 P h k n (mkF m pc Ls S) := by
  subst hp hv; exact G.pl (fun T locs X eT t q => XS.lconst X.here C.1 rfl (hb C.2.2.1 hd) q) nx
theorem G.aconst_null (C : Cx p s m meth c Z y bytes maxL ret) (hd : decode bytes pc = .ok (.aconst_null, 1)) (hp : pc + 1 = pc') (nx : G p l e R s m args below meth c n0 P h k n (mkF m pc' Ls (.null :: S))) : G p l e R s m args below meth c n0 P h k n (mkF m pc Ls S) := by
  subst hp; exact G.pl (fun T locs X eT t q => XS.aconstNull X.here C.1 rfl (hb C.2.2.1 hd) q) nx
theorem G.ldcI (C : Cx p s m meth c Z y bytes maxL ret) {ix : Nat} {v : Int32} (w : (Jvm.Cond.constant y.cls ix v).before a0 Z = true) (hd : decode bytes pc = .ok (.ldc ix, 2)) (hp : pc + 2 = pc') (nx : G p l e R s m args below meth c n0 P h k n (mkF m pc' Ls (.int v :: S))) : G p l e R s m args below meth c n0 P h k n (mkF m pc Ls S) := by
  subst hp; exact G.pl (fun T locs X eT t q => X.ldcInt C.1 C.2.2.2.2.1 (mvT C.2.1 w) (g := mkF m pc Ls S) rfl (hb C.2.2.1 hd) t q) nx
theorem G.ldcW (C : Cx p s m meth c Z y bytes maxL ret) {ix : Nat} {v : Int32} (w : (Jvm.Cond.constant y.cls ix v).before a0 Z = true) (hd : decode bytes pc = .ok (.ldc_w ix, 3)) (hp : pc + 3 = pc') (nx : G p l e R s m args below meth c n0 P h k n (mkF m pc' Ls (.int v :: S))) : G p l e R s m args below meth c n0 P h k n (mkF m pc Ls S) := by
  subst hp; exact G.pl (fun T locs X eT t q => X.ldcwInt C.1 C.2.2.2.2.1 (mvT C.2.1 w) (g := mkF m pc Ls S) rfl (hb C.2.2.1 hd) t q) nx
theorem G.ldcJ (C : Cx p s m meth c Z y bytes maxL ret) {ix : Nat} {v : Int64} (w : (Jvm.Cond.constantLong y.cls ix v).before a0 Z = true) (hd : decode bytes pc = .ok (.ldc2_w ix, 3)) (hp : pc + 3 = pc') (nx : G p l e R s m args below meth c n0 P h k n (mkF m pc' Ls (.long v :: S))) : G p l e R s m args below meth c n0 P h k n (mkF m pc Ls S) := by
  subst hp; exact G.pl (fun T locs X eT t q => X.ldc2Long C.1 C.2.2.2.2.1 (mvT C.2.1 w) (g := mkF m pc Ls S) rfl (hb C.2.2.1 hd) t q) nx
theorem G.iadd (C : Cx p s m meth c Z y bytes maxL ret) {x z : Int32} (hd : decode bytes pc = .ok (.iadd, 1))  (hp : pc + 1 = pc') (nx : G p l e R s m args below meth c n0 P h k n (mkF m pc' Ls (.int (x + z) :: S))) : G p l e R s m args below meth c n0 P h k n (mkF m pc Ls (.int z :: .int x :: S)) := by
  subst hp; exact G.pl (fun T locs X eT t q => XS.iadd X.here C.1 rfl (hb C.2.2.1 hd) rfl q) nx
theorem G.ladd (C : Cx p s m meth c Z y bytes maxL ret) {x z : Int64} (hd : decode bytes pc = .ok (.ladd, 1))  (hp : pc + 1 = pc') (nx : G p l e R s m args below meth c n0 P h k n (mkF m pc' Ls (.long (x + z) :: S))) : G p l e R s m args below meth c n0 P h k n (mkF m pc Ls (.long z :: .long x :: S)) := by
  subst hp; exact G.pl (fun T locs X eT t q => XS.ladd X.here C.1 rfl (hb C.2.2.1 hd) rfl q) nx
theorem G.isub (C : Cx p s m meth c Z y bytes maxL ret) {x z : Int32} (hd : decode bytes pc = .ok (.isub, 1))  (hp : pc + 1 = pc') (nx : G p l e R s m args below meth c n0 P h k n (mkF m pc' Ls (.int (x - z) :: S))) : G p l e R s m args below meth c n0 P h k n (mkF m pc Ls (.int z :: .int x :: S)) := by
  subst hp; exact G.pl (fun T locs X eT t q => XS.isub X.here C.1 rfl (hb C.2.2.1 hd) rfl q) nx
theorem G.lsub (C : Cx p s m meth c Z y bytes maxL ret) {x z : Int64} (hd : decode bytes pc = .ok (.lsub, 1))  (hp : pc + 1 = pc') (nx : G p l e R s m args below meth c n0 P h k n (mkF m pc' Ls (.long (x - z) :: S))) : G p l e R s m args below meth c n0 P h k n (mkF m pc Ls (.long z :: .long x :: S)) := by
  subst hp; exact G.pl (fun T locs X eT t q => XS.lsub X.here C.1 rfl (hb C.2.2.1 hd) rfl q) nx
theorem G.imul (C : Cx p s m meth c Z y bytes maxL ret) {x z : Int32} (hd : decode bytes pc = .ok (.imul, 1))  (hp : pc + 1 = pc') (nx : G p l e R s m args below meth c n0 P h k n (mkF m pc' Ls (.int (x * z) :: S))) : G p l e R s m args below meth c n0 P h k n (mkF m pc Ls (.int z :: .int x :: S)) := by
  subst hp; exact G.pl (fun T locs X eT t q => XS.imul X.here C.1 rfl (hb C.2.2.1 hd) rfl q) nx
theorem G.lmul (C : Cx p s m meth c Z y bytes maxL ret) {x z : Int64} (hd : decode bytes pc = .ok (.lmul, 1))  (hp : pc + 1 = pc') (nx : G p l e R s m args below meth c n0 P h k n (mkF m pc' Ls (.long (x * z) :: S))) : G p l e R s m args below meth c n0 P h k n (mkF m pc Ls (.long z :: .long x :: S)) := by
  subst hp; exact G.pl (fun T locs X eT t q => XS.lmul X.here C.1 rfl (hb C.2.2.1 hd) rfl q) nx
theorem G.iand (C : Cx p s m meth c Z y bytes maxL ret) {x z : Int32} (hd : decode bytes pc = .ok (.iand, 1))  (hp : pc + 1 = pc') (nx : G p l e R s m args below meth c n0 P h k n (mkF m pc' Ls (.int (x &&& z) :: S))) : G p l e R s m args below meth c n0 P h k n (mkF m pc Ls (.int z :: .int x :: S)) := by
  subst hp; exact G.pl (fun T locs X eT t q => XS.iand X.here C.1 rfl (hb C.2.2.1 hd) rfl q) nx
theorem G.land (C : Cx p s m meth c Z y bytes maxL ret) {x z : Int64} (hd : decode bytes pc = .ok (.land, 1))  (hp : pc + 1 = pc') (nx : G p l e R s m args below meth c n0 P h k n (mkF m pc' Ls (.long (x &&& z) :: S))) : G p l e R s m args below meth c n0 P h k n (mkF m pc Ls (.long z :: .long x :: S)) := by
  subst hp; exact G.pl (fun T locs X eT t q => XS.land X.here C.1 rfl (hb C.2.2.1 hd) rfl q) nx
theorem G.ior (C : Cx p s m meth c Z y bytes maxL ret) {x z : Int32} (hd : decode bytes pc = .ok (.ior, 1))  (hp : pc + 1 = pc') (nx : G p l e R s m args below meth c n0 P h k n (mkF m pc' Ls (.int (x ||| z) :: S))) : G p l e R s m args below meth c n0 P h k n (mkF m pc Ls (.int z :: .int x :: S)) := by
  subst hp; exact G.pl (fun T locs X eT t q => XS.ior X.here C.1 rfl (hb C.2.2.1 hd) rfl q) nx
theorem G.lor (C : Cx p s m meth c Z y bytes maxL ret) {x z : Int64} (hd : decode bytes pc = .ok (.lor, 1))  (hp : pc + 1 = pc') (nx : G p l e R s m args below meth c n0 P h k n (mkF m pc' Ls (.long (x ||| z) :: S))) : G p l e R s m args below meth c n0 P h k n (mkF m pc Ls (.long z :: .long x :: S)) := by
  subst hp; exact G.pl (fun T locs X eT t q => XS.lor X.here C.1 rfl (hb C.2.2.1 hd) rfl q) nx
theorem G.ixor (C : Cx p s m meth c Z y bytes maxL ret) {x z : Int32} (hd : decode bytes pc = .ok (.ixor, 1))  (hp : pc + 1 = pc') (nx : G p l e R s m args below meth c n0 P h k n (mkF m pc' Ls (.int (x ^^^ z) :: S))) : G p l e R s m args below meth c n0 P h k n (mkF m pc Ls (.int z :: .int x :: S)) := by
  subst hp; exact G.pl (fun T locs X eT t q => XS.ixor X.here C.1 rfl (hb C.2.2.1 hd) rfl q) nx
theorem G.lxor (C : Cx p s m meth c Z y bytes maxL ret) {x z : Int64} (hd : decode bytes pc = .ok (.lxor, 1))  (hp : pc + 1 = pc') (nx : G p l e R s m args below meth c n0 P h k n (mkF m pc' Ls (.long (x ^^^ z) :: S))) : G p l e R s m args below meth c n0 P h k n (mkF m pc Ls (.long z :: .long x :: S)) := by
  subst hp; exact G.pl (fun T locs X eT t q => XS.lxor X.here C.1 rfl (hb C.2.2.1 hd) rfl q) nx
theorem G.idiv (C : Cx p s m meth c Z y bytes maxL ret) {x z : Int32} (hd : decode bytes pc = .ok (.idiv, 1)) (hz : z ≠ 0) (hp : pc + 1 = pc') (nx : G p l e R s m args below meth c n0 P h k n (mkF m pc' Ls (.int (x / z) :: S))) : G p l e R s m args below meth c n0 P h k n (mkF m pc Ls (.int z :: .int x :: S)) := by
  subst hp; exact G.pl (fun T locs X eT t q => XS.idiv X.here C.1 rfl (hb C.2.2.1 hd) rfl hz q) nx
theorem G.irem (C : Cx p s m meth c Z y bytes maxL ret) {x z : Int32} (hd : decode bytes pc = .ok (.irem, 1)) (hz : z ≠ 0) (hp : pc + 1 = pc') (nx : G p l e R s m args below meth c n0 P h k n (mkF m pc' Ls (.int (x % z) :: S))) : G p l e R s m args below meth c n0 P h k n (mkF m pc Ls (.int z :: .int x :: S)) := by
  subst hp; exact G.pl (fun T locs X eT t q => iremM X C.1 rfl (hb C.2.2.1 hd) rfl hz q) nx
theorem G.ldiv (C : Cx p s m meth c Z y bytes maxL ret) {x z : Int64} (hd : decode bytes pc = .ok (.ldiv, 1)) (hz : z ≠ 0) (hp : pc + 1 = pc') (nx : G p l e R s m args below meth c n0 P h k n (mkF m pc' Ls (.long (x / z) :: S))) : G p l e R s m args below meth c n0 P h k n (mkF m pc Ls (.long z :: .long x :: S)) := by
  subst hp; exact G.pl (fun T locs X eT t q => XS.ldiv X.here C.1 rfl (hb C.2.2.1 hd) rfl hz q) nx
theorem G.lrem (C : Cx p s m meth c Z y bytes maxL ret) {x z : Int64} (hd : decode bytes pc = .ok (.lrem, 1)) (hz : z ≠ 0) (hp : pc + 1 = pc') (nx : G p l e R s m args below meth c n0 P h k n (mkF m pc' Ls (.long (x % z) :: S))) : G p l e R s m args below meth c n0 P h k n (mkF m pc Ls (.long z :: .long x :: S)) := by
  subst hp; exact G.pl (fun T locs X eT t q => XS.lrem X.here C.1 rfl (hb C.2.2.1 hd) rfl hz (by rw [lrem_mod]; exact q)) nx
theorem G.ineg (C : Cx p s m meth c Z y bytes maxL ret) {x : Int32} (hd : decode bytes pc = .ok (.ineg, 1))  (hp : pc + 1 = pc') (nx : G p l e R s m args below meth c n0 P h k n (mkF m pc' Ls (.int (-x) :: S))) : G p l e R s m args below meth c n0 P h k n (mkF m pc Ls (.int x :: S)) := by
  subst hp; exact G.pl (fun T locs X eT t q => XS.ineg X.here C.1 rfl (hb C.2.2.1 hd) rfl q) nx
theorem G.lneg (C : Cx p s m meth c Z y bytes maxL ret) {x : Int64} (hd : decode bytes pc = .ok (.lneg, 1))  (hp : pc + 1 = pc') (nx : G p l e R s m args below meth c n0 P h k n (mkF m pc' Ls (.long (-x) :: S))) : G p l e R s m args below meth c n0 P h k n (mkF m pc Ls (.long x :: S)) := by
  subst hp; exact G.pl (fun T locs X eT t q => XS.lneg X.here C.1 rfl (hb C.2.2.1 hd) rfl q) nx
theorem G.i2l (C : Cx p s m meth c Z y bytes maxL ret) {x : Int32} (hd : decode bytes pc = .ok (.i2l, 1))  (hp : pc + 1 = pc') (nx : G p l e R s m args below meth c n0 P h k n (mkF m pc' Ls (.long (x.toInt64) :: S))) : G p l e R s m args below meth c n0 P h k n (mkF m pc Ls (.int x :: S)) := by
  subst hp; exact G.pl (fun T locs X eT t q => XS.i2l X.here C.1 rfl (hb C.2.2.1 hd) rfl q) nx
theorem G.l2i (C : Cx p s m meth c Z y bytes maxL ret) {x : Int64} (hd : decode bytes pc = .ok (.l2i, 1))  (hp : pc + 1 = pc') (nx : G p l e R s m args below meth c n0 P h k n (mkF m pc' Ls (.int (x.toInt32) :: S))) : G p l e R s m args below meth c n0 P h k n (mkF m pc Ls (.long x :: S)) := by
  subst hp; exact G.pl (fun T locs X eT t q => XS.l2i X.here C.1 rfl (hb C.2.2.1 hd) rfl q) nx
theorem G.i2b (C : Cx p s m meth c Z y bytes maxL ret) {x : Int32} (hd : decode bytes pc = .ok (.i2b, 1))  (hp : pc + 1 = pc') (nx : G p l e R s m args below meth c n0 P h k n (mkF m pc' Ls (.int (x.toInt8.toInt32) :: S))) : G p l e R s m args below meth c n0 P h k n (mkF m pc Ls (.int x :: S)) := by
  subst hp; exact G.pl (fun T locs X eT t q => XS.i2b X.here C.1 rfl (hb C.2.2.1 hd) rfl q) nx
theorem G.i2c (C : Cx p s m meth c Z y bytes maxL ret) {x : Int32} (hd : decode bytes pc = .ok (.i2c, 1))  (hp : pc + 1 = pc') (nx : G p l e R s m args below meth c n0 P h k n (mkF m pc' Ls (.int (x.toUInt32.toUInt16.toUInt32.toInt32) :: S))) : G p l e R s m args below meth c n0 P h k n (mkF m pc Ls (.int x :: S)) := by
  subst hp; exact G.pl (fun T locs X eT t q => XS.i2c X.here C.1 rfl (hb C.2.2.1 hd) rfl q) nx
theorem G.i2s (C : Cx p s m meth c Z y bytes maxL ret) {x : Int32} (hd : decode bytes pc = .ok (.i2s, 1))  (hp : pc + 1 = pc') (nx : G p l e R s m args below meth c n0 P h k n (mkF m pc' Ls (.int (x.toInt16.toInt32) :: S))) : G p l e R s m args below meth c n0 P h k n (mkF m pc Ls (.int x :: S)) := by
  subst hp; exact G.pl (fun T locs X eT t q => XS.i2s X.here C.1 rfl (hb C.2.2.1 hd) rfl q) nx
theorem G.ishl (C : Cx p s m meth c Z y bytes maxL ret) {x z : Int32} (hd : decode bytes pc = .ok (.ishl, 1))  (hp : pc + 1 = pc') (nx : G p l e R s m args below meth c n0 P h k n (mkF m pc' Ls (.int (x <<< (z &&& 31)) :: S))) : G p l e R s m args below meth c n0 P h k n (mkF m pc Ls (.int z :: .int x :: S)) := by
  subst hp; exact G.pl (fun T locs X eT t q => XS.ishl X.here C.1 rfl (hb C.2.2.1 hd) rfl q) nx
theorem G.ishr (C : Cx p s m meth c Z y bytes maxL ret) {x z : Int32} (hd : decode bytes pc = .ok (.ishr, 1))  (hp : pc + 1 = pc') (nx : G p l e R s m args below meth c n0 P h k n (mkF m pc' Ls (.int (x >>> (z &&& 31)) :: S))) : G p l e R s m args below meth c n0 P h k n (mkF m pc Ls (.int z :: .int x :: S)) := by
  subst hp; exact G.pl (fun T locs X eT t q => XS.ishr X.here C.1 rfl (hb C.2.2.1 hd) rfl q) nx
theorem G.iushr (C : Cx p s m meth c Z y bytes maxL ret) {x z : Int32} (hd : decode bytes pc = .ok (.iushr, 1))  (hp : pc + 1 = pc') (nx : G p l e R s m args below meth c n0 P h k n (mkF m pc' Ls (.int ((x.toUInt32 >>> (z &&& 31).toUInt32).toInt32) :: S))) : G p l e R s m args below meth c n0 P h k n (mkF m pc Ls (.int z :: .int x :: S)) := by
  subst hp; exact G.pl (fun T locs X eT t q => XS.iushr X.here C.1 rfl (hb C.2.2.1 hd) rfl q) nx
theorem G.lshl (C : Cx p s m meth c Z y bytes maxL ret) {x : Int64} {z : Int32} (hd : decode bytes pc = .ok (.lshl, 1))  (hp : pc + 1 = pc') (nx : G p l e R s m args below meth c n0 P h k n (mkF m pc' Ls (.long (x <<< (z &&& 0x3f).toInt64) :: S))) : G p l e R s m args below meth c n0 P h k n (mkF m pc Ls (.int z :: .long x :: S)) := by
  subst hp; exact G.pl (fun T locs X eT t q => XS.lshl X.here C.1 rfl (hb C.2.2.1 hd) rfl q) nx
theorem G.lshr (C : Cx p s m meth c Z y bytes maxL ret) {x : Int64} {z : Int32} (hd : decode bytes pc = .ok (.lshr, 1))  (hp : pc + 1 = pc') (nx : G p l e R s m args below meth c n0 P h k n (mkF m pc' Ls (.long (x >>> (z &&& 0x3f).toInt64) :: S))) : G p l e R s m args below meth c n0 P h k n (mkF m pc Ls (.int z :: .long x :: S)) := by
  subst hp; exact G.pl (fun T locs X eT t q => XS.lshr X.here C.1 rfl (hb C.2.2.1 hd) rfl q) nx
theorem G.lushr (C : Cx p s m meth c Z y bytes maxL ret) {x : Int64} {z : Int32} (hd : decode bytes pc = .ok (.lushr, 1))  (hp : pc + 1 = pc') (nx : G p l e R s m args below meth c n0 P h k n (mkF m pc' Ls (.long ((x.toUInt64 >>> (z &&& 0x3f).toInt64.toUInt64).toInt64) :: S))) : G p l e R s m args below meth c n0 P h k n (mkF m pc Ls (.int z :: .long x :: S)) := by
  subst hp; exact G.pl (fun T locs X eT t q => XS.lushr X.here C.1 rfl (hb C.2.2.1 hd) rfl q) nx
theorem G.lcmp (C : Cx p s m meth c Z y bytes maxL ret) {x z : Int64} (hd : decode bytes pc = .ok (.lcmp, 1))  (hp : pc + 1 = pc') (nx : G p l e R s m args below meth c n0 P h k n (mkF m pc' Ls (.int (lcmpW x z) :: S))) : G p l e R s m args below meth c n0 P h k n (mkF m pc Ls (.long z :: .long x :: S)) := by
  subst hp; exact G.pl (fun T locs X eT t q => XS.lcmp X.here C.1 rfl (hb C.2.2.1 hd) rfl q) nx
theorem G.dup (C : Cx p s m meth c Z y bytes maxL ret) {v : Value} (hd : decode bytes pc = .ok (.dup, 1)) (hv : v.category = 1) (hp : pc + 1 = pc') (nx : G p l e R s m args below meth c n0 P h k n (mkF m pc' Ls (v :: v :: S))) : G p l e R s m args below meth c n0 P h k n (mkF m pc Ls (v :: S)) := by
  subst hp; exact G.pl (fun T locs X eT t q => XS.dup X.here C.1 rfl (hb C.2.2.1 hd) rfl hv q) nx
theorem G.pop (C : Cx p s m meth c Z y bytes maxL ret) {v : Value} (hd : decode bytes pc = .ok (.pop, 1)) (hv : v.category = 1) (hp : pc + 1 = pc') (nx : G p l e R s m args below meth c n0 P h k n (mkF m pc' Ls S)) : G p l e R s m args below meth c n0 P h k n (mkF m pc Ls (v :: S)) := by
  subst hp; exact G.pl (fun T locs X eT t q => XS.pop X.here C.1 rfl (hb C.2.2.1 hd) rfl hv q) nx
theorem G.dupX1 (C : Cx p s m meth c Z y bytes maxL ret) {v u : Value} (hd : decode bytes pc = .ok (.dup_x1, 1)) (hv : v.category = 1) (hu : u.category = 1) (hp : pc + 1 = pc') (nx : G p l e R s m args below meth c n0 P h k n (mkF m pc' Ls (v :: u :: v :: S))) : G p l e R s m args below meth c n0 P h k n (mkF m pc Ls (v :: u :: S)) := by
  subst hp; exact G.pl (fun T locs X eT t q => XS.dupX1 X.here C.1 rfl (hb C.2.2.1 hd) rfl hv hu q) nx
theorem G.iinc (C : Cx p s m meth c Z y bytes maxL ret) {j : Nat} {i : Int} {v z : Int32} {Ls' : Array Slot} (hd : decode bytes pc = .ok (.iinc j i, 3)) (hl : Ls[j]? = some (.val (.int v))) (hz : Int32.ofInt i = z) (hl' : storeLocals Ls j (.int (v + z)) = some Ls') (hp : pc + 3 = pc') (nx : G p l e R s m args below meth c n0 P h k n (mkF m pc' Ls' S)) : G p l e R s m args below meth c n0 P h k n (mkF m pc Ls S) := by
  subst hp hz; exact G.pl (fun T locs X eT t q => XS.iinc X.here C.1 rfl (hb C.2.2.1 hd) hl hl' q) nx
theorem G.goto (C : Cx p s m meth c Z y bytes maxL ret) {o : Int} (hd : decode bytes pc = .ok (.goto o, 3)) (ho : 0 ≤ (pc : Int) + o) (hp : ((pc : Int) + o).toNat = pc') (nx : G p l e R s m args below meth c n0 P h k n (mkF m pc' Ls S)) : G p l e R s m args below meth c n0 P h k n (mkF m pc Ls S) :=
  G.pl (fun T locs X eT t q => XS.goto X.here C.1 rfl (pc0 := pc) (pc' := pc') rfl (hb C.2.2.1 hd) ho hp q) nx
theorem G.ifc (C : Cx p s m meth c Z y bytes maxL ret) {cd : ClassFile.Cond} {o : Int} {x : Int32} (hd : decode bytes pc = .ok (.ifCond cd o, 3)) (ho : 0 ≤ (pc : Int) + o) (ht : ((pc : Int) + o).toNat = pt) (hp : pc + 3 = pc') (yes : if_icmp.holds cd x 0 = true → G p l e R s m args below meth c n0 P h k n (mkF m pt Ls S)) (no : if_icmp.holds cd x 0 = false → G p l e R s m args below meth c n0 P h k n (mkF m pc' Ls S)) : G p l e R s m args below meth c n0 P h k n (mkF m pc Ls (.int x :: S)) := by
  subst hp
  cases hc : if_icmp.holds cd x 0 with
  | true => exact G.pl (fun T locs X eT t q => XS.ifYes X.here C.1 rfl (pc0 := pc) (pc' := pt) rfl (hb C.2.2.1 hd) rfl ((if0 _ _).trans hc) ho ht q) (yes hc)
  | false => exact G.pl (fun T locs X eT t q => XS.ifNo X.here C.1 rfl (hb C.2.2.1 hd) rfl ((if0 _ _).trans hc) q) (no hc)
theorem G.icmp (C : Cx p s m meth c Z y bytes maxL ret) {cd : ClassFile.Cond} {o : Int} {x z : Int32} (hd : decode bytes pc = .ok (.if_icmp cd o, 3)) (ho : 0 ≤ (pc : Int) + o) (ht : ((pc : Int) + o).toNat = pt) (hp : pc + 3 = pc') (yes : if_icmp.holds cd x z = true → G p l e R s m args below meth c n0 P h k n (mkF m pt Ls S)) (no : if_icmp.holds cd x z = false → G p l e R s m args below meth c n0 P h k n (mkF m pc' Ls S)) : G p l e R s m args below meth c n0 P h k n (mkF m pc Ls (.int z :: .int x :: S)) := by
  subst hp
  cases hc : if_icmp.holds cd x z with
  | true => exact G.pl (fun T locs X eT t q => XS.icmpYes X.here C.1 rfl (pc0 := pc) (pc' := pt) rfl (hb C.2.2.1 hd) rfl hc ho ht q) (yes hc)
  | false => exact G.pl (fun T locs X eT t q => XS.icmpNo X.here C.1 rfl (hb C.2.2.1 hd) rfl hc q) (no hc)
theorem G.ifeq (C : Cx p s m meth c Z y bytes maxL ret) {o : Int} {x : Int32} (hd : decode bytes pc = .ok (.ifCond .eq o, 3)) (ho : 0 ≤ (pc : Int) + o) (ht : ((pc : Int) + o).toNat = pt) (hp : pc + 3 = pc') (yes : x = 0 → G p l e R s m args below meth c n0 P h k n (mkF m pt Ls S)) (no : ¬ (x = 0) → G p l e R s m args below meth c n0 P h k n (mkF m pc' Ls S)) : G p l e R s m args below meth c n0 P h k n (mkF m pc Ls (.int x :: S)) :=
  G.ifc C hd ho ht hp (fun q => yes (by simpa [if_icmp.holds] using q)) (fun q => no (by simpa [if_icmp.holds] using q))
theorem G.iceq (C : Cx p s m meth c Z y bytes maxL ret) {o : Int} {x z : Int32} (hd : decode bytes pc = .ok (.if_icmp .eq o, 3)) (ho : 0 ≤ (pc : Int) + o) (ht : ((pc : Int) + o).toNat = pt) (hp : pc + 3 = pc') (yes : x = z → G p l e R s m args below meth c n0 P h k n (mkF m pt Ls S)) (no : ¬ (x = z) → G p l e R s m args below meth c n0 P h k n (mkF m pc' Ls S)) : G p l e R s m args below meth c n0 P h k n (mkF m pc Ls (.int z :: .int x :: S)) :=
  G.icmp C hd ho ht hp (fun q => yes (by simpa [if_icmp.holds] using q)) (fun q => no (by simpa [if_icmp.holds] using q))
theorem G.lfeq (C : Cx p s m meth c Z y bytes maxL ret) {o : Int} {x z : Int64} (hd : decode bytes pc = .ok (.ifCond .eq o, 3)) (ho : 0 ≤ (pc : Int) + o) (ht : ((pc : Int) + o).toNat = pt) (hp : pc + 3 = pc') (yes : x = z → G p l e R s m args below meth c n0 P h k n (mkF m pt Ls S)) (no : ¬ (x = z) → G p l e R s m args below meth c n0 P h k n (mkF m pc' Ls S)) : G p l e R s m args below meth c n0 P h k n (mkF m pc Ls (.int (lcmpW x z) :: S)) :=
  G.ifeq C hd ho ht hp (fun q => yes ((lw_eq x z).mp q)) (fun q => no (fun r => q ((lw_eq x z).mpr r)))
theorem G.ifne (C : Cx p s m meth c Z y bytes maxL ret) {o : Int} {x : Int32} (hd : decode bytes pc = .ok (.ifCond .ne o, 3)) (ho : 0 ≤ (pc : Int) + o) (ht : ((pc : Int) + o).toNat = pt) (hp : pc + 3 = pc') (yes : ¬ (x = 0) → G p l e R s m args below meth c n0 P h k n (mkF m pt Ls S)) (no : x = 0 → G p l e R s m args below meth c n0 P h k n (mkF m pc' Ls S)) : G p l e R s m args below meth c n0 P h k n (mkF m pc Ls (.int x :: S)) :=
  G.ifc C hd ho ht hp (fun q => yes (by simpa [if_icmp.holds] using q)) (fun q => no (by simpa [if_icmp.holds] using q))
theorem G.icne (C : Cx p s m meth c Z y bytes maxL ret) {o : Int} {x z : Int32} (hd : decode bytes pc = .ok (.if_icmp .ne o, 3)) (ho : 0 ≤ (pc : Int) + o) (ht : ((pc : Int) + o).toNat = pt) (hp : pc + 3 = pc') (yes : ¬ (x = z) → G p l e R s m args below meth c n0 P h k n (mkF m pt Ls S)) (no : x = z → G p l e R s m args below meth c n0 P h k n (mkF m pc' Ls S)) : G p l e R s m args below meth c n0 P h k n (mkF m pc Ls (.int z :: .int x :: S)) :=
  G.icmp C hd ho ht hp (fun q => yes (by simpa [if_icmp.holds] using q)) (fun q => no (by simpa [if_icmp.holds] using q))
theorem G.lfne (C : Cx p s m meth c Z y bytes maxL ret) {o : Int} {x z : Int64} (hd : decode bytes pc = .ok (.ifCond .ne o, 3)) (ho : 0 ≤ (pc : Int) + o) (ht : ((pc : Int) + o).toNat = pt) (hp : pc + 3 = pc') (yes : ¬ (x = z) → G p l e R s m args below meth c n0 P h k n (mkF m pt Ls S)) (no : x = z → G p l e R s m args below meth c n0 P h k n (mkF m pc' Ls S)) : G p l e R s m args below meth c n0 P h k n (mkF m pc Ls (.int (lcmpW x z) :: S)) :=
  G.ifne C hd ho ht hp (fun q => yes (fun r => q ((lw_eq x z).mpr r))) (fun q => no ((lw_eq x z).mp q))
theorem G.iflt (C : Cx p s m meth c Z y bytes maxL ret) {o : Int} {x : Int32} (hd : decode bytes pc = .ok (.ifCond .lt o, 3)) (ho : 0 ≤ (pc : Int) + o) (ht : ((pc : Int) + o).toNat = pt) (hp : pc + 3 = pc') (yes : x < 0 → G p l e R s m args below meth c n0 P h k n (mkF m pt Ls S)) (no : ¬ (x < 0) → G p l e R s m args below meth c n0 P h k n (mkF m pc' Ls S)) : G p l e R s m args below meth c n0 P h k n (mkF m pc Ls (.int x :: S)) :=
  G.ifc C hd ho ht hp (fun q => yes (by simpa [if_icmp.holds] using q)) (fun q => no (by simpa [if_icmp.holds] using q))
theorem G.iclt (C : Cx p s m meth c Z y bytes maxL ret) {o : Int} {x z : Int32} (hd : decode bytes pc = .ok (.if_icmp .lt o, 3)) (ho : 0 ≤ (pc : Int) + o) (ht : ((pc : Int) + o).toNat = pt) (hp : pc + 3 = pc') (yes : x < z → G p l e R s m args below meth c n0 P h k n (mkF m pt Ls S)) (no : ¬ (x < z) → G p l e R s m args below meth c n0 P h k n (mkF m pc' Ls S)) : G p l e R s m args below meth c n0 P h k n (mkF m pc Ls (.int z :: .int x :: S)) :=
  G.icmp C hd ho ht hp (fun q => yes (by simpa [if_icmp.holds] using q)) (fun q => no (by simpa [if_icmp.holds] using q))
theorem G.lflt (C : Cx p s m meth c Z y bytes maxL ret) {o : Int} {x z : Int64} (hd : decode bytes pc = .ok (.ifCond .lt o, 3)) (ho : 0 ≤ (pc : Int) + o) (ht : ((pc : Int) + o).toNat = pt) (hp : pc + 3 = pc') (yes : x < z → G p l e R s m args below meth c n0 P h k n (mkF m pt Ls S)) (no : ¬ (x < z) → G p l e R s m args below meth c n0 P h k n (mkF m pc' Ls S)) : G p l e R s m args below meth c n0 P h k n (mkF m pc Ls (.int (lcmpW x z) :: S)) :=
  G.iflt C hd ho ht hp (fun q => yes ((lw_lt x z).mp q)) (fun q => no (fun r => q ((lw_lt x z).mpr r)))
theorem G.ifge (C : Cx p s m meth c Z y bytes maxL ret) {o : Int} {x : Int32} (hd : decode bytes pc = .ok (.ifCond .ge o, 3)) (ho : 0 ≤ (pc : Int) + o) (ht : ((pc : Int) + o).toNat = pt) (hp : pc + 3 = pc') (yes : ¬ (x < 0) → G p l e R s m args below meth c n0 P h k n (mkF m pt Ls S)) (no : x < 0 → G p l e R s m args below meth c n0 P h k n (mkF m pc' Ls S)) : G p l e R s m args below meth c n0 P h k n (mkF m pc Ls (.int x :: S)) :=
  G.ifc C hd ho ht hp (fun q => yes (by simpa [if_icmp.holds] using q)) (fun q => no (by simpa [if_icmp.holds] using q))
theorem G.icge (C : Cx p s m meth c Z y bytes maxL ret) {o : Int} {x z : Int32} (hd : decode bytes pc = .ok (.if_icmp .ge o, 3)) (ho : 0 ≤ (pc : Int) + o) (ht : ((pc : Int) + o).toNat = pt) (hp : pc + 3 = pc') (yes : ¬ (x < z) → G p l e R s m args below meth c n0 P h k n (mkF m pt Ls S)) (no : x < z → G p l e R s m args below meth c n0 P h k n (mkF m pc' Ls S)) : G p l e R s m args below meth c n0 P h k n (mkF m pc Ls (.int z :: .int x :: S)) :=
  G.icmp C hd ho ht hp (fun q => yes (by simpa [if_icmp.holds] using q)) (fun q => no (by simpa [if_icmp.holds] using q))
theorem G.lfge (C : Cx p s m meth c Z y bytes maxL ret) {o : Int} {x z : Int64} (hd : decode bytes pc = .ok (.ifCond .ge o, 3)) (ho : 0 ≤ (pc : Int) + o) (ht : ((pc : Int) + o).toNat = pt) (hp : pc + 3 = pc') (yes : ¬ (x < z) → G p l e R s m args below meth c n0 P h k n (mkF m pt Ls S)) (no : x < z → G p l e R s m args below meth c n0 P h k n (mkF m pc' Ls S)) : G p l e R s m args below meth c n0 P h k n (mkF m pc Ls (.int (lcmpW x z) :: S)) :=
  G.ifge C hd ho ht hp (fun q => yes (fun r => q ((lw_lt x z).mpr r))) (fun q => no ((lw_lt x z).mp q))
theorem G.ifgt (C : Cx p s m meth c Z y bytes maxL ret) {o : Int} {x : Int32} (hd : decode bytes pc = .ok (.ifCond .gt o, 3)) (ho : 0 ≤ (pc : Int) + o) (ht : ((pc : Int) + o).toNat = pt) (hp : pc + 3 = pc') (yes : 0 < x → G p l e R s m args below meth c n0 P h k n (mkF m pt Ls S)) (no : ¬ (0 < x) → G p l e R s m args below meth c n0 P h k n (mkF m pc' Ls S)) : G p l e R s m args below meth c n0 P h k n (mkF m pc Ls (.int x :: S)) :=
  G.ifc C hd ho ht hp (fun q => yes (by simpa [if_icmp.holds] using q)) (fun q => no (by simpa [if_icmp.holds] using q))
theorem G.icgt (C : Cx p s m meth c Z y bytes maxL ret) {o : Int} {x z : Int32} (hd : decode bytes pc = .ok (.if_icmp .gt o, 3)) (ho : 0 ≤ (pc : Int) + o) (ht : ((pc : Int) + o).toNat = pt) (hp : pc + 3 = pc') (yes : z < x → G p l e R s m args below meth c n0 P h k n (mkF m pt Ls S)) (no : ¬ (z < x) → G p l e R s m args below meth c n0 P h k n (mkF m pc' Ls S)) : G p l e R s m args below meth c n0 P h k n (mkF m pc Ls (.int z :: .int x :: S)) :=
  G.icmp C hd ho ht hp (fun q => yes (by simpa [if_icmp.holds] using q)) (fun q => no (by simpa [if_icmp.holds] using q))
theorem G.lfgt (C : Cx p s m meth c Z y bytes maxL ret) {o : Int} {x z : Int64} (hd : decode bytes pc = .ok (.ifCond .gt o, 3)) (ho : 0 ≤ (pc : Int) + o) (ht : ((pc : Int) + o).toNat = pt) (hp : pc + 3 = pc') (yes : z < x → G p l e R s m args below meth c n0 P h k n (mkF m pt Ls S)) (no : ¬ (z < x) → G p l e R s m args below meth c n0 P h k n (mkF m pc' Ls S)) : G p l e R s m args below meth c n0 P h k n (mkF m pc Ls (.int (lcmpW x z) :: S)) :=
  G.ifgt C hd ho ht hp (fun q => yes ((lw_gt x z).mp q)) (fun q => no (fun r => q ((lw_gt x z).mpr r)))
theorem G.ifle (C : Cx p s m meth c Z y bytes maxL ret) {o : Int} {x : Int32} (hd : decode bytes pc = .ok (.ifCond .le o, 3)) (ho : 0 ≤ (pc : Int) + o) (ht : ((pc : Int) + o).toNat = pt) (hp : pc + 3 = pc') (yes : ¬ (0 < x) → G p l e R s m args below meth c n0 P h k n (mkF m pt Ls S)) (no : 0 < x → G p l e R s m args below meth c n0 P h k n (mkF m pc' Ls S)) : G p l e R s m args below meth c n0 P h k n (mkF m pc Ls (.int x :: S)) :=
  G.ifc C hd ho ht hp (fun q => yes (by simpa [if_icmp.holds] using q)) (fun q => no (by simpa [if_icmp.holds] using q))
theorem G.icle (C : Cx p s m meth c Z y bytes maxL ret) {o : Int} {x z : Int32} (hd : decode bytes pc = .ok (.if_icmp .le o, 3)) (ho : 0 ≤ (pc : Int) + o) (ht : ((pc : Int) + o).toNat = pt) (hp : pc + 3 = pc') (yes : ¬ (z < x) → G p l e R s m args below meth c n0 P h k n (mkF m pt Ls S)) (no : z < x → G p l e R s m args below meth c n0 P h k n (mkF m pc' Ls S)) : G p l e R s m args below meth c n0 P h k n (mkF m pc Ls (.int z :: .int x :: S)) :=
  G.icmp C hd ho ht hp (fun q => yes (by simpa [if_icmp.holds] using q)) (fun q => no (by simpa [if_icmp.holds] using q))
theorem G.lfle (C : Cx p s m meth c Z y bytes maxL ret) {o : Int} {x z : Int64} (hd : decode bytes pc = .ok (.ifCond .le o, 3)) (ho : 0 ≤ (pc : Int) + o) (ht : ((pc : Int) + o).toNat = pt) (hp : pc + 3 = pc') (yes : ¬ (z < x) → G p l e R s m args below meth c n0 P h k n (mkF m pt Ls S)) (no : z < x → G p l e R s m args below meth c n0 P h k n (mkF m pc' Ls S)) : G p l e R s m args below meth c n0 P h k n (mkF m pc Ls (.int (lcmpW x z) :: S)) :=
  G.ifle C hd ho ht hp (fun q => yes (fun r => q ((lw_gt x z).mpr r))) (fun q => no ((lw_gt x z).mp q))
/-- a Bool as the machine's int -/
def bi (b : Bool) : Int32 := if b then 1 else 0
theorem bi_t : bi true = 1 := rfl
theorem bi_f : bi false = 0 := rfl
theorem bi_inj {a b : Bool} : bi a = bi b ↔ a = b := by cases a <;> cases b <;> decide
theorem bi_zero {b : Bool} : bi b = 0 ↔ b = false := by cases b <;> decide
theorem bi_one {b : Bool} : bi b = 1 ↔ b = true := by cases b <;> decide
theorem bi_fit (b : Bool) : fits .boolean (.int (bi b)) = true := by cases b <;> rfl
theorem bi_nar (b : Bool) : narrow .boolean (.int (bi b)) = .int (bi b) := by cases b <;> rfl
theorem G.bfeq (C : Cx p s m meth c Z y bytes maxL ret) {o : Int} {b : Bool} (hd : decode bytes pc = .ok (.ifCond .eq o, 3)) (ho : 0 ≤ (pc : Int) + o) (ht : ((pc : Int) + o).toNat = pt) (hp : pc + 3 = pc') (yes : b = false → G p l e R s m args below meth c n0 P h k n (mkF m pt Ls S)) (no : b = true → G p l e R s m args below meth c n0 P h k n (mkF m pc' Ls S)) : G p l e R s m args below meth c n0 P h k n (mkF m pc Ls (.int (bi b) :: S)) :=
  G.ifeq C hd ho ht hp (fun q => yes (bi_zero.mp q)) (fun q => no (by cases b; exact absurd rfl q; rfl))
theorem G.bfne (C : Cx p s m meth c Z y bytes maxL ret) {o : Int} {b : Bool} (hd : decode bytes pc = .ok (.ifCond .ne o, 3)) (ho : 0 ≤ (pc : Int) + o) (ht : ((pc : Int) + o).toNat = pt) (hp : pc + 3 = pc') (yes : b = true → G p l e R s m args below meth c n0 P h k n (mkF m pt Ls S)) (no : b = false → G p l e R s m args below meth c n0 P h k n (mkF m pc' Ls S)) : G p l e R s m args below meth c n0 P h k n (mkF m pc Ls (.int (bi b) :: S)) :=
  G.ifne C hd ho ht hp (fun q => yes (by cases b; exact absurd rfl q; rfl)) (fun q => no (bi_zero.mp q))
theorem G.out {v : Option Value} (C : Cx p s m meth c Z y bytes maxL ret) (hv : ret = none → v = none) (hq : Q v h) (hk : k ≤ R.cells) (hn : n ≤ R.slots)
    (st : ∀ T locs fs, Stand p l e R s m args below meth c T locs k n → (∀ (f : JFrame) (acts : List Action), f.method = m → f.locked = none → f.entered = [] → (doReturn e (T.setTop f) acts v).1 = T.setFrames fs) → Steps p.tables e below (T.setTop f) (T.setFrames fs)) : G p l e R s m args below meth c n0 (Wst s R n0 Q) h k n f := fun T locs X eT N => by
  have hlk : meth.locks = false := C.2.2.2.2.2.2.2
  obtain ⟨fs, hr, hrun, hended, hW, hsame⟩ := X.leave (v := v) (fun q => hv (C.2.2.2.2.2.2.1.symm.trans q)) hlk
  exact ⟨_, _, st T locs fs X hr, hrun, hended, eT ▸ hq, locs, N, ⟨_, rfl⟩, hW, hsame.mono hk hn⟩
theorem G.retI (C : Cx p s m meth c Z y bytes maxL (some .int)) {z : Int32} (hd : decode bytes pc = .ok (.ireturn, 1)) (hk : k ≤ R.cells) (hn : n ≤ R.slots) (hq : Q (some (.int z)) h) : G p l e R s m args below meth c n0 (Wst s R n0 Q) h k n (mkF m pc Ls (.int z :: S)) :=
  G.out C (fun q => by cases q) hq hk hn fun T locs fs X hr => retOut X C.1 C.2.2.2.2.2.2.1 rfl (Or.inl ⟨rfl, Or.inl rfl, z, rfl⟩) (hb C.2.2.1 hd) hr
theorem G.retZ (C : Cx p s m meth c Z y bytes maxL (some .boolean)) {z : Int32} (hd : decode bytes pc = .ok (.ireturn, 1)) (hk : k ≤ R.cells) (hn : n ≤ R.slots) (hz : narrow .boolean (.int z) = .int z) (hq : Q (some (.int z)) h) : G p l e R s m args below meth c n0 (Wst s R n0 Q) h k n (mkF m pc Ls (.int z :: S)) :=
  G.out C (fun q => by cases q) hq hk hn fun T locs fs X hr => retOut X C.1 C.2.2.2.2.2.2.1 hz (Or.inl ⟨rfl, Or.inr (Or.inl rfl), z, rfl⟩) (hb C.2.2.1 hd) hr
theorem G.retB (C : Cx p s m meth c Z y bytes maxL (some .byte)) {z : Int32} (hd : decode bytes pc = .ok (.ireturn, 1)) (hk : k ≤ R.cells) (hn : n ≤ R.slots) (hz : narrow .byte (.int z) = .int z) (hq : Q (some (.int z)) h) : G p l e R s m args below meth c n0 (Wst s R n0 Q) h k n (mkF m pc Ls (.int z :: S)) :=
  G.out C (fun q => by cases q) hq hk hn fun T locs fs X hr => retOut X C.1 C.2.2.2.2.2.2.1 hz (Or.inl ⟨rfl, Or.inr (Or.inr (Or.inl rfl)), z, rfl⟩) (hb C.2.2.1 hd) hr
theorem G.retC (C : Cx p s m meth c Z y bytes maxL (some .char)) {z : Int32} (hd : decode bytes pc = .ok (.ireturn, 1)) (hk : k ≤ R.cells) (hn : n ≤ R.slots) (hz : narrow .char (.int z) = .int z) (hq : Q (some (.int z)) h) : G p l e R s m args below meth c n0 (Wst s R n0 Q) h k n (mkF m pc Ls (.int z :: S)) :=
  G.out C (fun q => by cases q) hq hk hn fun T locs fs X hr => retOut X C.1 C.2.2.2.2.2.2.1 hz (Or.inl ⟨rfl, Or.inr (Or.inr (Or.inr (Or.inl rfl))), z, rfl⟩) (hb C.2.2.1 hd) hr
theorem G.retL (C : Cx p s m meth c Z y bytes maxL (some .long)) {z : Int64} (hd : decode bytes pc = .ok (.lreturn, 1)) (hk : k ≤ R.cells) (hn : n ≤ R.slots) (hq : Q (some (.long z)) h) : G p l e R s m args below meth c n0 (Wst s R n0 Q) h k n (mkF m pc Ls (.long z :: S)) :=
  G.out C (fun q => by cases q) hq hk hn fun T locs fs X hr => retOut X C.1 C.2.2.2.2.2.2.1 rfl (Or.inr (Or.inl ⟨rfl, rfl, z, rfl⟩)) (hb C.2.2.1 hd) hr
theorem G.retA {t : FieldType} (C : Cx p s m meth c Z y bytes maxL (some t)) {v : Value} (ht : t.isReference = true) (hv : v.isRef = true) (hd : decode bytes pc = .ok (.areturn, 1)) (hk : k ≤ R.cells) (hn : n ≤ R.slots) (hz : narrow t v = v) (hq : Q (some v) h) : G p l e R s m args below meth c n0 (Wst s R n0 Q) h k n (mkF m pc Ls (v :: S)) :=
  G.out C (fun q => by cases q) hq hk hn fun T locs fs X hr => retOut X C.1 C.2.2.2.2.2.2.1 hz (Or.inr (Or.inr (Or.inr (Or.inr ⟨rfl, ht, hv⟩)))) (hb C.2.2.1 hd) hr
theorem G.retV (C : Cx p s m meth c Z y bytes maxL none) (hd : decode bytes pc = .ok (.return_, 1)) (hk : k ≤ R.cells) (hn : n ≤ R.slots) (hq : Q none h) : G p l e R s m args below meth c n0 (Wst s R n0 Q) h k n (mkF m pc Ls []) :=
  G.out C (fun _ => rfl) hq hk hn fun T locs fs X hr => X.returnOut C.1 C.2.2.2.2.2.2.1 (hb C.2.2.1 hd) hr
theorem cat_sum {S : List Value} {W : Nat} (h : (S.map fun v => v.category).sum ≤ W) : 2 * 0 + (S.map fun v => v.category).sum ≤ W := by omega
theorem G.callS (C : Cx p s m meth c Z y bytes maxL ret) {z : MethodName} {zb : ByteArray} {zl : Nat} {zr : Option FieldType} {Rz : Room} {av : List Value} {Qz : Option Value → Heap → Prop} {ix W : Nat} {ps : List FieldType} {r : Option FieldType} {St : List Value}
    (w1 : (Jvm.Cond.methodLink y.cls ix z).before a0 Z = true) (w2 : (Jvm.Cond.static z).before a0 Z = true) (w3 : (Jvm.Cond.initialized z.cls).before a0 Z = true) (w4 : (Jvm.Cond.code z zb zl zr).before a0 Z = true)
    (hz : z.cls ≠ "java/lang/invoke/MethodHandle" ∧ z.cls ≠ "java/lang/invoke/VarHandle") (K : Con l Z z zb zl zr Rz av.toArray h n0 Qz) (hps : parseMethodDescriptor z.desc = some ⟨ps, r⟩) (hlen : av.length = ps.length) (hls : Ls.size = maxL)
    (hd : decode bytes pc = .ok (.invokestatic ix, 3)) (hst : St = av.reverse ++ S) (hW : (S.map fun v => v.category).sum ≤ W) (hf : Rz.frames + 1 ≤ R.frames) (hl : W + (zl + 11) + Rz.locals ≤ R.locals) (hk : k + Rz.cells ≤ R.cells) (hn : n + Rz.slots ≤ R.slots) (hp : pc + 3 = pc')
    (nx : ∀ v h', Qz v h' → G p l e R s m args below meth c n0 P h' (k + Rz.cells) (n + Rz.slots) (mkF m pc' Ls (v.toList ++ S))) : G p l e R s m args below meth c n0 P h k n (mkF m pc Ls St) := fun T locs X eT N => by
  subst hp hst
  obtain ⟨v, _, ⟨T', L', k', n'⟩, -, X', ⟨Lc, hQ, l1, l2, l3⟩, st⟩ := Jvm.LawKit.callS X C.1 (y := z) C.2.2.2.2.1 (mvT C.2.1 w1) (mvT C.2.1 w2) (mvT C.2.1 w3) (mvT C.2.1 w4) hz (backOf (Q := fun v z L => Qz v z ∧ Fr n0 L) (W := W) (K []) C.2.1 w4 w3 hf hl) (g := mkF m pc Ls (av.reverse ++ S)) rfl (by rw [C.2.2.2.1]; exact hls) (argsL := av) (rest := S) (lenOf hps hlen) rfl (cat_sum hW) (hb C.2.2.1 hd) (fun _ _ => ⟨rfl, eT, hk, hn⟩)
  dsimp only [Pt.U, Pt.locs, Pt.cells, Pt.slots] at X' l1 l2 l3 st hQ
  subst l1 l2 l3
  obtain ⟨s₂, o, h1, rr⟩ := nx v T'.heap hQ.1 T' _ X' rfl (Fr.app N hQ.2)
  exact ⟨s₂, o, st _ h1, rr⟩
theorem G.callI (C : Cx p s m meth c Z y bytes maxL ret) {z : MethodName} {zb : ByteArray} {zl : Nat} {Rz : Room} {a : Addr} {av : List Value} {Qz : Option Value → Heap → Prop} {ix W : Nat} {ps : List FieldType} {r : Option FieldType} {St : List Value} (hz1 : z.name = "<init>")
    (w1 : (Jvm.Cond.methodLink y.cls ix z).before a0 Z = true) (w2 : (Jvm.Cond.instanceMethod z).before a0 Z = true) (w3 : (Jvm.Cond.initialized z.cls).before a0 Z = true) (w4 : (Jvm.Cond.code z zb zl none).before a0 Z = true)
    (hz : z.cls ≠ "java/lang/invoke/MethodHandle" ∧ z.cls ≠ "java/lang/invoke/VarHandle") (K : Con l Z z zb zl none Rz (.ref a :: av).toArray h n0 Qz) (hps : parseMethodDescriptor z.desc = some ⟨ps, r⟩) (hlen : av.length = ps.length) (hls : Ls.size = maxL)
    (hd : decode bytes pc = .ok (.invokespecial ix, 3)) (hst : St = av.reverse ++ .ref a :: S) (hW : (S.map fun v => v.category).sum ≤ W) (hf : Rz.frames + 1 ≤ R.frames) (hl : W + (zl + 11) + Rz.locals ≤ R.locals) (hk : k + Rz.cells ≤ R.cells) (hn : n + Rz.slots ≤ R.slots) (hp : pc + 3 = pc')
    (nx : ∀ v h', Qz v h' → G p l e R s m args below meth c n0 P h' (k + Rz.cells) (n + Rz.slots) (mkF m pc' Ls (v.toList ++ S))) : G p l e R s m args below meth c n0 P h k n (mkF m pc Ls St) := fun T locs X eT N => by
  subst hp hst
  obtain ⟨v, _, ⟨T', L', k', n'⟩, -, X', ⟨Lc, hQ, l1, l2, l3⟩, st⟩ := X.specialBack C.1 (y := z) hz1 C.2.2.2.2.1 (mvT C.2.1 w1) (mvT C.2.1 w2) (mvT C.2.1 w4) hz (backOf (Q := fun v z L => Qz v z ∧ Fr n0 L) (W := W) (K []) C.2.1 w4 w3 hf hl) (g := mkF m pc Ls (av.reverse ++ .ref a :: S)) rfl (by rw [C.2.2.2.1]; exact hls) (Steps.refl _) (a := a) (argsL := av) (rest := S) (lenOf hps hlen) rfl (cat_sum hW) (hb C.2.2.1 hd) (fun _ _ => ⟨rfl, eT, hk, hn⟩)
  dsimp only [Pt.U, Pt.locs, Pt.cells, Pt.slots] at X' l1 l2 l3 st hQ
  subst l1 l2 l3
  obtain ⟨s₂, o, h1, rr⟩ := nx v T'.heap hQ.1 T' _ X' rfl (Fr.app N hQ.2)
  exact ⟨s₂, o, st.trans h1, rr⟩
theorem G.callV (C : Cx p s m meth c Z y bytes maxL ret) {z : MethodName} {zb : ByteArray} {zl : Nat} {zr : Option FieldType} {Rz : Room} {a : Addr} {av : List Value} {Qz : Option Value → Heap → Prop} {ix W : Nat} {ps : List FieldType} {r : Option FieldType} {St : List Value} {D : String}
    (w1 : (Jvm.Cond.methodLink y.cls ix z).before a0 Z = true) (w2 : (Jvm.Cond.instanceMethod z).before a0 Z = true) (w3 : (Jvm.Cond.initialized z.cls).before a0 Z = true) (w4 : (Jvm.Cond.code z zb zl zr).before a0 Z = true) (w5 : (Jvm.Cond.declares z).before a0 Z = true) (w6 : (Jvm.Cond.selects D z z).before a0 Z = true) (E : Exa Z h a D)
    (hz : z.cls ≠ "java/lang/invoke/MethodHandle" ∧ z.cls ≠ "java/lang/invoke/VarHandle") (K : Con l Z z zb zl zr Rz (.ref a :: av).toArray h n0 Qz) (hps : parseMethodDescriptor z.desc = some ⟨ps, r⟩) (hlen : av.length = ps.length) (hls : Ls.size = maxL)
    (hd : decode bytes pc = .ok (.invokevirtual ix, 3)) (hst : St = av.reverse ++ .ref a :: S) (hW : (S.map fun v => v.category).sum ≤ W) (hf : Rz.frames + 1 ≤ R.frames) (hl : W + (zl + 11) + Rz.locals ≤ R.locals) (hk : k + Rz.cells ≤ R.cells) (hn : n + Rz.slots ≤ R.slots) (hp : pc + 3 = pc')
    (nx : ∀ v h', Qz v h' → G p l e R s m args below meth c n0 P h' (k + Rz.cells) (n + Rz.slots) (mkF m pc' Ls (v.toList ++ S))) : G p l e R s m args below meth c n0 P h k n (mkF m pc Ls St) := fun T locs X eT N => by
  subst hp hst
  obtain ⟨cq, kq, qa, qb, qc⟩ := isOf C.2.1 eT E
  obtain ⟨v, _, ⟨T', L', k', n'⟩, -, X', ⟨Lc, hQ, l1, l2, l3⟩, st⟩ := X.virtualBack C.1 (y := z) (z := z) C.2.2.2.2.1 (mvT C.2.1 w1) (mvT C.2.1 w5) (notFace_of_selects (args := #[]) (mvT C.2.1 w6)) (mvT C.2.1 w6) (mvT C.2.1 w2) hz (backOf (Q := fun v z L => Qz v z ∧ Fr n0 L) (W := W) (K []) C.2.1 w4 w3 hf hl) qa qc (g := mkF m pc Ls (av.reverse ++ .ref a :: S)) rfl (by rw [C.2.2.2.1]; exact hls) (Steps.refl _) (argsL := av) (rest := S) (lenOf hps hlen) rfl (cat_sum hW) (hb C.2.2.1 hd) (fun _ _ => ⟨rfl, eT, hk, hn⟩)
  dsimp only [Pt.U, Pt.locs, Pt.cells, Pt.slots] at X' l1 l2 l3 st hQ
  subst l1 l2 l3
  obtain ⟨s₂, o, h1, rr⟩ := nx v T'.heap hQ.1 T' _ X' rfl (Fr.app N hQ.2)
  exact ⟨s₂, o, st.trans h1, rr⟩
def Pn (h : Heap) : Option Value → Heap → Prop := fun v h' => v = none ∧ h' = h
/-- a value is handed back, the heap as it was -/
def Pv (u : Value) (h : Heap) : Option Value → Heap → Prop := fun v h' => v = some u ∧ h' = h
theorem G.callSP (C : Cx p s m meth c Z y bytes maxL ret) {z : MethodName} {zb : ByteArray} {zl : Nat} {zr : Option FieldType} {Rz : Room} {av : List Value} {u : Value} {ix W : Nat} {ps : List FieldType} {r : Option FieldType} {St : List Value}
    (w1 : (Jvm.Cond.methodLink y.cls ix z).before a0 Z = true) (w2 : (Jvm.Cond.static z).before a0 Z = true) (w3 : (Jvm.Cond.initialized z.cls).before a0 Z = true) (w4 : (Jvm.Cond.code z zb zl zr).before a0 Z = true)
    (hz : z.cls ≠ "java/lang/invoke/MethodHandle" ∧ z.cls ≠ "java/lang/invoke/VarHandle") (K : Con l Z z zb zl zr Rz av.toArray h n0 (Pv u h)) (hps : parseMethodDescriptor z.desc = some ⟨ps, r⟩) (hlen : av.length = ps.length) (hls : Ls.size = maxL)
    (hd : decode bytes pc = .ok (.invokestatic ix, 3)) (hst : St = av.reverse ++ S) (hW : (S.map fun v => v.category).sum ≤ W) (hf : Rz.frames + 1 ≤ R.frames) (hl : W + (zl + 11) + Rz.locals ≤ R.locals) (h0 : Rz.cells = 0) (h1 : Rz.slots = 0) (hk : k ≤ R.cells) (hn : n ≤ R.slots) (hp : pc + 3 = pc')
    (nx : G p l e R s m args below meth c n0 P h k n (mkF m pc' Ls (u :: S))) : G p l e R s m args below meth c n0 P h k n (mkF m pc Ls St) :=
  G.callS C w1 w2 w3 w4 hz K hps hlen hls hd hst hW hf hl (by rw [h0]; exact hk) (by rw [h1]; exact hn) hp fun v h' hq => by
    obtain ⟨rfl, rfl⟩ := hq; rw [h0, h1]; exact nx
theorem G.callVP (C : Cx p s m meth c Z y bytes maxL ret) {z : MethodName} {zb : ByteArray} {zl : Nat} {zr : Option FieldType} {Rz : Room} {a : Addr} {av : List Value} {u : Value} {ix W : Nat} {ps : List FieldType} {r : Option FieldType} {St : List Value} {D : String}
    (w1 : (Jvm.Cond.methodLink y.cls ix z).before a0 Z = true) (w2 : (Jvm.Cond.instanceMethod z).before a0 Z = true) (w3 : (Jvm.Cond.initialized z.cls).before a0 Z = true) (w4 : (Jvm.Cond.code z zb zl zr).before a0 Z = true) (w5 : (Jvm.Cond.declares z).before a0 Z = true) (w6 : (Jvm.Cond.selects D z z).before a0 Z = true) (E : Exa Z h a D)
    (hz : z.cls ≠ "java/lang/invoke/MethodHandle" ∧ z.cls ≠ "java/lang/invoke/VarHandle") (K : Con l Z z zb zl zr Rz (.ref a :: av).toArray h n0 (Pv u h)) (hps : parseMethodDescriptor z.desc = some ⟨ps, r⟩) (hlen : av.length = ps.length) (hls : Ls.size = maxL)
    (hd : decode bytes pc = .ok (.invokevirtual ix, 3)) (hst : St = av.reverse ++ .ref a :: S) (hW : (S.map fun v => v.category).sum ≤ W) (hf : Rz.frames + 1 ≤ R.frames) (hl : W + (zl + 11) + Rz.locals ≤ R.locals) (h0 : Rz.cells = 0) (h1 : Rz.slots = 0) (hk : k ≤ R.cells) (hn : n ≤ R.slots) (hp : pc + 3 = pc')
    (nx : G p l e R s m args below meth c n0 P h k n (mkF m pc' Ls (u :: S))) : G p l e R s m args below meth c n0 P h k n (mkF m pc Ls St) :=
  G.callV C w1 w2 w3 w4 w5 w6 E hz K hps hlen hls hd hst hW hf hl (by rw [h0]; exact hk) (by rw [h1]; exact hn) hp fun v h' hq => by
    obtain ⟨rfl, rfl⟩ := hq; rw [h0, h1]; exact nx
/-- Keep, and the cells of statics as they were -/
def Kp (h h' : Heap) (ws : List Addr) : Prop := Keep h h' ws ∧ ∀ (x : Addr) (c : Cell), h[x]? = some c → c.vm.isStatics = true → h'[x]? = some c
theorem Kp.refl (h : Heap) (ws : List Addr) : Kp h h ws := ⟨Keep.refl _ _, fun _ _ q _ => q⟩
theorem Kp.ext {h1 h2 : Heap} {ws : List Addr} (K : Kp h h1 ws) (E : Ext h1 h2) : Kp h h2 ws := ⟨K.1.ext E, fun x c q r => E.2 x c (K.2 x c q r)⟩
theorem Kp.wr {h1 h2 : Heap} {ws : List Addr} {a : Addr} {sl : Nat} {v : Value} (K : Kp h h1 ws) (W : Wr h1 h2 a sl v) (q : a ∈ ws ∨ h.size ≤ a) : Kp h h2 ws := ⟨K.1.wr W q, fun x c q r => by
  have h1x := K.2 x c q r
  obtain ⟨cb, w1, w2, -⟩ := id W
  obtain ⟨cb', e1, -, -, -, e5, -⟩ := wr_at W h1x
  by_cases z : x = a
  · subst z; cases h1x.symm.trans w1; rw [r] at w2; cases w2
  · rw [e1, e5 z]⟩
theorem Kp.trans {h1 h2 : Heap} {ws ws' : List Addr} (K : Kp h h1 ws) (K' : Kp h1 h2 ws') (q : ∀ x ∈ ws', x ∈ ws ∨ h.size ≤ x) : Kp h h2 ws := ⟨K.1.trans K'.1 q, fun x c r z => K'.2 x c (K.2 x c r z) z⟩
theorem Sta.kp {h1 : Heap} {O nm d : String} {v : Value} {ws : List Addr} (K : Kp h h1 ws) (F : Sta Z h O nm d v) : Sta Z h1 O nm d v := by
  obtain ⟨cf, i, k, f, st, cell, q1, q2, q3, q4, q5, q6, q7⟩ := F
  exact ⟨cf, i, k, f, st, cell, q1, q2, q3, q4, K.2 _ _ q5 q6, q6, q7⟩
theorem G.acmpne (C : Cx p s m meth c Z y bytes maxL ret) {o : Int} {a b : Addr} (hd : decode bytes pc = .ok (.if_acmp .ne o, 3)) (ho : 0 ≤ (pc : Int) + o) (ht : ((pc : Int) + o).toNat = pt) (hp : pc + 3 = pc') (yes : ¬ (a = b) → G p l e R s m args below meth c n0 P h k n (mkF m pt Ls S)) (no : a = b → G p l e R s m args below meth c n0 P h k n (mkF m pc' Ls S)) : G p l e R s m args below meth c n0 P h k n (mkF m pc Ls (.ref b :: .ref a :: S)) := by
  by_cases q : a = b
  · exact G.pl (fun T locs X eT t k => Jvm.RoadKit.acmp (g := mkF m pc Ls (.ref b :: .ref a :: S)) X C.1 rfl rfl rfl (pc0 := pc) (pc' := pc') (same := true) rfl (hb C.2.2.1 hd) rfl (decide_eq_true (congrArg Value.ref q)) ho hp.symm k) (no q)
  · exact G.pl (fun T locs X eT t k => Jvm.RoadKit.acmp (g := mkF m pc Ls (.ref b :: .ref a :: S)) X C.1 rfl rfl rfl (pc0 := pc) (pc' := pt) (same := false) rfl (hb C.2.2.1 hd) rfl (decide_eq_false fun r => q (Value.ref.inj r)) ho ht.symm k) (yes q)
theorem G.acmpeq (C : Cx p s m meth c Z y bytes maxL ret) {o : Int} {a b : Addr} (hd : decode bytes pc = .ok (.if_acmp .eq o, 3)) (ho : 0 ≤ (pc : Int) + o) (ht : ((pc : Int) + o).toNat = pt) (hp : pc + 3 = pc') (yes : a = b → G p l e R s m args below meth c n0 P h k n (mkF m pt Ls S)) (no : ¬ (a = b) → G p l e R s m args below meth c n0 P h k n (mkF m pc' Ls S)) : G p l e R s m args below meth c n0 P h k n (mkF m pc Ls (.ref b :: .ref a :: S)) := by
  by_cases q : a = b
  · exact G.pl (fun T locs X eT t k => Jvm.RoadKit.acmp (g := mkF m pc Ls (.ref b :: .ref a :: S)) X C.1 rfl rfl rfl (pc0 := pc) (pc' := pt) (same := true) rfl (hb C.2.2.1 hd) rfl (decide_eq_true (congrArg Value.ref q)) ho ht.symm k) (yes q)
  · exact G.pl (fun T locs X eT t k => Jvm.RoadKit.acmp (g := mkF m pc Ls (.ref b :: .ref a :: S)) X C.1 rfl rfl rfl (pc0 := pc) (pc' := pc') (same := false) rfl (hb C.2.2.1 hd) rfl (decide_eq_false fun r => q (Value.ref.inj r)) ho hp.symm k) (no q)
theorem own_eqi {args : Array Value} {first s : State} {o : Option Outcome} {idx : List Nat} {t : Term} {z : Int32} (h : (Jvm.Cond.eq t (.int z)).value args first o s idx = some true) : t.eval args first o idx s = some (.int z) := by
  simp only [Cond.value] at h
  cases ht : t.eval args first o idx s with
  | none => simp [ht] at h
  | some x => cases x <;> simp [ht, Term.eval] at h ⊢; exact h
theorem own_sta_keep {O nm d : String} {v : Value} {h' : Heap} {ws : List Addr} (K : Keep h h' ws) (F : Sta Z h O nm d v) (hs : ∀ x ∈ ws, ∀ cell : Cell, h[x]? = some cell → cell.vm.isStatics = false) : Sta Z h' O nm d v := by
  obtain ⟨cf, i, k, f, st, cell, h1, h2, h3, h4, h5, h6, h7⟩ := F
  refine ⟨cf, i, k, f, st, cell, h1, h2, h3, h4, K.2.1 _ _ h5 (fun q => ?_), h6, h7⟩
  rw [hs st q cell h5] at h6; cases h6
theorem G.getF (C : Cx p s m meth c Z y bytes maxL ret) {ix : Nat} {O nm d : String} {a : Addr} {v : Value} (w : (Jvm.Cond.fieldLink y.cls ix O nm d).before a0 Z = true) (F : Fld Z h a O nm d v) (hd : decode bytes pc = .ok (.getfield ix, 3)) (hp : pc + 3 = pc') (nx : G p l e R s m args below meth c n0 P h k n (mkF m pc' Ls (v :: S))) : G p l e R s m args below meth c n0 P h k n (mkF m pc Ls (.ref a :: S)) := by
  subst hp; exact G.mv (fun T locs X eT => Jvm.RoadKit.getF X C.1 C.2.1 C.2.2.2.2.1 (host := "") (Or.inl w) Via.refl eT F (g := mkF m pc Ls (.ref a :: S)) rfl rfl (hb C.2.2.1 hd)) nx
theorem G.getS (C : Cx p s m meth c Z y bytes maxL ret) {ix : Nat} {O nm d : String} {v : Value} (w : (Jvm.Cond.fieldLink y.cls ix O nm d).before a0 Z = true) (F : Sta Z h O nm d v) (hd : decode bytes pc = .ok (.getstatic ix, 3)) (hp : pc + 3 = pc') (nx : G p l e R s m args below meth c n0 P h k n (mkF m pc' Ls (v :: S))) : G p l e R s m args below meth c n0 P h k n (mkF m pc Ls S) := by
  subst hp; exact G.mv (fun T locs X eT => Jvm.RoadKit.getS2 X C.1 C.2.1 C.2.2.2.2.1 (host := "") (Or.inl w) Via.refl eT F (g := mkF m pc Ls S) rfl (hb C.2.2.1 hd)) nx
theorem G.putF (C : Cx p s m meth c Z y bytes maxL ret) {ix kk : Nat} {O nm d D : String} {ty : FieldType} {a : Addr} {v old : Value} (w : (Jvm.Cond.fieldLink y.cls ix O nm d).before a0 Z = true) (F : Fld Z h a O nm d old) (E : Exa Z h a D) (La : (Jvm.Cond.lays D O nm d).before a0 Z = true ∨ ((Jvm.Cond.laysFinal D O nm d).before a0 Z = true ∧ y.cls = O ∧ y.name = "<init>")) (wi : (Jvm.Cond.instantiable D kk).before a0 Z = true)
    (hty : parseFieldDescriptor d = some ty) (hn : narrow ty v = v) (hf : fits ty v = true) (ha : n0 ≤ a) (hd : decode bytes pc = .ok (.putfield ix, 3)) (hp : pc + 3 = pc') (nx : ∀ h', Wr h h' a (Jvm.RoadKit.slotOf Z O nm d) v → G p l e R s m args below meth c n0 P h' k n (mkF m pc' Ls S)) : G p l e R s m args below meth c n0 P h k n (mkF m pc Ls (v :: .ref a :: S)) := fun T locs X eT N => by
  subst hp
  obtain ⟨T', h', X', e', W, st⟩ := Jvm.RoadKit.putF X C.1 C.2.1 C.2.2.2.2.1 (host := "") (Or.inl w) Via.refl eT F E (La.imp id fun q => ⟨q.1, q.2.1, C.2.2.2.2.2.1.trans q.2.2⟩) wi hty hn hf (g := mkF m pc Ls (v :: .ref a :: S)) rfl rfl (hb C.2.2.1 hd)
  obtain ⟨s₂, o, h1, rr⟩ := nx h' W T' _ X' e' (Fr.snoc X' N ha)
  exact ⟨s₂, o, st _ h1, rr⟩
theorem G.newO (C : Cx p s m meth c Z y bytes maxL ret) {ix sl : Nat} {D : String} (w : (Jvm.Cond.classLink y.cls ix D).before a0 Z = true) (wi : (Jvm.Cond.instantiable D sl).before a0 Z = true) (wz : (Jvm.Cond.initialized D).before a0 Z = true) (hd : decode bytes pc = .ok (.new ix, 3)) (hk : k + 1 ≤ R.cells) (hn : n + sl ≤ R.slots) (hp : pc + 3 = pc')
    (nx : ∀ h' a, a = h.size → Ext h h' → Exa Z h' a D → (∀ {O nm d : String} {ty : FieldType}, Laid Z a0 D O nm d → parseFieldDescriptor d = some ty → Fld Z h' a O nm d (defaultValue ty)) → G p l e R s m args below meth c n0 P h' (k + 1) (n + sl) (mkF m pc' Ls (.ref a :: S))) : G p l e R s m args below meth c n0 P h k n (mkF m pc Ls S) := fun T locs X eT N => by
  subst hp
  obtain ⟨T', h', X', e', E, A, D', -, st⟩ := Jvm.RoadKit.newO X C.1 C.2.1 C.2.2.2.2.1 w wi wz eT (g := mkF m pc Ls S) rfl (hb C.2.2.1 hd) hk hn
  obtain ⟨s₂, o, h1, rr⟩ := nx h' _ rfl E A D' T' _ X' e' N
  exact ⟨s₂, o, st _ h1, rr⟩
theorem G.initO (C : Cx p s m meth c Z y bytes maxL ret) {ix W : Nat} {a : Addr} (w1 : (Jvm.Cond.methodLink y.cls ix Lib.objectInit).before a0 Z = true) (w2 : (Jvm.Cond.instanceMethod Lib.objectInit).before a0 Z = true) (w3 : (Jvm.Cond.code Lib.objectInit ⟨#[0xb1]⟩ 1 none).before a0 Z = true) (hls : Ls.size = maxL) (hd : decode bytes pc = .ok (.invokespecial ix, 3)) (hf : 1 ≤ R.frames) (hW : (S.map fun v => v.category).sum ≤ W) (hl : W + 12 ≤ R.locals) (hp : pc + 3 = pc')
    (nx : G p l e R s m args below meth c n0 P h k n (mkF m pc' Ls S)) : G p l e R s m args below meth c n0 P h k n (mkF m pc Ls (.ref a :: S)) := by
  subst hp; exact G.mv (fun T locs X eT => Jvm.RoadKit.initO X C.1 C.2.1 C.2.2.2.2.1 w1 w2 w3 eT (g := mkF m pc Ls (.ref a :: S)) rfl (by rw [C.2.2.2.1]; exact hls) rfl (hb C.2.2.1 hd) hf (cat_sum hW) hl) nx
theorem G.ifnull (C : Cx p s m meth c Z y bytes maxL ret) {o : Int} (hd : decode bytes pc = .ok (.ifnull o, 3)) (ho : 0 ≤ (pc : Int) + o) (ht : ((pc : Int) + o).toNat = pt) (nx : G p l e R s m args below meth c n0 P h k n (mkF m pt Ls S)) : G p l e R s m args below meth c n0 P h k n (mkF m pc Ls (.null :: S)) :=
  G.pl (fun T locs X eT t q => XS.ifnullYes X.here C.1 rfl (pc0 := pc) (pc' := pt) rfl (hb C.2.2.1 hd) rfl ho ht q) nx
theorem G.ifnullR (C : Cx p s m meth c Z y bytes maxL ret) {o : Int} {a : Addr} (hd : decode bytes pc = .ok (.ifnull o, 3)) (hp : pc + 3 = pc') (nx : G p l e R s m args below meth c n0 P h k n (mkF m pc' Ls S)) : G p l e R s m args below meth c n0 P h k n (mkF m pc Ls (.ref a :: S)) := by
  subst hp; exact G.pl (fun T locs X eT t q => XS.ifnullNo X.here C.1 rfl (hb C.2.2.1 hd) rfl q) nx
theorem G.ifnonnull (C : Cx p s m meth c Z y bytes maxL ret) {o : Int} (hd : decode bytes pc = .ok (.ifnonnull o, 3)) (hp : pc + 3 = pc') (nx : G p l e R s m args below meth c n0 P h k n (mkF m pc' Ls S)) : G p l e R s m args below meth c n0 P h k n (mkF m pc Ls (.null :: S)) := by
  subst hp; exact G.pl (fun T locs X eT t q => XS.ifnonnullNo X.here C.1 rfl (hb C.2.2.1 hd) rfl q) nx
theorem G.ifnonnullR (C : Cx p s m meth c Z y bytes maxL ret) {o : Int} {a : Addr} (hd : decode bytes pc = .ok (.ifnonnull o, 3)) (ho : 0 ≤ (pc : Int) + o) (ht : ((pc : Int) + o).toNat = pt) (nx : G p l e R s m args below meth c n0 P h k n (mkF m pt Ls S)) : G p l e R s m args below meth c n0 P h k n (mkF m pc Ls (.ref a :: S)) :=
  G.pl (fun T locs X eT t q => XS.ifnonnullYes X.here C.1 rfl (pc0 := pc) (pc' := pt) rfl (hb C.2.2.1 hd) rfl ho ht q) nx
/-- an array of N places, what lies in each of them -/
def Ara (Z : State) (h : Heap) (a : Addr) (ty : FieldType) (N : Nat) (f : Nat → Value) : Prop := ∃ c : Cell, Arr Z h a c ty ∧ c.slots.size = N ∧ ∀ i, i < N → c.slots[i]? = some (f i)
section Arrays
variable {h' : Heap} {a b : Addr} {ty : FieldType} {N : Nat} {F : Nat → Value}
theorem Ara.ext (A : Ara Z h a ty N F) (E : Ext h h') : Ara Z h' a ty N F := by obtain ⟨c, q, r⟩ := A; exact ⟨c, q.ext E, r⟩
theorem Ara.keep {ws : List Addr} (A : Ara Z h a ty N F) (K : Keep h h' ws) (q : a ∉ ws) : Ara Z h' a ty N F := by obtain ⟨c, A, r⟩ := A; exact ⟨c, ⟨K.2.1 a c A.1 q, A.2⟩, r⟩
theorem Ara.kp {ws : List Addr} (A : Ara Z h a ty N F) (K : Kp h h' ws) (q : a ∉ ws) : Ara Z h' a ty N F := A.keep K.1 q
theorem Ara.oth {sl : Nat} {v : Value} (A : Ara Z h a ty N F) (W : Wr h h' b sl v) (q : a ≠ b) : Ara Z h' a ty N F := by obtain ⟨c, A, r⟩ := A; exact ⟨c, A.other W q, r⟩
theorem Ara.lt (A : Ara Z h a ty N F) : a < h.size := by obtain ⟨c, A, -⟩ := A; exact A.lt
theorem Ara.cast {F' : Nat → Value} (A : Ara Z h a ty N F) (q : ∀ i, i < N → F i = F' i) : Ara Z h a ty N F' := by obtain ⟨c, A, r1, r2⟩ := A; exact ⟨c, A, r1, fun i hi => by rw [r2 i hi, q i hi]⟩
theorem Ara.set {j : Nat} {v : Value} (A : Ara Z h a ty N F) (W : Wr h h' a j v) : Ara Z h' a ty N (fun i => if i = j then v else F i) := by
  obtain ⟨c, A, r1, r2⟩ := A
  obtain ⟨cell, w1, w2, w3, rfl⟩ := id W
  cases A.1.symm.trans w1
  refine ⟨_, A.same W, ?_, fun i hi => ?_⟩
  · rw [← r1]; simp [Cell.setSlot]
  · have hi' : i < c.slots.size := by rw [r1]; exact hi
    by_cases q : i = j
    · subst q; simp [Cell.setSlot, hi']
    · have q' : ¬ j = i := fun z => q z.symm
      simp only [q, if_false]
      rw [← r2 i hi]
      simp [Cell.setSlot, Array.getElem?_setIfInBounds, q']
theorem Ara.new {ka : ClassId} {z : Int32} (A : Arr Z h a (newA ka ty z) ty) : Ara Z h a ty z.toInt.toNat (fun _ => defaultValue ty) := by
  refine ⟨_, A, sz_new _ _ _, fun i hi => ?_⟩
  have q : i < z.toNatClampNeg := hi
  simp [newA, q]
theorem own_in {j : Int32} {cl : Cell} (r : cl.slots.size = N) (q : 0 ≤ j.toInt ∧ j.toInt < N) : ¬ (j < 0 ∨ cl.slots.size ≤ j.toNatClampNeg) := by
  rw [r, Int32.lt_iff_toInt_lt]
  show ¬ (j.toInt < 0 ∨ N ≤ j.toInt.toNat)
  omega
theorem own_ix {j : Int32} (q : 0 ≤ j.toInt ∧ j.toInt < N) : j.toInt.toNat < N := by omega
theorem Ara.len (A : Ara Z h a ty N F) : ∃ cl, Arr Z h a cl ty ∧ cl.slots.size = N := by obtain ⟨c, q, r, -⟩ := A; exact ⟨c, q, r⟩
theorem G.arrlen (C : Cx p s m meth c Z y bytes maxL ret) (A : Ara Z h a ty N F) {z : Int32} (hz : z.toInt = N) (hd : decode bytes pc = .ok (.arraylength, 1)) (hp : pc + 1 = pc') (nx : G p l e R s m args below meth c n0 P h k n (mkF m pc' Ls (.int z :: S))) : G p l e R s m args below meth c n0 P h k n (mkF m pc Ls (.ref a :: S)) := by
  obtain ⟨cl, A, r, -⟩ := A
  have q0 : ¬ z < 0 := by rw [Int32.lt_iff_toInt_lt, hz]; show ¬ ((N : Int) < 0); omega
  have q1 : cl.slots.size = z.toNatClampNeg := by rw [r]; show N = z.toInt.toNat; omega
  subst hp; exact G.pl (fun T locs X eT t q => X.arraylength C.1 (by rw [eT]; exact A.1) (State.isArrayOf_alike C.2.1.alike A.2.1) (g := mkF m pc Ls (.ref a :: S)) rfl rfl (hb C.2.2.1 hd) t (by rw [len_of q1 q0]; exact q)) nx
theorem G.caload (C : Cx p s m meth c Z y bytes maxL ret) (A : Ara Z h a .char N F) {j : Int32} (q : 0 ≤ j.toInt ∧ j.toInt < N) (hd : decode bytes pc = .ok (.caload, 1)) (hp : pc + 1 = pc') (nx : G p l e R s m args below meth c n0 P h k n (mkF m pc' Ls (F j.toInt.toNat :: S))) : G p l e R s m args below meth c n0 P h k n (mkF m pc Ls (.int j :: .ref a :: S)) := by
  obtain ⟨cl, A, r1, r2⟩ := A
  subst hp; exact G.pl (fun T locs X eT t z => X.caload C.1 (j := j) (v := F j.toInt.toNat) (by rw [eT]; exact A.1) (State.isArrayOf_alike C.2.1.alike A.2.1) A.2.2 (own_in r1 q) (r2 _ (own_ix q)) (g := mkF m pc Ls (.int j :: .ref a :: S)) rfl rfl (hb C.2.2.1 hd) _ z) nx
theorem G.laload (C : Cx p s m meth c Z y bytes maxL ret) (A : Ara Z h a .long N F) {j : Int32} (q : 0 ≤ j.toInt ∧ j.toInt < N) (hd : decode bytes pc = .ok (.laload, 1)) (hp : pc + 1 = pc') (nx : G p l e R s m args below meth c n0 P h k n (mkF m pc' Ls (F j.toInt.toNat :: S))) : G p l e R s m args below meth c n0 P h k n (mkF m pc Ls (.int j :: .ref a :: S)) := by
  obtain ⟨cl, A, r1, r2⟩ := A
  subst hp; exact G.pl (fun T locs X eT t z => X.laload C.1 (j := j) (v := F j.toInt.toNat) (by rw [eT]; exact A.1) (State.isArrayOf_alike C.2.1.alike A.2.1) A.2.2 (own_in r1 q) (r2 _ (own_ix q)) (g := mkF m pc Ls (.int j :: .ref a :: S)) rfl rfl (hb C.2.2.1 hd) _ z) nx
theorem G.baloadB (C : Cx p s m meth c Z y bytes maxL ret) (A : Ara Z h a .byte N F) {j : Int32} (q : 0 ≤ j.toInt ∧ j.toInt < N) (hd : decode bytes pc = .ok (.baload, 1)) (hp : pc + 1 = pc') (nx : G p l e R s m args below meth c n0 P h k n (mkF m pc' Ls (F j.toInt.toNat :: S))) : G p l e R s m args below meth c n0 P h k n (mkF m pc Ls (.int j :: .ref a :: S)) := by
  obtain ⟨cl, A, r1, r2⟩ := A
  subst hp; exact G.pl (fun T locs X eT t z => X.baloadBytes C.1 (j := j) (v := F j.toInt.toNat) (by rw [eT]; exact A.1) (State.isArrayOf_alike C.2.1.alike A.2.1) A.2.2 (own_in r1 q) (r2 _ (own_ix q)) (g := mkF m pc Ls (.int j :: .ref a :: S)) rfl rfl (hb C.2.2.1 hd) _ z) nx
theorem G.baloadZ (C : Cx p s m meth c Z y bytes maxL ret) (A : Ara Z h a .boolean N F) {j : Int32} (q : 0 ≤ j.toInt ∧ j.toInt < N) (hd : decode bytes pc = .ok (.baload, 1)) (hp : pc + 1 = pc') (nx : G p l e R s m args below meth c n0 P h k n (mkF m pc' Ls (F j.toInt.toNat :: S))) : G p l e R s m args below meth c n0 P h k n (mkF m pc Ls (.int j :: .ref a :: S)) := by
  obtain ⟨cl, A, r1, r2⟩ := A
  subst hp; exact G.pl (fun T locs X eT t z => X.baloadBooleans C.1 (j := j) (v := F j.toInt.toNat) (by rw [eT]; exact A.1) (State.isArrayOf_alike C.2.1.alike A.2.1) A.2.2 (own_in r1 q) (r2 _ (own_ix q)) (g := mkF m pc Ls (.int j :: .ref a :: S)) rfl rfl (hb C.2.2.1 hd) _ z) nx
theorem G.aaload (C : Cx p s m meth c Z y bytes maxL ret) {D : String} (A : Ara Z h a (.object D) N F) {j : Int32} (q : 0 ≤ j.toInt ∧ j.toInt < N) (hd : decode bytes pc = .ok (.aaload, 1)) (hp : pc + 1 = pc') (nx : G p l e R s m args below meth c n0 P h k n (mkF m pc' Ls (F j.toInt.toNat :: S))) : G p l e R s m args below meth c n0 P h k n (mkF m pc Ls (.int j :: .ref a :: S)) := by
  obtain ⟨cl, A, r1, r2⟩ := A
  subst hp; exact G.pl (fun T locs X eT t z => X.aaload C.1 (j := j) (v := F j.toInt.toNat) (by rw [eT]; exact A.1) (State.isArrayOf_alike C.2.1.alike A.2.1) rfl A.2.2 (own_in r1 q) (r2 _ (own_ix q)) (g := mkF m pc Ls (.int j :: .ref a :: S)) rfl rfl (hb C.2.2.1 hd) _ z) nx
theorem G.castore (C : Cx p s m meth c Z y bytes maxL ret) (A : Ara Z h a .char N F) {j x : Int32} (q : 0 ≤ j.toInt ∧ j.toInt < N) (ha : n0 ≤ a) (hd : decode bytes pc = .ok (.castore, 1)) (hp : pc + 1 = pc') (nx : ∀ h', Wr h h' a j.toInt.toNat (.int (nar .char x)) → G p l e R s m args below meth c n0 P h' k n (mkF m pc' Ls S)) : G p l e R s m args below meth c n0 P h k n (mkF m pc Ls (.int x :: .int j :: .ref a :: S)) := fun T locs X eT M => by
  obtain ⟨cl, A, r1, r2⟩ := A
  subst hp
  obtain ⟨T', h', X', e', W, st⟩ := Jvm.RoadKit.stC X C.1 C.2.1 eT A (j := j) (own_in r1 q) (g := mkF m pc Ls (.int x :: .int j :: .ref a :: S)) rfl rfl (hb C.2.2.1 hd)
  obtain ⟨s₂, o, h1, rr⟩ := nx h' W T' _ X' e' (Fr.snoc X' M ha)
  exact ⟨s₂, o, st _ h1, rr⟩
theorem G.lastore (C : Cx p s m meth c Z y bytes maxL ret) (A : Ara Z h a .long N F) {j : Int32} {x : Int64} (q : 0 ≤ j.toInt ∧ j.toInt < N) (ha : n0 ≤ a) (hd : decode bytes pc = .ok (.lastore, 1)) (hp : pc + 1 = pc') (nx : ∀ h', Wr h h' a j.toInt.toNat (.long x) → G p l e R s m args below meth c n0 P h' k n (mkF m pc' Ls S)) : G p l e R s m args below meth c n0 P h k n (mkF m pc Ls (.long x :: .int j :: .ref a :: S)) := fun T locs X eT M => by
  obtain ⟨cl, A, r1, r2⟩ := A
  subst hp
  obtain ⟨T', h', X', e', W, st⟩ := Jvm.RoadKit.stJ X C.1 C.2.1 eT A (j := j) (own_in r1 q) (g := mkF m pc Ls (.long x :: .int j :: .ref a :: S)) rfl rfl (hb C.2.2.1 hd)
  obtain ⟨s₂, o, h1, rr⟩ := nx h' W T' _ X' e' (Fr.snoc X' M ha)
  exact ⟨s₂, o, st _ h1, rr⟩
theorem G.bastoreZ (C : Cx p s m meth c Z y bytes maxL ret) (A : Ara Z h a .boolean N F) {j x : Int32} (q : 0 ≤ j.toInt ∧ j.toInt < N) (ha : n0 ≤ a) (hd : decode bytes pc = .ok (.bastore, 1)) (hp : pc + 1 = pc') (nx : ∀ h', Wr h h' a j.toInt.toNat (.int (nar .boolean x)) → G p l e R s m args below meth c n0 P h' k n (mkF m pc' Ls S)) : G p l e R s m args below meth c n0 P h k n (mkF m pc Ls (.int x :: .int j :: .ref a :: S)) := fun T locs X eT M => by
  obtain ⟨cl, A, r1, r2⟩ := A
  subst hp
  obtain ⟨T', h', X', e', W, st⟩ := Jvm.RoadKit.stZ X C.1 C.2.1 eT A (j := j) (own_in r1 q) (g := mkF m pc Ls (.int x :: .int j :: .ref a :: S)) rfl rfl (hb C.2.2.1 hd)
  obtain ⟨s₂, o, h1, rr⟩ := nx h' W T' _ X' e' (Fr.snoc X' M ha)
  exact ⟨s₂, o, st _ h1, rr⟩
theorem G.bastoreB (C : Cx p s m meth c Z y bytes maxL ret) (A : Ara Z h a .byte N F) {j x : Int32} (q : 0 ≤ j.toInt ∧ j.toInt < N) (ha : n0 ≤ a) (hd : decode bytes pc = .ok (.bastore, 1)) (hp : pc + 1 = pc') (nx : ∀ h', Wr h h' a j.toInt.toNat (.int (nar .byte x)) → G p l e R s m args below meth c n0 P h' k n (mkF m pc' Ls S)) : G p l e R s m args below meth c n0 P h k n (mkF m pc Ls (.int x :: .int j :: .ref a :: S)) := fun T locs X eT M => by
  obtain ⟨cl, A, r1, r2⟩ := A
  subst hp
  obtain ⟨T', h', X', e', W, st⟩ := Jvm.RoadKit.stB X C.1 C.2.1 eT A (j := j) (own_in r1 q) (g := mkF m pc Ls (.int x :: .int j :: .ref a :: S)) rfl rfl (hb C.2.2.1 hd)
  obtain ⟨s₂, o, h1, rr⟩ := nx h' W T' _ X' e' (Fr.snoc X' M ha)
  exact ⟨s₂, o, st _ h1, rr⟩
theorem G.newarr (C : Cx p s m meth c Z y bytes maxL ret) {aty : ArrayType} (w : (Jvm.Cond.arrayClass (newarray.typeOf aty)).before a0 Z = true) {z : Int32} (hz : 0 ≤ z.toInt) {cap : Nat} (hcap : z.toInt ≤ cap) (hbg : cap * 8 ≤ 536870912) (hd : decode bytes pc = .ok (.newarray aty, 2)) (hk : k + 1 ≤ R.cells) (hn : n + cap ≤ R.slots) (hp : pc + 2 = pc')
    (nx : ∀ h' a, a = h.size → Ext h h' → Ara Z h' a (newarray.typeOf aty) z.toInt.toNat (fun _ => defaultValue (newarray.typeOf aty)) → G p l e R s m args below meth c n0 P h' (k + 1) (n + cap) (mkF m pc' Ls (.ref a :: S))) : G p l e R s m args below meth c n0 P h k n (mkF m pc Ls (.int z :: S)) := fun T locs X eT M => by
  subst hp
  have q0 : ¬ z < 0 := by rw [Int32.lt_iff_toInt_lt]; show ¬ z.toInt < 0; omega
  obtain ⟨T', h', ka, X', e', E, A, st⟩ := Jvm.RoadKit.newP X C.1 C.2.1 w eT (g := mkF m pc Ls (.int z :: S)) rfl (hb C.2.2.1 hd) rfl q0 (cap := cap) (by show z.toInt.toNat ≤ cap; omega) hbg hk hn
  obtain ⟨s₂, o, h1, rr⟩ := nx h' _ rfl E (Ara.new A) T' _ X' e' M
  exact ⟨s₂, o, st _ h1, rr⟩
end Arrays
theorem G.instY (C : Cx p s m meth c Z y bytes maxL ret) {ix : Nat} {K : String} {a : Addr} (w : (Jvm.Cond.classLink y.cls ix K).before a0 Z = true) (I : Ins Z h a K true) (hd : decode bytes pc = .ok (.instanceof ix, 3)) (hp : pc + 3 = pc') (nx : G p l e R s m args below meth c n0 P h k n (mkF m pc' Ls (.int 1 :: S))) : G p l e R s m args below meth c n0 P h k n (mkF m pc Ls (.ref a :: S)) := by
  subst hp; exact G.mv (fun T locs X eT => Jvm.RoadKit.instY X C.1 C.2.1 C.2.2.2.2.1 w eT I (g := mkF m pc Ls (.ref a :: S)) rfl rfl (hb C.2.2.1 hd)) nx
theorem G.instN (C : Cx p s m meth c Z y bytes maxL ret) {ix : Nat} {K D : String} {a : Addr} (w : (Jvm.Cond.classLink y.cls ix K).before a0 Z = true) (I : Ins Z h a K false) (E : Exa Z h a D) (hd : decode bytes pc = .ok (.instanceof ix, 3)) (hp : pc + 3 = pc') (nx : G p l e R s m args below meth c n0 P h k n (mkF m pc' Ls (.int 0 :: S))) : G p l e R s m args below meth c n0 P h k n (mkF m pc Ls (.ref a :: S)) := by
  subst hp
  refine G.mv (fun T locs X eT => ?_) nx
  obtain ⟨cell, cT, h1, h2, h3⟩ := I
  obtain ⟨cell', kk, e1, -, e3, e4, -⟩ := E
  cases h1.symm.trans e1
  obtain ⟨k', q, -⟩ := C.2.1.alike.2.2 _ _ e3
  obtain ⟨vm', X', st⟩ := Jvm.Sym.instanceofNoAt X C.1 C.2.2.2.2.1 (Jvm.RoadKit.mv C.2.1 w) (by rw [eT]; exact h1) e4 q (by rw [C.2.1.alike.findClass]; exact h2) (by rw [C.2.1.alike.assignable]; simpa [e4] using h3) (g := mkF m pc Ls (.ref a :: S)) rfl rfl (hb C.2.2.1 hd)
  exact ⟨_, X', eT, st⟩
theorem G.instNull (C : Cx p s m meth c Z y bytes maxL ret) {ix : Nat} (hd : decode bytes pc = .ok (.instanceof ix, 3)) (hp : pc + 3 = pc') (nx : G p l e R s m args below meth c n0 P h k n (mkF m pc' Ls (.int 0 :: S))) : G p l e R s m args below meth c n0 P h k n (mkF m pc Ls (.null :: S)) := by
  subst hp; exact G.pl (fun T locs X eT t q => X.instanceofNull C.1 (g := mkF m pc Ls (.null :: S)) rfl rfl (hb C.2.2.1 hd) _ q) nx
theorem G.castY (C : Cx p s m meth c Z y bytes maxL ret) {ix : Nat} {K : String} {a : Addr} (w : (Jvm.Cond.classLink y.cls ix K).before a0 Z = true) (I : Ins Z h a K true) (hd : decode bytes pc = .ok (.checkcast ix, 3)) (hp : pc + 3 = pc') (nx : G p l e R s m args below meth c n0 P h k n (mkF m pc' Ls (.ref a :: S))) : G p l e R s m args below meth c n0 P h k n (mkF m pc Ls (.ref a :: S)) := by
  subst hp; exact G.mv (fun T locs X eT => Jvm.RoadKit.castY X C.1 C.2.1 C.2.2.2.2.1 w eT I (g := mkF m pc Ls (.ref a :: S)) rfl rfl (hb C.2.2.1 hd)) nx
theorem own_notsub {vm : Vm} {t : ClassId} : ∀ (fuel : Nat) (c : ClassId) (L : List ClassId), (∀ x ∈ c :: L, x ≠ t) → (match L with | [] => ∃ k, vm.classes[c]? = some k ∧ k.super = none | p :: _ => ∃ k, vm.classes[c]? = some k ∧ k.super = some p) → (∀ i (hi : i + 1 < L.length), ∃ k, vm.classes[L[i]]? = some k ∧ k.super = some L[i + 1]) → (∀ q, L.getLast? = some q → ∃ k, vm.classes[q]? = some k ∧ k.super = none) → vm.isSubclassAux fuel c t = false
  | 0, c, L, _, _, _, _ => rfl
  | fuel + 1, c, [], h1, h2, _, _ => by
    obtain ⟨k, e1, e2⟩ := h2
    simp [Vm.isSubclassAux, e1, e2, h1 c (List.mem_cons_self ..)]
  | fuel + 1, c, p :: L, h1, h2, h3, h4 => by
    obtain ⟨k, e1, e2⟩ := h2
    have ih := own_notsub (vm := vm) (t := t) fuel p L (fun x hx => h1 x (List.mem_cons_of_mem _ hx)) (by
      cases L with
      | nil => exact h4 p rfl
      | cons q L => exact h3 0 (by simp)) (fun i hi => h3 (i + 1) (by simpa using hi)) (fun q hq => h4 q (by
        cases L with
        | nil => simp at hq
        | cons z L => simpa using hq))
    simp [Vm.isSubclassAux, e1, e2, h1 c (List.mem_cons_self ..), ih]
/-- a class of three (itself, its superclass, Object) is no subclass of another, plain one -/
theorem Ins.no3 {D D2 K : String} {a : Addr} {kk : Nat} (E : Exa Z h a D) (w1 : (Jvm.Cond.superclass D D2).before a0 Z = true) (w2 : (Jvm.Cond.superclass D2 "java/lang/Object").before a0 Z = true) (w3 : (Jvm.Cond.noSuperclass "java/lang/Object").before a0 Z = true) (w4 : (Jvm.Cond.instantiable K kk).before a0 Z = true) (h1 : D ≠ K) (h2 : D2 ≠ K) (h3 : "java/lang/Object" ≠ K) : Ins Z h a K false := by
  obtain ⟨cell, k0, e1, e2, e3, e4, -⟩ := E
  obtain ⟨cT, kT, i1, i2, i3, i4, i5⟩ := Cond.instantiable_spec w4
  obtain ⟨p1, k1, kp1, a1, a2, a3, a4, a5, a6, a7⟩ := Cond.superclass_spec e2 w1
  obtain ⟨p2, k2, kp2, b1, b2, b3, b4, b5, b6, b7⟩ := Cond.superclass_spec a1 w2
  obtain ⟨c3, k3, d1, d2, d3, d4, d5⟩ := Cond.noSuperclass_spec w3
  cases b1.symm.trans d1
  have nm : ∀ {A B : String} {c : ClassId}, Z.vm.findClass A = some c → Z.vm.findClass B = some c → A = B := fun ha hb => by
    obtain ⟨k, q1, q2⟩ := Vm.findClass_spec ha
    obtain ⟨k', r1, r2⟩ := Vm.findClass_spec hb
    cases q1.symm.trans r1
    exact q2.symm.trans r2
  cases a2.symm.trans e3
  have n1 : cell.cls ≠ cT := fun q => h1 (nm e2 (q ▸ i1))
  have n2 : p1 ≠ cT := fun q => h2 (nm a1 (q ▸ i1))
  have n3 : p2 ≠ cT := fun q => h3 (nm b1 (q ▸ i1))
  have hs : Z.vm.isSubclass cell.cls cT = false := own_notsub _ _ [p1, p2] (by
    intro x hx
    simp only [List.mem_cons, List.not_mem_nil, or_false] at hx
    rcases hx with rfl | rfl | rfl
    · exact n1
    · exact n2
    · exact n3) ⟨_, a2, a4⟩ (fun i hi => by
      have : i = 0 := by simp at hi; omega
      subst this
      exact ⟨_, b2, b4⟩) (fun q hq => by
      have : q = p2 := by simpa using hq.symm
      subst this
      exact ⟨_, d2, d3⟩)
  have ni : kT.isInterface = false := by
    cases z : kT.isInterface with
    | false => rfl
    | true => simp [z] at i4
  refine ⟨cell, cT, e1, i1, ?_⟩
  rw [e4]
  show (true && Z.vm.assignable cell.cls cT) = false
  simp [Vm.assignable, Vm.assignableAux, n1, a2, i2, a5, i3, ni, hs]
end Own
theorem pd0 : parseMethodDescriptor "(I)Ljava/lang/String;" = some ⟨[.int], some (.object "java/lang/String")⟩ := by decide +kernel
theorem pd1 : parseMethodDescriptor "([C)V" = some ⟨[(.array .char)], none⟩ := by decide +kernel
theorem pd2 : parseMethodDescriptor "([CIILjava/lang/Void;)V" = some ⟨[(.array .char), .int, .int, (.object "java/lang/Void")], none⟩ := by decide +kernel
theorem pd3 : parseMethodDescriptor "()V" = some ⟨[], none⟩ := by decide +kernel
theorem pd4 : parseMethodDescriptor "([CII)[B" = some ⟨[(.array .char), .int, .int], some (.array .byte)⟩ := by decide +kernel
theorem pd5 : parseMethodDescriptor "([CI[BII)I" = some ⟨[(.array .char), .int, (.array .byte), .int, .int], some .int⟩ := by decide +kernel
theorem pd6 : parseMethodDescriptor "([BI)B" = some ⟨[(.array .byte), .int], some .byte⟩ := by decide +kernel
theorem pd7 : parseMethodDescriptor "(Ljava/lang/String;Ljava/lang/String;)Z" = some ⟨[(.object "java/lang/String"), (.object "java/lang/String")], some .boolean⟩ := by decide +kernel
theorem pd8 : parseMethodDescriptor "()I" = some ⟨[], some .int⟩ := by decide +kernel
theorem pd9 : parseMethodDescriptor "()B" = some ⟨[], some .byte⟩ := by decide +kernel
theorem pd10 : parseMethodDescriptor "(Ljava/lang/String;I)V" = some ⟨[(.object "java/lang/String"), .int], none⟩ := by decide +kernel
theorem pd11 : parseMethodDescriptor "(Ljava/lang/Object;)Z" = some ⟨[(.object "java/lang/Object")], some .boolean⟩ := by decide +kernel
theorem pd12 : parseMethodDescriptor "([B[B)Z" = some ⟨[(.array .byte), (.array .byte)], some .boolean⟩ := by decide +kernel
theorem pd13 : parseMethodDescriptor "(I)C" = some ⟨[.int], some .char⟩ := by decide +kernel
theorem pd14 : parseMethodDescriptor "()Z" = some ⟨[], some .boolean⟩ := by decide +kernel
theorem pd15 : parseMethodDescriptor "([BI)C" = some ⟨[(.array .byte), .int], some .char⟩ := by decide +kernel
theorem pd16 : parseMethodDescriptor "(II)V" = some ⟨[.int, .int], none⟩ := by decide +kernel
theorem pd17 : parseMethodDescriptor "(IILjava/util/function/BiFunction;)I" = some ⟨[.int, .int, (.object "java/util/function/BiFunction")], some .int⟩ := by decide +kernel
theorem pd18 : parseMethodDescriptor "(C)Ljava/lang/String;" = some ⟨[.char], some (.object "java/lang/String")⟩ := by decide +kernel
theorem pd19 : parseMethodDescriptor "(C)Z" = some ⟨[.char], some .boolean⟩ := by decide +kernel
theorem pd20 : parseMethodDescriptor "(C)[B" = some ⟨[.char], some (.array .byte)⟩ := by decide +kernel
theorem pd21 : parseMethodDescriptor "([BB)V" = some ⟨[(.array .byte), .byte], none⟩ := by decide +kernel
def own_SV (Z : State) (h : Heap) (a : Addr) (v0 v1 : Value) : Prop := Exa Z h a "java/lang/String" ∧ Fld Z h a "java/lang/String" "value" "[B" v0 ∧ Fld Z h a "java/lang/String" "coder" "B" v1
theorem own_SV.ext {Z : State} {h h' : Heap} {a : Addr} {v0 v1 : Value} (F : own_SV Z h a v0 v1) (E : Ext h h') : own_SV Z h' a v0 v1 := ⟨Exa.ext E F.1, Fld.ext E F.2.1, Fld.ext E F.2.2⟩
theorem own_SV.keep {Z : State} {h h' : Heap} {a : Addr} {v0 v1 : Value} {ws : List Addr} (F : own_SV Z h a v0 v1) (K : Kp h h' ws) (q : a ∉ ws) : own_SV Z h' a v0 v1 := ⟨Exa.keep F.1 K.1, Fld.keep F.2.1 K.1 q, Fld.keep F.2.2 K.1 q⟩
theorem own_SV.oth {Z : State} {h h' : Heap} {a b : Addr} {v0 v1 : Value} {sl : Nat} {u : Value} (F : own_SV Z h a v0 v1) (W : Wr h h' b sl u) (q : a ≠ b) : own_SV Z h' a v0 v1 := ⟨Exa.wr W F.1, Fld.other W F.2.1 (Or.inl q), Fld.other W F.2.2 (Or.inl q)⟩
theorem own_SV.w0 {Z : State} {a0 : Array Value} {h h' : Heap} {a : Addr} {v0 v1 : Value} {u : Value} (hw : ∀ d ∈ tables_1, d.before a0 Z = true) (F : own_SV Z h a v0 v1) (W : Wr h h' a (Jvm.RoadKit.slotOf Z "java/lang/String" "value" "[B") u) : own_SV Z h' a u v1 := ⟨Exa.wr W F.1, Fld.same W F.2.1, Fld.other W F.2.2 (Or.inr (slot_ne (C := "java/lang/String") (Or.inr (twd hw 21 rfl)) (Or.inr (twd hw 20 rfl)) (by decide) (t := .byte) (t' := (.array .byte)) (by decide) (by decide)))⟩
theorem own_SV.w1 {Z : State} {a0 : Array Value} {h h' : Heap} {a : Addr} {v0 v1 : Value} {u : Value} (hw : ∀ d ∈ tables_1, d.before a0 Z = true) (F : own_SV Z h a v0 v1) (W : Wr h h' a (Jvm.RoadKit.slotOf Z "java/lang/String" "coder" "B") u) : own_SV Z h' a v0 u := ⟨Exa.wr W F.1, Fld.other W F.2.1 (Or.inr (slot_ne (C := "java/lang/String") (Or.inr (twd hw 20 rfl)) (Or.inr (twd hw 21 rfl)) (by decide) (t := (.array .byte)) (t' := .byte) (by decide) (by decide))), Fld.same W F.2.2⟩
theorem own_SV.new {Z : State} {a0 : Array Value} {h : Heap} {a : Addr} (hw : ∀ d ∈ tables_1, d.before a0 Z = true) (E : Exa Z h a "java/lang/String") (D : ∀ {O nm d : String} {ty : FieldType}, Laid Z a0 "java/lang/String" O nm d → parseFieldDescriptor d = some ty → Fld Z h a O nm d (defaultValue ty)) : own_SV Z h a .null (.int 0) := ⟨E, D (Or.inr (twd hw 20 rfl)) (ty := (.array .byte)) (by decide), D (Or.inr (twd hw 21 rfl)) (ty := .byte) (by decide)⟩
section
variable {p : Program} {l : Launch} {e : Env} {R : Room} {s : State} {m : MethodId} {args : Array Value} {below : List Frame} {meth : Method} {c : Code} {Z : State} {a0 : Array Value} {y : MethodName} {bytes : ByteArray} {maxL : Nat} {ret : Option FieldType} {Q : Option Value → Heap → Prop} {P : Option Value → State → Prop} {n0 : Nat} {h : Heap} {k n : Nat} {f f' : JFrame} {pc pc' pt : Nat} {Ls : Array Slot} {S : List Value}
variable {EL : List (String × Nat)} {Q' : Option Value → State → Prop}
/-- as Q' says of the end, within the room, seen from s; constants may have been interned -/
def We (s : State) (R : Room) (n0 : Nat) (Q' : Option Value → State → Prop) : Option Value → State → Prop := fun v t => Q' v t ∧ ∃ L, Fr n0 L ∧ ReturnedEndW s (.returned v) t L R.cells R.slots
theorem G.narrowE {Qn : Option Value → Heap → Prop} (hq : ∀ v (t : State), Qn v t.heap → s.WarmedH t.vm → Q' v t) (nx : G p l e R s m args below meth c n0 (Wst s R n0 Qn) h k n f) : G p l e R s m args below meth c n0 (We s R n0 Q') h k n f := G.imp nx fun v t q => by
  obtain ⟨h1, L, h2, h3⟩ := q
  exact ⟨hq _ _ h1 h3.2.1, L, h2, ReturnedEndW.of_narrow h3.1 h3.2.1 h3.2.2⟩
/-- the contract of a method that may intern: the invariant of the held constants goes on -/
def ConH (l : Launch) (Z : State) (EL : List (String × Nat)) (y : MethodName) (bytes : ByteArray) (maxL : Nat) (ret : Option FieldType) (R : Room) (av : Array Value) (h : Heap) (n0 : Nat) (Q : Option Value → Heap → Prop) : Prop :=
  ∀ ws : List Jvm.Cond, MetFree l y (head1 (Jvm.Cond.code y bytes maxL ret :: ws) R) (fun a U => a = av ∧ Z.Warmed39 U.vm ∧ U.heap = h ∧ CHv Z EL U.vm h) (fun _ _ _ _ _ => True) (fun _ U o U' => ∃ v L, o = .returned v ∧ (Q v U'.heap ∧ Fr n0 L) ∧ CHr Z EL U.vm U.heap U'.vm U'.heap ∧ ReturnedEndW U o U' L R.cells R.slots)
theorem ConH.of {av : Array Value} (hy : plainFor y = true) (ef : ∀ m, entryFrame m av maxL = mkF m 0 Ls [])
    (body : ∀ p e s m below meth c, CHv Z EL s.vm h → Cx p s m meth c Z y bytes maxL ret → G p l e R s m av below meth c n0 (We s R n0 (fun v t => Q v t.heap ∧ CHr Z EL s.vm h t.vm t.heap)) h 0 0 (mkF m 0 Ls [])) : ConH l Z EL y bytes maxL ret R av h n0 Q := by
  intro ws
  refine MetFree.of_bodySF hy hisR ?_
  intro p e s m args below meth c s₁ Bd hml0 hP hK
  obtain ⟨rfl, hZ, hh, hc⟩ := hP
  have X0 : Stand p l e R s m _ below meth c s₁ [] 0 0 := Stand.of_body Bd
  have e0 : s₁.heap = h := by rw [← hh, Bd.state]; rfl
  obtain ⟨s₂, v, h1, h2, h3, ⟨h4, h4'⟩, L, h5, h6⟩ := body p e s m below meth c hc ⟨Bd.exec, hZ, Bd.bytes, hml0, findClass_of_methodNamed Bd.named, (name_of_methodNamed Bd.named Bd.method).1, Bd.returns, Bd.notSynchronized⟩ s₁ [] X0 e0 (Fr.nil n0)
  exact ⟨s₂, _, castTop (ef m) h1, h2, h3, v, L, rfl, ⟨h4, h5⟩, by rw [hh]; exact h4', h6⟩
/-- the contract of a law whose road may intern, from the start itself -/
def ConZ (l : Launch) (Z : State) (y : MethodName) (bytes : ByteArray) (maxL : Nat) (ret : Option FieldType) (R : Room) (av : Array Value) (h : Heap) (n0 : Nat) (Q : Option Value → Heap → Prop) : Prop :=
  ∀ ws : List Jvm.Cond, MetFree l y (head1 (Jvm.Cond.code y bytes maxL ret :: ws) R) (fun a U => a = av ∧ U = Z ∧ Z.heap = h) (fun _ _ _ _ _ => True) (fun _ U o U' => ∃ v L, o = .returned v ∧ (Q v U'.heap ∧ Fr n0 L) ∧ ReturnedEndW U o U' L R.cells R.slots)
theorem ConZ.of {av : Array Value} (hy : plainFor y = true) (ef : ∀ m, entryFrame m av maxL = mkF m 0 Ls [])
    (body : ∀ p e s m below meth c, s = Z → Z.heap = h → Cx p s m meth c Z y bytes maxL ret → G p l e R s m av below meth c n0 (We s R n0 (fun v t => Q v t.heap)) h 0 0 (mkF m 0 Ls [])) : ConZ l Z y bytes maxL ret R av h n0 Q := by
  intro ws
  refine MetFree.of_bodySF hy hisR ?_
  intro p e s m args below meth c s₁ Bd hml0 hP hK
  obtain ⟨rfl, hs, hh⟩ := hP
  have X0 : Stand p l e R s m _ below meth c s₁ [] 0 0 := Stand.of_body Bd
  have e0 : s₁.heap = h := by rw [← hh, ← hs, Bd.state]; rfl
  obtain ⟨s₂, v, h1, h2, h3, h4, L, h5, h6⟩ := body p e s m below meth c hs hh ⟨Bd.exec, hs ▸ State.Warmed39.refl s, Bd.bytes, hml0, findClass_of_methodNamed Bd.named, (name_of_methodNamed Bd.named Bd.method).1, Bd.returns, Bd.notSynchronized⟩ s₁ [] X0 e0 (Fr.nil n0)
  exact ⟨s₂, _, castTop (ef m) h1, h2, h3, v, L, rfl, ⟨h4, h5⟩, h6⟩
/-- what is said of the end from a later table, said from the earlier one -/
theorem own_rebase {vm1 : Vm} {k1 : Nat} {h' : Heap} {v : Option Value} {t : State} (hS : s.Since vm1 k1) (hk1 : k1 ≤ h'.size) (q : We (s.setVm vm1) R n0 (fun v t => Q' v t ∧ h'.size ≤ t.heap.size) v t) : We s R n0 Q' v t := by
  obtain ⟨⟨q1, q2⟩, L, q3, q4, r1, r2, r3⟩ := q
  have z := hS.trans ⟨r1, r2⟩ (Nat.le_trans hk1 q2)
  exact ⟨q1, L, q3, q4, z.1, z.2, State.sameButNew.setVm r3 s.vm⟩
theorem own_chw (C : Cx p s m meth c Z y bytes maxL ret) (hEL : EW Z a0 EL) {z : Heap} (H : CHv Z EL s.vm z) {t : State} (w : s.WarmedH t.vm) : CHr Z EL s.vm z t.vm z := by
  have q := CHv.later (h' := z) C.2.1 (hW := (show (Jvm.RoadKit.Wst Z s.vm z).Warmed39 t.vm from w.wide)) hEL ⟨Nat.le_refl _, fun _ _ q => q⟩ (Or.inl w.interned_eq) H
  exact ⟨q.1, Nat.le_refl _, q.2⟩
theorem own_mapD (L : List Int32) (i : Nat) : (L.map Value.int).getD i (.int 0) = .int (L.getD i 0) := by
  rw [List.getD_eq_getElem?_getD, List.getD_eq_getElem?_getD, List.getElem?_map]
  cases L[i]? <;> rfl
def own_tab (L : List Int32) : Nat → Value := fun i => .int (L.getD i 0)
/-- ldc of a held text: her bytes are the text's -/
theorem G.ldcH (C : Cx p s m meth c Z y bytes maxL ret) (hEL : EW Z a0 EL) (H : CHv Z EL s.vm h) {ix nn : Nat} {text : String} {L : List Int32} {z : Int32} (hmem : (y.cls, ix) ∈ EL) (w : (Jvm.Cond.stringLink y.cls ix text).before a0 Z = true) (hS : ∀ a ∈ Bundle.stringAtoms, a.before a0 Z = true)
    (ht : (∀ c ∈ text.toList, c.toNat < 256) ∧ text.toList.map (fun c => Value.int (Jvm.Lit.byteI c.toNat.toUInt16)) = L.map Value.int) (hz : z.toInt = L.length) (hd : decode bytes pc = .ok (.ldc ix, 2)) (hn4 : 4 * text.toList.length ≤ nn) (hbig : nn ≤ 536870912) (hk : k + 2 ≤ R.cells) (hn : n + (nn + 4) ≤ R.slots) (hp : pc + 2 = pc')
    (nx : ∀ (vm1 : Vm) (h' : Heap) (a b : Addr), Ext h h' → Cx p (s.setVm vm1) m meth c Z y bytes maxL ret → Exa Z h' a "java/lang/String" → Fld Z h' a "java/lang/String" "value" "[B" (.ref b) → Fld Z h' a "java/lang/String" "coder" "B" (.int 0) → Ara Z h' b .byte L.length (own_tab L) → CHr Z EL s.vm h vm1 h' → (∀ x, Safe Z EL vm1 h' x → x ≠ a ∧ x ≠ b) →
      G p l e R (s.setVm vm1) m args below meth c n0 (We (s.setVm vm1) R n0 (fun v t => Q' v t ∧ h'.size ≤ t.heap.size)) h' (k + 2) (n + (nn + 4)) (mkF m pc' Ls (.ref a :: S))) : G p l e R s m args below meth c n0 (We s R n0 Q') h k n (mkF m pc Ls S) := fun T locs X eT N => by
  subst hp
  have X1 : Stand p l e R (s.setVm s.vm) m args below meth c T locs k n := by rw [State.setVm_self]; exact X
  have hz0 : ¬ z < 0 := by rw [Int32.lt_iff_toInt_lt, hz]; show ¬ ((L.length : Int) < 0); omega
  have hzl : z.toNatClampNeg = (L.map Value.int).length := by show z.toInt.toNat = _; rw [hz, List.length_map]; rfl
  obtain ⟨a, T', h', k1, b, kc, X', eT', E, hS', hk1, hW', hf', hExa, hFc, hFv, hA, -, -, hC, -, hSf, st⟩ := Jvm.RoadKit.ldcCH (Z := Z) X1 C.1 C.2.1 C.2.2.2.2.1 w hS eT ((State.WarmedH.refl s).since 0) (Nat.zero_le _) hEL hmem H ht hz0 hzl (g := mkF m pc Ls S) rfl (hb C.2.2.1 hd) hn4 hbig hk hn
  have C' : Cx p (s.setVm T'.vm) m meth c Z y bytes maxL ret := ⟨C.1, hW', C.2.2.1, C.2.2.2.1, hf', C.2.2.2.2.2⟩
  have O : Ara Z h' b .byte L.length (own_tab L) := by
    obtain ⟨cl, A, -, sz, -, H, -⟩ := hA
    have sz2 : cl.slots.size = L.length := by rw [sz, hzl, List.length_map]
    exact ⟨cl, A, sz2, fun i hi => by rw [H i (by omega), own_mapD]; rfl⟩
  obtain ⟨s₂, v, h1, h2, h3, hq⟩ := nx T'.vm h' a b E C' hExa hFv hFc O hC hSf T' locs X' eT' N
  exact ⟨s₂, v, st _ h1, h2, h3, own_rebase hS' hk1 hq⟩
theorem G.callSH (C : Cx p s m meth c Z y bytes maxL ret) (hEL : EW Z a0 EL) (H : CHv Z EL s.vm h) {z : MethodName} {zb : ByteArray} {zl : Nat} {zr : Option FieldType} {Rz : Room} {av : List Value} {Qz : Option Value → Heap → Prop} {ix W : Nat} {ps : List FieldType} {r : Option FieldType} {St : List Value}
    (w1 : (Jvm.Cond.methodLink y.cls ix z).before a0 Z = true) (w2 : (Jvm.Cond.static z).before a0 Z = true) (w3 : (Jvm.Cond.initialized z.cls).before a0 Z = true) (w4 : (Jvm.Cond.code z zb zl zr).before a0 Z = true)
    (hz : z.cls ≠ "java/lang/invoke/MethodHandle" ∧ z.cls ≠ "java/lang/invoke/VarHandle") (K : ConH l Z EL z zb zl zr Rz av.toArray h n0 Qz) (hps : parseMethodDescriptor z.desc = some ⟨ps, r⟩) (hlen : av.length = ps.length) (hls : Ls.size = maxL)
    (hd : decode bytes pc = .ok (.invokestatic ix, 3)) (hst : St = av.reverse ++ S) (hW : (S.map fun v => v.category).sum ≤ W) (hf : Rz.frames + 1 ≤ R.frames) (hl : W + (zl + 11) + Rz.locals ≤ R.locals) (hk : k + Rz.cells ≤ R.cells) (hn : n + Rz.slots ≤ R.slots) (hp : pc + 3 = pc')
    (nx : ∀ v h' vm1, Qz v h' → CHr Z EL s.vm h vm1 h' → Cx p (s.setVm vm1) m meth c Z y bytes maxL ret → G p l e R (s.setVm vm1) m args below meth c n0 (We (s.setVm vm1) R n0 (fun v t => Q' v t ∧ h'.size ≤ t.heap.size)) h' (k + Rz.cells) (n + Rz.slots) (mkF m pc' Ls (v.toList ++ S))) : G p l e R s m args below meth c n0 (We s R n0 Q') h k n (mkF m pc Ls St) := fun T locs X eT N => by
  subst hp hst
  have B0 := backOfSH (p := p) (e := e) (below := below) (args := args) (s := s) (vm0 := s.vm) (R := R) (len := 3) (Q := fun v z L => Qz v z ∧ Fr n0 L) (W := W) (K []) C.2.1 w4 w3 hf hl hEL H
  rw [State.setVm_self] at B0
  obtain ⟨v, _, ⟨T', L', k', n'⟩, -, X', hS, hgr, ⟨Lc, hQ, l1, l2, l3, hC⟩, st⟩ := Jvm.RoadKit.callSS X C.1 (y := z) C.2.2.2.2.1 (mvT C.2.1 w1) (mvT C.2.1 w2) (mvT C.2.1 w3) (mvT C.2.1 w4) hz B0 (g := mkF m pc Ls (av.reverse ++ S)) rfl (by rw [C.2.2.2.1]; exact hls) (argsL := av) (rest := S) (lenOf hps hlen) rfl (cat_sum hW) (hb C.2.2.1 hd) (fun _ _ => ⟨rfl, eT, hk, hn⟩)
  dsimp only [Pt.U, Pt.locs, Pt.cells, Pt.slots] at X' l1 l2 l3 st hQ hS hgr hC
  subst l1 l2 l3
  have C' : Cx p (s.setVm T'.vm) m meth c Z y bytes maxL ret := ⟨C.1, State.Warmed39.trans (t := s) C.2.1 hS.1, C.2.2.1, C.2.2.2.1, by show T'.vm.findClass y.cls = _; rw [hS.1.alike.findClass]; exact C.2.2.2.2.1, C.2.2.2.2.2⟩
  obtain ⟨s₂, o, h1, h2, h3, rr⟩ := nx v T'.heap T'.vm hQ.1 hC C' T' _ X' rfl (Fr.app N hQ.2)
  exact ⟨s₂, o, st.trans h1, h2, h3, own_rebase hS (Nat.le_refl _) rr⟩
theorem G.callIH (C : Cx p s m meth c Z y bytes maxL ret) (hEL : EW Z a0 EL) (H : CHv Z EL s.vm h) {z : MethodName} {zb : ByteArray} {zl : Nat} {Rz : Room} {a : Addr} {av : List Value} {Qz : Option Value → Heap → Prop} {ix W : Nat} {ps : List FieldType} {r : Option FieldType} {St : List Value} (hz1 : z.name = "<init>")
    (w1 : (Jvm.Cond.methodLink y.cls ix z).before a0 Z = true) (w2 : (Jvm.Cond.instanceMethod z).before a0 Z = true) (w3 : (Jvm.Cond.initialized z.cls).before a0 Z = true) (w4 : (Jvm.Cond.code z zb zl none).before a0 Z = true)
    (hz : z.cls ≠ "java/lang/invoke/MethodHandle" ∧ z.cls ≠ "java/lang/invoke/VarHandle") (K : ConH l Z EL z zb zl none Rz (.ref a :: av).toArray h n0 Qz) (hps : parseMethodDescriptor z.desc = some ⟨ps, r⟩) (hlen : av.length = ps.length) (hls : Ls.size = maxL)
    (hd : decode bytes pc = .ok (.invokespecial ix, 3)) (hst : St = av.reverse ++ .ref a :: S) (hW : (S.map fun v => v.category).sum ≤ W) (hf : Rz.frames + 1 ≤ R.frames) (hl : W + (zl + 11) + Rz.locals ≤ R.locals) (hk : k + Rz.cells ≤ R.cells) (hn : n + Rz.slots ≤ R.slots) (hp : pc + 3 = pc')
    (nx : ∀ v h' vm1, Qz v h' → CHr Z EL s.vm h vm1 h' → Cx p (s.setVm vm1) m meth c Z y bytes maxL ret → G p l e R (s.setVm vm1) m args below meth c n0 (We (s.setVm vm1) R n0 (fun v t => Q' v t ∧ h'.size ≤ t.heap.size)) h' (k + Rz.cells) (n + Rz.slots) (mkF m pc' Ls (v.toList ++ S))) : G p l e R s m args below meth c n0 (We s R n0 Q') h k n (mkF m pc Ls St) := fun T locs X eT N => by
  subst hp hst
  have B0 := backOfSH (p := p) (e := e) (below := below) (args := args) (s := s) (vm0 := s.vm) (R := R) (len := 3) (Q := fun v z L => Qz v z ∧ Fr n0 L) (W := W) (K []) C.2.1 w4 w3 hf hl hEL H
  rw [State.setVm_self] at B0
  obtain ⟨v, _, ⟨T', L', k', n'⟩, -, X', hS, hgr, ⟨Lc, hQ, l1, l2, l3, hC⟩, st⟩ := X.specialBackS C.1 (y := z) hz1 C.2.2.2.2.1 (mvT C.2.1 w1) (mvT C.2.1 w2) (mvT C.2.1 w4) hz B0 (g := mkF m pc Ls (av.reverse ++ .ref a :: S)) rfl (by rw [C.2.2.2.1]; exact hls) (Steps.refl _) (a := a) (argsL := av) (rest := S) (lenOf hps hlen) rfl (cat_sum hW) (hb C.2.2.1 hd) (fun _ _ => ⟨rfl, eT, hk, hn⟩)
  dsimp only [Pt.U, Pt.locs, Pt.cells, Pt.slots] at X' l1 l2 l3 st hQ hS hgr hC
  subst l1 l2 l3
  have C' : Cx p (s.setVm T'.vm) m meth c Z y bytes maxL ret := ⟨C.1, State.Warmed39.trans (t := s) C.2.1 hS.1, C.2.2.1, C.2.2.2.1, by show T'.vm.findClass y.cls = _; rw [hS.1.alike.findClass]; exact C.2.2.2.2.1, C.2.2.2.2.2⟩
  obtain ⟨s₂, o, h1, h2, h3, rr⟩ := nx v T'.heap T'.vm hQ.1 hC C' T' _ X' rfl (Fr.app N hQ.2)
  exact ⟨s₂, o, st.trans h1, h2, h3, own_rebase hS (Nat.le_refl _) rr⟩
/-- a String whose value is still null is no held constant -/
theorem own_safe {vm : Vm} {x : Addr} (hal : Z.vm.Alike vm) (E : Exa Z h x "java/lang/String") (F : Fld Z h x "java/lang/String" "value" "[B" .null) : Safe Z EL vm h x := fun B => by
  obtain ⟨pp, -, u, a, -, q, -, Fq, rfl | rfl⟩ := B
  · obtain ⟨cS, ⟨⟨s1, s2, s3, ⟨cv, kv, iv, s4, s4'⟩, -, s6, s7, s8, -⟩, -, -⟩, -⟩ := Fq
    obtain ⟨kv', z4⟩ := ff_back (U := Jvm.RoadKit.Wst Z vm h) hal s4
    obtain ⟨cl, cf, kf, jf, ff, g1, g2, g3, g4, g5, g6, g7⟩ := F
    cases (show h[q.sa]? = some q.sC from s1).symm.trans g1
    cases z4.symm.trans g2
    have := g7.symm.trans s8
    cases this
  · obtain ⟨cl, k0, e1, e2, e3, e4, -⟩ := E
    obtain ⟨cS, ⟨⟨-, -, -, -, -, -, -, -, -, s10, ⟨-, kB, hkB, compB, hkindB⟩, -⟩, hfS, -⟩, ⟨kS, g1, g2, -⟩, -⟩ := Fq
    cases (show h[q.sd]? = some q.SA from s10).symm.trans e1
    have hf : vm.findClass "java/lang/String" = some q.SA.cls := by rw [hal.findClass]; exact e2
    cases (show vm.findClass "java/lang/String" = some cS from hfS).symm.trans hf
    cases (show vm.classes[q.SA.cls]? = some kS from g1).symm.trans (show vm.classes[q.SA.cls]? = some kB from hkB)
    rw [g2] at hkindB
    cases hkindB
end

/-- a Latin-1 string whose bytes are L -/
def own_S (Z : State) (h : Heap) (a va : Addr) (L : List Int32) : Prop := Exa Z h a "java/lang/String" ∧ Fld Z h a "java/lang/String" "value" "[B" (.ref va) ∧ Fld Z h a "java/lang/String" "coder" "B" (.int (0 : Int32)) ∧ Ara Z h va .byte L.length (own_tab L) ∧ L.length < 1000
theorem own_S.ext {Z : State} {h h' : Heap} {a va : Addr} {L : List Int32} (O : own_S Z h a va L) (E : Ext h h') : own_S Z h' a va L := ⟨Exa.ext E O.1, Fld.ext E O.2.1, Fld.ext E O.2.2.1, Ara.ext O.2.2.2.1 E, O.2.2.2.2⟩
theorem own_tset (L : List Int32) (j : Nat) (x : Int32) (hj : j < L.length) (q : Nat) : (if q = j then Value.int x else own_tab L q) = own_tab (L.set j x) q := by
  unfold own_tab
  rw [List.getD_eq_getElem?_getD, List.getD_eq_getElem?_getD, List.getElem?_set]
  by_cases e : q = j
  · subst e; simp [hj]
  · rw [if_neg e, if_neg (fun z => e z.symm)]
theorem own_t0 (n q : Nat) : Value.int 0 = own_tab (List.replicate n (0 : Int32)) q := by
  unfold own_tab
  rw [List.getD_eq_getElem?_getD, List.getElem?_replicate]
  split <;> rfl
theorem own_nb (x : Int32) : nar .byte (x.toInt8.toInt32) = x.toInt8.toInt32 := by
  apply Int32.toInt_inj.mp
  have a := c_i2b x
  have b := c_i2b x.toInt8.toInt32
  show (x.toInt8.toInt32.toInt8.toInt32).toInt = _
  omega
theorem own_nc {x : Int32} (h : 0 ≤ x.toInt ∧ x.toInt ≤ 255) : nar .char x = x := by
  apply Int32.toInt_inj.mp
  have b := c_i2c x
  show (x.toUInt32.toUInt16.toUInt32.toInt32).toInt = _
  omega
theorem own_le {x : Int32} (h : 0 ≤ x.toInt ∧ x.toInt ≤ 255) : ¬ (255 : Int32) < x := by
  rw [Int32.lt_iff_toInt_lt]; show ¬ ((255 : Int) < x.toInt); omega
theorem own_c8 (x : Int32) : 0 ≤ ((x &&& (255 : Int32)).toUInt32.toUInt16.toUInt32.toInt32).toInt ∧ ((x &&& (255 : Int32)).toUInt32.toUInt16.toUInt32.toInt32).toInt ≤ 255 := by
  have a := c_mask x 255 8 (by decide) (by decide)
  have b := c_i2c (x &&& (255 : Int32))
  omega
theorem own_sa {Z : State} {a0 : Array Value} (hw : ∀ d ∈ tables_1, d.before a0 Z = true) : ∀ a ∈ Bundle.stringAtoms, a.before a0 Z = true := by
  intro q hq
  simp only [Bundle.stringAtoms, List.mem_cons, List.not_mem_nil, or_false] at hq
  rcases hq with rfl | rfl | rfl | rfl | rfl | rfl | rfl
  · exact twd hw 6 rfl
  · exact twd hw 5 rfl
  · exact twd hw 19 rfl
  · exact twd hw 20 rfl
  · exact twd hw 21 rfl
  · exact twd hw 22 rfl
  · exact twd hw 23 rfl
def own_EL : List (String × Nat) := [("java/lang/String", 7)]
theorem own_hEL {Z : State} {a0 : Array Value} (hw : ∀ d ∈ tables_1, d.before a0 Z = true) : EW Z a0 own_EL := EW.cons (twd hw 18 rfl) (by decide) EW.nil
theorem d3_0 : decode jdk_42_method_149_code 0 = .ok (.aload_n 0, 1) := by decide +kernel
theorem d3_1 : decode jdk_42_method_149_code 1 = .ok (.invokespecial 1, 3) := by decide +kernel
theorem d3_4 : decode jdk_42_method_149_code 4 = .ok (.iload_n 3, 1) := by decide +kernel
theorem d3_5 : decode jdk_42_method_149_code 5 = .ok (.ifCond .ne 22, 3) := by decide +kernel
theorem d3_8 : decode jdk_42_method_149_code 8 = .ok (.aload_n 0, 1) := by decide +kernel
theorem d3_9 : decode jdk_42_method_149_code 9 = .ok (.ldc 7, 2) := by decide +kernel
theorem d3_11 : decode jdk_42_method_149_code 11 = .ok (.getfield 9, 3) := by decide +kernel
theorem d3_14 : decode jdk_42_method_149_code 14 = .ok (.putfield 9, 3) := by decide +kernel
theorem d3_17 : decode jdk_42_method_149_code 17 = .ok (.aload_n 0, 1) := by decide +kernel
theorem d3_18 : decode jdk_42_method_149_code 18 = .ok (.ldc 7, 2) := by decide +kernel
theorem d3_20 : decode jdk_42_method_149_code 20 = .ok (.getfield 15, 3) := by decide +kernel
theorem d3_23 : decode jdk_42_method_149_code 23 = .ok (.putfield 15, 3) := by decide +kernel
theorem d3_26 : decode jdk_42_method_149_code 26 = .ok (.return_, 1) := by decide +kernel
theorem d3_27 : decode jdk_42_method_149_code 27 = .ok (.getstatic 38, 3) := by decide +kernel
theorem d3_30 : decode jdk_42_method_149_code 30 = .ok (.ifCond .eq 28, 3) := by decide +kernel
theorem d3_33 : decode jdk_42_method_149_code 33 = .ok (.aload_n 1, 1) := by decide +kernel
theorem d3_34 : decode jdk_42_method_149_code 34 = .ok (.iload_n 2, 1) := by decide +kernel
theorem d3_35 : decode jdk_42_method_149_code 35 = .ok (.iload_n 3, 1) := by decide +kernel
theorem d3_36 : decode jdk_42_method_149_code 36 = .ok (.invokestatic 177, 3) := by decide +kernel
theorem d3_39 : decode jdk_42_method_149_code 39 = .ok (.astore 5, 2) := by decide +kernel
theorem d3_41 : decode jdk_42_method_149_code 41 = .ok (.aload_n 0, 1) := by decide +kernel
theorem d3_42 : decode jdk_42_method_149_code 42 = .ok (.aload 5, 2) := by decide +kernel
theorem d3_44 : decode jdk_42_method_149_code 44 = .ok (.iload_n 3, 1) := by decide +kernel
theorem d3_45 : decode jdk_42_method_149_code 45 = .ok (.invokestatic 47, 3) := by decide +kernel
theorem d3_48 : decode jdk_42_method_149_code 48 = .ok (.putfield 15, 3) := by decide +kernel
theorem d3_51 : decode jdk_42_method_149_code 51 = .ok (.aload_n 0, 1) := by decide +kernel
theorem d3_52 : decode jdk_42_method_149_code 52 = .ok (.aload 5, 2) := by decide +kernel
theorem d3_54 : decode jdk_42_method_149_code 54 = .ok (.putfield 9, 3) := by decide +kernel
theorem d3_57 : decode jdk_42_method_149_code 57 = .ok (.return_, 1) := by decide +kernel
theorem d3_58 : decode jdk_42_method_149_code 58 = .ok (.aload_n 0, 1) := by decide +kernel
theorem d3_59 : decode jdk_42_method_149_code 59 = .ok (.iconst 1, 1) := by decide +kernel
theorem d3_60 : decode jdk_42_method_149_code 60 = .ok (.putfield 15, 3) := by decide +kernel
theorem d3_63 : decode jdk_42_method_149_code 63 = .ok (.aload_n 0, 1) := by decide +kernel
theorem d3_64 : decode jdk_42_method_149_code 64 = .ok (.aload_n 1, 1) := by decide +kernel
theorem d3_65 : decode jdk_42_method_149_code 65 = .ok (.iload_n 2, 1) := by decide +kernel
theorem d3_66 : decode jdk_42_method_149_code 66 = .ok (.iload_n 3, 1) := by decide +kernel
theorem d3_67 : decode jdk_42_method_149_code 67 = .ok (.invokestatic 180, 3) := by decide +kernel
theorem d3_70 : decode jdk_42_method_149_code 70 = .ok (.putfield 9, 3) := by decide +kernel
theorem d3_73 : decode jdk_42_method_149_code 73 = .ok (.return_, 1) := by decide +kernel
theorem pn0 : plainName "java/lang/String" = true := by first | (simp [plainName, overriddenIn]; done) | decide +kernel
theorem ef_cE (m : MethodId) (a1 : Addr) (a2 : Addr) : entryFrame m #[(.ref a1), (.ref a2), (.int (0 : Int32)), (.int (0 : Int32)), .null] 6 = mkF m 0 #[.val (.ref a1), .val (.ref a2), .val (.int (0 : Int32)), .val (.int (0 : Int32)), .val .null, .unset] [] := by first | (simp [entryFrame, mkF, argsToLocals, Value.category]; done) | rfl
set_option maxRecDepth 65536 in
set_option maxHeartbeats 40000000 in
theorem cE (l : Launch) (Z : State) (a0 : Array Value) (hw : ∀ d ∈ tables_1, d.before a0 Z = true) (a1 : Addr) (a2 : Addr) (h : Heap) (n0 : Nat) (ge : n0 ≤ a1) (O : own_SV Z h a1 .null (.int (0 : Int32))) : ConH l Z own_EL (⟨"java/lang/String", "<init>", "([CIILjava/lang/Void;)V"⟩ : MethodName) jdk_42_method_149_code 6 none ({ frames := 1, cells := 4, slots := 8, locals := 12 } : Room) #[(.ref a1), (.ref a2), (.int (0 : Int32)), (.int (0 : Int32)), .null] h n0 (fun v h' => v = none ∧ ∃ b, own_SV Z h' a1 (.ref b) (.int (0 : Int32)) ∧ Ara Z h' b .byte 0 (own_tab []) ∧ Kp h h' [a1]) := by
  refine ConH.of (plainFor_of_name pn0) (fun m => ef_cE m a1 a2) ?_
  intro p e s m below meth c H0 C
  refine G.aloadN C d3_0 rfl rfl rfl ?_
  refine G.initO C (W := 0) (twd hw 15 rfl) (twd hw 16 rfl) (twd hw 17 rfl) rfl d3_1 (by decide) (Nat.le_of_eq rfl) (by decide) rfl ?_
  refine G.iloadN C d3_4 rfl rfl ?_
  refine G.ifne C d3_5 (by decide) (pt := 27) (by decide) rfl (fun q => absurd q (by decide)) (fun _ => ?_)
  refine G.aloadN C d3_8 rfl rfl rfl ?_
  refine G.ldcH C (own_hEL hw) H0 (nn := 0) (L := []) (z := 0) (by simp [own_EL]) (twd hw 18 rfl) (own_sa hw) (by decide +kernel) (by decide) d3_9 (by decide) (by decide) (by decide) (by decide) rfl (fun vm9 h9 a9 b9 E9 C x9 fv9 fc9 A9 R9 Sf9 => ?_)
  have oc1 := own_SV.ext O E9
  have kp2 := Kp.ext (Kp.refl h [a1]) E9
  have S9 : Safe Z own_EL vm9 h9 a1 := own_safe C.2.1.alike oc1.1 oc1.2.1
  have lt9 := Exa.lt oc1.1
  have nb9 := (Sf9 a1 S9).2
  show G p l e _ _ m _ below meth c n0 _ h9 2 4 (mkF m 11 #[.val (.ref a1), .val (.ref a2), .val (.int (0 : Int32)), .val (.int (0 : Int32)), .val .null, .unset] [(.ref a9), (.ref a1)])
  refine G.getF C (twd hw 24 rfl) fv9 d3_11 rfl ?_
  refine G.putF C (twd hw 24 rfl) (oc1).2.1 (oc1).1 (Or.inr ⟨(twd hw 20 rfl), rfl, rfl⟩) (twd hw 5 rfl) (ty := (.array .byte)) (by decide) rfl rfl ge d3_14 rfl (fun hn3 W14 => ?_)
  have oc4 := Ara.oth A9 W14 (Ne.symm nb9)
  have kp5 := Kp.wr kp2 W14 (Or.inl (by simp))
  have oc6 := own_SV.w0 hw oc1 W14
  have R14 := CHr.wr W14 S9 R9.1
  have S14 := CHr.safe R14 lt9 S9
  refine G.aloadN C d3_17 rfl rfl rfl ?_
  refine G.ldcH C (own_hEL hw) R14.1 (nn := 0) (L := []) (z := 0) (by simp [own_EL]) (twd hw 18 rfl) (own_sa hw) (by decide +kernel) (by decide) d3_18 (by decide) (by decide) (by decide) (by decide) rfl (fun vm18 h18 a18 b18 E18 C x18 fv18 fc18 A18 R18 Sf18 => ?_)
  have oc7 := own_SV.ext oc6 E18
  have oc8 := Ara.ext oc4 E18
  have kp9 := Kp.ext kp5 E18
  have S18 := CHr.safe R18 (Exa.lt oc6.1) S14
  show G p l e _ _ m _ below meth c n0 _ h18 4 8 (mkF m 20 #[.val (.ref a1), .val (.ref a2), .val (.int (0 : Int32)), .val (.int (0 : Int32)), .val .null, .unset] [(.ref a18), (.ref a1)])
  refine G.getF C (twd hw 25 rfl) fc18 d3_20 rfl ?_
  refine G.putF C (twd hw 25 rfl) (oc7).2.2 (oc7).1 (Or.inr ⟨(twd hw 21 rfl), rfl, rfl⟩) (twd hw 5 rfl) (ty := .byte) (by decide) rfl rfl ge d3_23 rfl (fun hn10 W23 => ?_)
  have oc11 := Ara.oth oc8 W23 (Ne.symm nb9)
  have kp12 := Kp.wr kp9 W23 (Or.inl (by simp))
  have oc13 := own_SV.w1 hw oc7 W23
  have R23 := CHr.wr W23 S18 R18.1
  refine G.narrowE (Qn := fun v z => ((fun v h' => v = none ∧ ∃ b, own_SV Z h' a1 (.ref b) (.int (0 : Int32)) ∧ Ara Z h' b .byte 0 (own_tab []) ∧ Kp h h' [a1]) v z) ∧ CHr Z own_EL s.vm h vm18 z ∧ h9.size ≤ z.size ∧ h18.size ≤ z.size) (fun v t q w => ⟨⟨⟨q.1, CHr.trans q.2.1 (own_chw C (own_hEL hw) q.2.1.1 w)⟩, q.2.2.1⟩, q.2.2.2⟩) ?_
  exact G.retV C d3_26 (by decide) (by decide) (⟨⟨rfl, b9, oc13, oc11, kp12⟩, CHr.trans R9 (CHr.trans R14 (CHr.trans R18 R23)), (CHr.trans R14 (CHr.trans R18 R23)).2.1, R23.2.1⟩)
theorem d2_0 : decode jdk_42_method_3_code 0 = .ok (.aload_n 0, 1) := by decide +kernel
theorem d2_1 : decode jdk_42_method_3_code 1 = .ok (.aload_n 1, 1) := by decide +kernel
theorem d2_2 : decode jdk_42_method_3_code 2 = .ok (.iconst 0, 1) := by decide +kernel
theorem d2_3 : decode jdk_42_method_3_code 3 = .ok (.aload_n 1, 1) := by decide +kernel
theorem d2_4 : decode jdk_42_method_3_code 4 = .ok (.arraylength, 1) := by decide +kernel
theorem d2_5 : decode jdk_42_method_3_code 5 = .ok (.aconst_null, 1) := by decide +kernel
theorem d2_6 : decode jdk_42_method_3_code 6 = .ok (.invokespecial 27, 3) := by decide +kernel
theorem d2_9 : decode jdk_42_method_3_code 9 = .ok (.return_, 1) := by decide +kernel
theorem ef_cE2 (m : MethodId) (a1 : Addr) (a2 : Addr) : entryFrame m #[(.ref a1), (.ref a2)] 2 = mkF m 0 #[.val (.ref a1), .val (.ref a2)] [] := by first | (simp [entryFrame, mkF, argsToLocals, Value.category]; done) | rfl
set_option maxRecDepth 65536 in
set_option maxHeartbeats 40000000 in
theorem cE2 (l : Launch) (Z : State) (a0 : Array Value) (hw : ∀ d ∈ tables_1, d.before a0 Z = true) (a1 : Addr) (a2 : Addr) (h : Heap) (n0 : Nat) (ge : n0 ≤ a1) (O : own_SV Z h a1 .null (.int (0 : Int32))) (A : Ara Z h a2 .char 0 (own_tab [])) : ConH l Z own_EL (⟨"java/lang/String", "<init>", "([C)V"⟩ : MethodName) jdk_42_method_3_code 2 none ({ frames := 2, cells := 4, slots := 8, locals := 29 } : Room) #[(.ref a1), (.ref a2)] h n0 (fun v h' => v = none ∧ ∃ b, own_SV Z h' a1 (.ref b) (.int (0 : Int32)) ∧ Ara Z h' b .byte 0 (own_tab []) ∧ Kp h h' [a1]) := by
  refine ConH.of (plainFor_of_name pn0) (fun m => ef_cE2 m a1 a2) ?_
  intro p e s m below meth c H0 C
  refine G.aloadN C d2_0 rfl rfl rfl ?_
  refine G.aloadN C d2_1 rfl rfl rfl ?_
  refine G.iconst C d2_2 (v := (0 : Int32)) rfl rfl ?_
  refine G.aloadN C d2_3 rfl rfl rfl ?_
  refine G.arrlen C A (z := (0 : Int32)) rfl d2_4 rfl ?_
  refine G.aconst_null C d2_5 rfl ?_
  refine G.callIH C (own_hEL hw) H0 (S := []) (W := 0) rfl (twd hw 11 rfl) (twd hw 12 rfl) (twd hw 6 rfl) (twd hw 14 rfl) (by decide) (cE l Z a0 hw a1 a2 h n0 ge O) pd2 rfl rfl d2_6 rfl (Nat.le_of_eq rfl) (by decide) (by decide) (by decide) (by decide) rfl (fun whp1 hp1 vm6 hq2 R6 C => ?_)
  obtain ⟨rfl, qe⟩ := hq2
  show G p l e _ _ m _ below meth c n0 _ hp1 4 8 (mkF m 9 #[.val (.ref a1), .val (.ref a2)] [])
  refine G.narrowE (Qn := fun v z => ((fun v h' => v = none ∧ ∃ b, own_SV Z h' a1 (.ref b) (.int (0 : Int32)) ∧ Ara Z h' b .byte 0 (own_tab []) ∧ Kp h h' [a1]) v z) ∧ CHr Z own_EL s.vm h vm6 z ∧ hp1.size ≤ z.size) (fun v t q w => ⟨⟨q.1, CHr.trans q.2.1 (own_chw C (own_hEL hw) q.2.1.1 w)⟩, q.2.2⟩) ?_
  exact G.retV C d2_9 (by decide) (by decide) (⟨⟨rfl, qe⟩, R6, Nat.le_refl _⟩)
theorem d6_0 : decode jdk_52_method_21_code 0 = .ok (.iconst 0, 1) := by decide +kernel
theorem d6_1 : decode jdk_52_method_21_code 1 = .ok (.istore 5, 2) := by decide +kernel
theorem d6_3 : decode jdk_52_method_21_code 3 = .ok (.iload 5, 2) := by decide +kernel
theorem d6_5 : decode jdk_52_method_21_code 5 = .ok (.iload 4, 2) := by decide +kernel
theorem d6_7 : decode jdk_52_method_21_code 7 = .ok (.if_icmp .ge 37, 3) := by decide +kernel
theorem d6_10 : decode jdk_52_method_21_code 10 = .ok (.aload_n 0, 1) := by decide +kernel
theorem d6_11 : decode jdk_52_method_21_code 11 = .ok (.iload_n 1, 1) := by decide +kernel
theorem d6_12 : decode jdk_52_method_21_code 12 = .ok (.caload, 1) := by decide +kernel
theorem d6_13 : decode jdk_52_method_21_code 13 = .ok (.istore 6, 2) := by decide +kernel
theorem d6_15 : decode jdk_52_method_21_code 15 = .ok (.iload 6, 2) := by decide +kernel
theorem d6_17 : decode jdk_52_method_21_code 17 = .ok (.sipush 255, 3) := by decide +kernel
theorem d6_20 : decode jdk_52_method_21_code 20 = .ok (.if_icmp .le 6, 3) := by decide +kernel
theorem d6_23 : decode jdk_52_method_21_code 23 = .ok (.iload 5, 2) := by decide +kernel
theorem d6_25 : decode jdk_52_method_21_code 25 = .ok (.ireturn, 1) := by decide +kernel
theorem d6_26 : decode jdk_52_method_21_code 26 = .ok (.aload_n 2, 1) := by decide +kernel
theorem d6_27 : decode jdk_52_method_21_code 27 = .ok (.iload_n 3, 1) := by decide +kernel
theorem d6_28 : decode jdk_52_method_21_code 28 = .ok (.iload 6, 2) := by decide +kernel
theorem d6_30 : decode jdk_52_method_21_code 30 = .ok (.i2b, 1) := by decide +kernel
theorem d6_31 : decode jdk_52_method_21_code 31 = .ok (.bastore, 1) := by decide +kernel
theorem d6_32 : decode jdk_52_method_21_code 32 = .ok (.iinc 1 1, 3) := by decide +kernel
theorem d6_35 : decode jdk_52_method_21_code 35 = .ok (.iinc 3 1, 3) := by decide +kernel
theorem d6_38 : decode jdk_52_method_21_code 38 = .ok (.iinc 5 1, 3) := by decide +kernel
theorem d6_41 : decode jdk_52_method_21_code 41 = .ok (.goto (-38), 3) := by decide +kernel
theorem d6_44 : decode jdk_52_method_21_code 44 = .ok (.iload 4, 2) := by decide +kernel
theorem d6_46 : decode jdk_52_method_21_code 46 = .ok (.ireturn, 1) := by decide +kernel
theorem pn1 : plainName "java/lang/StringUTF16" = true := by first | (simp [plainName, overriddenIn]; done) | decide +kernel
theorem ef_cK2 (m : MethodId) (a1 : Addr) (a3 : Addr) : entryFrame m #[(.ref a1), (.int (0 : Int32)), (.ref a3), (.int (0 : Int32)), (.int (2 : Int32))] 7 = mkF m 0 #[.val (.ref a1), .val (.int (0 : Int32)), .val (.ref a3), .val (.int (0 : Int32)), .val (.int (2 : Int32)), .unset, .unset] [] := by first | (simp [entryFrame, mkF, argsToLocals, Value.category]; done) | rfl
set_option maxRecDepth 65536 in
set_option maxHeartbeats 40000000 in
theorem cK2 (l : Launch) (Z : State) (a0 : Array Value) (hw : ∀ d ∈ tables_1, d.before a0 Z = true) (a1 : Addr) (a3 : Addr) (h : Heap) (n0 : Nat) (c0 c1 : Int32) (r0 : 0 ≤ c0.toInt ∧ c0.toInt ≤ 255) (r1 : 0 ≤ c1.toInt ∧ c1.toInt ≤ 255) (A : Ara Z h a1 .char 2 (own_tab [c0, c1])) (B : Ara Z h a3 .byte 2 (own_tab [(0 : Int32), (0 : Int32)])) (ge : n0 ≤ a3) (ne : a1 ≠ a3) : Con l Z (⟨"java/lang/StringUTF16", "compress", "([CI[BII)I"⟩ : MethodName) jdk_52_method_21_code 7 (some .int) ({ frames := 0, cells := 0, slots := 0, locals := 0 } : Room) #[(.ref a1), (.int (0 : Int32)), (.ref a3), (.int (0 : Int32)), (.int (2 : Int32))] h n0 (fun v h' => v = some (.int (2 : Int32)) ∧ Ara Z h' a3 .byte 2 (own_tab [(c0.toInt8.toInt32), (c1.toInt8.toInt32)]) ∧ Kp h h' [a3]) := by
  refine Con.of (plainFor_of_name pn1) (fun m => ef_cK2 m a1 a3) ?_
  intro p e s m below meth c C
  refine G.iconst C d6_0 (v := (0 : Int32)) rfl rfl ?_
  refine G.istore C d6_1 (Ls' := #[.val (.ref a1), .val (.int (0 : Int32)), .val (.ref a3), .val (.int (0 : Int32)), .val (.int (2 : Int32)), .val (.int (0 : Int32)), .unset]) rfl rfl ?_
  refine G.iload C d6_3 rfl rfl ?_
  refine G.iload C d6_5 rfl rfl ?_
  refine G.icge C d6_7 (by decide) (pt := 44) (by decide) rfl (fun q => absurd q (by decide)) (fun _ => ?_)
  refine G.aloadN C d6_10 rfl rfl rfl ?_
  refine G.iloadN C d6_11 rfl rfl ?_
  refine G.caload C A (by decide) d6_12 rfl ?_
  show G p l e _ _ m _ below meth c n0 _ h 0 0 (mkF m 13 #[.val (.ref a1), .val (.int (0 : Int32)), .val (.ref a3), .val (.int (0 : Int32)), .val (.int (2 : Int32)), .val (.int (0 : Int32)), .unset] [(.int c0)])
  refine G.istore C d6_13 (Ls' := #[.val (.ref a1), .val (.int (0 : Int32)), .val (.ref a3), .val (.int (0 : Int32)), .val (.int (2 : Int32)), .val (.int (0 : Int32)), .val (.int c0)]) rfl rfl ?_
  refine G.iload C d6_15 rfl rfl ?_
  refine G.sipush C d6_17 (v := (255 : Int32)) rfl rfl ?_
  refine G.icle C d6_20 (by decide) (pt := 26) (by decide) rfl (fun hc20 => ?_) (fun hc20 => absurd hc20 (own_le (by assumption)))
  refine G.aloadN C d6_26 rfl rfl rfl ?_
  refine G.iloadN C d6_27 rfl rfl ?_
  refine G.iload C d6_28 rfl rfl ?_
  refine G.i2b C d6_30 rfl ?_
  refine G.bastoreB C B (by decide) ge d6_31 rfl (fun hn1 W31 => ?_)
  have Wbhn1 : Wr h hn1 a3 0 (.int (c0.toInt8.toInt32)) := by have e := W31; rw [(own_nb _)] at e; exact e
  have oc2 := Ara.oth A W31 ne
  have kp3 := Kp.wr (Kp.refl h [a3]) W31 (Or.inl (by simp))
  have Awhn1 : Ara Z hn1 a3 .byte 2 (own_tab [(c0.toInt8.toInt32), (0 : Int32)]) := Ara.cast (Ara.set B Wbhn1) (fun q hq => own_tset [(0 : Int32), (0 : Int32)] 0 (c0.toInt8.toInt32) (show 0 < 2 by decide) q)
  refine G.iinc C d6_32 rfl (z := (1 : Int32)) rfl (Ls' := #[.val (.ref a1), .val (.int ((0 : Int32) + (1 : Int32))), .val (.ref a3), .val (.int (0 : Int32)), .val (.int (2 : Int32)), .val (.int (0 : Int32)), .val (.int c0)]) rfl rfl ?_
  show G p l e _ _ m _ below meth c n0 _ hn1 0 0 (mkF m 35 #[.val (.ref a1), .val (.int (1 : Int32)), .val (.ref a3), .val (.int (0 : Int32)), .val (.int (2 : Int32)), .val (.int (0 : Int32)), .val (.int c0)] [])
  refine G.iinc C d6_35 rfl (z := (1 : Int32)) rfl (Ls' := #[.val (.ref a1), .val (.int (1 : Int32)), .val (.ref a3), .val (.int ((0 : Int32) + (1 : Int32))), .val (.int (2 : Int32)), .val (.int (0 : Int32)), .val (.int c0)]) rfl rfl ?_
  show G p l e _ _ m _ below meth c n0 _ hn1 0 0 (mkF m 38 #[.val (.ref a1), .val (.int (1 : Int32)), .val (.ref a3), .val (.int (1 : Int32)), .val (.int (2 : Int32)), .val (.int (0 : Int32)), .val (.int c0)] [])
  refine G.iinc C d6_38 rfl (z := (1 : Int32)) rfl (Ls' := #[.val (.ref a1), .val (.int (1 : Int32)), .val (.ref a3), .val (.int (1 : Int32)), .val (.int (2 : Int32)), .val (.int ((0 : Int32) + (1 : Int32))), .val (.int c0)]) rfl rfl ?_
  show G p l e _ _ m _ below meth c n0 _ hn1 0 0 (mkF m 41 #[.val (.ref a1), .val (.int (1 : Int32)), .val (.ref a3), .val (.int (1 : Int32)), .val (.int (2 : Int32)), .val (.int (1 : Int32)), .val (.int c0)] [])
  refine G.goto C d6_41 (by decide) (pc' := 3) (by decide) ?_
  refine G.iload C d6_3 rfl rfl ?_
  refine G.iload C d6_5 rfl rfl ?_
  refine G.icge C d6_7 (by decide) (pt := 44) (by decide) rfl (fun q => absurd q (by decide)) (fun _ => ?_)
  refine G.aloadN C d6_10 rfl rfl rfl ?_
  refine G.iloadN C d6_11 rfl rfl ?_
  refine G.caload C oc2 (by decide) d6_12 rfl ?_
  show G p l e _ _ m _ below meth c n0 _ hn1 0 0 (mkF m 13 #[.val (.ref a1), .val (.int (1 : Int32)), .val (.ref a3), .val (.int (1 : Int32)), .val (.int (2 : Int32)), .val (.int (1 : Int32)), .val (.int c0)] [(.int c1)])
  refine G.istore C d6_13 (Ls' := #[.val (.ref a1), .val (.int (1 : Int32)), .val (.ref a3), .val (.int (1 : Int32)), .val (.int (2 : Int32)), .val (.int (1 : Int32)), .val (.int c1)]) rfl rfl ?_
  refine G.iload C d6_15 rfl rfl ?_
  refine G.sipush C d6_17 (v := (255 : Int32)) rfl rfl ?_
  refine G.icle C d6_20 (by decide) (pt := 26) (by decide) rfl (fun hc20 => ?_) (fun hc20 => absurd hc20 (own_le (by assumption)))
  refine G.aloadN C d6_26 rfl rfl rfl ?_
  refine G.iloadN C d6_27 rfl rfl ?_
  refine G.iload C d6_28 rfl rfl ?_
  refine G.i2b C d6_30 rfl ?_
  refine G.bastoreB C Awhn1 (by decide) ge d6_31 rfl (fun hn4 W31 => ?_)
  have Wbhn4 : Wr hn1 hn4 a3 1 (.int (c1.toInt8.toInt32)) := by have e := W31; rw [(own_nb _)] at e; exact e
  have oc5 := Ara.oth oc2 W31 ne
  have kp6 := Kp.wr kp3 W31 (Or.inl (by simp))
  have Awhn4 : Ara Z hn4 a3 .byte 2 (own_tab [(c0.toInt8.toInt32), (c1.toInt8.toInt32)]) := Ara.cast (Ara.set Awhn1 Wbhn4) (fun q hq => own_tset [(c0.toInt8.toInt32), (0 : Int32)] 1 (c1.toInt8.toInt32) (show 1 < 2 by decide) q)
  refine G.iinc C d6_32 rfl (z := (1 : Int32)) rfl (Ls' := #[.val (.ref a1), .val (.int ((1 : Int32) + (1 : Int32))), .val (.ref a3), .val (.int (1 : Int32)), .val (.int (2 : Int32)), .val (.int (1 : Int32)), .val (.int c1)]) rfl rfl ?_
  show G p l e _ _ m _ below meth c n0 _ hn4 0 0 (mkF m 35 #[.val (.ref a1), .val (.int (2 : Int32)), .val (.ref a3), .val (.int (1 : Int32)), .val (.int (2 : Int32)), .val (.int (1 : Int32)), .val (.int c1)] [])
  refine G.iinc C d6_35 rfl (z := (1 : Int32)) rfl (Ls' := #[.val (.ref a1), .val (.int (2 : Int32)), .val (.ref a3), .val (.int ((1 : Int32) + (1 : Int32))), .val (.int (2 : Int32)), .val (.int (1 : Int32)), .val (.int c1)]) rfl rfl ?_
  show G p l e _ _ m _ below meth c n0 _ hn4 0 0 (mkF m 38 #[.val (.ref a1), .val (.int (2 : Int32)), .val (.ref a3), .val (.int (2 : Int32)), .val (.int (2 : Int32)), .val (.int (1 : Int32)), .val (.int c1)] [])
  refine G.iinc C d6_38 rfl (z := (1 : Int32)) rfl (Ls' := #[.val (.ref a1), .val (.int (2 : Int32)), .val (.ref a3), .val (.int (2 : Int32)), .val (.int (2 : Int32)), .val (.int ((1 : Int32) + (1 : Int32))), .val (.int c1)]) rfl rfl ?_
  show G p l e _ _ m _ below meth c n0 _ hn4 0 0 (mkF m 41 #[.val (.ref a1), .val (.int (2 : Int32)), .val (.ref a3), .val (.int (2 : Int32)), .val (.int (2 : Int32)), .val (.int (2 : Int32)), .val (.int c1)] [])
  refine G.goto C d6_41 (by decide) (pc' := 3) (by decide) ?_
  refine G.iload C d6_3 rfl rfl ?_
  refine G.iload C d6_5 rfl rfl ?_
  refine G.icge C d6_7 (by decide) (pt := 44) (by decide) rfl (fun _ => ?_) (fun q => absurd q (by decide))
  refine G.iload C d6_44 rfl rfl ?_
  exact G.retI C d6_46 (by decide) (by decide) (⟨rfl, Awhn4, kp6⟩)
theorem d5_0 : decode jdk_52_method_16_code 0 = .ok (.iload_n 2, 1) := by decide +kernel
theorem d5_1 : decode jdk_52_method_16_code 1 = .ok (.newarray .byte, 2) := by decide +kernel
theorem d5_3 : decode jdk_52_method_16_code 3 = .ok (.astore_n 3, 1) := by decide +kernel
theorem d5_4 : decode jdk_52_method_16_code 4 = .ok (.aload_n 0, 1) := by decide +kernel
theorem d5_5 : decode jdk_52_method_16_code 5 = .ok (.iload_n 1, 1) := by decide +kernel
theorem d5_6 : decode jdk_52_method_16_code 6 = .ok (.aload_n 3, 1) := by decide +kernel
theorem d5_7 : decode jdk_52_method_16_code 7 = .ok (.iconst 0, 1) := by decide +kernel
theorem d5_8 : decode jdk_52_method_16_code 8 = .ok (.iload_n 2, 1) := by decide +kernel
theorem d5_9 : decode jdk_52_method_16_code 9 = .ok (.invokestatic 115, 3) := by decide +kernel
theorem d5_12 : decode jdk_52_method_16_code 12 = .ok (.istore 4, 2) := by decide +kernel
theorem d5_14 : decode jdk_52_method_16_code 14 = .ok (.iload 4, 2) := by decide +kernel
theorem d5_16 : decode jdk_52_method_16_code 16 = .ok (.iload_n 2, 1) := by decide +kernel
theorem d5_17 : decode jdk_52_method_16_code 17 = .ok (.if_icmp .eq 40, 3) := by decide +kernel
theorem d5_20 : decode jdk_52_method_16_code 20 = .ok (.aload_n 0, 1) := by decide +kernel
theorem d5_21 : decode jdk_52_method_16_code 21 = .ok (.iload_n 1, 1) := by decide +kernel
theorem d5_22 : decode jdk_52_method_16_code 22 = .ok (.iload_n 2, 1) := by decide +kernel
theorem d5_23 : decode jdk_52_method_16_code 23 = .ok (.invokestatic 119, 3) := by decide +kernel
theorem d5_26 : decode jdk_52_method_16_code 26 = .ok (.astore 5, 2) := by decide +kernel
theorem d5_28 : decode jdk_52_method_16_code 28 = .ok (.aload 5, 2) := by decide +kernel
theorem d5_30 : decode jdk_52_method_16_code 30 = .ok (.iload 4, 2) := by decide +kernel
theorem d5_32 : decode jdk_52_method_16_code 32 = .ok (.invokestatic 71, 3) := by decide +kernel
theorem d5_35 : decode jdk_52_method_16_code 35 = .ok (.sipush 255, 3) := by decide +kernel
theorem d5_38 : decode jdk_52_method_16_code 38 = .ok (.if_icmp .gt 16, 3) := by decide +kernel
theorem d5_41 : decode jdk_52_method_16_code 41 = .ok (.aload 5, 2) := by decide +kernel
theorem d5_43 : decode jdk_52_method_16_code 43 = .ok (.iconst 0, 1) := by decide +kernel
theorem d5_44 : decode jdk_52_method_16_code 44 = .ok (.aload_n 3, 1) := by decide +kernel
theorem d5_45 : decode jdk_52_method_16_code 45 = .ok (.iconst 0, 1) := by decide +kernel
theorem d5_46 : decode jdk_52_method_16_code 46 = .ok (.iload_n 2, 1) := by decide +kernel
theorem d5_47 : decode jdk_52_method_16_code 47 = .ok (.invokestatic 123, 3) := by decide +kernel
theorem d5_50 : decode jdk_52_method_16_code 50 = .ok (.iload_n 2, 1) := by decide +kernel
theorem d5_51 : decode jdk_52_method_16_code 51 = .ok (.if_icmp .eq 6, 3) := by decide +kernel
theorem d5_54 : decode jdk_52_method_16_code 54 = .ok (.aload 5, 2) := by decide +kernel
theorem d5_56 : decode jdk_52_method_16_code 56 = .ok (.areturn, 1) := by decide +kernel
theorem d5_57 : decode jdk_52_method_16_code 57 = .ok (.aload_n 3, 1) := by decide +kernel
theorem d5_58 : decode jdk_52_method_16_code 58 = .ok (.areturn, 1) := by decide +kernel
theorem ef_cP2 (m : MethodId) (a1 : Addr) : entryFrame m #[(.ref a1), (.int (0 : Int32)), (.int (2 : Int32))] 6 = mkF m 0 #[.val (.ref a1), .val (.int (0 : Int32)), .val (.int (2 : Int32)), .unset, .unset, .unset] [] := by first | (simp [entryFrame, mkF, argsToLocals, Value.category]; done) | rfl
set_option maxRecDepth 65536 in
set_option maxHeartbeats 40000000 in
theorem cP2 (l : Launch) (Z : State) (a0 : Array Value) (hw : ∀ d ∈ tables_1, d.before a0 Z = true) (a1 : Addr) (h : Heap) (n0 : Nat) (c0 c1 : Int32) (r0 : 0 ≤ c0.toInt ∧ c0.toInt ≤ 255) (r1 : 0 ≤ c1.toInt ∧ c1.toInt ≤ 255) (A : Ara Z h a1 .char 2 (own_tab [c0, c1])) (sz : n0 ≤ h.size) : Con l Z (⟨"java/lang/StringUTF16", "compress", "([CII)[B"⟩ : MethodName) jdk_52_method_16_code 6 (some (.array .byte)) ({ frames := 1, cells := 1, slots := 2, locals := 18 } : Room) #[(.ref a1), (.int (0 : Int32)), (.int (2 : Int32))] h n0 (fun v h' => ∃ b, v = some (.ref b) ∧ Ara Z h' b .byte 2 (own_tab [(c0.toInt8.toInt32), (c1.toInt8.toInt32)]) ∧ Kp h h' [] ∧ h.size ≤ b) := by
  refine Con.of (plainFor_of_name pn1) (fun m => ef_cP2 m a1) ?_
  intro p e s m below meth c C
  refine G.iloadN C d5_0 rfl rfl ?_
  refine G.newarr C (aty := .byte) (twd hw 19 rfl) (z := (2 : Int32)) (by decide) (cap := 2) (by decide) (by decide) d5_1 (by decide) (by decide) rfl (fun hn1 b1 g1 E1 A1 => ?_)
  have old1 := Nat.le_trans (Kp.refl h []).1.1 (Nat.le_of_eq g1.symm)
  have ne_a1_b1 : a1 ≠ b1 := by rw [g1]; exact Nat.ne_of_lt (Ara.lt A)
  have ge1 : n0 ≤ b1 := by rw [g1]; exact sz
  have oc2 := Ara.ext A E1
  have sz3 : n0 ≤ hn1.size := Nat.le_trans sz E1.1
  have kp4 := Kp.ext (Kp.refl h []) E1
  have AA1 : Ara Z hn1 b1 .byte 2 (own_tab [(0 : Int32), (0 : Int32)]) := Ara.cast A1 (fun q hq => own_t0 2 q)
  show G p l e _ _ m _ below meth c n0 _ hn1 1 2 (mkF m 3 #[.val (.ref a1), .val (.int (0 : Int32)), .val (.int (2 : Int32)), .unset, .unset, .unset] [(.ref b1)])
  refine G.astoreN C d5_3 rfl (Ls' := #[.val (.ref a1), .val (.int (0 : Int32)), .val (.int (2 : Int32)), .val (.ref b1), .unset, .unset]) rfl rfl ?_
  refine G.aloadN C d5_4 rfl rfl rfl ?_
  refine G.iloadN C d5_5 rfl rfl ?_
  refine G.aloadN C d5_6 rfl rfl rfl ?_
  refine G.iconst C d5_7 (v := (0 : Int32)) rfl rfl ?_
  refine G.iloadN C d5_8 rfl rfl ?_
  refine G.callS C (S := []) (W := 0) (twd hw 31 rfl) (twd hw 32 rfl) (twd hw 29 rfl) (twd hw 33 rfl) (by decide) (cK2 l Z a0 hw a1 b1 hn1 n0 c0 c1 r0 r1 oc2 AA1 ge1 ne_a1_b1) pd5 rfl rfl d5_9 rfl (Nat.le_of_eq rfl) (by decide) (by decide) (by decide) (by decide) rfl (fun whp5 hp5 hq6 => ?_)
  obtain ⟨rfl, Ak, Kk⟩ := hq6
  have oc7 := Ara.kp oc2 Kk (by simp [ne_a1_b1])
  have sz8 : n0 ≤ hp5.size := Nat.le_trans sz3 Kk.1.1
  have kp9 := Kp.trans kp4 Kk (by simp [old1])
  show G p l e _ _ m _ below meth c n0 _ hp5 1 2 (mkF m 12 #[.val (.ref a1), .val (.int (0 : Int32)), .val (.int (2 : Int32)), .val (.ref b1), .unset, .unset] [(.int (2 : Int32))])
  refine G.istore C d5_12 (Ls' := #[.val (.ref a1), .val (.int (0 : Int32)), .val (.int (2 : Int32)), .val (.ref b1), .val (.int (2 : Int32)), .unset]) rfl rfl ?_
  refine G.iload C d5_14 rfl rfl ?_
  refine G.iloadN C d5_16 rfl rfl ?_
  refine G.iceq C d5_17 (by decide) (pt := 57) (by decide) rfl (fun _ => ?_) (fun q => absurd q (by decide))
  refine G.aloadN C d5_57 rfl rfl rfl ?_
  exact G.retA C rfl rfl d5_58 (by decide) (by decide) rfl (⟨_, rfl, Ak, kp9, old1⟩)
theorem d7_0 : decode jdk_52_method_15_code 0 = .ok (.iload_n 1, 1) := by decide +kernel
theorem d7_1 : decode jdk_52_method_15_code 1 = .ok (.aload_n 0, 1) := by decide +kernel
theorem d7_2 : decode jdk_52_method_15_code 2 = .ok (.arraylength, 1) := by decide +kernel
theorem d7_3 : decode jdk_52_method_15_code 3 = .ok (.isub, 1) := by decide +kernel
theorem d7_4 : decode jdk_52_method_15_code 4 = .ok (.bipush 31, 2) := by decide +kernel
theorem d7_6 : decode jdk_52_method_15_code 6 = .ok (.iushr, 1) := by decide +kernel
theorem d7_7 : decode jdk_52_method_15_code 7 = .ok (.i2b, 1) := by decide +kernel
theorem d7_8 : decode jdk_52_method_15_code 8 = .ok (.ireturn, 1) := by decide +kernel
theorem ef_cA2 (m : MethodId) (a1 : Addr) : entryFrame m #[(.ref a1), (.int (2 : Int32))] 2 = mkF m 0 #[.val (.ref a1), .val (.int (2 : Int32))] [] := by first | (simp [entryFrame, mkF, argsToLocals, Value.category]; done) | rfl
set_option maxRecDepth 65536 in
set_option maxHeartbeats 40000000 in
theorem cA2 (l : Launch) (Z : State) (a0 : Array Value) (hw : ∀ d ∈ tables_1, d.before a0 Z = true) (a1 : Addr) (h : Heap) (n0 : Nat) (F : Nat → Value) (A : Ara Z h a1 .byte 2 F) : Con l Z (⟨"java/lang/StringUTF16", "coderFromArrayLen", "([BI)B"⟩ : MethodName) jdk_52_method_15_code 2 (some .byte) ({ frames := 0, cells := 0, slots := 0, locals := 0 } : Room) #[(.ref a1), (.int (2 : Int32))] h n0 (Pv (.int (0 : Int32)) h) := by
  refine Con.of (plainFor_of_name pn1) (fun m => ef_cA2 m a1) ?_
  intro p e s m below meth c C
  refine G.iloadN C d7_0 rfl rfl ?_
  refine G.aloadN C d7_1 rfl rfl rfl ?_
  refine G.arrlen C A (z := (2 : Int32)) rfl d7_2 rfl ?_
  refine G.isub C d7_3 rfl ?_
  show G p l e _ _ m _ below meth c n0 _ h 0 0 (mkF m 4 #[.val (.ref a1), .val (.int (2 : Int32))] [(.int (0 : Int32))])
  refine G.bipush C d7_4 (v := (31 : Int32)) rfl rfl ?_
  refine G.iushr C d7_6 rfl ?_
  show G p l e _ _ m _ below meth c n0 _ h 0 0 (mkF m 7 #[.val (.ref a1), .val (.int (2 : Int32))] [(.int (0 : Int32))])
  refine G.i2b C d7_7 rfl ?_
  show G p l e _ _ m _ below meth c n0 _ h 0 0 (mkF m 8 #[.val (.ref a1), .val (.int (2 : Int32))] [(.int (0 : Int32))])
  exact G.retB C d7_8 (by decide) (by decide) rfl (⟨rfl, rfl⟩)
theorem ef_cV2 (m : MethodId) (a1 : Addr) (a2 : Addr) : entryFrame m #[(.ref a1), (.ref a2), (.int (0 : Int32)), (.int (2 : Int32)), .null] 6 = mkF m 0 #[.val (.ref a1), .val (.ref a2), .val (.int (0 : Int32)), .val (.int (2 : Int32)), .val .null, .unset] [] := by first | (simp [entryFrame, mkF, argsToLocals, Value.category]; done) | rfl
set_option maxRecDepth 65536 in
set_option maxHeartbeats 40000000 in
theorem cV2 (l : Launch) (Z : State) (a0 : Array Value) (hw : ∀ d ∈ tables_1, d.before a0 Z = true) (a1 : Addr) (a2 : Addr) (h : Heap) (n0 : Nat) (c0 c1 : Int32) (r0 : 0 ≤ c0.toInt ∧ c0.toInt ≤ 255) (r1 : 0 ≤ c1.toInt ∧ c1.toInt ≤ 255) (ge : n0 ≤ a1) (O : own_SV Z h a1 .null (.int (0 : Int32))) (A : Ara Z h a2 .char 2 (own_tab [c0, c1])) (sz : n0 ≤ h.size) (ne : a1 ≠ a2) (cs : Int32) (hcs : ¬ cs = 0) (S_cs : Sta Z h "java/lang/String" "COMPACT_STRINGS" "Z" (.int cs)) : Con l Z (⟨"java/lang/String", "<init>", "([CIILjava/lang/Void;)V"⟩ : MethodName) jdk_42_method_149_code 6 none ({ frames := 2, cells := 1, slots := 2, locals := 35 } : Room) #[(.ref a1), (.ref a2), (.int (0 : Int32)), (.int (2 : Int32)), .null] h n0 (fun v h' => v = none ∧ ∃ b, own_SV Z h' a1 (.ref b) (.int (0 : Int32)) ∧ Ara Z h' b .byte 2 (own_tab [(c0.toInt8.toInt32), (c1.toInt8.toInt32)]) ∧ Kp h h' [a1]) := by
  refine Con.of (plainFor_of_name pn0) (fun m => ef_cV2 m a1 a2) ?_
  intro p e s m below meth c C
  refine G.aloadN C d3_0 rfl rfl rfl ?_
  refine G.initO C (W := 0) (twd hw 15 rfl) (twd hw 16 rfl) (twd hw 17 rfl) rfl d3_1 (by decide) (Nat.le_of_eq rfl) (by decide) rfl ?_
  refine G.iloadN C d3_4 rfl rfl ?_
  refine G.ifne C d3_5 (by decide) (pt := 27) (by decide) rfl (fun _ => ?_) (fun q => absurd q (by decide))
  refine G.getS C (twd hw 26 rfl) S_cs d3_27 rfl ?_
  refine G.ifeq C d3_30 (by decide) (pt := 58) (by decide) rfl (fun hc30 => absurd hc30 hcs) (fun hc30 => ?_)
  refine G.aloadN C d3_33 rfl rfl rfl ?_
  refine G.iloadN C d3_34 rfl rfl ?_
  refine G.iloadN C d3_35 rfl rfl ?_
  refine G.callS C (S := []) (W := 0) (twd hw 27 rfl) (twd hw 28 rfl) (twd hw 29 rfl) (twd hw 30 rfl) (by decide) (cP2 l Z a0 hw a2 h n0 c0 c1 r0 r1 A sz) pd4 rfl rfl d3_36 rfl (Nat.le_of_eq rfl) (by decide) (by decide) (by decide) (by decide) rfl (fun whp1 hp1 hq2 => ?_)
  obtain ⟨f36, rfl, A36, K36, g36⟩ := hq2
  have ne_a1_f36 : a1 ≠ f36 := Nat.ne_of_lt (Nat.lt_of_lt_of_le (Exa.lt (O).1) g36)
  have ne_a2_f36 : a2 ≠ f36 := Nat.ne_of_lt (Nat.lt_of_lt_of_le (Ara.lt A) g36)
  have oc3 := own_SV.keep O K36 (by simp)
  have sf4 := Sta.kp K36 S_cs
  have oc5 := Ara.kp A K36 (by simp)
  have sz6 : n0 ≤ hp1.size := Nat.le_trans sz K36.1.1
  have kp7 := Kp.trans (Kp.refl h [a1]) K36 (by simp)
  show G p l e _ _ m _ below meth c n0 _ hp1 1 2 (mkF m 39 #[.val (.ref a1), .val (.ref a2), .val (.int (0 : Int32)), .val (.int (2 : Int32)), .val .null, .unset] [(.ref f36)])
  refine G.astore C d3_39 rfl (Ls' := #[.val (.ref a1), .val (.ref a2), .val (.int (0 : Int32)), .val (.int (2 : Int32)), .val .null, .val (.ref f36)]) rfl rfl ?_
  refine G.aloadN C d3_41 rfl rfl rfl ?_
  refine G.aload C d3_42 rfl rfl rfl ?_
  refine G.iloadN C d3_44 rfl rfl ?_
  refine G.callSP C (S := [(.ref a1)]) (W := 1) (twd hw 34 rfl) (twd hw 35 rfl) (twd hw 29 rfl) (twd hw 36 rfl) (by decide) (cA2 l Z a0 hw f36 hp1 n0 _ A36) pd6 rfl rfl d3_45 rfl (Nat.le_of_eq rfl) (by decide) (by decide) rfl rfl (by decide) (by decide) rfl ?_
  refine G.putF C (twd hw 25 rfl) (oc3).2.2 (oc3).1 (Or.inr ⟨(twd hw 21 rfl), rfl, rfl⟩) (twd hw 5 rfl) (ty := .byte) (by decide) rfl rfl ge d3_48 rfl (fun hn8 W48 => ?_)
  have sf9 := Sta.wr W48 sf4
  have oc10 := Ara.oth oc5 W48 (Ne.symm ne)
  have oc11 := Ara.oth A36 W48 (Ne.symm ne_a1_f36)
  have sz12 : n0 ≤ hn8.size := (by rw [W48.size]; exact sz6)
  have kp13 := Kp.wr kp7 W48 (Or.inl (by simp))
  have oc14 := own_SV.w1 hw oc3 W48
  refine G.aloadN C d3_51 rfl rfl rfl ?_
  refine G.aload C d3_52 rfl rfl rfl ?_
  refine G.putF C (twd hw 24 rfl) (oc14).2.1 (oc14).1 (Or.inr ⟨(twd hw 20 rfl), rfl, rfl⟩) (twd hw 5 rfl) (ty := (.array .byte)) (by decide) rfl rfl ge d3_54 rfl (fun hn15 W54 => ?_)
  have sf16 := Sta.wr W54 sf9
  have oc17 := Ara.oth oc10 W54 (Ne.symm ne)
  have oc18 := Ara.oth oc11 W54 (Ne.symm ne_a1_f36)
  have sz19 : n0 ≤ hn15.size := (by rw [W54.size]; exact sz12)
  have kp20 := Kp.wr kp13 W54 (Or.inl (by simp))
  have oc21 := own_SV.w0 hw oc14 W54
  exact G.retV C d3_57 (by decide) (by decide) (⟨rfl, f36, oc21, oc18, kp20⟩)
theorem ef_cS2 (m : MethodId) (a1 : Addr) (a2 : Addr) : entryFrame m #[(.ref a1), (.ref a2)] 2 = mkF m 0 #[.val (.ref a1), .val (.ref a2)] [] := by first | (simp [entryFrame, mkF, argsToLocals, Value.category]; done) | rfl
set_option maxRecDepth 65536 in
set_option maxHeartbeats 40000000 in
theorem cS2 (l : Launch) (Z : State) (a0 : Array Value) (hw : ∀ d ∈ tables_1, d.before a0 Z = true) (a1 : Addr) (a2 : Addr) (h : Heap) (n0 : Nat) (c0 c1 : Int32) (r0 : 0 ≤ c0.toInt ∧ c0.toInt ≤ 255) (r1 : 0 ≤ c1.toInt ∧ c1.toInt ≤ 255) (ge : n0 ≤ a1) (O : own_SV Z h a1 .null (.int (0 : Int32))) (A : Ara Z h a2 .char 2 (own_tab [c0, c1])) (sz : n0 ≤ h.size) (ne : a1 ≠ a2) (cs : Int32) (hcs : ¬ cs = 0) (S_cs : Sta Z h "java/lang/String" "COMPACT_STRINGS" "Z" (.int cs)) : Con l Z (⟨"java/lang/String", "<init>", "([C)V"⟩ : MethodName) jdk_42_method_3_code 2 none ({ frames := 3, cells := 1, slots := 2, locals := 52 } : Room) #[(.ref a1), (.ref a2)] h n0 (fun v h' => v = none ∧ ∃ b, own_SV Z h' a1 (.ref b) (.int (0 : Int32)) ∧ Ara Z h' b .byte 2 (own_tab [(c0.toInt8.toInt32), (c1.toInt8.toInt32)]) ∧ Kp h h' [a1]) := by
  refine Con.of (plainFor_of_name pn0) (fun m => ef_cS2 m a1 a2) ?_
  intro p e s m below meth c C
  refine G.aloadN C d2_0 rfl rfl rfl ?_
  refine G.aloadN C d2_1 rfl rfl rfl ?_
  refine G.iconst C d2_2 (v := (0 : Int32)) rfl rfl ?_
  refine G.aloadN C d2_3 rfl rfl rfl ?_
  refine G.arrlen C A (z := (2 : Int32)) rfl d2_4 rfl ?_
  refine G.aconst_null C d2_5 rfl ?_
  refine G.callI C (S := []) (W := 0) rfl (twd hw 11 rfl) (twd hw 12 rfl) (twd hw 6 rfl) (twd hw 14 rfl) (by decide) (cV2 l Z a0 hw a1 a2 h n0 c0 c1 r0 r1 ge O A sz ne cs hcs S_cs) pd2 rfl rfl d2_6 rfl (Nat.le_of_eq rfl) (by decide) (by decide) (by decide) (by decide) rfl (fun whp1 hp1 hq2 => ?_)
  obtain ⟨rfl, qe⟩ := hq2
  show G p l e _ _ m _ below meth c n0 _ hp1 1 2 (mkF m 9 #[.val (.ref a1), .val (.ref a2)] [])
  exact G.retV C d2_9 (by decide) (by decide) (⟨rfl, qe⟩)
theorem ef_cK3 (m : MethodId) (a1 : Addr) (a3 : Addr) : entryFrame m #[(.ref a1), (.int (0 : Int32)), (.ref a3), (.int (0 : Int32)), (.int (3 : Int32))] 7 = mkF m 0 #[.val (.ref a1), .val (.int (0 : Int32)), .val (.ref a3), .val (.int (0 : Int32)), .val (.int (3 : Int32)), .unset, .unset] [] := by first | (simp [entryFrame, mkF, argsToLocals, Value.category]; done) | rfl
set_option maxRecDepth 65536 in
set_option maxHeartbeats 40000000 in
theorem cK3 (l : Launch) (Z : State) (a0 : Array Value) (hw : ∀ d ∈ tables_1, d.before a0 Z = true) (a1 : Addr) (a3 : Addr) (h : Heap) (n0 : Nat) (c0 c1 c2 : Int32) (r0 : 0 ≤ c0.toInt ∧ c0.toInt ≤ 255) (r1 : 0 ≤ c1.toInt ∧ c1.toInt ≤ 255) (r2 : 0 ≤ c2.toInt ∧ c2.toInt ≤ 255) (A : Ara Z h a1 .char 3 (own_tab [c0, c1, c2])) (B : Ara Z h a3 .byte 3 (own_tab [(0 : Int32), (0 : Int32), (0 : Int32)])) (ge : n0 ≤ a3) (ne : a1 ≠ a3) : Con l Z (⟨"java/lang/StringUTF16", "compress", "([CI[BII)I"⟩ : MethodName) jdk_52_method_21_code 7 (some .int) ({ frames := 0, cells := 0, slots := 0, locals := 0 } : Room) #[(.ref a1), (.int (0 : Int32)), (.ref a3), (.int (0 : Int32)), (.int (3 : Int32))] h n0 (fun v h' => v = some (.int (3 : Int32)) ∧ Ara Z h' a3 .byte 3 (own_tab [(c0.toInt8.toInt32), (c1.toInt8.toInt32), (c2.toInt8.toInt32)]) ∧ Kp h h' [a3]) := by
  refine Con.of (plainFor_of_name pn1) (fun m => ef_cK3 m a1 a3) ?_
  intro p e s m below meth c C
  refine G.iconst C d6_0 (v := (0 : Int32)) rfl rfl ?_
  refine G.istore C d6_1 (Ls' := #[.val (.ref a1), .val (.int (0 : Int32)), .val (.ref a3), .val (.int (0 : Int32)), .val (.int (3 : Int32)), .val (.int (0 : Int32)), .unset]) rfl rfl ?_
  refine G.iload C d6_3 rfl rfl ?_
  refine G.iload C d6_5 rfl rfl ?_
  refine G.icge C d6_7 (by decide) (pt := 44) (by decide) rfl (fun q => absurd q (by decide)) (fun _ => ?_)
  refine G.aloadN C d6_10 rfl rfl rfl ?_
  refine G.iloadN C d6_11 rfl rfl ?_
  refine G.caload C A (by decide) d6_12 rfl ?_
  show G p l e _ _ m _ below meth c n0 _ h 0 0 (mkF m 13 #[.val (.ref a1), .val (.int (0 : Int32)), .val (.ref a3), .val (.int (0 : Int32)), .val (.int (3 : Int32)), .val (.int (0 : Int32)), .unset] [(.int c0)])
  refine G.istore C d6_13 (Ls' := #[.val (.ref a1), .val (.int (0 : Int32)), .val (.ref a3), .val (.int (0 : Int32)), .val (.int (3 : Int32)), .val (.int (0 : Int32)), .val (.int c0)]) rfl rfl ?_
  refine G.iload C d6_15 rfl rfl ?_
  refine G.sipush C d6_17 (v := (255 : Int32)) rfl rfl ?_
  refine G.icle C d6_20 (by decide) (pt := 26) (by decide) rfl (fun hc20 => ?_) (fun hc20 => absurd hc20 (own_le (by assumption)))
  refine G.aloadN C d6_26 rfl rfl rfl ?_
  refine G.iloadN C d6_27 rfl rfl ?_
  refine G.iload C d6_28 rfl rfl ?_
  refine G.i2b C d6_30 rfl ?_
  refine G.bastoreB C B (by decide) ge d6_31 rfl (fun hn1 W31 => ?_)
  have Wbhn1 : Wr h hn1 a3 0 (.int (c0.toInt8.toInt32)) := by have e := W31; rw [(own_nb _)] at e; exact e
  have oc2 := Ara.oth A W31 ne
  have kp3 := Kp.wr (Kp.refl h [a3]) W31 (Or.inl (by simp))
  have Awhn1 : Ara Z hn1 a3 .byte 3 (own_tab [(c0.toInt8.toInt32), (0 : Int32), (0 : Int32)]) := Ara.cast (Ara.set B Wbhn1) (fun q hq => own_tset [(0 : Int32), (0 : Int32), (0 : Int32)] 0 (c0.toInt8.toInt32) (show 0 < 3 by decide) q)
  refine G.iinc C d6_32 rfl (z := (1 : Int32)) rfl (Ls' := #[.val (.ref a1), .val (.int ((0 : Int32) + (1 : Int32))), .val (.ref a3), .val (.int (0 : Int32)), .val (.int (3 : Int32)), .val (.int (0 : Int32)), .val (.int c0)]) rfl rfl ?_
  show G p l e _ _ m _ below meth c n0 _ hn1 0 0 (mkF m 35 #[.val (.ref a1), .val (.int (1 : Int32)), .val (.ref a3), .val (.int (0 : Int32)), .val (.int (3 : Int32)), .val (.int (0 : Int32)), .val (.int c0)] [])
  refine G.iinc C d6_35 rfl (z := (1 : Int32)) rfl (Ls' := #[.val (.ref a1), .val (.int (1 : Int32)), .val (.ref a3), .val (.int ((0 : Int32) + (1 : Int32))), .val (.int (3 : Int32)), .val (.int (0 : Int32)), .val (.int c0)]) rfl rfl ?_
  show G p l e _ _ m _ below meth c n0 _ hn1 0 0 (mkF m 38 #[.val (.ref a1), .val (.int (1 : Int32)), .val (.ref a3), .val (.int (1 : Int32)), .val (.int (3 : Int32)), .val (.int (0 : Int32)), .val (.int c0)] [])
  refine G.iinc C d6_38 rfl (z := (1 : Int32)) rfl (Ls' := #[.val (.ref a1), .val (.int (1 : Int32)), .val (.ref a3), .val (.int (1 : Int32)), .val (.int (3 : Int32)), .val (.int ((0 : Int32) + (1 : Int32))), .val (.int c0)]) rfl rfl ?_
  show G p l e _ _ m _ below meth c n0 _ hn1 0 0 (mkF m 41 #[.val (.ref a1), .val (.int (1 : Int32)), .val (.ref a3), .val (.int (1 : Int32)), .val (.int (3 : Int32)), .val (.int (1 : Int32)), .val (.int c0)] [])
  refine G.goto C d6_41 (by decide) (pc' := 3) (by decide) ?_
  refine G.iload C d6_3 rfl rfl ?_
  refine G.iload C d6_5 rfl rfl ?_
  refine G.icge C d6_7 (by decide) (pt := 44) (by decide) rfl (fun q => absurd q (by decide)) (fun _ => ?_)
  refine G.aloadN C d6_10 rfl rfl rfl ?_
  refine G.iloadN C d6_11 rfl rfl ?_
  refine G.caload C oc2 (by decide) d6_12 rfl ?_
  show G p l e _ _ m _ below meth c n0 _ hn1 0 0 (mkF m 13 #[.val (.ref a1), .val (.int (1 : Int32)), .val (.ref a3), .val (.int (1 : Int32)), .val (.int (3 : Int32)), .val (.int (1 : Int32)), .val (.int c0)] [(.int c1)])
  refine G.istore C d6_13 (Ls' := #[.val (.ref a1), .val (.int (1 : Int32)), .val (.ref a3), .val (.int (1 : Int32)), .val (.int (3 : Int32)), .val (.int (1 : Int32)), .val (.int c1)]) rfl rfl ?_
  refine G.iload C d6_15 rfl rfl ?_
  refine G.sipush C d6_17 (v := (255 : Int32)) rfl rfl ?_
  refine G.icle C d6_20 (by decide) (pt := 26) (by decide) rfl (fun hc20 => ?_) (fun hc20 => absurd hc20 (own_le (by assumption)))
  refine G.aloadN C d6_26 rfl rfl rfl ?_
  refine G.iloadN C d6_27 rfl rfl ?_
  refine G.iload C d6_28 rfl rfl ?_
  refine G.i2b C d6_30 rfl ?_
  refine G.bastoreB C Awhn1 (by decide) ge d6_31 rfl (fun hn4 W31 => ?_)
  have Wbhn4 : Wr hn1 hn4 a3 1 (.int (c1.toInt8.toInt32)) := by have e := W31; rw [(own_nb _)] at e; exact e
  have oc5 := Ara.oth oc2 W31 ne
  have kp6 := Kp.wr kp3 W31 (Or.inl (by simp))
  have Awhn4 : Ara Z hn4 a3 .byte 3 (own_tab [(c0.toInt8.toInt32), (c1.toInt8.toInt32), (0 : Int32)]) := Ara.cast (Ara.set Awhn1 Wbhn4) (fun q hq => own_tset [(c0.toInt8.toInt32), (0 : Int32), (0 : Int32)] 1 (c1.toInt8.toInt32) (show 1 < 3 by decide) q)
  refine G.iinc C d6_32 rfl (z := (1 : Int32)) rfl (Ls' := #[.val (.ref a1), .val (.int ((1 : Int32) + (1 : Int32))), .val (.ref a3), .val (.int (1 : Int32)), .val (.int (3 : Int32)), .val (.int (1 : Int32)), .val (.int c1)]) rfl rfl ?_
  show G p l e _ _ m _ below meth c n0 _ hn4 0 0 (mkF m 35 #[.val (.ref a1), .val (.int (2 : Int32)), .val (.ref a3), .val (.int (1 : Int32)), .val (.int (3 : Int32)), .val (.int (1 : Int32)), .val (.int c1)] [])
  refine G.iinc C d6_35 rfl (z := (1 : Int32)) rfl (Ls' := #[.val (.ref a1), .val (.int (2 : Int32)), .val (.ref a3), .val (.int ((1 : Int32) + (1 : Int32))), .val (.int (3 : Int32)), .val (.int (1 : Int32)), .val (.int c1)]) rfl rfl ?_
  show G p l e _ _ m _ below meth c n0 _ hn4 0 0 (mkF m 38 #[.val (.ref a1), .val (.int (2 : Int32)), .val (.ref a3), .val (.int (2 : Int32)), .val (.int (3 : Int32)), .val (.int (1 : Int32)), .val (.int c1)] [])
  refine G.iinc C d6_38 rfl (z := (1 : Int32)) rfl (Ls' := #[.val (.ref a1), .val (.int (2 : Int32)), .val (.ref a3), .val (.int (2 : Int32)), .val (.int (3 : Int32)), .val (.int ((1 : Int32) + (1 : Int32))), .val (.int c1)]) rfl rfl ?_
  show G p l e _ _ m _ below meth c n0 _ hn4 0 0 (mkF m 41 #[.val (.ref a1), .val (.int (2 : Int32)), .val (.ref a3), .val (.int (2 : Int32)), .val (.int (3 : Int32)), .val (.int (2 : Int32)), .val (.int c1)] [])
  refine G.goto C d6_41 (by decide) (pc' := 3) (by decide) ?_
  refine G.iload C d6_3 rfl rfl ?_
  refine G.iload C d6_5 rfl rfl ?_
  refine G.icge C d6_7 (by decide) (pt := 44) (by decide) rfl (fun q => absurd q (by decide)) (fun _ => ?_)
  refine G.aloadN C d6_10 rfl rfl rfl ?_
  refine G.iloadN C d6_11 rfl rfl ?_
  refine G.caload C oc5 (by decide) d6_12 rfl ?_
  show G p l e _ _ m _ below meth c n0 _ hn4 0 0 (mkF m 13 #[.val (.ref a1), .val (.int (2 : Int32)), .val (.ref a3), .val (.int (2 : Int32)), .val (.int (3 : Int32)), .val (.int (2 : Int32)), .val (.int c1)] [(.int c2)])
  refine G.istore C d6_13 (Ls' := #[.val (.ref a1), .val (.int (2 : Int32)), .val (.ref a3), .val (.int (2 : Int32)), .val (.int (3 : Int32)), .val (.int (2 : Int32)), .val (.int c2)]) rfl rfl ?_
  refine G.iload C d6_15 rfl rfl ?_
  refine G.sipush C d6_17 (v := (255 : Int32)) rfl rfl ?_
  refine G.icle C d6_20 (by decide) (pt := 26) (by decide) rfl (fun hc20 => ?_) (fun hc20 => absurd hc20 (own_le (by assumption)))
  refine G.aloadN C d6_26 rfl rfl rfl ?_
  refine G.iloadN C d6_27 rfl rfl ?_
  refine G.iload C d6_28 rfl rfl ?_
  refine G.i2b C d6_30 rfl ?_
  refine G.bastoreB C Awhn4 (by decide) ge d6_31 rfl (fun hn7 W31 => ?_)
  have Wbhn7 : Wr hn4 hn7 a3 2 (.int (c2.toInt8.toInt32)) := by have e := W31; rw [(own_nb _)] at e; exact e
  have oc8 := Ara.oth oc5 W31 ne
  have kp9 := Kp.wr kp6 W31 (Or.inl (by simp))
  have Awhn7 : Ara Z hn7 a3 .byte 3 (own_tab [(c0.toInt8.toInt32), (c1.toInt8.toInt32), (c2.toInt8.toInt32)]) := Ara.cast (Ara.set Awhn4 Wbhn7) (fun q hq => own_tset [(c0.toInt8.toInt32), (c1.toInt8.toInt32), (0 : Int32)] 2 (c2.toInt8.toInt32) (show 2 < 3 by decide) q)
  refine G.iinc C d6_32 rfl (z := (1 : Int32)) rfl (Ls' := #[.val (.ref a1), .val (.int ((2 : Int32) + (1 : Int32))), .val (.ref a3), .val (.int (2 : Int32)), .val (.int (3 : Int32)), .val (.int (2 : Int32)), .val (.int c2)]) rfl rfl ?_
  show G p l e _ _ m _ below meth c n0 _ hn7 0 0 (mkF m 35 #[.val (.ref a1), .val (.int (3 : Int32)), .val (.ref a3), .val (.int (2 : Int32)), .val (.int (3 : Int32)), .val (.int (2 : Int32)), .val (.int c2)] [])
  refine G.iinc C d6_35 rfl (z := (1 : Int32)) rfl (Ls' := #[.val (.ref a1), .val (.int (3 : Int32)), .val (.ref a3), .val (.int ((2 : Int32) + (1 : Int32))), .val (.int (3 : Int32)), .val (.int (2 : Int32)), .val (.int c2)]) rfl rfl ?_
  show G p l e _ _ m _ below meth c n0 _ hn7 0 0 (mkF m 38 #[.val (.ref a1), .val (.int (3 : Int32)), .val (.ref a3), .val (.int (3 : Int32)), .val (.int (3 : Int32)), .val (.int (2 : Int32)), .val (.int c2)] [])
  refine G.iinc C d6_38 rfl (z := (1 : Int32)) rfl (Ls' := #[.val (.ref a1), .val (.int (3 : Int32)), .val (.ref a3), .val (.int (3 : Int32)), .val (.int (3 : Int32)), .val (.int ((2 : Int32) + (1 : Int32))), .val (.int c2)]) rfl rfl ?_
  show G p l e _ _ m _ below meth c n0 _ hn7 0 0 (mkF m 41 #[.val (.ref a1), .val (.int (3 : Int32)), .val (.ref a3), .val (.int (3 : Int32)), .val (.int (3 : Int32)), .val (.int (3 : Int32)), .val (.int c2)] [])
  refine G.goto C d6_41 (by decide) (pc' := 3) (by decide) ?_
  refine G.iload C d6_3 rfl rfl ?_
  refine G.iload C d6_5 rfl rfl ?_
  refine G.icge C d6_7 (by decide) (pt := 44) (by decide) rfl (fun _ => ?_) (fun q => absurd q (by decide))
  refine G.iload C d6_44 rfl rfl ?_
  exact G.retI C d6_46 (by decide) (by decide) (⟨rfl, Awhn7, kp9⟩)
theorem ef_cP3 (m : MethodId) (a1 : Addr) : entryFrame m #[(.ref a1), (.int (0 : Int32)), (.int (3 : Int32))] 6 = mkF m 0 #[.val (.ref a1), .val (.int (0 : Int32)), .val (.int (3 : Int32)), .unset, .unset, .unset] [] := by first | (simp [entryFrame, mkF, argsToLocals, Value.category]; done) | rfl
set_option maxRecDepth 65536 in
set_option maxHeartbeats 40000000 in
theorem cP3 (l : Launch) (Z : State) (a0 : Array Value) (hw : ∀ d ∈ tables_1, d.before a0 Z = true) (a1 : Addr) (h : Heap) (n0 : Nat) (c0 c1 c2 : Int32) (r0 : 0 ≤ c0.toInt ∧ c0.toInt ≤ 255) (r1 : 0 ≤ c1.toInt ∧ c1.toInt ≤ 255) (r2 : 0 ≤ c2.toInt ∧ c2.toInt ≤ 255) (A : Ara Z h a1 .char 3 (own_tab [c0, c1, c2])) (sz : n0 ≤ h.size) : Con l Z (⟨"java/lang/StringUTF16", "compress", "([CII)[B"⟩ : MethodName) jdk_52_method_16_code 6 (some (.array .byte)) ({ frames := 1, cells := 1, slots := 3, locals := 18 } : Room) #[(.ref a1), (.int (0 : Int32)), (.int (3 : Int32))] h n0 (fun v h' => ∃ b, v = some (.ref b) ∧ Ara Z h' b .byte 3 (own_tab [(c0.toInt8.toInt32), (c1.toInt8.toInt32), (c2.toInt8.toInt32)]) ∧ Kp h h' [] ∧ h.size ≤ b) := by
  refine Con.of (plainFor_of_name pn1) (fun m => ef_cP3 m a1) ?_
  intro p e s m below meth c C
  refine G.iloadN C d5_0 rfl rfl ?_
  refine G.newarr C (aty := .byte) (twd hw 19 rfl) (z := (3 : Int32)) (by decide) (cap := 3) (by decide) (by decide) d5_1 (by decide) (by decide) rfl (fun hn1 b1 g1 E1 A1 => ?_)
  have old1 := Nat.le_trans (Kp.refl h []).1.1 (Nat.le_of_eq g1.symm)
  have ne_a1_b1 : a1 ≠ b1 := by rw [g1]; exact Nat.ne_of_lt (Ara.lt A)
  have ge1 : n0 ≤ b1 := by rw [g1]; exact sz
  have oc2 := Ara.ext A E1
  have sz3 : n0 ≤ hn1.size := Nat.le_trans sz E1.1
  have kp4 := Kp.ext (Kp.refl h []) E1
  have AA1 : Ara Z hn1 b1 .byte 3 (own_tab [(0 : Int32), (0 : Int32), (0 : Int32)]) := Ara.cast A1 (fun q hq => own_t0 3 q)
  show G p l e _ _ m _ below meth c n0 _ hn1 1 3 (mkF m 3 #[.val (.ref a1), .val (.int (0 : Int32)), .val (.int (3 : Int32)), .unset, .unset, .unset] [(.ref b1)])
  refine G.astoreN C d5_3 rfl (Ls' := #[.val (.ref a1), .val (.int (0 : Int32)), .val (.int (3 : Int32)), .val (.ref b1), .unset, .unset]) rfl rfl ?_
  refine G.aloadN C d5_4 rfl rfl rfl ?_
  refine G.iloadN C d5_5 rfl rfl ?_
  refine G.aloadN C d5_6 rfl rfl rfl ?_
  refine G.iconst C d5_7 (v := (0 : Int32)) rfl rfl ?_
  refine G.iloadN C d5_8 rfl rfl ?_
  refine G.callS C (S := []) (W := 0) (twd hw 31 rfl) (twd hw 32 rfl) (twd hw 29 rfl) (twd hw 33 rfl) (by decide) (cK3 l Z a0 hw a1 b1 hn1 n0 c0 c1 c2 r0 r1 r2 oc2 AA1 ge1 ne_a1_b1) pd5 rfl rfl d5_9 rfl (Nat.le_of_eq rfl) (by decide) (by decide) (by decide) (by decide) rfl (fun whp5 hp5 hq6 => ?_)
  obtain ⟨rfl, Ak, Kk⟩ := hq6
  have oc7 := Ara.kp oc2 Kk (by simp [ne_a1_b1])
  have sz8 : n0 ≤ hp5.size := Nat.le_trans sz3 Kk.1.1
  have kp9 := Kp.trans kp4 Kk (by simp [old1])
  show G p l e _ _ m _ below meth c n0 _ hp5 1 3 (mkF m 12 #[.val (.ref a1), .val (.int (0 : Int32)), .val (.int (3 : Int32)), .val (.ref b1), .unset, .unset] [(.int (3 : Int32))])
  refine G.istore C d5_12 (Ls' := #[.val (.ref a1), .val (.int (0 : Int32)), .val (.int (3 : Int32)), .val (.ref b1), .val (.int (3 : Int32)), .unset]) rfl rfl ?_
  refine G.iload C d5_14 rfl rfl ?_
  refine G.iloadN C d5_16 rfl rfl ?_
  refine G.iceq C d5_17 (by decide) (pt := 57) (by decide) rfl (fun _ => ?_) (fun q => absurd q (by decide))
  refine G.aloadN C d5_57 rfl rfl rfl ?_
  exact G.retA C rfl rfl d5_58 (by decide) (by decide) rfl (⟨_, rfl, Ak, kp9, old1⟩)
theorem ef_cA3 (m : MethodId) (a1 : Addr) : entryFrame m #[(.ref a1), (.int (3 : Int32))] 2 = mkF m 0 #[.val (.ref a1), .val (.int (3 : Int32))] [] := by first | (simp [entryFrame, mkF, argsToLocals, Value.category]; done) | rfl
set_option maxRecDepth 65536 in
set_option maxHeartbeats 40000000 in
theorem cA3 (l : Launch) (Z : State) (a0 : Array Value) (hw : ∀ d ∈ tables_1, d.before a0 Z = true) (a1 : Addr) (h : Heap) (n0 : Nat) (F : Nat → Value) (A : Ara Z h a1 .byte 3 F) : Con l Z (⟨"java/lang/StringUTF16", "coderFromArrayLen", "([BI)B"⟩ : MethodName) jdk_52_method_15_code 2 (some .byte) ({ frames := 0, cells := 0, slots := 0, locals := 0 } : Room) #[(.ref a1), (.int (3 : Int32))] h n0 (Pv (.int (0 : Int32)) h) := by
  refine Con.of (plainFor_of_name pn1) (fun m => ef_cA3 m a1) ?_
  intro p e s m below meth c C
  refine G.iloadN C d7_0 rfl rfl ?_
  refine G.aloadN C d7_1 rfl rfl rfl ?_
  refine G.arrlen C A (z := (3 : Int32)) rfl d7_2 rfl ?_
  refine G.isub C d7_3 rfl ?_
  show G p l e _ _ m _ below meth c n0 _ h 0 0 (mkF m 4 #[.val (.ref a1), .val (.int (3 : Int32))] [(.int (0 : Int32))])
  refine G.bipush C d7_4 (v := (31 : Int32)) rfl rfl ?_
  refine G.iushr C d7_6 rfl ?_
  show G p l e _ _ m _ below meth c n0 _ h 0 0 (mkF m 7 #[.val (.ref a1), .val (.int (3 : Int32))] [(.int (0 : Int32))])
  refine G.i2b C d7_7 rfl ?_
  show G p l e _ _ m _ below meth c n0 _ h 0 0 (mkF m 8 #[.val (.ref a1), .val (.int (3 : Int32))] [(.int (0 : Int32))])
  exact G.retB C d7_8 (by decide) (by decide) rfl (⟨rfl, rfl⟩)
theorem ef_cV3 (m : MethodId) (a1 : Addr) (a2 : Addr) : entryFrame m #[(.ref a1), (.ref a2), (.int (0 : Int32)), (.int (3 : Int32)), .null] 6 = mkF m 0 #[.val (.ref a1), .val (.ref a2), .val (.int (0 : Int32)), .val (.int (3 : Int32)), .val .null, .unset] [] := by first | (simp [entryFrame, mkF, argsToLocals, Value.category]; done) | rfl
set_option maxRecDepth 65536 in
set_option maxHeartbeats 40000000 in
theorem cV3 (l : Launch) (Z : State) (a0 : Array Value) (hw : ∀ d ∈ tables_1, d.before a0 Z = true) (a1 : Addr) (a2 : Addr) (h : Heap) (n0 : Nat) (c0 c1 c2 : Int32) (r0 : 0 ≤ c0.toInt ∧ c0.toInt ≤ 255) (r1 : 0 ≤ c1.toInt ∧ c1.toInt ≤ 255) (r2 : 0 ≤ c2.toInt ∧ c2.toInt ≤ 255) (ge : n0 ≤ a1) (O : own_SV Z h a1 .null (.int (0 : Int32))) (A : Ara Z h a2 .char 3 (own_tab [c0, c1, c2])) (sz : n0 ≤ h.size) (ne : a1 ≠ a2) (cs : Int32) (hcs : ¬ cs = 0) (S_cs : Sta Z h "java/lang/String" "COMPACT_STRINGS" "Z" (.int cs)) : Con l Z (⟨"java/lang/String", "<init>", "([CIILjava/lang/Void;)V"⟩ : MethodName) jdk_42_method_149_code 6 none ({ frames := 2, cells := 1, slots := 3, locals := 35 } : Room) #[(.ref a1), (.ref a2), (.int (0 : Int32)), (.int (3 : Int32)), .null] h n0 (fun v h' => v = none ∧ ∃ b, own_SV Z h' a1 (.ref b) (.int (0 : Int32)) ∧ Ara Z h' b .byte 3 (own_tab [(c0.toInt8.toInt32), (c1.toInt8.toInt32), (c2.toInt8.toInt32)]) ∧ Kp h h' [a1]) := by
  refine Con.of (plainFor_of_name pn0) (fun m => ef_cV3 m a1 a2) ?_
  intro p e s m below meth c C
  refine G.aloadN C d3_0 rfl rfl rfl ?_
  refine G.initO C (W := 0) (twd hw 15 rfl) (twd hw 16 rfl) (twd hw 17 rfl) rfl d3_1 (by decide) (Nat.le_of_eq rfl) (by decide) rfl ?_
  refine G.iloadN C d3_4 rfl rfl ?_
  refine G.ifne C d3_5 (by decide) (pt := 27) (by decide) rfl (fun _ => ?_) (fun q => absurd q (by decide))
  refine G.getS C (twd hw 26 rfl) S_cs d3_27 rfl ?_
  refine G.ifeq C d3_30 (by decide) (pt := 58) (by decide) rfl (fun hc30 => absurd hc30 hcs) (fun hc30 => ?_)
  refine G.aloadN C d3_33 rfl rfl rfl ?_
  refine G.iloadN C d3_34 rfl rfl ?_
  refine G.iloadN C d3_35 rfl rfl ?_
  refine G.callS C (S := []) (W := 0) (twd hw 27 rfl) (twd hw 28 rfl) (twd hw 29 rfl) (twd hw 30 rfl) (by decide) (cP3 l Z a0 hw a2 h n0 c0 c1 c2 r0 r1 r2 A sz) pd4 rfl rfl d3_36 rfl (Nat.le_of_eq rfl) (by decide) (by decide) (by decide) (by decide) rfl (fun whp1 hp1 hq2 => ?_)
  obtain ⟨f36, rfl, A36, K36, g36⟩ := hq2
  have ne_a1_f36 : a1 ≠ f36 := Nat.ne_of_lt (Nat.lt_of_lt_of_le (Exa.lt (O).1) g36)
  have ne_a2_f36 : a2 ≠ f36 := Nat.ne_of_lt (Nat.lt_of_lt_of_le (Ara.lt A) g36)
  have oc3 := own_SV.keep O K36 (by simp)
  have sf4 := Sta.kp K36 S_cs
  have oc5 := Ara.kp A K36 (by simp)
  have sz6 : n0 ≤ hp1.size := Nat.le_trans sz K36.1.1
  have kp7 := Kp.trans (Kp.refl h [a1]) K36 (by simp)
  show G p l e _ _ m _ below meth c n0 _ hp1 1 3 (mkF m 39 #[.val (.ref a1), .val (.ref a2), .val (.int (0 : Int32)), .val (.int (3 : Int32)), .val .null, .unset] [(.ref f36)])
  refine G.astore C d3_39 rfl (Ls' := #[.val (.ref a1), .val (.ref a2), .val (.int (0 : Int32)), .val (.int (3 : Int32)), .val .null, .val (.ref f36)]) rfl rfl ?_
  refine G.aloadN C d3_41 rfl rfl rfl ?_
  refine G.aload C d3_42 rfl rfl rfl ?_
  refine G.iloadN C d3_44 rfl rfl ?_
  refine G.callSP C (S := [(.ref a1)]) (W := 1) (twd hw 34 rfl) (twd hw 35 rfl) (twd hw 29 rfl) (twd hw 36 rfl) (by decide) (cA3 l Z a0 hw f36 hp1 n0 _ A36) pd6 rfl rfl d3_45 rfl (Nat.le_of_eq rfl) (by decide) (by decide) rfl rfl (by decide) (by decide) rfl ?_
  refine G.putF C (twd hw 25 rfl) (oc3).2.2 (oc3).1 (Or.inr ⟨(twd hw 21 rfl), rfl, rfl⟩) (twd hw 5 rfl) (ty := .byte) (by decide) rfl rfl ge d3_48 rfl (fun hn8 W48 => ?_)
  have sf9 := Sta.wr W48 sf4
  have oc10 := Ara.oth oc5 W48 (Ne.symm ne)
  have oc11 := Ara.oth A36 W48 (Ne.symm ne_a1_f36)
  have sz12 : n0 ≤ hn8.size := (by rw [W48.size]; exact sz6)
  have kp13 := Kp.wr kp7 W48 (Or.inl (by simp))
  have oc14 := own_SV.w1 hw oc3 W48
  refine G.aloadN C d3_51 rfl rfl rfl ?_
  refine G.aload C d3_52 rfl rfl rfl ?_
  refine G.putF C (twd hw 24 rfl) (oc14).2.1 (oc14).1 (Or.inr ⟨(twd hw 20 rfl), rfl, rfl⟩) (twd hw 5 rfl) (ty := (.array .byte)) (by decide) rfl rfl ge d3_54 rfl (fun hn15 W54 => ?_)
  have sf16 := Sta.wr W54 sf9
  have oc17 := Ara.oth oc10 W54 (Ne.symm ne)
  have oc18 := Ara.oth oc11 W54 (Ne.symm ne_a1_f36)
  have sz19 : n0 ≤ hn15.size := (by rw [W54.size]; exact sz12)
  have kp20 := Kp.wr kp13 W54 (Or.inl (by simp))
  have oc21 := own_SV.w0 hw oc14 W54
  exact G.retV C d3_57 (by decide) (by decide) (⟨rfl, f36, oc21, oc18, kp20⟩)
theorem ef_cS3 (m : MethodId) (a1 : Addr) (a2 : Addr) : entryFrame m #[(.ref a1), (.ref a2)] 2 = mkF m 0 #[.val (.ref a1), .val (.ref a2)] [] := by first | (simp [entryFrame, mkF, argsToLocals, Value.category]; done) | rfl
set_option maxRecDepth 65536 in
set_option maxHeartbeats 40000000 in
theorem cS3 (l : Launch) (Z : State) (a0 : Array Value) (hw : ∀ d ∈ tables_1, d.before a0 Z = true) (a1 : Addr) (a2 : Addr) (h : Heap) (n0 : Nat) (c0 c1 c2 : Int32) (r0 : 0 ≤ c0.toInt ∧ c0.toInt ≤ 255) (r1 : 0 ≤ c1.toInt ∧ c1.toInt ≤ 255) (r2 : 0 ≤ c2.toInt ∧ c2.toInt ≤ 255) (ge : n0 ≤ a1) (O : own_SV Z h a1 .null (.int (0 : Int32))) (A : Ara Z h a2 .char 3 (own_tab [c0, c1, c2])) (sz : n0 ≤ h.size) (ne : a1 ≠ a2) (cs : Int32) (hcs : ¬ cs = 0) (S_cs : Sta Z h "java/lang/String" "COMPACT_STRINGS" "Z" (.int cs)) : Con l Z (⟨"java/lang/String", "<init>", "([C)V"⟩ : MethodName) jdk_42_method_3_code 2 none ({ frames := 3, cells := 1, slots := 3, locals := 52 } : Room) #[(.ref a1), (.ref a2)] h n0 (fun v h' => v = none ∧ ∃ b, own_SV Z h' a1 (.ref b) (.int (0 : Int32)) ∧ Ara Z h' b .byte 3 (own_tab [(c0.toInt8.toInt32), (c1.toInt8.toInt32), (c2.toInt8.toInt32)]) ∧ Kp h h' [a1]) := by
  refine Con.of (plainFor_of_name pn0) (fun m => ef_cS3 m a1 a2) ?_
  intro p e s m below meth c C
  refine G.aloadN C d2_0 rfl rfl rfl ?_
  refine G.aloadN C d2_1 rfl rfl rfl ?_
  refine G.iconst C d2_2 (v := (0 : Int32)) rfl rfl ?_
  refine G.aloadN C d2_3 rfl rfl rfl ?_
  refine G.arrlen C A (z := (3 : Int32)) rfl d2_4 rfl ?_
  refine G.aconst_null C d2_5 rfl ?_
  refine G.callI C (S := []) (W := 0) rfl (twd hw 11 rfl) (twd hw 12 rfl) (twd hw 6 rfl) (twd hw 14 rfl) (by decide) (cV3 l Z a0 hw a1 a2 h n0 c0 c1 c2 r0 r1 r2 ge O A sz ne cs hcs S_cs) pd2 rfl rfl d2_6 rfl (Nat.le_of_eq rfl) (by decide) (by decide) (by decide) (by decide) rfl (fun whp1 hp1 hq2 => ?_)
  obtain ⟨rfl, qe⟩ := hq2
  show G p l e _ _ m _ below meth c n0 _ hp1 1 3 (mkF m 9 #[.val (.ref a1), .val (.ref a2)] [])
  exact G.retV C d2_9 (by decide) (by decide) (⟨rfl, qe⟩)
theorem d21_0 : decode jdk_43_method_3_code 0 = .ok (.iload_n 0, 1) := by decide +kernel
theorem d21_1 : decode jdk_43_method_3_code 1 = .ok (.sipush 255, 3) := by decide +kernel
theorem d21_4 : decode jdk_43_method_3_code 4 = .ok (.if_icmp .gt 7, 3) := by decide +kernel
theorem d21_7 : decode jdk_43_method_3_code 7 = .ok (.iconst 1, 1) := by decide +kernel
theorem d21_8 : decode jdk_43_method_3_code 8 = .ok (.goto 4, 3) := by decide +kernel
theorem d21_11 : decode jdk_43_method_3_code 11 = .ok (.iconst 0, 1) := by decide +kernel
theorem d21_12 : decode jdk_43_method_3_code 12 = .ok (.ireturn, 1) := by decide +kernel
theorem pn2 : plainName "java/lang/StringLatin1" = true := by first | (simp [plainName, overriddenIn]; done) | decide +kernel
theorem ef_cCe (m : MethodId) (i1 : Int32) : entryFrame m #[(.int i1)] 1 = mkF m 0 #[.val (.int i1)] [] := by first | (simp [entryFrame, mkF, argsToLocals, Value.category]; done) | rfl
set_option maxRecDepth 65536 in
set_option maxHeartbeats 40000000 in
theorem cCe (l : Launch) (Z : State) (a0 : Array Value) (hw : ∀ d ∈ tables_1, d.before a0 Z = true) (i1 : Int32) (h : Heap) (n0 : Nat) (r : 0 ≤ i1.toInt ∧ i1.toInt ≤ 255) : Con l Z (⟨"java/lang/StringLatin1", "canEncode", "(C)Z"⟩ : MethodName) jdk_43_method_3_code 1 (some .boolean) ({ frames := 0, cells := 0, slots := 0, locals := 0 } : Room) #[(.int i1)] h n0 (Pv (.int (bi true)) h) := by
  refine Con.of (plainFor_of_name pn2) (fun m => ef_cCe m i1) ?_
  intro p e s m below meth c C
  refine G.iloadN C d21_0 rfl rfl ?_
  refine G.sipush C d21_1 (v := (255 : Int32)) rfl rfl ?_
  refine G.icgt C d21_4 (by decide) (pt := 11) (by decide) rfl (fun hc4 => absurd hc4 (own_le r)) (fun hc4 => ?_)
  refine G.iconst C d21_7 (v := (1 : Int32)) rfl rfl ?_
  refine G.goto C d21_8 (by decide) (pc' := 12) (by decide) ?_
  exact G.retZ C d21_12 (by decide) (by decide) rfl (⟨rfl, rfl⟩)
theorem d22_0 : decode jdk_43_method_46_code 0 = .ok (.iconst 1, 1) := by decide +kernel
theorem d22_1 : decode jdk_43_method_46_code 1 = .ok (.newarray .byte, 2) := by decide +kernel
theorem d22_3 : decode jdk_43_method_46_code 3 = .ok (.dup, 1) := by decide +kernel
theorem d22_4 : decode jdk_43_method_46_code 4 = .ok (.iconst 0, 1) := by decide +kernel
theorem d22_5 : decode jdk_43_method_46_code 5 = .ok (.iload_n 0, 1) := by decide +kernel
theorem d22_6 : decode jdk_43_method_46_code 6 = .ok (.i2b, 1) := by decide +kernel
theorem d22_7 : decode jdk_43_method_46_code 7 = .ok (.bastore, 1) := by decide +kernel
theorem d22_8 : decode jdk_43_method_46_code 8 = .ok (.areturn, 1) := by decide +kernel
theorem ef_cTb (m : MethodId) (i1 : Int32) : entryFrame m #[(.int i1)] 1 = mkF m 0 #[.val (.int i1)] [] := by first | (simp [entryFrame, mkF, argsToLocals, Value.category]; done) | rfl
set_option maxRecDepth 65536 in
set_option maxHeartbeats 40000000 in
theorem cTb (l : Launch) (Z : State) (a0 : Array Value) (hw : ∀ d ∈ tables_1, d.before a0 Z = true) (i1 : Int32) (h : Heap) (n0 : Nat) (sz : n0 ≤ h.size) : Con l Z (⟨"java/lang/StringLatin1", "toBytes", "(C)[B"⟩ : MethodName) jdk_43_method_46_code 1 (some (.array .byte)) ({ frames := 0, cells := 1, slots := 1, locals := 0 } : Room) #[(.int i1)] h n0 (fun v h' => ∃ b, v = some (.ref b) ∧ Ara Z h' b .byte 1 (own_tab [(i1.toInt8.toInt32)]) ∧ Kp h h' [] ∧ h.size ≤ b) := by
  refine Con.of (plainFor_of_name pn2) (fun m => ef_cTb m i1) ?_
  intro p e s m below meth c C
  refine G.iconst C d22_0 (v := (1 : Int32)) rfl rfl ?_
  refine G.newarr C (aty := .byte) (twd hw 19 rfl) (z := (1 : Int32)) (by decide) (cap := 1) (by decide) (by decide) d22_1 (by decide) (by decide) rfl (fun hn1 b1 g1 E1 A1 => ?_)
  have old1 := Nat.le_trans (Kp.refl h []).1.1 (Nat.le_of_eq g1.symm)
  have ge1 : n0 ≤ b1 := by rw [g1]; exact sz
  have sz2 : n0 ≤ hn1.size := Nat.le_trans sz E1.1
  have kp3 := Kp.ext (Kp.refl h []) E1
  have AA1 : Ara Z hn1 b1 .byte 1 (own_tab [(0 : Int32)]) := Ara.cast A1 (fun q hq => own_t0 1 q)
  show G p l e _ _ m _ below meth c n0 _ hn1 1 1 (mkF m 3 #[.val (.int i1)] [(.ref b1)])
  refine G.dup C d22_3 rfl rfl ?_
  refine G.iconst C d22_4 (v := (0 : Int32)) rfl rfl ?_
  refine G.iloadN C d22_5 rfl rfl ?_
  refine G.i2b C d22_6 rfl ?_
  refine G.bastoreB C AA1 (by decide) ge1 d22_7 rfl (fun hn4 W7 => ?_)
  have Wbhn4 : Wr hn1 hn4 b1 0 (.int (i1.toInt8.toInt32)) := by have e := W7; rw [(own_nb _)] at e; exact e
  have sz5 : n0 ≤ hn4.size := (by rw [W7.size]; exact sz2)
  have kp6 := Kp.wr kp3 W7 (Or.inr old1)
  have Awhn4 : Ara Z hn4 b1 .byte 1 (own_tab [(i1.toInt8.toInt32)]) := Ara.cast (Ara.set AA1 Wbhn4) (fun q hq => own_tset [(0 : Int32)] 0 (i1.toInt8.toInt32) (show 0 < 1 by decide) q)
  exact G.retA C rfl rfl d22_8 (by decide) (by decide) rfl (⟨_, rfl, Awhn4, kp6, old1⟩)
theorem d23_0 : decode jdk_42_method_151_code 0 = .ok (.aload_n 0, 1) := by decide +kernel
theorem d23_1 : decode jdk_42_method_151_code 1 = .ok (.invokespecial 1, 3) := by decide +kernel
theorem d23_4 : decode jdk_42_method_151_code 4 = .ok (.aload_n 0, 1) := by decide +kernel
theorem d23_5 : decode jdk_42_method_151_code 5 = .ok (.aload_n 1, 1) := by decide +kernel
theorem d23_6 : decode jdk_42_method_151_code 6 = .ok (.putfield 9, 3) := by decide +kernel
theorem d23_9 : decode jdk_42_method_151_code 9 = .ok (.aload_n 0, 1) := by decide +kernel
theorem d23_10 : decode jdk_42_method_151_code 10 = .ok (.iload_n 2, 1) := by decide +kernel
theorem d23_11 : decode jdk_42_method_151_code 11 = .ok (.putfield 15, 3) := by decide +kernel
theorem d23_14 : decode jdk_42_method_151_code 14 = .ok (.return_, 1) := by decide +kernel
theorem ef_cBb (m : MethodId) (a1 : Addr) (a2 : Addr) : entryFrame m #[(.ref a1), (.ref a2), (.int (0 : Int32))] 3 = mkF m 0 #[.val (.ref a1), .val (.ref a2), .val (.int (0 : Int32))] [] := by first | (simp [entryFrame, mkF, argsToLocals, Value.category]; done) | rfl
set_option maxRecDepth 65536 in
set_option maxHeartbeats 40000000 in
theorem cBb (l : Launch) (Z : State) (a0 : Array Value) (hw : ∀ d ∈ tables_1, d.before a0 Z = true) (a1 : Addr) (a2 : Addr) (h : Heap) (n0 : Nat) (ge : n0 ≤ a1) (O : own_SV Z h a1 .null (.int (0 : Int32))) : Con l Z (⟨"java/lang/String", "<init>", "([BB)V"⟩ : MethodName) jdk_42_method_151_code 3 none ({ frames := 1, cells := 0, slots := 0, locals := 12 } : Room) #[(.ref a1), (.ref a2), (.int (0 : Int32))] h n0 (fun v h' => v = none ∧ own_SV Z h' a1 (.ref a2) (.int (0 : Int32)) ∧ Kp h h' [a1]) := by
  refine Con.of (plainFor_of_name pn0) (fun m => ef_cBb m a1 a2) ?_
  intro p e s m below meth c C
  refine G.aloadN C d23_0 rfl rfl rfl ?_
  refine G.initO C (W := 0) (twd hw 15 rfl) (twd hw 16 rfl) (twd hw 17 rfl) rfl d23_1 (by decide) (Nat.le_of_eq rfl) (by decide) rfl ?_
  refine G.aloadN C d23_4 rfl rfl rfl ?_
  refine G.aloadN C d23_5 rfl rfl rfl ?_
  refine G.putF C (twd hw 24 rfl) (O).2.1 (O).1 (Or.inr ⟨(twd hw 20 rfl), rfl, rfl⟩) (twd hw 5 rfl) (ty := (.array .byte)) (by decide) rfl rfl ge d23_6 rfl (fun hn1 W6 => ?_)
  have kp2 := Kp.wr (Kp.refl h [a1]) W6 (Or.inl (by simp))
  have oc3 := own_SV.w0 hw O W6
  refine G.aloadN C d23_9 rfl rfl rfl ?_
  refine G.iloadN C d23_10 rfl rfl ?_
  refine G.putF C (twd hw 25 rfl) (oc3).2.2 (oc3).1 (Or.inr ⟨(twd hw 21 rfl), rfl, rfl⟩) (twd hw 5 rfl) (ty := .byte) (by decide) rfl rfl ge d23_11 rfl (fun hn4 W11 => ?_)
  have kp5 := Kp.wr kp2 W11 (Or.inl (by simp))
  have oc6 := own_SV.w1 hw oc3 W11
  exact G.retV C d23_14 (by decide) (by decide) (⟨rfl, oc6, kp5⟩)
theorem d20_0 : decode jdk_42_method_139_code 0 = .ok (.getstatic 38, 3) := by decide +kernel
theorem d20_3 : decode jdk_42_method_139_code 3 = .ok (.ifCond .eq 23, 3) := by decide +kernel
theorem d20_6 : decode jdk_42_method_139_code 6 = .ok (.iload_n 0, 1) := by decide +kernel
theorem d20_7 : decode jdk_42_method_139_code 7 = .ok (.invokestatic 1015, 3) := by decide +kernel
theorem d20_10 : decode jdk_42_method_139_code 10 = .ok (.ifCond .eq 16, 3) := by decide +kernel
theorem d20_13 : decode jdk_42_method_139_code 13 = .ok (.new 10, 3) := by decide +kernel
theorem d20_16 : decode jdk_42_method_139_code 16 = .ok (.dup, 1) := by decide +kernel
theorem d20_17 : decode jdk_42_method_139_code 17 = .ok (.iload_n 0, 1) := by decide +kernel
theorem d20_18 : decode jdk_42_method_139_code 18 = .ok (.invokestatic 1018, 3) := by decide +kernel
theorem d20_21 : decode jdk_42_method_139_code 21 = .ok (.iconst 0, 1) := by decide +kernel
theorem d20_22 : decode jdk_42_method_139_code 22 = .ok (.invokespecial 209, 3) := by decide +kernel
theorem d20_25 : decode jdk_42_method_139_code 25 = .ok (.areturn, 1) := by decide +kernel
theorem d20_26 : decode jdk_42_method_139_code 26 = .ok (.new 10, 3) := by decide +kernel
theorem d20_29 : decode jdk_42_method_139_code 29 = .ok (.dup, 1) := by decide +kernel
theorem d20_30 : decode jdk_42_method_139_code 30 = .ok (.iload_n 0, 1) := by decide +kernel
theorem d20_31 : decode jdk_42_method_139_code 31 = .ok (.invokestatic 1021, 3) := by decide +kernel
theorem d20_34 : decode jdk_42_method_139_code 34 = .ok (.iconst 1, 1) := by decide +kernel
theorem d20_35 : decode jdk_42_method_139_code 35 = .ok (.invokespecial 209, 3) := by decide +kernel
theorem d20_38 : decode jdk_42_method_139_code 38 = .ok (.areturn, 1) := by decide +kernel
theorem ef_cVo (m : MethodId) (i1 : Int32) : entryFrame m #[(.int i1)] 1 = mkF m 0 #[.val (.int i1)] [] := by first | (simp [entryFrame, mkF, argsToLocals, Value.category]; done) | rfl
set_option maxRecDepth 65536 in
set_option maxHeartbeats 40000000 in
theorem cVo (l : Launch) (Z : State) (a0 : Array Value) (hw : ∀ d ∈ tables_1, d.before a0 Z = true) (i1 : Int32) (h : Heap) (n0 : Nat) (r : 0 ≤ i1.toInt ∧ i1.toInt ≤ 255) (sz : n0 ≤ h.size) (cs : Int32) (hcs : ¬ cs = 0) (S_cs : Sta Z h "java/lang/String" "COMPACT_STRINGS" "Z" (.int cs)) : Con l Z (⟨"java/lang/String", "valueOf", "(C)Ljava/lang/String;"⟩ : MethodName) jdk_42_method_139_code 1 (some (.object "java/lang/String")) ({ frames := 2, cells := 2, slots := 5, locals := 27 } : Room) #[(.int i1)] h n0 (fun v h' => ∃ a va, v = some (.ref a) ∧ own_S Z h' a va [(i1.toInt8.toInt32)] ∧ Kp h h' [] ∧ h.size ≤ a) := by
  refine Con.of (plainFor_of_name pn0) (fun m => ef_cVo m i1) ?_
  intro p e s m below meth c C
  refine G.getS C (twd hw 26 rfl) S_cs d20_0 rfl ?_
  refine G.ifeq C d20_3 (by decide) (pt := 26) (by decide) rfl (fun hc3 => absurd hc3 hcs) (fun hc3 => ?_)
  refine G.iloadN C d20_6 rfl rfl ?_
  refine G.callSP C (S := []) (W := 0) (twd hw 104 rfl) (twd hw 105 rfl) (twd hw 76 rfl) (twd hw 106 rfl) (by decide) (cCe l Z a0 hw i1 h n0 r) pd19 rfl rfl d20_7 rfl (Nat.le_of_eq rfl) (by decide) (by decide) rfl rfl (by decide) (by decide) rfl ?_
  refine G.bfeq C d20_10 (by decide) (pt := 26) (by decide) rfl (fun q => absurd q (by decide)) (fun _ => ?_)
  refine G.newO C (twd hw 73 rfl) (twd hw 5 rfl) (twd hw 6 rfl) d20_13 (by decide) (by decide) rfl (fun hn1 b13 g13 E13 A13 D13 => ?_)
  have old13 := Nat.le_trans (Kp.refl h []).1.1 (Nat.le_of_eq g13.symm)
  have ge13 : n0 ≤ b13 := by rw [g13]; exact sz
  have sf2 := Sta.ext E13 S_cs
  have sz3 : n0 ≤ hn1.size := Nat.le_trans sz E13.1
  have kp4 := Kp.ext (Kp.refl h []) E13
  have ob13 := own_SV.new hw A13 D13
  show G p l e _ _ m _ below meth c n0 _ hn1 1 4 (mkF m 16 #[.val (.int i1)] [(.ref b13)])
  refine G.dup C d20_16 rfl rfl ?_
  refine G.iloadN C d20_17 rfl rfl ?_
  refine G.callS C (S := [(.ref b13), (.ref b13)]) (W := 2) (twd hw 107 rfl) (twd hw 108 rfl) (twd hw 76 rfl) (twd hw 109 rfl) (by decide) (cTb l Z a0 hw i1 hn1 n0 sz3) pd20 rfl rfl d20_18 rfl (Nat.le_of_eq rfl) (by decide) (by decide) (by decide) (by decide) rfl (fun whp5 hp5 hq6 => ?_)
  obtain ⟨f18, rfl, A18, K18, g18⟩ := hq6
  have ne_b13_f18 : b13 ≠ f18 := Nat.ne_of_lt (Nat.lt_of_lt_of_le (Exa.lt (ob13).1) g18)
  have sf7 := Sta.kp K18 sf2
  have oc8 := own_SV.keep ob13 K18 (by simp)
  have sz9 : n0 ≤ hp5.size := Nat.le_trans sz3 K18.1.1
  have kp10 := Kp.trans kp4 K18 (by simp)
  show G p l e _ _ m _ below meth c n0 _ hp5 2 5 (mkF m 21 #[.val (.int i1)] [(.ref f18), (.ref b13), (.ref b13)])
  refine G.iconst C d20_21 (v := (0 : Int32)) rfl rfl ?_
  refine G.callI C (S := [(.ref b13)]) (W := 1) rfl (twd hw 110 rfl) (twd hw 111 rfl) (twd hw 6 rfl) (twd hw 112 rfl) (by decide) (cBb l Z a0 hw b13 f18 hp5 n0 ge13 oc8) pd21 rfl rfl d20_22 rfl (Nat.le_of_eq rfl) (by decide) (by decide) (by decide) (by decide) rfl (fun whp11 hp11 hq12 => ?_)
  obtain ⟨rfl, O22, K22⟩ := hq12
  have sf13 := Sta.kp K22 sf7
  have oc14 := Ara.kp A18 K22 (by simp [(Ne.symm ne_b13_f18)])
  have sz15 : n0 ≤ hp11.size := Nat.le_trans sz9 K22.1.1
  have kp16 := Kp.trans kp10 K22 (by simp [old13])
  show G p l e _ _ m _ below meth c n0 _ hp11 2 5 (mkF m 25 #[.val (.int i1)] [(.ref b13)])
  exact G.retA C rfl rfl d20_25 (by decide) (by decide) rfl (⟨b13, f18, rfl, ⟨O22.1, O22.2.1, O22.2.2, oc14, (show 1 < 1000 by decide)⟩, kp16, old13⟩)
def own_ln (L : List Int32) : Int32 := Int32.ofInt (L.length : Int)
theorem own_ln_eq (L : List Int32) (h : L.length < 1000) : (own_ln L).toInt = L.length := by
  unfold own_ln
  exact Int32.toInt_ofInt_of_le (by omega) (by omega)
theorem own_sh0 (x : Int32) : x >>> ((0 : Int32) &&& 31) = x := by
  apply Int32.toInt_inj.mp
  have q := c_ishr x 0 0 (by decide)
  rw [q]; simp
theorem own_z0 (i : Int32) : i < 0 ↔ i.toInt < 0 := Int32.lt_iff_toInt_lt
theorem own_stp (i z : Int32) (h0 : 0 ≤ i.toInt) (h : i < z) : (i + 1).toInt = i.toInt + 1 := by
  have s := c_iadd i 1
  have r := rng32 (i + 1)
  have r2 := rng32 z
  have o : (1 : Int32).toInt = 1 := by decide
  have q := Int32.lt_iff_toInt_lt.mp h
  omega
def own_c (i s : Int32) : Int32 := ((((i.toUInt32 >>> (s &&& 31).toUInt32).toInt32) &&& (255 : Int32)).toUInt32.toUInt16.toUInt32.toInt32)
def own_tx (i : Int32) : List Int32 := if i &&& (3 : Int32) = 0 then [] else if i &&& (3 : Int32) = 1 then [(own_c i 8).toInt8.toInt32] else if i &&& (3 : Int32) = 2 then [(own_c i 8).toInt8.toInt32, (own_c i 16).toInt8.toInt32] else [(own_c i 8).toInt8.toInt32, (own_c i 16).toInt8.toInt32, (own_c i 24).toInt8.toInt32]
theorem own_tx0 {i k : Int32} (hk : (i &&& (3 : Int32)) = k) (h0 : k = 0) : own_tx i = [] := by subst hk; unfold own_tx; rw [if_pos h0]
theorem own_tx1 {i k u : Int32} (hk : (i &&& (3 : Int32)) = k) (h0 : ¬ k = 0) (h1 : k = 1) (hu : own_c i 8 = u) : own_tx i = [u.toInt8.toInt32] := by subst hk hu; unfold own_tx; rw [if_neg h0, if_pos h1]
theorem own_tx2 {i k u v : Int32} (hk : (i &&& (3 : Int32)) = k) (h0 : ¬ k = 0) (h1 : ¬ k = 1) (h2 : k = 2) (hu : own_c i 8 = u) (hv : own_c i 16 = v) : own_tx i = [u.toInt8.toInt32, v.toInt8.toInt32] := by subst hk hu hv; unfold own_tx; rw [if_neg h0, if_neg h1, if_pos h2]
theorem own_tx3 {i k u v w : Int32} (hk : (i &&& (3 : Int32)) = k) (h0 : ¬ k = 0) (h1 : ¬ k = 1) (h2 : ¬ k = 2) (hu : own_c i 8 = u) (hv : own_c i 16 = v) (hw : own_c i 24 = w) : own_tx i = [u.toInt8.toInt32, v.toInt8.toInt32, w.toInt8.toInt32] := by subst hk hu hv hw; unfold own_tx; rw [if_neg h0, if_neg h1, if_neg h2]
def own_bys (L : List Int32) : Prop := ∀ x ∈ L, -128 ≤ x.toInt ∧ x.toInt ≤ 127
theorem own_b8 (x : Int32) : -128 ≤ x.toInt8.toInt32.toInt ∧ x.toInt8.toInt32.toInt ≤ 127 := by have := c_i2b x; omega
theorem own_txb (i : Int32) : own_bys (own_tx i) := by
  intro x hx
  unfold own_tx at hx
  split at hx
  · cases hx
  · split at hx
    · simp only [List.mem_cons, List.not_mem_nil, or_false] at hx; rw [hx]; exact own_b8 _
    · split at hx
      · simp only [List.mem_cons, List.not_mem_nil, or_false] at hx; rcases hx with hx | hx <;> rw [hx] <;> exact own_b8 _
      · simp only [List.mem_cons, List.not_mem_nil, or_false] at hx; rcases hx with hx | hx | hx <;> rw [hx] <;> exact own_b8 _
theorem own_txl (i : Int32) : (own_tx i).length ≤ 3 := by
  unfold own_tx
  split
  · decide
  · split
    · show 1 ≤ 3; decide
    · split
      · show 2 ≤ 3; decide
      · show 3 ≤ 3; decide
def own_ch (L : List Int32) (i : Int32) : Int32 := ((L.getD i.toInt.toNat 0) &&& (255 : Int32)).toUInt32.toUInt16.toUInt32.toInt32
theorem own_narC {r : Int32} (h : 0 ≤ r.toInt ∧ r.toInt < 65536) : narrow .char (.int r) = .int r := by
  have q := c_i2c r
  have e : r.toUInt32.toUInt16.toUInt32.toInt32 = r := Int32.toInt_inj.mp (by omega)
  show Value.int (r.toUInt32.toUInt16.toUInt32.toInt32) = _
  rw [e]
theorem own_isref {v : Value} (h : v.isRef = true) : v = .null ∨ ∃ x, v = .ref x := by
  cases v with
  | null => exact Or.inl rfl
  | ref x => exact Or.inr ⟨x, rfl⟩
  | _ => cases h
theorem own_gm {L : List Int32} {j : Nat} (h : j < L.length) : L.getD j 0 ∈ L := by
  rw [List.getD_eq_getElem?_getD, List.getElem?_eq_getElem h]; exact List.getElem_mem h
theorem own_ck {L1 L2 : List Int32} (y1 : own_bys L1) (y2 : own_bys L2) {k : Int32} {j : Nat} (hk : k.toInt.toNat = j) (h1 : j < L1.length) (h2 : j < L2.length) (h : own_ch L1 k = own_ch L2 k) : L1.getD j 0 = L2.getD j 0 := by
  unfold own_ch at h
  rw [hk] at h
  have a1 := y1 _ (own_gm h1)
  have a2 := y2 _ (own_gm h2)
  have m1 := c_mask (L1.getD j 0) 255 8 (by decide) (by decide)
  have m2 := c_mask (L2.getD j 0) 255 8 (by decide) (by decide)
  have i1 := c_i2c (L1.getD j 0 &&& 255)
  have i2 := c_i2c (L2.getD j 0 &&& 255)
  have e := congrArg Int32.toInt h
  apply Int32.toInt_inj.mp
  omega
theorem own_ext {L1 L2 : List Int32} (hl : L1.length = L2.length) (h : ∀ q, q < L1.length → L1.getD q 0 = L2.getD q 0) : L1 = L2 := by
  apply List.ext_getElem hl
  intro i h1 h2
  have := h i h1
  rw [List.getD_eq_getElem?_getD, List.getD_eq_getElem?_getD, List.getElem?_eq_getElem h1, List.getElem?_eq_getElem h2] at this
  exact this
theorem own_lenE {L1 L2 : List Int32} (b1 : L1.length < 1000) (b2 : L2.length < 1000) (h : own_ln L1 = own_ln L2) : L1.length = L2.length := by
  have a := own_ln_eq L1 b1
  have b := own_ln_eq L2 b2
  rw [h] at a; omega
theorem own_inL {L : List Int32} (b : L.length < 1000) {k : Int32} (h0 : 0 ≤ k.toInt) (h : k < own_ln L) : 0 ≤ k.toInt ∧ k.toInt < L.length := by
  rw [Int32.lt_iff_toInt_lt, own_ln_eq L b] at h; exact ⟨h0, h⟩
theorem own_same3 {L1 L2 : List Int32} (b1 : L1.length < 1000) (b2 : L2.length < 1000) (l1 : L1.length ≤ 3) (y1 : own_bys L1) (y2 : own_bys L2) (he : own_ln L1 = own_ln L2) (h0 : own_ch L1 0 = own_ch L2 0 ∨ ¬ (0 : Int32) < own_ln L1) (h1 : own_ch L1 1 = own_ch L2 1 ∨ ¬ (1 : Int32) < own_ln L1) (h2 : own_ch L1 2 = own_ch L2 2 ∨ ¬ (2 : Int32) < own_ln L1) : L1 = L2 := by
  have hl := own_lenE b1 b2 he
  have hn := own_ln_eq L1 b1
  have o0 : (0 : Int32).toInt = 0 := by decide
  have o1 : (1 : Int32).toInt = 1 := by decide
  have o2 : (2 : Int32).toInt = 2 := by decide
  rw [Int32.lt_iff_toInt_lt, hn] at h0 h1 h2
  apply own_ext hl
  intro q hq
  have hc : q = 0 ∨ q = 1 ∨ q = 2 := by omega
  rcases hc with rfl | rfl | rfl
  · rcases h0 with h | h
    · exact own_ck y1 y2 (by decide) hq (by omega) h
    · omega
  · rcases h1 with h | h
    · exact own_ck y1 y2 (by decide) hq (by omega) h
    · omega
  · rcases h2 with h | h
    · exact own_ck y1 y2 (by decide) hq (by omega) h
    · omega
/-- a class whose superclass is Object is no subclass of another, plain one -/
theorem Ins.no2 {Z : State} {h : Heap} {a0 : Array Value} {D K : String} {a : Addr} {kk : Nat} (E : Exa Z h a D) (w2 : (Jvm.Cond.superclass D "java/lang/Object").before a0 Z = true) (w3 : (Jvm.Cond.noSuperclass "java/lang/Object").before a0 Z = true) (w4 : (Jvm.Cond.instantiable K kk).before a0 Z = true) (h2 : D ≠ K) (h3 : "java/lang/Object" ≠ K) : Ins Z h a K false := by
  obtain ⟨cell, k0, e1, e2, e3, e4, -⟩ := E
  obtain ⟨cT, kT, i1, i2, i3, i4, i5⟩ := Cond.instantiable_spec w4
  obtain ⟨p2, k2, kp2, b1, b2, b3, b4, b5, b6, b7⟩ := Cond.superclass_spec e2 w2
  obtain ⟨c3, k3, d1, d2, d3, d4, d5⟩ := Cond.noSuperclass_spec w3
  cases b1.symm.trans d1
  have nm : ∀ {A B : String} {c : ClassId}, Z.vm.findClass A = some c → Z.vm.findClass B = some c → A = B := fun ha hb => by
    obtain ⟨k, q1, q2⟩ := Vm.findClass_spec ha
    obtain ⟨k', r1, r2⟩ := Vm.findClass_spec hb
    cases q1.symm.trans r1
    exact q2.symm.trans r2
  cases b2.symm.trans e3
  have n2 : cell.cls ≠ cT := fun q => h2 (nm e2 (q ▸ i1))
  have n3 : p2 ≠ cT := fun q => h3 (nm b1 (q ▸ i1))
  have hs : Z.vm.isSubclass cell.cls cT = false := own_notsub _ _ [p2] (by
    intro x hx
    simp only [List.mem_cons, List.not_mem_nil, or_false] at hx
    rcases hx with rfl | rfl
    · exact n2
    · exact n3) ⟨_, b2, b4⟩ (fun i hi => by simp at hi) (fun q hq => by
      have : q = p2 := by simpa using hq.symm
      subst this
      exact ⟨_, d2, d3⟩)
  have ni : kT.isInterface = false := by
    cases z : kT.isInterface with
    | false => rfl
    | true => simp [z] at i4
  refine ⟨cell, cT, e1, i1, ?_⟩
  rw [e4]
  show (true && Z.vm.assignable cell.cls cT) = false
  simp [Vm.assignable, Vm.assignableAux, n2, b2, i2, b5, i3, ni, hs]
theorem d16_0 : decode jdk_42_method_154_code 0 = .ok (.getstatic 38, 3) := by decide +kernel
theorem d16_3 : decode jdk_42_method_154_code 3 = .ok (.ifCond .eq 14, 3) := by decide +kernel
theorem d16_6 : decode jdk_42_method_154_code 6 = .ok (.aload_n 0, 1) := by decide +kernel
theorem d16_7 : decode jdk_42_method_154_code 7 = .ok (.getfield 15, 3) := by decide +kernel
theorem d16_10 : decode jdk_42_method_154_code 10 = .ok (.ifCond .ne 7, 3) := by decide +kernel
theorem d16_13 : decode jdk_42_method_154_code 13 = .ok (.iconst 1, 1) := by decide +kernel
theorem d16_14 : decode jdk_42_method_154_code 14 = .ok (.goto 4, 3) := by decide +kernel
theorem d16_17 : decode jdk_42_method_154_code 17 = .ok (.iconst 0, 1) := by decide +kernel
theorem d16_18 : decode jdk_42_method_154_code 18 = .ok (.ireturn, 1) := by decide +kernel
theorem ef_c16 (m : MethodId) (a1 : Addr) : entryFrame m #[(.ref a1)] 1 = mkF m 0 #[.val (.ref a1)] [] := by first | (simp [entryFrame, mkF, argsToLocals, Value.category]; done) | rfl
set_option maxRecDepth 65536 in
set_option maxHeartbeats 40000000 in
theorem c16 (l : Launch) (Z : State) (a0 : Array Value) (hw : ∀ d ∈ tables_1, d.before a0 Z = true) (a1 : Addr) (h : Heap) (n0 : Nat) (va : Addr) (L : List Int32) (cs : Int32) (hcs : ¬ cs = 0) (S_cs : Sta Z h "java/lang/String" "COMPACT_STRINGS" "Z" (.int cs)) (O : own_S Z h a1 va L) : Con l Z (⟨"java/lang/String", "isLatin1", "()Z"⟩ : MethodName) jdk_42_method_154_code 1 (some .boolean) ({ frames := 0, cells := 0, slots := 0, locals := 0 } : Room) #[(.ref a1)] h n0 (Pv (.int (bi true)) h) := by
  refine Con.of (plainFor_of_name pn0) (fun m => ef_c16 m a1) ?_
  intro p e s m below meth c C
  refine G.getS C (twd hw 26 rfl) S_cs d16_0 rfl ?_
  refine G.ifeq C d16_3 (by decide) (pt := 17) (by decide) rfl (fun hc3 => absurd hc3 hcs) (fun hc3 => ?_)
  refine G.aloadN C d16_6 rfl rfl rfl ?_
  refine G.getF C (twd hw 25 rfl) O.2.2.1 d16_7 rfl ?_
  refine G.ifne C d16_10 (by decide) (pt := 17) (by decide) rfl (fun q => absurd q (by decide)) (fun _ => ?_)
  refine G.iconst C d16_13 (v := (1 : Int32)) rfl rfl ?_
  refine G.goto C d16_14 (by decide) (pc' := 18) (by decide) ?_
  exact G.retZ C d16_18 (by decide) (by decide) rfl (⟨rfl, rfl⟩)
theorem d10_0 : decode jdk_42_method_152_code 0 = .ok (.getstatic 38, 3) := by decide +kernel
theorem d10_3 : decode jdk_42_method_152_code 3 = .ok (.ifCond .eq 10, 3) := by decide +kernel
theorem d10_6 : decode jdk_42_method_152_code 6 = .ok (.aload_n 0, 1) := by decide +kernel
theorem d10_7 : decode jdk_42_method_152_code 7 = .ok (.getfield 15, 3) := by decide +kernel
theorem d10_10 : decode jdk_42_method_152_code 10 = .ok (.goto 4, 3) := by decide +kernel
theorem d10_13 : decode jdk_42_method_152_code 13 = .ok (.iconst 1, 1) := by decide +kernel
theorem d10_14 : decode jdk_42_method_152_code 14 = .ok (.ireturn, 1) := by decide +kernel
theorem ef_c10 (m : MethodId) (a1 : Addr) : entryFrame m #[(.ref a1)] 1 = mkF m 0 #[.val (.ref a1)] [] := by first | (simp [entryFrame, mkF, argsToLocals, Value.category]; done) | rfl
set_option maxRecDepth 65536 in
set_option maxHeartbeats 40000000 in
theorem c10 (l : Launch) (Z : State) (a0 : Array Value) (hw : ∀ d ∈ tables_1, d.before a0 Z = true) (a1 : Addr) (h : Heap) (n0 : Nat) (va : Addr) (L : List Int32) (cs : Int32) (hcs : ¬ cs = 0) (S_cs : Sta Z h "java/lang/String" "COMPACT_STRINGS" "Z" (.int cs)) (O : own_S Z h a1 va L) : Con l Z (⟨"java/lang/String", "coder", "()B"⟩ : MethodName) jdk_42_method_152_code 1 (some .byte) ({ frames := 0, cells := 0, slots := 0, locals := 0 } : Room) #[(.ref a1)] h n0 (Pv (.int (0 : Int32)) h) := by
  refine Con.of (plainFor_of_name pn0) (fun m => ef_c10 m a1) ?_
  intro p e s m below meth c C
  refine G.getS C (twd hw 26 rfl) S_cs d10_0 rfl ?_
  refine G.ifeq C d10_3 (by decide) (pt := 13) (by decide) rfl (fun hc3 => absurd hc3 hcs) (fun hc3 => ?_)
  refine G.aloadN C d10_6 rfl rfl rfl ?_
  refine G.getF C (twd hw 25 rfl) O.2.2.1 d10_7 rfl ?_
  refine G.goto C d10_10 (by decide) (pc' := 14) (by decide) ?_
  exact G.retB C d10_14 (by decide) (by decide) rfl (⟨rfl, rfl⟩)
theorem d9_0 : decode jdk_42_method_54_code 0 = .ok (.aload_n 0, 1) := by decide +kernel
theorem d9_1 : decode jdk_42_method_54_code 1 = .ok (.getfield 9, 3) := by decide +kernel
theorem d9_4 : decode jdk_42_method_54_code 4 = .ok (.arraylength, 1) := by decide +kernel
theorem d9_5 : decode jdk_42_method_54_code 5 = .ok (.aload_n 0, 1) := by decide +kernel
theorem d9_6 : decode jdk_42_method_54_code 6 = .ok (.invokevirtual 335, 3) := by decide +kernel
theorem d9_9 : decode jdk_42_method_54_code 9 = .ok (.ishr, 1) := by decide +kernel
theorem d9_10 : decode jdk_42_method_54_code 10 = .ok (.ireturn, 1) := by decide +kernel
theorem ef_c9 (m : MethodId) (a1 : Addr) : entryFrame m #[(.ref a1)] 1 = mkF m 0 #[.val (.ref a1)] [] := by first | (simp [entryFrame, mkF, argsToLocals, Value.category]; done) | rfl
set_option maxRecDepth 65536 in
set_option maxHeartbeats 40000000 in
theorem c9 (l : Launch) (Z : State) (a0 : Array Value) (hw : ∀ d ∈ tables_1, d.before a0 Z = true) (a1 : Addr) (h : Heap) (n0 : Nat) (va : Addr) (L : List Int32) (cs : Int32) (hcs : ¬ cs = 0) (S_cs : Sta Z h "java/lang/String" "COMPACT_STRINGS" "Z" (.int cs)) (O : own_S Z h a1 va L) : Con l Z (⟨"java/lang/String", "length", "()I"⟩ : MethodName) jdk_42_method_54_code 1 (some .int) ({ frames := 1, cells := 0, slots := 0, locals := 13 } : Room) #[(.ref a1)] h n0 (Pv (.int (own_ln L)) h) := by
  refine Con.of (plainFor_of_name pn0) (fun m => ef_c9 m a1) ?_
  intro p e s m below meth c C
  refine G.aloadN C d9_0 rfl rfl rfl ?_
  refine G.getF C (twd hw 24 rfl) O.2.1 d9_1 rfl ?_
  refine G.arrlen C O.2.2.2.1 (own_ln_eq L O.2.2.2.2) d9_4 rfl ?_
  refine G.aloadN C d9_5 rfl rfl rfl ?_
  refine G.callVP C (S := [(.int (own_ln L))]) (W := 1) (twd hw 45 rfl) (twd hw 47 rfl) (twd hw 6 rfl) (twd hw 49 rfl) (twd hw 46 rfl) (twd hw 48 rfl) O.1 (by decide) (c10 l Z a0 hw a1 h n0 va L cs hcs S_cs O) pd9 rfl rfl d9_6 rfl (Nat.le_of_eq rfl) (by decide) (by decide) rfl rfl (by decide) (by decide) rfl ?_
  refine G.ishr C d9_9 rfl ?_
  exact G.retI C d9_10 (by decide) (by decide) (⟨by rw [own_sh0], rfl⟩)
theorem d19_0 : decode jdk_41_method_11_code 0 = .ok (.iload_n 0, 1) := by decide +kernel
theorem d19_1 : decode jdk_41_method_11_code 1 = .ok (.ifCond .lt 8, 3) := by decide +kernel
theorem d19_4 : decode jdk_41_method_11_code 4 = .ok (.iload_n 0, 1) := by decide +kernel
theorem d19_5 : decode jdk_41_method_11_code 5 = .ok (.iload_n 1, 1) := by decide +kernel
theorem d19_6 : decode jdk_41_method_11_code 6 = .ok (.if_icmp .lt 10, 3) := by decide +kernel
theorem d19_9 : decode jdk_41_method_11_code 9 = .ok (.aload_n 2, 1) := by decide +kernel
theorem d19_10 : decode jdk_41_method_11_code 10 = .ok (.iload_n 0, 1) := by decide +kernel
theorem d19_11 : decode jdk_41_method_11_code 11 = .ok (.iload_n 1, 1) := by decide +kernel
theorem d19_12 : decode jdk_41_method_11_code 12 = .ok (.invokestatic 95, 3) := by decide +kernel
theorem d19_15 : decode jdk_41_method_11_code 15 = .ok (.athrow, 1) := by decide +kernel
theorem d19_16 : decode jdk_41_method_11_code 16 = .ok (.iload_n 0, 1) := by decide +kernel
theorem d19_17 : decode jdk_41_method_11_code 17 = .ok (.ireturn, 1) := by decide +kernel
theorem pn3 : plainName "jdk/internal/util/Preconditions" = true := by first | (simp [plainName, overriddenIn]; done) | decide +kernel
theorem ef_c19 (m : MethodId) (i1 : Int32) (i2 : Int32) (a3 : Addr) : entryFrame m #[(.int i1), (.int i2), (.ref a3)] 3 = mkF m 0 #[.val (.int i1), .val (.int i2), .val (.ref a3)] [] := by first | (simp [entryFrame, mkF, argsToLocals, Value.category]; done) | rfl
set_option maxRecDepth 65536 in
set_option maxHeartbeats 40000000 in
theorem c19 (l : Launch) (Z : State) (a0 : Array Value) (hw : ∀ d ∈ tables_1, d.before a0 Z = true) (i1 : Int32) (i2 : Int32) (a3 : Addr) (h : Heap) (n0 : Nat) (hi : 0 ≤ i1.toInt ∧ i1.toInt < i2.toInt) : Con l Z (⟨"jdk/internal/util/Preconditions", "checkIndex", "(IILjava/util/function/BiFunction;)I"⟩ : MethodName) jdk_41_method_11_code 3 (some .int) ({ frames := 0, cells := 0, slots := 0, locals := 0 } : Room) #[(.int i1), (.int i2), (.ref a3)] h n0 (Pv (.int i1) h) := by
  refine Con.of (plainFor_of_name pn3) (fun m => ef_c19 m i1 i2 a3) ?_
  intro p e s m below meth c C
  refine G.iloadN C d19_0 rfl rfl ?_
  refine G.iflt C d19_1 (by decide) (pt := 9) (by decide) rfl (fun hc1 => absurd hc1 (by rw [Int32.lt_iff_toInt_lt]; show ¬ (i1.toInt < 0); omega)) (fun hc1 => ?_)
  refine G.iloadN C d19_4 rfl rfl ?_
  refine G.iloadN C d19_5 rfl rfl ?_
  refine G.iclt C d19_6 (by decide) (pt := 16) (by decide) rfl (fun hc6 => ?_) (fun hc6 => absurd (by rw [Int32.lt_iff_toInt_lt]; omega) hc6)
  refine G.iloadN C d19_16 rfl rfl ?_
  exact G.retI C d19_17 (by decide) (by decide) (⟨rfl, rfl⟩)
theorem ef_cKn (m : MethodId) (i1 : Int32) (i2 : Int32) : entryFrame m #[(.int i1), (.int i2), .null] 3 = mkF m 0 #[.val (.int i1), .val (.int i2), .val .null] [] := by first | (simp [entryFrame, mkF, argsToLocals, Value.category]; done) | rfl
set_option maxRecDepth 65536 in
set_option maxHeartbeats 40000000 in
theorem cKn (l : Launch) (Z : State) (a0 : Array Value) (hw : ∀ d ∈ tables_1, d.before a0 Z = true) (i1 : Int32) (i2 : Int32) (h : Heap) (n0 : Nat) (hi : 0 ≤ i1.toInt ∧ i1.toInt < i2.toInt) : Con l Z (⟨"jdk/internal/util/Preconditions", "checkIndex", "(IILjava/util/function/BiFunction;)I"⟩ : MethodName) jdk_41_method_11_code 3 (some .int) ({ frames := 0, cells := 0, slots := 0, locals := 0 } : Room) #[(.int i1), (.int i2), .null] h n0 (Pv (.int i1) h) := by
  refine Con.of (plainFor_of_name pn3) (fun m => ef_cKn m i1 i2) ?_
  intro p e s m below meth c C
  refine G.iloadN C d19_0 rfl rfl ?_
  refine G.iflt C d19_1 (by decide) (pt := 9) (by decide) rfl (fun hc1 => absurd hc1 (by rw [Int32.lt_iff_toInt_lt]; show ¬ (i1.toInt < 0); omega)) (fun hc1 => ?_)
  refine G.iloadN C d19_4 rfl rfl ?_
  refine G.iloadN C d19_5 rfl rfl ?_
  refine G.iclt C d19_6 (by decide) (pt := 16) (by decide) rfl (fun hc6 => ?_) (fun hc6 => absurd (by rw [Int32.lt_iff_toInt_lt]; omega) hc6)
  refine G.iloadN C d19_16 rfl rfl ?_
  exact G.retI C d19_17 (by decide) (by decide) (⟨rfl, rfl⟩)
theorem d18_0 : decode jdk_42_method_155_code 0 = .ok (.iload_n 0, 1) := by decide +kernel
theorem d18_1 : decode jdk_42_method_155_code 1 = .ok (.iload_n 1, 1) := by decide +kernel
theorem d18_2 : decode jdk_42_method_155_code 2 = .ok (.getstatic 1053, 3) := by decide +kernel
theorem d18_5 : decode jdk_42_method_155_code 5 = .ok (.invokestatic 1059, 3) := by decide +kernel
theorem d18_8 : decode jdk_42_method_155_code 8 = .ok (.pop, 1) := by decide +kernel
theorem d18_9 : decode jdk_42_method_155_code 9 = .ok (.return_, 1) := by decide +kernel
theorem ef_c18 (m : MethodId) (i1 : Int32) (i2 : Int32) : entryFrame m #[(.int i1), (.int i2)] 2 = mkF m 0 #[.val (.int i1), .val (.int i2)] [] := by first | (simp [entryFrame, mkF, argsToLocals, Value.category]; done) | rfl
set_option maxRecDepth 65536 in
set_option maxHeartbeats 40000000 in
theorem c18 (l : Launch) (Z : State) (a0 : Array Value) (hw : ∀ d ∈ tables_1, d.before a0 Z = true) (i1 : Int32) (i2 : Int32) (h : Heap) (n0 : Nat) (hi : 0 ≤ i1.toInt ∧ i1.toInt < i2.toInt) (fm : Value) (hfm : fm.isRef = true) (S_fm : Sta Z h "jdk/internal/util/Preconditions" "SIOOBE_FORMATTER" "Ljava/util/function/BiFunction;" fm) : Con l Z (⟨"java/lang/String", "checkIndex", "(II)V"⟩ : MethodName) jdk_42_method_155_code 2 none ({ frames := 1, cells := 0, slots := 0, locals := 14 } : Room) #[(.int i1), (.int i2)] h n0 (fun v h' => v = none ∧ h' = h) := by
  refine Con.of (plainFor_of_name pn0) (fun m => ef_c18 m i1 i2) ?_
  intro p e s m below meth c C
  refine G.iloadN C d18_0 rfl rfl ?_
  refine G.iloadN C d18_1 rfl rfl ?_
  rcases own_isref hfm with rfl | ⟨fa, rfl⟩
  · refine G.getS C (twd hw 96 rfl) S_fm d18_2 rfl ?_
    refine G.callSP C (S := []) (W := 0) (twd hw 98 rfl) (twd hw 99 rfl) (twd hw 97 rfl) (twd hw 100 rfl) (by decide) (cKn l Z a0 hw i1 i2 h n0 hi) pd17 rfl rfl d18_5 rfl (Nat.le_of_eq rfl) (by decide) (by decide) rfl rfl (by decide) (by decide) rfl ?_
    refine G.pop C d18_8 rfl rfl ?_
    exact G.retV C d18_9 (by decide) (by decide) (⟨rfl, rfl⟩)
  · refine G.getS C (twd hw 96 rfl) S_fm d18_2 rfl ?_
    refine G.callSP C (S := []) (W := 0) (twd hw 98 rfl) (twd hw 99 rfl) (twd hw 97 rfl) (twd hw 100 rfl) (by decide) (c19 l Z a0 hw i1 i2 fa h n0 hi) pd17 rfl rfl d18_5 rfl (Nat.le_of_eq rfl) (by decide) (by decide) rfl rfl (by decide) (by decide) rfl ?_
    refine G.pop C d18_8 rfl rfl ?_
    exact G.retV C d18_9 (by decide) (by decide) (⟨rfl, rfl⟩)
theorem d17_0 : decode jdk_43_method_2_code 0 = .ok (.iload_n 1, 1) := by decide +kernel
theorem d17_1 : decode jdk_43_method_2_code 1 = .ok (.aload_n 0, 1) := by decide +kernel
theorem d17_2 : decode jdk_43_method_2_code 2 = .ok (.arraylength, 1) := by decide +kernel
theorem d17_3 : decode jdk_43_method_2_code 3 = .ok (.invokestatic 9, 3) := by decide +kernel
theorem d17_6 : decode jdk_43_method_2_code 6 = .ok (.aload_n 0, 1) := by decide +kernel
theorem d17_7 : decode jdk_43_method_2_code 7 = .ok (.iload_n 1, 1) := by decide +kernel
theorem d17_8 : decode jdk_43_method_2_code 8 = .ok (.baload, 1) := by decide +kernel
theorem d17_9 : decode jdk_43_method_2_code 9 = .ok (.sipush 255, 3) := by decide +kernel
theorem d17_12 : decode jdk_43_method_2_code 12 = .ok (.iand, 1) := by decide +kernel
theorem d17_13 : decode jdk_43_method_2_code 13 = .ok (.i2c, 1) := by decide +kernel
theorem d17_14 : decode jdk_43_method_2_code 14 = .ok (.ireturn, 1) := by decide +kernel
theorem ef_c17 (m : MethodId) (a1 : Addr) (i2 : Int32) : entryFrame m #[(.ref a1), (.int i2)] 2 = mkF m 0 #[.val (.ref a1), .val (.int i2)] [] := by first | (simp [entryFrame, mkF, argsToLocals, Value.category]; done) | rfl
set_option maxRecDepth 65536 in
set_option maxHeartbeats 40000000 in
theorem c17 (l : Launch) (Z : State) (a0 : Array Value) (hw : ∀ d ∈ tables_1, d.before a0 Z = true) (a1 : Addr) (i2 : Int32) (h : Heap) (n0 : Nat) (L : List Int32) (A : Ara Z h a1 .byte L.length (own_tab L)) (hL : L.length < 1000) (hi : 0 ≤ i2.toInt ∧ i2.toInt < L.length) (fm : Value) (hfm : fm.isRef = true) (S_fm : Sta Z h "jdk/internal/util/Preconditions" "SIOOBE_FORMATTER" "Ljava/util/function/BiFunction;" fm) : Con l Z (⟨"java/lang/StringLatin1", "charAt", "([BI)C"⟩ : MethodName) jdk_43_method_2_code 2 (some .char) ({ frames := 2, cells := 0, slots := 0, locals := 27 } : Room) #[(.ref a1), (.int i2)] h n0 (Pv (.int (own_ch L i2)) h) := by
  refine Con.of (plainFor_of_name pn2) (fun m => ef_c17 m a1 i2) ?_
  intro p e s m below meth c C
  refine G.iloadN C d17_0 rfl rfl ?_
  refine G.aloadN C d17_1 rfl rfl rfl ?_
  refine G.arrlen C A (own_ln_eq L hL) d17_2 rfl ?_
  refine G.callS C (S := []) (W := 0) (twd hw 93 rfl) (twd hw 94 rfl) (twd hw 6 rfl) (twd hw 95 rfl) (by decide) (c18 l Z a0 hw i2 (own_ln L) h n0 ⟨hi.1, by rw [own_ln_eq L hL]; exact hi.2⟩ fm hfm S_fm) pd16 rfl rfl d17_3 rfl (Nat.le_of_eq rfl) (by decide) (by decide) (by decide) (by decide) rfl (fun whp1 hp1 hq2 => ?_)
  obtain ⟨rfl, ehq2⟩ := hq2; rw [ehq2]
  show G p l e _ _ m _ below meth c n0 _ h 0 0 (mkF m 6 #[.val (.ref a1), .val (.int i2)] [])
  refine G.aloadN C d17_6 rfl rfl rfl ?_
  refine G.iloadN C d17_7 rfl rfl ?_
  refine G.baloadB C A hi d17_8 rfl ?_
  show G p l e _ _ m _ below meth c n0 _ h 0 0 (mkF m 9 #[.val (.ref a1), .val (.int i2)] [(.int (L.getD i2.toInt.toNat 0))])
  refine G.sipush C d17_9 (v := (255 : Int32)) rfl rfl ?_
  refine G.iand C d17_12 rfl ?_
  refine G.i2c C d17_13 rfl ?_
  exact G.retC C d17_14 (by decide) (by decide) (own_narC (c_i2c _).2) (⟨rfl, rfl⟩)
theorem d15_0 : decode jdk_42_method_56_code 0 = .ok (.aload_n 0, 1) := by decide +kernel
theorem d15_1 : decode jdk_42_method_56_code 1 = .ok (.invokevirtual 492, 3) := by decide +kernel
theorem d15_4 : decode jdk_42_method_56_code 4 = .ok (.ifCond .eq 12, 3) := by decide +kernel
theorem d15_7 : decode jdk_42_method_56_code 7 = .ok (.aload_n 0, 1) := by decide +kernel
theorem d15_8 : decode jdk_42_method_56_code 8 = .ok (.getfield 9, 3) := by decide +kernel
theorem d15_11 : decode jdk_42_method_56_code 11 = .ok (.iload_n 1, 1) := by decide +kernel
theorem d15_12 : decode jdk_42_method_56_code 12 = .ok (.invokestatic 495, 3) := by decide +kernel
theorem d15_15 : decode jdk_42_method_56_code 15 = .ok (.ireturn, 1) := by decide +kernel
theorem d15_16 : decode jdk_42_method_56_code 16 = .ok (.aload_n 0, 1) := by decide +kernel
theorem d15_17 : decode jdk_42_method_56_code 17 = .ok (.getfield 9, 3) := by decide +kernel
theorem d15_20 : decode jdk_42_method_56_code 20 = .ok (.iload_n 1, 1) := by decide +kernel
theorem d15_21 : decode jdk_42_method_56_code 21 = .ok (.invokestatic 498, 3) := by decide +kernel
theorem d15_24 : decode jdk_42_method_56_code 24 = .ok (.ireturn, 1) := by decide +kernel
theorem ef_c15 (m : MethodId) (a1 : Addr) (i2 : Int32) : entryFrame m #[(.ref a1), (.int i2)] 2 = mkF m 0 #[.val (.ref a1), .val (.int i2)] [] := by first | (simp [entryFrame, mkF, argsToLocals, Value.category]; done) | rfl
set_option maxRecDepth 65536 in
set_option maxHeartbeats 40000000 in
theorem c15 (l : Launch) (Z : State) (a0 : Array Value) (hw : ∀ d ∈ tables_1, d.before a0 Z = true) (a1 : Addr) (i2 : Int32) (h : Heap) (n0 : Nat) (va : Addr) (L : List Int32) (cs : Int32) (hcs : ¬ cs = 0) (S_cs : Sta Z h "java/lang/String" "COMPACT_STRINGS" "Z" (.int cs)) (O : own_S Z h a1 va L) (hi : 0 ≤ i2.toInt ∧ i2.toInt < L.length) (fm : Value) (hfm : fm.isRef = true) (S_fm : Sta Z h "jdk/internal/util/Preconditions" "SIOOBE_FORMATTER" "Ljava/util/function/BiFunction;" fm) : Con l Z (⟨"java/lang/String", "charAt", "(I)C"⟩ : MethodName) jdk_42_method_56_code 2 (some .char) ({ frames := 3, cells := 0, slots := 0, locals := 40 } : Room) #[(.ref a1), (.int i2)] h n0 (Pv (.int (own_ch L i2)) h) := by
  refine Con.of (plainFor_of_name pn0) (fun m => ef_c15 m a1 i2) ?_
  intro p e s m below meth c C
  refine G.aloadN C d15_0 rfl rfl rfl ?_
  refine G.callVP C (S := []) (W := 0) (twd hw 85 rfl) (twd hw 87 rfl) (twd hw 6 rfl) (twd hw 89 rfl) (twd hw 86 rfl) (twd hw 88 rfl) O.1 (by decide) (c16 l Z a0 hw a1 h n0 va L cs hcs S_cs O) pd14 rfl rfl d15_1 rfl (Nat.le_of_eq rfl) (by decide) (by decide) rfl rfl (by decide) (by decide) rfl ?_
  refine G.bfeq C d15_4 (by decide) (pt := 16) (by decide) rfl (fun q => absurd q (by decide)) (fun _ => ?_)
  refine G.aloadN C d15_7 rfl rfl rfl ?_
  refine G.getF C (twd hw 24 rfl) O.2.1 d15_8 rfl ?_
  refine G.iloadN C d15_11 rfl rfl ?_
  refine G.callSP C (S := []) (W := 0) (twd hw 90 rfl) (twd hw 91 rfl) (twd hw 76 rfl) (twd hw 92 rfl) (by decide) (c17 l Z a0 hw va i2 h n0 L O.2.2.2.1 O.2.2.2.2 hi fm hfm S_fm) pd15 rfl rfl d15_12 rfl (Nat.le_of_eq rfl) (by decide) (by decide) rfl rfl (by decide) (by decide) rfl ?_
  exact G.retC C d15_15 (by decide) (by decide) (own_narC (c_i2c _).2) (⟨rfl, rfl⟩)
theorem d8_0 : decode method_3_code 0 = .ok (.aload_n 0, 1) := by decide +kernel
theorem d8_1 : decode method_3_code 1 = .ok (.invokevirtual 16, 3) := by decide +kernel
theorem d8_4 : decode method_3_code 4 = .ok (.istore_n 2, 1) := by decide +kernel
theorem d8_5 : decode method_3_code 5 = .ok (.iload_n 2, 1) := by decide +kernel
theorem d8_6 : decode method_3_code 6 = .ok (.aload_n 1, 1) := by decide +kernel
theorem d8_7 : decode method_3_code 7 = .ok (.invokevirtual 16, 3) := by decide +kernel
theorem d8_10 : decode method_3_code 10 = .ok (.if_icmp .eq 5, 3) := by decide +kernel
theorem d8_13 : decode method_3_code 13 = .ok (.iconst 0, 1) := by decide +kernel
theorem d8_14 : decode method_3_code 14 = .ok (.ireturn, 1) := by decide +kernel
theorem d8_15 : decode method_3_code 15 = .ok (.iload_n 2, 1) := by decide +kernel
theorem d8_16 : decode method_3_code 16 = .ok (.ifCond .le 18, 3) := by decide +kernel
theorem d8_19 : decode method_3_code 19 = .ok (.aload_n 0, 1) := by decide +kernel
theorem d8_20 : decode method_3_code 20 = .ok (.iconst 0, 1) := by decide +kernel
theorem d8_21 : decode method_3_code 21 = .ok (.invokevirtual 20, 3) := by decide +kernel
theorem d8_24 : decode method_3_code 24 = .ok (.aload_n 1, 1) := by decide +kernel
theorem d8_25 : decode method_3_code 25 = .ok (.iconst 0, 1) := by decide +kernel
theorem d8_26 : decode method_3_code 26 = .ok (.invokevirtual 20, 3) := by decide +kernel
theorem d8_29 : decode method_3_code 29 = .ok (.if_icmp .eq 5, 3) := by decide +kernel
theorem d8_32 : decode method_3_code 32 = .ok (.iconst 0, 1) := by decide +kernel
theorem d8_33 : decode method_3_code 33 = .ok (.ireturn, 1) := by decide +kernel
theorem d8_34 : decode method_3_code 34 = .ok (.iload_n 2, 1) := by decide +kernel
theorem d8_35 : decode method_3_code 35 = .ok (.iconst 1, 1) := by decide +kernel
theorem d8_36 : decode method_3_code 36 = .ok (.if_icmp .le 18, 3) := by decide +kernel
theorem d8_39 : decode method_3_code 39 = .ok (.aload_n 0, 1) := by decide +kernel
theorem d8_40 : decode method_3_code 40 = .ok (.iconst 1, 1) := by decide +kernel
theorem d8_41 : decode method_3_code 41 = .ok (.invokevirtual 20, 3) := by decide +kernel
theorem d8_44 : decode method_3_code 44 = .ok (.aload_n 1, 1) := by decide +kernel
theorem d8_45 : decode method_3_code 45 = .ok (.iconst 1, 1) := by decide +kernel
theorem d8_46 : decode method_3_code 46 = .ok (.invokevirtual 20, 3) := by decide +kernel
theorem d8_49 : decode method_3_code 49 = .ok (.if_icmp .eq 5, 3) := by decide +kernel
theorem d8_52 : decode method_3_code 52 = .ok (.iconst 0, 1) := by decide +kernel
theorem d8_53 : decode method_3_code 53 = .ok (.ireturn, 1) := by decide +kernel
theorem d8_54 : decode method_3_code 54 = .ok (.iload_n 2, 1) := by decide +kernel
theorem d8_55 : decode method_3_code 55 = .ok (.iconst 2, 1) := by decide +kernel
theorem d8_56 : decode method_3_code 56 = .ok (.if_icmp .le 18, 3) := by decide +kernel
theorem d8_59 : decode method_3_code 59 = .ok (.aload_n 0, 1) := by decide +kernel
theorem d8_60 : decode method_3_code 60 = .ok (.iconst 2, 1) := by decide +kernel
theorem d8_61 : decode method_3_code 61 = .ok (.invokevirtual 20, 3) := by decide +kernel
theorem d8_64 : decode method_3_code 64 = .ok (.aload_n 1, 1) := by decide +kernel
theorem d8_65 : decode method_3_code 65 = .ok (.iconst 2, 1) := by decide +kernel
theorem d8_66 : decode method_3_code 66 = .ok (.invokevirtual 20, 3) := by decide +kernel
theorem d8_69 : decode method_3_code 69 = .ok (.if_icmp .eq 5, 3) := by decide +kernel
theorem d8_72 : decode method_3_code 72 = .ok (.iconst 0, 1) := by decide +kernel
theorem d8_73 : decode method_3_code 73 = .ok (.ireturn, 1) := by decide +kernel
theorem d8_74 : decode method_3_code 74 = .ok (.iconst 1, 1) := by decide +kernel
theorem d8_75 : decode method_3_code 75 = .ok (.ireturn, 1) := by decide +kernel
theorem pn4 : plainName "com/example/ample_pool/amplepool/control/AnswerEqualsPinLaw" = true := by first | (simp [plainName, overriddenIn]; done) | decide +kernel
theorem ef_c8 (m : MethodId) (a1 : Addr) (a2 : Addr) : entryFrame m #[(.ref a1), (.ref a2)] 3 = mkF m 0 #[.val (.ref a1), .val (.ref a2), .unset] [] := by first | (simp [entryFrame, mkF, argsToLocals, Value.category]; done) | rfl
set_option maxRecDepth 65536 in
set_option maxHeartbeats 40000000 in
theorem c8 (l : Launch) (Z : State) (a0 : Array Value) (hw : ∀ d ∈ tables_1, d.before a0 Z = true) (a1 : Addr) (a2 : Addr) (h : Heap) (n0 : Nat) (va vb : Addr) (L1 L2 : List Int32) (cs : Int32) (hcs : ¬ cs = 0) (S_cs : Sta Z h "java/lang/String" "COMPACT_STRINGS" "Z" (.int cs)) (O1 : own_S Z h a1 va L1) (O2 : own_S Z h a2 vb L2) (fm : Value) (hfm : fm.isRef = true) (S_fm : Sta Z h "jdk/internal/util/Preconditions" "SIOOBE_FORMATTER" "Ljava/util/function/BiFunction;" fm) (l1 : L1.length ≤ 3) (y1 : own_bys L1) (y2 : own_bys L2) : Con l Z (⟨"com/example/ample_pool/amplepool/control/AnswerEqualsPinLaw", "sameText", "(Ljava/lang/String;Ljava/lang/String;)Z"⟩ : MethodName) method_3_code 3 (some .boolean) ({ frames := 4, cells := 0, slots := 0, locals := 54 } : Room) #[(.ref a1), (.ref a2)] h n0 (Pv (.int (bi (decide (L1 = L2)))) h) := by
  refine Con.of (plainFor_of_name pn4) (fun m => ef_c8 m a1 a2) ?_
  intro p e s m below meth c C
  refine G.aloadN C d8_0 rfl rfl rfl ?_
  refine G.callVP C (S := []) (W := 0) (twd hw 40 rfl) (twd hw 42 rfl) (twd hw 6 rfl) (twd hw 44 rfl) (twd hw 41 rfl) (twd hw 43 rfl) O1.1 (by decide) (c9 l Z a0 hw a1 h n0 va L1 cs hcs S_cs O1) pd8 rfl rfl d8_1 rfl (Nat.le_of_eq rfl) (by decide) (by decide) rfl rfl (by decide) (by decide) rfl ?_
  refine G.istoreN C d8_4 (Ls' := #[.val (.ref a1), .val (.ref a2), .val (.int (own_ln L1))]) rfl rfl ?_
  refine G.iloadN C d8_5 rfl rfl ?_
  refine G.aloadN C d8_6 rfl rfl rfl ?_
  refine G.callVP C (S := [(.int (own_ln L1))]) (W := 1) (twd hw 40 rfl) (twd hw 42 rfl) (twd hw 6 rfl) (twd hw 44 rfl) (twd hw 41 rfl) (twd hw 43 rfl) O2.1 (by decide) (c9 l Z a0 hw a2 h n0 vb L2 cs hcs S_cs O2) pd8 rfl rfl d8_7 rfl (Nat.le_of_eq rfl) (by decide) (by decide) rfl rfl (by decide) (by decide) rfl ?_
  refine G.iceq C d8_10 (by decide) (pt := 15) (by decide) rfl (fun hc10 => ?_) (fun hc10 => ?_)
  · refine G.iloadN C d8_15 rfl rfl ?_
    refine G.ifle C d8_16 (by decide) (pt := 34) (by decide) rfl (fun hc16 => ?_) (fun hc16 => ?_)
    · refine G.iloadN C d8_34 rfl rfl ?_
      refine G.iconst C d8_35 (v := (1 : Int32)) rfl rfl ?_
      refine G.icle C d8_36 (by decide) (pt := 54) (by decide) rfl (fun hc36 => ?_) (fun hc36 => ?_)
      · refine G.iloadN C d8_54 rfl rfl ?_
        refine G.iconst C d8_55 (v := (2 : Int32)) rfl rfl ?_
        refine G.icle C d8_56 (by decide) (pt := 74) (by decide) rfl (fun hc56 => ?_) (fun hc56 => ?_)
        · refine G.iconst C d8_74 (v := (1 : Int32)) rfl rfl ?_
          exact G.retZ C d8_75 (by decide) (by decide) rfl (⟨by rw [decide_eq_true (own_same3 O1.2.2.2.2 O2.2.2.2.2 l1 y1 y2 hc10 (Or.inr hc16) (Or.inr hc36) (Or.inr hc56))]; rfl, rfl⟩)
        · refine G.aloadN C d8_59 rfl rfl rfl ?_
          refine G.iconst C d8_60 (v := (2 : Int32)) rfl rfl ?_
          refine G.callVP C (S := []) (W := 0) (twd hw 80 rfl) (twd hw 82 rfl) (twd hw 6 rfl) (twd hw 84 rfl) (twd hw 81 rfl) (twd hw 83 rfl) O1.1 (by decide) (c15 l Z a0 hw a1 (2 : Int32) h n0 va L1 cs hcs S_cs O1 (own_inL O1.2.2.2.2 (by decide) hc56) fm hfm S_fm) pd13 rfl rfl d8_61 rfl (Nat.le_of_eq rfl) (by decide) (by decide) rfl rfl (by decide) (by decide) rfl ?_
          refine G.aloadN C d8_64 rfl rfl rfl ?_
          refine G.iconst C d8_65 (v := (2 : Int32)) rfl rfl ?_
          refine G.callVP C (S := [(.int (own_ch L1 (2 : Int32)))]) (W := 1) (twd hw 80 rfl) (twd hw 82 rfl) (twd hw 6 rfl) (twd hw 84 rfl) (twd hw 81 rfl) (twd hw 83 rfl) O2.1 (by decide) (c15 l Z a0 hw a2 (2 : Int32) h n0 vb L2 cs hcs S_cs O2 (own_inL O2.2.2.2.2 (by decide) (by rw [← hc10]; exact hc56)) fm hfm S_fm) pd13 rfl rfl d8_66 rfl (Nat.le_of_eq rfl) (by decide) (by decide) rfl rfl (by decide) (by decide) rfl ?_
          refine G.iceq C d8_69 (by decide) (pt := 74) (by decide) rfl (fun hc69 => ?_) (fun hc69 => ?_)
          · refine G.iconst C d8_74 (v := (1 : Int32)) rfl rfl ?_
            exact G.retZ C d8_75 (by decide) (by decide) rfl (⟨by rw [decide_eq_true (own_same3 O1.2.2.2.2 O2.2.2.2.2 l1 y1 y2 hc10 (Or.inr hc16) (Or.inr hc36) (Or.inl hc69))]; rfl, rfl⟩)
          · refine G.iconst C d8_72 (v := (0 : Int32)) rfl rfl ?_
            exact G.retZ C d8_73 (by decide) (by decide) rfl (⟨by rw [decide_eq_false (fun e => hc69 (by rw [e]))]; rfl, rfl⟩)
      · refine G.aloadN C d8_39 rfl rfl rfl ?_
        refine G.iconst C d8_40 (v := (1 : Int32)) rfl rfl ?_
        refine G.callVP C (S := []) (W := 0) (twd hw 80 rfl) (twd hw 82 rfl) (twd hw 6 rfl) (twd hw 84 rfl) (twd hw 81 rfl) (twd hw 83 rfl) O1.1 (by decide) (c15 l Z a0 hw a1 (1 : Int32) h n0 va L1 cs hcs S_cs O1 (own_inL O1.2.2.2.2 (by decide) hc36) fm hfm S_fm) pd13 rfl rfl d8_41 rfl (Nat.le_of_eq rfl) (by decide) (by decide) rfl rfl (by decide) (by decide) rfl ?_
        refine G.aloadN C d8_44 rfl rfl rfl ?_
        refine G.iconst C d8_45 (v := (1 : Int32)) rfl rfl ?_
        refine G.callVP C (S := [(.int (own_ch L1 (1 : Int32)))]) (W := 1) (twd hw 80 rfl) (twd hw 82 rfl) (twd hw 6 rfl) (twd hw 84 rfl) (twd hw 81 rfl) (twd hw 83 rfl) O2.1 (by decide) (c15 l Z a0 hw a2 (1 : Int32) h n0 vb L2 cs hcs S_cs O2 (own_inL O2.2.2.2.2 (by decide) (by rw [← hc10]; exact hc36)) fm hfm S_fm) pd13 rfl rfl d8_46 rfl (Nat.le_of_eq rfl) (by decide) (by decide) rfl rfl (by decide) (by decide) rfl ?_
        refine G.iceq C d8_49 (by decide) (pt := 54) (by decide) rfl (fun hc49 => ?_) (fun hc49 => ?_)
        · refine G.iloadN C d8_54 rfl rfl ?_
          refine G.iconst C d8_55 (v := (2 : Int32)) rfl rfl ?_
          refine G.icle C d8_56 (by decide) (pt := 74) (by decide) rfl (fun hc56 => ?_) (fun hc56 => ?_)
          · refine G.iconst C d8_74 (v := (1 : Int32)) rfl rfl ?_
            exact G.retZ C d8_75 (by decide) (by decide) rfl (⟨by rw [decide_eq_true (own_same3 O1.2.2.2.2 O2.2.2.2.2 l1 y1 y2 hc10 (Or.inr hc16) (Or.inl hc49) (Or.inr hc56))]; rfl, rfl⟩)
          · refine G.aloadN C d8_59 rfl rfl rfl ?_
            refine G.iconst C d8_60 (v := (2 : Int32)) rfl rfl ?_
            refine G.callVP C (S := []) (W := 0) (twd hw 80 rfl) (twd hw 82 rfl) (twd hw 6 rfl) (twd hw 84 rfl) (twd hw 81 rfl) (twd hw 83 rfl) O1.1 (by decide) (c15 l Z a0 hw a1 (2 : Int32) h n0 va L1 cs hcs S_cs O1 (own_inL O1.2.2.2.2 (by decide) hc56) fm hfm S_fm) pd13 rfl rfl d8_61 rfl (Nat.le_of_eq rfl) (by decide) (by decide) rfl rfl (by decide) (by decide) rfl ?_
            refine G.aloadN C d8_64 rfl rfl rfl ?_
            refine G.iconst C d8_65 (v := (2 : Int32)) rfl rfl ?_
            refine G.callVP C (S := [(.int (own_ch L1 (2 : Int32)))]) (W := 1) (twd hw 80 rfl) (twd hw 82 rfl) (twd hw 6 rfl) (twd hw 84 rfl) (twd hw 81 rfl) (twd hw 83 rfl) O2.1 (by decide) (c15 l Z a0 hw a2 (2 : Int32) h n0 vb L2 cs hcs S_cs O2 (own_inL O2.2.2.2.2 (by decide) (by rw [← hc10]; exact hc56)) fm hfm S_fm) pd13 rfl rfl d8_66 rfl (Nat.le_of_eq rfl) (by decide) (by decide) rfl rfl (by decide) (by decide) rfl ?_
            refine G.iceq C d8_69 (by decide) (pt := 74) (by decide) rfl (fun hc69 => ?_) (fun hc69 => ?_)
            · refine G.iconst C d8_74 (v := (1 : Int32)) rfl rfl ?_
              exact G.retZ C d8_75 (by decide) (by decide) rfl (⟨by rw [decide_eq_true (own_same3 O1.2.2.2.2 O2.2.2.2.2 l1 y1 y2 hc10 (Or.inr hc16) (Or.inl hc49) (Or.inl hc69))]; rfl, rfl⟩)
            · refine G.iconst C d8_72 (v := (0 : Int32)) rfl rfl ?_
              exact G.retZ C d8_73 (by decide) (by decide) rfl (⟨by rw [decide_eq_false (fun e => hc69 (by rw [e]))]; rfl, rfl⟩)
        · refine G.iconst C d8_52 (v := (0 : Int32)) rfl rfl ?_
          exact G.retZ C d8_53 (by decide) (by decide) rfl (⟨by rw [decide_eq_false (fun e => hc49 (by rw [e]))]; rfl, rfl⟩)
    · refine G.aloadN C d8_19 rfl rfl rfl ?_
      refine G.iconst C d8_20 (v := (0 : Int32)) rfl rfl ?_
      refine G.callVP C (S := []) (W := 0) (twd hw 80 rfl) (twd hw 82 rfl) (twd hw 6 rfl) (twd hw 84 rfl) (twd hw 81 rfl) (twd hw 83 rfl) O1.1 (by decide) (c15 l Z a0 hw a1 (0 : Int32) h n0 va L1 cs hcs S_cs O1 (own_inL O1.2.2.2.2 (by decide) hc16) fm hfm S_fm) pd13 rfl rfl d8_21 rfl (Nat.le_of_eq rfl) (by decide) (by decide) rfl rfl (by decide) (by decide) rfl ?_
      refine G.aloadN C d8_24 rfl rfl rfl ?_
      refine G.iconst C d8_25 (v := (0 : Int32)) rfl rfl ?_
      refine G.callVP C (S := [(.int (own_ch L1 (0 : Int32)))]) (W := 1) (twd hw 80 rfl) (twd hw 82 rfl) (twd hw 6 rfl) (twd hw 84 rfl) (twd hw 81 rfl) (twd hw 83 rfl) O2.1 (by decide) (c15 l Z a0 hw a2 (0 : Int32) h n0 vb L2 cs hcs S_cs O2 (own_inL O2.2.2.2.2 (by decide) (by rw [← hc10]; exact hc16)) fm hfm S_fm) pd13 rfl rfl d8_26 rfl (Nat.le_of_eq rfl) (by decide) (by decide) rfl rfl (by decide) (by decide) rfl ?_
      refine G.iceq C d8_29 (by decide) (pt := 34) (by decide) rfl (fun hc29 => ?_) (fun hc29 => ?_)
      · refine G.iloadN C d8_34 rfl rfl ?_
        refine G.iconst C d8_35 (v := (1 : Int32)) rfl rfl ?_
        refine G.icle C d8_36 (by decide) (pt := 54) (by decide) rfl (fun hc36 => ?_) (fun hc36 => ?_)
        · refine G.iloadN C d8_54 rfl rfl ?_
          refine G.iconst C d8_55 (v := (2 : Int32)) rfl rfl ?_
          refine G.icle C d8_56 (by decide) (pt := 74) (by decide) rfl (fun hc56 => ?_) (fun hc56 => ?_)
          · refine G.iconst C d8_74 (v := (1 : Int32)) rfl rfl ?_
            exact G.retZ C d8_75 (by decide) (by decide) rfl (⟨by rw [decide_eq_true (own_same3 O1.2.2.2.2 O2.2.2.2.2 l1 y1 y2 hc10 (Or.inl hc29) (Or.inr hc36) (Or.inr hc56))]; rfl, rfl⟩)
          · refine G.aloadN C d8_59 rfl rfl rfl ?_
            refine G.iconst C d8_60 (v := (2 : Int32)) rfl rfl ?_
            refine G.callVP C (S := []) (W := 0) (twd hw 80 rfl) (twd hw 82 rfl) (twd hw 6 rfl) (twd hw 84 rfl) (twd hw 81 rfl) (twd hw 83 rfl) O1.1 (by decide) (c15 l Z a0 hw a1 (2 : Int32) h n0 va L1 cs hcs S_cs O1 (own_inL O1.2.2.2.2 (by decide) hc56) fm hfm S_fm) pd13 rfl rfl d8_61 rfl (Nat.le_of_eq rfl) (by decide) (by decide) rfl rfl (by decide) (by decide) rfl ?_
            refine G.aloadN C d8_64 rfl rfl rfl ?_
            refine G.iconst C d8_65 (v := (2 : Int32)) rfl rfl ?_
            refine G.callVP C (S := [(.int (own_ch L1 (2 : Int32)))]) (W := 1) (twd hw 80 rfl) (twd hw 82 rfl) (twd hw 6 rfl) (twd hw 84 rfl) (twd hw 81 rfl) (twd hw 83 rfl) O2.1 (by decide) (c15 l Z a0 hw a2 (2 : Int32) h n0 vb L2 cs hcs S_cs O2 (own_inL O2.2.2.2.2 (by decide) (by rw [← hc10]; exact hc56)) fm hfm S_fm) pd13 rfl rfl d8_66 rfl (Nat.le_of_eq rfl) (by decide) (by decide) rfl rfl (by decide) (by decide) rfl ?_
            refine G.iceq C d8_69 (by decide) (pt := 74) (by decide) rfl (fun hc69 => ?_) (fun hc69 => ?_)
            · refine G.iconst C d8_74 (v := (1 : Int32)) rfl rfl ?_
              exact G.retZ C d8_75 (by decide) (by decide) rfl (⟨by rw [decide_eq_true (own_same3 O1.2.2.2.2 O2.2.2.2.2 l1 y1 y2 hc10 (Or.inl hc29) (Or.inr hc36) (Or.inl hc69))]; rfl, rfl⟩)
            · refine G.iconst C d8_72 (v := (0 : Int32)) rfl rfl ?_
              exact G.retZ C d8_73 (by decide) (by decide) rfl (⟨by rw [decide_eq_false (fun e => hc69 (by rw [e]))]; rfl, rfl⟩)
        · refine G.aloadN C d8_39 rfl rfl rfl ?_
          refine G.iconst C d8_40 (v := (1 : Int32)) rfl rfl ?_
          refine G.callVP C (S := []) (W := 0) (twd hw 80 rfl) (twd hw 82 rfl) (twd hw 6 rfl) (twd hw 84 rfl) (twd hw 81 rfl) (twd hw 83 rfl) O1.1 (by decide) (c15 l Z a0 hw a1 (1 : Int32) h n0 va L1 cs hcs S_cs O1 (own_inL O1.2.2.2.2 (by decide) hc36) fm hfm S_fm) pd13 rfl rfl d8_41 rfl (Nat.le_of_eq rfl) (by decide) (by decide) rfl rfl (by decide) (by decide) rfl ?_
          refine G.aloadN C d8_44 rfl rfl rfl ?_
          refine G.iconst C d8_45 (v := (1 : Int32)) rfl rfl ?_
          refine G.callVP C (S := [(.int (own_ch L1 (1 : Int32)))]) (W := 1) (twd hw 80 rfl) (twd hw 82 rfl) (twd hw 6 rfl) (twd hw 84 rfl) (twd hw 81 rfl) (twd hw 83 rfl) O2.1 (by decide) (c15 l Z a0 hw a2 (1 : Int32) h n0 vb L2 cs hcs S_cs O2 (own_inL O2.2.2.2.2 (by decide) (by rw [← hc10]; exact hc36)) fm hfm S_fm) pd13 rfl rfl d8_46 rfl (Nat.le_of_eq rfl) (by decide) (by decide) rfl rfl (by decide) (by decide) rfl ?_
          refine G.iceq C d8_49 (by decide) (pt := 54) (by decide) rfl (fun hc49 => ?_) (fun hc49 => ?_)
          · refine G.iloadN C d8_54 rfl rfl ?_
            refine G.iconst C d8_55 (v := (2 : Int32)) rfl rfl ?_
            refine G.icle C d8_56 (by decide) (pt := 74) (by decide) rfl (fun hc56 => ?_) (fun hc56 => ?_)
            · refine G.iconst C d8_74 (v := (1 : Int32)) rfl rfl ?_
              exact G.retZ C d8_75 (by decide) (by decide) rfl (⟨by rw [decide_eq_true (own_same3 O1.2.2.2.2 O2.2.2.2.2 l1 y1 y2 hc10 (Or.inl hc29) (Or.inl hc49) (Or.inr hc56))]; rfl, rfl⟩)
            · refine G.aloadN C d8_59 rfl rfl rfl ?_
              refine G.iconst C d8_60 (v := (2 : Int32)) rfl rfl ?_
              refine G.callVP C (S := []) (W := 0) (twd hw 80 rfl) (twd hw 82 rfl) (twd hw 6 rfl) (twd hw 84 rfl) (twd hw 81 rfl) (twd hw 83 rfl) O1.1 (by decide) (c15 l Z a0 hw a1 (2 : Int32) h n0 va L1 cs hcs S_cs O1 (own_inL O1.2.2.2.2 (by decide) hc56) fm hfm S_fm) pd13 rfl rfl d8_61 rfl (Nat.le_of_eq rfl) (by decide) (by decide) rfl rfl (by decide) (by decide) rfl ?_
              refine G.aloadN C d8_64 rfl rfl rfl ?_
              refine G.iconst C d8_65 (v := (2 : Int32)) rfl rfl ?_
              refine G.callVP C (S := [(.int (own_ch L1 (2 : Int32)))]) (W := 1) (twd hw 80 rfl) (twd hw 82 rfl) (twd hw 6 rfl) (twd hw 84 rfl) (twd hw 81 rfl) (twd hw 83 rfl) O2.1 (by decide) (c15 l Z a0 hw a2 (2 : Int32) h n0 vb L2 cs hcs S_cs O2 (own_inL O2.2.2.2.2 (by decide) (by rw [← hc10]; exact hc56)) fm hfm S_fm) pd13 rfl rfl d8_66 rfl (Nat.le_of_eq rfl) (by decide) (by decide) rfl rfl (by decide) (by decide) rfl ?_
              refine G.iceq C d8_69 (by decide) (pt := 74) (by decide) rfl (fun hc69 => ?_) (fun hc69 => ?_)
              · refine G.iconst C d8_74 (v := (1 : Int32)) rfl rfl ?_
                exact G.retZ C d8_75 (by decide) (by decide) rfl (⟨by rw [decide_eq_true (own_same3 O1.2.2.2.2 O2.2.2.2.2 l1 y1 y2 hc10 (Or.inl hc29) (Or.inl hc49) (Or.inl hc69))]; rfl, rfl⟩)
              · refine G.iconst C d8_72 (v := (0 : Int32)) rfl rfl ?_
                exact G.retZ C d8_73 (by decide) (by decide) rfl (⟨by rw [decide_eq_false (fun e => hc69 (by rw [e]))]; rfl, rfl⟩)
          · refine G.iconst C d8_52 (v := (0 : Int32)) rfl rfl ?_
            exact G.retZ C d8_53 (by decide) (by decide) rfl (⟨by rw [decide_eq_false (fun e => hc49 (by rw [e]))]; rfl, rfl⟩)
      · refine G.iconst C d8_32 (v := (0 : Int32)) rfl rfl ?_
        exact G.retZ C d8_33 (by decide) (by decide) rfl (⟨by rw [decide_eq_false (fun e => hc29 (by rw [e]))]; rfl, rfl⟩)
  · refine G.iconst C d8_13 (v := (0 : Int32)) rfl rfl ?_
    exact G.retZ C d8_14 (by decide) (by decide) rfl (⟨by rw [decide_eq_false (fun e => hc10 (by rw [e]))]; rfl, rfl⟩)
theorem d14_0 : decode jdk_43_method_13_code 0 = .ok (.aload_n 0, 1) := by decide +kernel
theorem d14_1 : decode jdk_43_method_13_code 1 = .ok (.arraylength, 1) := by decide +kernel
theorem d14_2 : decode jdk_43_method_13_code 2 = .ok (.aload_n 1, 1) := by decide +kernel
theorem d14_3 : decode jdk_43_method_13_code 3 = .ok (.arraylength, 1) := by decide +kernel
theorem d14_4 : decode jdk_43_method_13_code 4 = .ok (.if_icmp .ne 30, 3) := by decide +kernel
theorem d14_7 : decode jdk_43_method_13_code 7 = .ok (.iconst 0, 1) := by decide +kernel
theorem d14_8 : decode jdk_43_method_13_code 8 = .ok (.istore_n 2, 1) := by decide +kernel
theorem d14_9 : decode jdk_43_method_13_code 9 = .ok (.iload_n 2, 1) := by decide +kernel
theorem d14_10 : decode jdk_43_method_13_code 10 = .ok (.aload_n 0, 1) := by decide +kernel
theorem d14_11 : decode jdk_43_method_13_code 11 = .ok (.arraylength, 1) := by decide +kernel
theorem d14_12 : decode jdk_43_method_13_code 12 = .ok (.if_icmp .ge 20, 3) := by decide +kernel
theorem d14_15 : decode jdk_43_method_13_code 15 = .ok (.aload_n 0, 1) := by decide +kernel
theorem d14_16 : decode jdk_43_method_13_code 16 = .ok (.iload_n 2, 1) := by decide +kernel
theorem d14_17 : decode jdk_43_method_13_code 17 = .ok (.baload, 1) := by decide +kernel
theorem d14_18 : decode jdk_43_method_13_code 18 = .ok (.aload_n 1, 1) := by decide +kernel
theorem d14_19 : decode jdk_43_method_13_code 19 = .ok (.iload_n 2, 1) := by decide +kernel
theorem d14_20 : decode jdk_43_method_13_code 20 = .ok (.baload, 1) := by decide +kernel
theorem d14_21 : decode jdk_43_method_13_code 21 = .ok (.if_icmp .eq 5, 3) := by decide +kernel
theorem d14_24 : decode jdk_43_method_13_code 24 = .ok (.iconst 0, 1) := by decide +kernel
theorem d14_25 : decode jdk_43_method_13_code 25 = .ok (.ireturn, 1) := by decide +kernel
theorem d14_26 : decode jdk_43_method_13_code 26 = .ok (.iinc 2 1, 3) := by decide +kernel
theorem d14_29 : decode jdk_43_method_13_code 29 = .ok (.goto (-20), 3) := by decide +kernel
theorem d14_32 : decode jdk_43_method_13_code 32 = .ok (.iconst 1, 1) := by decide +kernel
theorem d14_33 : decode jdk_43_method_13_code 33 = .ok (.ireturn, 1) := by decide +kernel
theorem d14_34 : decode jdk_43_method_13_code 34 = .ok (.iconst 0, 1) := by decide +kernel
theorem d14_35 : decode jdk_43_method_13_code 35 = .ok (.ireturn, 1) := by decide +kernel
theorem ef_c14 (m : MethodId) (a1 : Addr) (a2 : Addr) : entryFrame m #[(.ref a1), (.ref a2)] 3 = mkF m 0 #[.val (.ref a1), .val (.ref a2), .unset] [] := by first | (simp [entryFrame, mkF, argsToLocals, Value.category]; done) | rfl
set_option maxRecDepth 65536 in
set_option maxHeartbeats 40000000 in
theorem c14 (l : Launch) (Z : State) (a0 : Array Value) (hw : ∀ d ∈ tables_1, d.before a0 Z = true) (a1 : Addr) (a2 : Addr) (h : Heap) (n0 : Nat) (L1 L2 : List Int32) (A : Ara Z h a1 .byte L1.length (own_tab L1)) (B : Ara Z h a2 .byte L2.length (own_tab L2)) (m1 : L1.length < 1000) (m2 : L2.length < 1000) : Con l Z (⟨"java/lang/StringLatin1", "equals", "([B[B)Z"⟩ : MethodName) jdk_43_method_13_code 3 (some .boolean) ({ frames := 0, cells := 0, slots := 0, locals := 0 } : Room) #[(.ref a1), (.ref a2)] h n0 (Pv (.int (bi (decide (L1 = L2)))) h) := by
  refine Con.of (plainFor_of_name pn2) (fun m => ef_c14 m a1 a2) ?_
  intro p e s m below meth c C
  refine G.aloadN C d14_0 rfl rfl rfl ?_
  refine G.arrlen C A (own_ln_eq L1 m1) d14_1 rfl ?_
  refine G.aloadN C d14_2 rfl rfl rfl ?_
  refine G.arrlen C B (own_ln_eq L2 m2) d14_3 rfl ?_
  refine G.icne C d14_4 (by decide) (pt := 34) (by decide) rfl (fun hc4 => ?_) (fun hc4 => ?_)
  · refine G.iconst C d14_34 (v := (0 : Int32)) rfl rfl ?_
    exact G.retZ C d14_35 (by decide) (by decide) rfl (⟨by rw [decide_eq_false (fun e => hc4 (by rw [e]))]; rfl, rfl⟩)
  · refine G.iconst C d14_7 (v := (0 : Int32)) rfl rfl ?_
    refine G.istoreN C d14_8 (Ls' := #[.val (.ref a1), .val (.ref a2), .val (.int (0 : Int32))]) rfl rfl ?_
    have L9 : ∀ (t : Nat) (i : Int32), (((own_ln L1).toInt - i.toInt).toNat = t) → (0 ≤ i.toInt ∧ i.toInt ≤ (own_ln L1).toInt) → (∀ q : Nat, (q : Int) < i.toInt → L1.getD q 0 = L2.getD q 0) → G p l e ({ frames := 0, cells := 0, slots := 0, locals := 0 } : Room) s m #[(.ref a1), (.ref a2)] below meth c n0 (Wst s ({ frames := 0, cells := 0, slots := 0, locals := 0 } : Room) n0 (Pv (.int (bi (decide (L1 = L2)))) h)) h 0 0 (mkF m 9 #[.val (.ref a1), .val (.ref a2), .val (.int i)] []) := by
      intro t
      induction t using Nat.strongRecOn with
      | _ t ih9 =>
        intro i ht9 hi hq2
        refine G.iloadN C d14_9 rfl rfl ?_
        refine G.aloadN C d14_10 rfl rfl rfl ?_
        refine G.arrlen C A (own_ln_eq L1 m1) d14_11 rfl ?_
        refine G.icge C d14_12 (by decide) (pt := 32) (by decide) rfl (fun hc12 => ?_) (fun hc12 => ?_)
        · refine G.iconst C d14_32 (v := (1 : Int32)) rfl rfl ?_
          exact G.retZ C d14_33 (by decide) (by decide) rfl (⟨by rw [decide_eq_true (own_ext (own_lenE m1 m2 hc4) (fun q hq => hq2 q (by rw [Int32.lt_iff_toInt_lt, own_ln_eq L1 m1] at hc12; omega)))]; rfl, rfl⟩)
        · refine G.aloadN C d14_15 rfl rfl rfl ?_
          refine G.iloadN C d14_16 rfl rfl ?_
          have hin := own_inL m1 hi.1 hc12
          have hlE := own_lenE m1 m2 hc4
          refine G.baloadB C A ⟨hi.1, by omega⟩ d14_17 rfl ?_
          show G p l e _ _ m _ below meth c n0 _ h 0 0 (mkF m 18 #[.val (.ref a1), .val (.ref a2), .val (.int i)] [(.int (L1.getD i.toInt.toNat 0))])
          refine G.aloadN C d14_18 rfl rfl rfl ?_
          refine G.iloadN C d14_19 rfl rfl ?_
          refine G.baloadB C B ⟨hi.1, by omega⟩ d14_20 rfl ?_
          show G p l e _ _ m _ below meth c n0 _ h 0 0 (mkF m 21 #[.val (.ref a1), .val (.ref a2), .val (.int i)] [(.int (L2.getD i.toInt.toNat 0)), (.int (L1.getD i.toInt.toNat 0))])
          refine G.iceq C d14_21 (by decide) (pt := 26) (by decide) rfl (fun hc21 => ?_) (fun hc21 => ?_)
          · refine G.iinc C d14_26 rfl (z := (1 : Int32)) rfl (Ls' := #[.val (.ref a1), .val (.ref a2), .val (.int (i + (1 : Int32)))]) rfl rfl ?_
            have hst := own_stp i (own_ln L1) hi.1 hc12
            have hle := own_ln_eq L1 m1
            have hn0 : ((own_ln L1).toInt - (i + 1).toInt).toNat < t := by omega
            have hn1 : 0 ≤ (i + 1).toInt ∧ (i + 1).toInt ≤ (own_ln L1).toInt := by omega
            have hn2 : ∀ q : Nat, (q : Int) < (i + 1).toInt → L1.getD q 0 = L2.getD q 0 := fun q hq => by
              by_cases z : (q : Int) < i.toInt
              · exact hq2 q z
              · have w : q = i.toInt.toNat := by omega
                rw [w]; exact hc21
            refine G.goto C d14_29 (by decide) (pc' := 9) (by decide) ?_
            exact ih9 _ hn0 (i + 1) rfl hn1 hn2
          · refine G.iconst C d14_24 (v := (0 : Int32)) rfl rfl ?_
            exact G.retZ C d14_25 (by decide) (by decide) rfl (⟨by rw [decide_eq_false (fun e => hc21 (by rw [e]))]; rfl, rfl⟩)
    exact L9 _ (0 : Int32) rfl ⟨by decide, by have := own_ln_eq L1 m1; show (0 : Int) ≤ _; omega⟩ (fun q hq => absurd hq (by show ¬ ((q : Int) < 0); omega))
theorem d13_0 : decode jdk_42_method_66_code 0 = .ok (.aload_n 0, 1) := by decide +kernel
theorem d13_1 : decode jdk_42_method_66_code 1 = .ok (.aload_n 1, 1) := by decide +kernel
theorem d13_2 : decode jdk_42_method_66_code 2 = .ok (.if_acmp .ne 5, 3) := by decide +kernel
theorem d13_5 : decode jdk_42_method_66_code 5 = .ok (.iconst 1, 1) := by decide +kernel
theorem d13_6 : decode jdk_42_method_66_code 6 = .ok (.ireturn, 1) := by decide +kernel
theorem d13_7 : decode jdk_42_method_66_code 7 = .ok (.aload_n 1, 1) := by decide +kernel
theorem d13_8 : decode jdk_42_method_66_code 8 = .ok (.instanceof 10, 3) := by decide +kernel
theorem d13_11 : decode jdk_42_method_66_code 11 = .ok (.ifCond .eq 43, 3) := by decide +kernel
theorem d13_14 : decode jdk_42_method_66_code 14 = .ok (.aload_n 1, 1) := by decide +kernel
theorem d13_15 : decode jdk_42_method_66_code 15 = .ok (.checkcast 10, 3) := by decide +kernel
theorem d13_18 : decode jdk_42_method_66_code 18 = .ok (.astore_n 2, 1) := by decide +kernel
theorem d13_19 : decode jdk_42_method_66_code 19 = .ok (.getstatic 38, 3) := by decide +kernel
theorem d13_22 : decode jdk_42_method_66_code 22 = .ok (.ifCond .eq 14, 3) := by decide +kernel
theorem d13_25 : decode jdk_42_method_66_code 25 = .ok (.aload_n 0, 1) := by decide +kernel
theorem d13_26 : decode jdk_42_method_66_code 26 = .ok (.getfield 15, 3) := by decide +kernel
theorem d13_29 : decode jdk_42_method_66_code 29 = .ok (.aload_n 2, 1) := by decide +kernel
theorem d13_30 : decode jdk_42_method_66_code 30 = .ok (.getfield 15, 3) := by decide +kernel
theorem d13_33 : decode jdk_42_method_66_code 33 = .ok (.if_icmp .ne 21, 3) := by decide +kernel
theorem d13_36 : decode jdk_42_method_66_code 36 = .ok (.aload_n 0, 1) := by decide +kernel
theorem d13_37 : decode jdk_42_method_66_code 37 = .ok (.getfield 9, 3) := by decide +kernel
theorem d13_40 : decode jdk_42_method_66_code 40 = .ok (.aload_n 2, 1) := by decide +kernel
theorem d13_41 : decode jdk_42_method_66_code 41 = .ok (.getfield 9, 3) := by decide +kernel
theorem d13_44 : decode jdk_42_method_66_code 44 = .ok (.invokestatic 541, 3) := by decide +kernel
theorem d13_47 : decode jdk_42_method_66_code 47 = .ok (.ifCond .eq 7, 3) := by decide +kernel
theorem d13_50 : decode jdk_42_method_66_code 50 = .ok (.iconst 1, 1) := by decide +kernel
theorem d13_51 : decode jdk_42_method_66_code 51 = .ok (.goto 4, 3) := by decide +kernel
theorem d13_54 : decode jdk_42_method_66_code 54 = .ok (.iconst 0, 1) := by decide +kernel
theorem d13_55 : decode jdk_42_method_66_code 55 = .ok (.ireturn, 1) := by decide +kernel
theorem ef_c13 (m : MethodId) (a1 : Addr) (a2 : Addr) : entryFrame m #[(.ref a1), (.ref a2)] 3 = mkF m 0 #[.val (.ref a1), .val (.ref a2), .unset] [] := by first | (simp [entryFrame, mkF, argsToLocals, Value.category]; done) | rfl
set_option maxRecDepth 65536 in
set_option maxHeartbeats 40000000 in
theorem c13 (l : Launch) (Z : State) (a0 : Array Value) (hw : ∀ d ∈ tables_1, d.before a0 Z = true) (a1 : Addr) (a2 : Addr) (h : Heap) (n0 : Nat) (va vb : Addr) (L1 L2 : List Int32) (cs : Int32) (hcs : ¬ cs = 0) (S_cs : Sta Z h "java/lang/String" "COMPACT_STRINGS" "Z" (.int cs)) (O1 : own_S Z h a1 va L1) (O2 : own_S Z h a2 vb L2) (hsm : a1 = a2 → L1 = L2) : Con l Z (⟨"java/lang/String", "equals", "(Ljava/lang/Object;)Z"⟩ : MethodName) jdk_42_method_66_code 3 (some .boolean) ({ frames := 1, cells := 0, slots := 0, locals := 14 } : Room) #[(.ref a1), (.ref a2)] h n0 (Pv (.int (bi (decide (L1 = L2)))) h) := by
  refine Con.of (plainFor_of_name pn0) (fun m => ef_c13 m a1 a2) ?_
  intro p e s m below meth c C
  refine G.aloadN C d13_0 rfl rfl rfl ?_
  refine G.aloadN C d13_1 rfl rfl rfl ?_
  refine G.acmpne C d13_2 (by decide) (pt := 7) (by decide) rfl (fun hc2 => ?_) (fun hc2 => ?_)
  · refine G.aloadN C d13_7 rfl rfl rfl ?_
    refine G.instY C (twd hw 73 rfl) (Ins.self O2.1) d13_8 rfl ?_
    refine G.ifeq C d13_11 (by decide) (pt := 54) (by decide) rfl (fun q => absurd q (by decide)) (fun _ => ?_)
    refine G.aloadN C d13_14 rfl rfl rfl ?_
    refine G.castY C (twd hw 73 rfl) (Ins.self O2.1) d13_15 rfl ?_
    refine G.astoreN C d13_18 rfl (Ls' := #[.val (.ref a1), .val (.ref a2), .val (.ref a2)]) rfl rfl ?_
    refine G.getS C (twd hw 26 rfl) S_cs d13_19 rfl ?_
    refine G.ifeq C d13_22 (by decide) (pt := 36) (by decide) rfl (fun hc22 => absurd hc22 hcs) (fun hc22 => ?_)
    refine G.aloadN C d13_25 rfl rfl rfl ?_
    refine G.getF C (twd hw 25 rfl) O1.2.2.1 d13_26 rfl ?_
    refine G.aloadN C d13_29 rfl rfl rfl ?_
    refine G.getF C (twd hw 25 rfl) O2.2.2.1 d13_30 rfl ?_
    refine G.icne C d13_33 (by decide) (pt := 54) (by decide) rfl (fun q => absurd q (by decide)) (fun _ => ?_)
    refine G.aloadN C d13_36 rfl rfl rfl ?_
    refine G.getF C (twd hw 24 rfl) O1.2.1 d13_37 rfl ?_
    refine G.aloadN C d13_40 rfl rfl rfl ?_
    refine G.getF C (twd hw 24 rfl) O2.2.1 d13_41 rfl ?_
    refine G.callSP C (S := []) (W := 0) (twd hw 74 rfl) (twd hw 75 rfl) (twd hw 76 rfl) (twd hw 77 rfl) (by decide) (c14 l Z a0 hw va vb h n0 L1 L2 O1.2.2.2.1 O2.2.2.2.1 O1.2.2.2.2 O2.2.2.2.2) pd12 rfl rfl d13_44 rfl (Nat.le_of_eq rfl) (by decide) (by decide) rfl rfl (by decide) (by decide) rfl ?_
    refine G.bfeq C d13_47 (by decide) (pt := 54) (by decide) rfl (fun hc47 => ?_) (fun hc47 => ?_)
    · refine G.iconst C d13_54 (v := (0 : Int32)) rfl rfl ?_
      exact G.retZ C d13_55 (by decide) (by decide) rfl (⟨by rw [hc47]; rfl, rfl⟩)
    · refine G.iconst C d13_50 (v := (1 : Int32)) rfl rfl ?_
      refine G.goto C d13_51 (by decide) (pc' := 55) (by decide) ?_
      exact G.retZ C d13_55 (by decide) (by decide) rfl (⟨by rw [hc47]; rfl, rfl⟩)
  · refine G.iconst C d13_5 (v := (1 : Int32)) rfl rfl ?_
    exact G.retZ C d13_6 (by decide) (by decide) rfl (⟨by rw [decide_eq_true (hsm hc2)]; rfl, rfl⟩)
def own_An (Z : State) (h : Heap) (a : Addr) (v0 v1 : Value) : Prop := Exa Z h a "com/example/ample_pool/amplepool/control/ApiRequests$Answer" ∧ Fld Z h a "com/example/ample_pool/amplepool/control/ApiRequests$Answer" "method" "Ljava/lang/String;" v0 ∧ Fld Z h a "com/example/ample_pool/amplepool/control/ApiRequests$Answer" "status" "I" v1
theorem own_An.ext {Z : State} {h h' : Heap} {a : Addr} {v0 v1 : Value} (F : own_An Z h a v0 v1) (E : Ext h h') : own_An Z h' a v0 v1 := ⟨Exa.ext E F.1, Fld.ext E F.2.1, Fld.ext E F.2.2⟩
theorem own_An.keep {Z : State} {h h' : Heap} {a : Addr} {v0 v1 : Value} {ws : List Addr} (F : own_An Z h a v0 v1) (K : Kp h h' ws) (q : a ∉ ws) : own_An Z h' a v0 v1 := ⟨Exa.keep F.1 K.1, Fld.keep F.2.1 K.1 q, Fld.keep F.2.2 K.1 q⟩
theorem own_An.oth {Z : State} {h h' : Heap} {a b : Addr} {v0 v1 : Value} {sl : Nat} {u : Value} (F : own_An Z h a v0 v1) (W : Wr h h' b sl u) (q : a ≠ b) : own_An Z h' a v0 v1 := ⟨Exa.wr W F.1, Fld.other W F.2.1 (Or.inl q), Fld.other W F.2.2 (Or.inl q)⟩
theorem own_An.w0 {Z : State} {a0 : Array Value} {h h' : Heap} {a : Addr} {v0 v1 : Value} {u : Value} (hw : ∀ d ∈ tables_1, d.before a0 Z = true) (F : own_An Z h a v0 v1) (W : Wr h h' a (Jvm.RoadKit.slotOf Z "com/example/ample_pool/amplepool/control/ApiRequests$Answer" "method" "Ljava/lang/String;") u) : own_An Z h' a u v1 := ⟨Exa.wr W F.1, Fld.same W F.2.1, Fld.other W F.2.2 (Or.inr (slot_ne (C := "com/example/ample_pool/amplepool/control/ApiRequests$Answer") (Or.inr (twd hw 60 rfl)) (Or.inr (twd hw 58 rfl)) (by decide) (t := .int) (t' := (.object "java/lang/String")) (by decide) (by decide)))⟩
theorem own_An.w1 {Z : State} {a0 : Array Value} {h h' : Heap} {a : Addr} {v0 v1 : Value} {u : Value} (hw : ∀ d ∈ tables_1, d.before a0 Z = true) (F : own_An Z h a v0 v1) (W : Wr h h' a (Jvm.RoadKit.slotOf Z "com/example/ample_pool/amplepool/control/ApiRequests$Answer" "status" "I") u) : own_An Z h' a v0 u := ⟨Exa.wr W F.1, Fld.other W F.2.1 (Or.inr (slot_ne (C := "com/example/ample_pool/amplepool/control/ApiRequests$Answer") (Or.inr (twd hw 58 rfl)) (Or.inr (twd hw 60 rfl)) (by decide) (t := (.object "java/lang/String")) (t' := .int) (by decide) (by decide))), Fld.same W F.2.2⟩
theorem own_An.new {Z : State} {a0 : Array Value} {h : Heap} {a : Addr} (hw : ∀ d ∈ tables_1, d.before a0 Z = true) (E : Exa Z h a "com/example/ample_pool/amplepool/control/ApiRequests$Answer") (D : ∀ {O nm d : String} {ty : FieldType}, Laid Z a0 "com/example/ample_pool/amplepool/control/ApiRequests$Answer" O nm d → parseFieldDescriptor d = some ty → Fld Z h a O nm d (defaultValue ty)) : own_An Z h a .null (.int 0) := ⟨E, D (Or.inr (twd hw 58 rfl)) (ty := (.object "java/lang/String")) (by decide), D (Or.inr (twd hw 60 rfl)) (ty := .int) (by decide)⟩
theorem d11_0 : decode prog_3_method_1_code 0 = .ok (.aload_n 0, 1) := by decide +kernel
theorem d11_1 : decode prog_3_method_1_code 1 = .ok (.invokespecial 1, 3) := by decide +kernel
theorem d11_4 : decode prog_3_method_1_code 4 = .ok (.aload_n 0, 1) := by decide +kernel
theorem d11_5 : decode prog_3_method_1_code 5 = .ok (.aload_n 1, 1) := by decide +kernel
theorem d11_6 : decode prog_3_method_1_code 6 = .ok (.putfield 7, 3) := by decide +kernel
theorem d11_9 : decode prog_3_method_1_code 9 = .ok (.aload_n 0, 1) := by decide +kernel
theorem d11_10 : decode prog_3_method_1_code 10 = .ok (.iload_n 2, 1) := by decide +kernel
theorem d11_11 : decode prog_3_method_1_code 11 = .ok (.putfield 13, 3) := by decide +kernel
theorem d11_14 : decode prog_3_method_1_code 14 = .ok (.return_, 1) := by decide +kernel
theorem pn5 : plainName "com/example/ample_pool/amplepool/control/ApiRequests$Answer" = true := by first | (simp [plainName, overriddenIn]; done) | decide +kernel
theorem ef_c11 (m : MethodId) (a1 : Addr) (a2 : Addr) (i3 : Int32) : entryFrame m #[(.ref a1), (.ref a2), (.int i3)] 3 = mkF m 0 #[.val (.ref a1), .val (.ref a2), .val (.int i3)] [] := by first | (simp [entryFrame, mkF, argsToLocals, Value.category]; done) | rfl
set_option maxRecDepth 65536 in
set_option maxHeartbeats 40000000 in
theorem c11 (l : Launch) (Z : State) (a0 : Array Value) (hw : ∀ d ∈ tables_1, d.before a0 Z = true) (a1 : Addr) (a2 : Addr) (i3 : Int32) (h : Heap) (n0 : Nat) (u0 u1 : Value) (ge : n0 ≤ a1) (O : own_An Z h a1 u0 u1) : Con l Z (⟨"com/example/ample_pool/amplepool/control/ApiRequests$Answer", "<init>", "(Ljava/lang/String;I)V"⟩ : MethodName) prog_3_method_1_code 3 none ({ frames := 1, cells := 0, slots := 0, locals := 12 } : Room) #[(.ref a1), (.ref a2), (.int i3)] h n0 (fun v h' => v = none ∧ own_An Z h' a1 (.ref a2) (.int i3) ∧ Kp h h' [a1]) := by
  refine Con.of (plainFor_of_name pn5) (fun m => ef_c11 m a1 a2 i3) ?_
  intro p e s m below meth c C
  refine G.aloadN C d11_0 rfl rfl rfl ?_
  refine G.initO C (W := 0) (twd hw 56 rfl) (twd hw 16 rfl) (twd hw 17 rfl) rfl d11_1 (by decide) (Nat.le_of_eq rfl) (by decide) rfl ?_
  refine G.aloadN C d11_4 rfl rfl rfl ?_
  refine G.aloadN C d11_5 rfl rfl rfl ?_
  refine G.putF C (twd hw 57 rfl) (O).2.1 (O).1 (Or.inr ⟨(twd hw 58 rfl), rfl, rfl⟩) (twd hw 51 rfl) (ty := (.object "java/lang/String")) (by decide) rfl rfl ge d11_6 rfl (fun hn1 W6 => ?_)
  have kp2 := Kp.wr (Kp.refl h [a1]) W6 (Or.inl (by simp))
  have oc3 := own_An.w0 hw O W6
  refine G.aloadN C d11_9 rfl rfl rfl ?_
  refine G.iloadN C d11_10 rfl rfl ?_
  refine G.putF C (twd hw 59 rfl) (oc3).2.2 (oc3).1 (Or.inr ⟨(twd hw 60 rfl), rfl, rfl⟩) (twd hw 51 rfl) (ty := .int) (by decide) rfl rfl ge d11_11 rfl (fun hn4 W11 => ?_)
  have kp5 := Kp.wr kp2 W11 (Or.inl (by simp))
  have oc6 := own_An.w1 hw oc3 W11
  exact G.retV C d11_14 (by decide) (by decide) (⟨rfl, oc6, kp5⟩)
theorem d12_0 : decode prog_3_method_4_code 0 = .ok (.aload_n 1, 1) := by decide +kernel
theorem d12_1 : decode prog_3_method_4_code 1 = .ok (.instanceof 8, 3) := by decide +kernel
theorem d12_4 : decode prog_3_method_4_code 4 = .ok (.ifCond .eq 37, 3) := by decide +kernel
theorem d12_7 : decode prog_3_method_4_code 7 = .ok (.aload_n 1, 1) := by decide +kernel
theorem d12_8 : decode prog_3_method_4_code 8 = .ok (.checkcast 8, 3) := by decide +kernel
theorem d12_11 : decode prog_3_method_4_code 11 = .ok (.astore_n 2, 1) := by decide +kernel
theorem d12_12 : decode prog_3_method_4_code 12 = .ok (.aload_n 2, 1) := by decide +kernel
theorem d12_13 : decode prog_3_method_4_code 13 = .ok (.getfield 7, 3) := by decide +kernel
theorem d12_16 : decode prog_3_method_4_code 16 = .ok (.aload_n 0, 1) := by decide +kernel
theorem d12_17 : decode prog_3_method_4_code 17 = .ok (.getfield 7, 3) := by decide +kernel
theorem d12_20 : decode prog_3_method_4_code 20 = .ok (.invokevirtual 17, 3) := by decide +kernel
theorem d12_23 : decode prog_3_method_4_code 23 = .ok (.ifCond .eq 18, 3) := by decide +kernel
theorem d12_26 : decode prog_3_method_4_code 26 = .ok (.aload_n 2, 1) := by decide +kernel
theorem d12_27 : decode prog_3_method_4_code 27 = .ok (.getfield 13, 3) := by decide +kernel
theorem d12_30 : decode prog_3_method_4_code 30 = .ok (.aload_n 0, 1) := by decide +kernel
theorem d12_31 : decode prog_3_method_4_code 31 = .ok (.getfield 13, 3) := by decide +kernel
theorem d12_34 : decode prog_3_method_4_code 34 = .ok (.if_icmp .ne 7, 3) := by decide +kernel
theorem d12_37 : decode prog_3_method_4_code 37 = .ok (.iconst 1, 1) := by decide +kernel
theorem d12_38 : decode prog_3_method_4_code 38 = .ok (.goto 4, 3) := by decide +kernel
theorem d12_41 : decode prog_3_method_4_code 41 = .ok (.iconst 0, 1) := by decide +kernel
theorem d12_42 : decode prog_3_method_4_code 42 = .ok (.ireturn, 1) := by decide +kernel
theorem ef_cQn (m : MethodId) (a1 : Addr) : entryFrame m #[(.ref a1), .null] 3 = mkF m 0 #[.val (.ref a1), .val .null, .unset] [] := by first | (simp [entryFrame, mkF, argsToLocals, Value.category]; done) | rfl
set_option maxRecDepth 65536 in
set_option maxHeartbeats 40000000 in
theorem cQn (l : Launch) (Z : State) (a0 : Array Value) (hw : ∀ d ∈ tables_1, d.before a0 Z = true) (a1 : Addr) (h : Heap) (n0 : Nat)  : Con l Z (⟨"com/example/ample_pool/amplepool/control/ApiRequests$Answer", "equals", "(Ljava/lang/Object;)Z"⟩ : MethodName) prog_3_method_4_code 3 (some .boolean) ({ frames := 0, cells := 0, slots := 0, locals := 0 } : Room) #[(.ref a1), .null] h n0 (Pv (.int (0 : Int32)) h) := by
  refine Con.of (plainFor_of_name pn5) (fun m => ef_cQn m a1) ?_
  intro p e s m below meth c C
  refine G.aloadN C d12_0 rfl rfl rfl ?_
  refine G.instNull C d12_1 rfl ?_
  refine G.ifeq C d12_4 (by decide) (pt := 41) (by decide) rfl (fun _ => ?_) (fun q => absurd q (by decide))
  refine G.iconst C d12_41 (v := (0 : Int32)) rfl rfl ?_
  exact G.retZ C d12_42 (by decide) (by decide) rfl (⟨rfl, rfl⟩)
theorem ef_cQs (m : MethodId) (a1 : Addr) (a2 : Addr) : entryFrame m #[(.ref a1), (.ref a2)] 3 = mkF m 0 #[.val (.ref a1), .val (.ref a2), .unset] [] := by first | (simp [entryFrame, mkF, argsToLocals, Value.category]; done) | rfl
set_option maxRecDepth 65536 in
set_option maxHeartbeats 40000000 in
theorem cQs (l : Launch) (Z : State) (a0 : Array Value) (hw : ∀ d ∈ tables_1, d.before a0 Z = true) (a1 : Addr) (a2 : Addr) (h : Heap) (n0 : Nat) (X2 : Exa Z h a2 "java/lang/String") : Con l Z (⟨"com/example/ample_pool/amplepool/control/ApiRequests$Answer", "equals", "(Ljava/lang/Object;)Z"⟩ : MethodName) prog_3_method_4_code 3 (some .boolean) ({ frames := 0, cells := 0, slots := 0, locals := 0 } : Room) #[(.ref a1), (.ref a2)] h n0 (Pv (.int (0 : Int32)) h) := by
  refine Con.of (plainFor_of_name pn5) (fun m => ef_cQs m a1 a2) ?_
  intro p e s m below meth c C
  refine G.aloadN C d12_0 rfl rfl rfl ?_
  refine G.instN C (twd hw 66 rfl) (Ins.no2 X2 (twd hw 78 rfl) (twd hw 79 rfl) (twd hw 51 rfl) (by decide) (by decide)) X2 d12_1 rfl ?_
  refine G.ifeq C d12_4 (by decide) (pt := 41) (by decide) rfl (fun _ => ?_) (fun q => absurd q (by decide))
  refine G.iconst C d12_41 (v := (0 : Int32)) rfl rfl ?_
  exact G.retZ C d12_42 (by decide) (by decide) rfl (⟨rfl, rfl⟩)
theorem ef_cQ (m : MethodId) (a1 : Addr) (a2 : Addr) : entryFrame m #[(.ref a1), (.ref a2)] 3 = mkF m 0 #[.val (.ref a1), .val (.ref a2), .unset] [] := by first | (simp [entryFrame, mkF, argsToLocals, Value.category]; done) | rfl
set_option maxRecDepth 65536 in
set_option maxHeartbeats 40000000 in
theorem cQ (l : Launch) (Z : State) (a0 : Array Value) (hw : ∀ d ∈ tables_1, d.before a0 Z = true) (a1 : Addr) (a2 : Addr) (h : Heap) (n0 : Nat) (t1 : Addr) (q1 : Int32) (N1 : own_An Z h a1 (.ref t1) (.int q1)) (t2 : Addr) (q2 : Int32) (N2 : own_An Z h a2 (.ref t2) (.int q2)) (va vb : Addr) (L1 L2 : List Int32) (bb : Bool) (hbb : decide (L2 = L1) = bb) (cs : Int32) (hcs : ¬ cs = 0) (S_cs : Sta Z h "java/lang/String" "COMPACT_STRINGS" "Z" (.int cs)) (O1 : own_S Z h t1 va L1) (O2 : own_S Z h t2 vb L2) (hsm : t2 = t1 → L2 = L1) : Con l Z (⟨"com/example/ample_pool/amplepool/control/ApiRequests$Answer", "equals", "(Ljava/lang/Object;)Z"⟩ : MethodName) prog_3_method_4_code 3 (some .boolean) ({ frames := 2, cells := 0, slots := 0, locals := 28 } : Room) #[(.ref a1), (.ref a2)] h n0 (Pv (.int (bi (bb && decide (q2 = q1)))) h) := by
  refine Con.of (plainFor_of_name pn5) (fun m => ef_cQ m a1 a2) ?_
  intro p e s m below meth c C
  refine G.aloadN C d12_0 rfl rfl rfl ?_
  refine G.instY C (twd hw 66 rfl) (Ins.self N2.1) d12_1 rfl ?_
  refine G.ifeq C d12_4 (by decide) (pt := 41) (by decide) rfl (fun q => absurd q (by decide)) (fun _ => ?_)
  refine G.aloadN C d12_7 rfl rfl rfl ?_
  refine G.castY C (twd hw 66 rfl) (Ins.self N2.1) d12_8 rfl ?_
  refine G.astoreN C d12_11 rfl (Ls' := #[.val (.ref a1), .val (.ref a2), .val (.ref a2)]) rfl rfl ?_
  refine G.aloadN C d12_12 rfl rfl rfl ?_
  refine G.getF C (twd hw 57 rfl) N2.2.1 d12_13 rfl ?_
  refine G.aloadN C d12_16 rfl rfl rfl ?_
  refine G.getF C (twd hw 57 rfl) N1.2.1 d12_17 rfl ?_
  refine G.callVP C (S := []) (W := 0) (twd hw 68 rfl) (twd hw 70 rfl) (twd hw 6 rfl) (twd hw 72 rfl) (twd hw 69 rfl) (twd hw 71 rfl) O2.1 (by decide) (hbb ▸ c13 l Z a0 hw t2 t1 h n0 vb va L2 L1 cs hcs S_cs O2 O1 hsm) pd11 rfl rfl d12_20 rfl (Nat.le_of_eq rfl) (by decide) (by decide) rfl rfl (by decide) (by decide) rfl ?_
  refine G.bfeq C d12_23 (by decide) (pt := 41) (by decide) rfl (fun hc23 => ?_) (fun hc23 => ?_)
  · refine G.iconst C d12_41 (v := (0 : Int32)) rfl rfl ?_
    exact G.retZ C d12_42 (by decide) (by decide) rfl (⟨by simp [bi, hc23], rfl⟩)
  · refine G.aloadN C d12_26 rfl rfl rfl ?_
    refine G.getF C (twd hw 59 rfl) N2.2.2 d12_27 rfl ?_
    refine G.aloadN C d12_30 rfl rfl rfl ?_
    refine G.getF C (twd hw 59 rfl) N1.2.2 d12_31 rfl ?_
    refine G.icne C d12_34 (by decide) (pt := 41) (by decide) rfl (fun hc34 => ?_) (fun hc34 => ?_)
    · refine G.iconst C d12_41 (v := (0 : Int32)) rfl rfl ?_
      exact G.retZ C d12_42 (by decide) (by decide) rfl (⟨by simp [bi, hc23, hc34], rfl⟩)
    · refine G.iconst C d12_37 (v := (1 : Int32)) rfl rfl ?_
      refine G.goto C d12_38 (by decide) (pc' := 42) (by decide) ?_
      exact G.retZ C d12_42 (by decide) (by decide) rfl (⟨by simp [bi, hc23, hc34], rfl⟩)
theorem d1_0 : decode method_2_code 0 = .ok (.iload_n 0, 1) := by decide +kernel
theorem d1_1 : decode method_2_code 1 = .ok (.bipush 8, 2) := by decide +kernel
theorem d1_3 : decode method_2_code 3 = .ok (.iushr, 1) := by decide +kernel
theorem d1_4 : decode method_2_code 4 = .ok (.sipush 255, 3) := by decide +kernel
theorem d1_7 : decode method_2_code 7 = .ok (.iand, 1) := by decide +kernel
theorem d1_8 : decode method_2_code 8 = .ok (.i2c, 1) := by decide +kernel
theorem d1_9 : decode method_2_code 9 = .ok (.istore_n 1, 1) := by decide +kernel
theorem d1_10 : decode method_2_code 10 = .ok (.iload_n 0, 1) := by decide +kernel
theorem d1_11 : decode method_2_code 11 = .ok (.bipush 16, 2) := by decide +kernel
theorem d1_13 : decode method_2_code 13 = .ok (.iushr, 1) := by decide +kernel
theorem d1_14 : decode method_2_code 14 = .ok (.sipush 255, 3) := by decide +kernel
theorem d1_17 : decode method_2_code 17 = .ok (.iand, 1) := by decide +kernel
theorem d1_18 : decode method_2_code 18 = .ok (.i2c, 1) := by decide +kernel
theorem d1_19 : decode method_2_code 19 = .ok (.istore_n 2, 1) := by decide +kernel
theorem d1_20 : decode method_2_code 20 = .ok (.iload_n 0, 1) := by decide +kernel
theorem d1_21 : decode method_2_code 21 = .ok (.bipush 24, 2) := by decide +kernel
theorem d1_23 : decode method_2_code 23 = .ok (.iushr, 1) := by decide +kernel
theorem d1_24 : decode method_2_code 24 = .ok (.sipush 255, 3) := by decide +kernel
theorem d1_27 : decode method_2_code 27 = .ok (.iand, 1) := by decide +kernel
theorem d1_28 : decode method_2_code 28 = .ok (.i2c, 1) := by decide +kernel
theorem d1_29 : decode method_2_code 29 = .ok (.istore_n 3, 1) := by decide +kernel
theorem d1_30 : decode method_2_code 30 = .ok (.iload_n 0, 1) := by decide +kernel
theorem d1_31 : decode method_2_code 31 = .ok (.iconst 3, 1) := by decide +kernel
theorem d1_32 : decode method_2_code 32 = .ok (.iand, 1) := by decide +kernel
theorem d1_33 : decode method_2_code 33 = .ok (.istore 4, 2) := by decide +kernel
theorem d1_35 : decode method_2_code 35 = .ok (.iload 4, 2) := by decide +kernel
theorem d1_37 : decode method_2_code 37 = .ok (.ifCond .ne 14, 3) := by decide +kernel
theorem d1_40 : decode method_2_code 40 = .ok (.new 7, 3) := by decide +kernel
theorem d1_43 : decode method_2_code 43 = .ok (.dup, 1) := by decide +kernel
theorem d1_44 : decode method_2_code 44 = .ok (.iconst 0, 1) := by decide +kernel
theorem d1_45 : decode method_2_code 45 = .ok (.newarray .char, 2) := by decide +kernel
theorem d1_47 : decode method_2_code 47 = .ok (.invokespecial 9, 3) := by decide +kernel
theorem d1_50 : decode method_2_code 50 = .ok (.areturn, 1) := by decide +kernel
theorem d1_51 : decode method_2_code 51 = .ok (.iload 4, 2) := by decide +kernel
theorem d1_53 : decode method_2_code 53 = .ok (.iconst 1, 1) := by decide +kernel
theorem d1_54 : decode method_2_code 54 = .ok (.if_icmp .ne 8, 3) := by decide +kernel
theorem d1_57 : decode method_2_code 57 = .ok (.iload_n 1, 1) := by decide +kernel
theorem d1_58 : decode method_2_code 58 = .ok (.invokestatic 12, 3) := by decide +kernel
theorem d1_61 : decode method_2_code 61 = .ok (.areturn, 1) := by decide +kernel
theorem d1_62 : decode method_2_code 62 = .ok (.iload 4, 2) := by decide +kernel
theorem d1_64 : decode method_2_code 64 = .ok (.iconst 2, 1) := by decide +kernel
theorem d1_65 : decode method_2_code 65 = .ok (.if_icmp .ne 22, 3) := by decide +kernel
theorem d1_68 : decode method_2_code 68 = .ok (.new 7, 3) := by decide +kernel
theorem d1_71 : decode method_2_code 71 = .ok (.dup, 1) := by decide +kernel
theorem d1_72 : decode method_2_code 72 = .ok (.iconst 2, 1) := by decide +kernel
theorem d1_73 : decode method_2_code 73 = .ok (.newarray .char, 2) := by decide +kernel
theorem d1_75 : decode method_2_code 75 = .ok (.dup, 1) := by decide +kernel
theorem d1_76 : decode method_2_code 76 = .ok (.iconst 0, 1) := by decide +kernel
theorem d1_77 : decode method_2_code 77 = .ok (.iload_n 1, 1) := by decide +kernel
theorem d1_78 : decode method_2_code 78 = .ok (.castore, 1) := by decide +kernel
theorem d1_79 : decode method_2_code 79 = .ok (.dup, 1) := by decide +kernel
theorem d1_80 : decode method_2_code 80 = .ok (.iconst 1, 1) := by decide +kernel
theorem d1_81 : decode method_2_code 81 = .ok (.iload_n 2, 1) := by decide +kernel
theorem d1_82 : decode method_2_code 82 = .ok (.castore, 1) := by decide +kernel
theorem d1_83 : decode method_2_code 83 = .ok (.invokespecial 9, 3) := by decide +kernel
theorem d1_86 : decode method_2_code 86 = .ok (.areturn, 1) := by decide +kernel
theorem d1_87 : decode method_2_code 87 = .ok (.new 7, 3) := by decide +kernel
theorem d1_90 : decode method_2_code 90 = .ok (.dup, 1) := by decide +kernel
theorem d1_91 : decode method_2_code 91 = .ok (.iconst 3, 1) := by decide +kernel
theorem d1_92 : decode method_2_code 92 = .ok (.newarray .char, 2) := by decide +kernel
theorem d1_94 : decode method_2_code 94 = .ok (.dup, 1) := by decide +kernel
theorem d1_95 : decode method_2_code 95 = .ok (.iconst 0, 1) := by decide +kernel
theorem d1_96 : decode method_2_code 96 = .ok (.iload_n 1, 1) := by decide +kernel
theorem d1_97 : decode method_2_code 97 = .ok (.castore, 1) := by decide +kernel
theorem d1_98 : decode method_2_code 98 = .ok (.dup, 1) := by decide +kernel
theorem d1_99 : decode method_2_code 99 = .ok (.iconst 1, 1) := by decide +kernel
theorem d1_100 : decode method_2_code 100 = .ok (.iload_n 2, 1) := by decide +kernel
theorem d1_101 : decode method_2_code 101 = .ok (.castore, 1) := by decide +kernel
theorem d1_102 : decode method_2_code 102 = .ok (.dup, 1) := by decide +kernel
theorem d1_103 : decode method_2_code 103 = .ok (.iconst 2, 1) := by decide +kernel
theorem d1_104 : decode method_2_code 104 = .ok (.iload_n 3, 1) := by decide +kernel
theorem d1_105 : decode method_2_code 105 = .ok (.castore, 1) := by decide +kernel
theorem d1_106 : decode method_2_code 106 = .ok (.invokespecial 9, 3) := by decide +kernel
theorem d1_109 : decode method_2_code 109 = .ok (.areturn, 1) := by decide +kernel
theorem ef_c1 (m : MethodId) (i1 : Int32) : entryFrame m #[(.int i1)] 5 = mkF m 0 #[.val (.int i1), .unset, .unset, .unset, .unset] [] := by first | (simp [entryFrame, mkF, argsToLocals, Value.category]; done) | rfl
set_option maxRecDepth 65536 in
set_option maxHeartbeats 40000000 in
theorem c1 (l : Launch) (Z : State) (a0 : Array Value) (hw : ∀ d ∈ tables_1, d.before a0 Z = true) (i1 : Int32) (h : Heap) (n0 : Nat) (sz : n0 ≤ h.size) (cs : Int32) (hcs : ¬ cs = 0) (S_cs : Sta Z h "java/lang/String" "COMPACT_STRINGS" "Z" (.int cs)) : ConH l Z own_EL (⟨"com/example/ample_pool/amplepool/control/AnswerEqualsPinLaw", "text", "(I)Ljava/lang/String;"⟩ : MethodName) method_2_code 5 (some (.object "java/lang/String")) ({ frames := 4, cells := 6, slots := 12, locals := 66 } : Room) #[(.int i1)] h n0 (fun v h' => ∃ a va, v = some (.ref a) ∧ own_S Z h' a va (own_tx i1) ∧ Kp h h' [] ∧ h.size ≤ a) := by
  refine ConH.of (plainFor_of_name pn4) (fun m => ef_c1 m i1) ?_
  intro p e s m below meth c H0 C
  refine G.iloadN C d1_0 rfl rfl ?_
  refine G.bipush C d1_1 (v := (8 : Int32)) rfl rfl ?_
  refine G.iushr C d1_3 rfl ?_
  refine G.sipush C d1_4 (v := (255 : Int32)) rfl rfl ?_
  refine G.iand C d1_7 rfl ?_
  refine G.i2c C d1_8 rfl ?_
  refine G.istoreN C d1_9 (Ls' := #[.val (.int i1), .val (.int ((((i1.toUInt32 >>> ((8 : Int32) &&& 31).toUInt32).toInt32) &&& (255 : Int32)).toUInt32.toUInt16.toUInt32.toInt32)), .unset, .unset, .unset]) rfl rfl ?_
  generalize hv9 : ((((i1.toUInt32 >>> ((8 : Int32) &&& 31).toUInt32).toInt32) &&& (255 : Int32)).toUInt32.toUInt16.toUInt32.toInt32) = v9
  have r9 : 0 ≤ v9.toInt ∧ v9.toInt ≤ 255 := by rw [← hv9]; exact own_c8 _
  refine G.iloadN C d1_10 rfl rfl ?_
  refine G.bipush C d1_11 (v := (16 : Int32)) rfl rfl ?_
  refine G.iushr C d1_13 rfl ?_
  refine G.sipush C d1_14 (v := (255 : Int32)) rfl rfl ?_
  refine G.iand C d1_17 rfl ?_
  refine G.i2c C d1_18 rfl ?_
  refine G.istoreN C d1_19 (Ls' := #[.val (.int i1), .val (.int v9), .val (.int ((((i1.toUInt32 >>> ((16 : Int32) &&& 31).toUInt32).toInt32) &&& (255 : Int32)).toUInt32.toUInt16.toUInt32.toInt32)), .unset, .unset]) rfl rfl ?_
  generalize hv19 : ((((i1.toUInt32 >>> ((16 : Int32) &&& 31).toUInt32).toInt32) &&& (255 : Int32)).toUInt32.toUInt16.toUInt32.toInt32) = v19
  have r19 : 0 ≤ v19.toInt ∧ v19.toInt ≤ 255 := by rw [← hv19]; exact own_c8 _
  refine G.iloadN C d1_20 rfl rfl ?_
  refine G.bipush C d1_21 (v := (24 : Int32)) rfl rfl ?_
  refine G.iushr C d1_23 rfl ?_
  refine G.sipush C d1_24 (v := (255 : Int32)) rfl rfl ?_
  refine G.iand C d1_27 rfl ?_
  refine G.i2c C d1_28 rfl ?_
  refine G.istoreN C d1_29 (Ls' := #[.val (.int i1), .val (.int v9), .val (.int v19), .val (.int ((((i1.toUInt32 >>> ((24 : Int32) &&& 31).toUInt32).toInt32) &&& (255 : Int32)).toUInt32.toUInt16.toUInt32.toInt32)), .unset]) rfl rfl ?_
  generalize hv29 : ((((i1.toUInt32 >>> ((24 : Int32) &&& 31).toUInt32).toInt32) &&& (255 : Int32)).toUInt32.toUInt16.toUInt32.toInt32) = v29
  have r29 : 0 ≤ v29.toInt ∧ v29.toInt ≤ 255 := by rw [← hv29]; exact own_c8 _
  refine G.iloadN C d1_30 rfl rfl ?_
  refine G.iconst C d1_31 (v := (3 : Int32)) rfl rfl ?_
  refine G.iand C d1_32 rfl ?_
  refine G.istore C d1_33 (Ls' := #[.val (.int i1), .val (.int v9), .val (.int v19), .val (.int v29), .val (.int (i1 &&& (3 : Int32)))]) rfl rfl ?_
  generalize hv33 : (i1 &&& (3 : Int32)) = v33
  refine G.iload C d1_35 rfl rfl ?_
  refine G.ifne C d1_37 (by decide) (pt := 51) (by decide) rfl (fun hc37 => ?_) (fun hc37 => ?_)
  · refine G.iload C d1_51 rfl rfl ?_
    refine G.iconst C d1_53 (v := (1 : Int32)) rfl rfl ?_
    refine G.icne C d1_54 (by decide) (pt := 62) (by decide) rfl (fun hc54 => ?_) (fun hc54 => ?_)
    · refine G.iload C d1_62 rfl rfl ?_
      refine G.iconst C d1_64 (v := (2 : Int32)) rfl rfl ?_
      refine G.icne C d1_65 (by decide) (pt := 87) (by decide) rfl (fun hc65 => ?_) (fun hc65 => ?_)
      · refine G.newO C (twd hw 4 rfl) (twd hw 5 rfl) (twd hw 6 rfl) d1_87 (by decide) (by decide) rfl (fun hn1 b87 g87 E87 A87 D87 => ?_)
        have old87 := Nat.le_trans (Kp.refl h []).1.1 (Nat.le_of_eq g87.symm)
        have ge87 : n0 ≤ b87 := by rw [g87]; exact sz
        have sf2 := Sta.ext E87 S_cs
        have sz3 : n0 ≤ hn1.size := Nat.le_trans sz E87.1
        have kp4 := Kp.ext (Kp.refl h []) E87
        have ob87 := own_SV.new hw A87 D87
        show G p l e _ _ m _ below meth c n0 _ hn1 1 4 (mkF m 90 #[.val (.int i1), .val (.int v9), .val (.int v19), .val (.int v29), .val (.int v33)] [(.ref b87)])
        refine G.dup C d1_90 rfl rfl ?_
        refine G.iconst C d1_91 (v := (3 : Int32)) rfl rfl ?_
        refine G.newarr C (aty := .char) (twd hw 7 rfl) (z := (3 : Int32)) (by decide) (cap := 3) (by decide) (by decide) d1_92 (by decide) (by decide) rfl (fun hn5 b92 g92 E92 A92 => ?_)
        have old92 := Nat.le_trans kp4.1.1 (Nat.le_of_eq g92.symm)
        have ne_b87_b92 : b87 ≠ b92 := by rw [g92]; exact Nat.ne_of_lt (Exa.lt (ob87).1)
        have ge92 : n0 ≤ b92 := by rw [g92]; exact sz3
        have sf6 := Sta.ext E92 sf2
        have oc7 := own_SV.ext ob87 E92
        have sz8 : n0 ≤ hn5.size := Nat.le_trans sz3 E92.1
        have kp9 := Kp.ext kp4 E92
        have AA92 : Ara Z hn5 b92 .char 3 (own_tab [(0 : Int32), (0 : Int32), (0 : Int32)]) := Ara.cast A92 (fun q hq => own_t0 3 q)
        show G p l e _ _ m _ below meth c n0 _ hn5 2 7 (mkF m 94 #[.val (.int i1), .val (.int v9), .val (.int v19), .val (.int v29), .val (.int v33)] [(.ref b92), (.ref b87), (.ref b87)])
        refine G.dup C d1_94 rfl rfl ?_
        refine G.iconst C d1_95 (v := (0 : Int32)) rfl rfl ?_
        refine G.iloadN C d1_96 rfl rfl ?_
        refine G.castore C AA92 (by decide) ge92 d1_97 rfl (fun hn10 W97 => ?_)
        have Wbhn10 : Wr hn5 hn10 b92 0 (.int v9) := by have e := W97; rw [(own_nc r9)] at e; exact e
        have sf11 := Sta.wr W97 sf6
        have oc12 := own_SV.oth oc7 W97 ne_b87_b92
        have sz13 : n0 ≤ hn10.size := (by rw [W97.size]; exact sz8)
        have kp14 := Kp.wr kp9 W97 (Or.inr old92)
        have Awhn10 : Ara Z hn10 b92 .char 3 (own_tab [v9, (0 : Int32), (0 : Int32)]) := Ara.cast (Ara.set AA92 Wbhn10) (fun q hq => own_tset [(0 : Int32), (0 : Int32), (0 : Int32)] 0 v9 (show 0 < 3 by decide) q)
        refine G.dup C d1_98 rfl rfl ?_
        refine G.iconst C d1_99 (v := (1 : Int32)) rfl rfl ?_
        refine G.iloadN C d1_100 rfl rfl ?_
        refine G.castore C Awhn10 (by decide) ge92 d1_101 rfl (fun hn15 W101 => ?_)
        have Wbhn15 : Wr hn10 hn15 b92 1 (.int v19) := by have e := W101; rw [(own_nc r19)] at e; exact e
        have sf16 := Sta.wr W101 sf11
        have oc17 := own_SV.oth oc12 W101 ne_b87_b92
        have sz18 : n0 ≤ hn15.size := (by rw [W101.size]; exact sz13)
        have kp19 := Kp.wr kp14 W101 (Or.inr old92)
        have Awhn15 : Ara Z hn15 b92 .char 3 (own_tab [v9, v19, (0 : Int32)]) := Ara.cast (Ara.set Awhn10 Wbhn15) (fun q hq => own_tset [v9, (0 : Int32), (0 : Int32)] 1 v19 (show 1 < 3 by decide) q)
        refine G.dup C d1_102 rfl rfl ?_
        refine G.iconst C d1_103 (v := (2 : Int32)) rfl rfl ?_
        refine G.iloadN C d1_104 rfl rfl ?_
        refine G.castore C Awhn15 (by decide) ge92 d1_105 rfl (fun hn20 W105 => ?_)
        have Wbhn20 : Wr hn15 hn20 b92 2 (.int v29) := by have e := W105; rw [(own_nc r29)] at e; exact e
        have sf21 := Sta.wr W105 sf16
        have oc22 := own_SV.oth oc17 W105 ne_b87_b92
        have sz23 : n0 ≤ hn20.size := (by rw [W105.size]; exact sz18)
        have kp24 := Kp.wr kp19 W105 (Or.inr old92)
        have Awhn20 : Ara Z hn20 b92 .char 3 (own_tab [v9, v19, v29]) := Ara.cast (Ara.set Awhn15 Wbhn20) (fun q hq => own_tset [v9, v19, (0 : Int32)] 2 v29 (show 2 < 3 by decide) q)
        refine G.callI C (S := [(.ref b87)]) (W := 1) rfl (twd hw 8 rfl) (twd hw 9 rfl) (twd hw 6 rfl) (twd hw 10 rfl) (by decide) (cS3 l Z a0 hw b87 b92 hn20 n0 v9 v19 v29 r9 r19 r29 ge87 oc22 Awhn20 sz23 ne_b87_b92 cs hcs sf21) pd1 rfl rfl d1_106 rfl (Nat.le_of_eq rfl) (by decide) (by decide) (by decide) (by decide) rfl (fun whp25 hp25 hq26 => ?_)
        obtain ⟨rfl, bb, O106, A106, K106⟩ := hq26
        have sf27 := Sta.kp K106 sf21
        have oc28 := Ara.kp Awhn20 K106 (by simp [(Ne.symm ne_b87_b92)])
        have sz29 : n0 ≤ hp25.size := Nat.le_trans sz23 K106.1.1
        have kp30 := Kp.trans kp24 K106 (by simp [old87])
        show G p l e _ _ m _ below meth c n0 _ hp25 3 10 (mkF m 109 #[.val (.int i1), .val (.int v9), .val (.int v19), .val (.int v29), .val (.int v33)] [(.ref b87)])
        refine G.narrowE (Qn := fun v z => ((fun v h' => ∃ a va, v = some (.ref a) ∧ own_S Z h' a va (own_tx i1) ∧ Kp h h' [] ∧ h.size ≤ a) v z) ∧ Kp h z []) (fun v t q w => ⟨q.1, CHr.trans (CHr.keep q.2.1 (fun x hx => by cases hx) H0) (own_chw C (own_hEL hw) (CHr.keep q.2.1 (fun x hx => by cases hx) H0).1 w)⟩) ?_
        exact G.retA C rfl rfl d1_109 (by decide) (by decide) rfl (⟨⟨b87, bb, rfl, by rw [own_tx3 hv33 hc37 hc54 hc65 hv9 hv19 hv29]; exact ⟨O106.1, O106.2.1, O106.2.2, A106, (show 3 < 1000 by decide)⟩, kp30, old87⟩, kp30⟩)
      · refine G.newO C (twd hw 4 rfl) (twd hw 5 rfl) (twd hw 6 rfl) d1_68 (by decide) (by decide) rfl (fun hn31 b68 g68 E68 A68 D68 => ?_)
        have old68 := Nat.le_trans (Kp.refl h []).1.1 (Nat.le_of_eq g68.symm)
        have ge68 : n0 ≤ b68 := by rw [g68]; exact sz
        have sf32 := Sta.ext E68 S_cs
        have sz33 : n0 ≤ hn31.size := Nat.le_trans sz E68.1
        have kp34 := Kp.ext (Kp.refl h []) E68
        have ob68 := own_SV.new hw A68 D68
        show G p l e _ _ m _ below meth c n0 _ hn31 1 4 (mkF m 71 #[.val (.int i1), .val (.int v9), .val (.int v19), .val (.int v29), .val (.int v33)] [(.ref b68)])
        refine G.dup C d1_71 rfl rfl ?_
        refine G.iconst C d1_72 (v := (2 : Int32)) rfl rfl ?_
        refine G.newarr C (aty := .char) (twd hw 7 rfl) (z := (2 : Int32)) (by decide) (cap := 2) (by decide) (by decide) d1_73 (by decide) (by decide) rfl (fun hn35 b73 g73 E73 A73 => ?_)
        have old73 := Nat.le_trans kp34.1.1 (Nat.le_of_eq g73.symm)
        have ne_b68_b73 : b68 ≠ b73 := by rw [g73]; exact Nat.ne_of_lt (Exa.lt (ob68).1)
        have ge73 : n0 ≤ b73 := by rw [g73]; exact sz33
        have sf36 := Sta.ext E73 sf32
        have oc37 := own_SV.ext ob68 E73
        have sz38 : n0 ≤ hn35.size := Nat.le_trans sz33 E73.1
        have kp39 := Kp.ext kp34 E73
        have AA73 : Ara Z hn35 b73 .char 2 (own_tab [(0 : Int32), (0 : Int32)]) := Ara.cast A73 (fun q hq => own_t0 2 q)
        show G p l e _ _ m _ below meth c n0 _ hn35 2 6 (mkF m 75 #[.val (.int i1), .val (.int v9), .val (.int v19), .val (.int v29), .val (.int v33)] [(.ref b73), (.ref b68), (.ref b68)])
        refine G.dup C d1_75 rfl rfl ?_
        refine G.iconst C d1_76 (v := (0 : Int32)) rfl rfl ?_
        refine G.iloadN C d1_77 rfl rfl ?_
        refine G.castore C AA73 (by decide) ge73 d1_78 rfl (fun hn40 W78 => ?_)
        have Wbhn40 : Wr hn35 hn40 b73 0 (.int v9) := by have e := W78; rw [(own_nc r9)] at e; exact e
        have sf41 := Sta.wr W78 sf36
        have oc42 := own_SV.oth oc37 W78 ne_b68_b73
        have sz43 : n0 ≤ hn40.size := (by rw [W78.size]; exact sz38)
        have kp44 := Kp.wr kp39 W78 (Or.inr old73)
        have Awhn40 : Ara Z hn40 b73 .char 2 (own_tab [v9, (0 : Int32)]) := Ara.cast (Ara.set AA73 Wbhn40) (fun q hq => own_tset [(0 : Int32), (0 : Int32)] 0 v9 (show 0 < 2 by decide) q)
        refine G.dup C d1_79 rfl rfl ?_
        refine G.iconst C d1_80 (v := (1 : Int32)) rfl rfl ?_
        refine G.iloadN C d1_81 rfl rfl ?_
        refine G.castore C Awhn40 (by decide) ge73 d1_82 rfl (fun hn45 W82 => ?_)
        have Wbhn45 : Wr hn40 hn45 b73 1 (.int v19) := by have e := W82; rw [(own_nc r19)] at e; exact e
        have sf46 := Sta.wr W82 sf41
        have oc47 := own_SV.oth oc42 W82 ne_b68_b73
        have sz48 : n0 ≤ hn45.size := (by rw [W82.size]; exact sz43)
        have kp49 := Kp.wr kp44 W82 (Or.inr old73)
        have Awhn45 : Ara Z hn45 b73 .char 2 (own_tab [v9, v19]) := Ara.cast (Ara.set Awhn40 Wbhn45) (fun q hq => own_tset [v9, (0 : Int32)] 1 v19 (show 1 < 2 by decide) q)
        refine G.callI C (S := [(.ref b68)]) (W := 1) rfl (twd hw 8 rfl) (twd hw 9 rfl) (twd hw 6 rfl) (twd hw 10 rfl) (by decide) (cS2 l Z a0 hw b68 b73 hn45 n0 v9 v19 r9 r19 ge68 oc47 Awhn45 sz48 ne_b68_b73 cs hcs sf46) pd1 rfl rfl d1_83 rfl (Nat.le_of_eq rfl) (by decide) (by decide) (by decide) (by decide) rfl (fun whp50 hp50 hq51 => ?_)
        obtain ⟨rfl, bb, O83, A83, K83⟩ := hq51
        have sf52 := Sta.kp K83 sf46
        have oc53 := Ara.kp Awhn45 K83 (by simp [(Ne.symm ne_b68_b73)])
        have sz54 : n0 ≤ hp50.size := Nat.le_trans sz48 K83.1.1
        have kp55 := Kp.trans kp49 K83 (by simp [old68])
        show G p l e _ _ m _ below meth c n0 _ hp50 3 8 (mkF m 86 #[.val (.int i1), .val (.int v9), .val (.int v19), .val (.int v29), .val (.int v33)] [(.ref b68)])
        refine G.narrowE (Qn := fun v z => ((fun v h' => ∃ a va, v = some (.ref a) ∧ own_S Z h' a va (own_tx i1) ∧ Kp h h' [] ∧ h.size ≤ a) v z) ∧ Kp h z []) (fun v t q w => ⟨q.1, CHr.trans (CHr.keep q.2.1 (fun x hx => by cases hx) H0) (own_chw C (own_hEL hw) (CHr.keep q.2.1 (fun x hx => by cases hx) H0).1 w)⟩) ?_
        exact G.retA C rfl rfl d1_86 (by decide) (by decide) rfl (⟨⟨b68, bb, rfl, by rw [own_tx2 hv33 hc37 hc54 hc65 hv9 hv19]; exact ⟨O83.1, O83.2.1, O83.2.2, A83, (show 2 < 1000 by decide)⟩, kp55, old68⟩, kp55⟩)
    · refine G.iloadN C d1_57 rfl rfl ?_
      refine G.callS C (S := []) (W := 0) (twd hw 101 rfl) (twd hw 102 rfl) (twd hw 6 rfl) (twd hw 103 rfl) (by decide) (cVo l Z a0 hw v9 h n0 r9 sz cs hcs S_cs) pd18 rfl rfl d1_58 rfl (Nat.le_of_eq rfl) (by decide) (by decide) (by decide) (by decide) rfl (fun whp56 hp56 hq57 => ?_)
      obtain ⟨a58, va58, rfl, S58, K58, g58⟩ := hq57
      have sf58 := Sta.kp K58 S_cs
      have sz59 : n0 ≤ hp56.size := Nat.le_trans sz K58.1.1
      have kp60 := Kp.trans (Kp.refl h []) K58 (by simp)
      show G p l e _ _ m _ below meth c n0 _ hp56 2 5 (mkF m 61 #[.val (.int i1), .val (.int v9), .val (.int v19), .val (.int v29), .val (.int v33)] [(.ref a58)])
      refine G.narrowE (Qn := fun v z => ((fun v h' => ∃ a va, v = some (.ref a) ∧ own_S Z h' a va (own_tx i1) ∧ Kp h h' [] ∧ h.size ≤ a) v z) ∧ Kp h z []) (fun v t q w => ⟨q.1, CHr.trans (CHr.keep q.2.1 (fun x hx => by cases hx) H0) (own_chw C (own_hEL hw) (CHr.keep q.2.1 (fun x hx => by cases hx) H0).1 w)⟩) ?_
      exact G.retA C rfl rfl d1_61 (by decide) (by decide) rfl (⟨⟨a58, va58, rfl, by rw [own_tx1 hv33 hc37 hc54 hv9]; exact S58, kp60, g58⟩, kp60⟩)
  · refine G.newO C (twd hw 4 rfl) (twd hw 5 rfl) (twd hw 6 rfl) d1_40 (by decide) (by decide) rfl (fun hn61 b40 g40 E40 A40 D40 => ?_)
    have old40 := Nat.le_trans (Kp.refl h []).1.1 (Nat.le_of_eq g40.symm)
    have ge40 : n0 ≤ b40 := by rw [g40]; exact sz
    have sf62 := Sta.ext E40 S_cs
    have sz63 : n0 ≤ hn61.size := Nat.le_trans sz E40.1
    have kp64 := Kp.ext (Kp.refl h []) E40
    have ob40 := own_SV.new hw A40 D40
    show G p l e _ _ m _ below meth c n0 _ hn61 1 4 (mkF m 43 #[.val (.int i1), .val (.int v9), .val (.int v19), .val (.int v29), .val (.int v33)] [(.ref b40)])
    refine G.dup C d1_43 rfl rfl ?_
    refine G.iconst C d1_44 (v := (0 : Int32)) rfl rfl ?_
    refine G.newarr C (aty := .char) (twd hw 7 rfl) (z := (0 : Int32)) (by decide) (cap := 0) (by decide) (by decide) d1_45 (by decide) (by decide) rfl (fun hn65 b45 g45 E45 A45 => ?_)
    have old45 := Nat.le_trans kp64.1.1 (Nat.le_of_eq g45.symm)
    have ne_b40_b45 : b40 ≠ b45 := by rw [g45]; exact Nat.ne_of_lt (Exa.lt (ob40).1)
    have ge45 : n0 ≤ b45 := by rw [g45]; exact sz63
    have sf66 := Sta.ext E45 sf62
    have oc67 := own_SV.ext ob40 E45
    have sz68 : n0 ≤ hn65.size := Nat.le_trans sz63 E45.1
    have kp69 := Kp.ext kp64 E45
    have AA45 : Ara Z hn65 b45 .char 0 (own_tab []) := Ara.cast A45 (fun q hq => own_t0 0 q)
    show G p l e _ _ m _ below meth c n0 _ hn65 2 4 (mkF m 47 #[.val (.int i1), .val (.int v9), .val (.int v19), .val (.int v29), .val (.int v33)] [(.ref b45), (.ref b40), (.ref b40)])
    have R40 := CHr.ext E40 H0
    have R45 := CHr.ext E45 R40.1
    refine G.callIH C (own_hEL hw) R45.1 (S := [(.ref b40)]) (W := 1) rfl (twd hw 8 rfl) (twd hw 9 rfl) (twd hw 6 rfl) (twd hw 10 rfl) (by decide) (cE2 l Z a0 hw b40 b45 hn65 n0 ge40 oc67 AA45) pd1 rfl rfl d1_47 rfl (Nat.le_of_eq rfl) (by decide) (by decide) (by decide) (by decide) rfl (fun whp70 hp70 vm47 hq71 R47 C => ?_)
    obtain ⟨rfl, bb, O47, A47, K47⟩ := hq71
    have sf72 := Sta.kp K47 sf66
    have oc73 := Ara.kp AA45 K47 (by simp [(Ne.symm ne_b40_b45)])
    have sz74 : n0 ≤ hp70.size := Nat.le_trans sz68 K47.1.1
    have kp75 := Kp.trans kp69 K47 (by simp [old40])
    show G p l e _ _ m _ below meth c n0 _ hp70 6 12 (mkF m 50 #[.val (.int i1), .val (.int v9), .val (.int v19), .val (.int v29), .val (.int v33)] [(.ref b40)])
    refine G.narrowE (Qn := fun v z => ((fun v h' => ∃ a va, v = some (.ref a) ∧ own_S Z h' a va (own_tx i1) ∧ Kp h h' [] ∧ h.size ≤ a) v z) ∧ CHr Z own_EL s.vm h vm47 z ∧ hp70.size ≤ z.size) (fun v t q w => ⟨⟨q.1, CHr.trans q.2.1 (own_chw C (own_hEL hw) q.2.1.1 w)⟩, q.2.2⟩) ?_
    exact G.retA C rfl rfl d1_50 (by decide) (by decide) rfl (⟨⟨b40, bb, rfl, by rw [own_tx0 hv33 hc37]; exact ⟨O47.1, O47.2.1, O47.2.2, A47, by decide⟩, kp75, old40⟩, CHr.trans R40 (CHr.trans R45 R47), Nat.le_refl _⟩)
theorem own_cm {A B : List Int32} {x y : Int32} : (decide (A = B) && decide (x = y)) = (decide (B = A) && decide (y = x)) := by
  rw [show decide (A = B) = decide (B = A) from decide_eq_decide.mpr eq_comm, show decide (x = y) = decide (y = x) from decide_eq_decide.mpr eq_comm]
theorem ef_c0 (m : MethodId) (i1 : Int32) (i2 : Int32) (i3 : Int32) (i4 : Int32) (i5 : Int32) : entryFrame m #[(.int i1), (.int i2), (.int i3), (.int i4), (.int i5)] maxLocals = mkF m 0 #[.val (.int i1), .val (.int i2), .val (.int i3), .val (.int i4), .val (.int i5), .unset, .unset, .unset, .unset, .unset, .unset, .unset, .unset, .unset, .unset, .unset, .unset, .unset, .unset] [] := by first | (simp [entryFrame, mkF, argsToLocals, Value.category, maxLocals]; done) | rfl
set_option maxRecDepth 65536 in
set_option maxHeartbeats 40000000 in
theorem c0 (l : Launch) (Z : State) (a0 : Array Value) (hw : ∀ d ∈ tables_1, d.before a0 Z = true) (i1 : Int32) (i2 : Int32) (i3 : Int32) (i4 : Int32) (i5 : Int32) (h : Heap) (n0 : Nat) (Z0 : n0 ≤ h.size) (cs : Int32) (hcs : ¬ cs = 0) (S_cs : Sta Z h "java/lang/String" "COMPACT_STRINGS" "Z" (.int cs)) (fm : Value) (hfm : fm.isRef = true) (S_fm : Sta Z h "jdk/internal/util/Preconditions" "SIOOBE_FORMATTER" "Ljava/util/function/BiFunction;" fm) (Hc : CHv Z own_EL Z.vm Z.heap) : ConZ l Z x code maxLocals ret room_1 #[(.int i1), (.int i2), (.int i3), (.int i4), (.int i5)] h n0 (fun v h' => v = some (.int 1)) := by
  refine ConZ.of (plainFor_of_name pn4) (fun m => ef_c0 m i1 i2 i3 i4 i5) ?_
  intro p e s m below meth c es eh C
  replace C : Cx p s m meth c Z (⟨"com/example/ample_pool/amplepool/control/AnswerEqualsPinLaw", "law", "(IIIII)Z"⟩ : MethodName) code 19 (some .boolean) := C
  have H0 : CHv Z own_EL s.vm h := by rw [es, ← eh]; exact Hc
  refine G.iload C at_0 rfl rfl ?_
  refine G.iconst C at_2 (v := (2 : Int32)) rfl rfl ?_
  refine G.iushr C at_3 rfl ?_
  refine G.iconst C at_4 (v := (3 : Int32)) rfl rfl ?_
  refine G.iand C at_5 rfl ?_
  refine G.istore C at_6 (Ls' := #[.val (.int i1), .val (.int i2), .val (.int i3), .val (.int i4), .val (.int i5), .val (.int (((i5.toUInt32 >>> ((2 : Int32) &&& 31).toUInt32).toInt32) &&& (3 : Int32))), .unset, .unset, .unset, .unset, .unset, .unset, .unset, .unset, .unset, .unset, .unset, .unset, .unset]) rfl rfl ?_
  generalize hv6 : (((i5.toUInt32 >>> ((2 : Int32) &&& 31).toUInt32).toInt32) &&& (3 : Int32)) = v6
  refine G.iload C at_8 rfl rfl ?_
  have J63 : ∀ (w6 : Int32), G p l e room_1 s m #[(.int i1), (.int i2), (.int i3), (.int i4), (.int i5)] below meth c n0 (We s room_1 n0 (fun v t => v = some (Value.int 1))) h 0 0 (mkF m 63 #[.val (.int i1), .val (.int i2), .val (.int i3), .val (.int i4), .val (.int i5), .val (.int v6), .val (.int w6), .unset, .unset, .unset, .unset, .unset, .unset, .unset, .unset, .unset, .unset, .unset, .unset] []) := by
    intro w6
    refine G.iload C at_63 rfl rfl ?_
    refine G.iconst C at_65 (v := (3 : Int32)) rfl rfl ?_
    refine G.iand C at_66 rfl ?_
    refine G.istore C at_67 (Ls' := #[.val (.int i1), .val (.int i2), .val (.int i3), .val (.int i4), .val (.int i5), .val (.int v6), .val (.int w6), .val (.int (i5 &&& (3 : Int32))), .unset, .unset, .unset, .unset, .unset, .unset, .unset, .unset, .unset, .unset, .unset]) rfl rfl ?_
    generalize hv67 : (i5 &&& (3 : Int32)) = v67
    refine G.iload C at_69 rfl rfl ?_
    have J102 : ∀ (w8 : Int32), G p l e room_1 s m #[(.int i1), (.int i2), (.int i3), (.int i4), (.int i5)] below meth c n0 (We s room_1 n0 (fun v t => v = some (Value.int 1))) h 0 0 (mkF m 102 #[.val (.int i1), .val (.int i2), .val (.int i3), .val (.int i4), .val (.int i5), .val (.int v6), .val (.int w6), .val (.int v67), .val (.int w8), .unset, .unset, .unset, .unset, .unset, .unset, .unset, .unset, .unset, .unset] []) := by
      intro w8
      refine G.iloadN C at_102 rfl rfl ?_
      refine G.callSH C (own_hEL hw) H0 (S := []) (W := 0) (twd hw 0 rfl) (twd hw 1 rfl) (twd hw 2 rfl) (twd hw 3 rfl) (by decide) (c1 l Z a0 hw i1 h n0 Z0 cs hcs S_cs) pd0 rfl rfl at_103 rfl (Nat.le_of_eq rfl) (by decide) (by decide) (by decide) (by decide) rfl (fun whp1 hp1 vm103 hq2 R103 C => ?_)
      obtain ⟨t1, v1, rfl, S1, K103, g103⟩ := hq2
      have sf3 := Sta.kp K103 S_cs
      have sf4 := Sta.kp K103 S_fm
      have sz5 : n0 ≤ hp1.size := Nat.le_trans Z0 K103.1.1
      have O1 : own_SV Z hp1 t1 (.ref v1) (.int (0 : Int32)) := ⟨S1.1, S1.2.1, S1.2.2.1⟩
      have A1 := S1.2.2.2.1
      show G p l e _ _ m _ below meth c n0 _ hp1 6 12 (mkF m 106 #[.val (.int i1), .val (.int i2), .val (.int i3), .val (.int i4), .val (.int i5), .val (.int v6), .val (.int w6), .val (.int v67), .val (.int w8), .unset, .unset, .unset, .unset, .unset, .unset, .unset, .unset, .unset, .unset] [(.ref t1)])
      refine G.astore C at_106 rfl (Ls' := #[.val (.int i1), .val (.int i2), .val (.int i3), .val (.int i4), .val (.int i5), .val (.int v6), .val (.int w6), .val (.int v67), .val (.int w8), .val (.ref t1), .unset, .unset, .unset, .unset, .unset, .unset, .unset, .unset, .unset]) rfl rfl ?_
      refine G.iload C at_108 rfl rfl ?_
      refine G.callSH C (own_hEL hw) R103.1 (S := []) (W := 0) (twd hw 0 rfl) (twd hw 1 rfl) (twd hw 2 rfl) (twd hw 3 rfl) (by decide) (c1 l Z a0 hw w6 hp1 n0 sz5 cs hcs sf3) pd0 rfl rfl at_110 rfl (Nat.le_of_eq rfl) (by decide) (by decide) (by decide) (by decide) rfl (fun whp6 hp6 vm110 hq7 R110 C => ?_)
      obtain ⟨t2, v2, rfl, S2, K110, g110⟩ := hq7
      have ne_t1_t2 : t1 ≠ t2 := Nat.ne_of_lt (Nat.lt_of_lt_of_le (Exa.lt O1.1) g110)
      have sf8 := Sta.kp K110 sf3
      have sf9 := Sta.kp K110 sf4
      have oc10 := own_SV.keep O1 K110 (by simp)
      have oc11 := Ara.kp A1 K110 (by simp)
      have sz12 : n0 ≤ hp6.size := Nat.le_trans sz5 K110.1.1
      have O2 : own_SV Z hp6 t2 (.ref v2) (.int (0 : Int32)) := ⟨S2.1, S2.2.1, S2.2.2.1⟩
      have A2 := S2.2.2.2.1
      refine G.narrowE (Qn := fun v z => v = some (Value.int 1) ∧ hp1.size ≤ z.size ∧ hp6.size ≤ z.size) (fun v t q w => ⟨⟨q.1, q.2.1⟩, q.2.2⟩) ?_
      show G p l e _ _ m _ below meth c n0 _ hp6 12 24 (mkF m 113 #[.val (.int i1), .val (.int i2), .val (.int i3), .val (.int i4), .val (.int i5), .val (.int v6), .val (.int w6), .val (.int v67), .val (.int w8), .val (.ref t1), .unset, .unset, .unset, .unset, .unset, .unset, .unset, .unset, .unset] [(.ref t2)])
      refine G.astore C at_113 rfl (Ls' := #[.val (.int i1), .val (.int i2), .val (.int i3), .val (.int i4), .val (.int i5), .val (.int v6), .val (.int w6), .val (.int v67), .val (.int w8), .val (.ref t1), .val (.ref t2), .unset, .unset, .unset, .unset, .unset, .unset, .unset, .unset]) rfl rfl ?_
      refine G.aload C at_115 rfl rfl rfl ?_
      refine G.aload C at_117 rfl rfl rfl ?_
      refine G.callSP C (S := []) (W := 0) (twd hw 37 rfl) (twd hw 38 rfl) (twd hw 2 rfl) (twd hw 39 rfl) (by decide) (c8 l Z a0 hw t1 t2 hp6 n0 v1 v2 (own_tx i1) (own_tx w6) cs hcs sf8 ⟨oc10.1, oc10.2.1, oc10.2.2, oc11, S1.2.2.2.2⟩ ⟨O2.1, O2.2.1, O2.2.2, A2, S2.2.2.2.2⟩ fm hfm sf9 (own_txl _) (own_txb _) (own_txb _)) pd7 rfl rfl at_119 rfl (Nat.le_of_eq rfl) (by decide) (by decide) rfl rfl (by decide) (by decide) rfl ?_
      have J136 : ∀ (b136 : Bool), (b136 = (decide (own_tx i1 = own_tx w6) && decide (i3 = w8))) → G p l e room_1 ((s.setVm vm103).setVm vm110) m #[(.int i1), (.int i2), (.int i3), (.int i4), (.int i5)] below meth c n0 (Wst ((s.setVm vm103).setVm vm110) room_1 n0 (fun v z => v = some (Value.int 1) ∧ hp1.size ≤ z.size ∧ hp6.size ≤ z.size)) hp6 12 24 (mkF m 136 #[.val (.int i1), .val (.int i2), .val (.int i3), .val (.int i4), .val (.int i5), .val (.int v6), .val (.int w6), .val (.int v67), .val (.int w8), .val (.ref t1), .val (.ref t2), .unset, .unset, .unset, .unset, .unset, .unset, .unset, .unset] [(.int (bi b136))]) := by
        intro b136 hb136
        refine G.istore C at_136 (Ls' := #[.val (.int i1), .val (.int i2), .val (.int i3), .val (.int i4), .val (.int i5), .val (.int v6), .val (.int w6), .val (.int v67), .val (.int w8), .val (.ref t1), .val (.ref t2), .val (.int (bi b136)), .unset, .unset, .unset, .unset, .unset, .unset, .unset]) rfl rfl ?_
        refine G.newO C (twd hw 50 rfl) (twd hw 51 rfl) (twd hw 52 rfl) at_138 (by decide) (by decide) rfl (fun hn13 b138 g138 E138 A138 D138 => ?_)
        have old138 := Nat.le_trans (Kp.refl hp6 []).1.1 (Nat.le_of_eq g138.symm)
        have ne_t1_b138 : t1 ≠ b138 := by rw [g138]; exact Nat.ne_of_lt (Exa.lt (oc10).1)
        have ne_v1_b138 : v1 ≠ b138 := by rw [g138]; exact Nat.ne_of_lt (Ara.lt oc11)
        have ne_t2_b138 : t2 ≠ b138 := by rw [g138]; exact Nat.ne_of_lt (Exa.lt (O2).1)
        have ne_v2_b138 : v2 ≠ b138 := by rw [g138]; exact Nat.ne_of_lt (Ara.lt A2)
        have ge138 : n0 ≤ b138 := by rw [g138]; exact sz12
        have sf14 := Sta.ext E138 sf8
        have sf15 := Sta.ext E138 sf9
        have oc16 := own_SV.ext oc10 E138
        have oc17 := Ara.ext oc11 E138
        have oc18 := own_SV.ext O2 E138
        have oc19 := Ara.ext A2 E138
        have sz20 : n0 ≤ hn13.size := Nat.le_trans sz12 E138.1
        have kp21 := Kp.ext (Kp.refl hp6 []) E138
        have ob138 := own_An.new hw A138 D138
        show G p l e _ _ m _ below meth c n0 _ hn13 13 26 (mkF m 141 #[.val (.int i1), .val (.int i2), .val (.int i3), .val (.int i4), .val (.int i5), .val (.int v6), .val (.int w6), .val (.int v67), .val (.int w8), .val (.ref t1), .val (.ref t2), .val (.int (bi b136)), .unset, .unset, .unset, .unset, .unset, .unset, .unset] [(.ref b138)])
        refine G.dup C at_141 rfl rfl ?_
        refine G.aload C at_142 rfl rfl rfl ?_
        refine G.iloadN C at_144 rfl rfl ?_
        refine G.callI C (S := [(.ref b138)]) (W := 1) rfl (twd hw 53 rfl) (twd hw 54 rfl) (twd hw 52 rfl) (twd hw 55 rfl) (by decide) (c11 l Z a0 hw b138 t1 i3 hn13 n0 _ _ ge138 ob138) pd10 rfl rfl at_145 rfl (Nat.le_of_eq rfl) (by decide) (by decide) (by decide) (by decide) rfl (fun whp22 hp22 hq23 => ?_)
        obtain ⟨rfl, Nb138, Kb138⟩ := hq23
        have sf24 := Sta.kp Kb138 sf14
        have sf25 := Sta.kp Kb138 sf15
        have oc26 := own_SV.keep oc16 Kb138 (by simp [ne_t1_b138])
        have oc27 := Ara.kp oc17 Kb138 (by simp [ne_v1_b138])
        have oc28 := own_SV.keep oc18 Kb138 (by simp [ne_t2_b138])
        have oc29 := Ara.kp oc19 Kb138 (by simp [ne_v2_b138])
        have sz30 : n0 ≤ hp22.size := Nat.le_trans sz20 Kb138.1.1
        have kp31 := Kp.trans kp21 Kb138 (by simp [old138])
        show G p l e _ _ m _ below meth c n0 _ hp22 13 26 (mkF m 148 #[.val (.int i1), .val (.int i2), .val (.int i3), .val (.int i4), .val (.int i5), .val (.int v6), .val (.int w6), .val (.int v67), .val (.int w8), .val (.ref t1), .val (.ref t2), .val (.int (bi b136)), .unset, .unset, .unset, .unset, .unset, .unset, .unset] [(.ref b138)])
        refine G.astore C at_148 rfl (Ls' := #[.val (.int i1), .val (.int i2), .val (.int i3), .val (.int i4), .val (.int i5), .val (.int v6), .val (.int w6), .val (.int v67), .val (.int w8), .val (.ref t1), .val (.ref t2), .val (.int (bi b136)), .val (.ref b138), .unset, .unset, .unset, .unset, .unset, .unset]) rfl rfl ?_
        refine G.newO C (twd hw 50 rfl) (twd hw 51 rfl) (twd hw 52 rfl) at_150 (by decide) (by decide) rfl (fun hn32 b150 g150 E150 A150 D150 => ?_)
        have old150 := Nat.le_trans kp31.1.1 (Nat.le_of_eq g150.symm)
        have ne_t1_b150 : t1 ≠ b150 := by rw [g150]; exact Nat.ne_of_lt (Exa.lt (oc26).1)
        have ne_v1_b150 : v1 ≠ b150 := by rw [g150]; exact Nat.ne_of_lt (Ara.lt oc27)
        have ne_t2_b150 : t2 ≠ b150 := by rw [g150]; exact Nat.ne_of_lt (Exa.lt (oc28).1)
        have ne_v2_b150 : v2 ≠ b150 := by rw [g150]; exact Nat.ne_of_lt (Ara.lt oc29)
        have ne_b138_b150 : b138 ≠ b150 := by rw [g150]; exact Nat.ne_of_lt (Exa.lt (Nb138).1)
        have ge150 : n0 ≤ b150 := by rw [g150]; exact sz30
        have sf33 := Sta.ext E150 sf24
        have sf34 := Sta.ext E150 sf25
        have oc35 := own_SV.ext oc26 E150
        have oc36 := Ara.ext oc27 E150
        have oc37 := own_SV.ext oc28 E150
        have oc38 := Ara.ext oc29 E150
        have oc39 := own_An.ext Nb138 E150
        have sz40 : n0 ≤ hn32.size := Nat.le_trans sz30 E150.1
        have kp41 := Kp.ext kp31 E150
        have ob150 := own_An.new hw A150 D150
        show G p l e _ _ m _ below meth c n0 _ hn32 14 28 (mkF m 153 #[.val (.int i1), .val (.int i2), .val (.int i3), .val (.int i4), .val (.int i5), .val (.int v6), .val (.int w6), .val (.int v67), .val (.int w8), .val (.ref t1), .val (.ref t2), .val (.int (bi b136)), .val (.ref b138), .unset, .unset, .unset, .unset, .unset, .unset] [(.ref b150)])
        refine G.dup C at_153 rfl rfl ?_
        refine G.aload C at_154 rfl rfl rfl ?_
        refine G.iload C at_156 rfl rfl ?_
        refine G.callI C (S := [(.ref b150)]) (W := 1) rfl (twd hw 53 rfl) (twd hw 54 rfl) (twd hw 52 rfl) (twd hw 55 rfl) (by decide) (c11 l Z a0 hw b150 t2 w8 hn32 n0 _ _ ge150 ob150) pd10 rfl rfl at_158 rfl (Nat.le_of_eq rfl) (by decide) (by decide) (by decide) (by decide) rfl (fun whp42 hp42 hq43 => ?_)
        obtain ⟨rfl, Nb150, Kb150⟩ := hq43
        have sf44 := Sta.kp Kb150 sf33
        have sf45 := Sta.kp Kb150 sf34
        have oc46 := own_SV.keep oc35 Kb150 (by simp [ne_t1_b150])
        have oc47 := Ara.kp oc36 Kb150 (by simp [ne_v1_b150])
        have oc48 := own_SV.keep oc37 Kb150 (by simp [ne_t2_b150])
        have oc49 := Ara.kp oc38 Kb150 (by simp [ne_v2_b150])
        have oc50 := own_An.keep oc39 Kb150 (by simp [ne_b138_b150])
        have sz51 : n0 ≤ hp42.size := Nat.le_trans sz40 Kb150.1.1
        have kp52 := Kp.trans kp41 Kb150 (by simp [old150])
        show G p l e _ _ m _ below meth c n0 _ hp42 14 28 (mkF m 161 #[.val (.int i1), .val (.int i2), .val (.int i3), .val (.int i4), .val (.int i5), .val (.int v6), .val (.int w6), .val (.int v67), .val (.int w8), .val (.ref t1), .val (.ref t2), .val (.int (bi b136)), .val (.ref b138), .unset, .unset, .unset, .unset, .unset, .unset] [(.ref b150)])
        refine G.astore C at_161 rfl (Ls' := #[.val (.int i1), .val (.int i2), .val (.int i3), .val (.int i4), .val (.int i5), .val (.int v6), .val (.int w6), .val (.int v67), .val (.int w8), .val (.ref t1), .val (.ref t2), .val (.int (bi b136)), .val (.ref b138), .val (.ref b150), .unset, .unset, .unset, .unset, .unset]) rfl rfl ?_
        refine G.aload C at_163 rfl rfl rfl ?_
        refine G.aload C at_165 rfl rfl rfl ?_
        refine G.callVP C (S := []) (W := 0) (twd hw 61 rfl) (twd hw 63 rfl) (twd hw 52 rfl) (twd hw 65 rfl) (twd hw 62 rfl) (twd hw 64 rfl) oc50.1 (by decide) (cQ l Z a0 hw b138 b150 hp42 n0 t1 i3 oc50 t2 w8 Nb150 v1 v2 (own_tx i1) (own_tx w6) _ rfl cs hcs sf44 ⟨oc46.1, oc46.2.1, oc46.2.2, oc47, S1.2.2.2.2⟩ ⟨oc48.1, oc48.2.1, oc48.2.2, oc49, S2.2.2.2.2⟩ (fun e => absurd e.symm ne_t1_t2)) pd11 rfl rfl at_167 rfl (Nat.le_of_eq rfl) (by decide) (by decide) rfl rfl (by decide) (by decide) rfl ?_
        refine G.istore C at_170 (Ls' := #[.val (.int i1), .val (.int i2), .val (.int i3), .val (.int i4), .val (.int i5), .val (.int v6), .val (.int w6), .val (.int v67), .val (.int w8), .val (.ref t1), .val (.ref t2), .val (.int (bi b136)), .val (.ref b138), .val (.ref b150), .val (.int (bi (decide ((own_tx w6) = (own_tx i1)) && decide (w8 = i3)))), .unset, .unset, .unset, .unset]) rfl rfl ?_
        generalize hv170 : (decide ((own_tx w6) = (own_tx i1)) && decide (w8 = i3)) = b170
        refine G.aload C at_172 rfl rfl rfl ?_
        refine G.aload C at_174 rfl rfl rfl ?_
        refine G.callVP C (S := []) (W := 0) (twd hw 61 rfl) (twd hw 63 rfl) (twd hw 52 rfl) (twd hw 65 rfl) (twd hw 62 rfl) (twd hw 64 rfl) Nb150.1 (by decide) (cQ l Z a0 hw b150 b138 hp42 n0 t2 w8 Nb150 t1 i3 oc50 v2 v1 (own_tx w6) (own_tx i1) _ rfl cs hcs sf44 ⟨oc48.1, oc48.2.1, oc48.2.2, oc49, S2.2.2.2.2⟩ ⟨oc46.1, oc46.2.1, oc46.2.2, oc47, S1.2.2.2.2⟩ (fun e => absurd e ne_t1_t2)) pd11 rfl rfl at_176 rfl (Nat.le_of_eq rfl) (by decide) (by decide) rfl rfl (by decide) (by decide) rfl ?_
        refine G.istore C at_179 (Ls' := #[.val (.int i1), .val (.int i2), .val (.int i3), .val (.int i4), .val (.int i5), .val (.int v6), .val (.int w6), .val (.int v67), .val (.int w8), .val (.ref t1), .val (.ref t2), .val (.int (bi b136)), .val (.ref b138), .val (.ref b150), .val (.int (bi b170)), .val (.int (bi (decide ((own_tx i1) = (own_tx w6)) && decide (i3 = w8)))), .unset, .unset, .unset]) rfl rfl ?_
        generalize hv179 : (decide ((own_tx i1) = (own_tx w6)) && decide (i3 = w8)) = b179
        refine G.aload C at_181 rfl rfl rfl ?_
        refine G.aload C at_183 rfl rfl rfl ?_
        refine G.callVP C (S := []) (W := 0) (twd hw 61 rfl) (twd hw 63 rfl) (twd hw 52 rfl) (twd hw 65 rfl) (twd hw 62 rfl) (twd hw 64 rfl) oc50.1 (by decide) (cQ l Z a0 hw b138 b138 hp42 n0 t1 i3 oc50 t1 i3 oc50 v1 v1 (own_tx i1) (own_tx i1) _ rfl cs hcs sf44 ⟨oc46.1, oc46.2.1, oc46.2.2, oc47, S1.2.2.2.2⟩ ⟨oc46.1, oc46.2.1, oc46.2.2, oc47, S1.2.2.2.2⟩ (fun _ => rfl)) pd11 rfl rfl at_185 rfl (Nat.le_of_eq rfl) (by decide) (by decide) rfl rfl (by decide) (by decide) rfl ?_
        refine G.istore C at_188 (Ls' := #[.val (.int i1), .val (.int i2), .val (.int i3), .val (.int i4), .val (.int i5), .val (.int v6), .val (.int w6), .val (.int v67), .val (.int w8), .val (.ref t1), .val (.ref t2), .val (.int (bi b136)), .val (.ref b138), .val (.ref b150), .val (.int (bi b170)), .val (.int (bi b179)), .val (.int (bi (decide ((own_tx i1) = (own_tx i1)) && decide (i3 = i3)))), .unset, .unset]) rfl rfl ?_
        generalize hv188 : (decide ((own_tx i1) = (own_tx i1)) && decide (i3 = i3)) = b188
        refine G.aload C at_190 rfl rfl rfl ?_
        refine G.aconst_null C at_192 rfl ?_
        refine G.callVP C (S := []) (W := 0) (twd hw 61 rfl) (twd hw 63 rfl) (twd hw 52 rfl) (twd hw 65 rfl) (twd hw 62 rfl) (twd hw 64 rfl) oc50.1 (by decide) (cQn l Z a0 hw b138 hp42 n0) pd11 rfl rfl at_193 rfl (Nat.le_of_eq rfl) (by decide) (by decide) rfl rfl (by decide) (by decide) rfl ?_
        refine G.istore C at_196 (Ls' := #[.val (.int i1), .val (.int i2), .val (.int i3), .val (.int i4), .val (.int i5), .val (.int v6), .val (.int w6), .val (.int v67), .val (.int w8), .val (.ref t1), .val (.ref t2), .val (.int (bi b136)), .val (.ref b138), .val (.ref b150), .val (.int (bi b170)), .val (.int (bi b179)), .val (.int (bi b188)), .val (.int (0 : Int32)), .unset]) rfl rfl ?_
        refine G.aload C at_198 rfl rfl rfl ?_
        refine G.aload C at_200 rfl rfl rfl ?_
        refine G.callVP C (S := []) (W := 0) (twd hw 61 rfl) (twd hw 63 rfl) (twd hw 52 rfl) (twd hw 65 rfl) (twd hw 62 rfl) (twd hw 64 rfl) oc50.1 (by decide) (cQs l Z a0 hw b138 t1 hp42 n0 oc46.1) pd11 rfl rfl at_202 rfl (Nat.le_of_eq rfl) (by decide) (by decide) rfl rfl (by decide) (by decide) rfl ?_
        refine G.istore C at_205 (Ls' := #[.val (.int i1), .val (.int i2), .val (.int i3), .val (.int i4), .val (.int i5), .val (.int v6), .val (.int w6), .val (.int v67), .val (.int w8), .val (.ref t1), .val (.ref t2), .val (.int (bi b136)), .val (.ref b138), .val (.ref b150), .val (.int (bi b170)), .val (.int (bi b179)), .val (.int (bi b188)), .val (.int (0 : Int32)), .val (.int (0 : Int32))]) rfl rfl ?_
        refine G.iload C at_207 rfl rfl ?_
        refine G.iload C at_209 rfl rfl ?_
        refine G.icne C at_211 (by decide) (pt := 240) (by decide) rfl (fun hc211 => absurd (by rw [← hv170, hb136]; exact congrArg bi own_cm) hc211) (fun hc211 => ?_)
        refine G.iload C at_214 rfl rfl ?_
        refine G.iload C at_216 rfl rfl ?_
        refine G.icne C at_218 (by decide) (pt := 240) (by decide) rfl (fun hc218 => absurd (by rw [← hv179, hb136]) hc218) (fun hc218 => ?_)
        refine G.iload C at_221 rfl rfl ?_
        refine G.bfeq C at_223 (by decide) (pt := 240) (by decide) rfl (fun hc223 => absurd hc223 (by rw [← hv188]; simp)) (fun hc223 => ?_)
        refine G.iload C at_226 rfl rfl ?_
        refine G.ifne C at_228 (by decide) (pt := 240) (by decide) rfl (fun q => absurd q (by decide)) (fun _ => ?_)
        refine G.iload C at_231 rfl rfl ?_
        refine G.ifne C at_233 (by decide) (pt := 240) (by decide) rfl (fun q => absurd q (by decide)) (fun _ => ?_)
        refine G.iconst C at_236 (v := (1 : Int32)) rfl rfl ?_
        refine G.goto C at_237 (by decide) (pc' := 241) (by decide) ?_
        exact G.retZ C at_241 (by decide) (by decide) rfl (⟨rfl, Nat.le_trans K110.1.1 kp52.1.1, kp52.1.1⟩)
      refine G.bfeq C at_122 (by decide) (pt := 135) (by decide) rfl (fun hc122 => ?_) (fun hc122 => ?_)
      · refine G.iconst C at_135 (v := (0 : Int32)) rfl rfl ?_
        exact J136 false (by rw [hc122]; rfl)
      · refine G.iloadN C at_125 rfl rfl ?_
        refine G.iload C at_126 rfl rfl ?_
        refine G.icne C at_128 (by decide) (pt := 135) (by decide) rfl (fun hc128 => ?_) (fun hc128 => ?_)
        · refine G.iconst C at_135 (v := (0 : Int32)) rfl rfl ?_
          exact J136 false (by rw [hc122, decide_eq_false hc128]; rfl)
        · refine G.iconst C at_131 (v := (1 : Int32)) rfl rfl ?_
          refine G.goto C at_132 (by decide) (pc' := 136) (by decide) ?_
          exact J136 true (by rw [hc122, decide_eq_true hc128]; rfl)
    refine G.ifne C at_71 (by decide) (pt := 80) (by decide) rfl (fun hc71 => ?_) (fun hc71 => ?_)
    · refine G.iload C at_80 rfl rfl ?_
      refine G.iconst C at_82 (v := (2 : Int32)) rfl rfl ?_
      refine G.icne C at_83 (by decide) (pt := 99) (by decide) rfl (fun hc83 => ?_) (fun hc83 => ?_)
      · refine G.iloadN C at_99 rfl rfl ?_
        refine G.istore C at_100 (Ls' := #[.val (.int i1), .val (.int i2), .val (.int i3), .val (.int i4), .val (.int i5), .val (.int v6), .val (.int w6), .val (.int v67), .val (.int i3), .unset, .unset, .unset, .unset, .unset, .unset, .unset, .unset, .unset, .unset]) rfl rfl ?_
        exact J102 _
      · refine G.iloadN C at_86 rfl rfl ?_
        refine G.iconst C at_87 (v := (1 : Int32)) rfl rfl ?_
        refine G.iloadN C at_88 rfl rfl ?_
        refine G.bipush C at_89 (v := (31 : Int32)) rfl rfl ?_
        refine G.iand C at_91 rfl ?_
        refine G.ishl C at_92 rfl ?_
        refine G.ixor C at_93 rfl ?_
        refine G.istore C at_94 (Ls' := #[.val (.int i1), .val (.int i2), .val (.int i3), .val (.int i4), .val (.int i5), .val (.int v6), .val (.int w6), .val (.int v67), .val (.int (i3 ^^^ ((1 : Int32) <<< ((i4 &&& (31 : Int32)) &&& 31)))), .unset, .unset, .unset, .unset, .unset, .unset, .unset, .unset, .unset, .unset]) rfl rfl ?_
        generalize hv94 : (i3 ^^^ ((1 : Int32) <<< ((i4 &&& (31 : Int32)) &&& 31))) = v94
        refine G.goto C at_96 (by decide) (pc' := 102) (by decide) ?_
        exact J102 _
    · refine G.iloadN C at_74 rfl rfl ?_
      refine G.istore C at_75 (Ls' := #[.val (.int i1), .val (.int i2), .val (.int i3), .val (.int i4), .val (.int i5), .val (.int v6), .val (.int w6), .val (.int v67), .val (.int i4), .unset, .unset, .unset, .unset, .unset, .unset, .unset, .unset, .unset, .unset]) rfl rfl ?_
      refine G.goto C at_77 (by decide) (pc' := 102) (by decide) ?_
      exact J102 _
  refine G.ifne C at_10 (by decide) (pt := 19) (by decide) rfl (fun hc10 => ?_) (fun hc10 => ?_)
  · refine G.iload C at_19 rfl rfl ?_
    refine G.iconst C at_21 (v := (1 : Int32)) rfl rfl ?_
    refine G.icne C at_22 (by decide) (pt := 31) (by decide) rfl (fun hc22 => ?_) (fun hc22 => ?_)
    · refine G.iload C at_31 rfl rfl ?_
      refine G.iconst C at_33 (v := (2 : Int32)) rfl rfl ?_
      refine G.icne C at_34 (by decide) (pt := 50) (by decide) rfl (fun hc34 => ?_) (fun hc34 => ?_)
      · refine G.iloadN C at_50 rfl rfl ?_
        refine G.iconst C at_51 (v := (1 : Int32)) rfl rfl ?_
        refine G.bipush C at_52 (v := (8 : Int32)) rfl rfl ?_
        refine G.iloadN C at_54 rfl rfl ?_
        refine G.bipush C at_55 (v := (15 : Int32)) rfl rfl ?_
        refine G.iand C at_57 rfl ?_
        refine G.iadd C at_58 rfl ?_
        refine G.ishl C at_59 rfl ?_
        refine G.ixor C at_60 rfl ?_
        refine G.istore C at_61 (Ls' := #[.val (.int i1), .val (.int i2), .val (.int i3), .val (.int i4), .val (.int i5), .val (.int v6), .val (.int (i1 ^^^ ((1 : Int32) <<< (((8 : Int32) + (i2 &&& (15 : Int32))) &&& 31)))), .unset, .unset, .unset, .unset, .unset, .unset, .unset, .unset, .unset, .unset, .unset, .unset]) rfl rfl ?_
        generalize hv61 : (i1 ^^^ ((1 : Int32) <<< (((8 : Int32) + (i2 &&& (15 : Int32))) &&& 31))) = v61
        exact J63 _
      · refine G.iloadN C at_37 rfl rfl ?_
        refine G.bipush C at_38 (v := (-4 : Int32)) rfl rfl ?_
        refine G.iand C at_40 rfl ?_
        refine G.iloadN C at_41 rfl rfl ?_
        refine G.iconst C at_42 (v := (3 : Int32)) rfl rfl ?_
        refine G.iand C at_43 rfl ?_
        refine G.ior C at_44 rfl ?_
        refine G.istore C at_45 (Ls' := #[.val (.int i1), .val (.int i2), .val (.int i3), .val (.int i4), .val (.int i5), .val (.int v6), .val (.int ((i1 &&& (-4 : Int32)) ||| (i2 &&& (3 : Int32)))), .unset, .unset, .unset, .unset, .unset, .unset, .unset, .unset, .unset, .unset, .unset, .unset]) rfl rfl ?_
        generalize hv45 : ((i1 &&& (-4 : Int32)) ||| (i2 &&& (3 : Int32))) = v45
        refine G.goto C at_47 (by decide) (pc' := 63) (by decide) ?_
        exact J63 _
    · refine G.iloadN C at_25 rfl rfl ?_
      refine G.istore C at_26 (Ls' := #[.val (.int i1), .val (.int i2), .val (.int i3), .val (.int i4), .val (.int i5), .val (.int v6), .val (.int i1), .unset, .unset, .unset, .unset, .unset, .unset, .unset, .unset, .unset, .unset, .unset, .unset]) rfl rfl ?_
      refine G.goto C at_28 (by decide) (pc' := 63) (by decide) ?_
      exact J63 _
  · refine G.iloadN C at_13 rfl rfl ?_
    refine G.istore C at_14 (Ls' := #[.val (.int i1), .val (.int i2), .val (.int i3), .val (.int i4), .val (.int i5), .val (.int v6), .val (.int i2), .unset, .unset, .unset, .unset, .unset, .unset, .unset, .unset, .unset, .unset, .unset, .unset]) rfl rfl ?_
    refine G.goto C at_16 (by decide) (pc' := 63) (by decide) ?_
    exact J63 _
set_option maxRecDepth 65536 in
set_option maxHeartbeats 40000000 in
theorem comes_1 {Post : Tables → Env → Array Value → State → Outcome → State → Prop} (hpost : ∀ tb e args s v u, (limb_1_1.after args s (.returned v) u = true ∧ limb_1_2.after args s (.returned v) u = true ∧ True) → ReturnedEndW s (.returned v) u (Jvm.fieldLocs frame_1_writes args s ++ Jvm.arrayLocs frame_1_arrays args s ++ Jvm.staticLocs frame_1_statics s) 32 1152 → Post tb e args s (.returned v) u) :
    ArmFor flags0 classFile x code maxLocals ret World_1 tables_1 room_1 Calls_1 rest_1 Pre_1 Post := by
  intro l hfl _ _ p e ha hc hk s m args below hf hA hF happ hP
  obtain ⟨hcalls, hrest, hpre⟩ := hP
  obtain ⟨-, -, -, hnamed, -, -, -, hat⟩ := (Spec.applies_iff hf).mp happ
  obtain ⟨hg, hn⟩ := and_e (Cond.before_iff.mp (show (Jvm.Cond.and given_1 narrow_1).before args s = true from hpre))
  obtain ⟨gc, gr0⟩ := and_e hg
  obtain ⟨g0, gr1⟩ := and_e gr0
  obtain ⟨g1, gr2⟩ := and_e gr1
  obtain ⟨g2, gr3⟩ := and_e gr2
  obtain ⟨g3, g4⟩ := and_e gr3
  obtain ⟨w0, w1, w2, w3, w4, rfl⟩ : ∃ w0 w1 w2 w3 w4 : Value, args = #[w0, w1, w2, w3, w4] := by
    have hs : args.size = 5 := by simpa [Cond.value, given_1] using gc
    obtain ⟨L⟩ := args
    match L, hs with
    | [w0, w1, w2, w3, w4], _ => exact ⟨w0, w1, w2, w3, w4, rfl⟩
  have hw := fun d (hd : d ∈ tables_1) => atoms_spec (ws := Jvm.Cond.code x code maxLocals ret :: tables_1) hat d (List.mem_cons_of_mem _ hd)
  obtain ⟨hsets, hown0⟩ := atoms_of _ (rest_1_c_eq ▸ (show rest_1_c.before _ s = true from hrest))
  obtain ⟨i0, ei0⟩ := is_v g0
  obtain rfl : w0 = (.int i0) := Option.some.inj ei0
  obtain ⟨i1, ei1⟩ := is_v g1
  obtain rfl : w1 = (.int i1) := Option.some.inj ei1
  obtain ⟨i2, ei2⟩ := is_v g2
  obtain rfl : w2 = (.int i2) := Option.some.inj ei2
  obtain ⟨i3, ei3⟩ := is_v g3
  obtain rfl : w3 = (.int i3) := Option.some.inj ei3
  obtain ⟨i4, ei4⟩ := is_v g4
  obtain rfl : w4 = (.int i4) := Option.some.inj ei4
  obtain ⟨cs, ecs⟩ := is_v (Cond.before_iff.mp (hsets _ (List.mem_of_getElem? (i := 1) rfl)))
  have S_cs := Sta.start ecs (Or.inl (hsets _ (List.mem_of_getElem? (i := 0) rfl)))
  have hcs : ¬ cs = 0 := fun q => by
    have z := not_v (Cond.before_iff.mp (hsets _ (List.mem_of_getElem? (i := 2) rfl)))
    have z2 := eq_i ecs (Term.int_eval (0)) (by rw [q])
    rw [z2] at z; cases z
  obtain ⟨fm, efm, hfm⟩ := Cond.isRef_spec (hsets _ (List.mem_of_getElem? (i := 8) rfl))
  have S_fm := Sta.start efm (Or.inl (hsets _ (List.mem_of_getElem? (i := 7) rfl)))
  have hheld : Jvm.Lit.constHeld s "java/lang/String" 7 := hcalls.1 ("java/lang/String", 7) (by simp [consts_1])
  have Hc : CHv s own_EL s.vm s.heap := CHv.start (own_hEL hw) (fun p hp => by simp only [own_EL, List.mem_cons, List.not_mem_nil, or_false] at hp; subst hp; exact hheld) (hsets _ (List.mem_of_getElem? (i := 2) rfl)) (twd hw 19 rfl) (twd hw 5 rfl)
  obtain ⟨nn, o, h1, h2, h3, _, L, rfl, ⟨rfl, N⟩, hq⟩ := c0 l s _ hw i0 i1 i2 i3 i4 s.heap s.heap.size (Nat.le_refl _) cs hcs S_cs fm hfm S_fm Hc tables_1 p e ha hc hk s m _ below hf ((Spec.applies_iff_loose hf).mp happ).1 ⟨rfl, rfl, rfl⟩ trivial
  exact ⟨nn, _, h1, h2, h3, hpost _ _ _ _ _ _ ⟨Cond.after_iff.mpr rfl, Cond.after_iff.mpr (eq_i res_at (Term.int_eval (1)) rfl), trivial⟩ ⟨hq.1, hq.2.1, hq.2.2.1, (hq.2.2.2.sift fun y hy => Or.inr (N y hy)).mono (by decide) (by decide)⟩⟩
theorem main_1_1 : Claimed_1_1 := comes_1 fun _ _ _ _ _ _ h hF => ⟨h.1, hF⟩
theorem main_1_2 : Claimed_1_2 := comes_1 fun _ _ _ _ _ _ h hF => ⟨h.2.1, hF⟩
end Jvm.Pilot.@@N@@
namespace Jvm.Pilot.@@N@@
open Jvm Jvm.ClassFile Sem Op Lib Jvm.Free Jvm.Stand Jvm.Pilot.@@N@@.Jvm.D
/-! MADE BY PROGRAM (witnessworld.py) out of the Statement's table words and the real class files: 20 classes; the members and pool entries that the words name. The judged class is class 1, her method 3. -/
namespace start1
open Jvm.ClassFile
def u (s : String) : CpInfo := .utf8 (stringToUtf16 s)
/-- a pool by its gaps: so many unusable entries, then the entry; so many at the end -/
def gap : Nat → List CpInfo → List CpInfo
  | 0, r => r
  | n + 1, r => .unusable :: gap n r
def poolList (es : List (Nat × CpInfo)) (last : Nat) : List CpInfo := es.foldr (fun e r => gap e.1 (e.2 :: r)) (gap last [])
def pool (es : List (Nat × CpInfo)) (last : Nat) : Array CpInfo := ⟨poolList es last⟩
def fileOf (pool : Array CpInfo) (this : Nat) (attrs : Array Attribute := #[]) (ms : Array MethodInfo := #[]) (fl : Nat := 33) (sup : Nat := 0) (ifs : Array Nat := #[]) (fds : Array FieldInfo := #[]) : ClassFile where
  minorVersion := 0
  majorVersion := 65
  constantPool := pool
  accessFlags := fl
  thisClass := this
  superClass := sup
  interfaces := ifs
  fields := fds
  methods := ms
  attributes := attrs
def plain (name : String) (sup : Option ClassId) : Class where
  name := name
  kind := .ordinary
  loader := none
  accessFlags := 33
  super := sup
  interfaces := #[]
  cf := none
  fields := #[]
  methods := #[]
  instanceTypes := #[]
  staticTypes := #[]
  resolved := #[]
  callSites := []
  init := .initialized
  statics := none
  mirror := none

def pool0 : Array CpInfo := pool [(5, u "<init>"), (0, u "()V"), (1, .class_ 10), (1, u "java/lang/Object")] 113

def k0c0 : Code := { maxStack := 0, maxLocals := 1, code := object_method_1_code, exceptionTable := #[], attributes := #[] }
def k0m0 : Method := { name := "<init>", desc := "()V", sig := { parameters := [], returnType := none }, accessFlags := 1, code := some k0c0 }
/-- java/lang/Object -/
def k0 : Class := { plain "java/lang/Object" none with
  accessFlags := 33
  interfaces := #[]
  cf := some (fileOf pool0 8 #[] #[{ accessFlags := 1, nameIndex := 5, descriptorIndex := 6, attributes := #[] }] 33 0 #[] #[])
  fields := #[]
  methods := #[k0m0]
  instanceTypes := #[]
  staticTypes := #[]
  resolved := Array.replicate 124 none
  statics := none }

def pool1 : Array CpInfo := pool [(2, .class_ 4), (1, u "java/lang/Object"), (0, u "<init>"), (0, u "()V"), (0, .class_ 8), (0, u "java/lang/String"), (0, .methodref 7 10), (0, .nameAndType 5 11), (0, u "([C)V"), (0, .methodref 7 13), (0, .nameAndType 14 15), (0, u "valueOf"), (0, u "(C)Ljava/lang/String;"), (0, .methodref 7 17), (0, .nameAndType 18 19), (0, u "length"), (0, u "()I"), (0, .methodref 7 21), (0, .nameAndType 22 23), (0, u "charAt"), (0, u "(I)C"), (0, .methodref 25 26), (0, .class_ 27), (0, .nameAndType 28 29), (0, u "com/example/ample_pool/amplepool/control/AnswerEqualsPinLaw"), (0, u "text"), (0, u "(I)Ljava/lang/String;"), (0, .methodref 25 31), (0, .nameAndType 32 33), (0, u "sameText"), (0, u "(Ljava/lang/String;Ljava/lang/String;)Z"), (0, .class_ 35), (0, u "com/example/ample_pool/amplepool/control/ApiRequests$Answer"), (0, .methodref 34 37), (0, .nameAndType 5 38), (0, u "(Ljava/lang/String;I)V"), (0, .methodref 34 40), (0, .nameAndType 41 42), (0, u "equals"), (0, u "(Ljava/lang/Object;)Z"), (3, u "law"), (0, u "(IIIII)Z")] 6

def k1m0 : Method := { name := "<init>", desc := "()V", sig := { parameters := [], returnType := none }, accessFlags := 1, code := none }
def k1c1 : Code := { maxStack := 6, maxLocals := 5, code := method_2_code, exceptionTable := #[], attributes := #[] }
def k1m1 : Method := { name := "text", desc := "(I)Ljava/lang/String;", sig := { parameters := [.int], returnType := some (.object "java/lang/String") }, accessFlags := 10, code := some k1c1 }
def k1c2 : Code := { maxStack := 3, maxLocals := 3, code := method_3_code, exceptionTable := #[], attributes := #[] }
def k1m2 : Method := { name := "sameText", desc := "(Ljava/lang/String;Ljava/lang/String;)Z", sig := { parameters := [(.object "java/lang/String"), (.object "java/lang/String")], returnType := some .boolean }, accessFlags := 10, code := some k1c2 }
def k1c3 : Code := { maxStack := 5, maxLocals := 19, code := code, exceptionTable := #[], attributes := #[] }
def k1m3 : Method := { name := "law", desc := "(IIIII)Z", sig := { parameters := [.int, .int, .int, .int, .int], returnType := some .boolean }, accessFlags := 9, code := some k1c3 }
/-- com/example/ample_pool/amplepool/control/AnswerEqualsPinLaw -/
def k1 : Class := { plain "com/example/ample_pool/amplepool/control/AnswerEqualsPinLaw" (some 0) with
  accessFlags := 49
  interfaces := #[]
  cf := some (fileOf pool1 25 #[] #[{ accessFlags := 1, nameIndex := 5, descriptorIndex := 6, attributes := #[] }, { accessFlags := 10, nameIndex := 28, descriptorIndex := 29, attributes := #[] }, { accessFlags := 10, nameIndex := 32, descriptorIndex := 33, attributes := #[] }, { accessFlags := 9, nameIndex := 46, descriptorIndex := 47, attributes := #[] }] 49 2 #[] #[])
  fields := #[]
  methods := #[k1m0, k1m1, k1m2, k1m3]
  instanceTypes := #[]
  staticTypes := #[]
  resolved := Array.replicate 54 none
  statics := none }

def pool2 : Array CpInfo := pool [(1, .class_ 2), (0, u "java/io/Serializable"), (0, .class_ 4), (0, u "java/lang/Object")] 2

/-- java/io/Serializable -/
def k2 : Class := { plain "java/io/Serializable" (some 0) with
  accessFlags := 1537
  interfaces := #[]
  cf := some (fileOf pool2 1 #[] #[] 1537 3 #[] #[])
  fields := #[]
  methods := #[]
  instanceTypes := #[]
  staticTypes := #[]
  resolved := Array.replicate 7 none
  statics := none }

def pool3 : Array CpInfo := pool [(1, .class_ 2), (0, u "java/lang/Comparable"), (0, .class_ 4), (0, u "java/lang/Object")] 7

/-- java/lang/Comparable -/
def k3 : Class := { plain "java/lang/Comparable" (some 0) with
  accessFlags := 1537
  interfaces := #[]
  cf := some (fileOf pool3 1 #[] #[] 1537 3 #[] #[])
  fields := #[]
  methods := #[]
  instanceTypes := #[]
  staticTypes := #[]
  resolved := Array.replicate 12 none
  statics := none }

def pool4 : Array CpInfo := pool [(2, .class_ 4), (1, u "java/lang/CharSequence"), (42, .class_ 48), (0, u "java/lang/CharSequence$1CodePointIterator"), (10, .class_ 60), (0, u "java/lang/CharSequence$1CharIterator"), (5, .class_ 67), (0, u "java/lang/Object")] 63

/-- java/lang/CharSequence -/
def k4 : Class := { plain "java/lang/CharSequence" (some 0) with
  accessFlags := 1537
  interfaces := #[]
  cf := some (fileOf pool4 2 #[.nestMembers #[47, 59]] #[] 1537 66 #[] #[])
  fields := #[]
  methods := #[]
  instanceTypes := #[]
  staticTypes := #[]
  resolved := Array.replicate 131 none
  statics := none }

def pool5 : Array CpInfo := pool [(1, .class_ 2), (0, u "java/lang/constant/Constable"), (0, .class_ 4), (0, u "java/lang/Object")] 6

/-- java/lang/constant/Constable -/
def k5 : Class := { plain "java/lang/constant/Constable" (some 0) with
  accessFlags := 1537
  interfaces := #[]
  cf := some (fileOf pool5 1 #[] #[] 1537 3 #[] #[])
  fields := #[]
  methods := #[]
  instanceTypes := #[]
  staticTypes := #[]
  resolved := Array.replicate 11 none
  statics := none }

def pool6 : Array CpInfo := pool [(1, .class_ 2), (0, u "java/lang/constant/ConstantDesc"), (0, .class_ 4), (0, u "java/lang/Object")] 32

/-- java/lang/constant/ConstantDesc -/
def k6 : Class := { plain "java/lang/constant/ConstantDesc" (some 0) with
  accessFlags := 1537
  interfaces := #[]
  cf := some (fileOf pool6 1 #[] #[] 1537 3 #[] #[])
  fields := #[]
  methods := #[]
  instanceTypes := #[]
  staticTypes := #[]
  resolved := Array.replicate 37 none
  statics := none }

def pool7 : Array CpInfo := pool [(1, .methodref 2 3), (0, .class_ 4), (0, .nameAndType 5 6), (0, u "java/lang/Object"), (0, u "<init>"), (0, u "()V"), (0, .string 8), (0, u ""), (0, .fieldref 10 11), (0, .class_ 12), (0, .nameAndType 13 14), (0, u "java/lang/String"), (0, u "value"), (0, u "[B"), (0, .fieldref 10 16), (0, .nameAndType 17 18), (0, u "coder"), (0, u "B"), (2, u "hash"), (0, u "I"), (2, u "hashIsZero"), (0, u "Z"), (0, .methodref 10 28), (0, .nameAndType 5 29), (0, u "([CIILjava/lang/Void;)V"), (8, .fieldref 10 39), (0, .nameAndType 40 26), (0, u "COMPACT_STRINGS"), (1, .class_ 44), (1, u "java/lang/StringUTF16"), (0, u "compress"), (1, .methodref 42 48), (0, .nameAndType 49 50), (0, u "coderFromArrayLen"), (0, u "([BI)B"), (2, u "toBytes"), (53, .class_ 109), (1, u "java/lang/StringLatin1"), (32, u "()Z"), (34, .methodref 42 178), (0, .nameAndType 45 179), (0, u "([CII)[B"), (29, .methodref 10 210), (0, .nameAndType 5 211), (0, u "([BB)V"), (122, u "()I"), (0, .methodref 10 336), (0, .nameAndType 17 337), (0, u "()B"), (25, u "([BI)C"), (5, u "(C)Z"), (21, u "(II)V"), (35, u "(I)C"), (64, .methodref 10 493), (0, .nameAndType 494 142), (0, u "isLatin1"), (0, .methodref 107 496), (0, .nameAndType 497 363), (0, u "charAt"), (3, u "checkIndex"), (5, u "length"), (33, .methodref 107 542), (0, .nameAndType 543 544), (0, u "equals"), (0, u "([B[B)Z"), (28, u "(Ljava/lang/Object;)Z"), (1, .class_ 576), (0, u "java/lang/CharSequence"), (22, u "CASE_INSENSITIVE_ORDER"), (0, u "Ljava/util/Comparator;"), (181, u "valueOf"), (0, u "(C)Ljava/lang/String;"), (226, u "([C)V"), (4, .methodref 107 1016), (0, .nameAndType 1017 369), (0, u "canEncode"), (0, .methodref 107 1019), (0, .nameAndType 53 1020), (0, u "(C)[B"), (32, .fieldref 1054 1055), (0, .class_ 1056), (0, .nameAndType 1057 1058), (0, u "jdk/internal/util/Preconditions"), (0, u "SIOOBE_FORMATTER"), (0, u "Ljava/util/function/BiFunction;"), (0, .methodref 1054 1060), (0, .nameAndType 501 1061), (0, u "(IILjava/util/function/BiFunction;)I"), (39, u "serialPersistentFields"), (0, u "[Ljava/io/ObjectStreamField;"), (0, .class_ 1104), (0, u "java/lang/String$CaseInsensitiveComparator"), (1, .class_ 1107), (0, u "java/io/Serializable"), (0, .class_ 1109), (0, u "java/lang/Comparable"), (0, .class_ 1111), (0, u "java/lang/constant/Constable"), (0, .class_ 1113), (0, u "java/lang/constant/ConstantDesc"), (2, u "serialVersionUID"), (0, u "J"), (3, u "REPL"), (0, u "C"), (2, u "LATIN1"), (1, u "UTF16")] 323

def k7m0 : Method := { name := "<init>", desc := "()V", sig := { parameters := [], returnType := none }, accessFlags := 1, code := none }
def k7c1 : Code := { maxStack := 5, maxLocals := 2, code := jdk_42_method_3_code, exceptionTable := #[], attributes := #[] }
def k7m1 : Method := { name := "<init>", desc := "([C)V", sig := { parameters := [(.array .char)], returnType := none }, accessFlags := 1, code := some k7c1 }
def k7c2 : Code := { maxStack := 2, maxLocals := 1, code := jdk_42_method_54_code, exceptionTable := #[], attributes := #[] }
def k7m2 : Method := { name := "length", desc := "()I", sig := { parameters := [], returnType := some .int }, accessFlags := 1, code := some k7c2 }
def k7c3 : Code := { maxStack := 2, maxLocals := 2, code := jdk_42_method_56_code, exceptionTable := #[], attributes := #[] }
def k7m3 : Method := { name := "charAt", desc := "(I)C", sig := { parameters := [.int], returnType := some .char }, accessFlags := 1, code := some k7c3 }
def k7c4 : Code := { maxStack := 2, maxLocals := 3, code := jdk_42_method_66_code, exceptionTable := #[], attributes := #[] }
def k7m4 : Method := { name := "equals", desc := "(Ljava/lang/Object;)Z", sig := { parameters := [(.object "java/lang/Object")], returnType := some .boolean }, accessFlags := 1, code := some k7c4 }
def k7c5 : Code := { maxStack := 4, maxLocals := 1, code := jdk_42_method_139_code, exceptionTable := #[], attributes := #[] }
def k7m5 : Method := { name := "valueOf", desc := "(C)Ljava/lang/String;", sig := { parameters := [.char], returnType := some (.object "java/lang/String") }, accessFlags := 9, code := some k7c5 }
def k7c6 : Code := { maxStack := 4, maxLocals := 6, code := jdk_42_method_149_code, exceptionTable := #[], attributes := #[] }
def k7m6 : Method := { name := "<init>", desc := "([CIILjava/lang/Void;)V", sig := { parameters := [(.array .char), .int, .int, (.object "java/lang/Void")], returnType := none }, accessFlags := 2, code := some k7c6 }
def k7c7 : Code := { maxStack := 2, maxLocals := 3, code := jdk_42_method_151_code, exceptionTable := #[], attributes := #[] }
def k7m7 : Method := { name := "<init>", desc := "([BB)V", sig := { parameters := [(.array .byte), .byte], returnType := none }, accessFlags := 0, code := some k7c7 }
def k7c8 : Code := { maxStack := 1, maxLocals := 1, code := jdk_42_method_152_code, exceptionTable := #[], attributes := #[] }
def k7m8 : Method := { name := "coder", desc := "()B", sig := { parameters := [], returnType := some .byte }, accessFlags := 0, code := some k7c8 }
def k7c9 : Code := { maxStack := 1, maxLocals := 1, code := jdk_42_method_154_code, exceptionTable := #[], attributes := #[] }
def k7m9 : Method := { name := "isLatin1", desc := "()Z", sig := { parameters := [], returnType := some .boolean }, accessFlags := 0, code := some k7c9 }
def k7c10 : Code := { maxStack := 3, maxLocals := 2, code := jdk_42_method_155_code, exceptionTable := #[], attributes := #[] }
def k7m10 : Method := { name := "checkIndex", desc := "(II)V", sig := { parameters := [.int, .int], returnType := none }, accessFlags := 8, code := some k7c10 }
/-- java/lang/String -/
def k7 : Class := { plain "java/lang/String" (some 0) with
  accessFlags := 49
  interfaces := #[2, 3, 4, 5, 6]
  cf := some (fileOf pool7 10 #[.nestMembers #[1103]] #[{ accessFlags := 1, nameIndex := 5, descriptorIndex := 6, attributes := #[] }, { accessFlags := 1, nameIndex := 5, descriptorIndex := 1010, attributes := #[] }, { accessFlags := 1, nameIndex := 507, descriptorIndex := 334, attributes := #[] }, { accessFlags := 1, nameIndex := 497, descriptorIndex := 427, attributes := #[] }, { accessFlags := 1, nameIndex := 543, descriptorIndex := 573, attributes := #[] }, { accessFlags := 9, nameIndex := 782, descriptorIndex := 783, attributes := #[] }, { accessFlags := 2, nameIndex := 5, descriptorIndex := 29, attributes := #[] }, { accessFlags := 0, nameIndex := 5, descriptorIndex := 211, attributes := #[] }, { accessFlags := 0, nameIndex := 17, descriptorIndex := 337, attributes := #[] }, { accessFlags := 0, nameIndex := 494, descriptorIndex := 142, attributes := #[] }, { accessFlags := 8, nameIndex := 501, descriptorIndex := 391, attributes := #[] }] 49 2 #[1106, 1108, 575, 1110, 1112] #[{ accessFlags := 18, nameIndex := 13, descriptorIndex := 14, attributes := #[] }, { accessFlags := 18, nameIndex := 17, descriptorIndex := 18, attributes := #[] }, { accessFlags := 2, nameIndex := 21, descriptorIndex := 22, attributes := #[] }, { accessFlags := 2, nameIndex := 25, descriptorIndex := 26, attributes := #[] }, { accessFlags := 26, nameIndex := 1116, descriptorIndex := 1117, attributes := #[] }, { accessFlags := 24, nameIndex := 40, descriptorIndex := 26, attributes := #[] }, { accessFlags := 26, nameIndex := 1101, descriptorIndex := 1102, attributes := #[] }, { accessFlags := 26, nameIndex := 1121, descriptorIndex := 1122, attributes := #[] }, { accessFlags := 25, nameIndex := 599, descriptorIndex := 600, attributes := #[] }, { accessFlags := 24, nameIndex := 1125, descriptorIndex := 18, attributes := #[] }, { accessFlags := 24, nameIndex := 1127, descriptorIndex := 18, attributes := #[] }])
  fields := #[{ name := "value", type := (.array .byte), accessFlags := 18, slot := 0, constantValue := 0 }, { name := "coder", type := .byte, accessFlags := 18, slot := 1, constantValue := 0 }, { name := "hash", type := .int, accessFlags := 2, slot := 2, constantValue := 0 }, { name := "hashIsZero", type := .boolean, accessFlags := 2, slot := 3, constantValue := 0 }, { name := "serialVersionUID", type := .long, accessFlags := 26, slot := 0, constantValue := 0 }, { name := "COMPACT_STRINGS", type := .boolean, accessFlags := 24, slot := 1, constantValue := 0 }, { name := "serialPersistentFields", type := (.array (.object "java/io/ObjectStreamField")), accessFlags := 26, slot := 2, constantValue := 0 }, { name := "REPL", type := .char, accessFlags := 26, slot := 3, constantValue := 0 }, { name := "CASE_INSENSITIVE_ORDER", type := (.object "java/util/Comparator"), accessFlags := 25, slot := 4, constantValue := 0 }, { name := "LATIN1", type := .byte, accessFlags := 24, slot := 5, constantValue := 0 }, { name := "UTF16", type := .byte, accessFlags := 24, slot := 6, constantValue := 0 }]
  methods := #[k7m0, k7m1, k7m2, k7m3, k7m4, k7m5, k7m6, k7m7, k7m8, k7m9, k7m10]
  instanceTypes := #[(.array .byte), .byte, .int, .boolean]
  staticTypes := #[.long, .boolean, (.array (.object "java/io/ObjectStreamField")), .char, (.object "java/util/Comparator"), .byte, .byte]
  resolved := Array.replicate 1451 none
  statics := some 0 }

def pool8 : Array CpInfo := pool [(6, .class_ 8), (1, u "java/lang/Object"), (0, u "<init>"), (0, u "()V"), (1, .class_ 14), (1, u "java/lang/StringUTF16"), (31, u "$assertionsDisabled"), (0, u "Z"), (13, u "HI_BYTE_SHIFT"), (0, u "I"), (2, u "LO_BYTE_SHIFT"), (49, .methodref 12 116), (0, .nameAndType 117 118), (0, u "compress"), (0, u "([CI[BII)I"), (3, u "([CII)[B"), (138, u "coderFromArrayLen"), (0, u "([BI)B"), (106, .class_ 371), (1, u "java/lang/StringUTF16$LinesSpliterator"), (58, u "MAX_LENGTH"), (196, .class_ 628), (0, u "java/lang/StringUTF16$CodePointsSpliterator"), (0, .class_ 630), (0, u "java/lang/StringUTF16$CharsSpliterator")] 4

def k8m0 : Method := { name := "<init>", desc := "()V", sig := { parameters := [], returnType := none }, accessFlags := 0, code := none }
def k8c1 : Code := { maxStack := 2, maxLocals := 2, code := jdk_52_method_15_code, exceptionTable := #[], attributes := #[] }
def k8m1 : Method := { name := "coderFromArrayLen", desc := "([BI)B", sig := { parameters := [(.array .byte), .int], returnType := some .byte }, accessFlags := 8, code := some k8c1 }
def k8c2 : Code := { maxStack := 5, maxLocals := 6, code := jdk_52_method_16_code, exceptionTable := #[], attributes := #[] }
def k8m2 : Method := { name := "compress", desc := "([CII)[B", sig := { parameters := [(.array .char), .int, .int], returnType := some (.array .byte) }, accessFlags := 9, code := some k8c2 }
def k8c3 : Code := { maxStack := 3, maxLocals := 7, code := jdk_52_method_21_code, exceptionTable := #[], attributes := #[] }
def k8m3 : Method := { name := "compress", desc := "([CI[BII)I", sig := { parameters := [(.array .char), .int, (.array .byte), .int, .int], returnType := some .int }, accessFlags := 9, code := some k8c3 }
/-- java/lang/StringUTF16 -/
def k8 : Class := { plain "java/lang/StringUTF16" (some 0) with
  accessFlags := 48
  interfaces := #[]
  cf := some (fileOf pool8 12 #[.nestMembers #[627, 629, 369]] #[{ accessFlags := 0, nameIndex := 9, descriptorIndex := 10, attributes := #[] }, { accessFlags := 8, nameIndex := 261, descriptorIndex := 262, attributes := #[] }, { accessFlags := 9, nameIndex := 117, descriptorIndex := 122, attributes := #[] }, { accessFlags := 9, nameIndex := 117, descriptorIndex := 118, attributes := #[] }] 48 6 #[] #[{ accessFlags := 26, nameIndex := 61, descriptorIndex := 62, attributes := #[] }, { accessFlags := 26, nameIndex := 65, descriptorIndex := 62, attributes := #[] }, { accessFlags := 24, nameIndex := 430, descriptorIndex := 62, attributes := #[] }, { accessFlags := 4120, nameIndex := 46, descriptorIndex := 47, attributes := #[] }])
  fields := #[{ name := "HI_BYTE_SHIFT", type := .int, accessFlags := 26, slot := 0, constantValue := 0 }, { name := "LO_BYTE_SHIFT", type := .int, accessFlags := 26, slot := 1, constantValue := 0 }, { name := "MAX_LENGTH", type := .int, accessFlags := 24, slot := 2, constantValue := 0 }, { name := "$assertionsDisabled", type := .boolean, accessFlags := 4120, slot := 3, constantValue := 0 }]
  methods := #[k8m0, k8m1, k8m2, k8m3]
  instanceTypes := #[]
  staticTypes := #[.int, .int, .int, .boolean]
  resolved := Array.replicate 635 none
  statics := none }

def pool9 : Array CpInfo := pool [(1, .methodref 2 3), (0, .class_ 4), (0, .nameAndType 5 6), (0, u "java/lang/Object"), (0, u "<init>"), (0, u "()V"), (0, .fieldref 8 9), (0, .class_ 10), (0, .nameAndType 11 12), (0, u "com/example/ample_pool/amplepool/control/ApiRequests$Answer"), (0, u "method"), (0, u "Ljava/lang/String;"), (0, .fieldref 8 14), (0, .nameAndType 15 16), (0, u "status"), (0, u "I"), (0, .methodref 18 19), (0, .class_ 20), (0, .nameAndType 21 22), (0, u "java/lang/String"), (0, u "equals"), (0, u "(Ljava/lang/Object;)Z"), (12, u "(Ljava/lang/String;I)V"), (11, .class_ 48), (0, u "com/example/ample_pool/amplepool/control/ApiRequests")] 2

def k9c0 : Code := { maxStack := 2, maxLocals := 3, code := prog_3_method_1_code, exceptionTable := #[], attributes := #[] }
def k9m0 : Method := { name := "<init>", desc := "(Ljava/lang/String;I)V", sig := { parameters := [(.object "java/lang/String"), .int], returnType := none }, accessFlags := 0, code := some k9c0 }
def k9c1 : Code := { maxStack := 2, maxLocals := 3, code := prog_3_method_4_code, exceptionTable := #[], attributes := #[] }
def k9m1 : Method := { name := "equals", desc := "(Ljava/lang/Object;)Z", sig := { parameters := [(.object "java/lang/Object")], returnType := some .boolean }, accessFlags := 1, code := some k9c1 }
/-- com/example/ample_pool/amplepool/control/ApiRequests$Answer -/
def k9 : Class := { plain "com/example/ample_pool/amplepool/control/ApiRequests$Answer" (some 0) with
  accessFlags := 32
  interfaces := #[]
  cf := some (fileOf pool9 8 #[.nestHost 47] #[{ accessFlags := 0, nameIndex := 5, descriptorIndex := 35, attributes := #[] }, { accessFlags := 1, nameIndex := 21, descriptorIndex := 22, attributes := #[] }] 32 2 #[] #[{ accessFlags := 18, nameIndex := 11, descriptorIndex := 12, attributes := #[] }, { accessFlags := 18, nameIndex := 15, descriptorIndex := 16, attributes := #[] }])
  fields := #[{ name := "method", type := (.object "java/lang/String"), accessFlags := 18, slot := 0, constantValue := 0 }, { name := "status", type := .int, accessFlags := 18, slot := 1, constantValue := 0 }]
  methods := #[k9m0, k9m1]
  instanceTypes := #[(.object "java/lang/String"), .int]
  staticTypes := #[]
  resolved := Array.replicate 51 none
  statics := none }

def pool10 : Array CpInfo := pool [(1, .class_ 2), (0, u "java/lang/String"), (1, .class_ 6), (1, u "java/lang/Object"), (0, u "<init>"), (0, u "()V"), (0, .methodref 1 10), (0, .nameAndType 11 12), (0, u "checkIndex"), (0, u "(II)V"), (1, .class_ 16), (1, u "java/lang/StringLatin1"), (36, u "([BI)C"), (36, u "canEncode"), (14, u "(C)Z"), (15, u "$assertionsDisabled"), (0, u "Z"), (98, .class_ 223), (1, u "java/lang/StringLatin1$LinesSpliterator"), (28, u "charAt"), (28, u "equals"), (0, u "([B[B)Z"), (97, u "toBytes"), (1, u "(C)[B"), (7, .class_ 391), (0, u "java/lang/StringLatin1$CharsSpliterator")] 3

def k10m0 : Method := { name := "<init>", desc := "()V", sig := { parameters := [], returnType := none }, accessFlags := 0, code := none }
def k10c1 : Code := { maxStack := 2, maxLocals := 2, code := jdk_43_method_2_code, exceptionTable := #[], attributes := #[] }
def k10m1 : Method := { name := "charAt", desc := "([BI)C", sig := { parameters := [(.array .byte), .int], returnType := some .char }, accessFlags := 9, code := some k10c1 }
def k10c2 : Code := { maxStack := 2, maxLocals := 1, code := jdk_43_method_3_code, exceptionTable := #[], attributes := #[] }
def k10m2 : Method := { name := "canEncode", desc := "(C)Z", sig := { parameters := [.char], returnType := some .boolean }, accessFlags := 9, code := some k10c2 }
def k10c3 : Code := { maxStack := 3, maxLocals := 3, code := jdk_43_method_13_code, exceptionTable := #[], attributes := #[] }
def k10m3 : Method := { name := "equals", desc := "([B[B)Z", sig := { parameters := [(.array .byte), (.array .byte)], returnType := some .boolean }, accessFlags := 9, code := some k10c3 }
def k10c4 : Code := { maxStack := 4, maxLocals := 1, code := jdk_43_method_46_code, exceptionTable := #[], attributes := #[] }
def k10m4 : Method := { name := "toBytes", desc := "(C)[B", sig := { parameters := [.char], returnType := some (.array .byte) }, accessFlags := 9, code := some k10c4 }
/-- java/lang/StringLatin1 -/
def k10 : Class := { plain "java/lang/StringLatin1" (some 0) with
  accessFlags := 48
  interfaces := #[]
  cf := some (fileOf pool10 14 #[.nestMembers #[390, 221]] #[{ accessFlags := 0, nameIndex := 7, descriptorIndex := 8, attributes := #[] }, { accessFlags := 9, nameIndex := 252, descriptorIndex := 53, attributes := #[] }, { accessFlags := 9, nameIndex := 90, descriptorIndex := 105, attributes := #[] }, { accessFlags := 9, nameIndex := 281, descriptorIndex := 282, attributes := #[] }, { accessFlags := 9, nameIndex := 380, descriptorIndex := 382, attributes := #[] }] 48 4 #[] #[{ accessFlags := 4120, nameIndex := 121, descriptorIndex := 122, attributes := #[] }])
  fields := #[{ name := "$assertionsDisabled", type := .boolean, accessFlags := 4120, slot := 0, constantValue := 0 }]
  methods := #[k10m0, k10m1, k10m2, k10m3, k10m4]
  instanceTypes := #[]
  staticTypes := #[.boolean]
  resolved := Array.replicate 395 none
  statics := none }

def pool11 : Array CpInfo := pool [(2, .class_ 4), (1, u "java/lang/Object"), (0, u "<init>"), (0, u "()V"), (17, .class_ 26), (1, u "jdk/internal/util/Preconditions"), (6, u "checkIndex"), (21, .class_ 56), (0, u "jdk/internal/util/Preconditions$4"), (57, .class_ 115), (0, u "jdk/internal/util/Preconditions$1"), (7, u "SIOOBE_FORMATTER"), (0, u "Ljava/util/function/BiFunction;"), (0, .class_ 126), (0, u "jdk/internal/util/Preconditions$2"), (3, u "AIOOBE_FORMATTER"), (0, .class_ 132), (0, u "jdk/internal/util/Preconditions$3"), (3, u "IOOBE_FORMATTER"), (41, u "(IILjava/util/function/BiFunction;)I")] 15

def k11m0 : Method := { name := "<init>", desc := "()V", sig := { parameters := [], returnType := none }, accessFlags := 1, code := none }
def k11c1 : Code := { maxStack := 3, maxLocals := 3, code := jdk_41_method_11_code, exceptionTable := #[], attributes := #[] }
def k11m1 : Method := { name := "checkIndex", desc := "(IILjava/util/function/BiFunction;)I", sig := { parameters := [.int, .int, (.object "java/util/function/BiFunction")], returnType := some .int }, accessFlags := 9, code := some k11c1 }
/-- jdk/internal/util/Preconditions -/
def k11 : Class := { plain "jdk/internal/util/Preconditions" (some 0) with
  accessFlags := 33
  interfaces := #[]
  cf := some (fileOf pool11 24 #[.nestMembers #[55, 131, 125, 114]] #[{ accessFlags := 1, nameIndex := 5, descriptorIndex := 6, attributes := #[] }, { accessFlags := 9, nameIndex := 33, descriptorIndex := 178, attributes := #[] }] 33 2 #[] #[{ accessFlags := 25, nameIndex := 123, descriptorIndex := 124, attributes := #[] }, { accessFlags := 25, nameIndex := 130, descriptorIndex := 124, attributes := #[] }, { accessFlags := 25, nameIndex := 136, descriptorIndex := 124, attributes := #[] }])
  fields := #[{ name := "SIOOBE_FORMATTER", type := (.object "java/util/function/BiFunction"), accessFlags := 25, slot := 0, constantValue := 0 }, { name := "AIOOBE_FORMATTER", type := (.object "java/util/function/BiFunction"), accessFlags := 25, slot := 1, constantValue := 0 }, { name := "IOOBE_FORMATTER", type := (.object "java/util/function/BiFunction"), accessFlags := 25, slot := 2, constantValue := 0 }]
  methods := #[k11m0, k11m1]
  instanceTypes := #[]
  staticTypes := #[(.object "java/util/function/BiFunction"), (.object "java/util/function/BiFunction"), (.object "java/util/function/BiFunction")]
  resolved := Array.replicate 194 none
  statics := some 1 }

def pool12 : Array CpInfo := pool [(9, u "<init>"), (6, .class_ 18), (1, u "java/lang/Object"), (0, u "()V"), (1, .class_ 23), (1, u "jdk/internal/util/ArraysSupport"), (0, u "LOG2_ARRAY_LONG_INDEX_SCALE"), (0, u "I"), (2, u "U"), (0, u "Ljdk/internal/misc/Unsafe;"), (8, u "BIG_ENDIAN"), (0, u "Z"), (8, u "LOG2_BYTE_BIT_SIZE"), (4, u "LOG2_ARRAY_INT_INDEX_SCALE"), (54, u "JLA"), (0, u "Ljdk/internal/access/JavaLangAccess;"), (11, u "LOG2_ARRAY_BOOLEAN_INDEX_SCALE"), (9, u "LOG2_ARRAY_BYTE_INDEX_SCALE"), (5, u "LOG2_ARRAY_CHAR_INDEX_SCALE"), (5, u "LOG2_ARRAY_SHORT_INDEX_SCALE"), (18, u "LOG2_ARRAY_FLOAT_INDEX_SCALE"), (24, u "LOG2_ARRAY_DOUBLE_INDEX_SCALE"), (89, u "T_BOOLEAN"), (2, u "T_CHAR"), (1, u "T_FLOAT"), (1, u "T_DOUBLE"), (1, u "T_BYTE"), (1, u "T_SHORT"), (1, u "T_INT"), (1, u "T_LONG"), (1, u "SOFT_MAX_ARRAY_LENGTH")] 83

def k12m0 : Method := { name := "<init>", desc := "()V", sig := { parameters := [], returnType := none }, accessFlags := 2, code := none }
/-- jdk/internal/util/ArraysSupport -/
def k12 : Class := { plain "jdk/internal/util/ArraysSupport" (some 0) with
  accessFlags := 33
  interfaces := #[]
  cf := some (fileOf pool12 21 #[] #[{ accessFlags := 2, nameIndex := 9, descriptorIndex := 19, attributes := #[] }] 33 16 #[] #[{ accessFlags := 24, nameIndex := 28, descriptorIndex := 29, attributes := #[] }, { accessFlags := 26, nameIndex := 38, descriptorIndex := 39, attributes := #[] }, { accessFlags := 25, nameIndex := 121, descriptorIndex := 25, attributes := #[] }, { accessFlags := 25, nameIndex := 131, descriptorIndex := 25, attributes := #[] }, { accessFlags := 25, nameIndex := 137, descriptorIndex := 25, attributes := #[] }, { accessFlags := 25, nameIndex := 143, descriptorIndex := 25, attributes := #[] }, { accessFlags := 25, nameIndex := 53, descriptorIndex := 25, attributes := #[] }, { accessFlags := 25, nameIndex := 24, descriptorIndex := 25, attributes := #[] }, { accessFlags := 25, nameIndex := 162, descriptorIndex := 25, attributes := #[] }, { accessFlags := 25, nameIndex := 187, descriptorIndex := 25, attributes := #[] }, { accessFlags := 26, nameIndex := 48, descriptorIndex := 25, attributes := #[] }, { accessFlags := 25, nameIndex := 277, descriptorIndex := 25, attributes := #[] }, { accessFlags := 25, nameIndex := 280, descriptorIndex := 25, attributes := #[] }, { accessFlags := 25, nameIndex := 282, descriptorIndex := 25, attributes := #[] }, { accessFlags := 25, nameIndex := 284, descriptorIndex := 25, attributes := #[] }, { accessFlags := 25, nameIndex := 286, descriptorIndex := 25, attributes := #[] }, { accessFlags := 25, nameIndex := 288, descriptorIndex := 25, attributes := #[] }, { accessFlags := 25, nameIndex := 290, descriptorIndex := 25, attributes := #[] }, { accessFlags := 25, nameIndex := 292, descriptorIndex := 25, attributes := #[] }, { accessFlags := 26, nameIndex := 108, descriptorIndex := 109, attributes := #[] }, { accessFlags := 25, nameIndex := 294, descriptorIndex := 25, attributes := #[] }])
  fields := #[{ name := "U", type := (.object "jdk/internal/misc/Unsafe"), accessFlags := 24, slot := 0, constantValue := 0 }, { name := "BIG_ENDIAN", type := .boolean, accessFlags := 26, slot := 1, constantValue := 0 }, { name := "LOG2_ARRAY_BOOLEAN_INDEX_SCALE", type := .int, accessFlags := 25, slot := 2, constantValue := 0 }, { name := "LOG2_ARRAY_BYTE_INDEX_SCALE", type := .int, accessFlags := 25, slot := 3, constantValue := 0 }, { name := "LOG2_ARRAY_CHAR_INDEX_SCALE", type := .int, accessFlags := 25, slot := 4, constantValue := 0 }, { name := "LOG2_ARRAY_SHORT_INDEX_SCALE", type := .int, accessFlags := 25, slot := 5, constantValue := 0 }, { name := "LOG2_ARRAY_INT_INDEX_SCALE", type := .int, accessFlags := 25, slot := 6, constantValue := 0 }, { name := "LOG2_ARRAY_LONG_INDEX_SCALE", type := .int, accessFlags := 25, slot := 7, constantValue := 0 }, { name := "LOG2_ARRAY_FLOAT_INDEX_SCALE", type := .int, accessFlags := 25, slot := 8, constantValue := 0 }, { name := "LOG2_ARRAY_DOUBLE_INDEX_SCALE", type := .int, accessFlags := 25, slot := 9, constantValue := 0 }, { name := "LOG2_BYTE_BIT_SIZE", type := .int, accessFlags := 26, slot := 10, constantValue := 0 }, { name := "T_BOOLEAN", type := .int, accessFlags := 25, slot := 11, constantValue := 0 }, { name := "T_CHAR", type := .int, accessFlags := 25, slot := 12, constantValue := 0 }, { name := "T_FLOAT", type := .int, accessFlags := 25, slot := 13, constantValue := 0 }, { name := "T_DOUBLE", type := .int, accessFlags := 25, slot := 14, constantValue := 0 }, { name := "T_BYTE", type := .int, accessFlags := 25, slot := 15, constantValue := 0 }, { name := "T_SHORT", type := .int, accessFlags := 25, slot := 16, constantValue := 0 }, { name := "T_INT", type := .int, accessFlags := 25, slot := 17, constantValue := 0 }, { name := "T_LONG", type := .int, accessFlags := 25, slot := 18, constantValue := 0 }, { name := "JLA", type := (.object "jdk/internal/access/JavaLangAccess"), accessFlags := 26, slot := 19, constantValue := 0 }, { name := "SOFT_MAX_ARRAY_LENGTH", type := .int, accessFlags := 25, slot := 20, constantValue := 0 }]
  methods := #[k12m0]
  instanceTypes := #[]
  staticTypes := #[(.object "jdk/internal/misc/Unsafe"), .boolean, .int, .int, .int, .int, .int, .int, .int, .int, .int, .int, .int, .int, .int, .int, .int, .int, .int, (.object "jdk/internal/access/JavaLangAccess"), .int]
  resolved := Array.replicate 378 none
  statics := none }

def pool13 : Array CpInfo := pool [(1, u "java/lang/Cloneable"), (0, .class_ 1), (0, u "java/lang/Object"), (0, .class_ 3)] 3

/-- java/lang/Cloneable -/
def k13 : Class := { plain "java/lang/Cloneable" (some 0) with
  accessFlags := 1537
  interfaces := #[]
  cf := some (fileOf pool13 2 #[] #[] 1537 4 #[] #[])
  fields := #[]
  methods := #[]
  instanceTypes := #[]
  staticTypes := #[]
  resolved := Array.replicate 8 none
  statics := none }

/-- the primitive byte -/
def k14 : Class := { plain "byte" none with kind := .primitive 'B', accessFlags := 0x411 }
/-- [B -/
def k15 : Class := { plain "[B" (some 0) with kind := .array 14 .byte, interfaces := #[13, 2], accessFlags := 1041 }

/-- the primitive char -/
def k16 : Class := { plain "char" none with kind := .primitive 'C', accessFlags := 0x411 }
/-- [C -/
def k17 : Class := { plain "[C" (some 0) with kind := .array 16 .char, interfaces := #[13, 2], accessFlags := 1041 }

/-- the primitive int -/
def k18 : Class := { plain "int" none with kind := .primitive 'I', accessFlags := 0x411 }
/-- [I -/
def k19 : Class := { plain "[I" (some 0) with kind := .array 18 .int, interfaces := #[13, 2], accessFlags := 1041 }

def heap : Heap := #[{ cls := 7, slots := #[.long 0, .int 1, .null, .int 0, .null, .int 0, .int 0], vm := .statics 7 },
  { cls := 11, slots := #[.null, .null, .null], vm := .statics 11 }]
def classes : Array Class := #[k0, k1, k2, k3, k4, k5, k6, k7, k8, k9, k10, k11, k12, k13, k14, k15, k16, k17, k18, k19]
def interned : List (Array UInt16 × Addr) := []
def slotsUsed : Nat := 10
def theMethod : MethodId := ⟨1, 3⟩
def args0 : Array Value := #[.int 3, .int 4, .int 5, .int 6, .int 7]
def aboutOver (below : List Frame) : State where
  vm := { classes := classes, interned := interned.toArray }
  heap := heap
  slotsUsed := slotsUsed
  threads := #[{ frames := .invoking theMethod args0 :: below }]
def below0 : List Frame := [.native { method := ⟨0, 0⟩, args := #[] }]
def about1 : State := aboutOver below0
def p0 : Program := .bare "" "" ""
def e0 : Env := launch0.env 0 0 0
theorem w_frames : about1.frames = Frame.invoking theMethod args0 :: below0 := rfl
set_option maxRecDepth 65536 in
theorem w_args : argsFit about1.vm theMethod args0 = true := by decide +kernel
set_option maxRecDepth 65536 in
theorem w_heap : heapFits about1 = true := by decide +kernel
set_option maxRecDepth 65536 in
theorem w_runnable : about1.curStatus? = some .runnable := by decide +kernel
set_option maxRecDepth 65536 in
theorem w_alone : about1.alone = true := by decide +kernel
set_option maxRecDepth 65536 in
theorem w_named : about1.methodNamed? x = some theMethod := by decide +kernel
set_option maxRecDepth 65536 in
theorem w_hears : about1.hears theMethod below0 = true := by decide +kernel
set_option maxRecDepth 65536 in
theorem w_ripe : about1.ripe theMethod args0 below0 = true := by decide +kernel
theorem w_running : about1.status = .running := rfl
set_option maxRecDepth 65536 in
theorem w_room : about1.hasRoom e0.platform room_1 = true :=
  launch0.hasRoom_least _ room_1 (by decide +kernel) (by decide +kernel) (by decide +kernel) (by decide +kernel) (by decide +kernel) (by decide +kernel)
theorem allAtoms_all (ts : List Jvm.Cond) (a : Array Jvm.Value) (st : Jvm.State) : (allAtoms ts).before a st = ts.all (fun c => c.before a st) := by
  induction ts with
  | nil => rfl
  | cons c t ih =>
    show (Jvm.Cond.and c (allAtoms t)).before a st = _
    rw [Jvm.Cond.before_and, ih, List.all_cons]
def words1 : List Jvm.Cond := Jvm.Cond.code x code maxLocals ret :: tables_1
/-- a 'code' word, met by the world's own term for the bytes: nothing is compared byte by byte -/
theorem code_word {y : MethodName} {bytes : ByteArray} {mx : Nat} {rt : Option FieldType} {a : Array Value} {s : State} {m : MethodId} {meth : Method} {c : Code} (h1 : s.methodNamed? y = some m) (h2 : s.vm.method? m = some meth) (h3 : meth.code = some c) (h4 : c.code = bytes)
    (h5 : (c.maxLocals == mx && c.exceptionTable.isEmpty && decide (c.maxStack ≤ mostOperands) && decide (meth.sig.returnType = rt) && !meth.locks && decide (parseMethodDescriptor y.desc = some meth.sig)) = true) : (Jvm.Cond.code y bytes mx rt).before a s = true := by
  simp only [Bool.and_eq_true, beq_iff_eq, Bool.not_eq_true', decide_eq_true_eq] at h5
  obtain ⟨⟨⟨⟨⟨g1, g2⟩, g3⟩, g4⟩, g5⟩, g6⟩ := h5
  simp [Cond.before, Cond.holds, Cond.value, h1, h2, h3, h4, g1, g2, g3, g4, g5, g6]
def isCode : Jvm.Cond → Bool
  | .code _ _ _ _ => true
  | _ => false
theorem all_split {L : List Jvm.Cond} {P : Jvm.Cond → Bool} (h1 : L.all (fun c => isCode c || P c) = true) (h2 : ∀ c ∈ L.filter isCode, P c = true) : L.all P = true := by
  refine List.all_eq_true.mpr fun c hc => ?_
  have h := List.all_eq_true.mp h1 c hc
  rcases Bool.eq_false_or_eq_true (isCode c) with hi | hi
  · exact h2 c (List.mem_filter.mpr ⟨hc, hi⟩)
  · simpa [hi] using h
set_option maxRecDepth 65536 in
theorem w_c0 : (Jvm.Cond.code x code maxLocals ret).before args0 about1 = true := code_word (m := ⟨1, 3⟩) (meth := k1m3) (c := k1c3) (by decide +kernel) rfl rfl rfl (by decide +kernel)
set_option maxRecDepth 65536 in
theorem w_c1 : (Jvm.Cond.code ({ cls := "com/example/ample_pool/amplepool/control/AnswerEqualsPinLaw", name := "text", desc := "(I)Ljava/lang/String;" } : Jvm.MethodName) method_2_code (5 : Nat) (Option.some (Jvm.ClassFile.FieldType.object "java/lang/String"))).before args0 about1 = true := code_word (m := ⟨1, 1⟩) (meth := k1m1) (c := k1c1) (by decide +kernel) rfl rfl rfl (by decide +kernel)
set_option maxRecDepth 65536 in
theorem w_c2 : (Jvm.Cond.code ({ cls := "java/lang/String", name := "<init>", desc := "([C)V" } : Jvm.MethodName) jdk_42_method_3_code (2 : Nat) (Option.none : Option Jvm.ClassFile.FieldType)).before args0 about1 = true := code_word (m := ⟨7, 1⟩) (meth := k7m1) (c := k7c1) (by decide +kernel) rfl rfl rfl (by decide +kernel)
set_option maxRecDepth 65536 in
theorem w_c3 : (Jvm.Cond.code ({ cls := "java/lang/String", name := "<init>", desc := "([CIILjava/lang/Void;)V" } : Jvm.MethodName) jdk_42_method_149_code (6 : Nat) (Option.none : Option Jvm.ClassFile.FieldType)).before args0 about1 = true := code_word (m := ⟨7, 6⟩) (meth := k7m6) (c := k7c6) (by decide +kernel) rfl rfl rfl (by decide +kernel)
set_option maxRecDepth 65536 in
theorem w_c4 : (Jvm.Cond.code ({ cls := "java/lang/Object", name := "<init>", desc := "()V" } : Jvm.MethodName) object_method_1_code (1 : Nat) (Option.none : Option Jvm.ClassFile.FieldType)).before args0 about1 = true := code_word (m := ⟨0, 0⟩) (meth := k0m0) (c := k0c0) (by decide +kernel) rfl rfl rfl (by decide +kernel)
set_option maxRecDepth 65536 in
theorem w_c5 : (Jvm.Cond.code ({ cls := "java/lang/StringUTF16", name := "compress", desc := "([CII)[B" } : Jvm.MethodName) jdk_52_method_16_code (6 : Nat) (Option.some (Jvm.ClassFile.FieldType.array Jvm.ClassFile.FieldType.byte))).before args0 about1 = true := code_word (m := ⟨8, 2⟩) (meth := k8m2) (c := k8c2) (by decide +kernel) rfl rfl rfl (by decide +kernel)
set_option maxRecDepth 65536 in
theorem w_c6 : (Jvm.Cond.code ({ cls := "java/lang/StringUTF16", name := "compress", desc := "([CI[BII)I" } : Jvm.MethodName) jdk_52_method_21_code (7 : Nat) (Option.some Jvm.ClassFile.FieldType.int)).before args0 about1 = true := code_word (m := ⟨8, 3⟩) (meth := k8m3) (c := k8c3) (by decide +kernel) rfl rfl rfl (by decide +kernel)
set_option maxRecDepth 65536 in
theorem w_c7 : (Jvm.Cond.code ({ cls := "java/lang/StringUTF16", name := "coderFromArrayLen", desc := "([BI)B" } : Jvm.MethodName) jdk_52_method_15_code (2 : Nat) (Option.some Jvm.ClassFile.FieldType.byte)).before args0 about1 = true := code_word (m := ⟨8, 1⟩) (meth := k8m1) (c := k8c1) (by decide +kernel) rfl rfl rfl (by decide +kernel)
set_option maxRecDepth 65536 in
theorem w_c8 : (Jvm.Cond.code ({ cls := "com/example/ample_pool/amplepool/control/AnswerEqualsPinLaw", name := "sameText", desc := "(Ljava/lang/String;Ljava/lang/String;)Z" } : Jvm.MethodName) method_3_code (3 : Nat) (Option.some Jvm.ClassFile.FieldType.boolean)).before args0 about1 = true := code_word (m := ⟨1, 2⟩) (meth := k1m2) (c := k1c2) (by decide +kernel) rfl rfl rfl (by decide +kernel)
set_option maxRecDepth 65536 in
theorem w_c9 : (Jvm.Cond.code ({ cls := "java/lang/String", name := "length", desc := "()I" } : Jvm.MethodName) jdk_42_method_54_code (1 : Nat) (Option.some Jvm.ClassFile.FieldType.int)).before args0 about1 = true := code_word (m := ⟨7, 2⟩) (meth := k7m2) (c := k7c2) (by decide +kernel) rfl rfl rfl (by decide +kernel)
set_option maxRecDepth 65536 in
theorem w_c10 : (Jvm.Cond.code ({ cls := "java/lang/String", name := "coder", desc := "()B" } : Jvm.MethodName) jdk_42_method_152_code (1 : Nat) (Option.some Jvm.ClassFile.FieldType.byte)).before args0 about1 = true := code_word (m := ⟨7, 8⟩) (meth := k7m8) (c := k7c8) (by decide +kernel) rfl rfl rfl (by decide +kernel)
set_option maxRecDepth 65536 in
theorem w_c11 : (Jvm.Cond.code ({ cls := "com/example/ample_pool/amplepool/control/ApiRequests$Answer", name := "<init>", desc := "(Ljava/lang/String;I)V" } : Jvm.MethodName) prog_3_method_1_code (3 : Nat) (Option.none : Option Jvm.ClassFile.FieldType)).before args0 about1 = true := code_word (m := ⟨9, 0⟩) (meth := k9m0) (c := k9c0) (by decide +kernel) rfl rfl rfl (by decide +kernel)
set_option maxRecDepth 65536 in
theorem w_c12 : (Jvm.Cond.code ({ cls := "com/example/ample_pool/amplepool/control/ApiRequests$Answer", name := "equals", desc := "(Ljava/lang/Object;)Z" } : Jvm.MethodName) prog_3_method_4_code (3 : Nat) (Option.some Jvm.ClassFile.FieldType.boolean)).before args0 about1 = true := code_word (m := ⟨9, 1⟩) (meth := k9m1) (c := k9c1) (by decide +kernel) rfl rfl rfl (by decide +kernel)
set_option maxRecDepth 65536 in
theorem w_c13 : (Jvm.Cond.code ({ cls := "java/lang/String", name := "equals", desc := "(Ljava/lang/Object;)Z" } : Jvm.MethodName) jdk_42_method_66_code (3 : Nat) (Option.some Jvm.ClassFile.FieldType.boolean)).before args0 about1 = true := code_word (m := ⟨7, 4⟩) (meth := k7m4) (c := k7c4) (by decide +kernel) rfl rfl rfl (by decide +kernel)
set_option maxRecDepth 65536 in
theorem w_c14 : (Jvm.Cond.code ({ cls := "java/lang/StringLatin1", name := "equals", desc := "([B[B)Z" } : Jvm.MethodName) jdk_43_method_13_code (3 : Nat) (Option.some Jvm.ClassFile.FieldType.boolean)).before args0 about1 = true := code_word (m := ⟨10, 3⟩) (meth := k10m3) (c := k10c3) (by decide +kernel) rfl rfl rfl (by decide +kernel)
set_option maxRecDepth 65536 in
theorem w_c15 : (Jvm.Cond.code ({ cls := "java/lang/String", name := "charAt", desc := "(I)C" } : Jvm.MethodName) jdk_42_method_56_code (2 : Nat) (Option.some Jvm.ClassFile.FieldType.char)).before args0 about1 = true := code_word (m := ⟨7, 3⟩) (meth := k7m3) (c := k7c3) (by decide +kernel) rfl rfl rfl (by decide +kernel)
set_option maxRecDepth 65536 in
theorem w_c16 : (Jvm.Cond.code ({ cls := "java/lang/String", name := "isLatin1", desc := "()Z" } : Jvm.MethodName) jdk_42_method_154_code (1 : Nat) (Option.some Jvm.ClassFile.FieldType.boolean)).before args0 about1 = true := code_word (m := ⟨7, 9⟩) (meth := k7m9) (c := k7c9) (by decide +kernel) rfl rfl rfl (by decide +kernel)
set_option maxRecDepth 65536 in
theorem w_c17 : (Jvm.Cond.code ({ cls := "java/lang/StringLatin1", name := "charAt", desc := "([BI)C" } : Jvm.MethodName) jdk_43_method_2_code (2 : Nat) (Option.some Jvm.ClassFile.FieldType.char)).before args0 about1 = true := code_word (m := ⟨10, 1⟩) (meth := k10m1) (c := k10c1) (by decide +kernel) rfl rfl rfl (by decide +kernel)
set_option maxRecDepth 65536 in
theorem w_c18 : (Jvm.Cond.code ({ cls := "java/lang/String", name := "checkIndex", desc := "(II)V" } : Jvm.MethodName) jdk_42_method_155_code (2 : Nat) (Option.none : Option Jvm.ClassFile.FieldType)).before args0 about1 = true := code_word (m := ⟨7, 10⟩) (meth := k7m10) (c := k7c10) (by decide +kernel) rfl rfl rfl (by decide +kernel)
set_option maxRecDepth 65536 in
theorem w_c19 : (Jvm.Cond.code ({ cls := "jdk/internal/util/Preconditions", name := "checkIndex", desc := "(IILjava/util/function/BiFunction;)I" } : Jvm.MethodName) jdk_41_method_11_code (3 : Nat) (Option.some Jvm.ClassFile.FieldType.int)).before args0 about1 = true := code_word (m := ⟨11, 1⟩) (meth := k11m1) (c := k11c1) (by decide +kernel) rfl rfl rfl (by decide +kernel)
set_option maxRecDepth 65536 in
theorem w_c20 : (Jvm.Cond.code ({ cls := "java/lang/String", name := "valueOf", desc := "(C)Ljava/lang/String;" } : Jvm.MethodName) jdk_42_method_139_code (1 : Nat) (Option.some (Jvm.ClassFile.FieldType.object "java/lang/String"))).before args0 about1 = true := code_word (m := ⟨7, 5⟩) (meth := k7m5) (c := k7c5) (by decide +kernel) rfl rfl rfl (by decide +kernel)
set_option maxRecDepth 65536 in
theorem w_c21 : (Jvm.Cond.code ({ cls := "java/lang/StringLatin1", name := "canEncode", desc := "(C)Z" } : Jvm.MethodName) jdk_43_method_3_code (1 : Nat) (Option.some Jvm.ClassFile.FieldType.boolean)).before args0 about1 = true := code_word (m := ⟨10, 2⟩) (meth := k10m2) (c := k10c2) (by decide +kernel) rfl rfl rfl (by decide +kernel)
set_option maxRecDepth 65536 in
theorem w_c22 : (Jvm.Cond.code ({ cls := "java/lang/StringLatin1", name := "toBytes", desc := "(C)[B" } : Jvm.MethodName) jdk_43_method_46_code (1 : Nat) (Option.some (Jvm.ClassFile.FieldType.array Jvm.ClassFile.FieldType.byte))).before args0 about1 = true := code_word (m := ⟨10, 4⟩) (meth := k10m4) (c := k10c4) (by decide +kernel) rfl rfl rfl (by decide +kernel)
set_option maxRecDepth 65536 in
theorem w_c23 : (Jvm.Cond.code ({ cls := "java/lang/String", name := "<init>", desc := "([BB)V" } : Jvm.MethodName) jdk_42_method_151_code (3 : Nat) (Option.none : Option Jvm.ClassFile.FieldType)).before args0 about1 = true := code_word (m := ⟨7, 7⟩) (meth := k7m7) (c := k7c7) (by decide +kernel) rfl rfl rfl (by decide +kernel)
def codes1 : List Jvm.Cond := [Jvm.Cond.code x code maxLocals ret, Jvm.Cond.code ({ cls := "com/example/ample_pool/amplepool/control/AnswerEqualsPinLaw", name := "text", desc := "(I)Ljava/lang/String;" } : Jvm.MethodName) method_2_code (5 : Nat) (Option.some (Jvm.ClassFile.FieldType.object "java/lang/String")), Jvm.Cond.code ({ cls := "java/lang/String", name := "<init>", desc := "([C)V" } : Jvm.MethodName) jdk_42_method_3_code (2 : Nat) (Option.none : Option Jvm.ClassFile.FieldType), Jvm.Cond.code ({ cls := "java/lang/String", name := "<init>", desc := "([CIILjava/lang/Void;)V" } : Jvm.MethodName) jdk_42_method_149_code (6 : Nat) (Option.none : Option Jvm.ClassFile.FieldType), Jvm.Cond.code ({ cls := "java/lang/Object", name := "<init>", desc := "()V" } : Jvm.MethodName) object_method_1_code (1 : Nat) (Option.none : Option Jvm.ClassFile.FieldType), Jvm.Cond.code ({ cls := "java/lang/StringUTF16", name := "compress", desc := "([CII)[B" } : Jvm.MethodName) jdk_52_method_16_code (6 : Nat) (Option.some (Jvm.ClassFile.FieldType.array Jvm.ClassFile.FieldType.byte)), Jvm.Cond.code ({ cls := "java/lang/StringUTF16", name := "compress", desc := "([CI[BII)I" } : Jvm.MethodName) jdk_52_method_21_code (7 : Nat) (Option.some Jvm.ClassFile.FieldType.int), Jvm.Cond.code ({ cls := "java/lang/StringUTF16", name := "coderFromArrayLen", desc := "([BI)B" } : Jvm.MethodName) jdk_52_method_15_code (2 : Nat) (Option.some Jvm.ClassFile.FieldType.byte), Jvm.Cond.code ({ cls := "com/example/ample_pool/amplepool/control/AnswerEqualsPinLaw", name := "sameText", desc := "(Ljava/lang/String;Ljava/lang/String;)Z" } : Jvm.MethodName) method_3_code (3 : Nat) (Option.some Jvm.ClassFile.FieldType.boolean), Jvm.Cond.code ({ cls := "java/lang/String", name := "length", desc := "()I" } : Jvm.MethodName) jdk_42_method_54_code (1 : Nat) (Option.some Jvm.ClassFile.FieldType.int), Jvm.Cond.code ({ cls := "java/lang/String", name := "coder", desc := "()B" } : Jvm.MethodName) jdk_42_method_152_code (1 : Nat) (Option.some Jvm.ClassFile.FieldType.byte), Jvm.Cond.code ({ cls := "com/example/ample_pool/amplepool/control/ApiRequests$Answer", name := "<init>", desc := "(Ljava/lang/String;I)V" } : Jvm.MethodName) prog_3_method_1_code (3 : Nat) (Option.none : Option Jvm.ClassFile.FieldType), Jvm.Cond.code ({ cls := "com/example/ample_pool/amplepool/control/ApiRequests$Answer", name := "equals", desc := "(Ljava/lang/Object;)Z" } : Jvm.MethodName) prog_3_method_4_code (3 : Nat) (Option.some Jvm.ClassFile.FieldType.boolean), Jvm.Cond.code ({ cls := "java/lang/String", name := "equals", desc := "(Ljava/lang/Object;)Z" } : Jvm.MethodName) jdk_42_method_66_code (3 : Nat) (Option.some Jvm.ClassFile.FieldType.boolean), Jvm.Cond.code ({ cls := "java/lang/StringLatin1", name := "equals", desc := "([B[B)Z" } : Jvm.MethodName) jdk_43_method_13_code (3 : Nat) (Option.some Jvm.ClassFile.FieldType.boolean), Jvm.Cond.code ({ cls := "java/lang/String", name := "charAt", desc := "(I)C" } : Jvm.MethodName) jdk_42_method_56_code (2 : Nat) (Option.some Jvm.ClassFile.FieldType.char), Jvm.Cond.code ({ cls := "java/lang/String", name := "isLatin1", desc := "()Z" } : Jvm.MethodName) jdk_42_method_154_code (1 : Nat) (Option.some Jvm.ClassFile.FieldType.boolean), Jvm.Cond.code ({ cls := "java/lang/StringLatin1", name := "charAt", desc := "([BI)C" } : Jvm.MethodName) jdk_43_method_2_code (2 : Nat) (Option.some Jvm.ClassFile.FieldType.char), Jvm.Cond.code ({ cls := "java/lang/String", name := "checkIndex", desc := "(II)V" } : Jvm.MethodName) jdk_42_method_155_code (2 : Nat) (Option.none : Option Jvm.ClassFile.FieldType), Jvm.Cond.code ({ cls := "jdk/internal/util/Preconditions", name := "checkIndex", desc := "(IILjava/util/function/BiFunction;)I" } : Jvm.MethodName) jdk_41_method_11_code (3 : Nat) (Option.some Jvm.ClassFile.FieldType.int), Jvm.Cond.code ({ cls := "java/lang/String", name := "valueOf", desc := "(C)Ljava/lang/String;" } : Jvm.MethodName) jdk_42_method_139_code (1 : Nat) (Option.some (Jvm.ClassFile.FieldType.object "java/lang/String")), Jvm.Cond.code ({ cls := "java/lang/StringLatin1", name := "canEncode", desc := "(C)Z" } : Jvm.MethodName) jdk_43_method_3_code (1 : Nat) (Option.some Jvm.ClassFile.FieldType.boolean), Jvm.Cond.code ({ cls := "java/lang/StringLatin1", name := "toBytes", desc := "(C)[B" } : Jvm.MethodName) jdk_43_method_46_code (1 : Nat) (Option.some (Jvm.ClassFile.FieldType.array Jvm.ClassFile.FieldType.byte)), Jvm.Cond.code ({ cls := "java/lang/String", name := "<init>", desc := "([BB)V" } : Jvm.MethodName) jdk_42_method_151_code (3 : Nat) (Option.none : Option Jvm.ClassFile.FieldType)]
set_option maxRecDepth 65536 in
theorem codes_eq : words1.filter isCode = codes1 := rfl
theorem w_codes : ∀ c ∈ words1.filter isCode, c.before args0 about1 = true := by
  rw [codes_eq]
  intro c hc
  simp only [codes1, List.mem_cons, List.not_mem_nil, or_false] at hc
  rcases hc with rfl | rfl | rfl | rfl | rfl | rfl | rfl | rfl | rfl | rfl | rfl | rfl | rfl | rfl | rfl | rfl | rfl | rfl | rfl | rfl | rfl | rfl | rfl | rfl
  · exact w_c0
  · exact w_c1
  · exact w_c2
  · exact w_c3
  · exact w_c4
  · exact w_c5
  · exact w_c6
  · exact w_c7
  · exact w_c8
  · exact w_c9
  · exact w_c10
  · exact w_c11
  · exact w_c12
  · exact w_c13
  · exact w_c14
  · exact w_c15
  · exact w_c16
  · exact w_c17
  · exact w_c18
  · exact w_c19
  · exact w_c20
  · exact w_c21
  · exact w_c22
  · exact w_c23
set_option maxRecDepth 65536 in
theorem w_t1 : (words1.take 24).all (fun c => isCode c || c.before args0 about1) = true := by decide +kernel
set_option maxRecDepth 65536 in
theorem w_t2 : ((words1.drop 24).take 24).all (fun c => isCode c || c.before args0 about1) = true := by decide +kernel
set_option maxRecDepth 65536 in
theorem w_t3 : (((words1.drop 24).drop 24).take 24).all (fun c => isCode c || c.before args0 about1) = true := by decide +kernel
set_option maxRecDepth 65536 in
theorem w_t4 : ((((words1.drop 24).drop 24).drop 24).take 24).all (fun c => isCode c || c.before args0 about1) = true := by decide +kernel
set_option maxRecDepth 65536 in
theorem w_t5 : ((((words1.drop 24).drop 24).drop 24).drop 24).all (fun c => isCode c || c.before args0 about1) = true := by decide +kernel
theorem w_tables : (allAtoms (Jvm.Cond.code x code maxLocals ret :: tables_1)).before args0 about1 = true := by
  rw [allAtoms_all]
  show words1.all (fun c => c.before args0 about1) = true
  refine all_split ?_ w_codes
  rw [← List.take_append_drop 24 words1, List.all_append, w_t1, ← List.take_append_drop 24 (words1.drop 24), List.all_append, w_t2, ← List.take_append_drop 24 ((words1.drop 24).drop 24), List.all_append, w_t3, ← List.take_append_drop 24 (((words1.drop 24).drop 24).drop 24), List.all_append, w_t4, w_t5]
  rfl
set_option maxRecDepth 65536 in
theorem w_rest : rest_1_c.before args0 about1 = true := by decide +kernel
set_option maxRecDepth 65536 in
theorem w_case : (Jvm.Cond.and given_1 narrow_1).before args0 about1 = true := by decide +kernel
set_option maxRecDepth 65536 in
theorem w_consts : constsHeld consts_1 about1 := Jvm.Lit.constsHeldB_iff.mp (by decide +kernel)
theorem w_applies : (headSpec (Jvm.Cond.code x code maxLocals ret :: tables_1) room_1).applies x e0.platform about1 = true :=
  (Spec.applies_iff w_frames).mpr ⟨w_running, w_runnable, w_alone, w_named, w_hears, w_ripe, w_room, w_tables⟩
theorem atStart : AtStart classFile x code maxLocals ret World_1 tables_1 room_1 Calls_1 rest_1 Pre_1 launch0 p0 e0 about1 theMethod args0 below0 :=
  ⟨lists_1, trivial, launch0.admits_env _ _ _, launch0.least_env, fairChoices_fair.cas, fairChoices_fair.clock, w_frames, w_args, w_heap, w_applies, ⟨w_consts, trivial⟩, w_rest, w_case⟩
end start1
theorem witness_1 : WitnessClaimed_1 := ⟨start1.p0, start1.e0, start1.about1, start1.theMethod, start1.args0, start1.below0, start1.atStart⟩
end Jvm.Pilot.@@N@@
