import JvmDerived
import JvmDerived.Pilot.@@N@@Statement
import JvmDerived.Pilot.@@N@@Code
set_option linter.unusedVariables false
set_option linter.unusedSimpArgs false
namespace Jvm.Pilot.@@N@@
open Jvm Jvm.ClassFile Sem Op Lib Jvm.Free Jvm.Stand Jvm.LawKit Jvm.RoadKit Bundle Jvm.Pilot.@@N@@.Jvm.D
section Own
variable {p : Program} {l : Launch} {e : Env} {R : Room} {s : State} {m : MethodId} {args : Array Value} {below : List Frame} {meth : Method} {c : Code} {Z : State} {a0 : Array Value} {y : MethodName} {bytes : ByteArray} {maxL : Nat} {ret : Option FieldType} {Q : Option Value → Heap → Prop} {P : Option Value → State → Prop} {n0 : Nat} {h : Heap} {k n : Nat} {f f' : JFrame} {pc pc' pt : Nat} {Ls : Array Slot} {S : List Value}
/-- what a walk knows of its own method -/
def Cx (p : Program) (s : State) (m : MethodId) (meth : Method) (c : Code) (Z : State) (y : MethodName) (bytes : ByteArray) (maxL : Nat) (ret : Option FieldType) : Prop :=
  p.tables.exec = Jvm.exec ∧ Z.Warmed39 s.vm ∧ c.code = bytes ∧ c.maxLocals = maxL ∧ s.vm.findClass y.cls = some m.cls ∧ meth.name = y.name ∧ meth.sig.returnType = ret ∧ meth.locks = false
/-- the run from U returns, and what it leaves is as P says -/
def Go (p : Program) (e : Env) (below : List Frame) (P : Option Value → State → Prop) (U : State) : Prop :=
  ∃ s₂ v, Steps p.tables e below U s₂ ∧ s₂.status = .running ∧ Ended s₂ below (.returned v) ∧ P v s₂
/-- as Q says, within the room, seen from the state s -/
def Wst (s : State) (R : Room) (n0 : Nat) (Q : Option Value → Heap → Prop) : Option Value → State → Prop := fun v s₂ => Q v s₂.heap ∧ ∃ L, Fr n0 L ∧ FrameEnd s (.returned v) s₂ L R.cells R.slots
/-- from wherever the walk stands with the heap h, k cells and n slots made, the frame f on top: it ends as P says -/
def G (p : Program) (l : Launch) (e : Env) (R : Room) (s : State) (m : MethodId) (args : Array Value) (below : List Frame) (meth : Method) (c : Code) (n0 : Nat) (P : Option Value → State → Prop) (h : Heap) (k n : Nat) (f : JFrame) : Prop :=
  ∀ T locs, Stand p l e R s m args below meth c T locs k n → T.heap = h → Fr n0 locs → Go p e below P (T.setTop f)
/-- a method's contract at the heap h with the arguments av -/
def Con (l : Launch) (Z : State) (y : MethodName) (bytes : ByteArray) (maxL : Nat) (ret : Option FieldType) (R : Room) (av : Array Value) (h : Heap) (n0 : Nat) (Q : Option Value → Heap → Prop) : Prop :=
  ∀ ws : List Jvm.Cond, MetFree l y (head1 (Jvm.Cond.code y bytes maxL ret :: ws) R) (fun a U => a = av ∧ Z.Warmed39 U.vm ∧ U.heap = h) (fun _ _ _ _ _ => True) (fun _ U o U' => ∃ v L, o = .returned v ∧ (Q v U'.heap ∧ Fr n0 L) ∧ FrameEnd U o U' L R.cells R.slots)
theorem Con.of {av : Array Value} (hy : plainFor y = true) (ef : ∀ m, entryFrame m av maxL = mkF m 0 Ls [])
    (body : ∀ p e s m below meth c, Cx p s m meth c Z y bytes maxL ret → G p l e R s m av below meth c n0 (Wst s R n0 Q) h 0 0 (mkF m 0 Ls [])) : Con l Z y bytes maxL ret R av h n0 Q := by
  intro ws
  refine MetFree.of_bodySF hy hisR ?_
  intro p e s m args below meth c s₁ Bd hml0 hP hK
  obtain ⟨rfl, hZ, hh⟩ := hP
  have X0 : Stand p l e R s m _ below meth c s₁ [] 0 0 := Stand.of_body Bd
  have e0 : s₁.heap = h := by rw [← hh, Bd.state]; rfl
  obtain ⟨s₂, v, h1, h2, h3, h4, L, h5, h6⟩ := body p e s m below meth c ⟨Bd.exec, hZ, Bd.bytes, hml0, findClass_of_methodNamed Bd.named, (name_of_methodNamed Bd.named Bd.method).1, Bd.returns, Bd.notSynchronized⟩ s₁ [] X0 e0 (Fr.nil n0)
  exact ⟨s₂, _, castTop (ef m) h1, h2, h3, v, L, rfl, ⟨h4, h5⟩, h6⟩
theorem Con.imp {av : Array Value} {Q' : Option Value → Heap → Prop} (K : Con l Z y bytes maxL ret R av h n0 Q) (hq : ∀ v h', Q v h' → Q' v h') : Con l Z y bytes maxL ret R av h n0 Q' := by
  intro ws p e ha hc hk s m args below hf happ hP hK
  obtain ⟨n, o, h1, h2, h3, v, L, h4, h5, h6⟩ := K ws p e ha hc hk s m args below hf happ hP hK
  exact ⟨n, o, h1, h2, h3, v, L, h4, ⟨hq _ _ h5.1, h5.2⟩, h6⟩
theorem G.pl (st : ∀ T locs, Stand p l e R s m args below meth c T locs k n → T.heap = h → ∀ t, Steps p.tables e below (T.setTop f') t → Steps p.tables e below (T.setTop f) t) (nx : G p l e R s m args below meth c n0 P h k n f') : G p l e R s m args below meth c n0 P h k n f := fun T locs X eT N => by
  obtain ⟨s₂, o, h1, r⟩ := nx T locs X eT N
  exact ⟨s₂, o, st T locs X eT _ h1, r⟩
/-- a step that hands back another state, the heap as it was -/
theorem G.mv (st : ∀ T locs, Stand p l e R s m args below meth c T locs k n → T.heap = h → ∃ T', Stand p l e R s m args below meth c T' locs k n ∧ T'.heap = h ∧ ∀ t, Steps p.tables e below (T'.setTop f') t → Steps p.tables e below (T.setTop f) t) (nx : G p l e R s m args below meth c n0 P h k n f') : G p l e R s m args below meth c n0 P h k n f := fun T locs X eT N => by
  obtain ⟨T', X', e', q⟩ := st T locs X eT
  obtain ⟨s₂, o, h1, r⟩ := nx T' locs X' e' N
  exact ⟨s₂, o, q _ h1, r⟩
theorem G.mono {k' n' : Nat} (hk : k ≤ k') (hn : n ≤ n') (nx : G p l e R s m args below meth c n0 P h k' n' f) : G p l e R s m args below meth c n0 P h k n f := fun T locs X eT N =>
  nx T locs ⟨X.admits, X.cas, X.clock, X.frames, X.room, X.hears, X.method, X.code, X.here, X.tail, X.warmed, X.limits, X.bytes, X.same.mono hk hn⟩ eT N
theorem G.imp {P' : Option Value → State → Prop} (nx : G p l e R s m args below meth c n0 P h k n f) (hp : ∀ v s₂, P v s₂ → P' v s₂) : G p l e R s m args below meth c n0 P' h k n f := fun T locs X eT N => by
  obtain ⟨s₂, v, h1, h2, h3, h4⟩ := nx T locs X eT N
  exact ⟨s₂, v, h1, h2, h3, hp _ _ h4⟩
theorem twd {d : Jvm.Cond} {L : List Jvm.Cond} (hw : ∀ d ∈ L, d.before a0 Z = true) (i : Nat) (h : L[i]? = some d) : d.before a0 Z = true := hw _ (List.mem_of_getElem? h)
theorem G.iloadN (C : Cx p s m meth c Z y bytes maxL ret) {j : Fin 4} {v : Int32} (hd : decode bytes pc = .ok (.iload_n j, 1)) (hl : Ls[j.val]? = some (.val (.int v))) (hp : pc + 1 = pc') (nx : G p l e R s m args below meth c n0 P h k n (mkF m pc' Ls (.int v :: S))) : G p l e R s m args below meth c n0 P h k n (mkF m pc Ls S) := by
  subst hp; exact G.pl (fun T locs X eT t q => XS.iloadN X.here C.1 rfl (hb C.2.2.1 hd) hl q) nx
theorem G.iload (C : Cx p s m meth c Z y bytes maxL ret) {j : Nat} {v : Int32} (hd : decode bytes pc = .ok (.iload j, 2)) (hl : Ls[j]? = some (.val (.int v))) (hp : pc + 2 = pc') (nx : G p l e R s m args below meth c n0 P h k n (mkF m pc' Ls (.int v :: S))) : G p l e R s m args below meth c n0 P h k n (mkF m pc Ls S) := by
  subst hp; exact G.pl (fun T locs X eT t q => XS.iload X.here C.1 rfl (hb C.2.2.1 hd) hl q) nx
theorem G.lloadN (C : Cx p s m meth c Z y bytes maxL ret) {j : Fin 4} {v : Int64} (hd : decode bytes pc = .ok (.lload_n j, 1)) (hl : Ls[j.val]? = some (.val (.long v))) (hp : pc + 1 = pc') (nx : G p l e R s m args below meth c n0 P h k n (mkF m pc' Ls (.long v :: S))) : G p l e R s m args below meth c n0 P h k n (mkF m pc Ls S) := by
  subst hp; exact G.pl (fun T locs X eT t q => XS.lloadN X.here C.1 rfl (hb C.2.2.1 hd) hl q) nx
theorem G.lload (C : Cx p s m meth c Z y bytes maxL ret) {j : Nat} {v : Int64} (hd : decode bytes pc = .ok (.lload j, 2)) (hl : Ls[j]? = some (.val (.long v))) (hp : pc + 2 = pc') (nx : G p l e R s m args below meth c n0 P h k n (mkF m pc' Ls (.long v :: S))) : G p l e R s m args below meth c n0 P h k n (mkF m pc Ls S) := by
  subst hp; exact G.pl (fun T locs X eT t q => XS.lload X.here C.1 rfl (hb C.2.2.1 hd) hl q) nx
theorem G.aloadN (C : Cx p s m meth c Z y bytes maxL ret) {j : Fin 4} {v : Value} (hd : decode bytes pc = .ok (.aload_n j, 1)) (hl : Ls[j.val]? = some (.val v)) (hv : v.isRef = true) (hp : pc + 1 = pc') (nx : G p l e R s m args below meth c n0 P h k n (mkF m pc' Ls (v :: S))) : G p l e R s m args below meth c n0 P h k n (mkF m pc Ls S) := by
  subst hp; exact G.pl (fun T locs X eT t q => XS.aloadN X.here C.1 rfl (hb C.2.2.1 hd) hl hv q) nx
theorem G.aload (C : Cx p s m meth c Z y bytes maxL ret) {j : Nat} {v : Value} (hd : decode bytes pc = .ok (.aload j, 2)) (hl : Ls[j]? = some (.val v)) (hv : v.isRef = true) (hp : pc + 2 = pc') (nx : G p l e R s m args below meth c n0 P h k n (mkF m pc' Ls (v :: S))) : G p l e R s m args below meth c n0 P h k n (mkF m pc Ls S) := by
  subst hp; exact G.pl (fun T locs X eT t q => XS.aload X.here C.1 rfl (hb C.2.2.1 hd) hl hv q) nx
theorem G.istoreN (C : Cx p s m meth c Z y bytes maxL ret) {j : Fin 4} {v : Int32} {Ls' : Array Slot} (hd : decode bytes pc = .ok (.istore_n j, 1)) (hl : storeLocals Ls j.val (.int v) = some Ls') (hp : pc + 1 = pc') (nx : G p l e R s m args below meth c n0 P h k n (mkF m pc' Ls' S)) : G p l e R s m args below meth c n0 P h k n (mkF m pc Ls (.int v :: S)) := by
  subst hp; exact G.pl (fun T locs X eT t q => XS.istoreN X.here C.1 rfl (hb C.2.2.1 hd) rfl hl q) nx
theorem G.istore (C : Cx p s m meth c Z y bytes maxL ret) {j : Nat} {v : Int32} {Ls' : Array Slot} (hd : decode bytes pc = .ok (.istore j, 2)) (hl : storeLocals Ls j (.int v) = some Ls') (hp : pc + 2 = pc') (nx : G p l e R s m args below meth c n0 P h k n (mkF m pc' Ls' S)) : G p l e R s m args below meth c n0 P h k n (mkF m pc Ls (.int v :: S)) := by
  subst hp; exact G.pl (fun T locs X eT t q => XS.istore X.here C.1 rfl (hb C.2.2.1 hd) rfl hl q) nx
theorem G.lstoreN (C : Cx p s m meth c Z y bytes maxL ret) {j : Fin 4} {v : Int64} {Ls' : Array Slot} (hd : decode bytes pc = .ok (.lstore_n j, 1)) (hl : storeLocals Ls j.val (.long v) = some Ls') (hp : pc + 1 = pc') (nx : G p l e R s m args below meth c n0 P h k n (mkF m pc' Ls' S)) : G p l e R s m args below meth c n0 P h k n (mkF m pc Ls (.long v :: S)) := by
  subst hp; exact G.pl (fun T locs X eT t q => XS.lstoreN X.here C.1 rfl (hb C.2.2.1 hd) rfl hl q) nx
theorem G.lstore (C : Cx p s m meth c Z y bytes maxL ret) {j : Nat} {v : Int64} {Ls' : Array Slot} (hd : decode bytes pc = .ok (.lstore j, 2)) (hl : storeLocals Ls j (.long v) = some Ls') (hp : pc + 2 = pc') (nx : G p l e R s m args below meth c n0 P h k n (mkF m pc' Ls' S)) : G p l e R s m args below meth c n0 P h k n (mkF m pc Ls (.long v :: S)) := by
  subst hp; exact G.pl (fun T locs X eT t q => XS.lstore X.here C.1 rfl (hb C.2.2.1 hd) rfl hl q) nx
theorem G.astoreN (C : Cx p s m meth c Z y bytes maxL ret) {j : Fin 4} {v : Value} {Ls' : Array Slot} (hd : decode bytes pc = .ok (.astore_n j, 1)) (hv : v.isRef = true) (hl : storeLocals Ls j.val v = some Ls') (hp : pc + 1 = pc') (nx : G p l e R s m args below meth c n0 P h k n (mkF m pc' Ls' S)) : G p l e R s m args below meth c n0 P h k n (mkF m pc Ls (v :: S)) := by
  subst hp; exact G.pl (fun T locs X eT t q => XS.astoreN X.here C.1 rfl (hb C.2.2.1 hd) rfl hv hl q) nx
theorem G.astore (C : Cx p s m meth c Z y bytes maxL ret) {j : Nat} {v : Value} {Ls' : Array Slot} (hd : decode bytes pc = .ok (.astore j, 2)) (hv : v.isRef = true) (hl : storeLocals Ls j v = some Ls') (hp : pc + 2 = pc') (nx : G p l e R s m args below meth c n0 P h k n (mkF m pc' Ls' S)) : G p l e R s m args below meth c n0 P h k n (mkF m pc Ls (v :: S)) := by
  subst hp; exact G.pl (fun T locs X eT t q => XS.astore X.here C.1 rfl (hb C.2.2.1 hd) rfl hv hl q) nx
theorem G.iconst (C : Cx p s m meth c Z y bytes maxL ret) {i : Int} {v : Int32} (hd : decode bytes pc = .ok (.iconst i, 1)) (hv : Int32.ofInt i = v) (hp : pc + 1 = pc') (nx : G p l e R s m args below meth c n0 P h k n (mkF m pc' Ls (.int v :: S))) : G p l e R s m args below meth c n0 P h k n (mkF m pc Ls S) := by
  subst hp hv; exact G.pl (fun T locs X eT t q => XS.iconst X.here C.1 rfl (hb C.2.2.1 hd) q) nx
theorem G.bipush (C : Cx p s m meth c Z y bytes maxL ret) {i : Int} {v : Int32} (hd : decode bytes pc = .ok (.bipush i, 2)) (hv : (Int8.ofInt i).toInt32 = v) (hp : pc + 2 = pc') (nx : G p l e R s m args below meth c n0 P h k n (mkF m pc' Ls (.int v :: S))) : G p l e R s m args below meth c n0 P h k n (mkF m pc Ls S) := by
  subst hp hv; exact G.pl (fun T locs X eT t q => XS.bipush X.here C.1 rfl (hb C.2.2.1 hd) q) nx
theorem G.sipush (C : Cx p s m meth c Z y bytes maxL ret) {i : Int} {v : Int32} (hd : decode bytes pc = .ok (.sipush i, 3)) (hv : (Int16.ofInt i).toInt32 = v) (hp : pc + 3 = pc') (nx : G p l e R s m args below meth c n0 P h k n (mkF m pc' Ls (.int v :: S))) : G p l e R s m args below meth c n0 P h k n (mkF m pc Ls S) := by
  subst hp hv; exact G.pl (fun T locs X eT t q => XS.sipush X.here C.1 rfl (hb C.2.2.1 hd) q) nx
theorem G.lconst (C : Cx p s m meth c Z y bytes maxL ret) {j : Fin 2} {v : Int64} (hd : decode bytes pc = .ok (.lconst j, 1)) (hv : Int64.ofNat j = v) (hp : pc + 1 = pc') (nx : G p l e R s m args below meth c n0 P h k n (mkF m pc' Ls (.long v :: S))) : G p l e R s m args below meth c n0 P h k n (mkF m pc Ls S) := by
  subst hp hv; exact G.pl (fun T locs X eT t q => XS.lconst X.here C.1 rfl (hb C.2.2.1 hd) q) nx
theorem G.aconst_null (C : Cx p s m meth c Z y bytes maxL ret) (hd : decode bytes pc = .ok (.aconst_null, 1)) (hp : pc + 1 = pc') (nx : G p l e R s m args below meth c n0 P h k n (mkF m pc' Ls (.null :: S))) : G p l e R s m args below meth c n0 P h k n (mkF m pc Ls S) := by
  subst hp; exact G.pl (fun T locs X eT t q => XS.aconstNull X.here C.1 rfl (hb C.2.2.1 hd) q) nx
theorem G.ldcI (C : Cx p s m meth c Z y bytes maxL ret) {ix : Nat} {v : Int32} (w : (Jvm.Cond.constant y.cls ix v).before a0 Z = true) (hd : decode bytes pc = .ok (.ldc ix, 2)) (hp : pc + 2 = pc') (nx : G p l e R s m args below meth c n0 P h k n (mkF m pc' Ls (.int v :: S))) : G p l e R s m args below meth c n0 P h k n (mkF m pc Ls S) := by
  subst hp; exact G.pl (fun T locs X eT t q => X.ldcInt C.1 C.2.2.2.2.1 (mvT C.2.1 w) (g := mkF m pc Ls S) rfl (hb C.2.2.1 hd) t q) nx
theorem G.ldcW (C : Cx p s m meth c Z y bytes maxL ret) {ix : Nat} {v : Int32} (w : (Jvm.Cond.constant y.cls ix v).before a0 Z = true) (hd : decode bytes pc = .ok (.ldc_w ix, 3)) (hp : pc + 3 = pc') (nx : G p l e R s m args below meth c n0 P h k n (mkF m pc' Ls (.int v :: S))) : G p l e R s m args below meth c n0 P h k n (mkF m pc Ls S) := by
  subst hp; exact G.pl (fun T locs X eT t q => X.ldcwInt C.1 C.2.2.2.2.1 (mvT C.2.1 w) (g := mkF m pc Ls S) rfl (hb C.2.2.1 hd) t q) nx
theorem G.ldcJ (C : Cx p s m meth c Z y bytes maxL ret) {ix : Nat} {v : Int64} (w : (Jvm.Cond.constantLong y.cls ix v).before a0 Z = true) (hd : decode bytes pc = .ok (.ldc2_w ix, 3)) (hp : pc + 3 = pc') (nx : G p l e R s m args below meth c n0 P h k n (mkF m pc' Ls (.long v :: S))) : G p l e R s m args below meth c n0 P h k n (mkF m pc Ls S) := by
  subst hp; exact G.pl (fun T locs X eT t q => X.ldc2Long C.1 C.2.2.2.2.1 (mvT C.2.1 w) (g := mkF m pc Ls S) rfl (hb C.2.2.1 hd) t q) nx
theorem G.iadd (C : Cx p s m meth c Z y bytes maxL ret) {x z : Int32} (hd : decode bytes pc = .ok (.iadd, 1))  (hp : pc + 1 = pc') (nx : G p l e R s m args below meth c n0 P h k n (mkF m pc' Ls (.int (x + z) :: S))) : G p l e R s m args below meth c n0 P h k n (mkF m pc Ls (.int z :: .int x :: S)) := by
  subst hp; exact G.pl (fun T locs X eT t q => XS.iadd X.here C.1 rfl (hb C.2.2.1 hd) rfl q) nx
theorem G.ladd (C : Cx p s m meth c Z y bytes maxL ret) {x z : Int64} (hd : decode bytes pc = .ok (.ladd, 1))  (hp : pc + 1 = pc') (nx : G p l e R s m args below meth c n0 P h k n (mkF m pc' Ls (.long (x + z) :: S))) : G p l e R s m args below meth c n0 P h k n (mkF m pc Ls (.long z :: .long x :: S)) := by
  subst hp; exact G.pl (fun T locs X eT t q => XS.ladd X.here C.1 rfl (hb C.2.2.1 hd) rfl q) nx
theorem G.isub (C : Cx p s m meth c Z y bytes maxL ret) {x z : Int32} (hd : decode bytes pc = .ok (.isub, 1))  (hp : pc + 1 = pc') (nx : G p l e R s m args below meth c n0 P h k n (mkF m pc' Ls (.int (x - z) :: S))) : G p l e R s m args below meth c n0 P h k n (mkF m pc Ls (.int z :: .int x :: S)) := by
  subst hp; exact G.pl (fun T locs X eT t q => XS.isub X.here C.1 rfl (hb C.2.2.1 hd) rfl q) nx
theorem G.lsub (C : Cx p s m meth c Z y bytes maxL ret) {x z : Int64} (hd : decode bytes pc = .ok (.lsub, 1))  (hp : pc + 1 = pc') (nx : G p l e R s m args below meth c n0 P h k n (mkF m pc' Ls (.long (x - z) :: S))) : G p l e R s m args below meth c n0 P h k n (mkF m pc Ls (.long z :: .long x :: S)) := by
  subst hp; exact G.pl (fun T locs X eT t q => XS.lsub X.here C.1 rfl (hb C.2.2.1 hd) rfl q) nx
theorem G.imul (C : Cx p s m meth c Z y bytes maxL ret) {x z : Int32} (hd : decode bytes pc = .ok (.imul, 1))  (hp : pc + 1 = pc') (nx : G p l e R s m args below meth c n0 P h k n (mkF m pc' Ls (.int (x * z) :: S))) : G p l e R s m args below meth c n0 P h k n (mkF m pc Ls (.int z :: .int x :: S)) := by
  subst hp; exact G.pl (fun T locs X eT t q => XS.imul X.here C.1 rfl (hb C.2.2.1 hd) rfl q) nx
theorem G.lmul (C : Cx p s m meth c Z y bytes maxL ret) {x z : Int64} (hd : decode bytes pc = .ok (.lmul, 1))  (hp : pc + 1 = pc') (nx : G p l e R s m args below meth c n0 P h k n (mkF m pc' Ls (.long (x * z) :: S))) : G p l e R s m args below meth c n0 P h k n (mkF m pc Ls (.long z :: .long x :: S)) := by
  subst hp; exact G.pl (fun T locs X eT t q => XS.lmul X.here C.1 rfl (hb C.2.2.1 hd) rfl q) nx
theorem G.iand (C : Cx p s m meth c Z y bytes maxL ret) {x z : Int32} (hd : decode bytes pc = .ok (.iand, 1))  (hp : pc + 1 = pc') (nx : G p l e R s m args below meth c n0 P h k n (mkF m pc' Ls (.int (x &&& z) :: S))) : G p l e R s m args below meth c n0 P h k n (mkF m pc Ls (.int z :: .int x :: S)) := by
  subst hp; exact G.pl (fun T locs X eT t q => XS.iand X.here C.1 rfl (hb C.2.2.1 hd) rfl q) nx
theorem G.land (C : Cx p s m meth c Z y bytes maxL ret) {x z : Int64} (hd : decode bytes pc = .ok (.land, 1))  (hp : pc + 1 = pc') (nx : G p l e R s m args below meth c n0 P h k n (mkF m pc' Ls (.long (x &&& z) :: S))) : G p l e R s m args below meth c n0 P h k n (mkF m pc Ls (.long z :: .long x :: S)) := by
  subst hp; exact G.pl (fun T locs X eT t q => XS.land X.here C.1 rfl (hb C.2.2.1 hd) rfl q) nx
theorem G.ior (C : Cx p s m meth c Z y bytes maxL ret) {x z : Int32} (hd : decode bytes pc = .ok (.ior, 1))  (hp : pc + 1 = pc') (nx : G p l e R s m args below meth c n0 P h k n (mkF m pc' Ls (.int (x ||| z) :: S))) : G p l e R s m args below meth c n0 P h k n (mkF m pc Ls (.int z :: .int x :: S)) := by
  subst hp; exact G.pl (fun T locs X eT t q => XS.ior X.here C.1 rfl (hb C.2.2.1 hd) rfl q) nx
theorem G.lor (C : Cx p s m meth c Z y bytes maxL ret) {x z : Int64} (hd : decode bytes pc = .ok (.lor, 1))  (hp : pc + 1 = pc') (nx : G p l e R s m args below meth c n0 P h k n (mkF m pc' Ls (.long (x ||| z) :: S))) : G p l e R s m args below meth c n0 P h k n (mkF m pc Ls (.long z :: .long x :: S)) := by
  subst hp; exact G.pl (fun T locs X eT t q => XS.lor X.here C.1 rfl (hb C.2.2.1 hd) rfl q) nx
theorem G.ixor (C : Cx p s m meth c Z y bytes maxL ret) {x z : Int32} (hd : decode bytes pc = .ok (.ixor, 1))  (hp : pc + 1 = pc') (nx : G p l e R s m args below meth c n0 P h k n (mkF m pc' Ls (.int (x ^^^ z) :: S))) : G p l e R s m args below meth c n0 P h k n (mkF m pc Ls (.int z :: .int x :: S)) := by
  subst hp; exact G.pl (fun T locs X eT t q => XS.ixor X.here C.1 rfl (hb C.2.2.1 hd) rfl q) nx
theorem G.lxor (C : Cx p s m meth c Z y bytes maxL ret) {x z : Int64} (hd : decode bytes pc = .ok (.lxor, 1))  (hp : pc + 1 = pc') (nx : G p l e R s m args below meth c n0 P h k n (mkF m pc' Ls (.long (x ^^^ z) :: S))) : G p l e R s m args below meth c n0 P h k n (mkF m pc Ls (.long z :: .long x :: S)) := by
  subst hp; exact G.pl (fun T locs X eT t q => XS.lxor X.here C.1 rfl (hb C.2.2.1 hd) rfl q) nx
theorem G.idiv (C : Cx p s m meth c Z y bytes maxL ret) {x z : Int32} (hd : decode bytes pc = .ok (.idiv, 1)) (hz : z ≠ 0) (hp : pc + 1 = pc') (nx : G p l e R s m args below meth c n0 P h k n (mkF m pc' Ls (.int (x / z) :: S))) : G p l e R s m args below meth c n0 P h k n (mkF m pc Ls (.int z :: .int x :: S)) := by
  subst hp; exact G.pl (fun T locs X eT t q => XS.idiv X.here C.1 rfl (hb C.2.2.1 hd) rfl hz q) nx
theorem G.irem (C : Cx p s m meth c Z y bytes maxL ret) {x z : Int32} (hd : decode bytes pc = .ok (.irem, 1)) (hz : z ≠ 0) (hp : pc + 1 = pc') (nx : G p l e R s m args below meth c n0 P h k n (mkF m pc' Ls (.int (x % z) :: S))) : G p l e R s m args below meth c n0 P h k n (mkF m pc Ls (.int z :: .int x :: S)) := by
  subst hp; exact G.pl (fun T locs X eT t q => iremM X C.1 rfl (hb C.2.2.1 hd) rfl hz q) nx
theorem G.ldiv (C : Cx p s m meth c Z y bytes maxL ret) {x z : Int64} (hd : decode bytes pc = .ok (.ldiv, 1)) (hz : z ≠ 0) (hp : pc + 1 = pc') (nx : G p l e R s m args below meth c n0 P h k n (mkF m pc' Ls (.long (x / z) :: S))) : G p l e R s m args below meth c n0 P h k n (mkF m pc Ls (.long z :: .long x :: S)) := by
  subst hp; exact G.pl (fun T locs X eT t q => XS.ldiv X.here C.1 rfl (hb C.2.2.1 hd) rfl hz q) nx
theorem G.lrem (C : Cx p s m meth c Z y bytes maxL ret) {x z : Int64} (hd : decode bytes pc = .ok (.lrem, 1)) (hz : z ≠ 0) (hp : pc + 1 = pc') (nx : G p l e R s m args below meth c n0 P h k n (mkF m pc' Ls (.long (x % z) :: S))) : G p l e R s m args below meth c n0 P h k n (mkF m pc Ls (.long z :: .long x :: S)) := by
  subst hp; exact G.pl (fun T locs X eT t q => XS.lrem X.here C.1 rfl (hb C.2.2.1 hd) rfl hz (by rw [lrem_mod]; exact q)) nx
theorem G.ineg (C : Cx p s m meth c Z y bytes maxL ret) {x : Int32} (hd : decode bytes pc = .ok (.ineg, 1))  (hp : pc + 1 = pc') (nx : G p l e R s m args below meth c n0 P h k n (mkF m pc' Ls (.int (-x) :: S))) : G p l e R s m args below meth c n0 P h k n (mkF m pc Ls (.int x :: S)) := by
  subst hp; exact G.pl (fun T locs X eT t q => XS.ineg X.here C.1 rfl (hb C.2.2.1 hd) rfl q) nx
theorem G.lneg (C : Cx p s m meth c Z y bytes maxL ret) {x : Int64} (hd : decode bytes pc = .ok (.lneg, 1))  (hp : pc + 1 = pc') (nx : G p l e R s m args below meth c n0 P h k n (mkF m pc' Ls (.long (-x) :: S))) : G p l e R s m args below meth c n0 P h k n (mkF m pc Ls (.long x :: S)) := by
  subst hp; exact G.pl (fun T locs X eT t q => XS.lneg X.here C.1 rfl (hb C.2.2.1 hd) rfl q) nx
theorem G.i2l (C : Cx p s m meth c Z y bytes maxL ret) {x : Int32} (hd : decode bytes pc = .ok (.i2l, 1))  (hp : pc + 1 = pc') (nx : G p l e R s m args below meth c n0 P h k n (mkF m pc' Ls (.long (x.toInt64) :: S))) : G p l e R s m args below meth c n0 P h k n (mkF m pc Ls (.int x :: S)) := by
  subst hp; exact G.pl (fun T locs X eT t q => XS.i2l X.here C.1 rfl (hb C.2.2.1 hd) rfl q) nx
theorem G.l2i (C : Cx p s m meth c Z y bytes maxL ret) {x : Int64} (hd : decode bytes pc = .ok (.l2i, 1))  (hp : pc + 1 = pc') (nx : G p l e R s m args below meth c n0 P h k n (mkF m pc' Ls (.int (x.toInt32) :: S))) : G p l e R s m args below meth c n0 P h k n (mkF m pc Ls (.long x :: S)) := by
  subst hp; exact G.pl (fun T locs X eT t q => XS.l2i X.here C.1 rfl (hb C.2.2.1 hd) rfl q) nx
theorem G.i2b (C : Cx p s m meth c Z y bytes maxL ret) {x : Int32} (hd : decode bytes pc = .ok (.i2b, 1))  (hp : pc + 1 = pc') (nx : G p l e R s m args below meth c n0 P h k n (mkF m pc' Ls (.int (x.toInt8.toInt32) :: S))) : G p l e R s m args below meth c n0 P h k n (mkF m pc Ls (.int x :: S)) := by
  subst hp; exact G.pl (fun T locs X eT t q => XS.i2b X.here C.1 rfl (hb C.2.2.1 hd) rfl q) nx
theorem G.i2c (C : Cx p s m meth c Z y bytes maxL ret) {x : Int32} (hd : decode bytes pc = .ok (.i2c, 1))  (hp : pc + 1 = pc') (nx : G p l e R s m args below meth c n0 P h k n (mkF m pc' Ls (.int (x.toUInt32.toUInt16.toUInt32.toInt32) :: S))) : G p l e R s m args below meth c n0 P h k n (mkF m pc Ls (.int x :: S)) := by
  subst hp; exact G.pl (fun T locs X eT t q => XS.i2c X.here C.1 rfl (hb C.2.2.1 hd) rfl q) nx
theorem G.i2s (C : Cx p s m meth c Z y bytes maxL ret) {x : Int32} (hd : decode bytes pc = .ok (.i2s, 1))  (hp : pc + 1 = pc') (nx : G p l e R s m args below meth c n0 P h k n (mkF m pc' Ls (.int (x.toInt16.toInt32) :: S))) : G p l e R s m args below meth c n0 P h k n (mkF m pc Ls (.int x :: S)) := by
  subst hp; exact G.pl (fun T locs X eT t q => XS.i2s X.here C.1 rfl (hb C.2.2.1 hd) rfl q) nx
theorem G.ishl (C : Cx p s m meth c Z y bytes maxL ret) {x z : Int32} (hd : decode bytes pc = .ok (.ishl, 1))  (hp : pc + 1 = pc') (nx : G p l e R s m args below meth c n0 P h k n (mkF m pc' Ls (.int (x <<< (z &&& 31)) :: S))) : G p l e R s m args below meth c n0 P h k n (mkF m pc Ls (.int z :: .int x :: S)) := by
  subst hp; exact G.pl (fun T locs X eT t q => XS.ishl X.here C.1 rfl (hb C.2.2.1 hd) rfl q) nx
theorem G.ishr (C : Cx p s m meth c Z y bytes maxL ret) {x z : Int32} (hd : decode bytes pc = .ok (.ishr, 1))  (hp : pc + 1 = pc') (nx : G p l e R s m args below meth c n0 P h k n (mkF m pc' Ls (.int (x >>> (z &&& 31)) :: S))) : G p l e R s m args below meth c n0 P h k n (mkF m pc Ls (.int z :: .int x :: S)) := by
  subst hp; exact G.pl (fun T locs X eT t q => XS.ishr X.here C.1 rfl (hb C.2.2.1 hd) rfl q) nx
theorem G.iushr (C : Cx p s m meth c Z y bytes maxL ret) {x z : Int32} (hd : decode bytes pc = .ok (.iushr, 1))  (hp : pc + 1 = pc') (nx : G p l e R s m args below meth c n0 P h k n (mkF m pc' Ls (.int ((x.toUInt32 >>> (z &&& 31).toUInt32).toInt32) :: S))) : G p l e R s m args below meth c n0 P h k n (mkF m pc Ls (.int z :: .int x :: S)) := by
  subst hp; exact G.pl (fun T locs X eT t q => XS.iushr X.here C.1 rfl (hb C.2.2.1 hd) rfl q) nx
theorem G.lshl (C : Cx p s m meth c Z y bytes maxL ret) {x : Int64} {z : Int32} (hd : decode bytes pc = .ok (.lshl, 1))  (hp : pc + 1 = pc') (nx : G p l e R s m args below meth c n0 P h k n (mkF m pc' Ls (.long (x <<< (z &&& 0x3f).toInt64) :: S))) : G p l e R s m args below meth c n0 P h k n (mkF m pc Ls (.int z :: .long x :: S)) := by
  subst hp; exact G.pl (fun T locs X eT t q => XS.lshl X.here C.1 rfl (hb C.2.2.1 hd) rfl q) nx
theorem G.lshr (C : Cx p s m meth c Z y bytes maxL ret) {x : Int64} {z : Int32} (hd : decode bytes pc = .ok (.lshr, 1))  (hp : pc + 1 = pc') (nx : G p l e R s m args below meth c n0 P h k n (mkF m pc' Ls (.long (x >>> (z &&& 0x3f).toInt64) :: S))) : G p l e R s m args below meth c n0 P h k n (mkF m pc Ls (.int z :: .long x :: S)) := by
  subst hp; exact G.pl (fun T locs X eT t q => XS.lshr X.here C.1 rfl (hb C.2.2.1 hd) rfl q) nx
theorem G.lushr (C : Cx p s m meth c Z y bytes maxL ret) {x : Int64} {z : Int32} (hd : decode bytes pc = .ok (.lushr, 1))  (hp : pc + 1 = pc') (nx : G p l e R s m args below meth c n0 P h k n (mkF m pc' Ls (.long ((x.toUInt64 >>> (z &&& 0x3f).toInt64.toUInt64).toInt64) :: S))) : G p l e R s m args below meth c n0 P h k n (mkF m pc Ls (.int z :: .long x :: S)) := by
  subst hp; exact G.pl (fun T locs X eT t q => XS.lushr X.here C.1 rfl (hb C.2.2.1 hd) rfl q) nx
theorem G.lcmp (C : Cx p s m meth c Z y bytes maxL ret) {x z : Int64} (hd : decode bytes pc = .ok (.lcmp, 1))  (hp : pc + 1 = pc') (nx : G p l e R s m args below meth c n0 P h k n (mkF m pc' Ls (.int (lcmpW x z) :: S))) : G p l e R s m args below meth c n0 P h k n (mkF m pc Ls (.long z :: .long x :: S)) := by
  subst hp; exact G.pl (fun T locs X eT t q => XS.lcmp X.here C.1 rfl (hb C.2.2.1 hd) rfl q) nx
theorem G.dup (C : Cx p s m meth c Z y bytes maxL ret) {v : Value} (hd : decode bytes pc = .ok (.dup, 1)) (hv : v.category = 1) (hp : pc + 1 = pc') (nx : G p l e R s m args below meth c n0 P h k n (mkF m pc' Ls (v :: v :: S))) : G p l e R s m args below meth c n0 P h k n (mkF m pc Ls (v :: S)) := by
  subst hp; exact G.pl (fun T locs X eT t q => XS.dup X.here C.1 rfl (hb C.2.2.1 hd) rfl hv q) nx
theorem G.pop (C : Cx p s m meth c Z y bytes maxL ret) {v : Value} (hd : decode bytes pc = .ok (.pop, 1)) (hv : v.category = 1) (hp : pc + 1 = pc') (nx : G p l e R s m args below meth c n0 P h k n (mkF m pc' Ls S)) : G p l e R s m args below meth c n0 P h k n (mkF m pc Ls (v :: S)) := by
  subst hp; exact G.pl (fun T locs X eT t q => XS.pop X.here C.1 rfl (hb C.2.2.1 hd) rfl hv q) nx
theorem G.dupX1 (C : Cx p s m meth c Z y bytes maxL ret) {v u : Value} (hd : decode bytes pc = .ok (.dup_x1, 1)) (hv : v.category = 1) (hu : u.category = 1) (hp : pc + 1 = pc') (nx : G p l e R s m args below meth c n0 P h k n (mkF m pc' Ls (v :: u :: v :: S))) : G p l e R s m args below meth c n0 P h k n (mkF m pc Ls (v :: u :: S)) := by
  subst hp; exact G.pl (fun T locs X eT t q => XS.dupX1 X.here C.1 rfl (hb C.2.2.1 hd) rfl hv hu q) nx
theorem G.iinc (C : Cx p s m meth c Z y bytes maxL ret) {j : Nat} {i : Int} {v z : Int32} {Ls' : Array Slot} (hd : decode bytes pc = .ok (.iinc j i, 3)) (hl : Ls[j]? = some (.val (.int v))) (hz : Int32.ofInt i = z) (hl' : storeLocals Ls j (.int (v + z)) = some Ls') (hp : pc + 3 = pc') (nx : G p l e R s m args below meth c n0 P h k n (mkF m pc' Ls' S)) : G p l e R s m args below meth c n0 P h k n (mkF m pc Ls S) := by
  subst hp hz; exact G.pl (fun T locs X eT t q => XS.iinc X.here C.1 rfl (hb C.2.2.1 hd) hl hl' q) nx
theorem G.goto (C : Cx p s m meth c Z y bytes maxL ret) {o : Int} (hd : decode bytes pc = .ok (.goto o, 3)) (ho : 0 ≤ (pc : Int) + o) (hp : ((pc : Int) + o).toNat = pc') (nx : G p l e R s m args below meth c n0 P h k n (mkF m pc' Ls S)) : G p l e R s m args below meth c n0 P h k n (mkF m pc Ls S) :=
  G.pl (fun T locs X eT t q => XS.goto X.here C.1 rfl (pc0 := pc) (pc' := pc') rfl (hb C.2.2.1 hd) ho hp q) nx
theorem G.ifc (C : Cx p s m meth c Z y bytes maxL ret) {cd : ClassFile.Cond} {o : Int} {x : Int32} (hd : decode bytes pc = .ok (.ifCond cd o, 3)) (ho : 0 ≤ (pc : Int) + o) (ht : ((pc : Int) + o).toNat = pt) (hp : pc + 3 = pc') (yes : if_icmp.holds cd x 0 = true → G p l e R s m args below meth c n0 P h k n (mkF m pt Ls S)) (no : if_icmp.holds cd x 0 = false → G p l e R s m args below meth c n0 P h k n (mkF m pc' Ls S)) : G p l e R s m args below meth c n0 P h k n (mkF m pc Ls (.int x :: S)) := by
  subst hp
  cases hc : if_icmp.holds cd x 0 with
  | true => exact G.pl (fun T locs X eT t q => XS.ifYes X.here C.1 rfl (pc0 := pc) (pc' := pt) rfl (hb C.2.2.1 hd) rfl ((if0 _ _).trans hc) ho ht q) (yes hc)
  | false => exact G.pl (fun T locs X eT t q => XS.ifNo X.here C.1 rfl (hb C.2.2.1 hd) rfl ((if0 _ _).trans hc) q) (no hc)
theorem G.icmp (C : Cx p s m meth c Z y bytes maxL ret) {cd : ClassFile.Cond} {o : Int} {x z : Int32} (hd : decode bytes pc = .ok (.if_icmp cd o, 3)) (ho : 0 ≤ (pc : Int) + o) (ht : ((pc : Int) + o).toNat = pt) (hp : pc + 3 = pc') (yes : if_icmp.holds cd x z = true → G p l e R s m args below meth c n0 P h k n (mkF m pt Ls S)) (no : if_icmp.holds cd x z = false → G p l e R s m args below meth c n0 P h k n (mkF m pc' Ls S)) : G p l e R s m args below meth c n0 P h k n (mkF m pc Ls (.int z :: .int x :: S)) := by
  subst hp
  cases hc : if_icmp.holds cd x z with
  | true => exact G.pl (fun T locs X eT t q => XS.icmpYes X.here C.1 rfl (pc0 := pc) (pc' := pt) rfl (hb C.2.2.1 hd) rfl hc ho ht q) (yes hc)
  | false => exact G.pl (fun T locs X eT t q => XS.icmpNo X.here C.1 rfl (hb C.2.2.1 hd) rfl hc q) (no hc)
theorem G.ifeq (C : Cx p s m meth c Z y bytes maxL ret) {o : Int} {x : Int32} (hd : decode bytes pc = .ok (.ifCond .eq o, 3)) (ho : 0 ≤ (pc : Int) + o) (ht : ((pc : Int) + o).toNat = pt) (hp : pc + 3 = pc') (yes : x = 0 → G p l e R s m args below meth c n0 P h k n (mkF m pt Ls S)) (no : ¬ (x = 0) → G p l e R s m args below meth c n0 P h k n (mkF m pc' Ls S)) : G p l e R s m args below meth c n0 P h k n (mkF m pc Ls (.int x :: S)) :=
  G.ifc C hd ho ht hp (fun q => yes (by simpa [if_icmp.holds] using q)) (fun q => no (by simpa [if_icmp.holds] using q))
theorem G.iceq (C : Cx p s m meth c Z y bytes maxL ret) {o : Int} {x z : Int32} (hd : decode bytes pc = .ok (.if_icmp .eq o, 3)) (ho : 0 ≤ (pc : Int) + o) (ht : ((pc : Int) + o).toNat = pt) (hp : pc + 3 = pc') (yes : x = z → G p l e R s m args below meth c n0 P h k n (mkF m pt Ls S)) (no : ¬ (x = z) → G p l e R s m args below meth c n0 P h k n (mkF m pc' Ls S)) : G p l e R s m args below meth c n0 P h k n (mkF m pc Ls (.int z :: .int x :: S)) :=
  G.icmp C hd ho ht hp (fun q => yes (by simpa [if_icmp.holds] using q)) (fun q => no (by simpa [if_icmp.holds] using q))
theorem G.lfeq (C : Cx p s m meth c Z y bytes maxL ret) {o : Int} {x z : Int64} (hd : decode bytes pc = .ok (.ifCond .eq o, 3)) (ho : 0 ≤ (pc : Int) + o) (ht : ((pc : Int) + o).toNat = pt) (hp : pc + 3 = pc') (yes : x = z → G p l e R s m args below meth c n0 P h k n (mkF m pt Ls S)) (no : ¬ (x = z) → G p l e R s m args below meth c n0 P h k n (mkF m pc' Ls S)) : G p l e R s m args below meth c n0 P h k n (mkF m pc Ls (.int (lcmpW x z) :: S)) :=
  G.ifeq C hd ho ht hp (fun q => yes ((lw_eq x z).mp q)) (fun q => no (fun r => q ((lw_eq x z).mpr r)))
theorem G.ifne (C : Cx p s m meth c Z y bytes maxL ret) {o : Int} {x : Int32} (hd : decode bytes pc = .ok (.ifCond .ne o, 3)) (ho : 0 ≤ (pc : Int) + o) (ht : ((pc : Int) + o).toNat = pt) (hp : pc + 3 = pc') (yes : ¬ (x = 0) → G p l e R s m args below meth c n0 P h k n (mkF m pt Ls S)) (no : x = 0 → G p l e R s m args below meth c n0 P h k n (mkF m pc' Ls S)) : G p l e R s m args below meth c n0 P h k n (mkF m pc Ls (.int x :: S)) :=
  G.ifc C hd ho ht hp (fun q => yes (by simpa [if_icmp.holds] using q)) (fun q => no (by simpa [if_icmp.holds] using q))
theorem G.icne (C : Cx p s m meth c Z y bytes maxL ret) {o : Int} {x z : Int32} (hd : decode bytes pc = .ok (.if_icmp .ne o, 3)) (ho : 0 ≤ (pc : Int) + o) (ht : ((pc : Int) + o).toNat = pt) (hp : pc + 3 = pc') (yes : ¬ (x = z) → G p l e R s m args below meth c n0 P h k n (mkF m pt Ls S)) (no : x = z → G p l e R s m args below meth c n0 P h k n (mkF m pc' Ls S)) : G p l e R s m args below meth c n0 P h k n (mkF m pc Ls (.int z :: .int x :: S)) :=
  G.icmp C hd ho ht hp (fun q => yes (by simpa [if_icmp.holds] using q)) (fun q => no (by simpa [if_icmp.holds] using q))
theorem G.lfne (C : Cx p s m meth c Z y bytes maxL ret) {o : Int} {x z : Int64} (hd : decode bytes pc = .ok (.ifCond .ne o, 3)) (ho : 0 ≤ (pc : Int) + o) (ht : ((pc : Int) + o).toNat = pt) (hp : pc + 3 = pc') (yes : ¬ (x = z) → G p l e R s m args below meth c n0 P h k n (mkF m pt Ls S)) (no : x = z → G p l e R s m args below meth c n0 P h k n (mkF m pc' Ls S)) : G p l e R s m args below meth c n0 P h k n (mkF m pc Ls (.int (lcmpW x z) :: S)) :=
  G.ifne C hd ho ht hp (fun q => yes (fun r => q ((lw_eq x z).mpr r))) (fun q => no ((lw_eq x z).mp q))
theorem G.iflt (C : Cx p s m meth c Z y bytes maxL ret) {o : Int} {x : Int32} (hd : decode bytes pc = .ok (.ifCond .lt o, 3)) (ho : 0 ≤ (pc : Int) + o) (ht : ((pc : Int) + o).toNat = pt) (hp : pc + 3 = pc') (yes : x < 0 → G p l e R s m args below meth c n0 P h k n (mkF m pt Ls S)) (no : ¬ (x < 0) → G p l e R s m args below meth c n0 P h k n (mkF m pc' Ls S)) : G p l e R s m args below meth c n0 P h k n (mkF m pc Ls (.int x :: S)) :=
  G.ifc C hd ho ht hp (fun q => yes (by simpa [if_icmp.holds] using q)) (fun q => no (by simpa [if_icmp.holds] using q))
theorem G.iclt (C : Cx p s m meth c Z y bytes maxL ret) {o : Int} {x z : Int32} (hd : decode bytes pc = .ok (.if_icmp .lt o, 3)) (ho : 0 ≤ (pc : Int) + o) (ht : ((pc : Int) + o).toNat = pt) (hp : pc + 3 = pc') (yes : x < z → G p l e R s m args below meth c n0 P h k n (mkF m pt Ls S)) (no : ¬ (x < z) → G p l e R s m args below meth c n0 P h k n (mkF m pc' Ls S)) : G p l e R s m args below meth c n0 P h k n (mkF m pc Ls (.int z :: .int x :: S)) :=
  G.icmp C hd ho ht hp (fun q => yes (by simpa [if_icmp.holds] using q)) (fun q => no (by simpa [if_icmp.holds] using q))
theorem G.lflt (C : Cx p s m meth c Z y bytes maxL ret) {o : Int} {x z : Int64} (hd : decode bytes pc = .ok (.ifCond .lt o, 3)) (ho : 0 ≤ (pc : Int) + o) (ht : ((pc : Int) + o).toNat = pt) (hp : pc + 3 = pc') (yes : x < z → G p l e R s m args below meth c n0 P h k n (mkF m pt Ls S)) (no : ¬ (x < z) → G p l e R s m args below meth c n0 P h k n (mkF m pc' Ls S)) : G p l e R s m args below meth c n0 P h k n (mkF m pc Ls (.int (lcmpW x z) :: S)) :=
  G.iflt C hd ho ht hp (fun q => yes ((lw_lt x z).mp q)) (fun q => no (fun r => q ((lw_lt x z).mpr r)))
theorem G.ifge (C : Cx p s m meth c Z y bytes maxL ret) {o : Int} {x : Int32} (hd : decode bytes pc = .ok (.ifCond .ge o, 3)) (ho : 0 ≤ (pc : Int) + o) (ht : ((pc : Int) + o).toNat = pt) (hp : pc + 3 = pc') (yes : ¬ (x < 0) → G p l e R s m args below meth c n0 P h k n (mkF m pt Ls S)) (no : x < 0 → G p l e R s m args below meth c n0 P h k n (mkF m pc' Ls S)) : G p l e R s m args below meth c n0 P h k n (mkF m pc Ls (.int x :: S)) :=
  G.ifc C hd ho ht hp (fun q => yes (by simpa [if_icmp.holds] using q)) (fun q => no (by simpa [if_icmp.holds] using q))
theorem G.icge (C : Cx p s m meth c Z y bytes maxL ret) {o : Int} {x z : Int32} (hd : decode bytes pc = .ok (.if_icmp .ge o, 3)) (ho : 0 ≤ (pc : Int) + o) (ht : ((pc : Int) + o).toNat = pt) (hp : pc + 3 = pc') (yes : ¬ (x < z) → G p l e R s m args below meth c n0 P h k n (mkF m pt Ls S)) (no : x < z → G p l e R s m args below meth c n0 P h k n (mkF m pc' Ls S)) : G p l e R s m args below meth c n0 P h k n (mkF m pc Ls (.int z :: .int x :: S)) :=
  G.icmp C hd ho ht hp (fun q => yes (by simpa [if_icmp.holds] using q)) (fun q => no (by simpa [if_icmp.holds] using q))
theorem G.lfge (C : Cx p s m meth c Z y bytes maxL ret) {o : Int} {x z : Int64} (hd : decode bytes pc = .ok (.ifCond .ge o, 3)) (ho : 0 ≤ (pc : Int) + o) (ht : ((pc : Int) + o).toNat = pt) (hp : pc + 3 = pc') (yes : ¬ (x < z) → G p l e R s m args below meth c n0 P h k n (mkF m pt Ls S)) (no : x < z → G p l e R s m args below meth c n0 P h k n (mkF m pc' Ls S)) : G p l e R s m args below meth c n0 P h k n (mkF m pc Ls (.int (lcmpW x z) :: S)) :=
  G.ifge C hd ho ht hp (fun q => yes (fun r => q ((lw_lt x z).mpr r))) (fun q => no ((lw_lt x z).mp q))
theorem G.ifgt (C : Cx p s m meth c Z y bytes maxL ret) {o : Int} {x : Int32} (hd : decode bytes pc = .ok (.ifCond .gt o, 3)) (ho : 0 ≤ (pc : Int) + o) (ht : ((pc : Int) + o).toNat = pt) (hp : pc + 3 = pc') (yes : 0 < x → G p l e R s m args below meth c n0 P h k n (mkF m pt Ls S)) (no : ¬ (0 < x) → G p l e R s m args below meth c n0 P h k n (mkF m pc' Ls S)) : G p l e R s m args below meth c n0 P h k n (mkF m pc Ls (.int x :: S)) :=
  G.ifc C hd ho ht hp (fun q => yes (by simpa [if_icmp.holds] using q)) (fun q => no (by simpa [if_icmp.holds] using q))
theorem G.icgt (C : Cx p s m meth c Z y bytes maxL ret) {o : Int} {x z : Int32} (hd : decode bytes pc = .ok (.if_icmp .gt o, 3)) (ho : 0 ≤ (pc : Int) + o) (ht : ((pc : Int) + o).toNat = pt) (hp : pc + 3 = pc') (yes : z < x → G p l e R s m args below meth c n0 P h k n (mkF m pt Ls S)) (no : ¬ (z < x) → G p l e R s m args below meth c n0 P h k n (mkF m pc' Ls S)) : G p l e R s m args below meth c n0 P h k n (mkF m pc Ls (.int z :: .int x :: S)) :=
  G.icmp C hd ho ht hp (fun q => yes (by simpa [if_icmp.holds] using q)) (fun q => no (by simpa [if_icmp.holds] using q))
theorem G.lfgt (C : Cx p s m meth c Z y bytes maxL ret) {o : Int} {x z : Int64} (hd : decode bytes pc = .ok (.ifCond .gt o, 3)) (ho : 0 ≤ (pc : Int) + o) (ht : ((pc : Int) + o).toNat = pt) (hp : pc + 3 = pc') (yes : z < x → G p l e R s m args below meth c n0 P h k n (mkF m pt Ls S)) (no : ¬ (z < x) → G p l e R s m args below meth c n0 P h k n (mkF m pc' Ls S)) : G p l e R s m args below meth c n0 P h k n (mkF m pc Ls (.int (lcmpW x z) :: S)) :=
  G.ifgt C hd ho ht hp (fun q => yes ((lw_gt x z).mp q)) (fun q => no (fun r => q ((lw_gt x z).mpr r)))
theorem G.ifle (C : Cx p s m meth c Z y bytes maxL ret) {o : Int} {x : Int32} (hd : decode bytes pc = .ok (.ifCond .le o, 3)) (ho : 0 ≤ (pc : Int) + o) (ht : ((pc : Int) + o).toNat = pt) (hp : pc + 3 = pc') (yes : ¬ (0 < x) → G p l e R s m args below meth c n0 P h k n (mkF m pt Ls S)) (no : 0 < x → G p l e R s m args below meth c n0 P h k n (mkF m pc' Ls S)) : G p l e R s m args below meth c n0 P h k n (mkF m pc Ls (.int x :: S)) :=
  G.ifc C hd ho ht hp (fun q => yes (by simpa [if_icmp.holds] using q)) (fun q => no (by simpa [if_icmp.holds] using q))
theorem G.icle (C : Cx p s m meth c Z y bytes maxL ret) {o : Int} {x z : Int32} (hd : decode bytes pc = .ok (.if_icmp .le o, 3)) (ho : 0 ≤ (pc : Int) + o) (ht : ((pc : Int) + o).toNat = pt) (hp : pc + 3 = pc') (yes : ¬ (z < x) → G p l e R s m args below meth c n0 P h k n (mkF m pt Ls S)) (no : z < x → G p l e R s m args below meth c n0 P h k n (mkF m pc' Ls S)) : G p l e R s m args below meth c n0 P h k n (mkF m pc Ls (.int z :: .int x :: S)) :=
  G.icmp C hd ho ht hp (fun q => yes (by simpa [if_icmp.holds] using q)) (fun q => no (by simpa [if_icmp.holds] using q))
theorem G.lfle (C : Cx p s m meth c Z y bytes maxL ret) {o : Int} {x z : Int64} (hd : decode bytes pc = .ok (.ifCond .le o, 3)) (ho : 0 ≤ (pc : Int) + o) (ht : ((pc : Int) + o).toNat = pt) (hp : pc + 3 = pc') (yes : ¬ (z < x) → G p l e R s m args below meth c n0 P h k n (mkF m pt Ls S)) (no : z < x → G p l e R s m args below meth c n0 P h k n (mkF m pc' Ls S)) : G p l e R s m args below meth c n0 P h k n (mkF m pc Ls (.int (lcmpW x z) :: S)) :=
  G.ifle C hd ho ht hp (fun q => yes (fun r => q ((lw_gt x z).mpr r))) (fun q => no ((lw_gt x z).mp q))
/-- a Bool as the machine's int -/
def bi (b : Bool) : Int32 := if b then 1 else 0
theorem bi_t : bi true = 1 := rfl
theorem bi_f : bi false = 0 := rfl
theorem bi_inj {a b : Bool} : bi a = bi b ↔ a = b := by cases a <;> cases b <;> decide
theorem bi_zero {b : Bool} : bi b = 0 ↔ b = false := by cases b <;> decide
theorem bi_one {b : Bool} : bi b = 1 ↔ b = true := by cases b <;> decide
theorem bi_fit (b : Bool) : fits .boolean (.int (bi b)) = true := by cases b <;> rfl
theorem bi_nar (b : Bool) : narrow .boolean (.int (bi b)) = .int (bi b) := by cases b <;> rfl
theorem G.bfeq (C : Cx p s m meth c Z y bytes maxL ret) {o : Int} {b : Bool} (hd : decode bytes pc = .ok (.ifCond .eq o, 3)) (ho : 0 ≤ (pc : Int) + o) (ht : ((pc : Int) + o).toNat = pt) (hp : pc + 3 = pc') (yes : b = false → G p l e R s m args below meth c n0 P h k n (mkF m pt Ls S)) (no : b = true → G p l e R s m args below meth c n0 P h k n (mkF m pc' Ls S)) : G p l e R s m args below meth c n0 P h k n (mkF m pc Ls (.int (bi b) :: S)) :=
  G.ifeq C hd ho ht hp (fun q => yes (bi_zero.mp q)) (fun q => no (by cases b; exact absurd rfl q; rfl))
theorem G.bfne (C : Cx p s m meth c Z y bytes maxL ret) {o : Int} {b : Bool} (hd : decode bytes pc = .ok (.ifCond .ne o, 3)) (ho : 0 ≤ (pc : Int) + o) (ht : ((pc : Int) + o).toNat = pt) (hp : pc + 3 = pc') (yes : b = true → G p l e R s m args below meth c n0 P h k n (mkF m pt Ls S)) (no : b = false → G p l e R s m args below meth c n0 P h k n (mkF m pc' Ls S)) : G p l e R s m args below meth c n0 P h k n (mkF m pc Ls (.int (bi b) :: S)) :=
  G.ifne C hd ho ht hp (fun q => yes (by cases b; exact absurd rfl q; rfl)) (fun q => no (bi_zero.mp q))
theorem G.out {v : Option Value} (C : Cx p s m meth c Z y bytes maxL ret) (hv : ret = none → v = none) (hq : Q v h) (hk : k ≤ R.cells) (hn : n ≤ R.slots)
    (st : ∀ T locs fs, Stand p l e R s m args below meth c T locs k n → (∀ (f : JFrame) (acts : List Action), f.method = m → f.locked = none → f.entered = [] → (doReturn e (T.setTop f) acts v).1 = T.setFrames fs) → Steps p.tables e below (T.setTop f) (T.setFrames fs)) : G p l e R s m args below meth c n0 (Wst s R n0 Q) h k n f := fun T locs X eT N => by
  have hlk : meth.locks = false := C.2.2.2.2.2.2.2
  obtain ⟨fs, hr, hrun, hended, hW, hsame⟩ := X.leave (v := v) (fun q => hv (C.2.2.2.2.2.2.1.symm.trans q)) hlk
  exact ⟨_, _, st T locs fs X hr, hrun, hended, eT ▸ hq, locs, N, ⟨_, rfl⟩, hW, hsame.mono hk hn⟩
theorem G.retI (C : Cx p s m meth c Z y bytes maxL (some .int)) {z : Int32} (hd : decode bytes pc = .ok (.ireturn, 1)) (hk : k ≤ R.cells) (hn : n ≤ R.slots) (hq : Q (some (.int z)) h) : G p l e R s m args below meth c n0 (Wst s R n0 Q) h k n (mkF m pc Ls (.int z :: S)) :=
  G.out C (fun q => by cases q) hq hk hn fun T locs fs X hr => retOut X C.1 C.2.2.2.2.2.2.1 rfl (Or.inl ⟨rfl, Or.inl rfl, z, rfl⟩) (hb C.2.2.1 hd) hr
theorem G.retZ (C : Cx p s m meth c Z y bytes maxL (some .boolean)) {z : Int32} (hd : decode bytes pc = .ok (.ireturn, 1)) (hk : k ≤ R.cells) (hn : n ≤ R.slots) (hz : narrow .boolean (.int z) = .int z) (hq : Q (some (.int z)) h) : G p l e R s m args below meth c n0 (Wst s R n0 Q) h k n (mkF m pc Ls (.int z :: S)) :=
  G.out C (fun q => by cases q) hq hk hn fun T locs fs X hr => retOut X C.1 C.2.2.2.2.2.2.1 hz (Or.inl ⟨rfl, Or.inr (Or.inl rfl), z, rfl⟩) (hb C.2.2.1 hd) hr
theorem G.retB (C : Cx p s m meth c Z y bytes maxL (some .byte)) {z : Int32} (hd : decode bytes pc = .ok (.ireturn, 1)) (hk : k ≤ R.cells) (hn : n ≤ R.slots) (hz : narrow .byte (.int z) = .int z) (hq : Q (some (.int z)) h) : G p l e R s m args below meth c n0 (Wst s R n0 Q) h k n (mkF m pc Ls (.int z :: S)) :=
  G.out C (fun q => by cases q) hq hk hn fun T locs fs X hr => retOut X C.1 C.2.2.2.2.2.2.1 hz (Or.inl ⟨rfl, Or.inr (Or.inr (Or.inl rfl)), z, rfl⟩) (hb C.2.2.1 hd) hr
theorem G.retC (C : Cx p s m meth c Z y bytes maxL (some .char)) {z : Int32} (hd : decode bytes pc = .ok (.ireturn, 1)) (hk : k ≤ R.cells) (hn : n ≤ R.slots) (hz : narrow .char (.int z) = .int z) (hq : Q (some (.int z)) h) : G p l e R s m args below meth c n0 (Wst s R n0 Q) h k n (mkF m pc Ls (.int z :: S)) :=
  G.out C (fun q => by cases q) hq hk hn fun T locs fs X hr => retOut X C.1 C.2.2.2.2.2.2.1 hz (Or.inl ⟨rfl, Or.inr (Or.inr (Or.inr (Or.inl rfl))), z, rfl⟩) (hb C.2.2.1 hd) hr
theorem G.retL (C : Cx p s m meth c Z y bytes maxL (some .long)) {z : Int64} (hd : decode bytes pc = .ok (.lreturn, 1)) (hk : k ≤ R.cells) (hn : n ≤ R.slots) (hq : Q (some (.long z)) h) : G p l e R s m args below meth c n0 (Wst s R n0 Q) h k n (mkF m pc Ls (.long z :: S)) :=
  G.out C (fun q => by cases q) hq hk hn fun T locs fs X hr => retOut X C.1 C.2.2.2.2.2.2.1 rfl (Or.inr (Or.inl ⟨rfl, rfl, z, rfl⟩)) (hb C.2.2.1 hd) hr
theorem G.retA {t : FieldType} (C : Cx p s m meth c Z y bytes maxL (some t)) {v : Value} (ht : t.isReference = true) (hv : v.isRef = true) (hd : decode bytes pc = .ok (.areturn, 1)) (hk : k ≤ R.cells) (hn : n ≤ R.slots) (hz : narrow t v = v) (hq : Q (some v) h) : G p l e R s m args below meth c n0 (Wst s R n0 Q) h k n (mkF m pc Ls (v :: S)) :=
  G.out C (fun q => by cases q) hq hk hn fun T locs fs X hr => retOut X C.1 C.2.2.2.2.2.2.1 hz (Or.inr (Or.inr (Or.inr (Or.inr ⟨rfl, ht, hv⟩)))) (hb C.2.2.1 hd) hr
theorem G.retV (C : Cx p s m meth c Z y bytes maxL none) (hd : decode bytes pc = .ok (.return_, 1)) (hk : k ≤ R.cells) (hn : n ≤ R.slots) (hq : Q none h) : G p l e R s m args below meth c n0 (Wst s R n0 Q) h k n (mkF m pc Ls []) :=
  G.out C (fun _ => rfl) hq hk hn fun T locs fs X hr => X.returnOut C.1 C.2.2.2.2.2.2.1 (hb C.2.2.1 hd) hr
theorem cat_sum {S : List Value} {W : Nat} (h : (S.map fun v => v.category).sum ≤ W) : 2 * 0 + (S.map fun v => v.category).sum ≤ W := by omega
theorem G.callS (C : Cx p s m meth c Z y bytes maxL ret) {z : MethodName} {zb : ByteArray} {zl : Nat} {zr : Option FieldType} {Rz : Room} {av : List Value} {Qz : Option Value → Heap → Prop} {ix W : Nat} {ps : List FieldType} {r : Option FieldType} {St : List Value}
    (w1 : (Jvm.Cond.methodLink y.cls ix z).before a0 Z = true) (w2 : (Jvm.Cond.static z).before a0 Z = true) (w3 : (Jvm.Cond.initialized z.cls).before a0 Z = true) (w4 : (Jvm.Cond.code z zb zl zr).before a0 Z = true)
    (hz : z.cls ≠ "java/lang/invoke/MethodHandle" ∧ z.cls ≠ "java/lang/invoke/VarHandle") (K : Con l Z z zb zl zr Rz av.toArray h n0 Qz) (hps : parseMethodDescriptor z.desc = some ⟨ps, r⟩) (hlen : av.length = ps.length) (hls : Ls.size = maxL)
    (hd : decode bytes pc = .ok (.invokestatic ix, 3)) (hst : St = av.reverse ++ S) (hW : (S.map fun v => v.category).sum ≤ W) (hf : Rz.frames + 1 ≤ R.frames) (hl : W + (zl + 11) + Rz.locals ≤ R.locals) (hk : k + Rz.cells ≤ R.cells) (hn : n + Rz.slots ≤ R.slots) (hp : pc + 3 = pc')
    (nx : ∀ v h', Qz v h' → G p l e R s m args below meth c n0 P h' (k + Rz.cells) (n + Rz.slots) (mkF m pc' Ls (v.toList ++ S))) : G p l e R s m args below meth c n0 P h k n (mkF m pc Ls St) := fun T locs X eT N => by
  subst hp hst
  obtain ⟨v, _, ⟨T', L', k', n'⟩, -, X', ⟨Lc, hQ, l1, l2, l3⟩, st⟩ := Jvm.LawKit.callS X C.1 (y := z) C.2.2.2.2.1 (mvT C.2.1 w1) (mvT C.2.1 w2) (mvT C.2.1 w3) (mvT C.2.1 w4) hz (backOf (Q := fun v z L => Qz v z ∧ Fr n0 L) (W := W) (K []) C.2.1 w4 w3 hf hl) (g := mkF m pc Ls (av.reverse ++ S)) rfl (by rw [C.2.2.2.1]; exact hls) (argsL := av) (rest := S) (lenOf hps hlen) rfl (cat_sum hW) (hb C.2.2.1 hd) (fun _ _ => ⟨rfl, eT, hk, hn⟩)
  dsimp only [Pt.U, Pt.locs, Pt.cells, Pt.slots] at X' l1 l2 l3 st hQ
  subst l1 l2 l3
  obtain ⟨s₂, o, h1, rr⟩ := nx v T'.heap hQ.1 T' _ X' rfl (Fr.app N hQ.2)
  exact ⟨s₂, o, st _ h1, rr⟩
theorem G.callI (C : Cx p s m meth c Z y bytes maxL ret) {z : MethodName} {zb : ByteArray} {zl : Nat} {Rz : Room} {a : Addr} {av : List Value} {Qz : Option Value → Heap → Prop} {ix W : Nat} {ps : List FieldType} {r : Option FieldType} {St : List Value} (hz1 : z.name = "<init>")
    (w1 : (Jvm.Cond.methodLink y.cls ix z).before a0 Z = true) (w2 : (Jvm.Cond.instanceMethod z).before a0 Z = true) (w3 : (Jvm.Cond.initialized z.cls).before a0 Z = true) (w4 : (Jvm.Cond.code z zb zl none).before a0 Z = true)
    (hz : z.cls ≠ "java/lang/invoke/MethodHandle" ∧ z.cls ≠ "java/lang/invoke/VarHandle") (K : Con l Z z zb zl none Rz (.ref a :: av).toArray h n0 Qz) (hps : parseMethodDescriptor z.desc = some ⟨ps, r⟩) (hlen : av.length = ps.length) (hls : Ls.size = maxL)
    (hd : decode bytes pc = .ok (.invokespecial ix, 3)) (hst : St = av.reverse ++ .ref a :: S) (hW : (S.map fun v => v.category).sum ≤ W) (hf : Rz.frames + 1 ≤ R.frames) (hl : W + (zl + 11) + Rz.locals ≤ R.locals) (hk : k + Rz.cells ≤ R.cells) (hn : n + Rz.slots ≤ R.slots) (hp : pc + 3 = pc')
    (nx : ∀ v h', Qz v h' → G p l e R s m args below meth c n0 P h' (k + Rz.cells) (n + Rz.slots) (mkF m pc' Ls (v.toList ++ S))) : G p l e R s m args below meth c n0 P h k n (mkF m pc Ls St) := fun T locs X eT N => by
  subst hp hst
  obtain ⟨v, _, ⟨T', L', k', n'⟩, -, X', ⟨Lc, hQ, l1, l2, l3⟩, st⟩ := X.specialBack C.1 (y := z) hz1 C.2.2.2.2.1 (mvT C.2.1 w1) (mvT C.2.1 w2) (mvT C.2.1 w4) hz (backOf (Q := fun v z L => Qz v z ∧ Fr n0 L) (W := W) (K []) C.2.1 w4 w3 hf hl) (g := mkF m pc Ls (av.reverse ++ .ref a :: S)) rfl (by rw [C.2.2.2.1]; exact hls) (Steps.refl _) (a := a) (argsL := av) (rest := S) (lenOf hps hlen) rfl (cat_sum hW) (hb C.2.2.1 hd) (fun _ _ => ⟨rfl, eT, hk, hn⟩)
  dsimp only [Pt.U, Pt.locs, Pt.cells, Pt.slots] at X' l1 l2 l3 st hQ
  subst l1 l2 l3
  obtain ⟨s₂, o, h1, rr⟩ := nx v T'.heap hQ.1 T' _ X' rfl (Fr.app N hQ.2)
  exact ⟨s₂, o, st.trans h1, rr⟩
theorem G.callV (C : Cx p s m meth c Z y bytes maxL ret) {z : MethodName} {zb : ByteArray} {zl : Nat} {zr : Option FieldType} {Rz : Room} {a : Addr} {av : List Value} {Qz : Option Value → Heap → Prop} {ix W : Nat} {ps : List FieldType} {r : Option FieldType} {St : List Value} {D : String}
    (w1 : (Jvm.Cond.methodLink y.cls ix z).before a0 Z = true) (w2 : (Jvm.Cond.instanceMethod z).before a0 Z = true) (w3 : (Jvm.Cond.initialized z.cls).before a0 Z = true) (w4 : (Jvm.Cond.code z zb zl zr).before a0 Z = true) (w5 : (Jvm.Cond.declares z).before a0 Z = true) (w6 : (Jvm.Cond.selects D z z).before a0 Z = true) (E : Exa Z h a D)
    (hz : z.cls ≠ "java/lang/invoke/MethodHandle" ∧ z.cls ≠ "java/lang/invoke/VarHandle") (K : Con l Z z zb zl zr Rz (.ref a :: av).toArray h n0 Qz) (hps : parseMethodDescriptor z.desc = some ⟨ps, r⟩) (hlen : av.length = ps.length) (hls : Ls.size = maxL)
    (hd : decode bytes pc = .ok (.invokevirtual ix, 3)) (hst : St = av.reverse ++ .ref a :: S) (hW : (S.map fun v => v.category).sum ≤ W) (hf : Rz.frames + 1 ≤ R.frames) (hl : W + (zl + 11) + Rz.locals ≤ R.locals) (hk : k + Rz.cells ≤ R.cells) (hn : n + Rz.slots ≤ R.slots) (hp : pc + 3 = pc')
    (nx : ∀ v h', Qz v h' → G p l e R s m args below meth c n0 P h' (k + Rz.cells) (n + Rz.slots) (mkF m pc' Ls (v.toList ++ S))) : G p l e R s m args below meth c n0 P h k n (mkF m pc Ls St) := fun T locs X eT N => by
  subst hp hst
  obtain ⟨cq, kq, qa, qb, qc⟩ := isOf C.2.1 eT E
  obtain ⟨v, _, ⟨T', L', k', n'⟩, -, X', ⟨Lc, hQ, l1, l2, l3⟩, st⟩ := X.virtualBack C.1 (y := z) (z := z) C.2.2.2.2.1 (mvT C.2.1 w1) (mvT C.2.1 w5) (notFace_of_selects (args := #[]) (mvT C.2.1 w6)) (mvT C.2.1 w6) (mvT C.2.1 w2) hz (backOf (Q := fun v z L => Qz v z ∧ Fr n0 L) (W := W) (K []) C.2.1 w4 w3 hf hl) qa qc (g := mkF m pc Ls (av.reverse ++ .ref a :: S)) rfl (by rw [C.2.2.2.1]; exact hls) (Steps.refl _) (argsL := av) (rest := S) (lenOf hps hlen) rfl (cat_sum hW) (hb C.2.2.1 hd) (fun _ _ => ⟨rfl, eT, hk, hn⟩)
  dsimp only [Pt.U, Pt.locs, Pt.cells, Pt.slots] at X' l1 l2 l3 st hQ
  subst l1 l2 l3
  obtain ⟨s₂, o, h1, rr⟩ := nx v T'.heap hQ.1 T' _ X' rfl (Fr.app N hQ.2)
  exact ⟨s₂, o, st.trans h1, rr⟩
def Pn (h : Heap) : Option Value → Heap → Prop := fun v h' => v = none ∧ h' = h
/-- a value is handed back, the heap as it was -/
def Pv (u : Value) (h : Heap) : Option Value → Heap → Prop := fun v h' => v = some u ∧ h' = h
theorem G.callSP (C : Cx p s m meth c Z y bytes maxL ret) {z : MethodName} {zb : ByteArray} {zl : Nat} {zr : Option FieldType} {Rz : Room} {av : List Value} {u : Value} {ix W : Nat} {ps : List FieldType} {r : Option FieldType} {St : List Value}
    (w1 : (Jvm.Cond.methodLink y.cls ix z).before a0 Z = true) (w2 : (Jvm.Cond.static z).before a0 Z = true) (w3 : (Jvm.Cond.initialized z.cls).before a0 Z = true) (w4 : (Jvm.Cond.code z zb zl zr).before a0 Z = true)
    (hz : z.cls ≠ "java/lang/invoke/MethodHandle" ∧ z.cls ≠ "java/lang/invoke/VarHandle") (K : Con l Z z zb zl zr Rz av.toArray h n0 (Pv u h)) (hps : parseMethodDescriptor z.desc = some ⟨ps, r⟩) (hlen : av.length = ps.length) (hls : Ls.size = maxL)
    (hd : decode bytes pc = .ok (.invokestatic ix, 3)) (hst : St = av.reverse ++ S) (hW : (S.map fun v => v.category).sum ≤ W) (hf : Rz.frames + 1 ≤ R.frames) (hl : W + (zl + 11) + Rz.locals ≤ R.locals) (h0 : Rz.cells = 0) (h1 : Rz.slots = 0) (hk : k ≤ R.cells) (hn : n ≤ R.slots) (hp : pc + 3 = pc')
    (nx : G p l e R s m args below meth c n0 P h k n (mkF m pc' Ls (u :: S))) : G p l e R s m args below meth c n0 P h k n (mkF m pc Ls St) :=
  G.callS C w1 w2 w3 w4 hz K hps hlen hls hd hst hW hf hl (by rw [h0]; exact hk) (by rw [h1]; exact hn) hp fun v h' hq => by
    obtain ⟨rfl, rfl⟩ := hq; rw [h0, h1]; exact nx
theorem G.callVP (C : Cx p s m meth c Z y bytes maxL ret) {z : MethodName} {zb : ByteArray} {zl : Nat} {zr : Option FieldType} {Rz : Room} {a : Addr} {av : List Value} {u : Value} {ix W : Nat} {ps : List FieldType} {r : Option FieldType} {St : List Value} {D : String}
    (w1 : (Jvm.Cond.methodLink y.cls ix z).before a0 Z = true) (w2 : (Jvm.Cond.instanceMethod z).before a0 Z = true) (w3 : (Jvm.Cond.initialized z.cls).before a0 Z = true) (w4 : (Jvm.Cond.code z zb zl zr).before a0 Z = true) (w5 : (Jvm.Cond.declares z).before a0 Z = true) (w6 : (Jvm.Cond.selects D z z).before a0 Z = true) (E : Exa Z h a D)
    (hz : z.cls ≠ "java/lang/invoke/MethodHandle" ∧ z.cls ≠ "java/lang/invoke/VarHandle") (K : Con l Z z zb zl zr Rz (.ref a :: av).toArray h n0 (Pv u h)) (hps : parseMethodDescriptor z.desc = some ⟨ps, r⟩) (hlen : av.length = ps.length) (hls : Ls.size = maxL)
    (hd : decode bytes pc = .ok (.invokevirtual ix, 3)) (hst : St = av.reverse ++ .ref a :: S) (hW : (S.map fun v => v.category).sum ≤ W) (hf : Rz.frames + 1 ≤ R.frames) (hl : W + (zl + 11) + Rz.locals ≤ R.locals) (h0 : Rz.cells = 0) (h1 : Rz.slots = 0) (hk : k ≤ R.cells) (hn : n ≤ R.slots) (hp : pc + 3 = pc')
    (nx : G p l e R s m args below meth c n0 P h k n (mkF m pc' Ls (u :: S))) : G p l e R s m args below meth c n0 P h k n (mkF m pc Ls St) :=
  G.callV C w1 w2 w3 w4 w5 w6 E hz K hps hlen hls hd hst hW hf hl (by rw [h0]; exact hk) (by rw [h1]; exact hn) hp fun v h' hq => by
    obtain ⟨rfl, rfl⟩ := hq; rw [h0, h1]; exact nx
/-- Keep, and the cells of statics as they were -/
def Kp (h h' : Heap) (ws : List Addr) : Prop := Keep h h' ws ∧ ∀ (x : Addr) (c : Cell), h[x]? = some c → c.vm.isStatics = true → h'[x]? = some c
theorem Kp.refl (h : Heap) (ws : List Addr) : Kp h h ws := ⟨Keep.refl _ _, fun _ _ q _ => q⟩
theorem Kp.ext {h1 h2 : Heap} {ws : List Addr} (K : Kp h h1 ws) (E : Ext h1 h2) : Kp h h2 ws := ⟨K.1.ext E, fun x c q r => E.2 x c (K.2 x c q r)⟩
theorem Kp.wr {h1 h2 : Heap} {ws : List Addr} {a : Addr} {sl : Nat} {v : Value} (K : Kp h h1 ws) (W : Wr h1 h2 a sl v) (q : a ∈ ws ∨ h.size ≤ a) : Kp h h2 ws := ⟨K.1.wr W q, fun x c q r => by
  have h1x := K.2 x c q r
  obtain ⟨cb, w1, w2, -⟩ := id W
  obtain ⟨cb', e1, -, -, -, e5, -⟩ := wr_at W h1x
  by_cases z : x = a
  · subst z; cases h1x.symm.trans w1; rw [r] at w2; cases w2
  · rw [e1, e5 z]⟩
theorem Kp.trans {h1 h2 : Heap} {ws ws' : List Addr} (K : Kp h h1 ws) (K' : Kp h1 h2 ws') (q : ∀ x ∈ ws', x ∈ ws ∨ h.size ≤ x) : Kp h h2 ws := ⟨K.1.trans K'.1 q, fun x c r z => K'.2 x c (K.2 x c r z) z⟩
theorem Sta.kp {h1 : Heap} {O nm d : String} {v : Value} {ws : List Addr} (K : Kp h h1 ws) (F : Sta Z h O nm d v) : Sta Z h1 O nm d v := by
  obtain ⟨cf, i, k, f, st, cell, q1, q2, q3, q4, q5, q6, q7⟩ := F
  exact ⟨cf, i, k, f, st, cell, q1, q2, q3, q4, K.2 _ _ q5 q6, q6, q7⟩
theorem G.acmpne (C : Cx p s m meth c Z y bytes maxL ret) {o : Int} {a b : Addr} (hd : decode bytes pc = .ok (.if_acmp .ne o, 3)) (ho : 0 ≤ (pc : Int) + o) (ht : ((pc : Int) + o).toNat = pt) (hp : pc + 3 = pc') (yes : ¬ (a = b) → G p l e R s m args below meth c n0 P h k n (mkF m pt Ls S)) (no : a = b → G p l e R s m args below meth c n0 P h k n (mkF m pc' Ls S)) : G p l e R s m args below meth c n0 P h k n (mkF m pc Ls (.ref b :: .ref a :: S)) := by
  by_cases q : a = b
  · exact G.pl (fun T locs X eT t k => Jvm.RoadKit.acmp (g := mkF m pc Ls (.ref b :: .ref a :: S)) X C.1 rfl rfl rfl (pc0 := pc) (pc' := pc') (same := true) rfl (hb C.2.2.1 hd) rfl (decide_eq_true (congrArg Value.ref q)) ho hp.symm k) (no q)
  · exact G.pl (fun T locs X eT t k => Jvm.RoadKit.acmp (g := mkF m pc Ls (.ref b :: .ref a :: S)) X C.1 rfl rfl rfl (pc0 := pc) (pc' := pt) (same := false) rfl (hb C.2.2.1 hd) rfl (decide_eq_false fun r => q (Value.ref.inj r)) ho ht.symm k) (yes q)
theorem G.acmpeq (C : Cx p s m meth c Z y bytes maxL ret) {o : Int} {a b : Addr} (hd : decode bytes pc = .ok (.if_acmp .eq o, 3)) (ho : 0 ≤ (pc : Int) + o) (ht : ((pc : Int) + o).toNat = pt) (hp : pc + 3 = pc') (yes : a = b → G p l e R s m args below meth c n0 P h k n (mkF m pt Ls S)) (no : ¬ (a = b) → G p l e R s m args below meth c n0 P h k n (mkF m pc' Ls S)) : G p l e R s m args below meth c n0 P h k n (mkF m pc Ls (.ref b :: .ref a :: S)) := by
  by_cases q : a = b
  · exact G.pl (fun T locs X eT t k => Jvm.RoadKit.acmp (g := mkF m pc Ls (.ref b :: .ref a :: S)) X C.1 rfl rfl rfl (pc0 := pc) (pc' := pt) (same := true) rfl (hb C.2.2.1 hd) rfl (decide_eq_true (congrArg Value.ref q)) ho ht.symm k) (yes q)
  · exact G.pl (fun T locs X eT t k => Jvm.RoadKit.acmp (g := mkF m pc Ls (.ref b :: .ref a :: S)) X C.1 rfl rfl rfl (pc0 := pc) (pc' := pc') (same := false) rfl (hb C.2.2.1 hd) rfl (decide_eq_false fun r => q (Value.ref.inj r)) ho hp.symm k) (no q)
theorem own_eqi {args : Array Value} {first s : State} {o : Option Outcome} {idx : List Nat} {t : Term} {z : Int32} (h : (Jvm.Cond.eq t (.int z)).value args first o s idx = some true) : t.eval args first o idx s = some (.int z) := by
  simp only [Cond.value] at h
  cases ht : t.eval args first o idx s with
  | none => simp [ht] at h
  | some x => cases x <;> simp [ht, Term.eval] at h ⊢; exact h
theorem own_sta_keep {O nm d : String} {v : Value} {h' : Heap} {ws : List Addr} (K : Keep h h' ws) (F : Sta Z h O nm d v) (hs : ∀ x ∈ ws, ∀ cell : Cell, h[x]? = some cell → cell.vm.isStatics = false) : Sta Z h' O nm d v := by
  obtain ⟨cf, i, k, f, st, cell, h1, h2, h3, h4, h5, h6, h7⟩ := F
  refine ⟨cf, i, k, f, st, cell, h1, h2, h3, h4, K.2.1 _ _ h5 (fun q => ?_), h6, h7⟩
  rw [hs st q cell h5] at h6; cases h6
theorem G.getF (C : Cx p s m meth c Z y bytes maxL ret) {ix : Nat} {O nm d : String} {a : Addr} {v : Value} (w : (Jvm.Cond.fieldLink y.cls ix O nm d).before a0 Z = true) (F : Fld Z h a O nm d v) (hd : decode bytes pc = .ok (.getfield ix, 3)) (hp : pc + 3 = pc') (nx : G p l e R s m args below meth c n0 P h k n (mkF m pc' Ls (v :: S))) : G p l e R s m args below meth c n0 P h k n (mkF m pc Ls (.ref a :: S)) := by
  subst hp; exact G.mv (fun T locs X eT => Jvm.RoadKit.getF X C.1 C.2.1 C.2.2.2.2.1 (host := "") (Or.inl w) Via.refl eT F (g := mkF m pc Ls (.ref a :: S)) rfl rfl (hb C.2.2.1 hd)) nx
theorem G.getS (C : Cx p s m meth c Z y bytes maxL ret) {ix : Nat} {O nm d : String} {v : Value} (w : (Jvm.Cond.fieldLink y.cls ix O nm d).before a0 Z = true) (F : Sta Z h O nm d v) (hd : decode bytes pc = .ok (.getstatic ix, 3)) (hp : pc + 3 = pc') (nx : G p l e R s m args below meth c n0 P h k n (mkF m pc' Ls (v :: S))) : G p l e R s m args below meth c n0 P h k n (mkF m pc Ls S) := by
  subst hp; exact G.mv (fun T locs X eT => Jvm.RoadKit.getS2 X C.1 C.2.1 C.2.2.2.2.1 (host := "") (Or.inl w) Via.refl eT F (g := mkF m pc Ls S) rfl (hb C.2.2.1 hd)) nx
theorem G.putF (C : Cx p s m meth c Z y bytes maxL ret) {ix kk : Nat} {O nm d D : String} {ty : FieldType} {a : Addr} {v old : Value} (w : (Jvm.Cond.fieldLink y.cls ix O nm d).before a0 Z = true) (F : Fld Z h a O nm d old) (E : Exa Z h a D) (La : (Jvm.Cond.lays D O nm d).before a0 Z = true ∨ ((Jvm.Cond.laysFinal D O nm d).before a0 Z = true ∧ y.cls = O ∧ y.name = "<init>")) (wi : (Jvm.Cond.instantiable D kk).before a0 Z = true)
    (hty : parseFieldDescriptor d = some ty) (hn : narrow ty v = v) (hf : fits ty v = true) (ha : n0 ≤ a) (hd : decode bytes pc = .ok (.putfield ix, 3)) (hp : pc + 3 = pc') (nx : ∀ h', Wr h h' a (Jvm.RoadKit.slotOf Z O nm d) v → G p l e R s m args below meth c n0 P h' k n (mkF m pc' Ls S)) : G p l e R s m args below meth c n0 P h k n (mkF m pc Ls (v :: .ref a :: S)) := fun T locs X eT N => by
  subst hp
  obtain ⟨T', h', X', e', W, st⟩ := Jvm.RoadKit.putF X C.1 C.2.1 C.2.2.2.2.1 (host := "") (Or.inl w) Via.refl eT F E (La.imp id fun q => ⟨q.1, q.2.1, C.2.2.2.2.2.1.trans q.2.2⟩) wi hty hn hf (g := mkF m pc Ls (v :: .ref a :: S)) rfl rfl (hb C.2.2.1 hd)
  obtain ⟨s₂, o, h1, rr⟩ := nx h' W T' _ X' e' (Fr.snoc X' N ha)
  exact ⟨s₂, o, st _ h1, rr⟩
theorem G.newO (C : Cx p s m meth c Z y bytes maxL ret) {ix sl : Nat} {D : String} (w : (Jvm.Cond.classLink y.cls ix D).before a0 Z = true) (wi : (Jvm.Cond.instantiable D sl).before a0 Z = true) (wz : (Jvm.Cond.initialized D).before a0 Z = true) (hd : decode bytes pc = .ok (.new ix, 3)) (hk : k + 1 ≤ R.cells) (hn : n + sl ≤ R.slots) (hp : pc + 3 = pc')
    (nx : ∀ h' a, a = h.size → Ext h h' → Exa Z h' a D → (∀ {O nm d : String} {ty : FieldType}, Laid Z a0 D O nm d → parseFieldDescriptor d = some ty → Fld Z h' a O nm d (defaultValue ty)) → G p l e R s m args below meth c n0 P h' (k + 1) (n + sl) (mkF m pc' Ls (.ref a :: S))) : G p l e R s m args below meth c n0 P h k n (mkF m pc Ls S) := fun T locs X eT N => by
  subst hp
  obtain ⟨T', h', X', e', E, A, D', -, st⟩ := Jvm.RoadKit.newO X C.1 C.2.1 C.2.2.2.2.1 w wi wz eT (g := mkF m pc Ls S) rfl (hb C.2.2.1 hd) hk hn
  obtain ⟨s₂, o, h1, rr⟩ := nx h' _ rfl E A D' T' _ X' e' N
  exact ⟨s₂, o, st _ h1, rr⟩
theorem G.initO (C : Cx p s m meth c Z y bytes maxL ret) {ix W : Nat} {a : Addr} (w1 : (Jvm.Cond.methodLink y.cls ix Lib.objectInit).before a0 Z = true) (w2 : (Jvm.Cond.instanceMethod Lib.objectInit).before a0 Z = true) (w3 : (Jvm.Cond.code Lib.objectInit ⟨#[0xb1]⟩ 1 none).before a0 Z = true) (hls : Ls.size = maxL) (hd : decode bytes pc = .ok (.invokespecial ix, 3)) (hf : 1 ≤ R.frames) (hW : (S.map fun v => v.category).sum ≤ W) (hl : W + 12 ≤ R.locals) (hp : pc + 3 = pc')
    (nx : G p l e R s m args below meth c n0 P h k n (mkF m pc' Ls S)) : G p l e R s m args below meth c n0 P h k n (mkF m pc Ls (.ref a :: S)) := by
  subst hp; exact G.mv (fun T locs X eT => Jvm.RoadKit.initO X C.1 C.2.1 C.2.2.2.2.1 w1 w2 w3 eT (g := mkF m pc Ls (.ref a :: S)) rfl (by rw [C.2.2.2.1]; exact hls) rfl (hb C.2.2.1 hd) hf (cat_sum hW) hl) nx
theorem G.ifnull (C : Cx p s m meth c Z y bytes maxL ret) {o : Int} (hd : decode bytes pc = .ok (.ifnull o, 3)) (ho : 0 ≤ (pc : Int) + o) (ht : ((pc : Int) + o).toNat = pt) (nx : G p l e R s m args below meth c n0 P h k n (mkF m pt Ls S)) : G p l e R s m args below meth c n0 P h k n (mkF m pc Ls (.null :: S)) :=
  G.pl (fun T locs X eT t q => XS.ifnullYes X.here C.1 rfl (pc0 := pc) (pc' := pt) rfl (hb C.2.2.1 hd) rfl ho ht q) nx
theorem G.ifnullR (C : Cx p s m meth c Z y bytes maxL ret) {o : Int} {a : Addr} (hd : decode bytes pc = .ok (.ifnull o, 3)) (hp : pc + 3 = pc') (nx : G p l e R s m args below meth c n0 P h k n (mkF m pc' Ls S)) : G p l e R s m args below meth c n0 P h k n (mkF m pc Ls (.ref a :: S)) := by
  subst hp; exact G.pl (fun T locs X eT t q => XS.ifnullNo X.here C.1 rfl (hb C.2.2.1 hd) rfl q) nx
theorem G.ifnonnull (C : Cx p s m meth c Z y bytes maxL ret) {o : Int} (hd : decode bytes pc = .ok (.ifnonnull o, 3)) (hp : pc + 3 = pc') (nx : G p l e R s m args below meth c n0 P h k n (mkF m pc' Ls S)) : G p l e R s m args below meth c n0 P h k n (mkF m pc Ls (.null :: S)) := by
  subst hp; exact G.pl (fun T locs X eT t q => XS.ifnonnullNo X.here C.1 rfl (hb C.2.2.1 hd) rfl q) nx
theorem G.ifnonnullR (C : Cx p s m meth c Z y bytes maxL ret) {o : Int} {a : Addr} (hd : decode bytes pc = .ok (.ifnonnull o, 3)) (ho : 0 ≤ (pc : Int) + o) (ht : ((pc : Int) + o).toNat = pt) (nx : G p l e R s m args below meth c n0 P h k n (mkF m pt Ls S)) : G p l e R s m args below meth c n0 P h k n (mkF m pc Ls (.ref a :: S)) :=
  G.pl (fun T locs X eT t q => XS.ifnonnullYes X.here C.1 rfl (pc0 := pc) (pc' := pt) rfl (hb C.2.2.1 hd) rfl ho ht q) nx
/-- an array of N places, what lies in each of them -/
def Ara (Z : State) (h : Heap) (a : Addr) (ty : FieldType) (N : Nat) (f : Nat → Value) : Prop := ∃ c : Cell, Arr Z h a c ty ∧ c.slots.size = N ∧ ∀ i, i < N → c.slots[i]? = some (f i)
section Arrays
variable {h' : Heap} {a b : Addr} {ty : FieldType} {N : Nat} {F : Nat → Value}
theorem Ara.ext (A : Ara Z h a ty N F) (E : Ext h h') : Ara Z h' a ty N F := by obtain ⟨c, q, r⟩ := A; exact ⟨c, q.ext E, r⟩
theorem Ara.keep {ws : List Addr} (A : Ara Z h a ty N F) (K : Keep h h' ws) (q : a ∉ ws) : Ara Z h' a ty N F := by obtain ⟨c, A, r⟩ := A; exact ⟨c, ⟨K.2.1 a c A.1 q, A.2⟩, r⟩
theorem Ara.kp {ws : List Addr} (A : Ara Z h a ty N F) (K : Kp h h' ws) (q : a ∉ ws) : Ara Z h' a ty N F := A.keep K.1 q
theorem Ara.oth {sl : Nat} {v : Value} (A : Ara Z h a ty N F) (W : Wr h h' b sl v) (q : a ≠ b) : Ara Z h' a ty N F := by obtain ⟨c, A, r⟩ := A; exact ⟨c, A.other W q, r⟩
theorem Ara.lt (A : Ara Z h a ty N F) : a < h.size := by obtain ⟨c, A, -⟩ := A; exact A.lt
theorem Ara.cast {F' : Nat → Value} (A : Ara Z h a ty N F) (q : ∀ i, i < N → F i = F' i) : Ara Z h a ty N F' := by obtain ⟨c, A, r1, r2⟩ := A; exact ⟨c, A, r1, fun i hi => by rw [r2 i hi, q i hi]⟩
theorem Ara.set {j : Nat} {v : Value} (A : Ara Z h a ty N F) (W : Wr h h' a j v) : Ara Z h' a ty N (fun i => if i = j then v else F i) := by
  obtain ⟨c, A, r1, r2⟩ := A
  obtain ⟨cell, w1, w2, w3, rfl⟩ := id W
  cases A.1.symm.trans w1
  refine ⟨_, A.same W, ?_, fun i hi => ?_⟩
  · rw [← r1]; simp [Cell.setSlot]
  · have hi' : i < c.slots.size := by rw [r1]; exact hi
    by_cases q : i = j
    · subst q; simp [Cell.setSlot, hi']
    · have q' : ¬ j = i := fun z => q z.symm
      simp only [q, if_false]
      rw [← r2 i hi]
      simp [Cell.setSlot, Array.getElem?_setIfInBounds, q']
theorem Ara.new {ka : ClassId} {z : Int32} (A : Arr Z h a (newA ka ty z) ty) : Ara Z h a ty z.toInt.toNat (fun _ => defaultValue ty) := by
  refine ⟨_, A, sz_new _ _ _, fun i hi => ?_⟩
  have q : i < z.toNatClampNeg := hi
  simp [newA, q]
theorem own_in {j : Int32} {cl : Cell} (r : cl.slots.size = N) (q : 0 ≤ j.toInt ∧ j.toInt < N) : ¬ (j < 0 ∨ cl.slots.size ≤ j.toNatClampNeg) := by
  rw [r, Int32.lt_iff_toInt_lt]
  show ¬ (j.toInt < 0 ∨ N ≤ j.toInt.toNat)
  omega
theorem own_ix {j : Int32} (q : 0 ≤ j.toInt ∧ j.toInt < N) : j.toInt.toNat < N := by omega
theorem Ara.len (A : Ara Z h a ty N F) : ∃ cl, Arr Z h a cl ty ∧ cl.slots.size = N := by obtain ⟨c, q, r, -⟩ := A; exact ⟨c, q, r⟩
theorem G.arrlen (C : Cx p s m meth c Z y bytes maxL ret) (A : Ara Z h a ty N F) {z : Int32} (hz : z.toInt = N) (hd : decode bytes pc = .ok (.arraylength, 1)) (hp : pc + 1 = pc') (nx : G p l e R s m args below meth c n0 P h k n (mkF m pc' Ls (.int z :: S))) : G p l e R s m args below meth c n0 P h k n (mkF m pc Ls (.ref a :: S)) := by
  obtain ⟨cl, A, r, -⟩ := A
  have q0 : ¬ z < 0 := by rw [Int32.lt_iff_toInt_lt, hz]; show ¬ ((N : Int) < 0); omega
  have q1 : cl.slots.size = z.toNatClampNeg := by rw [r]; show N = z.toInt.toNat; omega
  subst hp; exact G.pl (fun T locs X eT t q => X.arraylength C.1 (by rw [eT]; exact A.1) (State.isArrayOf_alike C.2.1.alike A.2.1) (g := mkF m pc Ls (.ref a :: S)) rfl rfl (hb C.2.2.1 hd) t (by rw [len_of q1 q0]; exact q)) nx
theorem G.caload (C : Cx p s m meth c Z y bytes maxL ret) (A : Ara Z h a .char N F) {j : Int32} (q : 0 ≤ j.toInt ∧ j.toInt < N) (hd : decode bytes pc = .ok (.caload, 1)) (hp : pc + 1 = pc') (nx : G p l e R s m args below meth c n0 P h k n (mkF m pc' Ls (F j.toInt.toNat :: S))) : G p l e R s m args below meth c n0 P h k n (mkF m pc Ls (.int j :: .ref a :: S)) := by
  obtain ⟨cl, A, r1, r2⟩ := A
  subst hp; exact G.pl (fun T locs X eT t z => X.caload C.1 (j := j) (v := F j.toInt.toNat) (by rw [eT]; exact A.1) (State.isArrayOf_alike C.2.1.alike A.2.1) A.2.2 (own_in r1 q) (r2 _ (own_ix q)) (g := mkF m pc Ls (.int j :: .ref a :: S)) rfl rfl (hb C.2.2.1 hd) _ z) nx
theorem G.laload (C : Cx p s m meth c Z y bytes maxL ret) (A : Ara Z h a .long N F) {j : Int32} (q : 0 ≤ j.toInt ∧ j.toInt < N) (hd : decode bytes pc = .ok (.laload, 1)) (hp : pc + 1 = pc') (nx : G p l e R s m args below meth c n0 P h k n (mkF m pc' Ls (F j.toInt.toNat :: S))) : G p l e R s m args below meth c n0 P h k n (mkF m pc Ls (.int j :: .ref a :: S)) := by
  obtain ⟨cl, A, r1, r2⟩ := A
  subst hp; exact G.pl (fun T locs X eT t z => X.laload C.1 (j := j) (v := F j.toInt.toNat) (by rw [eT]; exact A.1) (State.isArrayOf_alike C.2.1.alike A.2.1) A.2.2 (own_in r1 q) (r2 _ (own_ix q)) (g := mkF m pc Ls (.int j :: .ref a :: S)) rfl rfl (hb C.2.2.1 hd) _ z) nx
theorem G.baloadB (C : Cx p s m meth c Z y bytes maxL ret) (A : Ara Z h a .byte N F) {j : Int32} (q : 0 ≤ j.toInt ∧ j.toInt < N) (hd : decode bytes pc = .ok (.baload, 1)) (hp : pc + 1 = pc') (nx : G p l e R s m args below meth c n0 P h k n (mkF m pc' Ls (F j.toInt.toNat :: S))) : G p l e R s m args below meth c n0 P h k n (mkF m pc Ls (.int j :: .ref a :: S)) := by
  obtain ⟨cl, A, r1, r2⟩ := A
  subst hp; exact G.pl (fun T locs X eT t z => X.baloadBytes C.1 (j := j) (v := F j.toInt.toNat) (by rw [eT]; exact A.1) (State.isArrayOf_alike C.2.1.alike A.2.1) A.2.2 (own_in r1 q) (r2 _ (own_ix q)) (g := mkF m pc Ls (.int j :: .ref a :: S)) rfl rfl (hb C.2.2.1 hd) _ z) nx
theorem G.baloadZ (C : Cx p s m meth c Z y bytes maxL ret) (A : Ara Z h a .boolean N F) {j : Int32} (q : 0 ≤ j.toInt ∧ j.toInt < N) (hd : decode bytes pc = .ok (.baload, 1)) (hp : pc + 1 = pc') (nx : G p l e R s m args below meth c n0 P h k n (mkF m pc' Ls (F j.toInt.toNat :: S))) : G p l e R s m args below meth c n0 P h k n (mkF m pc Ls (.int j :: .ref a :: S)) := by
  obtain ⟨cl, A, r1, r2⟩ := A
  subst hp; exact G.pl (fun T locs X eT t z => X.baloadBooleans C.1 (j := j) (v := F j.toInt.toNat) (by rw [eT]; exact A.1) (State.isArrayOf_alike C.2.1.alike A.2.1) A.2.2 (own_in r1 q) (r2 _ (own_ix q)) (g := mkF m pc Ls (.int j :: .ref a :: S)) rfl rfl (hb C.2.2.1 hd) _ z) nx
theorem G.aaload (C : Cx p s m meth c Z y bytes maxL ret) {D : String} (A : Ara Z h a (.object D) N F) {j : Int32} (q : 0 ≤ j.toInt ∧ j.toInt < N) (hd : decode bytes pc = .ok (.aaload, 1)) (hp : pc + 1 = pc') (nx : G p l e R s m args below meth c n0 P h k n (mkF m pc' Ls (F j.toInt.toNat :: S))) : G p l e R s m args below meth c n0 P h k n (mkF m pc Ls (.int j :: .ref a :: S)) := by
  obtain ⟨cl, A, r1, r2⟩ := A
  subst hp; exact G.pl (fun T locs X eT t z => X.aaload C.1 (j := j) (v := F j.toInt.toNat) (by rw [eT]; exact A.1) (State.isArrayOf_alike C.2.1.alike A.2.1) rfl A.2.2 (own_in r1 q) (r2 _ (own_ix q)) (g := mkF m pc Ls (.int j :: .ref a :: S)) rfl rfl (hb C.2.2.1 hd) _ z) nx
theorem G.castore (C : Cx p s m meth c Z y bytes maxL ret) (A : Ara Z h a .char N F) {j x : Int32} (q : 0 ≤ j.toInt ∧ j.toInt < N) (ha : n0 ≤ a) (hd : decode bytes pc = .ok (.castore, 1)) (hp : pc + 1 = pc') (nx : ∀ h', Wr h h' a j.toInt.toNat (.int (nar .char x)) → G p l e R s m args below meth c n0 P h' k n (mkF m pc' Ls S)) : G p l e R s m args below meth c n0 P h k n (mkF m pc Ls (.int x :: .int j :: .ref a :: S)) := fun T locs X eT M => by
  obtain ⟨cl, A, r1, r2⟩ := A
  subst hp
  obtain ⟨T', h', X', e', W, st⟩ := Jvm.RoadKit.stC X C.1 C.2.1 eT A (j := j) (own_in r1 q) (g := mkF m pc Ls (.int x :: .int j :: .ref a :: S)) rfl rfl (hb C.2.2.1 hd)
  obtain ⟨s₂, o, h1, rr⟩ := nx h' W T' _ X' e' (Fr.snoc X' M ha)
  exact ⟨s₂, o, st _ h1, rr⟩
theorem G.lastore (C : Cx p s m meth c Z y bytes maxL ret) (A : Ara Z h a .long N F) {j : Int32} {x : Int64} (q : 0 ≤ j.toInt ∧ j.toInt < N) (ha : n0 ≤ a) (hd : decode bytes pc = .ok (.lastore, 1)) (hp : pc + 1 = pc') (nx : ∀ h', Wr h h' a j.toInt.toNat (.long x) → G p l e R s m args below meth c n0 P h' k n (mkF m pc' Ls S)) : G p l e R s m args below meth c n0 P h k n (mkF m pc Ls (.long x :: .int j :: .ref a :: S)) := fun T locs X eT M => by
  obtain ⟨cl, A, r1, r2⟩ := A
  subst hp
  obtain ⟨T', h', X', e', W, st⟩ := Jvm.RoadKit.stJ X C.1 C.2.1 eT A (j := j) (own_in r1 q) (g := mkF m pc Ls (.long x :: .int j :: .ref a :: S)) rfl rfl (hb C.2.2.1 hd)
  obtain ⟨s₂, o, h1, rr⟩ := nx h' W T' _ X' e' (Fr.snoc X' M ha)
  exact ⟨s₂, o, st _ h1, rr⟩
theorem G.bastoreZ (C : Cx p s m meth c Z y bytes maxL ret) (A : Ara Z h a .boolean N F) {j x : Int32} (q : 0 ≤ j.toInt ∧ j.toInt < N) (ha : n0 ≤ a) (hd : decode bytes pc = .ok (.bastore, 1)) (hp : pc + 1 = pc') (nx : ∀ h', Wr h h' a j.toInt.toNat (.int (nar .boolean x)) → G p l e R s m args below meth c n0 P h' k n (mkF m pc' Ls S)) : G p l e R s m args below meth c n0 P h k n (mkF m pc Ls (.int x :: .int j :: .ref a :: S)) := fun T locs X eT M => by
  obtain ⟨cl, A, r1, r2⟩ := A
  subst hp
  obtain ⟨T', h', X', e', W, st⟩ := Jvm.RoadKit.stZ X C.1 C.2.1 eT A (j := j) (own_in r1 q) (g := mkF m pc Ls (.int x :: .int j :: .ref a :: S)) rfl rfl (hb C.2.2.1 hd)
  obtain ⟨s₂, o, h1, rr⟩ := nx h' W T' _ X' e' (Fr.snoc X' M ha)
  exact ⟨s₂, o, st _ h1, rr⟩
theorem G.bastoreB (C : Cx p s m meth c Z y bytes maxL ret) (A : Ara Z h a .byte N F) {j x : Int32} (q : 0 ≤ j.toInt ∧ j.toInt < N) (ha : n0 ≤ a) (hd : decode bytes pc = .ok (.bastore, 1)) (hp : pc + 1 = pc') (nx : ∀ h', Wr h h' a j.toInt.toNat (.int (nar .byte x)) → G p l e R s m args below meth c n0 P h' k n (mkF m pc' Ls S)) : G p l e R s m args below meth c n0 P h k n (mkF m pc Ls (.int x :: .int j :: .ref a :: S)) := fun T locs X eT M => by
  obtain ⟨cl, A, r1, r2⟩ := A
  subst hp
  obtain ⟨T', h', X', e', W, st⟩ := Jvm.RoadKit.stB X C.1 C.2.1 eT A (j := j) (own_in r1 q) (g := mkF m pc Ls (.int x :: .int j :: .ref a :: S)) rfl rfl (hb C.2.2.1 hd)
  obtain ⟨s₂, o, h1, rr⟩ := nx h' W T' _ X' e' (Fr.snoc X' M ha)
  exact ⟨s₂, o, st _ h1, rr⟩
theorem G.newarr (C : Cx p s m meth c Z y bytes maxL ret) {aty : ArrayType} (w : (Jvm.Cond.arrayClass (newarray.typeOf aty)).before a0 Z = true) {z : Int32} (hz : 0 ≤ z.toInt) {cap : Nat} (hcap : z.toInt ≤ cap) (hbg : cap * 8 ≤ 536870912) (hd : decode bytes pc = .ok (.newarray aty, 2)) (hk : k + 1 ≤ R.cells) (hn : n + cap ≤ R.slots) (hp : pc + 2 = pc')
    (nx : ∀ h' a, a = h.size → Ext h h' → Ara Z h' a (newarray.typeOf aty) z.toInt.toNat (fun _ => defaultValue (newarray.typeOf aty)) → G p l e R s m args below meth c n0 P h' (k + 1) (n + cap) (mkF m pc' Ls (.ref a :: S))) : G p l e R s m args below meth c n0 P h k n (mkF m pc Ls (.int z :: S)) := fun T locs X eT M => by
  subst hp
  have q0 : ¬ z < 0 := by rw [Int32.lt_iff_toInt_lt]; show ¬ z.toInt < 0; omega
  obtain ⟨T', h', ka, X', e', E, A, st⟩ := Jvm.RoadKit.newP X C.1 C.2.1 w eT (g := mkF m pc Ls (.int z :: S)) rfl (hb C.2.2.1 hd) rfl q0 (cap := cap) (by show z.toInt.toNat ≤ cap; omega) hbg hk hn
  obtain ⟨s₂, o, h1, rr⟩ := nx h' _ rfl E (Ara.new A) T' _ X' e' M
  exact ⟨s₂, o, st _ h1, rr⟩
end Arrays
theorem G.instY (C : Cx p s m meth c Z y bytes maxL ret) {ix : Nat} {K : String} {a : Addr} (w : (Jvm.Cond.classLink y.cls ix K).before a0 Z = true) (I : Ins Z h a K true) (hd : decode bytes pc = .ok (.instanceof ix, 3)) (hp : pc + 3 = pc') (nx : G p l e R s m args below meth c n0 P h k n (mkF m pc' Ls (.int 1 :: S))) : G p l e R s m args below meth c n0 P h k n (mkF m pc Ls (.ref a :: S)) := by
  subst hp; exact G.mv (fun T locs X eT => Jvm.RoadKit.instY X C.1 C.2.1 C.2.2.2.2.1 w eT I (g := mkF m pc Ls (.ref a :: S)) rfl rfl (hb C.2.2.1 hd)) nx
theorem G.instN (C : Cx p s m meth c Z y bytes maxL ret) {ix : Nat} {K D : String} {a : Addr} (w : (Jvm.Cond.classLink y.cls ix K).before a0 Z = true) (I : Ins Z h a K false) (E : Exa Z h a D) (hd : decode bytes pc = .ok (.instanceof ix, 3)) (hp : pc + 3 = pc') (nx : G p l e R s m args below meth c n0 P h k n (mkF m pc' Ls (.int 0 :: S))) : G p l e R s m args below meth c n0 P h k n (mkF m pc Ls (.ref a :: S)) := by
  subst hp
  refine G.mv (fun T locs X eT => ?_) nx
  obtain ⟨cell, cT, h1, h2, h3⟩ := I
  obtain ⟨cell', kk, e1, -, e3, e4, -⟩ := E
  cases h1.symm.trans e1
  obtain ⟨k', q, -⟩ := C.2.1.alike.2.2 _ _ e3
  obtain ⟨vm', X', st⟩ := Jvm.Sym.instanceofNoAt X C.1 C.2.2.2.2.1 (Jvm.RoadKit.mv C.2.1 w) (by rw [eT]; exact h1) e4 q (by rw [C.2.1.alike.findClass]; exact h2) (by rw [C.2.1.alike.assignable]; simpa [e4] using h3) (g := mkF m pc Ls (.ref a :: S)) rfl rfl (hb C.2.2.1 hd)
  exact ⟨_, X', eT, st⟩
theorem G.instNull (C : Cx p s m meth c Z y bytes maxL ret) {ix : Nat} (hd : decode bytes pc = .ok (.instanceof ix, 3)) (hp : pc + 3 = pc') (nx : G p l e R s m args below meth c n0 P h k n (mkF m pc' Ls (.int 0 :: S))) : G p l e R s m args below meth c n0 P h k n (mkF m pc Ls (.null :: S)) := by
  subst hp; exact G.pl (fun T locs X eT t q => X.instanceofNull C.1 (g := mkF m pc Ls (.null :: S)) rfl rfl (hb C.2.2.1 hd) _ q) nx
theorem G.castY (C : Cx p s m meth c Z y bytes maxL ret) {ix : Nat} {K : String} {a : Addr} (w : (Jvm.Cond.classLink y.cls ix K).before a0 Z = true) (I : Ins Z h a K true) (hd : decode bytes pc = .ok (.checkcast ix, 3)) (hp : pc + 3 = pc') (nx : G p l e R s m args below meth c n0 P h k n (mkF m pc' Ls (.ref a :: S))) : G p l e R s m args below meth c n0 P h k n (mkF m pc Ls (.ref a :: S)) := by
  subst hp; exact G.mv (fun T locs X eT => Jvm.RoadKit.castY X C.1 C.2.1 C.2.2.2.2.1 w eT I (g := mkF m pc Ls (.ref a :: S)) rfl rfl (hb C.2.2.1 hd)) nx
theorem own_notsub {vm : Vm} {t : ClassId} : ∀ (fuel : Nat) (c : ClassId) (L : List ClassId), (∀ x ∈ c :: L, x ≠ t) → (match L with | [] => ∃ k, vm.classes[c]? = some k ∧ k.super = none | p :: _ => ∃ k, vm.classes[c]? = some k ∧ k.super = some p) → (∀ i (hi : i + 1 < L.length), ∃ k, vm.classes[L[i]]? = some k ∧ k.super = some L[i + 1]) → (∀ q, L.getLast? = some q → ∃ k, vm.classes[q]? = some k ∧ k.super = none) → vm.isSubclassAux fuel c t = false
  | 0, c, L, _, _, _, _ => rfl
  | fuel + 1, c, [], h1, h2, _, _ => by
    obtain ⟨k, e1, e2⟩ := h2
    simp [Vm.isSubclassAux, e1, e2, h1 c (List.mem_cons_self ..)]
  | fuel + 1, c, p :: L, h1, h2, h3, h4 => by
    obtain ⟨k, e1, e2⟩ := h2
    have ih := own_notsub (vm := vm) (t := t) fuel p L (fun x hx => h1 x (List.mem_cons_of_mem _ hx)) (by
      cases L with
      | nil => exact h4 p rfl
      | cons q L => exact h3 0 (by simp)) (fun i hi => h3 (i + 1) (by simpa using hi)) (fun q hq => h4 q (by
        cases L with
        | nil => simp at hq
        | cons z L => simpa using hq))
    simp [Vm.isSubclassAux, e1, e2, h1 c (List.mem_cons_self ..), ih]
/-- a class of three (itself, its superclass, Object) is no subclass of another, plain one -/
theorem Ins.no3 {D D2 K : String} {a : Addr} {kk : Nat} (E : Exa Z h a D) (w1 : (Jvm.Cond.superclass D D2).before a0 Z = true) (w2 : (Jvm.Cond.superclass D2 "java/lang/Object").before a0 Z = true) (w3 : (Jvm.Cond.noSuperclass "java/lang/Object").before a0 Z = true) (w4 : (Jvm.Cond.instantiable K kk).before a0 Z = true) (h1 : D ≠ K) (h2 : D2 ≠ K) (h3 : "java/lang/Object" ≠ K) : Ins Z h a K false := by
  obtain ⟨cell, k0, e1, e2, e3, e4, -⟩ := E
  obtain ⟨cT, kT, i1, i2, i3, i4, i5⟩ := Cond.instantiable_spec w4
  obtain ⟨p1, k1, kp1, a1, a2, a3, a4, a5, a6, a7⟩ := Cond.superclass_spec e2 w1
  obtain ⟨p2, k2, kp2, b1, b2, b3, b4, b5, b6, b7⟩ := Cond.superclass_spec a1 w2
  obtain ⟨c3, k3, d1, d2, d3, d4, d5⟩ := Cond.noSuperclass_spec w3
  cases b1.symm.trans d1
  have nm : ∀ {A B : String} {c : ClassId}, Z.vm.findClass A = some c → Z.vm.findClass B = some c → A = B := fun ha hb => by
    obtain ⟨k, q1, q2⟩ := Vm.findClass_spec ha
    obtain ⟨k', r1, r2⟩ := Vm.findClass_spec hb
    cases q1.symm.trans r1
    exact q2.symm.trans r2
  cases a2.symm.trans e3
  have n1 : cell.cls ≠ cT := fun q => h1 (nm e2 (q ▸ i1))
  have n2 : p1 ≠ cT := fun q => h2 (nm a1 (q ▸ i1))
  have n3 : p2 ≠ cT := fun q => h3 (nm b1 (q ▸ i1))
  have hs : Z.vm.isSubclass cell.cls cT = false := own_notsub _ _ [p1, p2] (by
    intro x hx
    simp only [List.mem_cons, List.not_mem_nil, or_false] at hx
    rcases hx with rfl | rfl | rfl
    · exact n1
    · exact n2
    · exact n3) ⟨_, a2, a4⟩ (fun i hi => by
      have : i = 0 := by simp at hi; omega
      subst this
      exact ⟨_, b2, b4⟩) (fun q hq => by
      have : q = p2 := by simpa using hq.symm
      subst this
      exact ⟨_, d2, d3⟩)
  have ni : kT.isInterface = false := by
    cases z : kT.isInterface with
    | false => rfl
    | true => simp [z] at i4
  refine ⟨cell, cT, e1, i1, ?_⟩
  rw [e4]
  show (true && Z.vm.assignable cell.cls cT) = false
  simp [Vm.assignable, Vm.assignableAux, n1, a2, i2, a5, i3, ni, hs]
end Own
theorem pd0 : parseMethodDescriptor "([C)V" = some ⟨[(.array .char)], none⟩ := by decide +kernel
theorem pd1 : parseMethodDescriptor "([CIILjava/lang/Void;)V" = some ⟨[(.array .char), .int, .int, (.object "java/lang/Void")], none⟩ := by decide +kernel
theorem pd2 : parseMethodDescriptor "()V" = some ⟨[], none⟩ := by decide +kernel
theorem pd3 : parseMethodDescriptor "(C)Ljava/lang/String;" = some ⟨[.char], some (.object "java/lang/String")⟩ := by decide +kernel
theorem pd4 : parseMethodDescriptor "(C)Z" = some ⟨[.char], some .boolean⟩ := by decide +kernel
theorem pd5 : parseMethodDescriptor "(C)[B" = some ⟨[.char], some (.array .byte)⟩ := by decide +kernel
theorem pd6 : parseMethodDescriptor "([BB)V" = some ⟨[(.array .byte), .byte], none⟩ := by decide +kernel
theorem pd7 : parseMethodDescriptor "([CII)[B" = some ⟨[(.array .char), .int, .int], some (.array .byte)⟩ := by decide +kernel
theorem pd8 : parseMethodDescriptor "([CI[BII)I" = some ⟨[(.array .char), .int, (.array .byte), .int, .int], some .int⟩ := by decide +kernel
theorem pd9 : parseMethodDescriptor "([BI)B" = some ⟨[(.array .byte), .int], some .byte⟩ := by decide +kernel
theorem pd10 : parseMethodDescriptor "(I)Lcom/example/seefrom/seefrom/Rule;" = some ⟨[.int], some (.object "com/example/seefrom/seefrom/Rule")⟩ := by decide +kernel
theorem pd11 : parseMethodDescriptor "(Ljava/lang/String;Ljava/lang/String;ILcom/example/seefrom/seefrom/Rule;Ljava/lang/String;)V" = some ⟨[(.object "java/lang/String"), (.object "java/lang/String"), .int, (.object "com/example/seefrom/seefrom/Rule"), (.object "java/lang/String")], none⟩ := by decide +kernel
theorem pd12 : parseMethodDescriptor "(Ljava/lang/Object;Ljava/lang/String;)Ljava/lang/Object;" = some ⟨[(.object "java/lang/Object"), (.object "java/lang/String")], some (.object "java/lang/Object")⟩ := by decide +kernel
theorem pd13 : parseMethodDescriptor "(Ljava/lang/String;Lcom/example/seefrom/seefrom/Rule;Ljava/lang/String;)Lcom/example/seefrom/seefrom/Problem;" = some ⟨[(.object "java/lang/String"), (.object "com/example/seefrom/seefrom/Rule"), (.object "java/lang/String")], some (.object "com/example/seefrom/seefrom/Problem")⟩ := by decide +kernel
theorem pd14 : parseMethodDescriptor "()Z" = some ⟨[], some .boolean⟩ := by decide +kernel
def own_SV (Z : State) (h : Heap) (a : Addr) (v0 v1 : Value) : Prop := Exa Z h a "java/lang/String" ∧ Fld Z h a "java/lang/String" "value" "[B" v0 ∧ Fld Z h a "java/lang/String" "coder" "B" v1
theorem own_SV.ext {Z : State} {h h' : Heap} {a : Addr} {v0 v1 : Value} (F : own_SV Z h a v0 v1) (E : Ext h h') : own_SV Z h' a v0 v1 := ⟨Exa.ext E F.1, Fld.ext E F.2.1, Fld.ext E F.2.2⟩
theorem own_SV.keep {Z : State} {h h' : Heap} {a : Addr} {v0 v1 : Value} {ws : List Addr} (F : own_SV Z h a v0 v1) (K : Kp h h' ws) (q : a ∉ ws) : own_SV Z h' a v0 v1 := ⟨Exa.keep F.1 K.1, Fld.keep F.2.1 K.1 q, Fld.keep F.2.2 K.1 q⟩
theorem own_SV.oth {Z : State} {h h' : Heap} {a b : Addr} {v0 v1 : Value} {sl : Nat} {u : Value} (F : own_SV Z h a v0 v1) (W : Wr h h' b sl u) (q : a ≠ b) : own_SV Z h' a v0 v1 := ⟨Exa.wr W F.1, Fld.other W F.2.1 (Or.inl q), Fld.other W F.2.2 (Or.inl q)⟩
theorem own_SV.w0 {Z : State} {a0 : Array Value} {h h' : Heap} {a : Addr} {v0 v1 : Value} {u : Value} (hw : ∀ d ∈ tables_1, d.before a0 Z = true) (F : own_SV Z h a v0 v1) (W : Wr h h' a (Jvm.RoadKit.slotOf Z "java/lang/String" "value" "[B") u) : own_SV Z h' a u v1 := ⟨Exa.wr W F.1, Fld.same W F.2.1, Fld.other W F.2.2 (Or.inr (slot_ne (C := "java/lang/String") (Or.inr (twd hw 17 rfl)) (Or.inr (twd hw 16 rfl)) (by decide) (t := .byte) (t' := (.array .byte)) (by decide) (by decide)))⟩
theorem own_SV.w1 {Z : State} {a0 : Array Value} {h h' : Heap} {a : Addr} {v0 v1 : Value} {u : Value} (hw : ∀ d ∈ tables_1, d.before a0 Z = true) (F : own_SV Z h a v0 v1) (W : Wr h h' a (Jvm.RoadKit.slotOf Z "java/lang/String" "coder" "B") u) : own_SV Z h' a v0 u := ⟨Exa.wr W F.1, Fld.other W F.2.1 (Or.inr (slot_ne (C := "java/lang/String") (Or.inr (twd hw 16 rfl)) (Or.inr (twd hw 17 rfl)) (by decide) (t := (.array .byte)) (t' := .byte) (by decide) (by decide))), Fld.same W F.2.2⟩
theorem own_SV.new {Z : State} {a0 : Array Value} {h : Heap} {a : Addr} (hw : ∀ d ∈ tables_1, d.before a0 Z = true) (E : Exa Z h a "java/lang/String") (D : ∀ {O nm d : String} {ty : FieldType}, Laid Z a0 "java/lang/String" O nm d → parseFieldDescriptor d = some ty → Fld Z h a O nm d (defaultValue ty)) : own_SV Z h a .null (.int 0) := ⟨E, D (Or.inr (twd hw 16 rfl)) (ty := (.array .byte)) (by decide), D (Or.inr (twd hw 17 rfl)) (ty := .byte) (by decide)⟩
section
variable {p : Program} {l : Launch} {e : Env} {R : Room} {s : State} {m : MethodId} {args : Array Value} {below : List Frame} {meth : Method} {c : Code} {Z : State} {a0 : Array Value} {y : MethodName} {bytes : ByteArray} {maxL : Nat} {ret : Option FieldType} {Q : Option Value → Heap → Prop} {P : Option Value → State → Prop} {n0 : Nat} {h : Heap} {k n : Nat} {f f' : JFrame} {pc pc' pt : Nat} {Ls : Array Slot} {S : List Value}
variable {EL : List (String × Nat)} {Q' : Option Value → State → Prop}
/-- as Q' says of the end, within the room, seen from s; constants may have been interned -/
def We (s : State) (R : Room) (n0 : Nat) (Q' : Option Value → State → Prop) : Option Value → State → Prop := fun v t => Q' v t ∧ ∃ L, Fr n0 L ∧ ReturnedEndW s (.returned v) t L R.cells R.slots
theorem G.narrowE {Qn : Option Value → Heap → Prop} (hq : ∀ v (t : State), Qn v t.heap → s.WarmedH t.vm → Q' v t) (nx : G p l e R s m args below meth c n0 (Wst s R n0 Qn) h k n f) : G p l e R s m args below meth c n0 (We s R n0 Q') h k n f := G.imp nx fun v t q => by
  obtain ⟨h1, L, h2, h3⟩ := q
  exact ⟨hq _ _ h1 h3.2.1, L, h2, ReturnedEndW.of_narrow h3.1 h3.2.1 h3.2.2⟩
/-- the contract of a method that may intern: the invariant of the held constants goes on -/
def ConH (l : Launch) (Z : State) (EL : List (String × Nat)) (y : MethodName) (bytes : ByteArray) (maxL : Nat) (ret : Option FieldType) (R : Room) (av : Array Value) (h : Heap) (n0 : Nat) (Q : Option Value → Heap → Prop) : Prop :=
  ∀ ws : List Jvm.Cond, MetFree l y (head1 (Jvm.Cond.code y bytes maxL ret :: ws) R) (fun a U => a = av ∧ Z.Warmed39 U.vm ∧ U.heap = h ∧ CHv Z EL U.vm h) (fun _ _ _ _ _ => True) (fun _ U o U' => ∃ v L, o = .returned v ∧ (Q v U'.heap ∧ Fr n0 L) ∧ CHr Z EL U.vm U.heap U'.vm U'.heap ∧ ReturnedEndW U o U' L R.cells R.slots)
theorem ConH.of {av : Array Value} (hy : plainFor y = true) (ef : ∀ m, entryFrame m av maxL = mkF m 0 Ls [])
    (body : ∀ p e s m below meth c, CHv Z EL s.vm h → Cx p s m meth c Z y bytes maxL ret → G p l e R s m av below meth c n0 (We s R n0 (fun v t => Q v t.heap ∧ CHr Z EL s.vm h t.vm t.heap)) h 0 0 (mkF m 0 Ls [])) : ConH l Z EL y bytes maxL ret R av h n0 Q := by
  intro ws
  refine MetFree.of_bodySF hy hisR ?_
  intro p e s m args below meth c s₁ Bd hml0 hP hK
  obtain ⟨rfl, hZ, hh, hc⟩ := hP
  have X0 : Stand p l e R s m _ below meth c s₁ [] 0 0 := Stand.of_body Bd
  have e0 : s₁.heap = h := by rw [← hh, Bd.state]; rfl
  obtain ⟨s₂, v, h1, h2, h3, ⟨h4, h4'⟩, L, h5, h6⟩ := body p e s m below meth c hc ⟨Bd.exec, hZ, Bd.bytes, hml0, findClass_of_methodNamed Bd.named, (name_of_methodNamed Bd.named Bd.method).1, Bd.returns, Bd.notSynchronized⟩ s₁ [] X0 e0 (Fr.nil n0)
  exact ⟨s₂, _, castTop (ef m) h1, h2, h3, v, L, rfl, ⟨h4, h5⟩, by rw [hh]; exact h4', h6⟩
/-- the contract of a law whose road may intern, from the start itself -/
def ConZ (l : Launch) (Z : State) (y : MethodName) (bytes : ByteArray) (maxL : Nat) (ret : Option FieldType) (R : Room) (av : Array Value) (h : Heap) (n0 : Nat) (Q : Option Value → Heap → Prop) : Prop :=
  ∀ ws : List Jvm.Cond, MetFree l y (head1 (Jvm.Cond.code y bytes maxL ret :: ws) R) (fun a U => a = av ∧ U = Z ∧ Z.heap = h) (fun _ _ _ _ _ => True) (fun _ U o U' => ∃ v L, o = .returned v ∧ (Q v U'.heap ∧ Fr n0 L) ∧ ReturnedEndW U o U' L R.cells R.slots)
theorem ConZ.of {av : Array Value} (hy : plainFor y = true) (ef : ∀ m, entryFrame m av maxL = mkF m 0 Ls [])
    (body : ∀ p e s m below meth c, s = Z → Z.heap = h → Cx p s m meth c Z y bytes maxL ret → G p l e R s m av below meth c n0 (We s R n0 (fun v t => Q v t.heap)) h 0 0 (mkF m 0 Ls [])) : ConZ l Z y bytes maxL ret R av h n0 Q := by
  intro ws
  refine MetFree.of_bodySF hy hisR ?_
  intro p e s m args below meth c s₁ Bd hml0 hP hK
  obtain ⟨rfl, hs, hh⟩ := hP
  have X0 : Stand p l e R s m _ below meth c s₁ [] 0 0 := Stand.of_body Bd
  have e0 : s₁.heap = h := by rw [← hh, ← hs, Bd.state]; rfl
  obtain ⟨s₂, v, h1, h2, h3, h4, L, h5, h6⟩ := body p e s m below meth c hs hh ⟨Bd.exec, hs ▸ State.Warmed39.refl s, Bd.bytes, hml0, findClass_of_methodNamed Bd.named, (name_of_methodNamed Bd.named Bd.method).1, Bd.returns, Bd.notSynchronized⟩ s₁ [] X0 e0 (Fr.nil n0)
  exact ⟨s₂, _, castTop (ef m) h1, h2, h3, v, L, rfl, ⟨h4, h5⟩, h6⟩
/-- what is said of the end from a later table, said from the earlier one -/
theorem own_rebase {vm1 : Vm} {k1 : Nat} {h' : Heap} {v : Option Value} {t : State} (hS : s.Since vm1 k1) (hk1 : k1 ≤ h'.size) (q : We (s.setVm vm1) R n0 (fun v t => Q' v t ∧ h'.size ≤ t.heap.size) v t) : We s R n0 Q' v t := by
  obtain ⟨⟨q1, q2⟩, L, q3, q4, r1, r2, r3⟩ := q
  have z := hS.trans ⟨r1, r2⟩ (Nat.le_trans hk1 q2)
  exact ⟨q1, L, q3, q4, z.1, z.2, State.sameButNew.setVm r3 s.vm⟩
theorem own_chw (C : Cx p s m meth c Z y bytes maxL ret) (hEL : EW Z a0 EL) {z : Heap} (H : CHv Z EL s.vm z) {t : State} (w : s.WarmedH t.vm) : CHr Z EL s.vm z t.vm z := by
  have q := CHv.later (h' := z) C.2.1 (hW := (show (Jvm.RoadKit.Wst Z s.vm z).Warmed39 t.vm from w.wide)) hEL ⟨Nat.le_refl _, fun _ _ q => q⟩ (Or.inl w.interned_eq) H
  exact ⟨q.1, Nat.le_refl _, q.2⟩
theorem own_mapD (L : List Int32) (i : Nat) : (L.map Value.int).getD i (.int 0) = .int (L.getD i 0) := by
  rw [List.getD_eq_getElem?_getD, List.getD_eq_getElem?_getD, List.getElem?_map]
  cases L[i]? <;> rfl
def own_tab (L : List Int32) : Nat → Value := fun i => .int (L.getD i 0)
/-- ldc of a held text: her bytes are the text's -/
theorem G.ldcH (C : Cx p s m meth c Z y bytes maxL ret) (hEL : EW Z a0 EL) (H : CHv Z EL s.vm h) {ix nn : Nat} {text : String} {L : List Int32} {z : Int32} (hmem : (y.cls, ix) ∈ EL) (w : (Jvm.Cond.stringLink y.cls ix text).before a0 Z = true) (hS : ∀ a ∈ Bundle.stringAtoms, a.before a0 Z = true)
    (ht : (∀ c ∈ text.toList, c.toNat < 256) ∧ text.toList.map (fun c => Value.int (Jvm.Lit.byteI c.toNat.toUInt16)) = L.map Value.int) (hz : z.toInt = L.length) (hd : decode bytes pc = .ok (.ldc ix, 2)) (hn4 : 4 * text.toList.length ≤ nn) (hbig : nn ≤ 536870912) (hk : k + 2 ≤ R.cells) (hn : n + (nn + 4) ≤ R.slots) (hp : pc + 2 = pc')
    (nx : ∀ (vm1 : Vm) (h' : Heap) (a b : Addr), Ext h h' → Cx p (s.setVm vm1) m meth c Z y bytes maxL ret → Exa Z h' a "java/lang/String" → Fld Z h' a "java/lang/String" "value" "[B" (.ref b) → Fld Z h' a "java/lang/String" "coder" "B" (.int 0) → Ara Z h' b .byte L.length (own_tab L) → CHr Z EL s.vm h vm1 h' → (∀ x, Safe Z EL vm1 h' x → x ≠ a ∧ x ≠ b) →
      G p l e R (s.setVm vm1) m args below meth c n0 (We (s.setVm vm1) R n0 (fun v t => Q' v t ∧ h'.size ≤ t.heap.size)) h' (k + 2) (n + (nn + 4)) (mkF m pc' Ls (.ref a :: S))) : G p l e R s m args below meth c n0 (We s R n0 Q') h k n (mkF m pc Ls S) := fun T locs X eT N => by
  subst hp
  have X1 : Stand p l e R (s.setVm s.vm) m args below meth c T locs k n := by rw [State.setVm_self]; exact X
  have hz0 : ¬ z < 0 := by rw [Int32.lt_iff_toInt_lt, hz]; show ¬ ((L.length : Int) < 0); omega
  have hzl : z.toNatClampNeg = (L.map Value.int).length := by show z.toInt.toNat = _; rw [hz, List.length_map]; rfl
  obtain ⟨a, T', h', k1, b, kc, X', eT', E, hS', hk1, hW', hf', hExa, hFc, hFv, hA, -, -, hC, -, hSf, st⟩ := Jvm.RoadKit.ldcCH (Z := Z) X1 C.1 C.2.1 C.2.2.2.2.1 w hS eT ((State.WarmedH.refl s).since 0) (Nat.zero_le _) hEL hmem H ht hz0 hzl (g := mkF m pc Ls S) rfl (hb C.2.2.1 hd) hn4 hbig hk hn
  have C' : Cx p (s.setVm T'.vm) m meth c Z y bytes maxL ret := ⟨C.1, hW', C.2.2.1, C.2.2.2.1, hf', C.2.2.2.2.2⟩
  have O : Ara Z h' b .byte L.length (own_tab L) := by
    obtain ⟨cl, A, -, sz, -, H, -⟩ := hA
    have sz2 : cl.slots.size = L.length := by rw [sz, hzl, List.length_map]
    exact ⟨cl, A, sz2, fun i hi => by rw [H i (by omega), own_mapD]; rfl⟩
  obtain ⟨s₂, v, h1, h2, h3, hq⟩ := nx T'.vm h' a b E C' hExa hFv hFc O hC hSf T' locs X' eT' N
  exact ⟨s₂, v, st _ h1, h2, h3, own_rebase hS' hk1 hq⟩
/-- ldc of any text, opaque: the invariant goes on -/
theorem G.ldcO (C : Cx p s m meth c Z y bytes maxL ret) (hEL : EW Z a0 EL) (H : CHv Z EL s.vm h) {ix nn : Nat} {text : String} (w : (Jvm.Cond.stringLink y.cls ix text).before a0 Z = true) (hS : ∀ a ∈ Bundle.stringAtoms, a.before a0 Z = true) (hd : decode bytes pc = .ok (.ldc ix, 2)) (hn4 : 4 * text.toList.length ≤ nn) (hbig : nn ≤ 536870912) (hk : k + 2 ≤ R.cells) (hn : n + (nn + 4) ≤ R.slots) (hp : pc + 2 = pc')
    (nx : ∀ (vm1 : Vm) (h' : Heap) (a : Addr), Ext h h' → Cx p (s.setVm vm1) m meth c Z y bytes maxL ret → CHr Z EL s.vm h vm1 h' →
      G p l e R (s.setVm vm1) m args below meth c n0 (We (s.setVm vm1) R n0 (fun v t => Q' v t ∧ h'.size ≤ t.heap.size)) h' (k + 2) (n + (nn + 4)) (mkF m pc' Ls (.ref a :: S))) : G p l e R s m args below meth c n0 (We s R n0 Q') h k n (mkF m pc Ls S) := fun T locs X eT N => by
  subst hp
  have X1 : Stand p l e R (s.setVm s.vm) m args below meth c T locs k n := by rw [State.setVm_self]; exact X
  obtain ⟨a, T', h', k1, X', eT', E, hS', hk1, hW', hf', hC, -, st⟩ := Jvm.RoadKit.ldcOH (Z := Z) X1 C.1 C.2.1 C.2.2.2.2.1 w hS eT ((State.WarmedH.refl s).since 0) (Nat.zero_le _) hEL H (g := mkF m pc Ls S) rfl (hb C.2.2.1 hd) hn4 hbig hk hn
  have C' : Cx p (s.setVm T'.vm) m meth c Z y bytes maxL ret := ⟨C.1, hW', C.2.2.1, C.2.2.2.1, hf', C.2.2.2.2.2⟩
  obtain ⟨s₂, v, h1, h2, h3, hq⟩ := nx T'.vm h' a E C' hC T' locs X' eT' N
  exact ⟨s₂, v, st _ h1, h2, h3, own_rebase hS' hk1 hq⟩
theorem own_sarr {vm : Vm} {x : Addr} {ty : FieldType} {N : Nat} {F : Nat → Value} (hal : Z.vm.Alike vm) (A : Ara Z h x ty N F) (ht : ty ≠ .byte) : Safe Z EL vm h x := by
  obtain ⟨cl, A, -⟩ := A
  exact Safe.arr hal A ht
theorem G.callSH (C : Cx p s m meth c Z y bytes maxL ret) (hEL : EW Z a0 EL) (H : CHv Z EL s.vm h) {z : MethodName} {zb : ByteArray} {zl : Nat} {zr : Option FieldType} {Rz : Room} {av : List Value} {Qz : Option Value → Heap → Prop} {ix W : Nat} {ps : List FieldType} {r : Option FieldType} {St : List Value}
    (w1 : (Jvm.Cond.methodLink y.cls ix z).before a0 Z = true) (w2 : (Jvm.Cond.static z).before a0 Z = true) (w3 : (Jvm.Cond.initialized z.cls).before a0 Z = true) (w4 : (Jvm.Cond.code z zb zl zr).before a0 Z = true)
    (hz : z.cls ≠ "java/lang/invoke/MethodHandle" ∧ z.cls ≠ "java/lang/invoke/VarHandle") (K : ConH l Z EL z zb zl zr Rz av.toArray h n0 Qz) (hps : parseMethodDescriptor z.desc = some ⟨ps, r⟩) (hlen : av.length = ps.length) (hls : Ls.size = maxL)
    (hd : decode bytes pc = .ok (.invokestatic ix, 3)) (hst : St = av.reverse ++ S) (hW : (S.map fun v => v.category).sum ≤ W) (hf : Rz.frames + 1 ≤ R.frames) (hl : W + (zl + 11) + Rz.locals ≤ R.locals) (hk : k + Rz.cells ≤ R.cells) (hn : n + Rz.slots ≤ R.slots) (hp : pc + 3 = pc')
    (nx : ∀ v h' vm1, Qz v h' → CHr Z EL s.vm h vm1 h' → Cx p (s.setVm vm1) m meth c Z y bytes maxL ret → G p l e R (s.setVm vm1) m args below meth c n0 (We (s.setVm vm1) R n0 (fun v t => Q' v t ∧ h'.size ≤ t.heap.size)) h' (k + Rz.cells) (n + Rz.slots) (mkF m pc' Ls (v.toList ++ S))) : G p l e R s m args below meth c n0 (We s R n0 Q') h k n (mkF m pc Ls St) := fun T locs X eT N => by
  subst hp hst
  have B0 := backOfSH (p := p) (e := e) (below := below) (args := args) (s := s) (vm0 := s.vm) (R := R) (len := 3) (Q := fun v z L => Qz v z ∧ Fr n0 L) (W := W) (K []) C.2.1 w4 w3 hf hl hEL H
  rw [State.setVm_self] at B0
  obtain ⟨v, _, ⟨T', L', k', n'⟩, -, X', hS, hgr, ⟨Lc, hQ, l1, l2, l3, hC⟩, st⟩ := Jvm.RoadKit.callSS X C.1 (y := z) C.2.2.2.2.1 (mvT C.2.1 w1) (mvT C.2.1 w2) (mvT C.2.1 w3) (mvT C.2.1 w4) hz B0 (g := mkF m pc Ls (av.reverse ++ S)) rfl (by rw [C.2.2.2.1]; exact hls) (argsL := av) (rest := S) (lenOf hps hlen) rfl (cat_sum hW) (hb C.2.2.1 hd) (fun _ _ => ⟨rfl, eT, hk, hn⟩)
  dsimp only [Pt.U, Pt.locs, Pt.cells, Pt.slots] at X' l1 l2 l3 st hQ hS hgr hC
  subst l1 l2 l3
  have C' : Cx p (s.setVm T'.vm) m meth c Z y bytes maxL ret := ⟨C.1, State.Warmed39.trans (t := s) C.2.1 hS.1, C.2.2.1, C.2.2.2.1, by show T'.vm.findClass y.cls = _; rw [hS.1.alike.findClass]; exact C.2.2.2.2.1, C.2.2.2.2.2⟩
  obtain ⟨s₂, o, h1, h2, h3, rr⟩ := nx v T'.heap T'.vm hQ.1 hC C' T' _ X' rfl (Fr.app N hQ.2)
  exact ⟨s₂, o, st.trans h1, h2, h3, own_rebase hS (Nat.le_refl _) rr⟩
theorem G.callIH (C : Cx p s m meth c Z y bytes maxL ret) (hEL : EW Z a0 EL) (H : CHv Z EL s.vm h) {z : MethodName} {zb : ByteArray} {zl : Nat} {Rz : Room} {a : Addr} {av : List Value} {Qz : Option Value → Heap → Prop} {ix W : Nat} {ps : List FieldType} {r : Option FieldType} {St : List Value} (hz1 : z.name = "<init>")
    (w1 : (Jvm.Cond.methodLink y.cls ix z).before a0 Z = true) (w2 : (Jvm.Cond.instanceMethod z).before a0 Z = true) (w3 : (Jvm.Cond.initialized z.cls).before a0 Z = true) (w4 : (Jvm.Cond.code z zb zl none).before a0 Z = true)
    (hz : z.cls ≠ "java/lang/invoke/MethodHandle" ∧ z.cls ≠ "java/lang/invoke/VarHandle") (K : ConH l Z EL z zb zl none Rz (.ref a :: av).toArray h n0 Qz) (hps : parseMethodDescriptor z.desc = some ⟨ps, r⟩) (hlen : av.length = ps.length) (hls : Ls.size = maxL)
    (hd : decode bytes pc = .ok (.invokespecial ix, 3)) (hst : St = av.reverse ++ .ref a :: S) (hW : (S.map fun v => v.category).sum ≤ W) (hf : Rz.frames + 1 ≤ R.frames) (hl : W + (zl + 11) + Rz.locals ≤ R.locals) (hk : k + Rz.cells ≤ R.cells) (hn : n + Rz.slots ≤ R.slots) (hp : pc + 3 = pc')
    (nx : ∀ v h' vm1, Qz v h' → CHr Z EL s.vm h vm1 h' → Cx p (s.setVm vm1) m meth c Z y bytes maxL ret → G p l e R (s.setVm vm1) m args below meth c n0 (We (s.setVm vm1) R n0 (fun v t => Q' v t ∧ h'.size ≤ t.heap.size)) h' (k + Rz.cells) (n + Rz.slots) (mkF m pc' Ls (v.toList ++ S))) : G p l e R s m args below meth c n0 (We s R n0 Q') h k n (mkF m pc Ls St) := fun T locs X eT N => by
  subst hp hst
  have B0 := backOfSH (p := p) (e := e) (below := below) (args := args) (s := s) (vm0 := s.vm) (R := R) (len := 3) (Q := fun v z L => Qz v z ∧ Fr n0 L) (W := W) (K []) C.2.1 w4 w3 hf hl hEL H
  rw [State.setVm_self] at B0
  obtain ⟨v, _, ⟨T', L', k', n'⟩, -, X', hS, hgr, ⟨Lc, hQ, l1, l2, l3, hC⟩, st⟩ := X.specialBackS C.1 (y := z) hz1 C.2.2.2.2.1 (mvT C.2.1 w1) (mvT C.2.1 w2) (mvT C.2.1 w4) hz B0 (g := mkF m pc Ls (av.reverse ++ .ref a :: S)) rfl (by rw [C.2.2.2.1]; exact hls) (Steps.refl _) (a := a) (argsL := av) (rest := S) (lenOf hps hlen) rfl (cat_sum hW) (hb C.2.2.1 hd) (fun _ _ => ⟨rfl, eT, hk, hn⟩)
  dsimp only [Pt.U, Pt.locs, Pt.cells, Pt.slots] at X' l1 l2 l3 st hQ hS hgr hC
  subst l1 l2 l3
  have C' : Cx p (s.setVm T'.vm) m meth c Z y bytes maxL ret := ⟨C.1, State.Warmed39.trans (t := s) C.2.1 hS.1, C.2.2.1, C.2.2.2.1, by show T'.vm.findClass y.cls = _; rw [hS.1.alike.findClass]; exact C.2.2.2.2.1, C.2.2.2.2.2⟩
  obtain ⟨s₂, o, h1, h2, h3, rr⟩ := nx v T'.heap T'.vm hQ.1 hC C' T' _ X' rfl (Fr.app N hQ.2)
  exact ⟨s₂, o, st.trans h1, h2, h3, own_rebase hS (Nat.le_refl _) rr⟩
/-- a String whose value is still null is no held constant -/
theorem own_safe {vm : Vm} {x : Addr} (hal : Z.vm.Alike vm) (E : Exa Z h x "java/lang/String") (F : Fld Z h x "java/lang/String" "value" "[B" .null) : Safe Z EL vm h x := fun B => by
  obtain ⟨pp, -, u, a, -, q, -, Fq, rfl | rfl⟩ := B
  · obtain ⟨cS, ⟨⟨s1, s2, s3, ⟨cv, kv, iv, s4, s4'⟩, -, s6, s7, s8, -⟩, -, -⟩, -⟩ := Fq
    obtain ⟨kv', z4⟩ := ff_back (U := Jvm.RoadKit.Wst Z vm h) hal s4
    obtain ⟨cl, cf, kf, jf, ff, g1, g2, g3, g4, g5, g6, g7⟩ := F
    cases (show h[q.sa]? = some q.sC from s1).symm.trans g1
    cases z4.symm.trans g2
    have := g7.symm.trans s8
    cases this
  · obtain ⟨cl, k0, e1, e2, e3, e4, -⟩ := E
    obtain ⟨cS, ⟨⟨-, -, -, -, -, -, -, -, -, s10, ⟨-, kB, hkB, compB, hkindB⟩, -⟩, hfS, -⟩, ⟨kS, g1, g2, -⟩, -⟩ := Fq
    cases (show h[q.sd]? = some q.SA from s10).symm.trans e1
    have hf : vm.findClass "java/lang/String" = some q.SA.cls := by rw [hal.findClass]; exact e2
    cases (show vm.findClass "java/lang/String" = some cS from hfS).symm.trans hf
    cases (show vm.classes[q.SA.cls]? = some kS from g1).symm.trans (show vm.classes[q.SA.cls]? = some kB from hkB)
    rw [g2] at hkindB
    cases hkindB
end

/-- a Latin-1 string whose bytes are L -/
def own_S (Z : State) (h : Heap) (a va : Addr) (L : List Int32) : Prop := Exa Z h a "java/lang/String" ∧ Fld Z h a "java/lang/String" "value" "[B" (.ref va) ∧ Fld Z h a "java/lang/String" "coder" "B" (.int (0 : Int32)) ∧ Ara Z h va .byte L.length (own_tab L) ∧ L.length < 1000
theorem own_S.ext {Z : State} {h h' : Heap} {a va : Addr} {L : List Int32} (O : own_S Z h a va L) (E : Ext h h') : own_S Z h' a va L := ⟨Exa.ext E O.1, Fld.ext E O.2.1, Fld.ext E O.2.2.1, Ara.ext O.2.2.2.1 E, O.2.2.2.2⟩
theorem own_tset (L : List Int32) (j : Nat) (x : Int32) (hj : j < L.length) (q : Nat) : (if q = j then Value.int x else own_tab L q) = own_tab (L.set j x) q := by
  unfold own_tab
  rw [List.getD_eq_getElem?_getD, List.getD_eq_getElem?_getD, List.getElem?_set]
  by_cases e : q = j
  · subst e; simp [hj]
  · rw [if_neg e, if_neg (fun z => e z.symm)]
theorem own_t0 (n q : Nat) : Value.int 0 = own_tab (List.replicate n (0 : Int32)) q := by
  unfold own_tab
  rw [List.getD_eq_getElem?_getD, List.getElem?_replicate]
  split <;> rfl
theorem own_nb (x : Int32) : nar .byte (x.toInt8.toInt32) = x.toInt8.toInt32 := by
  apply Int32.toInt_inj.mp
  have a := c_i2b x
  have b := c_i2b x.toInt8.toInt32
  show (x.toInt8.toInt32.toInt8.toInt32).toInt = _
  omega
theorem own_nc {x : Int32} (h : 0 ≤ x.toInt ∧ x.toInt ≤ 255) : nar .char x = x := by
  apply Int32.toInt_inj.mp
  have b := c_i2c x
  show (x.toUInt32.toUInt16.toUInt32.toInt32).toInt = _
  omega
theorem own_le {x : Int32} (h : 0 ≤ x.toInt ∧ x.toInt ≤ 255) : ¬ (255 : Int32) < x := by
  rw [Int32.lt_iff_toInt_lt]; show ¬ ((255 : Int) < x.toInt); omega
theorem own_c8 (x : Int32) : 0 ≤ ((x &&& (255 : Int32)).toUInt32.toUInt16.toUInt32.toInt32).toInt ∧ ((x &&& (255 : Int32)).toUInt32.toUInt16.toUInt32.toInt32).toInt ≤ 255 := by
  have a := c_mask x 255 8 (by decide) (by decide)
  have b := c_i2c (x &&& (255 : Int32))
  omega
theorem own_sa {Z : State} {a0 : Array Value} (hw : ∀ d ∈ tables_1, d.before a0 Z = true) : ∀ a ∈ Bundle.stringAtoms, a.before a0 Z = true := by
  intro q hq
  simp only [Bundle.stringAtoms, List.mem_cons, List.not_mem_nil, or_false] at hq
  rcases hq with rfl | rfl | rfl | rfl | rfl | rfl | rfl
  · exact twd hw 3 rfl
  · exact twd hw 2 rfl
  · exact twd hw 15 rfl
  · exact twd hw 16 rfl
  · exact twd hw 17 rfl
  · exact twd hw 18 rfl
  · exact twd hw 19 rfl
def own_EL : List (String × Nat) := [("java/lang/String", 7)]
theorem own_hEL {Z : State} {a0 : Array Value} (hw : ∀ d ∈ tables_1, d.before a0 Z = true) : EW Z a0 own_EL := EW.cons (twd hw 14 rfl) (by decide) EW.nil
theorem d2_0 : decode jdk_42_method_149_code 0 = .ok (.aload_n 0, 1) := by decide +kernel
theorem d2_1 : decode jdk_42_method_149_code 1 = .ok (.invokespecial 1, 3) := by decide +kernel
theorem d2_4 : decode jdk_42_method_149_code 4 = .ok (.iload_n 3, 1) := by decide +kernel
theorem d2_5 : decode jdk_42_method_149_code 5 = .ok (.ifCond .ne 22, 3) := by decide +kernel
theorem d2_8 : decode jdk_42_method_149_code 8 = .ok (.aload_n 0, 1) := by decide +kernel
theorem d2_9 : decode jdk_42_method_149_code 9 = .ok (.ldc 7, 2) := by decide +kernel
theorem d2_11 : decode jdk_42_method_149_code 11 = .ok (.getfield 9, 3) := by decide +kernel
theorem d2_14 : decode jdk_42_method_149_code 14 = .ok (.putfield 9, 3) := by decide +kernel
theorem d2_17 : decode jdk_42_method_149_code 17 = .ok (.aload_n 0, 1) := by decide +kernel
theorem d2_18 : decode jdk_42_method_149_code 18 = .ok (.ldc 7, 2) := by decide +kernel
theorem d2_20 : decode jdk_42_method_149_code 20 = .ok (.getfield 15, 3) := by decide +kernel
theorem d2_23 : decode jdk_42_method_149_code 23 = .ok (.putfield 15, 3) := by decide +kernel
theorem d2_26 : decode jdk_42_method_149_code 26 = .ok (.return_, 1) := by decide +kernel
theorem d2_27 : decode jdk_42_method_149_code 27 = .ok (.getstatic 38, 3) := by decide +kernel
theorem d2_30 : decode jdk_42_method_149_code 30 = .ok (.ifCond .eq 28, 3) := by decide +kernel
theorem d2_33 : decode jdk_42_method_149_code 33 = .ok (.aload_n 1, 1) := by decide +kernel
theorem d2_34 : decode jdk_42_method_149_code 34 = .ok (.iload_n 2, 1) := by decide +kernel
theorem d2_35 : decode jdk_42_method_149_code 35 = .ok (.iload_n 3, 1) := by decide +kernel
theorem d2_36 : decode jdk_42_method_149_code 36 = .ok (.invokestatic 177, 3) := by decide +kernel
theorem d2_39 : decode jdk_42_method_149_code 39 = .ok (.astore 5, 2) := by decide +kernel
theorem d2_41 : decode jdk_42_method_149_code 41 = .ok (.aload_n 0, 1) := by decide +kernel
theorem d2_42 : decode jdk_42_method_149_code 42 = .ok (.aload 5, 2) := by decide +kernel
theorem d2_44 : decode jdk_42_method_149_code 44 = .ok (.iload_n 3, 1) := by decide +kernel
theorem d2_45 : decode jdk_42_method_149_code 45 = .ok (.invokestatic 47, 3) := by decide +kernel
theorem d2_48 : decode jdk_42_method_149_code 48 = .ok (.putfield 15, 3) := by decide +kernel
theorem d2_51 : decode jdk_42_method_149_code 51 = .ok (.aload_n 0, 1) := by decide +kernel
theorem d2_52 : decode jdk_42_method_149_code 52 = .ok (.aload 5, 2) := by decide +kernel
theorem d2_54 : decode jdk_42_method_149_code 54 = .ok (.putfield 9, 3) := by decide +kernel
theorem d2_57 : decode jdk_42_method_149_code 57 = .ok (.return_, 1) := by decide +kernel
theorem d2_58 : decode jdk_42_method_149_code 58 = .ok (.aload_n 0, 1) := by decide +kernel
theorem d2_59 : decode jdk_42_method_149_code 59 = .ok (.iconst 1, 1) := by decide +kernel
theorem d2_60 : decode jdk_42_method_149_code 60 = .ok (.putfield 15, 3) := by decide +kernel
theorem d2_63 : decode jdk_42_method_149_code 63 = .ok (.aload_n 0, 1) := by decide +kernel
theorem d2_64 : decode jdk_42_method_149_code 64 = .ok (.aload_n 1, 1) := by decide +kernel
theorem d2_65 : decode jdk_42_method_149_code 65 = .ok (.iload_n 2, 1) := by decide +kernel
theorem d2_66 : decode jdk_42_method_149_code 66 = .ok (.iload_n 3, 1) := by decide +kernel
theorem d2_67 : decode jdk_42_method_149_code 67 = .ok (.invokestatic 180, 3) := by decide +kernel
theorem d2_70 : decode jdk_42_method_149_code 70 = .ok (.putfield 9, 3) := by decide +kernel
theorem d2_73 : decode jdk_42_method_149_code 73 = .ok (.return_, 1) := by decide +kernel
theorem pn0 : plainName "java/lang/String" = true := by first | (simp [plainName, overriddenIn]; done) | decide +kernel
theorem ef_cE (m : MethodId) (a1 : Addr) (a2 : Addr) : entryFrame m #[(.ref a1), (.ref a2), (.int (0 : Int32)), (.int (0 : Int32)), .null] 6 = mkF m 0 #[.val (.ref a1), .val (.ref a2), .val (.int (0 : Int32)), .val (.int (0 : Int32)), .val .null, .unset] [] := by first | (simp [entryFrame, mkF, argsToLocals, Value.category]; done) | rfl
set_option maxRecDepth 65536 in
set_option maxHeartbeats 40000000 in
theorem cE (l : Launch) (Z : State) (a0 : Array Value) (hw : ∀ d ∈ tables_1, d.before a0 Z = true) (a1 : Addr) (a2 : Addr) (h : Heap) (n0 : Nat) (ge : n0 ≤ a1) (O : own_SV Z h a1 .null (.int (0 : Int32))) : ConH l Z own_EL (⟨"java/lang/String", "<init>", "([CIILjava/lang/Void;)V"⟩ : MethodName) jdk_42_method_149_code 6 none ({ frames := 1, cells := 4, slots := 8, locals := 12 } : Room) #[(.ref a1), (.ref a2), (.int (0 : Int32)), (.int (0 : Int32)), .null] h n0 (fun v h' => v = none ∧ ∃ b, own_SV Z h' a1 (.ref b) (.int (0 : Int32)) ∧ Ara Z h' b .byte 0 (own_tab []) ∧ Kp h h' [a1]) := by
  refine ConH.of (plainFor_of_name pn0) (fun m => ef_cE m a1 a2) ?_
  intro p e s m below meth c H0 C
  refine G.aloadN C d2_0 rfl rfl rfl ?_
  refine G.initO C (W := 0) (twd hw 11 rfl) (twd hw 12 rfl) (twd hw 13 rfl) rfl d2_1 (by decide) (Nat.le_of_eq rfl) (by decide) rfl ?_
  refine G.iloadN C d2_4 rfl rfl ?_
  refine G.ifne C d2_5 (by decide) (pt := 27) (by decide) rfl (fun q => absurd q (by decide)) (fun _ => ?_)
  refine G.aloadN C d2_8 rfl rfl rfl ?_
  refine G.ldcH C (own_hEL hw) H0 (nn := 0) (L := []) (z := 0) (by simp [own_EL]) (twd hw 14 rfl) (own_sa hw) (by decide +kernel) (by decide) d2_9 (by decide) (by decide) (by decide) (by decide) rfl (fun vm9 h9 a9 b9 E9 C x9 fv9 fc9 A9 R9 Sf9 => ?_)
  have oc1 := own_SV.ext O E9
  have kp2 := Kp.ext (Kp.refl h [a1]) E9
  have S9 : Safe Z own_EL vm9 h9 a1 := own_safe C.2.1.alike oc1.1 oc1.2.1
  have lt9 := Exa.lt oc1.1
  have nb9 := (Sf9 a1 S9).2
  show G p l e _ _ m _ below meth c n0 _ h9 2 4 (mkF m 11 #[.val (.ref a1), .val (.ref a2), .val (.int (0 : Int32)), .val (.int (0 : Int32)), .val .null, .unset] [(.ref a9), (.ref a1)])
  refine G.getF C (twd hw 20 rfl) fv9 d2_11 rfl ?_
  refine G.putF C (twd hw 20 rfl) (oc1).2.1 (oc1).1 (Or.inr ⟨(twd hw 16 rfl), rfl, rfl⟩) (twd hw 2 rfl) (ty := (.array .byte)) (by decide) rfl rfl ge d2_14 rfl (fun hn3 W14 => ?_)
  have oc4 := Ara.oth A9 W14 (Ne.symm nb9)
  have kp5 := Kp.wr kp2 W14 (Or.inl (by simp))
  have oc6 := own_SV.w0 hw oc1 W14
  have R14 := CHr.wr W14 S9 R9.1
  have S14 := CHr.safe R14 lt9 S9
  refine G.aloadN C d2_17 rfl rfl rfl ?_
  refine G.ldcH C (own_hEL hw) R14.1 (nn := 0) (L := []) (z := 0) (by simp [own_EL]) (twd hw 14 rfl) (own_sa hw) (by decide +kernel) (by decide) d2_18 (by decide) (by decide) (by decide) (by decide) rfl (fun vm18 h18 a18 b18 E18 C x18 fv18 fc18 A18 R18 Sf18 => ?_)
  have oc7 := own_SV.ext oc6 E18
  have oc8 := Ara.ext oc4 E18
  have kp9 := Kp.ext kp5 E18
  have S18 := CHr.safe R18 (Exa.lt oc6.1) S14
  show G p l e _ _ m _ below meth c n0 _ h18 4 8 (mkF m 20 #[.val (.ref a1), .val (.ref a2), .val (.int (0 : Int32)), .val (.int (0 : Int32)), .val .null, .unset] [(.ref a18), (.ref a1)])
  refine G.getF C (twd hw 21 rfl) fc18 d2_20 rfl ?_
  refine G.putF C (twd hw 21 rfl) (oc7).2.2 (oc7).1 (Or.inr ⟨(twd hw 17 rfl), rfl, rfl⟩) (twd hw 2 rfl) (ty := .byte) (by decide) rfl rfl ge d2_23 rfl (fun hn10 W23 => ?_)
  have oc11 := Ara.oth oc8 W23 (Ne.symm nb9)
  have kp12 := Kp.wr kp9 W23 (Or.inl (by simp))
  have oc13 := own_SV.w1 hw oc7 W23
  have R23 := CHr.wr W23 S18 R18.1
  refine G.narrowE (Qn := fun v z => ((fun v h' => v = none ∧ ∃ b, own_SV Z h' a1 (.ref b) (.int (0 : Int32)) ∧ Ara Z h' b .byte 0 (own_tab []) ∧ Kp h h' [a1]) v z) ∧ CHr Z own_EL s.vm h vm18 z ∧ h9.size ≤ z.size ∧ h18.size ≤ z.size) (fun v t q w => ⟨⟨⟨q.1, CHr.trans q.2.1 (own_chw C (own_hEL hw) q.2.1.1 w)⟩, q.2.2.1⟩, q.2.2.2⟩) ?_
  exact G.retV C d2_26 (by decide) (by decide) (⟨⟨rfl, b9, oc13, oc11, kp12⟩, CHr.trans R9 (CHr.trans R14 (CHr.trans R18 R23)), (CHr.trans R14 (CHr.trans R18 R23)).2.1, R23.2.1⟩)
theorem d1_0 : decode jdk_42_method_3_code 0 = .ok (.aload_n 0, 1) := by decide +kernel
theorem d1_1 : decode jdk_42_method_3_code 1 = .ok (.aload_n 1, 1) := by decide +kernel
theorem d1_2 : decode jdk_42_method_3_code 2 = .ok (.iconst 0, 1) := by decide +kernel
theorem d1_3 : decode jdk_42_method_3_code 3 = .ok (.aload_n 1, 1) := by decide +kernel
theorem d1_4 : decode jdk_42_method_3_code 4 = .ok (.arraylength, 1) := by decide +kernel
theorem d1_5 : decode jdk_42_method_3_code 5 = .ok (.aconst_null, 1) := by decide +kernel
theorem d1_6 : decode jdk_42_method_3_code 6 = .ok (.invokespecial 27, 3) := by decide +kernel
theorem d1_9 : decode jdk_42_method_3_code 9 = .ok (.return_, 1) := by decide +kernel
theorem ef_cE2 (m : MethodId) (a1 : Addr) (a2 : Addr) : entryFrame m #[(.ref a1), (.ref a2)] 2 = mkF m 0 #[.val (.ref a1), .val (.ref a2)] [] := by first | (simp [entryFrame, mkF, argsToLocals, Value.category]; done) | rfl
set_option maxRecDepth 65536 in
set_option maxHeartbeats 40000000 in
theorem cE2 (l : Launch) (Z : State) (a0 : Array Value) (hw : ∀ d ∈ tables_1, d.before a0 Z = true) (a1 : Addr) (a2 : Addr) (h : Heap) (n0 : Nat) (ge : n0 ≤ a1) (O : own_SV Z h a1 .null (.int (0 : Int32))) (A : Ara Z h a2 .char 0 (own_tab [])) : ConH l Z own_EL (⟨"java/lang/String", "<init>", "([C)V"⟩ : MethodName) jdk_42_method_3_code 2 none ({ frames := 2, cells := 4, slots := 8, locals := 29 } : Room) #[(.ref a1), (.ref a2)] h n0 (fun v h' => v = none ∧ ∃ b, own_SV Z h' a1 (.ref b) (.int (0 : Int32)) ∧ Ara Z h' b .byte 0 (own_tab []) ∧ Kp h h' [a1]) := by
  refine ConH.of (plainFor_of_name pn0) (fun m => ef_cE2 m a1 a2) ?_
  intro p e s m below meth c H0 C
  refine G.aloadN C d1_0 rfl rfl rfl ?_
  refine G.aloadN C d1_1 rfl rfl rfl ?_
  refine G.iconst C d1_2 (v := (0 : Int32)) rfl rfl ?_
  refine G.aloadN C d1_3 rfl rfl rfl ?_
  refine G.arrlen C A (z := (0 : Int32)) rfl d1_4 rfl ?_
  refine G.aconst_null C d1_5 rfl ?_
  refine G.callIH C (own_hEL hw) H0 (S := []) (W := 0) rfl (twd hw 7 rfl) (twd hw 8 rfl) (twd hw 3 rfl) (twd hw 10 rfl) (by decide) (cE l Z a0 hw a1 a2 h n0 ge O) pd1 rfl rfl d1_6 rfl (Nat.le_of_eq rfl) (by decide) (by decide) (by decide) (by decide) rfl (fun whp1 hp1 vm6 hq2 R6 C => ?_)
  obtain ⟨rfl, qe⟩ := hq2
  show G p l e _ _ m _ below meth c n0 _ hp1 4 8 (mkF m 9 #[.val (.ref a1), .val (.ref a2)] [])
  refine G.narrowE (Qn := fun v z => ((fun v h' => v = none ∧ ∃ b, own_SV Z h' a1 (.ref b) (.int (0 : Int32)) ∧ Ara Z h' b .byte 0 (own_tab []) ∧ Kp h h' [a1]) v z) ∧ CHr Z own_EL s.vm h vm6 z ∧ hp1.size ≤ z.size) (fun v t q w => ⟨⟨q.1, CHr.trans q.2.1 (own_chw C (own_hEL hw) q.2.1.1 w)⟩, q.2.2⟩) ?_
  exact G.retV C d1_9 (by decide) (by decide) (⟨⟨rfl, qe⟩, R6, Nat.le_refl _⟩)
theorem d9_0 : decode jdk_52_method_21_code 0 = .ok (.iconst 0, 1) := by decide +kernel
theorem d9_1 : decode jdk_52_method_21_code 1 = .ok (.istore 5, 2) := by decide +kernel
theorem d9_3 : decode jdk_52_method_21_code 3 = .ok (.iload 5, 2) := by decide +kernel
theorem d9_5 : decode jdk_52_method_21_code 5 = .ok (.iload 4, 2) := by decide +kernel
theorem d9_7 : decode jdk_52_method_21_code 7 = .ok (.if_icmp .ge 37, 3) := by decide +kernel
theorem d9_10 : decode jdk_52_method_21_code 10 = .ok (.aload_n 0, 1) := by decide +kernel
theorem d9_11 : decode jdk_52_method_21_code 11 = .ok (.iload_n 1, 1) := by decide +kernel
theorem d9_12 : decode jdk_52_method_21_code 12 = .ok (.caload, 1) := by decide +kernel
theorem d9_13 : decode jdk_52_method_21_code 13 = .ok (.istore 6, 2) := by decide +kernel
theorem d9_15 : decode jdk_52_method_21_code 15 = .ok (.iload 6, 2) := by decide +kernel
theorem d9_17 : decode jdk_52_method_21_code 17 = .ok (.sipush 255, 3) := by decide +kernel
theorem d9_20 : decode jdk_52_method_21_code 20 = .ok (.if_icmp .le 6, 3) := by decide +kernel
theorem d9_23 : decode jdk_52_method_21_code 23 = .ok (.iload 5, 2) := by decide +kernel
theorem d9_25 : decode jdk_52_method_21_code 25 = .ok (.ireturn, 1) := by decide +kernel
theorem d9_26 : decode jdk_52_method_21_code 26 = .ok (.aload_n 2, 1) := by decide +kernel
theorem d9_27 : decode jdk_52_method_21_code 27 = .ok (.iload_n 3, 1) := by decide +kernel
theorem d9_28 : decode jdk_52_method_21_code 28 = .ok (.iload 6, 2) := by decide +kernel
theorem d9_30 : decode jdk_52_method_21_code 30 = .ok (.i2b, 1) := by decide +kernel
theorem d9_31 : decode jdk_52_method_21_code 31 = .ok (.bastore, 1) := by decide +kernel
theorem d9_32 : decode jdk_52_method_21_code 32 = .ok (.iinc 1 1, 3) := by decide +kernel
theorem d9_35 : decode jdk_52_method_21_code 35 = .ok (.iinc 3 1, 3) := by decide +kernel
theorem d9_38 : decode jdk_52_method_21_code 38 = .ok (.iinc 5 1, 3) := by decide +kernel
theorem d9_41 : decode jdk_52_method_21_code 41 = .ok (.goto (-38), 3) := by decide +kernel
theorem d9_44 : decode jdk_52_method_21_code 44 = .ok (.iload 4, 2) := by decide +kernel
theorem d9_46 : decode jdk_52_method_21_code 46 = .ok (.ireturn, 1) := by decide +kernel
theorem pn1 : plainName "java/lang/StringUTF16" = true := by first | (simp [plainName, overriddenIn]; done) | decide +kernel
theorem ef_cK2 (m : MethodId) (a1 : Addr) (a3 : Addr) : entryFrame m #[(.ref a1), (.int (0 : Int32)), (.ref a3), (.int (0 : Int32)), (.int (2 : Int32))] 7 = mkF m 0 #[.val (.ref a1), .val (.int (0 : Int32)), .val (.ref a3), .val (.int (0 : Int32)), .val (.int (2 : Int32)), .unset, .unset] [] := by first | (simp [entryFrame, mkF, argsToLocals, Value.category]; done) | rfl
set_option maxRecDepth 65536 in
set_option maxHeartbeats 40000000 in
theorem cK2 (l : Launch) (Z : State) (a0 : Array Value) (hw : ∀ d ∈ tables_1, d.before a0 Z = true) (a1 : Addr) (a3 : Addr) (h : Heap) (n0 : Nat) (c0 c1 : Int32) (r0 : 0 ≤ c0.toInt ∧ c0.toInt ≤ 255) (r1 : 0 ≤ c1.toInt ∧ c1.toInt ≤ 255) (A : Ara Z h a1 .char 2 (own_tab [c0, c1])) (B : Ara Z h a3 .byte 2 (own_tab [(0 : Int32), (0 : Int32)])) (ge : n0 ≤ a3) (ne : a1 ≠ a3) : Con l Z (⟨"java/lang/StringUTF16", "compress", "([CI[BII)I"⟩ : MethodName) jdk_52_method_21_code 7 (some .int) ({ frames := 0, cells := 0, slots := 0, locals := 0 } : Room) #[(.ref a1), (.int (0 : Int32)), (.ref a3), (.int (0 : Int32)), (.int (2 : Int32))] h n0 (fun v h' => v = some (.int (2 : Int32)) ∧ Ara Z h' a3 .byte 2 (own_tab [(c0.toInt8.toInt32), (c1.toInt8.toInt32)]) ∧ Kp h h' [a3]) := by
  refine Con.of (plainFor_of_name pn1) (fun m => ef_cK2 m a1 a3) ?_
  intro p e s m below meth c C
  refine G.iconst C d9_0 (v := (0 : Int32)) rfl rfl ?_
  refine G.istore C d9_1 (Ls' := #[.val (.ref a1), .val (.int (0 : Int32)), .val (.ref a3), .val (.int (0 : Int32)), .val (.int (2 : Int32)), .val (.int (0 : Int32)), .unset]) rfl rfl ?_
  refine G.iload C d9_3 rfl rfl ?_
  refine G.iload C d9_5 rfl rfl ?_
  refine G.icge C d9_7 (by decide) (pt := 44) (by decide) rfl (fun q => absurd q (by decide)) (fun _ => ?_)
  refine G.aloadN C d9_10 rfl rfl rfl ?_
  refine G.iloadN C d9_11 rfl rfl ?_
  refine G.caload C A (by decide) d9_12 rfl ?_
  show G p l e _ _ m _ below meth c n0 _ h 0 0 (mkF m 13 #[.val (.ref a1), .val (.int (0 : Int32)), .val (.ref a3), .val (.int (0 : Int32)), .val (.int (2 : Int32)), .val (.int (0 : Int32)), .unset] [(.int c0)])
  refine G.istore C d9_13 (Ls' := #[.val (.ref a1), .val (.int (0 : Int32)), .val (.ref a3), .val (.int (0 : Int32)), .val (.int (2 : Int32)), .val (.int (0 : Int32)), .val (.int c0)]) rfl rfl ?_
  refine G.iload C d9_15 rfl rfl ?_
  refine G.sipush C d9_17 (v := (255 : Int32)) rfl rfl ?_
  refine G.icle C d9_20 (by decide) (pt := 26) (by decide) rfl (fun hc20 => ?_) (fun hc20 => absurd hc20 (own_le (by assumption)))
  refine G.aloadN C d9_26 rfl rfl rfl ?_
  refine G.iloadN C d9_27 rfl rfl ?_
  refine G.iload C d9_28 rfl rfl ?_
  refine G.i2b C d9_30 rfl ?_
  refine G.bastoreB C B (by decide) ge d9_31 rfl (fun hn1 W31 => ?_)
  have Wbhn1 : Wr h hn1 a3 0 (.int (c0.toInt8.toInt32)) := by have e := W31; rw [(own_nb _)] at e; exact e
  have oc2 := Ara.oth A W31 ne
  have kp3 := Kp.wr (Kp.refl h [a3]) W31 (Or.inl (by simp))
  have Awhn1 : Ara Z hn1 a3 .byte 2 (own_tab [(c0.toInt8.toInt32), (0 : Int32)]) := Ara.cast (Ara.set B Wbhn1) (fun q hq => own_tset [(0 : Int32), (0 : Int32)] 0 (c0.toInt8.toInt32) (show 0 < 2 by decide) q)
  refine G.iinc C d9_32 rfl (z := (1 : Int32)) rfl (Ls' := #[.val (.ref a1), .val (.int ((0 : Int32) + (1 : Int32))), .val (.ref a3), .val (.int (0 : Int32)), .val (.int (2 : Int32)), .val (.int (0 : Int32)), .val (.int c0)]) rfl rfl ?_
  show G p l e _ _ m _ below meth c n0 _ hn1 0 0 (mkF m 35 #[.val (.ref a1), .val (.int (1 : Int32)), .val (.ref a3), .val (.int (0 : Int32)), .val (.int (2 : Int32)), .val (.int (0 : Int32)), .val (.int c0)] [])
  refine G.iinc C d9_35 rfl (z := (1 : Int32)) rfl (Ls' := #[.val (.ref a1), .val (.int (1 : Int32)), .val (.ref a3), .val (.int ((0 : Int32) + (1 : Int32))), .val (.int (2 : Int32)), .val (.int (0 : Int32)), .val (.int c0)]) rfl rfl ?_
  show G p l e _ _ m _ below meth c n0 _ hn1 0 0 (mkF m 38 #[.val (.ref a1), .val (.int (1 : Int32)), .val (.ref a3), .val (.int (1 : Int32)), .val (.int (2 : Int32)), .val (.int (0 : Int32)), .val (.int c0)] [])
  refine G.iinc C d9_38 rfl (z := (1 : Int32)) rfl (Ls' := #[.val (.ref a1), .val (.int (1 : Int32)), .val (.ref a3), .val (.int (1 : Int32)), .val (.int (2 : Int32)), .val (.int ((0 : Int32) + (1 : Int32))), .val (.int c0)]) rfl rfl ?_
  show G p l e _ _ m _ below meth c n0 _ hn1 0 0 (mkF m 41 #[.val (.ref a1), .val (.int (1 : Int32)), .val (.ref a3), .val (.int (1 : Int32)), .val (.int (2 : Int32)), .val (.int (1 : Int32)), .val (.int c0)] [])
  refine G.goto C d9_41 (by decide) (pc' := 3) (by decide) ?_
  refine G.iload C d9_3 rfl rfl ?_
  refine G.iload C d9_5 rfl rfl ?_
  refine G.icge C d9_7 (by decide) (pt := 44) (by decide) rfl (fun q => absurd q (by decide)) (fun _ => ?_)
  refine G.aloadN C d9_10 rfl rfl rfl ?_
  refine G.iloadN C d9_11 rfl rfl ?_
  refine G.caload C oc2 (by decide) d9_12 rfl ?_
  show G p l e _ _ m _ below meth c n0 _ hn1 0 0 (mkF m 13 #[.val (.ref a1), .val (.int (1 : Int32)), .val (.ref a3), .val (.int (1 : Int32)), .val (.int (2 : Int32)), .val (.int (1 : Int32)), .val (.int c0)] [(.int c1)])
  refine G.istore C d9_13 (Ls' := #[.val (.ref a1), .val (.int (1 : Int32)), .val (.ref a3), .val (.int (1 : Int32)), .val (.int (2 : Int32)), .val (.int (1 : Int32)), .val (.int c1)]) rfl rfl ?_
  refine G.iload C d9_15 rfl rfl ?_
  refine G.sipush C d9_17 (v := (255 : Int32)) rfl rfl ?_
  refine G.icle C d9_20 (by decide) (pt := 26) (by decide) rfl (fun hc20 => ?_) (fun hc20 => absurd hc20 (own_le (by assumption)))
  refine G.aloadN C d9_26 rfl rfl rfl ?_
  refine G.iloadN C d9_27 rfl rfl ?_
  refine G.iload C d9_28 rfl rfl ?_
  refine G.i2b C d9_30 rfl ?_
  refine G.bastoreB C Awhn1 (by decide) ge d9_31 rfl (fun hn4 W31 => ?_)
  have Wbhn4 : Wr hn1 hn4 a3 1 (.int (c1.toInt8.toInt32)) := by have e := W31; rw [(own_nb _)] at e; exact e
  have oc5 := Ara.oth oc2 W31 ne
  have kp6 := Kp.wr kp3 W31 (Or.inl (by simp))
  have Awhn4 : Ara Z hn4 a3 .byte 2 (own_tab [(c0.toInt8.toInt32), (c1.toInt8.toInt32)]) := Ara.cast (Ara.set Awhn1 Wbhn4) (fun q hq => own_tset [(c0.toInt8.toInt32), (0 : Int32)] 1 (c1.toInt8.toInt32) (show 1 < 2 by decide) q)
  refine G.iinc C d9_32 rfl (z := (1 : Int32)) rfl (Ls' := #[.val (.ref a1), .val (.int ((1 : Int32) + (1 : Int32))), .val (.ref a3), .val (.int (1 : Int32)), .val (.int (2 : Int32)), .val (.int (1 : Int32)), .val (.int c1)]) rfl rfl ?_
  show G p l e _ _ m _ below meth c n0 _ hn4 0 0 (mkF m 35 #[.val (.ref a1), .val (.int (2 : Int32)), .val (.ref a3), .val (.int (1 : Int32)), .val (.int (2 : Int32)), .val (.int (1 : Int32)), .val (.int c1)] [])
  refine G.iinc C d9_35 rfl (z := (1 : Int32)) rfl (Ls' := #[.val (.ref a1), .val (.int (2 : Int32)), .val (.ref a3), .val (.int ((1 : Int32) + (1 : Int32))), .val (.int (2 : Int32)), .val (.int (1 : Int32)), .val (.int c1)]) rfl rfl ?_
  show G p l e _ _ m _ below meth c n0 _ hn4 0 0 (mkF m 38 #[.val (.ref a1), .val (.int (2 : Int32)), .val (.ref a3), .val (.int (2 : Int32)), .val (.int (2 : Int32)), .val (.int (1 : Int32)), .val (.int c1)] [])
  refine G.iinc C d9_38 rfl (z := (1 : Int32)) rfl (Ls' := #[.val (.ref a1), .val (.int (2 : Int32)), .val (.ref a3), .val (.int (2 : Int32)), .val (.int (2 : Int32)), .val (.int ((1 : Int32) + (1 : Int32))), .val (.int c1)]) rfl rfl ?_
  show G p l e _ _ m _ below meth c n0 _ hn4 0 0 (mkF m 41 #[.val (.ref a1), .val (.int (2 : Int32)), .val (.ref a3), .val (.int (2 : Int32)), .val (.int (2 : Int32)), .val (.int (2 : Int32)), .val (.int c1)] [])
  refine G.goto C d9_41 (by decide) (pc' := 3) (by decide) ?_
  refine G.iload C d9_3 rfl rfl ?_
  refine G.iload C d9_5 rfl rfl ?_
  refine G.icge C d9_7 (by decide) (pt := 44) (by decide) rfl (fun _ => ?_) (fun q => absurd q (by decide))
  refine G.iload C d9_44 rfl rfl ?_
  exact G.retI C d9_46 (by decide) (by decide) (⟨rfl, Awhn4, kp6⟩)
theorem d8_0 : decode jdk_52_method_16_code 0 = .ok (.iload_n 2, 1) := by decide +kernel
theorem d8_1 : decode jdk_52_method_16_code 1 = .ok (.newarray .byte, 2) := by decide +kernel
theorem d8_3 : decode jdk_52_method_16_code 3 = .ok (.astore_n 3, 1) := by decide +kernel
theorem d8_4 : decode jdk_52_method_16_code 4 = .ok (.aload_n 0, 1) := by decide +kernel
theorem d8_5 : decode jdk_52_method_16_code 5 = .ok (.iload_n 1, 1) := by decide +kernel
theorem d8_6 : decode jdk_52_method_16_code 6 = .ok (.aload_n 3, 1) := by decide +kernel
theorem d8_7 : decode jdk_52_method_16_code 7 = .ok (.iconst 0, 1) := by decide +kernel
theorem d8_8 : decode jdk_52_method_16_code 8 = .ok (.iload_n 2, 1) := by decide +kernel
theorem d8_9 : decode jdk_52_method_16_code 9 = .ok (.invokestatic 115, 3) := by decide +kernel
theorem d8_12 : decode jdk_52_method_16_code 12 = .ok (.istore 4, 2) := by decide +kernel
theorem d8_14 : decode jdk_52_method_16_code 14 = .ok (.iload 4, 2) := by decide +kernel
theorem d8_16 : decode jdk_52_method_16_code 16 = .ok (.iload_n 2, 1) := by decide +kernel
theorem d8_17 : decode jdk_52_method_16_code 17 = .ok (.if_icmp .eq 40, 3) := by decide +kernel
theorem d8_20 : decode jdk_52_method_16_code 20 = .ok (.aload_n 0, 1) := by decide +kernel
theorem d8_21 : decode jdk_52_method_16_code 21 = .ok (.iload_n 1, 1) := by decide +kernel
theorem d8_22 : decode jdk_52_method_16_code 22 = .ok (.iload_n 2, 1) := by decide +kernel
theorem d8_23 : decode jdk_52_method_16_code 23 = .ok (.invokestatic 119, 3) := by decide +kernel
theorem d8_26 : decode jdk_52_method_16_code 26 = .ok (.astore 5, 2) := by decide +kernel
theorem d8_28 : decode jdk_52_method_16_code 28 = .ok (.aload 5, 2) := by decide +kernel
theorem d8_30 : decode jdk_52_method_16_code 30 = .ok (.iload 4, 2) := by decide +kernel
theorem d8_32 : decode jdk_52_method_16_code 32 = .ok (.invokestatic 71, 3) := by decide +kernel
theorem d8_35 : decode jdk_52_method_16_code 35 = .ok (.sipush 255, 3) := by decide +kernel
theorem d8_38 : decode jdk_52_method_16_code 38 = .ok (.if_icmp .gt 16, 3) := by decide +kernel
theorem d8_41 : decode jdk_52_method_16_code 41 = .ok (.aload 5, 2) := by decide +kernel
theorem d8_43 : decode jdk_52_method_16_code 43 = .ok (.iconst 0, 1) := by decide +kernel
theorem d8_44 : decode jdk_52_method_16_code 44 = .ok (.aload_n 3, 1) := by decide +kernel
theorem d8_45 : decode jdk_52_method_16_code 45 = .ok (.iconst 0, 1) := by decide +kernel
theorem d8_46 : decode jdk_52_method_16_code 46 = .ok (.iload_n 2, 1) := by decide +kernel
theorem d8_47 : decode jdk_52_method_16_code 47 = .ok (.invokestatic 123, 3) := by decide +kernel
theorem d8_50 : decode jdk_52_method_16_code 50 = .ok (.iload_n 2, 1) := by decide +kernel
theorem d8_51 : decode jdk_52_method_16_code 51 = .ok (.if_icmp .eq 6, 3) := by decide +kernel
theorem d8_54 : decode jdk_52_method_16_code 54 = .ok (.aload 5, 2) := by decide +kernel
theorem d8_56 : decode jdk_52_method_16_code 56 = .ok (.areturn, 1) := by decide +kernel
theorem d8_57 : decode jdk_52_method_16_code 57 = .ok (.aload_n 3, 1) := by decide +kernel
theorem d8_58 : decode jdk_52_method_16_code 58 = .ok (.areturn, 1) := by decide +kernel
theorem ef_cP2 (m : MethodId) (a1 : Addr) : entryFrame m #[(.ref a1), (.int (0 : Int32)), (.int (2 : Int32))] 6 = mkF m 0 #[.val (.ref a1), .val (.int (0 : Int32)), .val (.int (2 : Int32)), .unset, .unset, .unset] [] := by first | (simp [entryFrame, mkF, argsToLocals, Value.category]; done) | rfl
set_option maxRecDepth 65536 in
set_option maxHeartbeats 40000000 in
theorem cP2 (l : Launch) (Z : State) (a0 : Array Value) (hw : ∀ d ∈ tables_1, d.before a0 Z = true) (a1 : Addr) (h : Heap) (n0 : Nat) (c0 c1 : Int32) (r0 : 0 ≤ c0.toInt ∧ c0.toInt ≤ 255) (r1 : 0 ≤ c1.toInt ∧ c1.toInt ≤ 255) (A : Ara Z h a1 .char 2 (own_tab [c0, c1])) (sz : n0 ≤ h.size) : Con l Z (⟨"java/lang/StringUTF16", "compress", "([CII)[B"⟩ : MethodName) jdk_52_method_16_code 6 (some (.array .byte)) ({ frames := 1, cells := 1, slots := 2, locals := 18 } : Room) #[(.ref a1), (.int (0 : Int32)), (.int (2 : Int32))] h n0 (fun v h' => ∃ b, v = some (.ref b) ∧ Ara Z h' b .byte 2 (own_tab [(c0.toInt8.toInt32), (c1.toInt8.toInt32)]) ∧ Kp h h' [] ∧ h.size ≤ b) := by
  refine Con.of (plainFor_of_name pn1) (fun m => ef_cP2 m a1) ?_
  intro p e s m below meth c C
  refine G.iloadN C d8_0 rfl rfl ?_
  refine G.newarr C (aty := .byte) (twd hw 15 rfl) (z := (2 : Int32)) (by decide) (cap := 2) (by decide) (by decide) d8_1 (by decide) (by decide) rfl (fun hn1 b1 g1 E1 A1 => ?_)
  have old1 := Nat.le_trans (Kp.refl h []).1.1 (Nat.le_of_eq g1.symm)
  have ne_a1_b1 : a1 ≠ b1 := by rw [g1]; exact Nat.ne_of_lt (Ara.lt A)
  have ge1 : n0 ≤ b1 := by rw [g1]; exact sz
  have oc2 := Ara.ext A E1
  have sz3 : n0 ≤ hn1.size := Nat.le_trans sz E1.1
  have kp4 := Kp.ext (Kp.refl h []) E1
  have AA1 : Ara Z hn1 b1 .byte 2 (own_tab [(0 : Int32), (0 : Int32)]) := Ara.cast A1 (fun q hq => own_t0 2 q)
  show G p l e _ _ m _ below meth c n0 _ hn1 1 2 (mkF m 3 #[.val (.ref a1), .val (.int (0 : Int32)), .val (.int (2 : Int32)), .unset, .unset, .unset] [(.ref b1)])
  refine G.astoreN C d8_3 rfl (Ls' := #[.val (.ref a1), .val (.int (0 : Int32)), .val (.int (2 : Int32)), .val (.ref b1), .unset, .unset]) rfl rfl ?_
  refine G.aloadN C d8_4 rfl rfl rfl ?_
  refine G.iloadN C d8_5 rfl rfl ?_
  refine G.aloadN C d8_6 rfl rfl rfl ?_
  refine G.iconst C d8_7 (v := (0 : Int32)) rfl rfl ?_
  refine G.iloadN C d8_8 rfl rfl ?_
  refine G.callS C (S := []) (W := 0) (twd hw 41 rfl) (twd hw 42 rfl) (twd hw 39 rfl) (twd hw 43 rfl) (by decide) (cK2 l Z a0 hw a1 b1 hn1 n0 c0 c1 r0 r1 oc2 AA1 ge1 ne_a1_b1) pd8 rfl rfl d8_9 rfl (Nat.le_of_eq rfl) (by decide) (by decide) (by decide) (by decide) rfl (fun whp5 hp5 hq6 => ?_)
  obtain ⟨rfl, Ak, Kk⟩ := hq6
  have oc7 := Ara.kp oc2 Kk (by simp [ne_a1_b1])
  have sz8 : n0 ≤ hp5.size := Nat.le_trans sz3 Kk.1.1
  have kp9 := Kp.trans kp4 Kk (by simp [old1])
  show G p l e _ _ m _ below meth c n0 _ hp5 1 2 (mkF m 12 #[.val (.ref a1), .val (.int (0 : Int32)), .val (.int (2 : Int32)), .val (.ref b1), .unset, .unset] [(.int (2 : Int32))])
  refine G.istore C d8_12 (Ls' := #[.val (.ref a1), .val (.int (0 : Int32)), .val (.int (2 : Int32)), .val (.ref b1), .val (.int (2 : Int32)), .unset]) rfl rfl ?_
  refine G.iload C d8_14 rfl rfl ?_
  refine G.iloadN C d8_16 rfl rfl ?_
  refine G.iceq C d8_17 (by decide) (pt := 57) (by decide) rfl (fun _ => ?_) (fun q => absurd q (by decide))
  refine G.aloadN C d8_57 rfl rfl rfl ?_
  exact G.retA C rfl rfl d8_58 (by decide) (by decide) rfl (⟨_, rfl, Ak, kp9, old1⟩)
theorem d10_0 : decode jdk_52_method_15_code 0 = .ok (.iload_n 1, 1) := by decide +kernel
theorem d10_1 : decode jdk_52_method_15_code 1 = .ok (.aload_n 0, 1) := by decide +kernel
theorem d10_2 : decode jdk_52_method_15_code 2 = .ok (.arraylength, 1) := by decide +kernel
theorem d10_3 : decode jdk_52_method_15_code 3 = .ok (.isub, 1) := by decide +kernel
theorem d10_4 : decode jdk_52_method_15_code 4 = .ok (.bipush 31, 2) := by decide +kernel
theorem d10_6 : decode jdk_52_method_15_code 6 = .ok (.iushr, 1) := by decide +kernel
theorem d10_7 : decode jdk_52_method_15_code 7 = .ok (.i2b, 1) := by decide +kernel
theorem d10_8 : decode jdk_52_method_15_code 8 = .ok (.ireturn, 1) := by decide +kernel
theorem ef_cA2 (m : MethodId) (a1 : Addr) : entryFrame m #[(.ref a1), (.int (2 : Int32))] 2 = mkF m 0 #[.val (.ref a1), .val (.int (2 : Int32))] [] := by first | (simp [entryFrame, mkF, argsToLocals, Value.category]; done) | rfl
set_option maxRecDepth 65536 in
set_option maxHeartbeats 40000000 in
theorem cA2 (l : Launch) (Z : State) (a0 : Array Value) (hw : ∀ d ∈ tables_1, d.before a0 Z = true) (a1 : Addr) (h : Heap) (n0 : Nat) (F : Nat → Value) (A : Ara Z h a1 .byte 2 F) : Con l Z (⟨"java/lang/StringUTF16", "coderFromArrayLen", "([BI)B"⟩ : MethodName) jdk_52_method_15_code 2 (some .byte) ({ frames := 0, cells := 0, slots := 0, locals := 0 } : Room) #[(.ref a1), (.int (2 : Int32))] h n0 (Pv (.int (0 : Int32)) h) := by
  refine Con.of (plainFor_of_name pn1) (fun m => ef_cA2 m a1) ?_
  intro p e s m below meth c C
  refine G.iloadN C d10_0 rfl rfl ?_
  refine G.aloadN C d10_1 rfl rfl rfl ?_
  refine G.arrlen C A (z := (2 : Int32)) rfl d10_2 rfl ?_
  refine G.isub C d10_3 rfl ?_
  show G p l e _ _ m _ below meth c n0 _ h 0 0 (mkF m 4 #[.val (.ref a1), .val (.int (2 : Int32))] [(.int (0 : Int32))])
  refine G.bipush C d10_4 (v := (31 : Int32)) rfl rfl ?_
  refine G.iushr C d10_6 rfl ?_
  show G p l e _ _ m _ below meth c n0 _ h 0 0 (mkF m 7 #[.val (.ref a1), .val (.int (2 : Int32))] [(.int (0 : Int32))])
  refine G.i2b C d10_7 rfl ?_
  show G p l e _ _ m _ below meth c n0 _ h 0 0 (mkF m 8 #[.val (.ref a1), .val (.int (2 : Int32))] [(.int (0 : Int32))])
  exact G.retB C d10_8 (by decide) (by decide) rfl (⟨rfl, rfl⟩)
theorem ef_cV2 (m : MethodId) (a1 : Addr) (a2 : Addr) : entryFrame m #[(.ref a1), (.ref a2), (.int (0 : Int32)), (.int (2 : Int32)), .null] 6 = mkF m 0 #[.val (.ref a1), .val (.ref a2), .val (.int (0 : Int32)), .val (.int (2 : Int32)), .val .null, .unset] [] := by first | (simp [entryFrame, mkF, argsToLocals, Value.category]; done) | rfl
set_option maxRecDepth 65536 in
set_option maxHeartbeats 40000000 in
theorem cV2 (l : Launch) (Z : State) (a0 : Array Value) (hw : ∀ d ∈ tables_1, d.before a0 Z = true) (a1 : Addr) (a2 : Addr) (h : Heap) (n0 : Nat) (c0 c1 : Int32) (r0 : 0 ≤ c0.toInt ∧ c0.toInt ≤ 255) (r1 : 0 ≤ c1.toInt ∧ c1.toInt ≤ 255) (ge : n0 ≤ a1) (O : own_SV Z h a1 .null (.int (0 : Int32))) (A : Ara Z h a2 .char 2 (own_tab [c0, c1])) (sz : n0 ≤ h.size) (ne : a1 ≠ a2) (cs : Int32) (hcs : ¬ cs = 0) (S_cs : Sta Z h "java/lang/String" "COMPACT_STRINGS" "Z" (.int cs)) : Con l Z (⟨"java/lang/String", "<init>", "([CIILjava/lang/Void;)V"⟩ : MethodName) jdk_42_method_149_code 6 none ({ frames := 2, cells := 1, slots := 2, locals := 35 } : Room) #[(.ref a1), (.ref a2), (.int (0 : Int32)), (.int (2 : Int32)), .null] h n0 (fun v h' => v = none ∧ ∃ b, own_SV Z h' a1 (.ref b) (.int (0 : Int32)) ∧ Ara Z h' b .byte 2 (own_tab [(c0.toInt8.toInt32), (c1.toInt8.toInt32)]) ∧ Kp h h' [a1]) := by
  refine Con.of (plainFor_of_name pn0) (fun m => ef_cV2 m a1 a2) ?_
  intro p e s m below meth c C
  refine G.aloadN C d2_0 rfl rfl rfl ?_
  refine G.initO C (W := 0) (twd hw 11 rfl) (twd hw 12 rfl) (twd hw 13 rfl) rfl d2_1 (by decide) (Nat.le_of_eq rfl) (by decide) rfl ?_
  refine G.iloadN C d2_4 rfl rfl ?_
  refine G.ifne C d2_5 (by decide) (pt := 27) (by decide) rfl (fun _ => ?_) (fun q => absurd q (by decide))
  refine G.getS C (twd hw 25 rfl) S_cs d2_27 rfl ?_
  refine G.ifeq C d2_30 (by decide) (pt := 58) (by decide) rfl (fun hc30 => absurd hc30 hcs) (fun hc30 => ?_)
  refine G.aloadN C d2_33 rfl rfl rfl ?_
  refine G.iloadN C d2_34 rfl rfl ?_
  refine G.iloadN C d2_35 rfl rfl ?_
  refine G.callS C (S := []) (W := 0) (twd hw 37 rfl) (twd hw 38 rfl) (twd hw 39 rfl) (twd hw 40 rfl) (by decide) (cP2 l Z a0 hw a2 h n0 c0 c1 r0 r1 A sz) pd7 rfl rfl d2_36 rfl (Nat.le_of_eq rfl) (by decide) (by decide) (by decide) (by decide) rfl (fun whp1 hp1 hq2 => ?_)
  obtain ⟨f36, rfl, A36, K36, g36⟩ := hq2
  have ne_a1_f36 : a1 ≠ f36 := Nat.ne_of_lt (Nat.lt_of_lt_of_le (Exa.lt (O).1) g36)
  have ne_a2_f36 : a2 ≠ f36 := Nat.ne_of_lt (Nat.lt_of_lt_of_le (Ara.lt A) g36)
  have oc3 := own_SV.keep O K36 (by simp)
  have sf4 := Sta.kp K36 S_cs
  have oc5 := Ara.kp A K36 (by simp)
  have sz6 : n0 ≤ hp1.size := Nat.le_trans sz K36.1.1
  have kp7 := Kp.trans (Kp.refl h [a1]) K36 (by simp)
  show G p l e _ _ m _ below meth c n0 _ hp1 1 2 (mkF m 39 #[.val (.ref a1), .val (.ref a2), .val (.int (0 : Int32)), .val (.int (2 : Int32)), .val .null, .unset] [(.ref f36)])
  refine G.astore C d2_39 rfl (Ls' := #[.val (.ref a1), .val (.ref a2), .val (.int (0 : Int32)), .val (.int (2 : Int32)), .val .null, .val (.ref f36)]) rfl rfl ?_
  refine G.aloadN C d2_41 rfl rfl rfl ?_
  refine G.aload C d2_42 rfl rfl rfl ?_
  refine G.iloadN C d2_44 rfl rfl ?_
  refine G.callSP C (S := [(.ref a1)]) (W := 1) (twd hw 44 rfl) (twd hw 45 rfl) (twd hw 39 rfl) (twd hw 46 rfl) (by decide) (cA2 l Z a0 hw f36 hp1 n0 _ A36) pd9 rfl rfl d2_45 rfl (Nat.le_of_eq rfl) (by decide) (by decide) rfl rfl (by decide) (by decide) rfl ?_
  refine G.putF C (twd hw 21 rfl) (oc3).2.2 (oc3).1 (Or.inr ⟨(twd hw 17 rfl), rfl, rfl⟩) (twd hw 2 rfl) (ty := .byte) (by decide) rfl rfl ge d2_48 rfl (fun hn8 W48 => ?_)
  have sf9 := Sta.wr W48 sf4
  have oc10 := Ara.oth oc5 W48 (Ne.symm ne)
  have oc11 := Ara.oth A36 W48 (Ne.symm ne_a1_f36)
  have sz12 : n0 ≤ hn8.size := (by rw [W48.size]; exact sz6)
  have kp13 := Kp.wr kp7 W48 (Or.inl (by simp))
  have oc14 := own_SV.w1 hw oc3 W48
  refine G.aloadN C d2_51 rfl rfl rfl ?_
  refine G.aload C d2_52 rfl rfl rfl ?_
  refine G.putF C (twd hw 20 rfl) (oc14).2.1 (oc14).1 (Or.inr ⟨(twd hw 16 rfl), rfl, rfl⟩) (twd hw 2 rfl) (ty := (.array .byte)) (by decide) rfl rfl ge d2_54 rfl (fun hn15 W54 => ?_)
  have sf16 := Sta.wr W54 sf9
  have oc17 := Ara.oth oc10 W54 (Ne.symm ne)
  have oc18 := Ara.oth oc11 W54 (Ne.symm ne_a1_f36)
  have sz19 : n0 ≤ hn15.size := (by rw [W54.size]; exact sz12)
  have kp20 := Kp.wr kp13 W54 (Or.inl (by simp))
  have oc21 := own_SV.w0 hw oc14 W54
  exact G.retV C d2_57 (by decide) (by decide) (⟨rfl, f36, oc21, oc18, kp20⟩)
theorem ef_cS2 (m : MethodId) (a1 : Addr) (a2 : Addr) : entryFrame m #[(.ref a1), (.ref a2)] 2 = mkF m 0 #[.val (.ref a1), .val (.ref a2)] [] := by first | (simp [entryFrame, mkF, argsToLocals, Value.category]; done) | rfl
set_option maxRecDepth 65536 in
set_option maxHeartbeats 40000000 in
theorem cS2 (l : Launch) (Z : State) (a0 : Array Value) (hw : ∀ d ∈ tables_1, d.before a0 Z = true) (a1 : Addr) (a2 : Addr) (h : Heap) (n0 : Nat) (c0 c1 : Int32) (r0 : 0 ≤ c0.toInt ∧ c0.toInt ≤ 255) (r1 : 0 ≤ c1.toInt ∧ c1.toInt ≤ 255) (ge : n0 ≤ a1) (O : own_SV Z h a1 .null (.int (0 : Int32))) (A : Ara Z h a2 .char 2 (own_tab [c0, c1])) (sz : n0 ≤ h.size) (ne : a1 ≠ a2) (cs : Int32) (hcs : ¬ cs = 0) (S_cs : Sta Z h "java/lang/String" "COMPACT_STRINGS" "Z" (.int cs)) : Con l Z (⟨"java/lang/String", "<init>", "([C)V"⟩ : MethodName) jdk_42_method_3_code 2 none ({ frames := 3, cells := 1, slots := 2, locals := 52 } : Room) #[(.ref a1), (.ref a2)] h n0 (fun v h' => v = none ∧ ∃ b, own_SV Z h' a1 (.ref b) (.int (0 : Int32)) ∧ Ara Z h' b .byte 2 (own_tab [(c0.toInt8.toInt32), (c1.toInt8.toInt32)]) ∧ Kp h h' [a1]) := by
  refine Con.of (plainFor_of_name pn0) (fun m => ef_cS2 m a1 a2) ?_
  intro p e s m below meth c C
  refine G.aloadN C d1_0 rfl rfl rfl ?_
  refine G.aloadN C d1_1 rfl rfl rfl ?_
  refine G.iconst C d1_2 (v := (0 : Int32)) rfl rfl ?_
  refine G.aloadN C d1_3 rfl rfl rfl ?_
  refine G.arrlen C A (z := (2 : Int32)) rfl d1_4 rfl ?_
  refine G.aconst_null C d1_5 rfl ?_
  refine G.callI C (S := []) (W := 0) rfl (twd hw 7 rfl) (twd hw 8 rfl) (twd hw 3 rfl) (twd hw 10 rfl) (by decide) (cV2 l Z a0 hw a1 a2 h n0 c0 c1 r0 r1 ge O A sz ne cs hcs S_cs) pd1 rfl rfl d1_6 rfl (Nat.le_of_eq rfl) (by decide) (by decide) (by decide) (by decide) rfl (fun whp1 hp1 hq2 => ?_)
  obtain ⟨rfl, qe⟩ := hq2
  show G p l e _ _ m _ below meth c n0 _ hp1 1 2 (mkF m 9 #[.val (.ref a1), .val (.ref a2)] [])
  exact G.retV C d1_9 (by decide) (by decide) (⟨rfl, qe⟩)
theorem d5_0 : decode jdk_43_method_3_code 0 = .ok (.iload_n 0, 1) := by decide +kernel
theorem d5_1 : decode jdk_43_method_3_code 1 = .ok (.sipush 255, 3) := by decide +kernel
theorem d5_4 : decode jdk_43_method_3_code 4 = .ok (.if_icmp .gt 7, 3) := by decide +kernel
theorem d5_7 : decode jdk_43_method_3_code 7 = .ok (.iconst 1, 1) := by decide +kernel
theorem d5_8 : decode jdk_43_method_3_code 8 = .ok (.goto 4, 3) := by decide +kernel
theorem d5_11 : decode jdk_43_method_3_code 11 = .ok (.iconst 0, 1) := by decide +kernel
theorem d5_12 : decode jdk_43_method_3_code 12 = .ok (.ireturn, 1) := by decide +kernel
theorem pn2 : plainName "java/lang/StringLatin1" = true := by first | (simp [plainName, overriddenIn]; done) | decide +kernel
theorem ef_cCe (m : MethodId) (i1 : Int32) : entryFrame m #[(.int i1)] 1 = mkF m 0 #[.val (.int i1)] [] := by first | (simp [entryFrame, mkF, argsToLocals, Value.category]; done) | rfl
set_option maxRecDepth 65536 in
set_option maxHeartbeats 40000000 in
theorem cCe (l : Launch) (Z : State) (a0 : Array Value) (hw : ∀ d ∈ tables_1, d.before a0 Z = true) (i1 : Int32) (h : Heap) (n0 : Nat) (r : 0 ≤ i1.toInt ∧ i1.toInt ≤ 255) : Con l Z (⟨"java/lang/StringLatin1", "canEncode", "(C)Z"⟩ : MethodName) jdk_43_method_3_code 1 (some .boolean) ({ frames := 0, cells := 0, slots := 0, locals := 0 } : Room) #[(.int i1)] h n0 (Pv (.int (bi true)) h) := by
  refine Con.of (plainFor_of_name pn2) (fun m => ef_cCe m i1) ?_
  intro p e s m below meth c C
  refine G.iloadN C d5_0 rfl rfl ?_
  refine G.sipush C d5_1 (v := (255 : Int32)) rfl rfl ?_
  refine G.icgt C d5_4 (by decide) (pt := 11) (by decide) rfl (fun hc4 => absurd hc4 (own_le r)) (fun hc4 => ?_)
  refine G.iconst C d5_7 (v := (1 : Int32)) rfl rfl ?_
  refine G.goto C d5_8 (by decide) (pc' := 12) (by decide) ?_
  exact G.retZ C d5_12 (by decide) (by decide) rfl (⟨rfl, rfl⟩)
theorem d6_0 : decode jdk_43_method_46_code 0 = .ok (.iconst 1, 1) := by decide +kernel
theorem d6_1 : decode jdk_43_method_46_code 1 = .ok (.newarray .byte, 2) := by decide +kernel
theorem d6_3 : decode jdk_43_method_46_code 3 = .ok (.dup, 1) := by decide +kernel
theorem d6_4 : decode jdk_43_method_46_code 4 = .ok (.iconst 0, 1) := by decide +kernel
theorem d6_5 : decode jdk_43_method_46_code 5 = .ok (.iload_n 0, 1) := by decide +kernel
theorem d6_6 : decode jdk_43_method_46_code 6 = .ok (.i2b, 1) := by decide +kernel
theorem d6_7 : decode jdk_43_method_46_code 7 = .ok (.bastore, 1) := by decide +kernel
theorem d6_8 : decode jdk_43_method_46_code 8 = .ok (.areturn, 1) := by decide +kernel
theorem ef_cTb (m : MethodId) (i1 : Int32) : entryFrame m #[(.int i1)] 1 = mkF m 0 #[.val (.int i1)] [] := by first | (simp [entryFrame, mkF, argsToLocals, Value.category]; done) | rfl
set_option maxRecDepth 65536 in
set_option maxHeartbeats 40000000 in
theorem cTb (l : Launch) (Z : State) (a0 : Array Value) (hw : ∀ d ∈ tables_1, d.before a0 Z = true) (i1 : Int32) (h : Heap) (n0 : Nat) (sz : n0 ≤ h.size) : Con l Z (⟨"java/lang/StringLatin1", "toBytes", "(C)[B"⟩ : MethodName) jdk_43_method_46_code 1 (some (.array .byte)) ({ frames := 0, cells := 1, slots := 1, locals := 0 } : Room) #[(.int i1)] h n0 (fun v h' => ∃ b, v = some (.ref b) ∧ Ara Z h' b .byte 1 (own_tab [(i1.toInt8.toInt32)]) ∧ Kp h h' [] ∧ h.size ≤ b) := by
  refine Con.of (plainFor_of_name pn2) (fun m => ef_cTb m i1) ?_
  intro p e s m below meth c C
  refine G.iconst C d6_0 (v := (1 : Int32)) rfl rfl ?_
  refine G.newarr C (aty := .byte) (twd hw 15 rfl) (z := (1 : Int32)) (by decide) (cap := 1) (by decide) (by decide) d6_1 (by decide) (by decide) rfl (fun hn1 b1 g1 E1 A1 => ?_)
  have old1 := Nat.le_trans (Kp.refl h []).1.1 (Nat.le_of_eq g1.symm)
  have ge1 : n0 ≤ b1 := by rw [g1]; exact sz
  have sz2 : n0 ≤ hn1.size := Nat.le_trans sz E1.1
  have kp3 := Kp.ext (Kp.refl h []) E1
  have AA1 : Ara Z hn1 b1 .byte 1 (own_tab [(0 : Int32)]) := Ara.cast A1 (fun q hq => own_t0 1 q)
  show G p l e _ _ m _ below meth c n0 _ hn1 1 1 (mkF m 3 #[.val (.int i1)] [(.ref b1)])
  refine G.dup C d6_3 rfl rfl ?_
  refine G.iconst C d6_4 (v := (0 : Int32)) rfl rfl ?_
  refine G.iloadN C d6_5 rfl rfl ?_
  refine G.i2b C d6_6 rfl ?_
  refine G.bastoreB C AA1 (by decide) ge1 d6_7 rfl (fun hn4 W7 => ?_)
  have Wbhn4 : Wr hn1 hn4 b1 0 (.int (i1.toInt8.toInt32)) := by have e := W7; rw [(own_nb _)] at e; exact e
  have sz5 : n0 ≤ hn4.size := (by rw [W7.size]; exact sz2)
  have kp6 := Kp.wr kp3 W7 (Or.inr old1)
  have Awhn4 : Ara Z hn4 b1 .byte 1 (own_tab [(i1.toInt8.toInt32)]) := Ara.cast (Ara.set AA1 Wbhn4) (fun q hq => own_tset [(0 : Int32)] 0 (i1.toInt8.toInt32) (show 0 < 1 by decide) q)
  exact G.retA C rfl rfl d6_8 (by decide) (by decide) rfl (⟨_, rfl, Awhn4, kp6, old1⟩)
theorem d7_0 : decode jdk_42_method_151_code 0 = .ok (.aload_n 0, 1) := by decide +kernel
theorem d7_1 : decode jdk_42_method_151_code 1 = .ok (.invokespecial 1, 3) := by decide +kernel
theorem d7_4 : decode jdk_42_method_151_code 4 = .ok (.aload_n 0, 1) := by decide +kernel
theorem d7_5 : decode jdk_42_method_151_code 5 = .ok (.aload_n 1, 1) := by decide +kernel
theorem d7_6 : decode jdk_42_method_151_code 6 = .ok (.putfield 9, 3) := by decide +kernel
theorem d7_9 : decode jdk_42_method_151_code 9 = .ok (.aload_n 0, 1) := by decide +kernel
theorem d7_10 : decode jdk_42_method_151_code 10 = .ok (.iload_n 2, 1) := by decide +kernel
theorem d7_11 : decode jdk_42_method_151_code 11 = .ok (.putfield 15, 3) := by decide +kernel
theorem d7_14 : decode jdk_42_method_151_code 14 = .ok (.return_, 1) := by decide +kernel
theorem ef_cBb (m : MethodId) (a1 : Addr) (a2 : Addr) : entryFrame m #[(.ref a1), (.ref a2), (.int (0 : Int32))] 3 = mkF m 0 #[.val (.ref a1), .val (.ref a2), .val (.int (0 : Int32))] [] := by first | (simp [entryFrame, mkF, argsToLocals, Value.category]; done) | rfl
set_option maxRecDepth 65536 in
set_option maxHeartbeats 40000000 in
theorem cBb (l : Launch) (Z : State) (a0 : Array Value) (hw : ∀ d ∈ tables_1, d.before a0 Z = true) (a1 : Addr) (a2 : Addr) (h : Heap) (n0 : Nat) (ge : n0 ≤ a1) (O : own_SV Z h a1 .null (.int (0 : Int32))) : Con l Z (⟨"java/lang/String", "<init>", "([BB)V"⟩ : MethodName) jdk_42_method_151_code 3 none ({ frames := 1, cells := 0, slots := 0, locals := 12 } : Room) #[(.ref a1), (.ref a2), (.int (0 : Int32))] h n0 (fun v h' => v = none ∧ own_SV Z h' a1 (.ref a2) (.int (0 : Int32)) ∧ Kp h h' [a1]) := by
  refine Con.of (plainFor_of_name pn0) (fun m => ef_cBb m a1 a2) ?_
  intro p e s m below meth c C
  refine G.aloadN C d7_0 rfl rfl rfl ?_
  refine G.initO C (W := 0) (twd hw 11 rfl) (twd hw 12 rfl) (twd hw 13 rfl) rfl d7_1 (by decide) (Nat.le_of_eq rfl) (by decide) rfl ?_
  refine G.aloadN C d7_4 rfl rfl rfl ?_
  refine G.aloadN C d7_5 rfl rfl rfl ?_
  refine G.putF C (twd hw 20 rfl) (O).2.1 (O).1 (Or.inr ⟨(twd hw 16 rfl), rfl, rfl⟩) (twd hw 2 rfl) (ty := (.array .byte)) (by decide) rfl rfl ge d7_6 rfl (fun hn1 W6 => ?_)
  have kp2 := Kp.wr (Kp.refl h [a1]) W6 (Or.inl (by simp))
  have oc3 := own_SV.w0 hw O W6
  refine G.aloadN C d7_9 rfl rfl rfl ?_
  refine G.iloadN C d7_10 rfl rfl ?_
  refine G.putF C (twd hw 21 rfl) (oc3).2.2 (oc3).1 (Or.inr ⟨(twd hw 17 rfl), rfl, rfl⟩) (twd hw 2 rfl) (ty := .byte) (by decide) rfl rfl ge d7_11 rfl (fun hn4 W11 => ?_)
  have kp5 := Kp.wr kp2 W11 (Or.inl (by simp))
  have oc6 := own_SV.w1 hw oc3 W11
  exact G.retV C d7_14 (by decide) (by decide) (⟨rfl, oc6, kp5⟩)
theorem d4_0 : decode jdk_42_method_139_code 0 = .ok (.getstatic 38, 3) := by decide +kernel
theorem d4_3 : decode jdk_42_method_139_code 3 = .ok (.ifCond .eq 23, 3) := by decide +kernel
theorem d4_6 : decode jdk_42_method_139_code 6 = .ok (.iload_n 0, 1) := by decide +kernel
theorem d4_7 : decode jdk_42_method_139_code 7 = .ok (.invokestatic 1015, 3) := by decide +kernel
theorem d4_10 : decode jdk_42_method_139_code 10 = .ok (.ifCond .eq 16, 3) := by decide +kernel
theorem d4_13 : decode jdk_42_method_139_code 13 = .ok (.new 10, 3) := by decide +kernel
theorem d4_16 : decode jdk_42_method_139_code 16 = .ok (.dup, 1) := by decide +kernel
theorem d4_17 : decode jdk_42_method_139_code 17 = .ok (.iload_n 0, 1) := by decide +kernel
theorem d4_18 : decode jdk_42_method_139_code 18 = .ok (.invokestatic 1018, 3) := by decide +kernel
theorem d4_21 : decode jdk_42_method_139_code 21 = .ok (.iconst 0, 1) := by decide +kernel
theorem d4_22 : decode jdk_42_method_139_code 22 = .ok (.invokespecial 209, 3) := by decide +kernel
theorem d4_25 : decode jdk_42_method_139_code 25 = .ok (.areturn, 1) := by decide +kernel
theorem d4_26 : decode jdk_42_method_139_code 26 = .ok (.new 10, 3) := by decide +kernel
theorem d4_29 : decode jdk_42_method_139_code 29 = .ok (.dup, 1) := by decide +kernel
theorem d4_30 : decode jdk_42_method_139_code 30 = .ok (.iload_n 0, 1) := by decide +kernel
theorem d4_31 : decode jdk_42_method_139_code 31 = .ok (.invokestatic 1021, 3) := by decide +kernel
theorem d4_34 : decode jdk_42_method_139_code 34 = .ok (.iconst 1, 1) := by decide +kernel
theorem d4_35 : decode jdk_42_method_139_code 35 = .ok (.invokespecial 209, 3) := by decide +kernel
theorem d4_38 : decode jdk_42_method_139_code 38 = .ok (.areturn, 1) := by decide +kernel
theorem ef_cVo (m : MethodId) (i1 : Int32) : entryFrame m #[(.int i1)] 1 = mkF m 0 #[.val (.int i1)] [] := by first | (simp [entryFrame, mkF, argsToLocals, Value.category]; done) | rfl
set_option maxRecDepth 65536 in
set_option maxHeartbeats 40000000 in
theorem cVo (l : Launch) (Z : State) (a0 : Array Value) (hw : ∀ d ∈ tables_1, d.before a0 Z = true) (i1 : Int32) (h : Heap) (n0 : Nat) (r : 0 ≤ i1.toInt ∧ i1.toInt ≤ 255) (sz : n0 ≤ h.size) (cs : Int32) (hcs : ¬ cs = 0) (S_cs : Sta Z h "java/lang/String" "COMPACT_STRINGS" "Z" (.int cs)) : Con l Z (⟨"java/lang/String", "valueOf", "(C)Ljava/lang/String;"⟩ : MethodName) jdk_42_method_139_code 1 (some (.object "java/lang/String")) ({ frames := 2, cells := 2, slots := 5, locals := 27 } : Room) #[(.int i1)] h n0 (fun v h' => ∃ a va, v = some (.ref a) ∧ own_S Z h' a va [(i1.toInt8.toInt32)] ∧ Kp h h' [] ∧ h.size ≤ a) := by
  refine Con.of (plainFor_of_name pn0) (fun m => ef_cVo m i1) ?_
  intro p e s m below meth c C
  refine G.getS C (twd hw 25 rfl) S_cs d4_0 rfl ?_
  refine G.ifeq C d4_3 (by decide) (pt := 26) (by decide) rfl (fun hc3 => absurd hc3 hcs) (fun hc3 => ?_)
  refine G.iloadN C d4_6 rfl rfl ?_
  refine G.callSP C (S := []) (W := 0) (twd hw 26 rfl) (twd hw 27 rfl) (twd hw 28 rfl) (twd hw 29 rfl) (by decide) (cCe l Z a0 hw i1 h n0 r) pd4 rfl rfl d4_7 rfl (Nat.le_of_eq rfl) (by decide) (by decide) rfl rfl (by decide) (by decide) rfl ?_
  refine G.bfeq C d4_10 (by decide) (pt := 26) (by decide) rfl (fun q => absurd q (by decide)) (fun _ => ?_)
  refine G.newO C (twd hw 30 rfl) (twd hw 2 rfl) (twd hw 3 rfl) d4_13 (by decide) (by decide) rfl (fun hn1 b13 g13 E13 A13 D13 => ?_)
  have old13 := Nat.le_trans (Kp.refl h []).1.1 (Nat.le_of_eq g13.symm)
  have ge13 : n0 ≤ b13 := by rw [g13]; exact sz
  have sf2 := Sta.ext E13 S_cs
  have sz3 : n0 ≤ hn1.size := Nat.le_trans sz E13.1
  have kp4 := Kp.ext (Kp.refl h []) E13
  have ob13 := own_SV.new hw A13 D13
  show G p l e _ _ m _ below meth c n0 _ hn1 1 4 (mkF m 16 #[.val (.int i1)] [(.ref b13)])
  refine G.dup C d4_16 rfl rfl ?_
  refine G.iloadN C d4_17 rfl rfl ?_
  refine G.callS C (S := [(.ref b13), (.ref b13)]) (W := 2) (twd hw 31 rfl) (twd hw 32 rfl) (twd hw 28 rfl) (twd hw 33 rfl) (by decide) (cTb l Z a0 hw i1 hn1 n0 sz3) pd5 rfl rfl d4_18 rfl (Nat.le_of_eq rfl) (by decide) (by decide) (by decide) (by decide) rfl (fun whp5 hp5 hq6 => ?_)
  obtain ⟨f18, rfl, A18, K18, g18⟩ := hq6
  have ne_b13_f18 : b13 ≠ f18 := Nat.ne_of_lt (Nat.lt_of_lt_of_le (Exa.lt (ob13).1) g18)
  have sf7 := Sta.kp K18 sf2
  have oc8 := own_SV.keep ob13 K18 (by simp)
  have sz9 : n0 ≤ hp5.size := Nat.le_trans sz3 K18.1.1
  have kp10 := Kp.trans kp4 K18 (by simp)
  show G p l e _ _ m _ below meth c n0 _ hp5 2 5 (mkF m 21 #[.val (.int i1)] [(.ref f18), (.ref b13), (.ref b13)])
  refine G.iconst C d4_21 (v := (0 : Int32)) rfl rfl ?_
  refine G.callI C (S := [(.ref b13)]) (W := 1) rfl (twd hw 34 rfl) (twd hw 35 rfl) (twd hw 3 rfl) (twd hw 36 rfl) (by decide) (cBb l Z a0 hw b13 f18 hp5 n0 ge13 oc8) pd6 rfl rfl d4_22 rfl (Nat.le_of_eq rfl) (by decide) (by decide) (by decide) (by decide) rfl (fun whp11 hp11 hq12 => ?_)
  obtain ⟨rfl, O22, K22⟩ := hq12
  have sf13 := Sta.kp K22 sf7
  have oc14 := Ara.kp A18 K22 (by simp [(Ne.symm ne_b13_f18)])
  have sz15 : n0 ≤ hp11.size := Nat.le_trans sz9 K22.1.1
  have kp16 := Kp.trans kp10 K22 (by simp [old13])
  show G p l e _ _ m _ below meth c n0 _ hp11 2 5 (mkF m 25 #[.val (.int i1)] [(.ref b13)])
  exact G.retA C rfl rfl d4_25 (by decide) (by decide) rfl (⟨b13, f18, rfl, ⟨O22.1, O22.2.1, O22.2.2, oc14, (show 1 < 1000 by decide)⟩, kp16, old13⟩)
def own_Pb (Z : State) (h : Heap) (a : Addr) (v0 v1 v2 v3 v4 : Value) : Prop := Exa Z h a "com/example/seefrom/seefrom/Problem" ∧ Fld Z h a "com/example/seefrom/seefrom/Problem" "controlNumber" "Ljava/lang/String;" v0 ∧ Fld Z h a "com/example/seefrom/seefrom/Problem" "tag" "Ljava/lang/String;" v1 ∧ Fld Z h a "com/example/seefrom/seefrom/Problem" "occurrence" "I" v2 ∧ Fld Z h a "com/example/seefrom/seefrom/Problem" "rule" "Lcom/example/seefrom/seefrom/Rule;" v3 ∧ Fld Z h a "com/example/seefrom/seefrom/Problem" "message" "Ljava/lang/String;" v4
theorem own_Pb.ext {Z : State} {h h' : Heap} {a : Addr} {v0 v1 v2 v3 v4 : Value} (F : own_Pb Z h a v0 v1 v2 v3 v4) (E : Ext h h') : own_Pb Z h' a v0 v1 v2 v3 v4 := ⟨Exa.ext E F.1, Fld.ext E F.2.1, Fld.ext E F.2.2.1, Fld.ext E F.2.2.2.1, Fld.ext E F.2.2.2.2.1, Fld.ext E F.2.2.2.2.2⟩
theorem own_Pb.keep {Z : State} {h h' : Heap} {a : Addr} {v0 v1 v2 v3 v4 : Value} {ws : List Addr} (F : own_Pb Z h a v0 v1 v2 v3 v4) (K : Kp h h' ws) (q : a ∉ ws) : own_Pb Z h' a v0 v1 v2 v3 v4 := ⟨Exa.keep F.1 K.1, Fld.keep F.2.1 K.1 q, Fld.keep F.2.2.1 K.1 q, Fld.keep F.2.2.2.1 K.1 q, Fld.keep F.2.2.2.2.1 K.1 q, Fld.keep F.2.2.2.2.2 K.1 q⟩
theorem own_Pb.oth {Z : State} {h h' : Heap} {a b : Addr} {v0 v1 v2 v3 v4 : Value} {sl : Nat} {u : Value} (F : own_Pb Z h a v0 v1 v2 v3 v4) (W : Wr h h' b sl u) (q : a ≠ b) : own_Pb Z h' a v0 v1 v2 v3 v4 := ⟨Exa.wr W F.1, Fld.other W F.2.1 (Or.inl q), Fld.other W F.2.2.1 (Or.inl q), Fld.other W F.2.2.2.1 (Or.inl q), Fld.other W F.2.2.2.2.1 (Or.inl q), Fld.other W F.2.2.2.2.2 (Or.inl q)⟩
theorem own_Pb.w0 {Z : State} {a0 : Array Value} {h h' : Heap} {a : Addr} {v0 v1 v2 v3 v4 : Value} {u : Value} (hw : ∀ d ∈ tables_1, d.before a0 Z = true) (F : own_Pb Z h a v0 v1 v2 v3 v4) (W : Wr h h' a (Jvm.RoadKit.slotOf Z "com/example/seefrom/seefrom/Problem" "controlNumber" "Ljava/lang/String;") u) : own_Pb Z h' a u v1 v2 v3 v4 := ⟨Exa.wr W F.1, Fld.same W F.2.1, Fld.other W F.2.2.1 (Or.inr (slot_ne (C := "com/example/seefrom/seefrom/Problem") (Or.inr (twd hw 78 rfl)) (Or.inr (twd hw 76 rfl)) (by decide) (t := (.object "java/lang/String")) (t' := (.object "java/lang/String")) (by decide) (by decide))), Fld.other W F.2.2.2.1 (Or.inr (slot_ne (C := "com/example/seefrom/seefrom/Problem") (Or.inr (twd hw 80 rfl)) (Or.inr (twd hw 76 rfl)) (by decide) (t := .int) (t' := (.object "java/lang/String")) (by decide) (by decide))), Fld.other W F.2.2.2.2.1 (Or.inr (slot_ne (C := "com/example/seefrom/seefrom/Problem") (Or.inr (twd hw 82 rfl)) (Or.inr (twd hw 76 rfl)) (by decide) (t := (.object "com/example/seefrom/seefrom/Rule")) (t' := (.object "java/lang/String")) (by decide) (by decide))), Fld.other W F.2.2.2.2.2 (Or.inr (slot_ne (C := "com/example/seefrom/seefrom/Problem") (Or.inr (twd hw 84 rfl)) (Or.inr (twd hw 76 rfl)) (by decide) (t := (.object "java/lang/String")) (t' := (.object "java/lang/String")) (by decide) (by decide)))⟩
theorem own_Pb.w1 {Z : State} {a0 : Array Value} {h h' : Heap} {a : Addr} {v0 v1 v2 v3 v4 : Value} {u : Value} (hw : ∀ d ∈ tables_1, d.before a0 Z = true) (F : own_Pb Z h a v0 v1 v2 v3 v4) (W : Wr h h' a (Jvm.RoadKit.slotOf Z "com/example/seefrom/seefrom/Problem" "tag" "Ljava/lang/String;") u) : own_Pb Z h' a v0 u v2 v3 v4 := ⟨Exa.wr W F.1, Fld.other W F.2.1 (Or.inr (slot_ne (C := "com/example/seefrom/seefrom/Problem") (Or.inr (twd hw 76 rfl)) (Or.inr (twd hw 78 rfl)) (by decide) (t := (.object "java/lang/String")) (t' := (.object "java/lang/String")) (by decide) (by decide))), Fld.same W F.2.2.1, Fld.other W F.2.2.2.1 (Or.inr (slot_ne (C := "com/example/seefrom/seefrom/Problem") (Or.inr (twd hw 80 rfl)) (Or.inr (twd hw 78 rfl)) (by decide) (t := .int) (t' := (.object "java/lang/String")) (by decide) (by decide))), Fld.other W F.2.2.2.2.1 (Or.inr (slot_ne (C := "com/example/seefrom/seefrom/Problem") (Or.inr (twd hw 82 rfl)) (Or.inr (twd hw 78 rfl)) (by decide) (t := (.object "com/example/seefrom/seefrom/Rule")) (t' := (.object "java/lang/String")) (by decide) (by decide))), Fld.other W F.2.2.2.2.2 (Or.inr (slot_ne (C := "com/example/seefrom/seefrom/Problem") (Or.inr (twd hw 84 rfl)) (Or.inr (twd hw 78 rfl)) (by decide) (t := (.object "java/lang/String")) (t' := (.object "java/lang/String")) (by decide) (by decide)))⟩
theorem own_Pb.w2 {Z : State} {a0 : Array Value} {h h' : Heap} {a : Addr} {v0 v1 v2 v3 v4 : Value} {u : Value} (hw : ∀ d ∈ tables_1, d.before a0 Z = true) (F : own_Pb Z h a v0 v1 v2 v3 v4) (W : Wr h h' a (Jvm.RoadKit.slotOf Z "com/example/seefrom/seefrom/Problem" "occurrence" "I") u) : own_Pb Z h' a v0 v1 u v3 v4 := ⟨Exa.wr W F.1, Fld.other W F.2.1 (Or.inr (slot_ne (C := "com/example/seefrom/seefrom/Problem") (Or.inr (twd hw 76 rfl)) (Or.inr (twd hw 80 rfl)) (by decide) (t := (.object "java/lang/String")) (t' := .int) (by decide) (by decide))), Fld.other W F.2.2.1 (Or.inr (slot_ne (C := "com/example/seefrom/seefrom/Problem") (Or.inr (twd hw 78 rfl)) (Or.inr (twd hw 80 rfl)) (by decide) (t := (.object "java/lang/String")) (t' := .int) (by decide) (by decide))), Fld.same W F.2.2.2.1, Fld.other W F.2.2.2.2.1 (Or.inr (slot_ne (C := "com/example/seefrom/seefrom/Problem") (Or.inr (twd hw 82 rfl)) (Or.inr (twd hw 80 rfl)) (by decide) (t := (.object "com/example/seefrom/seefrom/Rule")) (t' := .int) (by decide) (by decide))), Fld.other W F.2.2.2.2.2 (Or.inr (slot_ne (C := "com/example/seefrom/seefrom/Problem") (Or.inr (twd hw 84 rfl)) (Or.inr (twd hw 80 rfl)) (by decide) (t := (.object "java/lang/String")) (t' := .int) (by decide) (by decide)))⟩
theorem own_Pb.w3 {Z : State} {a0 : Array Value} {h h' : Heap} {a : Addr} {v0 v1 v2 v3 v4 : Value} {u : Value} (hw : ∀ d ∈ tables_1, d.before a0 Z = true) (F : own_Pb Z h a v0 v1 v2 v3 v4) (W : Wr h h' a (Jvm.RoadKit.slotOf Z "com/example/seefrom/seefrom/Problem" "rule" "Lcom/example/seefrom/seefrom/Rule;") u) : own_Pb Z h' a v0 v1 v2 u v4 := ⟨Exa.wr W F.1, Fld.other W F.2.1 (Or.inr (slot_ne (C := "com/example/seefrom/seefrom/Problem") (Or.inr (twd hw 76 rfl)) (Or.inr (twd hw 82 rfl)) (by decide) (t := (.object "java/lang/String")) (t' := (.object "com/example/seefrom/seefrom/Rule")) (by decide) (by decide))), Fld.other W F.2.2.1 (Or.inr (slot_ne (C := "com/example/seefrom/seefrom/Problem") (Or.inr (twd hw 78 rfl)) (Or.inr (twd hw 82 rfl)) (by decide) (t := (.object "java/lang/String")) (t' := (.object "com/example/seefrom/seefrom/Rule")) (by decide) (by decide))), Fld.other W F.2.2.2.1 (Or.inr (slot_ne (C := "com/example/seefrom/seefrom/Problem") (Or.inr (twd hw 80 rfl)) (Or.inr (twd hw 82 rfl)) (by decide) (t := .int) (t' := (.object "com/example/seefrom/seefrom/Rule")) (by decide) (by decide))), Fld.same W F.2.2.2.2.1, Fld.other W F.2.2.2.2.2 (Or.inr (slot_ne (C := "com/example/seefrom/seefrom/Problem") (Or.inr (twd hw 84 rfl)) (Or.inr (twd hw 82 rfl)) (by decide) (t := (.object "java/lang/String")) (t' := (.object "com/example/seefrom/seefrom/Rule")) (by decide) (by decide)))⟩
theorem own_Pb.w4 {Z : State} {a0 : Array Value} {h h' : Heap} {a : Addr} {v0 v1 v2 v3 v4 : Value} {u : Value} (hw : ∀ d ∈ tables_1, d.before a0 Z = true) (F : own_Pb Z h a v0 v1 v2 v3 v4) (W : Wr h h' a (Jvm.RoadKit.slotOf Z "com/example/seefrom/seefrom/Problem" "message" "Ljava/lang/String;") u) : own_Pb Z h' a v0 v1 v2 v3 u := ⟨Exa.wr W F.1, Fld.other W F.2.1 (Or.inr (slot_ne (C := "com/example/seefrom/seefrom/Problem") (Or.inr (twd hw 76 rfl)) (Or.inr (twd hw 84 rfl)) (by decide) (t := (.object "java/lang/String")) (t' := (.object "java/lang/String")) (by decide) (by decide))), Fld.other W F.2.2.1 (Or.inr (slot_ne (C := "com/example/seefrom/seefrom/Problem") (Or.inr (twd hw 78 rfl)) (Or.inr (twd hw 84 rfl)) (by decide) (t := (.object "java/lang/String")) (t' := (.object "java/lang/String")) (by decide) (by decide))), Fld.other W F.2.2.2.1 (Or.inr (slot_ne (C := "com/example/seefrom/seefrom/Problem") (Or.inr (twd hw 80 rfl)) (Or.inr (twd hw 84 rfl)) (by decide) (t := .int) (t' := (.object "java/lang/String")) (by decide) (by decide))), Fld.other W F.2.2.2.2.1 (Or.inr (slot_ne (C := "com/example/seefrom/seefrom/Problem") (Or.inr (twd hw 82 rfl)) (Or.inr (twd hw 84 rfl)) (by decide) (t := (.object "com/example/seefrom/seefrom/Rule")) (t' := (.object "java/lang/String")) (by decide) (by decide))), Fld.same W F.2.2.2.2.2⟩
theorem own_Pb.new {Z : State} {a0 : Array Value} {h : Heap} {a : Addr} (hw : ∀ d ∈ tables_1, d.before a0 Z = true) (E : Exa Z h a "com/example/seefrom/seefrom/Problem") (D : ∀ {O nm d : String} {ty : FieldType}, Laid Z a0 "com/example/seefrom/seefrom/Problem" O nm d → parseFieldDescriptor d = some ty → Fld Z h a O nm d (defaultValue ty)) : own_Pb Z h a .null .null (.int 0) .null .null := ⟨E, D (Or.inr (twd hw 76 rfl)) (ty := (.object "java/lang/String")) (by decide), D (Or.inr (twd hw 78 rfl)) (ty := (.object "java/lang/String")) (by decide), D (Or.inr (twd hw 80 rfl)) (ty := .int) (by decide), D (Or.inr (twd hw 82 rfl)) (ty := (.object "com/example/seefrom/seefrom/Rule")) (by decide), D (Or.inr (twd hw 84 rfl)) (ty := (.object "java/lang/String")) (by decide)⟩
theorem d13_0 : decode jdk_30_method_1_code 0 = .ok (.aload_n 0, 1) := by decide +kernel
theorem d13_1 : decode jdk_30_method_1_code 1 = .ok (.invokespecial 1, 3) := by decide +kernel
theorem d13_4 : decode jdk_30_method_1_code 4 = .ok (.return_, 1) := by decide +kernel
theorem pn3 : plainName "java/lang/Record" = true := by first | (simp [plainName, overriddenIn]; done) | decide +kernel
theorem ef_c13 (m : MethodId) (a1 : Addr) : entryFrame m #[(.ref a1)] 1 = mkF m 0 #[.val (.ref a1)] [] := by first | (simp [entryFrame, mkF, argsToLocals, Value.category]; done) | rfl
set_option maxRecDepth 65536 in
set_option maxHeartbeats 40000000 in
theorem c13 (l : Launch) (Z : State) (a0 : Array Value) (hw : ∀ d ∈ tables_1, d.before a0 Z = true) (a1 : Addr) (h : Heap) (n0 : Nat)  : Con l Z (⟨"java/lang/Record", "<init>", "()V"⟩ : MethodName) jdk_30_method_1_code 1 none ({ frames := 1, cells := 0, slots := 0, locals := 12 } : Room) #[(.ref a1)] h n0 (Pn h) := by
  refine Con.of (plainFor_of_name pn3) (fun m => ef_c13 m a1) ?_
  intro p e s m below meth c C
  refine G.aloadN C d13_0 rfl rfl rfl ?_
  refine G.initO C (W := 0) (twd hw 67 rfl) (twd hw 12 rfl) (twd hw 13 rfl) rfl d13_1 (by decide) (Nat.le_of_eq rfl) (by decide) rfl ?_
  exact G.retV C d13_4 (by decide) (by decide) (⟨rfl, rfl⟩)
theorem d14_0 : decode jdk_31_method_11_code 0 = .ok (.aload_n 0, 1) := by decide +kernel
theorem d14_1 : decode jdk_31_method_11_code 1 = .ok (.ifnonnull 12, 3) := by decide +kernel
theorem d14_4 : decode jdk_31_method_11_code 4 = .ok (.new 84, 3) := by decide +kernel
theorem d14_7 : decode jdk_31_method_11_code 7 = .ok (.dup, 1) := by decide +kernel
theorem d14_8 : decode jdk_31_method_11_code 8 = .ok (.aload_n 1, 1) := by decide +kernel
theorem d14_9 : decode jdk_31_method_11_code 9 = .ok (.invokespecial 87, 3) := by decide +kernel
theorem d14_12 : decode jdk_31_method_11_code 12 = .ok (.athrow, 1) := by decide +kernel
theorem d14_13 : decode jdk_31_method_11_code 13 = .ok (.aload_n 0, 1) := by decide +kernel
theorem d14_14 : decode jdk_31_method_11_code 14 = .ok (.areturn, 1) := by decide +kernel
theorem pn4 : plainName "java/util/Objects" = true := by first | (simp [plainName, overriddenIn]; done) | decide +kernel
theorem ef_c14 (m : MethodId) (a1 : Addr) (a2 : Addr) : entryFrame m #[(.ref a1), (.ref a2)] 2 = mkF m 0 #[.val (.ref a1), .val (.ref a2)] [] := by first | (simp [entryFrame, mkF, argsToLocals, Value.category]; done) | rfl
set_option maxRecDepth 65536 in
set_option maxHeartbeats 40000000 in
theorem c14 (l : Launch) (Z : State) (a0 : Array Value) (hw : ∀ d ∈ tables_1, d.before a0 Z = true) (a1 : Addr) (a2 : Addr) (h : Heap) (n0 : Nat)  : Con l Z (⟨"java/util/Objects", "requireNonNull", "(Ljava/lang/Object;Ljava/lang/String;)Ljava/lang/Object;"⟩ : MethodName) jdk_31_method_11_code 2 (some (.object "java/lang/Object")) ({ frames := 0, cells := 0, slots := 0, locals := 0 } : Room) #[(.ref a1), (.ref a2)] h n0 (Pv (.ref a1) h) := by
  refine Con.of (plainFor_of_name pn4) (fun m => ef_c14 m a1 a2) ?_
  intro p e s m below meth c C
  refine G.aloadN C d14_0 rfl rfl rfl ?_
  refine G.ifnonnullR C d14_1 (by decide) (pt := 13) (by decide) ?_
  refine G.aloadN C d14_13 rfl rfl rfl ?_
  exact G.retA C rfl rfl d14_14 (by decide) (by decide) rfl (⟨rfl, rfl⟩)
theorem d11_0 : decode method_2_code 0 = .ok (.iload_n 0, 1) := by decide +kernel
theorem d11_1 : decode method_2_code 1 = .ok (.iconst 3, 1) := by decide +kernel
theorem d11_2 : decode method_2_code 2 = .ok (.iand, 1) := by decide +kernel
theorem d11_3 : decode method_2_code 3 = .ok (.istore_n 1, 1) := by decide +kernel
theorem d11_4 : decode method_2_code 4 = .ok (.iload_n 1, 1) := by decide +kernel
theorem d11_5 : decode method_2_code 5 = .ok (.ifCond .ne 7, 3) := by decide +kernel
theorem d11_8 : decode method_2_code 8 = .ok (.getstatic 7, 3) := by decide +kernel
theorem d11_11 : decode method_2_code 11 = .ok (.areturn, 1) := by decide +kernel
theorem d11_12 : decode method_2_code 12 = .ok (.iload_n 1, 1) := by decide +kernel
theorem d11_13 : decode method_2_code 13 = .ok (.iconst 1, 1) := by decide +kernel
theorem d11_14 : decode method_2_code 14 = .ok (.if_icmp .ne 7, 3) := by decide +kernel
theorem d11_17 : decode method_2_code 17 = .ok (.getstatic 13, 3) := by decide +kernel
theorem d11_20 : decode method_2_code 20 = .ok (.areturn, 1) := by decide +kernel
theorem d11_21 : decode method_2_code 21 = .ok (.iload_n 1, 1) := by decide +kernel
theorem d11_22 : decode method_2_code 22 = .ok (.iconst 2, 1) := by decide +kernel
theorem d11_23 : decode method_2_code 23 = .ok (.if_icmp .ne 7, 3) := by decide +kernel
theorem d11_26 : decode method_2_code 26 = .ok (.getstatic 16, 3) := by decide +kernel
theorem d11_29 : decode method_2_code 29 = .ok (.areturn, 1) := by decide +kernel
theorem d11_30 : decode method_2_code 30 = .ok (.getstatic 19, 3) := by decide +kernel
theorem d11_33 : decode method_2_code 33 = .ok (.areturn, 1) := by decide +kernel
theorem pn5 : plainName "com/example/seefrom/seefrom/ProblemIsOfRecordPinLaw" = true := by first | (simp [plainName, overriddenIn]; done) | decide +kernel
theorem ef_c11 (m : MethodId) (i1 : Int32) : entryFrame m #[(.int i1)] 2 = mkF m 0 #[.val (.int i1), .unset] [] := by first | (simp [entryFrame, mkF, argsToLocals, Value.category]; done) | rfl
set_option maxRecDepth 65536 in
set_option maxHeartbeats 40000000 in
theorem c11 (l : Launch) (Z : State) (a0 : Array Value) (hw : ∀ d ∈ tables_1, d.before a0 Z = true) (i1 : Int32) (h : Heap) (n0 : Nat) (wI : Addr) (S_I : Sta Z h "com/example/seefrom/seefrom/Rule" "INDICATOR" "Lcom/example/seefrom/seefrom/Rule;" (.ref wI)) (wO : Addr) (S_O : Sta Z h "com/example/seefrom/seefrom/Rule" "OBSOLETE_CODE" "Lcom/example/seefrom/seefrom/Rule;" (.ref wO)) (wH : Addr) (S_H : Sta Z h "com/example/seefrom/seefrom/Rule" "HEADING" "Lcom/example/seefrom/seefrom/Rule;" (.ref wH)) (wD : Addr) (S_D : Sta Z h "com/example/seefrom/seefrom/Rule" "DAMAGED" "Lcom/example/seefrom/seefrom/Rule;" (.ref wD)) : Con l Z (⟨"com/example/seefrom/seefrom/ProblemIsOfRecordPinLaw", "pickRule", "(I)Lcom/example/seefrom/seefrom/Rule;"⟩ : MethodName) method_2_code 2 (some (.object "com/example/seefrom/seefrom/Rule")) ({ frames := 0, cells := 0, slots := 0, locals := 0 } : Room) #[(.int i1)] h n0 (fun v h' => ∃ a, v = some (.ref a) ∧ h' = h) := by
  refine Con.of (plainFor_of_name pn5) (fun m => ef_c11 m i1) ?_
  intro p e s m below meth c C
  refine G.iloadN C d11_0 rfl rfl ?_
  refine G.iconst C d11_1 (v := (3 : Int32)) rfl rfl ?_
  refine G.iand C d11_2 rfl ?_
  refine G.istoreN C d11_3 (Ls' := #[.val (.int i1), .val (.int (i1 &&& (3 : Int32)))]) rfl rfl ?_
  generalize hv3 : (i1 &&& (3 : Int32)) = v3
  refine G.iloadN C d11_4 rfl rfl ?_
  refine G.ifne C d11_5 (by decide) (pt := 12) (by decide) rfl (fun hc5 => ?_) (fun hc5 => ?_)
  · refine G.iloadN C d11_12 rfl rfl ?_
    refine G.iconst C d11_13 (v := (1 : Int32)) rfl rfl ?_
    refine G.icne C d11_14 (by decide) (pt := 21) (by decide) rfl (fun hc14 => ?_) (fun hc14 => ?_)
    · refine G.iloadN C d11_21 rfl rfl ?_
      refine G.iconst C d11_22 (v := (2 : Int32)) rfl rfl ?_
      refine G.icne C d11_23 (by decide) (pt := 30) (by decide) rfl (fun hc23 => ?_) (fun hc23 => ?_)
      · refine G.getS C (twd hw 97 rfl) S_H d11_30 rfl ?_
        exact G.retA C rfl rfl d11_33 (by decide) (by decide) rfl (⟨_, rfl, rfl⟩)
      · refine G.getS C (twd hw 99 rfl) S_D d11_26 rfl ?_
        exact G.retA C rfl rfl d11_29 (by decide) (by decide) rfl (⟨_, rfl, rfl⟩)
    · refine G.getS C (twd hw 95 rfl) S_O d11_17 rfl ?_
      exact G.retA C rfl rfl d11_20 (by decide) (by decide) rfl (⟨_, rfl, rfl⟩)
  · refine G.getS C (twd hw 52 rfl) S_I d11_8 rfl ?_
    exact G.retA C rfl rfl d11_11 (by decide) (by decide) rfl (⟨_, rfl, rfl⟩)
theorem d16_0 : decode prog_7_method_3_code 0 = .ok (.aload_n 0, 1) := by decide +kernel
theorem d16_1 : decode prog_7_method_3_code 1 = .ok (.getfield 24, 3) := by decide +kernel
theorem d16_4 : decode prog_7_method_3_code 4 = .ok (.ifnonnull 7, 3) := by decide +kernel
theorem d16_7 : decode prog_7_method_3_code 7 = .ok (.iconst 1, 1) := by decide +kernel
theorem d16_8 : decode prog_7_method_3_code 8 = .ok (.goto 4, 3) := by decide +kernel
theorem d16_11 : decode prog_7_method_3_code 11 = .ok (.iconst 0, 1) := by decide +kernel
theorem d16_12 : decode prog_7_method_3_code 12 = .ok (.ireturn, 1) := by decide +kernel
theorem pn6 : plainName "com/example/seefrom/seefrom/Problem" = true := by first | (simp [plainName, overriddenIn]; done) | decide +kernel
theorem ef_cIr (m : MethodId) (a1 : Addr) : entryFrame m #[(.ref a1)] 1 = mkF m 0 #[.val (.ref a1)] [] := by first | (simp [entryFrame, mkF, argsToLocals, Value.category]; done) | rfl
set_option maxRecDepth 65536 in
set_option maxHeartbeats 40000000 in
theorem cIr (l : Launch) (Z : State) (a0 : Array Value) (hw : ∀ d ∈ tables_1, d.before a0 Z = true) (a1 : Addr) (h : Heap) (n0 : Nat) (u : Addr) (F : Fld Z h a1 "com/example/seefrom/seefrom/Problem" "tag" "Ljava/lang/String;" (.ref u)) : Con l Z (⟨"com/example/seefrom/seefrom/Problem", "isOfRecord", "()Z"⟩ : MethodName) prog_7_method_3_code 1 (some .boolean) ({ frames := 0, cells := 0, slots := 0, locals := 0 } : Room) #[(.ref a1)] h n0 (Pv (.int (0 : Int32)) h) := by
  refine Con.of (plainFor_of_name pn6) (fun m => ef_cIr m a1) ?_
  intro p e s m below meth c C
  refine G.aloadN C d16_0 rfl rfl rfl ?_
  refine G.getF C (twd hw 77 rfl) F d16_1 rfl ?_
  refine G.ifnonnullR C d16_4 (by decide) (pt := 11) (by decide) ?_
  refine G.iconst C d16_11 (v := (0 : Int32)) rfl rfl ?_
  exact G.retZ C d16_12 (by decide) (by decide) rfl (⟨rfl, rfl⟩)
theorem ef_cIn (m : MethodId) (a1 : Addr) : entryFrame m #[(.ref a1)] 1 = mkF m 0 #[.val (.ref a1)] [] := by first | (simp [entryFrame, mkF, argsToLocals, Value.category]; done) | rfl
set_option maxRecDepth 65536 in
set_option maxHeartbeats 40000000 in
theorem cIn (l : Launch) (Z : State) (a0 : Array Value) (hw : ∀ d ∈ tables_1, d.before a0 Z = true) (a1 : Addr) (h : Heap) (n0 : Nat) (F : Fld Z h a1 "com/example/seefrom/seefrom/Problem" "tag" "Ljava/lang/String;" .null) : Con l Z (⟨"com/example/seefrom/seefrom/Problem", "isOfRecord", "()Z"⟩ : MethodName) prog_7_method_3_code 1 (some .boolean) ({ frames := 0, cells := 0, slots := 0, locals := 0 } : Room) #[(.ref a1)] h n0 (Pv (.int (1 : Int32)) h) := by
  refine Con.of (plainFor_of_name pn6) (fun m => ef_cIn m a1) ?_
  intro p e s m below meth c C
  refine G.aloadN C d16_0 rfl rfl rfl ?_
  refine G.getF C (twd hw 77 rfl) F d16_1 rfl ?_
  refine G.ifnonnull C d16_4 rfl ?_
  refine G.iconst C d16_7 (v := (1 : Int32)) rfl rfl ?_
  refine G.goto C d16_8 (by decide) (pc' := 12) (by decide) ?_
  exact G.retZ C d16_12 (by decide) (by decide) rfl (⟨rfl, rfl⟩)
theorem d12_0 : decode prog_7_method_1_code 0 = .ok (.aload_n 0, 1) := by decide +kernel
theorem d12_1 : decode prog_7_method_1_code 1 = .ok (.invokespecial 1, 3) := by decide +kernel
theorem d12_4 : decode prog_7_method_1_code 4 = .ok (.aload_n 1, 1) := by decide +kernel
theorem d12_5 : decode prog_7_method_1_code 5 = .ok (.ldc 7, 2) := by decide +kernel
theorem d12_7 : decode prog_7_method_1_code 7 = .ok (.invokestatic 9, 3) := by decide +kernel
theorem d12_10 : decode prog_7_method_1_code 10 = .ok (.pop, 1) := by decide +kernel
theorem d12_11 : decode prog_7_method_1_code 11 = .ok (.aload 4, 2) := by decide +kernel
theorem d12_13 : decode prog_7_method_1_code 13 = .ok (.ldc 15, 2) := by decide +kernel
theorem d12_15 : decode prog_7_method_1_code 15 = .ok (.invokestatic 9, 3) := by decide +kernel
theorem d12_18 : decode prog_7_method_1_code 18 = .ok (.pop, 1) := by decide +kernel
theorem d12_19 : decode prog_7_method_1_code 19 = .ok (.aload 5, 2) := by decide +kernel
theorem d12_21 : decode prog_7_method_1_code 21 = .ok (.ldc 17, 2) := by decide +kernel
theorem d12_23 : decode prog_7_method_1_code 23 = .ok (.invokestatic 9, 3) := by decide +kernel
theorem d12_26 : decode prog_7_method_1_code 26 = .ok (.pop, 1) := by decide +kernel
theorem d12_27 : decode prog_7_method_1_code 27 = .ok (.aload_n 0, 1) := by decide +kernel
theorem d12_28 : decode prog_7_method_1_code 28 = .ok (.aload_n 1, 1) := by decide +kernel
theorem d12_29 : decode prog_7_method_1_code 29 = .ok (.putfield 19, 3) := by decide +kernel
theorem d12_32 : decode prog_7_method_1_code 32 = .ok (.aload_n 0, 1) := by decide +kernel
theorem d12_33 : decode prog_7_method_1_code 33 = .ok (.aload_n 2, 1) := by decide +kernel
theorem d12_34 : decode prog_7_method_1_code 34 = .ok (.putfield 24, 3) := by decide +kernel
theorem d12_37 : decode prog_7_method_1_code 37 = .ok (.aload_n 0, 1) := by decide +kernel
theorem d12_38 : decode prog_7_method_1_code 38 = .ok (.iload_n 3, 1) := by decide +kernel
theorem d12_39 : decode prog_7_method_1_code 39 = .ok (.putfield 27, 3) := by decide +kernel
theorem d12_42 : decode prog_7_method_1_code 42 = .ok (.aload_n 0, 1) := by decide +kernel
theorem d12_43 : decode prog_7_method_1_code 43 = .ok (.aload 4, 2) := by decide +kernel
theorem d12_45 : decode prog_7_method_1_code 45 = .ok (.putfield 31, 3) := by decide +kernel
theorem d12_48 : decode prog_7_method_1_code 48 = .ok (.aload_n 0, 1) := by decide +kernel
theorem d12_49 : decode prog_7_method_1_code 49 = .ok (.aload 5, 2) := by decide +kernel
theorem d12_51 : decode prog_7_method_1_code 51 = .ok (.putfield 34, 3) := by decide +kernel
theorem d12_54 : decode prog_7_method_1_code 54 = .ok (.return_, 1) := by decide +kernel
theorem ef_cPr (m : MethodId) (a1 : Addr) (a2 : Addr) (a3 : Addr) (i4 : Int32) (a5 : Addr) (a6 : Addr) : entryFrame m #[(.ref a1), (.ref a2), (.ref a3), (.int i4), (.ref a5), (.ref a6)] 6 = mkF m 0 #[.val (.ref a1), .val (.ref a2), .val (.ref a3), .val (.int i4), .val (.ref a5), .val (.ref a6)] [] := by first | (simp [entryFrame, mkF, argsToLocals, Value.category]; done) | rfl
set_option maxRecDepth 65536 in
set_option maxHeartbeats 40000000 in
theorem cPr (l : Launch) (Z : State) (a0 : Array Value) (hw : ∀ d ∈ tables_1, d.before a0 Z = true) (a1 : Addr) (a2 : Addr) (a3 : Addr) (i4 : Int32) (a5 : Addr) (a6 : Addr) (h : Heap) (n0 : Nat) (u0 u1 u2 u3 u4 : Value) (ge : n0 ≤ a1) (O : own_Pb Z h a1 u0 u1 u2 u3 u4) : ConH l Z own_EL (⟨"com/example/seefrom/seefrom/Problem", "<init>", "(Ljava/lang/String;Ljava/lang/String;ILcom/example/seefrom/seefrom/Rule;Ljava/lang/String;)V"⟩ : MethodName) prog_7_method_1_code 6 none ({ frames := 2, cells := 6, slots := 108, locals := 24 } : Room) #[(.ref a1), (.ref a2), (.ref a3), (.int i4), (.ref a5), (.ref a6)] h n0 (fun v h' => v = none ∧ own_Pb Z h' a1 (.ref a2) (.ref a3) (.int i4) (.ref a5) (.ref a6) ∧ Kp h h' [a1]) := by
  refine ConH.of (plainFor_of_name pn6) (fun m => ef_cPr m a1 a2 a3 i4 a5 a6) ?_
  intro p e s m below meth c H0 C
  refine G.aloadN C d12_0 rfl rfl rfl ?_
  refine G.callI C (S := []) (W := 0) rfl (twd hw 62 rfl) (twd hw 63 rfl) (twd hw 65 rfl) (twd hw 66 rfl) (by decide) (c13 l Z a0 hw a1 h n0) pd2 rfl rfl d12_1 rfl (Nat.le_of_eq rfl) (by decide) (by decide) (by decide) (by decide) rfl (fun whp1 hp1 hq2 => ?_)
  obtain ⟨rfl, ehq2⟩ := hq2; rw [ehq2]
  show G p l e _ _ m _ below meth c n0 _ h 0 0 (mkF m 4 #[.val (.ref a1), .val (.ref a2), .val (.ref a3), .val (.int i4), .val (.ref a5), .val (.ref a6)] [])
  refine G.aloadN C d12_4 rfl rfl rfl ?_
  refine G.ldcO C (own_hEL hw) H0 (nn := 52) (twd hw 68 rfl) (own_sa hw) d12_5 (by decide) (by decide) (by decide) (by decide) rfl (fun vm5 h_5 s_5 E5 C R5 => ?_)
  have oc3 := own_Pb.ext O E5
  have kp4 := Kp.ext (Kp.refl h [a1]) E5
  show G p l e _ _ m _ below meth c n0 _ h_5 2 56 (mkF m 7 #[.val (.ref a1), .val (.ref a2), .val (.ref a3), .val (.int i4), .val (.ref a5), .val (.ref a6)] [(.ref s_5), (.ref a2)])
  refine G.callSP C (S := []) (W := 0) (twd hw 69 rfl) (twd hw 70 rfl) (twd hw 71 rfl) (twd hw 72 rfl) (by decide) (c14 l Z a0 hw a2 s_5 h_5 n0) pd12 rfl rfl d12_7 rfl (Nat.le_of_eq rfl) (by decide) (by decide) rfl rfl (by decide) (by decide) rfl ?_
  refine G.pop C d12_10 rfl rfl ?_
  refine G.aload C d12_11 rfl rfl rfl ?_
  refine G.ldcO C (own_hEL hw) R5.1 (nn := 16) (twd hw 73 rfl) (own_sa hw) d12_13 (by decide) (by decide) (by decide) (by decide) rfl (fun vm13 h_13 s_13 E13 C R13 => ?_)
  have oc5 := own_Pb.ext oc3 E13
  have kp6 := Kp.ext kp4 E13
  show G p l e _ _ m _ below meth c n0 _ h_13 4 76 (mkF m 15 #[.val (.ref a1), .val (.ref a2), .val (.ref a3), .val (.int i4), .val (.ref a5), .val (.ref a6)] [(.ref s_13), (.ref a5)])
  refine G.callSP C (S := []) (W := 0) (twd hw 69 rfl) (twd hw 70 rfl) (twd hw 71 rfl) (twd hw 72 rfl) (by decide) (c14 l Z a0 hw a5 s_13 h_13 n0) pd12 rfl rfl d12_15 rfl (Nat.le_of_eq rfl) (by decide) (by decide) rfl rfl (by decide) (by decide) rfl ?_
  refine G.pop C d12_18 rfl rfl ?_
  refine G.aload C d12_19 rfl rfl rfl ?_
  refine G.ldcO C (own_hEL hw) R13.1 (nn := 28) (twd hw 74 rfl) (own_sa hw) d12_21 (by decide) (by decide) (by decide) (by decide) rfl (fun vm21 h_21 s_21 E21 C R21 => ?_)
  have oc7 := own_Pb.ext oc5 E21
  have kp8 := Kp.ext kp6 E21
  show G p l e _ _ m _ below meth c n0 _ h_21 6 108 (mkF m 23 #[.val (.ref a1), .val (.ref a2), .val (.ref a3), .val (.int i4), .val (.ref a5), .val (.ref a6)] [(.ref s_21), (.ref a6)])
  refine G.callSP C (S := []) (W := 0) (twd hw 69 rfl) (twd hw 70 rfl) (twd hw 71 rfl) (twd hw 72 rfl) (by decide) (c14 l Z a0 hw a6 s_21 h_21 n0) pd12 rfl rfl d12_23 rfl (Nat.le_of_eq rfl) (by decide) (by decide) rfl rfl (by decide) (by decide) rfl ?_
  refine G.pop C d12_26 rfl rfl ?_
  refine G.aloadN C d12_27 rfl rfl rfl ?_
  refine G.aloadN C d12_28 rfl rfl rfl ?_
  refine G.putF C (twd hw 75 rfl) (oc7).2.1 (oc7).1 (Or.inr ⟨(twd hw 76 rfl), rfl, rfl⟩) (twd hw 57 rfl) (ty := (.object "java/lang/String")) (by decide) rfl rfl ge d12_29 rfl (fun hn9 W29 => ?_)
  have Rw10 := CHr.wr W29 (Safe.exa C.2.1.alike (oc7).1 (by decide) (by decide)) R21.1
  have kp11 := Kp.wr kp8 W29 (Or.inl (by simp))
  have oc12 := own_Pb.w0 hw oc7 W29
  refine G.aloadN C d12_32 rfl rfl rfl ?_
  refine G.aloadN C d12_33 rfl rfl rfl ?_
  refine G.putF C (twd hw 77 rfl) (oc12).2.2.1 (oc12).1 (Or.inr ⟨(twd hw 78 rfl), rfl, rfl⟩) (twd hw 57 rfl) (ty := (.object "java/lang/String")) (by decide) rfl rfl ge d12_34 rfl (fun hn13 W34 => ?_)
  have Rw14 := CHr.wr W34 (Safe.exa C.2.1.alike (oc12).1 (by decide) (by decide)) Rw10.1
  have kp15 := Kp.wr kp11 W34 (Or.inl (by simp))
  have oc16 := own_Pb.w1 hw oc12 W34
  refine G.aloadN C d12_37 rfl rfl rfl ?_
  refine G.iloadN C d12_38 rfl rfl ?_
  refine G.putF C (twd hw 79 rfl) (oc16).2.2.2.1 (oc16).1 (Or.inr ⟨(twd hw 80 rfl), rfl, rfl⟩) (twd hw 57 rfl) (ty := .int) (by decide) rfl rfl ge d12_39 rfl (fun hn17 W39 => ?_)
  have Rw18 := CHr.wr W39 (Safe.exa C.2.1.alike (oc16).1 (by decide) (by decide)) Rw14.1
  have kp19 := Kp.wr kp15 W39 (Or.inl (by simp))
  have oc20 := own_Pb.w2 hw oc16 W39
  refine G.aloadN C d12_42 rfl rfl rfl ?_
  refine G.aload C d12_43 rfl rfl rfl ?_
  refine G.putF C (twd hw 81 rfl) (oc20).2.2.2.2.1 (oc20).1 (Or.inr ⟨(twd hw 82 rfl), rfl, rfl⟩) (twd hw 57 rfl) (ty := (.object "com/example/seefrom/seefrom/Rule")) (by decide) rfl rfl ge d12_45 rfl (fun hn21 W45 => ?_)
  have Rw22 := CHr.wr W45 (Safe.exa C.2.1.alike (oc20).1 (by decide) (by decide)) Rw18.1
  have kp23 := Kp.wr kp19 W45 (Or.inl (by simp))
  have oc24 := own_Pb.w3 hw oc20 W45
  refine G.aloadN C d12_48 rfl rfl rfl ?_
  refine G.aload C d12_49 rfl rfl rfl ?_
  refine G.putF C (twd hw 83 rfl) (oc24).2.2.2.2.2 (oc24).1 (Or.inr ⟨(twd hw 84 rfl), rfl, rfl⟩) (twd hw 57 rfl) (ty := (.object "java/lang/String")) (by decide) rfl rfl ge d12_51 rfl (fun hn25 W51 => ?_)
  have Rw26 := CHr.wr W51 (Safe.exa C.2.1.alike (oc24).1 (by decide) (by decide)) Rw22.1
  have kp27 := Kp.wr kp23 W51 (Or.inl (by simp))
  have oc28 := own_Pb.w4 hw oc24 W51
  refine G.narrowE (Qn := fun v z => ((fun v h' => v = none ∧ own_Pb Z h' a1 (.ref a2) (.ref a3) (.int i4) (.ref a5) (.ref a6) ∧ Kp h h' [a1]) v z) ∧ CHr Z own_EL s.vm h vm21 z ∧ h_5.size ≤ z.size ∧ h_13.size ≤ z.size ∧ h_21.size ≤ z.size) (fun v t q w => ⟨⟨⟨⟨q.1, CHr.trans q.2.1 (own_chw C (own_hEL hw) q.2.1.1 w)⟩, q.2.2.1⟩, q.2.2.2.1⟩, q.2.2.2.2⟩) ?_
  exact G.retV C d12_54 (by decide) (by decide) (⟨⟨rfl, oc28, kp27⟩, (CHr.trans R5 (CHr.trans R13 (CHr.trans R21 (CHr.trans Rw10 (CHr.trans Rw14 (CHr.trans Rw18 (CHr.trans Rw22 Rw26))))))), ((CHr.trans R13 (CHr.trans R21 (CHr.trans Rw10 (CHr.trans Rw14 (CHr.trans Rw18 (CHr.trans Rw22 Rw26))))))).2.1, ((CHr.trans R21 (CHr.trans Rw10 (CHr.trans Rw14 (CHr.trans Rw18 (CHr.trans Rw22 Rw26)))))).2.1, ((CHr.trans Rw10 (CHr.trans Rw14 (CHr.trans Rw18 (CHr.trans Rw22 Rw26))))).2.1⟩)
theorem ef_cPn (m : MethodId) (a1 : Addr) (a2 : Addr) (i4 : Int32) (a5 : Addr) (a6 : Addr) : entryFrame m #[(.ref a1), (.ref a2), .null, (.int i4), (.ref a5), (.ref a6)] 6 = mkF m 0 #[.val (.ref a1), .val (.ref a2), .val .null, .val (.int i4), .val (.ref a5), .val (.ref a6)] [] := by first | (simp [entryFrame, mkF, argsToLocals, Value.category]; done) | rfl
set_option maxRecDepth 65536 in
set_option maxHeartbeats 40000000 in
theorem cPn (l : Launch) (Z : State) (a0 : Array Value) (hw : ∀ d ∈ tables_1, d.before a0 Z = true) (a1 : Addr) (a2 : Addr) (i4 : Int32) (a5 : Addr) (a6 : Addr) (h : Heap) (n0 : Nat) (u0 u1 u2 u3 u4 : Value) (ge : n0 ≤ a1) (O : own_Pb Z h a1 u0 u1 u2 u3 u4) : ConH l Z own_EL (⟨"com/example/seefrom/seefrom/Problem", "<init>", "(Ljava/lang/String;Ljava/lang/String;ILcom/example/seefrom/seefrom/Rule;Ljava/lang/String;)V"⟩ : MethodName) prog_7_method_1_code 6 none ({ frames := 2, cells := 6, slots := 108, locals := 24 } : Room) #[(.ref a1), (.ref a2), .null, (.int i4), (.ref a5), (.ref a6)] h n0 (fun v h' => v = none ∧ own_Pb Z h' a1 (.ref a2) .null (.int i4) (.ref a5) (.ref a6) ∧ Kp h h' [a1]) := by
  refine ConH.of (plainFor_of_name pn6) (fun m => ef_cPn m a1 a2 i4 a5 a6) ?_
  intro p e s m below meth c H0 C
  refine G.aloadN C d12_0 rfl rfl rfl ?_
  refine G.callI C (S := []) (W := 0) rfl (twd hw 62 rfl) (twd hw 63 rfl) (twd hw 65 rfl) (twd hw 66 rfl) (by decide) (c13 l Z a0 hw a1 h n0) pd2 rfl rfl d12_1 rfl (Nat.le_of_eq rfl) (by decide) (by decide) (by decide) (by decide) rfl (fun whp1 hp1 hq2 => ?_)
  obtain ⟨rfl, ehq2⟩ := hq2; rw [ehq2]
  show G p l e _ _ m _ below meth c n0 _ h 0 0 (mkF m 4 #[.val (.ref a1), .val (.ref a2), .val .null, .val (.int i4), .val (.ref a5), .val (.ref a6)] [])
  refine G.aloadN C d12_4 rfl rfl rfl ?_
  refine G.ldcO C (own_hEL hw) H0 (nn := 52) (twd hw 68 rfl) (own_sa hw) d12_5 (by decide) (by decide) (by decide) (by decide) rfl (fun vm5 h_5 s_5 E5 C R5 => ?_)
  have oc3 := own_Pb.ext O E5
  have kp4 := Kp.ext (Kp.refl h [a1]) E5
  show G p l e _ _ m _ below meth c n0 _ h_5 2 56 (mkF m 7 #[.val (.ref a1), .val (.ref a2), .val .null, .val (.int i4), .val (.ref a5), .val (.ref a6)] [(.ref s_5), (.ref a2)])
  refine G.callSP C (S := []) (W := 0) (twd hw 69 rfl) (twd hw 70 rfl) (twd hw 71 rfl) (twd hw 72 rfl) (by decide) (c14 l Z a0 hw a2 s_5 h_5 n0) pd12 rfl rfl d12_7 rfl (Nat.le_of_eq rfl) (by decide) (by decide) rfl rfl (by decide) (by decide) rfl ?_
  refine G.pop C d12_10 rfl rfl ?_
  refine G.aload C d12_11 rfl rfl rfl ?_
  refine G.ldcO C (own_hEL hw) R5.1 (nn := 16) (twd hw 73 rfl) (own_sa hw) d12_13 (by decide) (by decide) (by decide) (by decide) rfl (fun vm13 h_13 s_13 E13 C R13 => ?_)
  have oc5 := own_Pb.ext oc3 E13
  have kp6 := Kp.ext kp4 E13
  show G p l e _ _ m _ below meth c n0 _ h_13 4 76 (mkF m 15 #[.val (.ref a1), .val (.ref a2), .val .null, .val (.int i4), .val (.ref a5), .val (.ref a6)] [(.ref s_13), (.ref a5)])
  refine G.callSP C (S := []) (W := 0) (twd hw 69 rfl) (twd hw 70 rfl) (twd hw 71 rfl) (twd hw 72 rfl) (by decide) (c14 l Z a0 hw a5 s_13 h_13 n0) pd12 rfl rfl d12_15 rfl (Nat.le_of_eq rfl) (by decide) (by decide) rfl rfl (by decide) (by decide) rfl ?_
  refine G.pop C d12_18 rfl rfl ?_
  refine G.aload C d12_19 rfl rfl rfl ?_
  refine G.ldcO C (own_hEL hw) R13.1 (nn := 28) (twd hw 74 rfl) (own_sa hw) d12_21 (by decide) (by decide) (by decide) (by decide) rfl (fun vm21 h_21 s_21 E21 C R21 => ?_)
  have oc7 := own_Pb.ext oc5 E21
  have kp8 := Kp.ext kp6 E21
  show G p l e _ _ m _ below meth c n0 _ h_21 6 108 (mkF m 23 #[.val (.ref a1), .val (.ref a2), .val .null, .val (.int i4), .val (.ref a5), .val (.ref a6)] [(.ref s_21), (.ref a6)])
  refine G.callSP C (S := []) (W := 0) (twd hw 69 rfl) (twd hw 70 rfl) (twd hw 71 rfl) (twd hw 72 rfl) (by decide) (c14 l Z a0 hw a6 s_21 h_21 n0) pd12 rfl rfl d12_23 rfl (Nat.le_of_eq rfl) (by decide) (by decide) rfl rfl (by decide) (by decide) rfl ?_
  refine G.pop C d12_26 rfl rfl ?_
  refine G.aloadN C d12_27 rfl rfl rfl ?_
  refine G.aloadN C d12_28 rfl rfl rfl ?_
  refine G.putF C (twd hw 75 rfl) (oc7).2.1 (oc7).1 (Or.inr ⟨(twd hw 76 rfl), rfl, rfl⟩) (twd hw 57 rfl) (ty := (.object "java/lang/String")) (by decide) rfl rfl ge d12_29 rfl (fun hn9 W29 => ?_)
  have Rw10 := CHr.wr W29 (Safe.exa C.2.1.alike (oc7).1 (by decide) (by decide)) R21.1
  have kp11 := Kp.wr kp8 W29 (Or.inl (by simp))
  have oc12 := own_Pb.w0 hw oc7 W29
  refine G.aloadN C d12_32 rfl rfl rfl ?_
  refine G.aloadN C d12_33 rfl rfl rfl ?_
  refine G.putF C (twd hw 77 rfl) (oc12).2.2.1 (oc12).1 (Or.inr ⟨(twd hw 78 rfl), rfl, rfl⟩) (twd hw 57 rfl) (ty := (.object "java/lang/String")) (by decide) rfl rfl ge d12_34 rfl (fun hn13 W34 => ?_)
  have Rw14 := CHr.wr W34 (Safe.exa C.2.1.alike (oc12).1 (by decide) (by decide)) Rw10.1
  have kp15 := Kp.wr kp11 W34 (Or.inl (by simp))
  have oc16 := own_Pb.w1 hw oc12 W34
  refine G.aloadN C d12_37 rfl rfl rfl ?_
  refine G.iloadN C d12_38 rfl rfl ?_
  refine G.putF C (twd hw 79 rfl) (oc16).2.2.2.1 (oc16).1 (Or.inr ⟨(twd hw 80 rfl), rfl, rfl⟩) (twd hw 57 rfl) (ty := .int) (by decide) rfl rfl ge d12_39 rfl (fun hn17 W39 => ?_)
  have Rw18 := CHr.wr W39 (Safe.exa C.2.1.alike (oc16).1 (by decide) (by decide)) Rw14.1
  have kp19 := Kp.wr kp15 W39 (Or.inl (by simp))
  have oc20 := own_Pb.w2 hw oc16 W39
  refine G.aloadN C d12_42 rfl rfl rfl ?_
  refine G.aload C d12_43 rfl rfl rfl ?_
  refine G.putF C (twd hw 81 rfl) (oc20).2.2.2.2.1 (oc20).1 (Or.inr ⟨(twd hw 82 rfl), rfl, rfl⟩) (twd hw 57 rfl) (ty := (.object "com/example/seefrom/seefrom/Rule")) (by decide) rfl rfl ge d12_45 rfl (fun hn21 W45 => ?_)
  have Rw22 := CHr.wr W45 (Safe.exa C.2.1.alike (oc20).1 (by decide) (by decide)) Rw18.1
  have kp23 := Kp.wr kp19 W45 (Or.inl (by simp))
  have oc24 := own_Pb.w3 hw oc20 W45
  refine G.aloadN C d12_48 rfl rfl rfl ?_
  refine G.aload C d12_49 rfl rfl rfl ?_
  refine G.putF C (twd hw 83 rfl) (oc24).2.2.2.2.2 (oc24).1 (Or.inr ⟨(twd hw 84 rfl), rfl, rfl⟩) (twd hw 57 rfl) (ty := (.object "java/lang/String")) (by decide) rfl rfl ge d12_51 rfl (fun hn25 W51 => ?_)
  have Rw26 := CHr.wr W51 (Safe.exa C.2.1.alike (oc24).1 (by decide) (by decide)) Rw22.1
  have kp27 := Kp.wr kp23 W51 (Or.inl (by simp))
  have oc28 := own_Pb.w4 hw oc24 W51
  refine G.narrowE (Qn := fun v z => ((fun v h' => v = none ∧ own_Pb Z h' a1 (.ref a2) .null (.int i4) (.ref a5) (.ref a6) ∧ Kp h h' [a1]) v z) ∧ CHr Z own_EL s.vm h vm21 z ∧ h_5.size ≤ z.size ∧ h_13.size ≤ z.size ∧ h_21.size ≤ z.size) (fun v t q w => ⟨⟨⟨⟨q.1, CHr.trans q.2.1 (own_chw C (own_hEL hw) q.2.1.1 w)⟩, q.2.2.1⟩, q.2.2.2.1⟩, q.2.2.2.2⟩) ?_
  exact G.retV C d12_54 (by decide) (by decide) (⟨⟨rfl, oc28, kp27⟩, (CHr.trans R5 (CHr.trans R13 (CHr.trans R21 (CHr.trans Rw10 (CHr.trans Rw14 (CHr.trans Rw18 (CHr.trans Rw22 Rw26))))))), ((CHr.trans R13 (CHr.trans R21 (CHr.trans Rw10 (CHr.trans Rw14 (CHr.trans Rw18 (CHr.trans Rw22 Rw26))))))).2.1, ((CHr.trans R21 (CHr.trans Rw10 (CHr.trans Rw14 (CHr.trans Rw18 (CHr.trans Rw22 Rw26)))))).2.1, ((CHr.trans Rw10 (CHr.trans Rw14 (CHr.trans Rw18 (CHr.trans Rw22 Rw26))))).2.1⟩)
theorem d15_0 : decode prog_7_method_2_code 0 = .ok (.new 20, 3) := by decide +kernel
theorem d15_3 : decode prog_7_method_2_code 3 = .ok (.dup, 1) := by decide +kernel
theorem d15_4 : decode prog_7_method_2_code 4 = .ok (.aload_n 0, 1) := by decide +kernel
theorem d15_5 : decode prog_7_method_2_code 5 = .ok (.aconst_null, 1) := by decide +kernel
theorem d15_6 : decode prog_7_method_2_code 6 = .ok (.iconst 0, 1) := by decide +kernel
theorem d15_7 : decode prog_7_method_2_code 7 = .ok (.aload_n 1, 1) := by decide +kernel
theorem d15_8 : decode prog_7_method_2_code 8 = .ok (.aload_n 2, 1) := by decide +kernel
theorem d15_9 : decode prog_7_method_2_code 9 = .ok (.invokespecial 36, 3) := by decide +kernel
theorem d15_12 : decode prog_7_method_2_code 12 = .ok (.areturn, 1) := by decide +kernel
theorem ef_c15 (m : MethodId) (a1 : Addr) (a2 : Addr) (a3 : Addr) : entryFrame m #[(.ref a1), (.ref a2), (.ref a3)] 3 = mkF m 0 #[.val (.ref a1), .val (.ref a2), .val (.ref a3)] [] := by first | (simp [entryFrame, mkF, argsToLocals, Value.category]; done) | rfl
set_option maxRecDepth 65536 in
set_option maxHeartbeats 40000000 in
theorem c15 (l : Launch) (Z : State) (a0 : Array Value) (hw : ∀ d ∈ tables_1, d.before a0 Z = true) (a1 : Addr) (a2 : Addr) (a3 : Addr) (h : Heap) (n0 : Nat) (sz : n0 ≤ h.size) : ConH l Z own_EL (⟨"com/example/seefrom/seefrom/Problem", "ofRecord", "(Ljava/lang/String;Lcom/example/seefrom/seefrom/Rule;Ljava/lang/String;)Lcom/example/seefrom/seefrom/Problem;"⟩ : MethodName) prog_7_method_2_code 3 (some (.object "com/example/seefrom/seefrom/Problem")) ({ frames := 3, cells := 7, slots := 113, locals := 42 } : Room) #[(.ref a1), (.ref a2), (.ref a3)] h n0 (fun v h' => ∃ a, v = some (.ref a) ∧ own_Pb Z h' a (.ref a1) .null (.int (0 : Int32)) (.ref a2) (.ref a3) ∧ Kp h h' []) := by
  refine ConH.of (plainFor_of_name pn6) (fun m => ef_c15 m a1 a2 a3) ?_
  intro p e s m below meth c H0 C
  refine G.newO C (twd hw 88 rfl) (twd hw 57 rfl) (twd hw 58 rfl) d15_0 (by decide) (by decide) rfl (fun hn1 b0 g0 E0 A0 D0 => ?_)
  have old0 := Nat.le_trans (Kp.refl h []).1.1 (Nat.le_of_eq g0.symm)
  have ge0 : n0 ≤ b0 := by rw [g0]; exact sz
  have sz2 : n0 ≤ hn1.size := Nat.le_trans sz E0.1
  have kp3 := Kp.ext (Kp.refl h []) E0
  have ob0 := own_Pb.new hw A0 D0
  show G p l e _ _ m _ below meth c n0 _ hn1 1 5 (mkF m 3 #[.val (.ref a1), .val (.ref a2), .val (.ref a3)] [(.ref b0)])
  refine G.dup C d15_3 rfl rfl ?_
  refine G.aloadN C d15_4 rfl rfl rfl ?_
  refine G.aconst_null C d15_5 rfl ?_
  refine G.iconst C d15_6 (v := (0 : Int32)) rfl rfl ?_
  refine G.aloadN C d15_7 rfl rfl rfl ?_
  refine G.aloadN C d15_8 rfl rfl rfl ?_
  have R0 := CHr.ext E0 H0
  refine G.callIH C (own_hEL hw) R0.1 (S := [(.ref b0)]) (W := 1) rfl (twd hw 89 rfl) (twd hw 60 rfl) (twd hw 58 rfl) (twd hw 61 rfl) (by decide) (cPn l Z a0 hw b0 a1 (0 : Int32) a2 a3 hn1 n0 _ _ _ _ _ ge0 ob0) pd11 rfl rfl d15_9 rfl (Nat.le_of_eq rfl) (by decide) (by decide) (by decide) (by decide) rfl (fun whp4 hp4 vm9 hq5 R9 C => ?_)
  obtain ⟨rfl, O9, K9⟩ := hq5
  have sz6 : n0 ≤ hp4.size := Nat.le_trans sz2 K9.1.1
  have kp7 := Kp.trans kp3 K9 (by simp [old0])
  show G p l e _ _ m _ below meth c n0 _ hp4 7 113 (mkF m 12 #[.val (.ref a1), .val (.ref a2), .val (.ref a3)] [(.ref b0)])
  refine G.narrowE (Qn := fun v z => ((fun v h' => ∃ a, v = some (.ref a) ∧ own_Pb Z h' a (.ref a1) .null (.int (0 : Int32)) (.ref a2) (.ref a3) ∧ Kp h h' []) v z) ∧ CHr Z own_EL s.vm h vm9 z ∧ hp4.size ≤ z.size) (fun v t q w => ⟨⟨q.1, CHr.trans q.2.1 (own_chw C (own_hEL hw) q.2.1.1 w)⟩, q.2.2⟩) ?_
  exact G.retA C rfl rfl d15_12 (by decide) (by decide) rfl (⟨⟨b0, rfl, O9, kp7⟩, CHr.trans R0 R9, Nat.le_refl _⟩)
theorem ef_c0 (m : MethodId) (i1 : Int32) (i2 : Int32) (i3 : Int32) (i4 : Int32) (i5 : Int32) (i6 : Int32) : entryFrame m #[(.int i1), (.int i2), (.int i3), (.int i4), (.int i5), (.int i6)] maxLocals = mkF m 0 #[.val (.int i1), .val (.int i2), .val (.int i3), .val (.int i4), .val (.int i5), .val (.int i6), .unset, .unset, .unset, .unset, .unset, .unset, .unset, .unset, .unset, .unset, .unset, .unset, .unset, .unset, .unset] [] := by first | (simp [entryFrame, mkF, argsToLocals, Value.category, maxLocals]; done) | rfl
set_option maxRecDepth 65536 in
set_option maxHeartbeats 40000000 in
theorem c0 (l : Launch) (Z : State) (a0 : Array Value) (hw : ∀ d ∈ tables_1, d.before a0 Z = true) (i1 : Int32) (i2 : Int32) (i3 : Int32) (i4 : Int32) (i5 : Int32) (i6 : Int32) (h : Heap) (n0 : Nat) (Z0 : n0 ≤ h.size) (cs : Int32) (hcs : ¬ cs = 0) (S_cs : Sta Z h "java/lang/String" "COMPACT_STRINGS" "Z" (.int cs)) (wI : Addr) (S_I : Sta Z h "com/example/seefrom/seefrom/Rule" "INDICATOR" "Lcom/example/seefrom/seefrom/Rule;" (.ref wI)) (wO : Addr) (S_O : Sta Z h "com/example/seefrom/seefrom/Rule" "OBSOLETE_CODE" "Lcom/example/seefrom/seefrom/Rule;" (.ref wO)) (wH : Addr) (S_H : Sta Z h "com/example/seefrom/seefrom/Rule" "HEADING" "Lcom/example/seefrom/seefrom/Rule;" (.ref wH)) (wD : Addr) (S_D : Sta Z h "com/example/seefrom/seefrom/Rule" "DAMAGED" "Lcom/example/seefrom/seefrom/Rule;" (.ref wD)) (Hc : CHv Z own_EL Z.vm Z.heap) : ConZ l Z x code maxLocals ret room_1 #[(.int i1), (.int i2), (.int i3), (.int i4), (.int i5), (.int i6)] h n0 (fun v h' => v = some (.int 1)) := by
  refine ConZ.of (plainFor_of_name pn5) (fun m => ef_c0 m i1 i2 i3 i4 i5 i6) ?_
  intro p e s m below meth c es eh C
  replace C : Cx p s m meth c Z (⟨"com/example/seefrom/seefrom/ProblemIsOfRecordPinLaw", "law", "(IIIIII)Z"⟩ : MethodName) code 21 (some .boolean) := C
  have H0 : CHv Z own_EL s.vm h := by rw [es, ← eh]; exact Hc
  refine G.iconst C at_0 (v := (2 : Int32)) rfl rfl ?_
  refine G.newarr C (aty := .char) (twd hw 0 rfl) (z := (2 : Int32)) (by decide) (cap := 2) (by decide) (by decide) at_1 (by decide) (by decide) rfl (fun hn1 b1 g1 E1 A1 => ?_)
  have ge1 : n0 ≤ b1 := by rw [g1]; exact Z0
  have sf2 := Sta.ext E1 S_cs
  have sf3 := Sta.ext E1 S_I
  have sf4 := Sta.ext E1 S_O
  have sf5 := Sta.ext E1 S_H
  have sf6 := Sta.ext E1 S_D
  have sz7 : n0 ≤ hn1.size := Nat.le_trans Z0 E1.1
  have ch8 := CHv.ext E1 H0
  have AA1 : Ara Z hn1 b1 .char 2 (own_tab [(0 : Int32), (0 : Int32)]) := Ara.cast A1 (fun q hq => own_t0 2 q)
  show G p l e _ _ m _ below meth c n0 _ hn1 1 2 (mkF m 3 #[.val (.int i1), .val (.int i2), .val (.int i3), .val (.int i4), .val (.int i5), .val (.int i6), .unset, .unset, .unset, .unset, .unset, .unset, .unset, .unset, .unset, .unset, .unset, .unset, .unset, .unset, .unset] [(.ref b1)])
  refine G.astore C at_3 rfl (Ls' := #[.val (.int i1), .val (.int i2), .val (.int i3), .val (.int i4), .val (.int i5), .val (.int i6), .val (.ref b1), .unset, .unset, .unset, .unset, .unset, .unset, .unset, .unset, .unset, .unset, .unset, .unset, .unset, .unset]) rfl rfl ?_
  refine G.aload C at_5 rfl rfl rfl ?_
  refine G.iconst C at_7 (v := (0 : Int32)) rfl rfl ?_
  refine G.iloadN C at_8 rfl rfl ?_
  refine G.sipush C at_9 (v := (255 : Int32)) rfl rfl ?_
  refine G.iand C at_12 rfl ?_
  refine G.i2c C at_13 rfl ?_
  refine G.castore C AA1 (by decide) ge1 at_14 rfl (fun hn9 W14 => ?_)
  have Wbhn9 : Wr hn1 hn9 b1 0 (.int ((i2 &&& (255 : Int32)).toUInt32.toUInt16.toUInt32.toInt32)) := by have e := W14; rw [(own_nc (own_c8 _))] at e; exact e
  have sf10 := Sta.wr W14 sf2
  have sf11 := Sta.wr W14 sf3
  have sf12 := Sta.wr W14 sf4
  have sf13 := Sta.wr W14 sf5
  have sf14 := Sta.wr W14 sf6
  have sz15 : n0 ≤ hn9.size := (by rw [W14.size]; exact sz7)
  have ch16 := CHv.wr W14 (own_sarr C.2.1.alike AA1 (by intro q; cases q)) ch8
  have Awhn9 : Ara Z hn9 b1 .char 2 (own_tab [((i2 &&& (255 : Int32)).toUInt32.toUInt16.toUInt32.toInt32), (0 : Int32)]) := Ara.cast (Ara.set AA1 Wbhn9) (fun q hq => own_tset [(0 : Int32), (0 : Int32)] 0 ((i2 &&& (255 : Int32)).toUInt32.toUInt16.toUInt32.toInt32) (show 0 < 2 by decide) q)
  refine G.aload C at_15 rfl rfl rfl ?_
  refine G.iconst C at_17 (v := (1 : Int32)) rfl rfl ?_
  refine G.iloadN C at_18 rfl rfl ?_
  refine G.sipush C at_19 (v := (255 : Int32)) rfl rfl ?_
  refine G.iand C at_22 rfl ?_
  refine G.i2c C at_23 rfl ?_
  refine G.castore C Awhn9 (by decide) ge1 at_24 rfl (fun hn17 W24 => ?_)
  have Wbhn17 : Wr hn9 hn17 b1 1 (.int ((i3 &&& (255 : Int32)).toUInt32.toUInt16.toUInt32.toInt32)) := by have e := W24; rw [(own_nc (own_c8 _))] at e; exact e
  have sf18 := Sta.wr W24 sf10
  have sf19 := Sta.wr W24 sf11
  have sf20 := Sta.wr W24 sf12
  have sf21 := Sta.wr W24 sf13
  have sf22 := Sta.wr W24 sf14
  have sz23 : n0 ≤ hn17.size := (by rw [W24.size]; exact sz15)
  have ch24 := CHv.wr W24 (own_sarr C.2.1.alike Awhn9 (by intro q; cases q)) ch16
  have Awhn17 : Ara Z hn17 b1 .char 2 (own_tab [((i2 &&& (255 : Int32)).toUInt32.toUInt16.toUInt32.toInt32), ((i3 &&& (255 : Int32)).toUInt32.toUInt16.toUInt32.toInt32)]) := Ara.cast (Ara.set Awhn9 Wbhn17) (fun q hq => own_tset [((i2 &&& (255 : Int32)).toUInt32.toUInt16.toUInt32.toInt32), (0 : Int32)] 1 ((i3 &&& (255 : Int32)).toUInt32.toUInt16.toUInt32.toInt32) (show 1 < 2 by decide) q)
  refine G.newO C (twd hw 1 rfl) (twd hw 2 rfl) (twd hw 3 rfl) at_25 (by decide) (by decide) rfl (fun hn25 b25 g25 E25 A25 D25 => ?_)
  have ne_b1_b25 : b1 ≠ b25 := by rw [g25]; exact Nat.ne_of_lt (Ara.lt Awhn17)
  have ge25 : n0 ≤ b25 := by rw [g25]; exact sz23
  have sf26 := Sta.ext E25 sf18
  have sf27 := Sta.ext E25 sf19
  have sf28 := Sta.ext E25 sf20
  have sf29 := Sta.ext E25 sf21
  have sf30 := Sta.ext E25 sf22
  have oc31 := Ara.ext Awhn17 E25
  have sz32 : n0 ≤ hn25.size := Nat.le_trans sz23 E25.1
  have ch33 := CHv.ext E25 ch24
  have ob25 := own_SV.new hw A25 D25
  show G p l e _ _ m _ below meth c n0 _ hn25 2 6 (mkF m 28 #[.val (.int i1), .val (.int i2), .val (.int i3), .val (.int i4), .val (.int i5), .val (.int i6), .val (.ref b1), .unset, .unset, .unset, .unset, .unset, .unset, .unset, .unset, .unset, .unset, .unset, .unset, .unset, .unset] [(.ref b25)])
  refine G.dup C at_28 rfl rfl ?_
  refine G.iconst C at_29 (v := (0 : Int32)) rfl rfl ?_
  refine G.newarr C (aty := .char) (twd hw 0 rfl) (z := (0 : Int32)) (by decide) (cap := 0) (by decide) (by decide) at_30 (by decide) (by decide) rfl (fun hn34 b30 g30 E30 A30 => ?_)
  have ne_b1_b30 : b1 ≠ b30 := by rw [g30]; exact Nat.ne_of_lt (Ara.lt oc31)
  have ne_b25_b30 : b25 ≠ b30 := by rw [g30]; exact Nat.ne_of_lt (Exa.lt (ob25).1)
  have ge30 : n0 ≤ b30 := by rw [g30]; exact sz32
  have sf35 := Sta.ext E30 sf26
  have sf36 := Sta.ext E30 sf27
  have sf37 := Sta.ext E30 sf28
  have sf38 := Sta.ext E30 sf29
  have sf39 := Sta.ext E30 sf30
  have oc40 := Ara.ext oc31 E30
  have oc41 := own_SV.ext ob25 E30
  have sz42 : n0 ≤ hn34.size := Nat.le_trans sz32 E30.1
  have ch43 := CHv.ext E30 ch33
  have AA30 : Ara Z hn34 b30 .char 0 (own_tab []) := Ara.cast A30 (fun q hq => own_t0 0 q)
  show G p l e _ _ m _ below meth c n0 _ hn34 3 6 (mkF m 32 #[.val (.int i1), .val (.int i2), .val (.int i3), .val (.int i4), .val (.int i5), .val (.int i6), .val (.ref b1), .unset, .unset, .unset, .unset, .unset, .unset, .unset, .unset, .unset, .unset, .unset, .unset, .unset, .unset] [(.ref b30), (.ref b25), (.ref b25)])
  refine G.callIH C (own_hEL hw) ch43 (S := [(.ref b25)]) (W := 1) rfl (twd hw 4 rfl) (twd hw 5 rfl) (twd hw 3 rfl) (twd hw 6 rfl) (by decide) (cE2 l Z a0 hw b25 b30 hn34 n0 ge25 oc41 AA30) pd0 rfl rfl at_32 rfl (Nat.le_of_eq rfl) (by decide) (by decide) (by decide) (by decide) rfl (fun whp44 hp44 vm32 hq45 R32 C => ?_)
  obtain ⟨rfl, bb32, O32, A32, K32⟩ := hq45
  have sf46 := Sta.kp K32 sf35
  have sf47 := Sta.kp K32 sf36
  have sf48 := Sta.kp K32 sf37
  have sf49 := Sta.kp K32 sf38
  have sf50 := Sta.kp K32 sf39
  have oc51 := Ara.kp oc40 K32 (by simp [ne_b1_b25])
  have sz52 : n0 ≤ hp44.size := Nat.le_trans sz42 K32.1.1
  show G p l e _ _ m _ below meth c n0 _ hp44 7 14 (mkF m 35 #[.val (.int i1), .val (.int i2), .val (.int i3), .val (.int i4), .val (.int i5), .val (.int i6), .val (.ref b1), .unset, .unset, .unset, .unset, .unset, .unset, .unset, .unset, .unset, .unset, .unset, .unset, .unset, .unset] [(.ref b25)])
  refine G.astore C at_35 rfl (Ls' := #[.val (.int i1), .val (.int i2), .val (.int i3), .val (.int i4), .val (.int i5), .val (.int i6), .val (.ref b1), .val (.ref b25), .unset, .unset, .unset, .unset, .unset, .unset, .unset, .unset, .unset, .unset, .unset, .unset, .unset]) rfl rfl ?_
  refine G.iloadN C at_37 rfl rfl ?_
  refine G.sipush C at_38 (v := (255 : Int32)) rfl rfl ?_
  refine G.iand C at_41 rfl ?_
  refine G.i2c C at_42 rfl ?_
  refine G.callS C (S := []) (W := 0) (twd hw 22 rfl) (twd hw 23 rfl) (twd hw 3 rfl) (twd hw 24 rfl) (by decide) (cVo l Z a0 hw ((i2 &&& (255 : Int32)).toUInt32.toUInt16.toUInt32.toInt32) hp44 n0 (own_c8 _) sz52 cs hcs sf46) pd3 rfl rfl at_43 rfl (Nat.le_of_eq rfl) (by decide) (by decide) (by decide) (by decide) rfl (fun whp53 hp53 hq54 => ?_)
  obtain ⟨a43, va43, rfl, S43, K43, g43⟩ := hq54
  have sf55 := Sta.kp K43 sf46
  have sf56 := Sta.kp K43 sf47
  have sf57 := Sta.kp K43 sf48
  have sf58 := Sta.kp K43 sf49
  have sf59 := Sta.kp K43 sf50
  have oc60 := Ara.kp oc51 K43 (by simp)
  have sz61 : n0 ≤ hp53.size := Nat.le_trans sz52 K43.1.1
  have le62 : hp44.size ≤ hp53.size := Nat.le_trans (Nat.le_refl hp44.size) K43.1.1
  have ch63 := CHv.keep K43.1 (fun x hx => by cases hx) R32.1
  show G p l e _ _ m _ below meth c n0 _ hp53 9 19 (mkF m 46 #[.val (.int i1), .val (.int i2), .val (.int i3), .val (.int i4), .val (.int i5), .val (.int i6), .val (.ref b1), .val (.ref b25), .unset, .unset, .unset, .unset, .unset, .unset, .unset, .unset, .unset, .unset, .unset, .unset, .unset] [(.ref a43)])
  refine G.astore C at_46 rfl (Ls' := #[.val (.int i1), .val (.int i2), .val (.int i3), .val (.int i4), .val (.int i5), .val (.int i6), .val (.ref b1), .val (.ref b25), .val (.ref a43), .unset, .unset, .unset, .unset, .unset, .unset, .unset, .unset, .unset, .unset, .unset, .unset]) rfl rfl ?_
  refine G.newO C (twd hw 1 rfl) (twd hw 2 rfl) (twd hw 3 rfl) at_48 (by decide) (by decide) rfl (fun hn64 b48 g48 E48 A48 D48 => ?_)
  have ne_b1_b48 : b1 ≠ b48 := by rw [g48]; exact Nat.ne_of_lt (Ara.lt oc60)
  have ge48 : n0 ≤ b48 := by rw [g48]; exact sz61
  have sf65 := Sta.ext E48 sf55
  have sf66 := Sta.ext E48 sf56
  have sf67 := Sta.ext E48 sf57
  have sf68 := Sta.ext E48 sf58
  have sf69 := Sta.ext E48 sf59
  have oc70 := Ara.ext oc60 E48
  have sz71 : n0 ≤ hn64.size := Nat.le_trans sz61 E48.1
  have le72 : hp44.size ≤ hn64.size := Nat.le_trans le62 E48.1
  have ch73 := CHv.ext E48 ch63
  have ob48 := own_SV.new hw A48 D48
  show G p l e _ _ m _ below meth c n0 _ hn64 10 23 (mkF m 51 #[.val (.int i1), .val (.int i2), .val (.int i3), .val (.int i4), .val (.int i5), .val (.int i6), .val (.ref b1), .val (.ref b25), .val (.ref a43), .unset, .unset, .unset, .unset, .unset, .unset, .unset, .unset, .unset, .unset, .unset, .unset] [(.ref b48)])
  refine G.dup C at_51 rfl rfl ?_
  refine G.aload C at_52 rfl rfl rfl ?_
  refine G.callI C (S := [(.ref b48)]) (W := 1) rfl (twd hw 4 rfl) (twd hw 5 rfl) (twd hw 3 rfl) (twd hw 6 rfl) (by decide) (cS2 l Z a0 hw b48 b1 hn64 n0 ((i2 &&& (255 : Int32)).toUInt32.toUInt16.toUInt32.toInt32) ((i3 &&& (255 : Int32)).toUInt32.toUInt16.toUInt32.toInt32) (own_c8 _) (own_c8 _) ge48 ob48 oc70 sz71 (Ne.symm ne_b1_b48) cs hcs sf65) pd0 rfl rfl at_54 rfl (Nat.le_of_eq rfl) (by decide) (by decide) (by decide) (by decide) rfl (fun whp74 hp74 hq75 => ?_)
  obtain ⟨rfl, bb54, O54, A54, K54⟩ := hq75
  have sf76 := Sta.kp K54 sf65
  have sf77 := Sta.kp K54 sf66
  have sf78 := Sta.kp K54 sf67
  have sf79 := Sta.kp K54 sf68
  have sf80 := Sta.kp K54 sf69
  have oc81 := Ara.kp oc70 K54 (by simp [ne_b1_b48])
  have sz82 : n0 ≤ hp74.size := Nat.le_trans sz71 K54.1.1
  have le83 : hp44.size ≤ hp74.size := Nat.le_trans le72 K54.1.1
  have ch84 := CHv.keep K54.1 (fun x hx => by cases List.mem_singleton.mp hx; exact (own_safe C.2.1.alike ob48.1 ob48.2.1)) ch73
  show G p l e _ _ m _ below meth c n0 _ hp74 11 25 (mkF m 57 #[.val (.int i1), .val (.int i2), .val (.int i3), .val (.int i4), .val (.int i5), .val (.int i6), .val (.ref b1), .val (.ref b25), .val (.ref a43), .unset, .unset, .unset, .unset, .unset, .unset, .unset, .unset, .unset, .unset, .unset, .unset] [(.ref b48)])
  refine G.astore C at_57 rfl (Ls' := #[.val (.int i1), .val (.int i2), .val (.int i3), .val (.int i4), .val (.int i5), .val (.int i6), .val (.ref b1), .val (.ref b25), .val (.ref a43), .val (.ref b48), .unset, .unset, .unset, .unset, .unset, .unset, .unset, .unset, .unset, .unset, .unset]) rfl rfl ?_
  refine G.iloadN C at_59 rfl rfl ?_
  refine G.ldcI C (v := (2147483647 : Int32)) (twd hw 47 rfl) at_60 rfl ?_
  refine G.iand C at_62 rfl ?_
  refine G.iconst C at_63 (v := (3 : Int32)) rfl rfl ?_
  refine G.irem C at_64 (by decide) rfl ?_
  refine G.istore C at_65 (Ls' := #[.val (.int i1), .val (.int i2), .val (.int i3), .val (.int i4), .val (.int i5), .val (.int i6), .val (.ref b1), .val (.ref b25), .val (.ref a43), .val (.ref b48), .val (.int ((i1 &&& (2147483647 : Int32)) % (3 : Int32))), .unset, .unset, .unset, .unset, .unset, .unset, .unset, .unset, .unset, .unset]) rfl rfl ?_
  generalize hv65 : ((i1 &&& (2147483647 : Int32)) % (3 : Int32)) = v65
  refine G.iload C at_67 rfl rfl ?_
  have J96 : ∀ (w11 : Addr), G p l e room_1 (s.setVm vm32) m #[(.int i1), (.int i2), (.int i3), (.int i4), (.int i5), (.int i6)] below meth c n0 (We (s.setVm vm32) room_1 n0 (fun v t => (v = some (Value.int 1)) ∧ hp44.size ≤ t.heap.size)) hp74 11 25 (mkF m 96 #[.val (.int i1), .val (.int i2), .val (.int i3), .val (.int i4), .val (.int i5), .val (.int i6), .val (.ref b1), .val (.ref b25), .val (.ref a43), .val (.ref b48), .val (.int v65), .val (.ref w11), .unset, .unset, .unset, .unset, .unset, .unset, .unset, .unset, .unset] []) := by
    intro w11
    refine G.iload C at_96 rfl rfl ?_
    refine G.iconst C at_98 (v := (1 : Int32)) rfl rfl ?_
    refine G.iand C at_99 rfl ?_
    have J110 : ∀ (w12 : Addr), G p l e room_1 (s.setVm vm32) m #[(.int i1), (.int i2), (.int i3), (.int i4), (.int i5), (.int i6)] below meth c n0 (We (s.setVm vm32) room_1 n0 (fun v t => (v = some (Value.int 1)) ∧ hp44.size ≤ t.heap.size)) hp74 11 25 (mkF m 110 #[.val (.int i1), .val (.int i2), .val (.int i3), .val (.int i4), .val (.int i5), .val (.int i6), .val (.ref b1), .val (.ref b25), .val (.ref a43), .val (.ref b48), .val (.int v65), .val (.ref w11), .unset, .unset, .unset, .unset, .unset, .unset, .unset, .unset, .unset] [(.ref w12)]) := by
      intro w12
      refine G.astore C at_110 rfl (Ls' := #[.val (.int i1), .val (.int i2), .val (.int i3), .val (.int i4), .val (.int i5), .val (.int i6), .val (.ref b1), .val (.ref b25), .val (.ref a43), .val (.ref b48), .val (.int v65), .val (.ref w11), .val (.ref w12), .unset, .unset, .unset, .unset, .unset, .unset, .unset, .unset]) rfl rfl ?_
      refine G.iload C at_112 rfl rfl ?_
      refine G.callS C (S := []) (W := 0) (twd hw 48 rfl) (twd hw 49 rfl) (twd hw 50 rfl) (twd hw 51 rfl) (by decide) (c11 l Z a0 hw i5 hp74 n0 wI sf77 wO sf78 wH sf79 wD sf80) pd10 rfl rfl at_114 rfl (Nat.le_of_eq rfl) (by decide) (by decide) (by decide) (by decide) rfl (fun whp85 hp85 hq86 => ?_)
      obtain ⟨a114, rfl, ehq86⟩ := hq86; rw [ehq86]
      show G p l e _ _ m _ below meth c n0 _ hp74 11 25 (mkF m 117 #[.val (.int i1), .val (.int i2), .val (.int i3), .val (.int i4), .val (.int i5), .val (.int i6), .val (.ref b1), .val (.ref b25), .val (.ref a43), .val (.ref b48), .val (.int v65), .val (.ref w11), .val (.ref w12), .unset, .unset, .unset, .unset, .unset, .unset, .unset, .unset] [(.ref a114)])
      refine G.astore C at_117 rfl (Ls' := #[.val (.int i1), .val (.int i2), .val (.int i3), .val (.int i4), .val (.int i5), .val (.int i6), .val (.ref b1), .val (.ref b25), .val (.ref a43), .val (.ref b48), .val (.int v65), .val (.ref w11), .val (.ref w12), .val (.ref a114), .unset, .unset, .unset, .unset, .unset, .unset, .unset]) rfl rfl ?_
      refine G.ldcO C (own_hEL hw) ch84 (nn := 4) (twd hw 55 rfl) (own_sa hw) at_119 (by decide) (by decide) (by decide) (by decide) rfl (fun vm119 h_119 s_119 E119 C R119 => ?_)
      have sf87 := Sta.ext E119 sf76
      have sf88 := Sta.ext E119 sf77
      have sf89 := Sta.ext E119 sf78
      have sf90 := Sta.ext E119 sf79
      have sf91 := Sta.ext E119 sf80
      have oc92 := Ara.ext oc81 E119
      have sz93 : n0 ≤ h_119.size := Nat.le_trans sz82 E119.1
      have le94 : hp44.size ≤ h_119.size := Nat.le_trans le83 E119.1
      show G p l e _ _ m _ below meth c n0 _ h_119 13 33 (mkF m 121 #[.val (.int i1), .val (.int i2), .val (.int i3), .val (.int i4), .val (.int i5), .val (.int i6), .val (.ref b1), .val (.ref b25), .val (.ref a43), .val (.ref b48), .val (.int v65), .val (.ref w11), .val (.ref w12), .val (.ref a114), .unset, .unset, .unset, .unset, .unset, .unset, .unset] [(.ref s_119)])
      refine G.astore C at_121 rfl (Ls' := #[.val (.int i1), .val (.int i2), .val (.int i3), .val (.int i4), .val (.int i5), .val (.int i6), .val (.ref b1), .val (.ref b25), .val (.ref a43), .val (.ref b48), .val (.int v65), .val (.ref w11), .val (.ref w12), .val (.ref a114), .val (.ref s_119), .unset, .unset, .unset, .unset, .unset, .unset]) rfl rfl ?_
      refine G.newO C (twd hw 56 rfl) (twd hw 57 rfl) (twd hw 58 rfl) at_123 (by decide) (by decide) rfl (fun hn95 b123 g123 E123 A123 D123 => ?_)
      have ne_b1_b123 : b1 ≠ b123 := by rw [g123]; exact Nat.ne_of_lt (Ara.lt oc92)
      have ge123 : n0 ≤ b123 := by rw [g123]; exact sz93
      have sf96 := Sta.ext E123 sf87
      have sf97 := Sta.ext E123 sf88
      have sf98 := Sta.ext E123 sf89
      have sf99 := Sta.ext E123 sf90
      have sf100 := Sta.ext E123 sf91
      have oc101 := Ara.ext oc92 E123
      have sz102 : n0 ≤ hn95.size := Nat.le_trans sz93 E123.1
      have le103 : hp44.size ≤ hn95.size := Nat.le_trans le94 E123.1
      have le104 : h_119.size ≤ hn95.size := Nat.le_trans (Nat.le_refl h_119.size) E123.1
      have ch105 := CHv.ext E123 R119.1
      have ob123 := own_Pb.new hw A123 D123
      show G p l e _ _ m _ below meth c n0 _ hn95 14 38 (mkF m 126 #[.val (.int i1), .val (.int i2), .val (.int i3), .val (.int i4), .val (.int i5), .val (.int i6), .val (.ref b1), .val (.ref b25), .val (.ref a43), .val (.ref b48), .val (.int v65), .val (.ref w11), .val (.ref w12), .val (.ref a114), .val (.ref s_119), .unset, .unset, .unset, .unset, .unset, .unset] [(.ref b123)])
      refine G.dup C at_126 rfl rfl ?_
      refine G.aload C at_127 rfl rfl rfl ?_
      refine G.aload C at_129 rfl rfl rfl ?_
      refine G.iloadN C at_131 rfl rfl ?_
      refine G.aload C at_132 rfl rfl rfl ?_
      refine G.aload C at_134 rfl rfl rfl ?_
      refine G.callIH C (own_hEL hw) ch105 (S := [(.ref b123)]) (W := 1) rfl (twd hw 59 rfl) (twd hw 60 rfl) (twd hw 58 rfl) (twd hw 61 rfl) (by decide) (cPr l Z a0 hw b123 w12 w11 i4 a114 s_119 hn95 n0 _ _ _ _ _ ge123 ob123) pd11 rfl rfl at_136 rfl (Nat.le_of_eq rfl) (by decide) (by decide) (by decide) (by decide) rfl (fun whp106 hp106 vm136 hq107 R136 C => ?_)
      obtain ⟨rfl, P136, K136⟩ := hq107
      have sf108 := Sta.kp K136 sf96
      have sf109 := Sta.kp K136 sf97
      have sf110 := Sta.kp K136 sf98
      have sf111 := Sta.kp K136 sf99
      have sf112 := Sta.kp K136 sf100
      have oc113 := Ara.kp oc101 K136 (by simp [ne_b1_b123])
      have sz114 : n0 ≤ hp106.size := Nat.le_trans sz102 K136.1.1
      have le115 : hp44.size ≤ hp106.size := Nat.le_trans le103 K136.1.1
      have le116 : h_119.size ≤ hp106.size := Nat.le_trans le104 K136.1.1
      show G p l e _ _ m _ below meth c n0 _ hp106 20 146 (mkF m 139 #[.val (.int i1), .val (.int i2), .val (.int i3), .val (.int i4), .val (.int i5), .val (.int i6), .val (.ref b1), .val (.ref b25), .val (.ref a43), .val (.ref b48), .val (.int v65), .val (.ref w11), .val (.ref w12), .val (.ref a114), .val (.ref s_119), .unset, .unset, .unset, .unset, .unset, .unset] [(.ref b123)])
      refine G.astore C at_139 rfl (Ls' := #[.val (.int i1), .val (.int i2), .val (.int i3), .val (.int i4), .val (.int i5), .val (.int i6), .val (.ref b1), .val (.ref b25), .val (.ref a43), .val (.ref b48), .val (.int v65), .val (.ref w11), .val (.ref w12), .val (.ref a114), .val (.ref s_119), .val (.ref b123), .unset, .unset, .unset, .unset, .unset]) rfl rfl ?_
      refine G.newO C (twd hw 56 rfl) (twd hw 57 rfl) (twd hw 58 rfl) at_141 (by decide) (by decide) rfl (fun hn117 b141 g141 E141 A141 D141 => ?_)
      have ne_b1_b141 : b1 ≠ b141 := by rw [g141]; exact Nat.ne_of_lt (Ara.lt oc113)
      have ne_b123_b141 : b123 ≠ b141 := by rw [g141]; exact Nat.ne_of_lt (Exa.lt (P136).1)
      have ge141 : n0 ≤ b141 := by rw [g141]; exact sz114
      have sf118 := Sta.ext E141 sf108
      have sf119 := Sta.ext E141 sf109
      have sf120 := Sta.ext E141 sf110
      have sf121 := Sta.ext E141 sf111
      have sf122 := Sta.ext E141 sf112
      have oc123 := Ara.ext oc113 E141
      have oc124 := own_Pb.ext P136 E141
      have sz125 : n0 ≤ hn117.size := Nat.le_trans sz114 E141.1
      have le126 : hp44.size ≤ hn117.size := Nat.le_trans le115 E141.1
      have le127 : h_119.size ≤ hn117.size := Nat.le_trans le116 E141.1
      have le128 : hp106.size ≤ hn117.size := Nat.le_trans (Nat.le_refl hp106.size) E141.1
      have ch129 := CHv.ext E141 R136.1
      have ob141 := own_Pb.new hw A141 D141
      show G p l e _ _ m _ below meth c n0 _ hn117 21 151 (mkF m 144 #[.val (.int i1), .val (.int i2), .val (.int i3), .val (.int i4), .val (.int i5), .val (.int i6), .val (.ref b1), .val (.ref b25), .val (.ref a43), .val (.ref b48), .val (.int v65), .val (.ref w11), .val (.ref w12), .val (.ref a114), .val (.ref s_119), .val (.ref b123), .unset, .unset, .unset, .unset, .unset] [(.ref b141)])
      refine G.dup C at_144 rfl rfl ?_
      refine G.aload C at_145 rfl rfl rfl ?_
      refine G.aconst_null C at_147 rfl ?_
      refine G.iconst C at_148 (v := (0 : Int32)) rfl rfl ?_
      refine G.aload C at_149 rfl rfl rfl ?_
      refine G.aload C at_151 rfl rfl rfl ?_
      refine G.callIH C (own_hEL hw) ch129 (S := [(.ref b141)]) (W := 1) rfl (twd hw 59 rfl) (twd hw 60 rfl) (twd hw 58 rfl) (twd hw 61 rfl) (by decide) (cPn l Z a0 hw b141 w12 (0 : Int32) a114 s_119 hn117 n0 _ _ _ _ _ ge141 ob141) pd11 rfl rfl at_153 rfl (Nat.le_of_eq rfl) (by decide) (by decide) (by decide) (by decide) rfl (fun whp130 hp130 vm153 hq131 R153 C => ?_)
      obtain ⟨rfl, P153, K153⟩ := hq131
      have sf132 := Sta.kp K153 sf118
      have sf133 := Sta.kp K153 sf119
      have sf134 := Sta.kp K153 sf120
      have sf135 := Sta.kp K153 sf121
      have sf136 := Sta.kp K153 sf122
      have oc137 := Ara.kp oc123 K153 (by simp [ne_b1_b141])
      have oc138 := own_Pb.keep oc124 K153 (by simp [ne_b123_b141])
      have sz139 : n0 ≤ hp130.size := Nat.le_trans sz125 K153.1.1
      have le140 : hp44.size ≤ hp130.size := Nat.le_trans le126 K153.1.1
      have le141 : h_119.size ≤ hp130.size := Nat.le_trans le127 K153.1.1
      have le142 : hp106.size ≤ hp130.size := Nat.le_trans le128 K153.1.1
      show G p l e _ _ m _ below meth c n0 _ hp130 27 259 (mkF m 156 #[.val (.int i1), .val (.int i2), .val (.int i3), .val (.int i4), .val (.int i5), .val (.int i6), .val (.ref b1), .val (.ref b25), .val (.ref a43), .val (.ref b48), .val (.int v65), .val (.ref w11), .val (.ref w12), .val (.ref a114), .val (.ref s_119), .val (.ref b123), .unset, .unset, .unset, .unset, .unset] [(.ref b141)])
      refine G.astore C at_156 rfl (Ls' := #[.val (.int i1), .val (.int i2), .val (.int i3), .val (.int i4), .val (.int i5), .val (.int i6), .val (.ref b1), .val (.ref b25), .val (.ref a43), .val (.ref b48), .val (.int v65), .val (.ref w11), .val (.ref w12), .val (.ref a114), .val (.ref s_119), .val (.ref b123), .val (.ref b141), .unset, .unset, .unset, .unset]) rfl rfl ?_
      refine G.aload C at_158 rfl rfl rfl ?_
      refine G.aload C at_160 rfl rfl rfl ?_
      refine G.aload C at_162 rfl rfl rfl ?_
      refine G.callSH C (own_hEL hw) R153.1 (S := []) (W := 0) (twd hw 85 rfl) (twd hw 86 rfl) (twd hw 58 rfl) (twd hw 87 rfl) (by decide) (c15 l Z a0 hw w12 a114 s_119 hp130 n0 sz139) pd13 rfl rfl at_164 rfl (Nat.le_of_eq rfl) (by decide) (by decide) (by decide) (by decide) rfl (fun whp143 hp143 vm164 hq144 R164 C => ?_)
      obtain ⟨a164, rfl, P164, K164⟩ := hq144
      have sf145 := Sta.kp K164 sf132
      have sf146 := Sta.kp K164 sf133
      have sf147 := Sta.kp K164 sf134
      have sf148 := Sta.kp K164 sf135
      have sf149 := Sta.kp K164 sf136
      have oc150 := Ara.kp oc137 K164 (by simp)
      have oc151 := own_Pb.keep oc138 K164 (by simp)
      have oc152 := own_Pb.keep P153 K164 (by simp)
      have sz153 : n0 ≤ hp143.size := Nat.le_trans sz139 K164.1.1
      have le154 : hp44.size ≤ hp143.size := Nat.le_trans le140 K164.1.1
      have le155 : h_119.size ≤ hp143.size := Nat.le_trans le141 K164.1.1
      have le156 : hp106.size ≤ hp143.size := Nat.le_trans le142 K164.1.1
      have le157 : hp130.size ≤ hp143.size := Nat.le_trans (Nat.le_refl hp130.size) K164.1.1
      show G p l e _ _ m _ below meth c n0 _ hp143 34 372 (mkF m 167 #[.val (.int i1), .val (.int i2), .val (.int i3), .val (.int i4), .val (.int i5), .val (.int i6), .val (.ref b1), .val (.ref b25), .val (.ref a43), .val (.ref b48), .val (.int v65), .val (.ref w11), .val (.ref w12), .val (.ref a114), .val (.ref s_119), .val (.ref b123), .val (.ref b141), .unset, .unset, .unset, .unset] [(.ref a164)])
      refine G.narrowE (Qn := fun v z => v = some (Value.int 1) ∧ hp44.size ≤ z.size ∧ h_119.size ≤ z.size ∧ hp106.size ≤ z.size ∧ hp130.size ≤ z.size ∧ hp143.size ≤ z.size) (fun v t q w => ⟨⟨⟨⟨⟨q.1, q.2.1⟩, q.2.2.1⟩, q.2.2.2.1⟩, q.2.2.2.2.1⟩, q.2.2.2.2.2⟩) ?_
      refine G.astore C at_167 rfl (Ls' := #[.val (.int i1), .val (.int i2), .val (.int i3), .val (.int i4), .val (.int i5), .val (.int i6), .val (.ref b1), .val (.ref b25), .val (.ref a43), .val (.ref b48), .val (.int v65), .val (.ref w11), .val (.ref w12), .val (.ref a114), .val (.ref s_119), .val (.ref b123), .val (.ref b141), .val (.ref a164), .unset, .unset, .unset]) rfl rfl ?_
      refine G.aload C at_169 rfl rfl rfl ?_
      refine G.callVP C (S := []) (W := 0) (twd hw 90 rfl) (twd hw 92 rfl) (twd hw 58 rfl) (twd hw 94 rfl) (twd hw 91 rfl) (twd hw 93 rfl) oc151.1 (by decide) (cIr l Z a0 hw b123 hp143 n0 w11 oc151.2.2.1) pd14 rfl rfl at_171 rfl (Nat.le_of_eq rfl) (by decide) (by decide) rfl rfl (by decide) (by decide) rfl ?_
      refine G.ifne C at_174 (by decide) (pt := 181) (by decide) rfl (fun q => absurd q (by decide)) (fun _ => ?_)
      refine G.iconst C at_177 (v := (1 : Int32)) rfl rfl ?_
      refine G.goto C at_178 (by decide) (pc' := 182) (by decide) ?_
      refine G.istore C at_182 (Ls' := #[.val (.int i1), .val (.int i2), .val (.int i3), .val (.int i4), .val (.int i5), .val (.int i6), .val (.ref b1), .val (.ref b25), .val (.ref a43), .val (.ref b48), .val (.int v65), .val (.ref w11), .val (.ref w12), .val (.ref a114), .val (.ref s_119), .val (.ref b123), .val (.ref b141), .val (.ref a164), .val (.int (1 : Int32)), .unset, .unset]) rfl rfl ?_
      refine G.aload C at_184 rfl rfl rfl ?_
      refine G.callVP C (S := []) (W := 0) (twd hw 90 rfl) (twd hw 92 rfl) (twd hw 58 rfl) (twd hw 94 rfl) (twd hw 91 rfl) (twd hw 93 rfl) oc152.1 (by decide) (cIn l Z a0 hw b141 hp143 n0 oc152.2.2.1) pd14 rfl rfl at_186 rfl (Nat.le_of_eq rfl) (by decide) (by decide) rfl rfl (by decide) (by decide) rfl ?_
      refine G.istore C at_189 (Ls' := #[.val (.int i1), .val (.int i2), .val (.int i3), .val (.int i4), .val (.int i5), .val (.int i6), .val (.ref b1), .val (.ref b25), .val (.ref a43), .val (.ref b48), .val (.int v65), .val (.ref w11), .val (.ref w12), .val (.ref a114), .val (.ref s_119), .val (.ref b123), .val (.ref b141), .val (.ref a164), .val (.int (1 : Int32)), .val (.int (1 : Int32)), .unset]) rfl rfl ?_
      refine G.aload C at_191 rfl rfl rfl ?_
      refine G.callVP C (S := []) (W := 0) (twd hw 90 rfl) (twd hw 92 rfl) (twd hw 58 rfl) (twd hw 94 rfl) (twd hw 91 rfl) (twd hw 93 rfl) P164.1 (by decide) (cIn l Z a0 hw a164 hp143 n0 P164.2.2.1) pd14 rfl rfl at_193 rfl (Nat.le_of_eq rfl) (by decide) (by decide) rfl rfl (by decide) (by decide) rfl ?_
      refine G.istore C at_196 (Ls' := #[.val (.int i1), .val (.int i2), .val (.int i3), .val (.int i4), .val (.int i5), .val (.int i6), .val (.ref b1), .val (.ref b25), .val (.ref a43), .val (.ref b48), .val (.int v65), .val (.ref w11), .val (.ref w12), .val (.ref a114), .val (.ref s_119), .val (.ref b123), .val (.ref b141), .val (.ref a164), .val (.int (1 : Int32)), .val (.int (1 : Int32)), .val (.int (1 : Int32))]) rfl rfl ?_
      refine G.iload C at_198 rfl rfl ?_
      refine G.ifeq C at_200 (by decide) (pt := 217) (by decide) rfl (fun q => absurd q (by decide)) (fun _ => ?_)
      refine G.iload C at_203 rfl rfl ?_
      refine G.ifeq C at_205 (by decide) (pt := 217) (by decide) rfl (fun q => absurd q (by decide)) (fun _ => ?_)
      refine G.iload C at_208 rfl rfl ?_
      refine G.ifeq C at_210 (by decide) (pt := 217) (by decide) rfl (fun q => absurd q (by decide)) (fun _ => ?_)
      refine G.iconst C at_213 (v := (1 : Int32)) rfl rfl ?_
      refine G.goto C at_214 (by decide) (pc' := 218) (by decide) ?_
      exact G.retZ C at_218 (by decide) (by decide) rfl (⟨rfl, le154, le155, le156, le157, (Nat.le_refl hp143.size)⟩)
    refine G.ifeq C at_100 (by decide) (pt := 108) (by decide) rfl (fun hc100 => ?_) (fun hc100 => ?_)
    · refine G.aload C at_108 rfl rfl rfl ?_
      exact J110 _
    · refine G.aload C at_103 rfl rfl rfl ?_
      refine G.goto C at_105 (by decide) (pc' := 110) (by decide) ?_
      exact J110 _
  refine G.ifne C at_69 (by decide) (pt := 79) (by decide) rfl (fun hc69 => ?_) (fun hc69 => ?_)
  · refine G.iload C at_79 rfl rfl ?_
    refine G.iconst C at_81 (v := (1 : Int32)) rfl rfl ?_
    refine G.icne C at_82 (by decide) (pt := 92) (by decide) rfl (fun hc82 => ?_) (fun hc82 => ?_)
    · refine G.aload C at_92 rfl rfl rfl ?_
      refine G.astore C at_94 rfl (Ls' := #[.val (.int i1), .val (.int i2), .val (.int i3), .val (.int i4), .val (.int i5), .val (.int i6), .val (.ref b1), .val (.ref b25), .val (.ref a43), .val (.ref b48), .val (.int v65), .val (.ref b48), .unset, .unset, .unset, .unset, .unset, .unset, .unset, .unset, .unset]) rfl rfl ?_
      exact J96 _
    · refine G.aload C at_85 rfl rfl rfl ?_
      refine G.astore C at_87 rfl (Ls' := #[.val (.int i1), .val (.int i2), .val (.int i3), .val (.int i4), .val (.int i5), .val (.int i6), .val (.ref b1), .val (.ref b25), .val (.ref a43), .val (.ref b48), .val (.int v65), .val (.ref a43), .unset, .unset, .unset, .unset, .unset, .unset, .unset, .unset, .unset]) rfl rfl ?_
      refine G.goto C at_89 (by decide) (pc' := 96) (by decide) ?_
      exact J96 _
  · refine G.aload C at_72 rfl rfl rfl ?_
    refine G.astore C at_74 rfl (Ls' := #[.val (.int i1), .val (.int i2), .val (.int i3), .val (.int i4), .val (.int i5), .val (.int i6), .val (.ref b1), .val (.ref b25), .val (.ref a43), .val (.ref b48), .val (.int v65), .val (.ref b25), .unset, .unset, .unset, .unset, .unset, .unset, .unset, .unset, .unset]) rfl rfl ?_
    refine G.goto C at_76 (by decide) (pc' := 96) (by decide) ?_
    exact J96 _
set_option maxRecDepth 65536 in
set_option maxHeartbeats 40000000 in
theorem comes_1 {Post : Tables → Env → Array Value → State → Outcome → State → Prop} (hpost : ∀ tb e args s v u, (limb_1_1.after args s (.returned v) u = true ∧ limb_1_2.after args s (.returned v) u = true ∧ True) → ReturnedEndW s (.returned v) u (Jvm.fieldLocs frame_1_writes args s ++ Jvm.arrayLocs frame_1_arrays args s ++ Jvm.staticLocs frame_1_statics s) 40 5312 → Post tb e args s (.returned v) u) :
    ArmFor flags0 classFile x code maxLocals ret World_1 tables_1 room_1 Calls_1 rest_1 Pre_1 Post := by
  intro l hfl _ _ p e ha hc hk s m args below hf hA hF happ hP
  obtain ⟨hcalls, hrest, hpre⟩ := hP
  obtain ⟨-, -, -, hnamed, -, -, -, hat⟩ := (Spec.applies_iff hf).mp happ
  obtain ⟨hg, hn⟩ := and_e (Cond.before_iff.mp (show (Jvm.Cond.and given_1 narrow_1).before args s = true from hpre))
  obtain ⟨gc, gr0⟩ := and_e hg
  obtain ⟨g0, gr1⟩ := and_e gr0
  obtain ⟨g1, gr2⟩ := and_e gr1
  obtain ⟨g2, gr3⟩ := and_e gr2
  obtain ⟨g3, gr4⟩ := and_e gr3
  obtain ⟨g4, g5⟩ := and_e gr4
  obtain ⟨w0, w1, w2, w3, w4, w5, rfl⟩ : ∃ w0 w1 w2 w3 w4 w5 : Value, args = #[w0, w1, w2, w3, w4, w5] := by
    have hs : args.size = 6 := by simpa [Cond.value, given_1] using gc
    obtain ⟨L⟩ := args
    match L, hs with
    | [w0, w1, w2, w3, w4, w5], _ => exact ⟨w0, w1, w2, w3, w4, w5, rfl⟩
  have hw := fun d (hd : d ∈ tables_1) => atoms_spec (ws := Jvm.Cond.code x code maxLocals ret :: tables_1) hat d (List.mem_cons_of_mem _ hd)
  obtain ⟨hsets, hown0⟩ := atoms_of _ (rest_1_c_eq ▸ (show rest_1_c.before _ s = true from hrest))
  obtain ⟨i0, ei0⟩ := is_v g0
  obtain rfl : w0 = (.int i0) := Option.some.inj ei0
  obtain ⟨i1, ei1⟩ := is_v g1
  obtain rfl : w1 = (.int i1) := Option.some.inj ei1
  obtain ⟨i2, ei2⟩ := is_v g2
  obtain rfl : w2 = (.int i2) := Option.some.inj ei2
  obtain ⟨i3, ei3⟩ := is_v g3
  obtain rfl : w3 = (.int i3) := Option.some.inj ei3
  obtain ⟨i4, ei4⟩ := is_v g4
  obtain rfl : w4 = (.int i4) := Option.some.inj ei4
  obtain ⟨i5, ei5⟩ := is_v g5
  obtain rfl : w5 = (.int i5) := Option.some.inj ei5
  obtain ⟨n0, hn⟩ := and_e hn
  obtain ⟨n1, hn⟩ := and_e hn
  obtain ⟨n2, n3⟩ := and_e hn
  obtain ⟨wI, eI⟩ := exa_v n0
  have S_I := Sta.start eI (Or.inr ⟨(twd hw 53 rfl), (twd hw 54 rfl)⟩)
  obtain ⟨wO, eO⟩ := exa_v n1
  have S_O := Sta.start eO (Or.inr ⟨(twd hw 53 rfl), (twd hw 96 rfl)⟩)
  obtain ⟨wH, eH⟩ := exa_v n2
  have S_H := Sta.start eH (Or.inr ⟨(twd hw 53 rfl), (twd hw 98 rfl)⟩)
  obtain ⟨wD, eD⟩ := exa_v n3
  have S_D := Sta.start eD (Or.inr ⟨(twd hw 53 rfl), (twd hw 100 rfl)⟩)
  obtain ⟨cs, ecs⟩ := is_v (Cond.before_iff.mp (hsets _ (List.mem_of_getElem? (i := 1) rfl)))
  have S_cs := Sta.start ecs (Or.inl (hsets _ (List.mem_of_getElem? (i := 0) rfl)))
  have hcs : ¬ cs = 0 := fun q => by
    have z := not_v (Cond.before_iff.mp (hsets _ (List.mem_of_getElem? (i := 2) rfl)))
    have z2 := eq_i ecs (Term.int_eval (0)) (by rw [q])
    rw [z2] at z; cases z
  have hheld : Jvm.Lit.constHeld s "java/lang/String" 7 := hcalls.1 ("java/lang/String", 7) (by simp [consts_1])
  have Hc : CHv s own_EL s.vm s.heap := CHv.start (own_hEL hw) (fun p hp => by simp only [own_EL, List.mem_cons, List.not_mem_nil, or_false] at hp; subst hp; exact hheld) (hsets _ (List.mem_of_getElem? (i := 2) rfl)) (twd hw 15 rfl) (twd hw 2 rfl)
  obtain ⟨nn, o, h1, h2, h3, _, L, rfl, ⟨rfl, N⟩, hq⟩ := c0 l s _ hw i0 i1 i2 i3 i4 i5 s.heap s.heap.size (Nat.le_refl _) cs hcs S_cs wI S_I wO S_O wH S_H wD S_D Hc tables_1 p e ha hc hk s m _ below hf ((Spec.applies_iff_loose hf).mp happ).1 ⟨rfl, rfl, rfl⟩ trivial
  exact ⟨nn, _, h1, h2, h3, hpost _ _ _ _ _ _ ⟨Cond.after_iff.mpr rfl, Cond.after_iff.mpr (eq_i res_at (Term.int_eval (1)) rfl), trivial⟩ ⟨hq.1, hq.2.1, hq.2.2.1, (hq.2.2.2.sift fun y hy => Or.inr (N y hy)).mono (by decide) (by decide)⟩⟩
theorem main_1_1 : Claimed_1_1 := comes_1 fun _ _ _ _ _ _ h hF => ⟨h.1, hF⟩
theorem main_1_2 : Claimed_1_2 := comes_1 fun _ _ _ _ _ _ h hF => ⟨h.2.1, hF⟩
end Jvm.Pilot.@@N@@
namespace Jvm.Pilot.@@N@@
open Jvm Jvm.ClassFile Sem Op Lib Jvm.Free Jvm.Stand Jvm.Pilot.@@N@@.Jvm.D
/-! MADE BY PROGRAM (witnessworld.py) out of the Statement's table words and the real class files: 24 classes; the members and pool entries that the words name. The judged class is class 1, her method 2. -/
namespace start1
open Jvm.ClassFile
def u (s : String) : CpInfo := .utf8 (stringToUtf16 s)
/-- a pool by its gaps: so many unusable entries, then the entry; so many at the end -/
def gap : Nat → List CpInfo → List CpInfo
  | 0, r => r
  | n + 1, r => .unusable :: gap n r
def poolList (es : List (Nat × CpInfo)) (last : Nat) : List CpInfo := es.foldr (fun e r => gap e.1 (e.2 :: r)) (gap last [])
def pool (es : List (Nat × CpInfo)) (last : Nat) : Array CpInfo := ⟨poolList es last⟩
def fileOf (pool : Array CpInfo) (this : Nat) (attrs : Array Attribute := #[]) (ms : Array MethodInfo := #[]) (fl : Nat := 33) (sup : Nat := 0) (ifs : Array Nat := #[]) (fds : Array FieldInfo := #[]) : ClassFile where
  minorVersion := 0
  majorVersion := 65
  constantPool := pool
  accessFlags := fl
  thisClass := this
  superClass := sup
  interfaces := ifs
  fields := fds
  methods := ms
  attributes := attrs
def plain (name : String) (sup : Option ClassId) : Class where
  name := name
  kind := .ordinary
  loader := none
  accessFlags := 33
  super := sup
  interfaces := #[]
  cf := none
  fields := #[]
  methods := #[]
  instanceTypes := #[]
  staticTypes := #[]
  resolved := #[]
  callSites := []
  init := .initialized
  statics := none
  mirror := none

def pool0 : Array CpInfo := pool [(5, u "<init>"), (0, u "()V"), (1, .class_ 10), (1, u "java/lang/Object")] 113

def k0c0 : Code := { maxStack := 0, maxLocals := 1, code := object_method_1_code, exceptionTable := #[], attributes := #[] }
def k0m0 : Method := { name := "<init>", desc := "()V", sig := { parameters := [], returnType := none }, accessFlags := 1, code := some k0c0 }
/-- java/lang/Object -/
def k0 : Class := { plain "java/lang/Object" none with
  accessFlags := 33
  interfaces := #[]
  cf := some (fileOf pool0 8 #[] #[{ accessFlags := 1, nameIndex := 5, descriptorIndex := 6, attributes := #[] }] 33 0 #[] #[])
  fields := #[]
  methods := #[k0m0]
  instanceTypes := #[]
  staticTypes := #[]
  resolved := Array.replicate 124 none
  statics := none }

def pool1 : Array CpInfo := pool [(2, .class_ 4), (1, u "java/lang/Object"), (0, u "<init>"), (0, u "()V"), (0, .fieldref 8 9), (0, .class_ 10), (0, .nameAndType 11 12), (0, u "com/example/seefrom/seefrom/Rule"), (0, u "INDICATOR"), (0, u "Lcom/example/seefrom/seefrom/Rule;"), (0, .fieldref 8 14), (0, .nameAndType 15 12), (0, u "OBSOLETE_CODE"), (0, .fieldref 8 17), (0, .nameAndType 18 12), (0, u "DAMAGED"), (0, .fieldref 8 20), (0, .nameAndType 21 12), (0, u "HEADING"), (0, .class_ 23), (0, u "java/lang/String"), (0, .methodref 22 25), (0, .nameAndType 5 26), (0, u "([C)V"), (0, .methodref 22 28), (0, .nameAndType 29 30), (0, u "valueOf"), (0, u "(C)Ljava/lang/String;"), (0, .integer 2147483647), (0, .methodref 33 34), (0, .class_ 35), (0, .nameAndType 36 37), (0, u "com/example/seefrom/seefrom/ProblemIsOfRecordPinLaw"), (0, u "pickRule"), (0, u "(I)Lcom/example/seefrom/seefrom/Rule;"), (0, .string 39), (0, u "m"), (0, .class_ 41), (0, u "com/example/seefrom/seefrom/Problem"), (0, .methodref 40 43), (0, .nameAndType 5 44), (0, u "(Ljava/lang/String;Ljava/lang/String;ILcom/example/seefrom/seefrom/Rule;Ljava/lang/String;)V"), (0, .methodref 40 46), (0, .nameAndType 47 48), (0, u "ofRecord"), (0, u "(Ljava/lang/String;Lcom/example/seefrom/seefrom/Rule;Ljava/lang/String;)Lcom/example/seefrom/seefrom/Problem;"), (0, .methodref 40 50), (0, .nameAndType 51 52), (0, u "isOfRecord"), (0, u "()Z"), (3, u "law"), (0, u "(IIIIII)Z")] 4

def k1m0 : Method := { name := "<init>", desc := "()V", sig := { parameters := [], returnType := none }, accessFlags := 1, code := none }
def k1c1 : Code := { maxStack := 2, maxLocals := 2, code := method_2_code, exceptionTable := #[], attributes := #[] }
def k1m1 : Method := { name := "pickRule", desc := "(I)Lcom/example/seefrom/seefrom/Rule;", sig := { parameters := [.int], returnType := some (.object "com/example/seefrom/seefrom/Rule") }, accessFlags := 10, code := some k1c1 }
def k1c2 : Code := { maxStack := 7, maxLocals := 21, code := code, exceptionTable := #[], attributes := #[] }
def k1m2 : Method := { name := "law", desc := "(IIIIII)Z", sig := { parameters := [.int, .int, .int, .int, .int, .int], returnType := some .boolean }, accessFlags := 9, code := some k1c2 }
/-- com/example/seefrom/seefrom/ProblemIsOfRecordPinLaw -/
def k1 : Class := { plain "com/example/seefrom/seefrom/ProblemIsOfRecordPinLaw" (some 0) with
  accessFlags := 49
  interfaces := #[]
  cf := some (fileOf pool1 33 #[] #[{ accessFlags := 1, nameIndex := 5, descriptorIndex := 6, attributes := #[] }, { accessFlags := 10, nameIndex := 36, descriptorIndex := 37, attributes := #[] }, { accessFlags := 9, nameIndex := 56, descriptorIndex := 57, attributes := #[] }] 49 2 #[] #[])
  fields := #[]
  methods := #[k1m0, k1m1, k1m2]
  instanceTypes := #[]
  staticTypes := #[]
  resolved := Array.replicate 62 none
  statics := none }

def pool2 : Array CpInfo := pool [(1, .class_ 2), (0, u "java/io/Serializable"), (0, .class_ 4), (0, u "java/lang/Object")] 2

/-- java/io/Serializable -/
def k2 : Class := { plain "java/io/Serializable" (some 0) with
  accessFlags := 1537
  interfaces := #[]
  cf := some (fileOf pool2 1 #[] #[] 1537 3 #[] #[])
  fields := #[]
  methods := #[]
  instanceTypes := #[]
  staticTypes := #[]
  resolved := Array.replicate 7 none
  statics := none }

def pool3 : Array CpInfo := pool [(1, .class_ 2), (0, u "java/lang/Comparable"), (0, .class_ 4), (0, u "java/lang/Object")] 7

/-- java/lang/Comparable -/
def k3 : Class := { plain "java/lang/Comparable" (some 0) with
  accessFlags := 1537
  interfaces := #[]
  cf := some (fileOf pool3 1 #[] #[] 1537 3 #[] #[])
  fields := #[]
  methods := #[]
  instanceTypes := #[]
  staticTypes := #[]
  resolved := Array.replicate 12 none
  statics := none }

def pool4 : Array CpInfo := pool [(2, .class_ 4), (1, u "java/lang/CharSequence"), (42, .class_ 48), (0, u "java/lang/CharSequence$1CodePointIterator"), (10, .class_ 60), (0, u "java/lang/CharSequence$1CharIterator"), (5, .class_ 67), (0, u "java/lang/Object")] 63

/-- java/lang/CharSequence -/
def k4 : Class := { plain "java/lang/CharSequence" (some 0) with
  accessFlags := 1537
  interfaces := #[]
  cf := some (fileOf pool4 2 #[.nestMembers #[47, 59]] #[] 1537 66 #[] #[])
  fields := #[]
  methods := #[]
  instanceTypes := #[]
  staticTypes := #[]
  resolved := Array.replicate 131 none
  statics := none }

def pool5 : Array CpInfo := pool [(1, .class_ 2), (0, u "java/lang/constant/Constable"), (0, .class_ 4), (0, u "java/lang/Object")] 6

/-- java/lang/constant/Constable -/
def k5 : Class := { plain "java/lang/constant/Constable" (some 0) with
  accessFlags := 1537
  interfaces := #[]
  cf := some (fileOf pool5 1 #[] #[] 1537 3 #[] #[])
  fields := #[]
  methods := #[]
  instanceTypes := #[]
  staticTypes := #[]
  resolved := Array.replicate 11 none
  statics := none }

def pool6 : Array CpInfo := pool [(1, .class_ 2), (0, u "java/lang/constant/ConstantDesc"), (0, .class_ 4), (0, u "java/lang/Object")] 32

/-- java/lang/constant/ConstantDesc -/
def k6 : Class := { plain "java/lang/constant/ConstantDesc" (some 0) with
  accessFlags := 1537
  interfaces := #[]
  cf := some (fileOf pool6 1 #[] #[] 1537 3 #[] #[])
  fields := #[]
  methods := #[]
  instanceTypes := #[]
  staticTypes := #[]
  resolved := Array.replicate 37 none
  statics := none }

def pool7 : Array CpInfo := pool [(1, .methodref 2 3), (0, .class_ 4), (0, .nameAndType 5 6), (0, u "java/lang/Object"), (0, u "<init>"), (0, u "()V"), (0, .string 8), (0, u ""), (0, .fieldref 10 11), (0, .class_ 12), (0, .nameAndType 13 14), (0, u "java/lang/String"), (0, u "value"), (0, u "[B"), (0, .fieldref 10 16), (0, .nameAndType 17 18), (0, u "coder"), (0, u "B"), (2, u "hash"), (0, u "I"), (2, u "hashIsZero"), (0, u "Z"), (0, .methodref 10 28), (0, .nameAndType 5 29), (0, u "([CIILjava/lang/Void;)V"), (8, .fieldref 10 39), (0, .nameAndType 40 26), (0, u "COMPACT_STRINGS"), (1, .class_ 44), (1, u "java/lang/StringUTF16"), (0, u "compress"), (1, .methodref 42 48), (0, .nameAndType 49 50), (0, u "coderFromArrayLen"), (0, u "([BI)B"), (2, u "toBytes"), (53, .class_ 109), (1, u "java/lang/StringLatin1"), (67, .methodref 42 178), (0, .nameAndType 45 179), (0, u "([CII)[B"), (29, .methodref 10 210), (0, .nameAndType 5 211), (0, u "([BB)V"), (157, u "(C)Z"), (205, .class_ 576), (0, u "java/lang/CharSequence"), (22, u "CASE_INSENSITIVE_ORDER"), (0, u "Ljava/util/Comparator;"), (181, u "valueOf"), (0, u "(C)Ljava/lang/String;"), (226, u "([C)V"), (4, .methodref 107 1016), (0, .nameAndType 1017 369), (0, u "canEncode"), (0, .methodref 107 1019), (0, .nameAndType 53 1020), (0, u "(C)[B"), (80, u "serialPersistentFields"), (0, u "[Ljava/io/ObjectStreamField;"), (0, .class_ 1104), (0, u "java/lang/String$CaseInsensitiveComparator"), (1, .class_ 1107), (0, u "java/io/Serializable"), (0, .class_ 1109), (0, u "java/lang/Comparable"), (0, .class_ 1111), (0, u "java/lang/constant/Constable"), (0, .class_ 1113), (0, u "java/lang/constant/ConstantDesc"), (2, u "serialVersionUID"), (0, u "J"), (3, u "REPL"), (0, u "C"), (2, u "LATIN1"), (1, u "UTF16")] 323

def k7m0 : Method := { name := "<init>", desc := "()V", sig := { parameters := [], returnType := none }, accessFlags := 1, code := none }
def k7c1 : Code := { maxStack := 5, maxLocals := 2, code := jdk_42_method_3_code, exceptionTable := #[], attributes := #[] }
def k7m1 : Method := { name := "<init>", desc := "([C)V", sig := { parameters := [(.array .char)], returnType := none }, accessFlags := 1, code := some k7c1 }
def k7c2 : Code := { maxStack := 4, maxLocals := 1, code := jdk_42_method_139_code, exceptionTable := #[], attributes := #[] }
def k7m2 : Method := { name := "valueOf", desc := "(C)Ljava/lang/String;", sig := { parameters := [.char], returnType := some (.object "java/lang/String") }, accessFlags := 9, code := some k7c2 }
def k7c3 : Code := { maxStack := 4, maxLocals := 6, code := jdk_42_method_149_code, exceptionTable := #[], attributes := #[] }
def k7m3 : Method := { name := "<init>", desc := "([CIILjava/lang/Void;)V", sig := { parameters := [(.array .char), .int, .int, (.object "java/lang/Void")], returnType := none }, accessFlags := 2, code := some k7c3 }
def k7c4 : Code := { maxStack := 2, maxLocals := 3, code := jdk_42_method_151_code, exceptionTable := #[], attributes := #[] }
def k7m4 : Method := { name := "<init>", desc := "([BB)V", sig := { parameters := [(.array .byte), .byte], returnType := none }, accessFlags := 0, code := some k7c4 }
/-- java/lang/String -/
def k7 : Class := { plain "java/lang/String" (some 0) with
  accessFlags := 49
  interfaces := #[2, 3, 4, 5, 6]
  cf := some (fileOf pool7 10 #[.nestMembers #[1103]] #[{ accessFlags := 1, nameIndex := 5, descriptorIndex := 6, attributes := #[] }, { accessFlags := 1, nameIndex := 5, descriptorIndex := 1010, attributes := #[] }, { accessFlags := 9, nameIndex := 782, descriptorIndex := 783, attributes := #[] }, { accessFlags := 2, nameIndex := 5, descriptorIndex := 29, attributes := #[] }, { accessFlags := 0, nameIndex := 5, descriptorIndex := 211, attributes := #[] }] 49 2 #[1106, 1108, 575, 1110, 1112] #[{ accessFlags := 18, nameIndex := 13, descriptorIndex := 14, attributes := #[] }, { accessFlags := 18, nameIndex := 17, descriptorIndex := 18, attributes := #[] }, { accessFlags := 2, nameIndex := 21, descriptorIndex := 22, attributes := #[] }, { accessFlags := 2, nameIndex := 25, descriptorIndex := 26, attributes := #[] }, { accessFlags := 26, nameIndex := 1116, descriptorIndex := 1117, attributes := #[] }, { accessFlags := 24, nameIndex := 40, descriptorIndex := 26, attributes := #[] }, { accessFlags := 26, nameIndex := 1101, descriptorIndex := 1102, attributes := #[] }, { accessFlags := 26, nameIndex := 1121, descriptorIndex := 1122, attributes := #[] }, { accessFlags := 25, nameIndex := 599, descriptorIndex := 600, attributes := #[] }, { accessFlags := 24, nameIndex := 1125, descriptorIndex := 18, attributes := #[] }, { accessFlags := 24, nameIndex := 1127, descriptorIndex := 18, attributes := #[] }])
  fields := #[{ name := "value", type := (.array .byte), accessFlags := 18, slot := 0, constantValue := 0 }, { name := "coder", type := .byte, accessFlags := 18, slot := 1, constantValue := 0 }, { name := "hash", type := .int, accessFlags := 2, slot := 2, constantValue := 0 }, { name := "hashIsZero", type := .boolean, accessFlags := 2, slot := 3, constantValue := 0 }, { name := "serialVersionUID", type := .long, accessFlags := 26, slot := 0, constantValue := 0 }, { name := "COMPACT_STRINGS", type := .boolean, accessFlags := 24, slot := 1, constantValue := 0 }, { name := "serialPersistentFields", type := (.array (.object "java/io/ObjectStreamField")), accessFlags := 26, slot := 2, constantValue := 0 }, { name := "REPL", type := .char, accessFlags := 26, slot := 3, constantValue := 0 }, { name := "CASE_INSENSITIVE_ORDER", type := (.object "java/util/Comparator"), accessFlags := 25, slot := 4, constantValue := 0 }, { name := "LATIN1", type := .byte, accessFlags := 24, slot := 5, constantValue := 0 }, { name := "UTF16", type := .byte, accessFlags := 24, slot := 6, constantValue := 0 }]
  methods := #[k7m0, k7m1, k7m2, k7m3, k7m4]
  instanceTypes := #[(.array .byte), .byte, .int, .boolean]
  staticTypes := #[.long, .boolean, (.array (.object "java/io/ObjectStreamField")), .char, (.object "java/util/Comparator"), .byte, .byte]
  resolved := Array.replicate 1451 none
  statics := some 0 }

def pool8 : Array CpInfo := pool [(4, .class_ 6), (1, u "java/lang/Object"), (0, u "<init>"), (0, u "()V"), (5, .class_ 16), (1, u "java/lang/StringLatin1"), (73, u "canEncode"), (14, u "(C)Z"), (15, u "$assertionsDisabled"), (0, u "Z"), (98, .class_ 223), (1, u "java/lang/StringLatin1$LinesSpliterator"), (156, u "toBytes"), (1, u "(C)[B"), (7, .class_ 391), (0, u "java/lang/StringLatin1$CharsSpliterator")] 3

def k8m0 : Method := { name := "<init>", desc := "()V", sig := { parameters := [], returnType := none }, accessFlags := 0, code := none }
def k8c1 : Code := { maxStack := 2, maxLocals := 1, code := jdk_43_method_3_code, exceptionTable := #[], attributes := #[] }
def k8m1 : Method := { name := "canEncode", desc := "(C)Z", sig := { parameters := [.char], returnType := some .boolean }, accessFlags := 9, code := some k8c1 }
def k8c2 : Code := { maxStack := 4, maxLocals := 1, code := jdk_43_method_46_code, exceptionTable := #[], attributes := #[] }
def k8m2 : Method := { name := "toBytes", desc := "(C)[B", sig := { parameters := [.char], returnType := some (.array .byte) }, accessFlags := 9, code := some k8c2 }
/-- java/lang/StringLatin1 -/
def k8 : Class := { plain "java/lang/StringLatin1" (some 0) with
  accessFlags := 48
  interfaces := #[]
  cf := some (fileOf pool8 14 #[.nestMembers #[390, 221]] #[{ accessFlags := 0, nameIndex := 7, descriptorIndex := 8, attributes := #[] }, { accessFlags := 9, nameIndex := 90, descriptorIndex := 105, attributes := #[] }, { accessFlags := 9, nameIndex := 380, descriptorIndex := 382, attributes := #[] }] 48 4 #[] #[{ accessFlags := 4120, nameIndex := 121, descriptorIndex := 122, attributes := #[] }])
  fields := #[{ name := "$assertionsDisabled", type := .boolean, accessFlags := 4120, slot := 0, constantValue := 0 }]
  methods := #[k8m0, k8m1, k8m2]
  instanceTypes := #[]
  staticTypes := #[.boolean]
  resolved := Array.replicate 395 none
  statics := none }

def pool9 : Array CpInfo := pool [(6, .class_ 8), (1, u "java/lang/Object"), (0, u "<init>"), (0, u "()V"), (1, .class_ 14), (1, u "java/lang/StringUTF16"), (31, u "$assertionsDisabled"), (0, u "Z"), (13, u "HI_BYTE_SHIFT"), (0, u "I"), (2, u "LO_BYTE_SHIFT"), (49, .methodref 12 116), (0, .nameAndType 117 118), (0, u "compress"), (0, u "([CI[BII)I"), (3, u "([CII)[B"), (138, u "coderFromArrayLen"), (0, u "([BI)B"), (106, .class_ 371), (1, u "java/lang/StringUTF16$LinesSpliterator"), (58, u "MAX_LENGTH"), (196, .class_ 628), (0, u "java/lang/StringUTF16$CodePointsSpliterator"), (0, .class_ 630), (0, u "java/lang/StringUTF16$CharsSpliterator")] 4

def k9m0 : Method := { name := "<init>", desc := "()V", sig := { parameters := [], returnType := none }, accessFlags := 0, code := none }
def k9c1 : Code := { maxStack := 2, maxLocals := 2, code := jdk_52_method_15_code, exceptionTable := #[], attributes := #[] }
def k9m1 : Method := { name := "coderFromArrayLen", desc := "([BI)B", sig := { parameters := [(.array .byte), .int], returnType := some .byte }, accessFlags := 8, code := some k9c1 }
def k9c2 : Code := { maxStack := 5, maxLocals := 6, code := jdk_52_method_16_code, exceptionTable := #[], attributes := #[] }
def k9m2 : Method := { name := "compress", desc := "([CII)[B", sig := { parameters := [(.array .char), .int, .int], returnType := some (.array .byte) }, accessFlags := 9, code := some k9c2 }
def k9c3 : Code := { maxStack := 3, maxLocals := 7, code := jdk_52_method_21_code, exceptionTable := #[], attributes := #[] }
def k9m3 : Method := { name := "compress", desc := "([CI[BII)I", sig := { parameters := [(.array .char), .int, (.array .byte), .int, .int], returnType := some .int }, accessFlags := 9, code := some k9c3 }
/-- java/lang/StringUTF16 -/
def k9 : Class := { plain "java/lang/StringUTF16" (some 0) with
  accessFlags := 48
  interfaces := #[]
  cf := some (fileOf pool9 12 #[.nestMembers #[627, 629, 369]] #[{ accessFlags := 0, nameIndex := 9, descriptorIndex := 10, attributes := #[] }, { accessFlags := 8, nameIndex := 261, descriptorIndex := 262, attributes := #[] }, { accessFlags := 9, nameIndex := 117, descriptorIndex := 122, attributes := #[] }, { accessFlags := 9, nameIndex := 117, descriptorIndex := 118, attributes := #[] }] 48 6 #[] #[{ accessFlags := 26, nameIndex := 61, descriptorIndex := 62, attributes := #[] }, { accessFlags := 26, nameIndex := 65, descriptorIndex := 62, attributes := #[] }, { accessFlags := 24, nameIndex := 430, descriptorIndex := 62, attributes := #[] }, { accessFlags := 4120, nameIndex := 46, descriptorIndex := 47, attributes := #[] }])
  fields := #[{ name := "HI_BYTE_SHIFT", type := .int, accessFlags := 26, slot := 0, constantValue := 0 }, { name := "LO_BYTE_SHIFT", type := .int, accessFlags := 26, slot := 1, constantValue := 0 }, { name := "MAX_LENGTH", type := .int, accessFlags := 24, slot := 2, constantValue := 0 }, { name := "$assertionsDisabled", type := .boolean, accessFlags := 4120, slot := 3, constantValue := 0 }]
  methods := #[k9m0, k9m1, k9m2, k9m3]
  instanceTypes := #[]
  staticTypes := #[.int, .int, .int, .boolean]
  resolved := Array.replicate 635 none
  statics := none }

def pool10 : Array CpInfo := pool [(2, .class_ 4), (1, u "java/lang/Enum"), (0, u "name"), (0, u "Ljava/lang/String;"), (2, u "ordinal"), (0, u "I"), (1, .class_ 14), (1, u "java/lang/Object"), (4, u "hash"), (86, .class_ 108), (1, u "java/lang/Enum$EnumDesc"), (2, .class_ 112), (0, u "java/lang/constant/Constable"), (0, .class_ 114), (0, u "java/lang/Comparable"), (0, .class_ 116), (0, u "java/io/Serializable")] 87

/-- java/lang/Enum -/
def k10 : Class := { plain "java/lang/Enum" (some 0) with
  accessFlags := 1057
  interfaces := #[5, 3, 2]
  cf := some (fileOf pool10 2 #[.nestMembers #[106]] #[] 1057 12 #[111, 113, 115] #[{ accessFlags := 18, nameIndex := 5, descriptorIndex := 6, attributes := #[] }, { accessFlags := 18, nameIndex := 9, descriptorIndex := 10, attributes := #[] }, { accessFlags := 2, nameIndex := 19, descriptorIndex := 10, attributes := #[] }])
  fields := #[{ name := "name", type := (.object "java/lang/String"), accessFlags := 18, slot := 0, constantValue := 0 }, { name := "ordinal", type := .int, accessFlags := 18, slot := 1, constantValue := 0 }, { name := "hash", type := .int, accessFlags := 2, slot := 2, constantValue := 0 }]
  methods := #[]
  instanceTypes := #[(.object "java/lang/String"), .int, .int]
  staticTypes := #[]
  resolved := Array.replicate 204 none
  statics := none }

def pool11 : Array CpInfo := pool [(1, .class_ 2), (0, u "com/example/seefrom/seefrom/Rule"), (2, u "INDICATOR"), (0, u "Lcom/example/seefrom/seefrom/Rule;"), (2, u "OBSOLETE_INDICATOR"), (2, u "UNDEFINED_SUBFIELD"), (2, u "REPEATED_SUBFIELD"), (2, u "MISSING_SUBFIELD"), (2, u "EMPTY_SUBFIELD"), (2, u "CONTROL_SUBFIELD"), (2, u "OBSOLETE_CODE"), (2, u "WRONG_RECORD"), (2, u "HEADING"), (2, u "DAMAGED"), (2, u "$VALUES"), (0, u "[Lcom/example/seefrom/seefrom/Rule;"), (6, .class_ 49), (1, u "java/lang/Enum"), (8, u "id"), (0, u "Ljava/lang/String;"), (2, u "severity"), (0, u "Lcom/example/seefrom/seefrom/Severity;")] 62

/-- com/example/seefrom/seefrom/Rule -/
def k11 : Class := { plain "com/example/seefrom/seefrom/Rule" (some 10) with
  accessFlags := 16433
  interfaces := #[]
  cf := some (fileOf pool11 1 #[] #[] 16433 47 #[] #[{ accessFlags := 16409, nameIndex := 5, descriptorIndex := 6, attributes := #[] }, { accessFlags := 16409, nameIndex := 9, descriptorIndex := 6, attributes := #[] }, { accessFlags := 16409, nameIndex := 12, descriptorIndex := 6, attributes := #[] }, { accessFlags := 16409, nameIndex := 15, descriptorIndex := 6, attributes := #[] }, { accessFlags := 16409, nameIndex := 18, descriptorIndex := 6, attributes := #[] }, { accessFlags := 16409, nameIndex := 21, descriptorIndex := 6, attributes := #[] }, { accessFlags := 16409, nameIndex := 24, descriptorIndex := 6, attributes := #[] }, { accessFlags := 16409, nameIndex := 27, descriptorIndex := 6, attributes := #[] }, { accessFlags := 16409, nameIndex := 30, descriptorIndex := 6, attributes := #[] }, { accessFlags := 16409, nameIndex := 33, descriptorIndex := 6, attributes := #[] }, { accessFlags := 16409, nameIndex := 36, descriptorIndex := 6, attributes := #[] }, { accessFlags := 18, nameIndex := 58, descriptorIndex := 59, attributes := #[] }, { accessFlags := 18, nameIndex := 62, descriptorIndex := 63, attributes := #[] }, { accessFlags := 4122, nameIndex := 39, descriptorIndex := 40, attributes := #[] }])
  fields := #[{ name := "INDICATOR", type := (.object "com/example/seefrom/seefrom/Rule"), accessFlags := 16409, slot := 0, constantValue := 0 }, { name := "OBSOLETE_INDICATOR", type := (.object "com/example/seefrom/seefrom/Rule"), accessFlags := 16409, slot := 1, constantValue := 0 }, { name := "UNDEFINED_SUBFIELD", type := (.object "com/example/seefrom/seefrom/Rule"), accessFlags := 16409, slot := 2, constantValue := 0 }, { name := "REPEATED_SUBFIELD", type := (.object "com/example/seefrom/seefrom/Rule"), accessFlags := 16409, slot := 3, constantValue := 0 }, { name := "MISSING_SUBFIELD", type := (.object "com/example/seefrom/seefrom/Rule"), accessFlags := 16409, slot := 4, constantValue := 0 }, { name := "EMPTY_SUBFIELD", type := (.object "com/example/seefrom/seefrom/Rule"), accessFlags := 16409, slot := 5, constantValue := 0 }, { name := "CONTROL_SUBFIELD", type := (.object "com/example/seefrom/seefrom/Rule"), accessFlags := 16409, slot := 6, constantValue := 0 }, { name := "OBSOLETE_CODE", type := (.object "com/example/seefrom/seefrom/Rule"), accessFlags := 16409, slot := 7, constantValue := 0 }, { name := "WRONG_RECORD", type := (.object "com/example/seefrom/seefrom/Rule"), accessFlags := 16409, slot := 8, constantValue := 0 }, { name := "HEADING", type := (.object "com/example/seefrom/seefrom/Rule"), accessFlags := 16409, slot := 9, constantValue := 0 }, { name := "DAMAGED", type := (.object "com/example/seefrom/seefrom/Rule"), accessFlags := 16409, slot := 10, constantValue := 0 }, { name := "id", type := (.object "java/lang/String"), accessFlags := 18, slot := 3, constantValue := 0 }, { name := "severity", type := (.object "com/example/seefrom/seefrom/Severity"), accessFlags := 18, slot := 4, constantValue := 0 }, { name := "$VALUES", type := (.array (.object "com/example/seefrom/seefrom/Rule")), accessFlags := 4122, slot := 11, constantValue := 0 }]
  methods := #[]
  instanceTypes := #[(.object "java/lang/String"), .int, .int, (.object "java/lang/String"), (.object "com/example/seefrom/seefrom/Severity")]
  staticTypes := #[(.object "com/example/seefrom/seefrom/Rule"), (.object "com/example/seefrom/seefrom/Rule"), (.object "com/example/seefrom/seefrom/Rule"), (.object "com/example/seefrom/seefrom/Rule"), (.object "com/example/seefrom/seefrom/Rule"), (.object "com/example/seefrom/seefrom/Rule"), (.object "com/example/seefrom/seefrom/Rule"), (.object "com/example/seefrom/seefrom/Rule"), (.object "com/example/seefrom/seefrom/Rule"), (.object "com/example/seefrom/seefrom/Rule"), (.object "com/example/seefrom/seefrom/Rule"), (.array (.object "com/example/seefrom/seefrom/Rule"))]
  resolved := Array.replicate 126 none
  statics := some 1 }

def pool12 : Array CpInfo := pool [(1, .methodref 2 3), (0, .class_ 4), (0, .nameAndType 5 6), (0, u "java/lang/Object"), (0, u "<init>"), (0, u "()V"), (0, .class_ 8), (0, u "java/lang/Record")] 13

def k12c0 : Code := { maxStack := 1, maxLocals := 1, code := jdk_30_method_1_code, exceptionTable := #[], attributes := #[] }
def k12m0 : Method := { name := "<init>", desc := "()V", sig := { parameters := [], returnType := none }, accessFlags := 4, code := some k12c0 }
/-- java/lang/Record -/
def k12 : Class := { plain "java/lang/Record" (some 0) with
  accessFlags := 1057
  interfaces := #[]
  cf := some (fileOf pool12 7 #[] #[{ accessFlags := 4, nameIndex := 5, descriptorIndex := 6, attributes := #[] }] 1057 2 #[] #[])
  fields := #[]
  methods := #[k12m0]
  instanceTypes := #[]
  staticTypes := #[]
  resolved := Array.replicate 22 none
  statics := none }

def pool13 : Array CpInfo := pool [(1, .methodref 2 3), (0, .class_ 4), (0, .nameAndType 5 6), (0, u "java/lang/Record"), (0, u "<init>"), (0, u "()V"), (0, .string 8), (0, u "controlNumber"), (0, .methodref 10 11), (0, .class_ 12), (0, .nameAndType 13 14), (0, u "java/util/Objects"), (0, u "requireNonNull"), (0, u "(Ljava/lang/Object;Ljava/lang/String;)Ljava/lang/Object;"), (0, .string 16), (0, u "rule"), (0, .string 18), (0, u "message"), (0, .fieldref 20 21), (0, .class_ 22), (0, .nameAndType 8 23), (0, u "com/example/seefrom/seefrom/Problem"), (0, u "Ljava/lang/String;"), (0, .fieldref 20 25), (0, .nameAndType 26 23), (0, u "tag"), (0, .fieldref 20 28), (0, .nameAndType 29 30), (0, u "occurrence"), (0, u "I"), (0, .fieldref 20 32), (0, .nameAndType 16 33), (0, u "Lcom/example/seefrom/seefrom/Rule;"), (0, .fieldref 20 35), (0, .nameAndType 18 23), (0, .methodref 20 37), (0, .nameAndType 5 38), (0, u "(Ljava/lang/String;Ljava/lang/String;ILcom/example/seefrom/seefrom/Rule;Ljava/lang/String;)V"), (21, u "ofRecord"), (0, u "(Ljava/lang/String;Lcom/example/seefrom/seefrom/Rule;Ljava/lang/String;)Lcom/example/seefrom/seefrom/Problem;"), (0, u "isOfRecord"), (0, u "()Z")] 29

def k13c0 : Code := { maxStack := 2, maxLocals := 6, code := prog_7_method_1_code, exceptionTable := #[], attributes := #[] }
def k13m0 : Method := { name := "<init>", desc := "(Ljava/lang/String;Ljava/lang/String;ILcom/example/seefrom/seefrom/Rule;Ljava/lang/String;)V", sig := { parameters := [(.object "java/lang/String"), (.object "java/lang/String"), .int, (.object "com/example/seefrom/seefrom/Rule"), (.object "java/lang/String")], returnType := none }, accessFlags := 1, code := some k13c0 }
def k13c1 : Code := { maxStack := 7, maxLocals := 3, code := prog_7_method_2_code, exceptionTable := #[], attributes := #[] }
def k13m1 : Method := { name := "ofRecord", desc := "(Ljava/lang/String;Lcom/example/seefrom/seefrom/Rule;Ljava/lang/String;)Lcom/example/seefrom/seefrom/Problem;", sig := { parameters := [(.object "java/lang/String"), (.object "com/example/seefrom/seefrom/Rule"), (.object "java/lang/String")], returnType := some (.object "com/example/seefrom/seefrom/Problem") }, accessFlags := 9, code := some k13c1 }
def k13c2 : Code := { maxStack := 1, maxLocals := 1, code := prog_7_method_3_code, exceptionTable := #[], attributes := #[] }
def k13m2 : Method := { name := "isOfRecord", desc := "()Z", sig := { parameters := [], returnType := some .boolean }, accessFlags := 1, code := some k13c2 }
/-- com/example/seefrom/seefrom/Problem -/
def k13 : Class := { plain "com/example/seefrom/seefrom/Problem" (some 12) with
  accessFlags := 49
  interfaces := #[]
  cf := some (fileOf pool13 20 #[] #[{ accessFlags := 1, nameIndex := 5, descriptorIndex := 38, attributes := #[] }, { accessFlags := 9, nameIndex := 60, descriptorIndex := 61, attributes := #[] }, { accessFlags := 1, nameIndex := 62, descriptorIndex := 63, attributes := #[] }] 49 2 #[] #[{ accessFlags := 18, nameIndex := 8, descriptorIndex := 23, attributes := #[] }, { accessFlags := 18, nameIndex := 26, descriptorIndex := 23, attributes := #[] }, { accessFlags := 18, nameIndex := 29, descriptorIndex := 30, attributes := #[] }, { accessFlags := 18, nameIndex := 16, descriptorIndex := 33, attributes := #[] }, { accessFlags := 18, nameIndex := 18, descriptorIndex := 23, attributes := #[] }])
  fields := #[{ name := "controlNumber", type := (.object "java/lang/String"), accessFlags := 18, slot := 0, constantValue := 0 }, { name := "tag", type := (.object "java/lang/String"), accessFlags := 18, slot := 1, constantValue := 0 }, { name := "occurrence", type := .int, accessFlags := 18, slot := 2, constantValue := 0 }, { name := "rule", type := (.object "com/example/seefrom/seefrom/Rule"), accessFlags := 18, slot := 3, constantValue := 0 }, { name := "message", type := (.object "java/lang/String"), accessFlags := 18, slot := 4, constantValue := 0 }]
  methods := #[k13m0, k13m1, k13m2]
  instanceTypes := #[(.object "java/lang/String"), (.object "java/lang/String"), .int, (.object "com/example/seefrom/seefrom/Rule"), (.object "java/lang/String")]
  staticTypes := #[]
  resolved := Array.replicate 93 none
  statics := none }

def pool14 : Array CpInfo := pool [(2, .class_ 4), (1, u "java/lang/Object"), (0, u "<init>"), (0, u "()V"), (35, .class_ 44), (1, u "java/util/Objects"), (0, u "requireNonNull"), (48, u "(Ljava/lang/Object;Ljava/lang/String;)Ljava/lang/Object;")] 89

def k14m0 : Method := { name := "<init>", desc := "()V", sig := { parameters := [], returnType := none }, accessFlags := 2, code := none }
def k14c1 : Code := { maxStack := 3, maxLocals := 2, code := jdk_31_method_11_code, exceptionTable := #[], attributes := #[] }
def k14m1 : Method := { name := "requireNonNull", desc := "(Ljava/lang/Object;Ljava/lang/String;)Ljava/lang/Object;", sig := { parameters := [(.object "java/lang/Object"), (.object "java/lang/String")], returnType := some (.object "java/lang/Object") }, accessFlags := 9, code := some k14c1 }
/-- java/util/Objects -/
def k14 : Class := { plain "java/util/Objects" (some 0) with
  accessFlags := 49
  interfaces := #[]
  cf := some (fileOf pool14 42 #[] #[{ accessFlags := 2, nameIndex := 5, descriptorIndex := 6, attributes := #[] }, { accessFlags := 9, nameIndex := 45, descriptorIndex := 94, attributes := #[] }] 49 2 #[] #[])
  fields := #[]
  methods := #[k14m0, k14m1]
  instanceTypes := #[]
  staticTypes := #[]
  resolved := Array.replicate 184 none
  statics := none }

def pool15 : Array CpInfo := pool [(2, .class_ 4), (1, u "java/lang/Object"), (0, u "<init>"), (0, u "()V"), (17, .class_ 26), (1, u "jdk/internal/util/Preconditions"), (28, .class_ 56), (0, u "jdk/internal/util/Preconditions$4"), (57, .class_ 115), (0, u "jdk/internal/util/Preconditions$1"), (7, u "SIOOBE_FORMATTER"), (0, u "Ljava/util/function/BiFunction;"), (0, .class_ 126), (0, u "jdk/internal/util/Preconditions$2"), (3, u "AIOOBE_FORMATTER"), (0, .class_ 132), (0, u "jdk/internal/util/Preconditions$3"), (3, u "IOOBE_FORMATTER")] 57

def k15m0 : Method := { name := "<init>", desc := "()V", sig := { parameters := [], returnType := none }, accessFlags := 1, code := none }
/-- jdk/internal/util/Preconditions -/
def k15 : Class := { plain "jdk/internal/util/Preconditions" (some 0) with
  accessFlags := 33
  interfaces := #[]
  cf := some (fileOf pool15 24 #[.nestMembers #[55, 131, 125, 114]] #[{ accessFlags := 1, nameIndex := 5, descriptorIndex := 6, attributes := #[] }] 33 2 #[] #[{ accessFlags := 25, nameIndex := 123, descriptorIndex := 124, attributes := #[] }, { accessFlags := 25, nameIndex := 130, descriptorIndex := 124, attributes := #[] }, { accessFlags := 25, nameIndex := 136, descriptorIndex := 124, attributes := #[] }])
  fields := #[{ name := "SIOOBE_FORMATTER", type := (.object "java/util/function/BiFunction"), accessFlags := 25, slot := 0, constantValue := 0 }, { name := "AIOOBE_FORMATTER", type := (.object "java/util/function/BiFunction"), accessFlags := 25, slot := 1, constantValue := 0 }, { name := "IOOBE_FORMATTER", type := (.object "java/util/function/BiFunction"), accessFlags := 25, slot := 2, constantValue := 0 }]
  methods := #[k15m0]
  instanceTypes := #[]
  staticTypes := #[(.object "java/util/function/BiFunction"), (.object "java/util/function/BiFunction"), (.object "java/util/function/BiFunction")]
  resolved := Array.replicate 194 none
  statics := some 2 }

def pool16 : Array CpInfo := pool [(9, u "<init>"), (6, .class_ 18), (1, u "java/lang/Object"), (0, u "()V"), (1, .class_ 23), (1, u "jdk/internal/util/ArraysSupport"), (0, u "LOG2_ARRAY_LONG_INDEX_SCALE"), (0, u "I"), (2, u "U"), (0, u "Ljdk/internal/misc/Unsafe;"), (8, u "BIG_ENDIAN"), (0, u "Z"), (8, u "LOG2_BYTE_BIT_SIZE"), (4, u "LOG2_ARRAY_INT_INDEX_SCALE"), (54, u "JLA"), (0, u "Ljdk/internal/access/JavaLangAccess;"), (11, u "LOG2_ARRAY_BOOLEAN_INDEX_SCALE"), (9, u "LOG2_ARRAY_BYTE_INDEX_SCALE"), (5, u "LOG2_ARRAY_CHAR_INDEX_SCALE"), (5, u "LOG2_ARRAY_SHORT_INDEX_SCALE"), (18, u "LOG2_ARRAY_FLOAT_INDEX_SCALE"), (24, u "LOG2_ARRAY_DOUBLE_INDEX_SCALE"), (89, u "T_BOOLEAN"), (2, u "T_CHAR"), (1, u "T_FLOAT"), (1, u "T_DOUBLE"), (1, u "T_BYTE"), (1, u "T_SHORT"), (1, u "T_INT"), (1, u "T_LONG"), (1, u "SOFT_MAX_ARRAY_LENGTH")] 83

def k16m0 : Method := { name := "<init>", desc := "()V", sig := { parameters := [], returnType := none }, accessFlags := 2, code := none }
/-- jdk/internal/util/ArraysSupport -/
def k16 : Class := { plain "jdk/internal/util/ArraysSupport" (some 0) with
  accessFlags := 33
  interfaces := #[]
  cf := some (fileOf pool16 21 #[] #[{ accessFlags := 2, nameIndex := 9, descriptorIndex := 19, attributes := #[] }] 33 16 #[] #[{ accessFlags := 24, nameIndex := 28, descriptorIndex := 29, attributes := #[] }, { accessFlags := 26, nameIndex := 38, descriptorIndex := 39, attributes := #[] }, { accessFlags := 25, nameIndex := 121, descriptorIndex := 25, attributes := #[] }, { accessFlags := 25, nameIndex := 131, descriptorIndex := 25, attributes := #[] }, { accessFlags := 25, nameIndex := 137, descriptorIndex := 25, attributes := #[] }, { accessFlags := 25, nameIndex := 143, descriptorIndex := 25, attributes := #[] }, { accessFlags := 25, nameIndex := 53, descriptorIndex := 25, attributes := #[] }, { accessFlags := 25, nameIndex := 24, descriptorIndex := 25, attributes := #[] }, { accessFlags := 25, nameIndex := 162, descriptorIndex := 25, attributes := #[] }, { accessFlags := 25, nameIndex := 187, descriptorIndex := 25, attributes := #[] }, { accessFlags := 26, nameIndex := 48, descriptorIndex := 25, attributes := #[] }, { accessFlags := 25, nameIndex := 277, descriptorIndex := 25, attributes := #[] }, { accessFlags := 25, nameIndex := 280, descriptorIndex := 25, attributes := #[] }, { accessFlags := 25, nameIndex := 282, descriptorIndex := 25, attributes := #[] }, { accessFlags := 25, nameIndex := 284, descriptorIndex := 25, attributes := #[] }, { accessFlags := 25, nameIndex := 286, descriptorIndex := 25, attributes := #[] }, { accessFlags := 25, nameIndex := 288, descriptorIndex := 25, attributes := #[] }, { accessFlags := 25, nameIndex := 290, descriptorIndex := 25, attributes := #[] }, { accessFlags := 25, nameIndex := 292, descriptorIndex := 25, attributes := #[] }, { accessFlags := 26, nameIndex := 108, descriptorIndex := 109, attributes := #[] }, { accessFlags := 25, nameIndex := 294, descriptorIndex := 25, attributes := #[] }])
  fields := #[{ name := "U", type := (.object "jdk/internal/misc/Unsafe"), accessFlags := 24, slot := 0, constantValue := 0 }, { name := "BIG_ENDIAN", type := .boolean, accessFlags := 26, slot := 1, constantValue := 0 }, { name := "LOG2_ARRAY_BOOLEAN_INDEX_SCALE", type := .int, accessFlags := 25, slot := 2, constantValue := 0 }, { name := "LOG2_ARRAY_BYTE_INDEX_SCALE", type := .int, accessFlags := 25, slot := 3, constantValue := 0 }, { name := "LOG2_ARRAY_CHAR_INDEX_SCALE", type := .int, accessFlags := 25, slot := 4, constantValue := 0 }, { name := "LOG2_ARRAY_SHORT_INDEX_SCALE", type := .int, accessFlags := 25, slot := 5, constantValue := 0 }, { name := "LOG2_ARRAY_INT_INDEX_SCALE", type := .int, accessFlags := 25, slot := 6, constantValue := 0 }, { name := "LOG2_ARRAY_LONG_INDEX_SCALE", type := .int, accessFlags := 25, slot := 7, constantValue := 0 }, { name := "LOG2_ARRAY_FLOAT_INDEX_SCALE", type := .int, accessFlags := 25, slot := 8, constantValue := 0 }, { name := "LOG2_ARRAY_DOUBLE_INDEX_SCALE", type := .int, accessFlags := 25, slot := 9, constantValue := 0 }, { name := "LOG2_BYTE_BIT_SIZE", type := .int, accessFlags := 26, slot := 10, constantValue := 0 }, { name := "T_BOOLEAN", type := .int, accessFlags := 25, slot := 11, constantValue := 0 }, { name := "T_CHAR", type := .int, accessFlags := 25, slot := 12, constantValue := 0 }, { name := "T_FLOAT", type := .int, accessFlags := 25, slot := 13, constantValue := 0 }, { name := "T_DOUBLE", type := .int, accessFlags := 25, slot := 14, constantValue := 0 }, { name := "T_BYTE", type := .int, accessFlags := 25, slot := 15, constantValue := 0 }, { name := "T_SHORT", type := .int, accessFlags := 25, slot := 16, constantValue := 0 }, { name := "T_INT", type := .int, accessFlags := 25, slot := 17, constantValue := 0 }, { name := "T_LONG", type := .int, accessFlags := 25, slot := 18, constantValue := 0 }, { name := "JLA", type := (.object "jdk/internal/access/JavaLangAccess"), accessFlags := 26, slot := 19, constantValue := 0 }, { name := "SOFT_MAX_ARRAY_LENGTH", type := .int, accessFlags := 25, slot := 20, constantValue := 0 }]
  methods := #[k16m0]
  instanceTypes := #[]
  staticTypes := #[(.object "jdk/internal/misc/Unsafe"), .boolean, .int, .int, .int, .int, .int, .int, .int, .int, .int, .int, .int, .int, .int, .int, .int, .int, .int, (.object "jdk/internal/access/JavaLangAccess"), .int]
  resolved := Array.replicate 378 none
  statics := none }

def pool17 : Array CpInfo := pool [(1, u "java/lang/Cloneable"), (0, .class_ 1), (0, u "java/lang/Object"), (0, .class_ 3)] 3

/-- java/lang/Cloneable -/
def k17 : Class := { plain "java/lang/Cloneable" (some 0) with
  accessFlags := 1537
  interfaces := #[]
  cf := some (fileOf pool17 2 #[] #[] 1537 4 #[] #[])
  fields := #[]
  methods := #[]
  instanceTypes := #[]
  staticTypes := #[]
  resolved := Array.replicate 8 none
  statics := none }

/-- the primitive byte -/
def k18 : Class := { plain "byte" none with kind := .primitive 'B', accessFlags := 0x411 }
/-- [B -/
def k19 : Class := { plain "[B" (some 0) with kind := .array 18 .byte, interfaces := #[17, 2], accessFlags := 1041 }

/-- the primitive char -/
def k20 : Class := { plain "char" none with kind := .primitive 'C', accessFlags := 0x411 }
/-- [C -/
def k21 : Class := { plain "[C" (some 0) with kind := .array 20 .char, interfaces := #[17, 2], accessFlags := 1041 }

/-- the primitive int -/
def k22 : Class := { plain "int" none with kind := .primitive 'I', accessFlags := 0x411 }
/-- [I -/
def k23 : Class := { plain "[I" (some 0) with kind := .array 22 .int, interfaces := #[17, 2], accessFlags := 1041 }

def heap : Heap := #[{ cls := 7, slots := #[.long 0, .int 1, .null, .int 0, .null, .int 0, .int 0], vm := .statics 7 },
  { cls := 11, slots := #[.ref 3, .null, .null, .null, .null, .null, .null, .ref 4, .null, .ref 5, .ref 6, .null], vm := .statics 11 },
  { cls := 15, slots := #[.null, .null, .null], vm := .statics 15 },
  { cls := 11, slots := #[.null, .int 0, .int 0, .null, .null], vm := .none },
  { cls := 11, slots := #[.null, .int 7, .int 0, .null, .null], vm := .none },
  { cls := 11, slots := #[.null, .int 9, .int 0, .null, .null], vm := .none },
  { cls := 11, slots := #[.null, .int 10, .int 0, .null, .null], vm := .none }]
def classes : Array Class := #[k0, k1, k2, k3, k4, k5, k6, k7, k8, k9, k10, k11, k12, k13, k14, k15, k16, k17, k18, k19, k20, k21, k22, k23]
def interned : List (Array UInt16 × Addr) := []
def slotsUsed : Nat := 42
def theMethod : MethodId := ⟨1, 2⟩
def args0 : Array Value := #[.int 4, .int 65, .int 66, .int 2, .int 1, .int 0]
def aboutOver (below : List Frame) : State where
  vm := { classes := classes, interned := interned.toArray }
  heap := heap
  slotsUsed := slotsUsed
  threads := #[{ frames := .invoking theMethod args0 :: below }]
def below0 : List Frame := [.native { method := ⟨0, 0⟩, args := #[] }]
def about1 : State := aboutOver below0
def p0 : Program := .bare "" "" ""
def e0 : Env := launch0.env 0 0 0
theorem w_frames : about1.frames = Frame.invoking theMethod args0 :: below0 := rfl
set_option maxRecDepth 65536 in
theorem w_args : argsFit about1.vm theMethod args0 = true := by decide +kernel
set_option maxRecDepth 65536 in
theorem w_heap : heapFits about1 = true := by decide +kernel
set_option maxRecDepth 65536 in
theorem w_runnable : about1.curStatus? = some .runnable := by decide +kernel
set_option maxRecDepth 65536 in
theorem w_alone : about1.alone = true := by decide +kernel
set_option maxRecDepth 65536 in
theorem w_named : about1.methodNamed? x = some theMethod := by decide +kernel
set_option maxRecDepth 65536 in
theorem w_hears : about1.hears theMethod below0 = true := by decide +kernel
set_option maxRecDepth 65536 in
theorem w_ripe : about1.ripe theMethod args0 below0 = true := by decide +kernel
theorem w_running : about1.status = .running := rfl
set_option maxRecDepth 65536 in
theorem w_room : about1.hasRoom e0.platform room_1 = true :=
  launch0.hasRoom_least _ room_1 (by decide +kernel) (by decide +kernel) (by decide +kernel) (by decide +kernel) (by decide +kernel) (by decide +kernel)
theorem allAtoms_all (ts : List Jvm.Cond) (a : Array Jvm.Value) (st : Jvm.State) : (allAtoms ts).before a st = ts.all (fun c => c.before a st) := by
  induction ts with
  | nil => rfl
  | cons c t ih =>
    show (Jvm.Cond.and c (allAtoms t)).before a st = _
    rw [Jvm.Cond.before_and, ih, List.all_cons]
def words1 : List Jvm.Cond := Jvm.Cond.code x code maxLocals ret :: tables_1
/-- a 'code' word, met by the world's own term for the bytes: nothing is compared byte by byte -/
theorem code_word {y : MethodName} {bytes : ByteArray} {mx : Nat} {rt : Option FieldType} {a : Array Value} {s : State} {m : MethodId} {meth : Method} {c : Code} (h1 : s.methodNamed? y = some m) (h2 : s.vm.method? m = some meth) (h3 : meth.code = some c) (h4 : c.code = bytes)
    (h5 : (c.maxLocals == mx && c.exceptionTable.isEmpty && decide (c.maxStack ≤ mostOperands) && decide (meth.sig.returnType = rt) && !meth.locks && decide (parseMethodDescriptor y.desc = some meth.sig)) = true) : (Jvm.Cond.code y bytes mx rt).before a s = true := by
  simp only [Bool.and_eq_true, beq_iff_eq, Bool.not_eq_true', decide_eq_true_eq] at h5
  obtain ⟨⟨⟨⟨⟨g1, g2⟩, g3⟩, g4⟩, g5⟩, g6⟩ := h5
  simp [Cond.before, Cond.holds, Cond.value, h1, h2, h3, h4, g1, g2, g3, g4, g5, g6]
def isCode : Jvm.Cond → Bool
  | .code _ _ _ _ => true
  | _ => false
theorem all_split {L : List Jvm.Cond} {P : Jvm.Cond → Bool} (h1 : L.all (fun c => isCode c || P c) = true) (h2 : ∀ c ∈ L.filter isCode, P c = true) : L.all P = true := by
  refine List.all_eq_true.mpr fun c hc => ?_
  have h := List.all_eq_true.mp h1 c hc
  rcases Bool.eq_false_or_eq_true (isCode c) with hi | hi
  · exact h2 c (List.mem_filter.mpr ⟨hc, hi⟩)
  · simpa [hi] using h
set_option maxRecDepth 65536 in
theorem w_c0 : (Jvm.Cond.code x code maxLocals ret).before args0 about1 = true := code_word (m := ⟨1, 2⟩) (meth := k1m2) (c := k1c2) (by decide +kernel) rfl rfl rfl (by decide +kernel)
set_option maxRecDepth 65536 in
theorem w_c1 : (Jvm.Cond.code ({ cls := "java/lang/String", name := "<init>", desc := "([C)V" } : Jvm.MethodName) jdk_42_method_3_code (2 : Nat) (Option.none : Option Jvm.ClassFile.FieldType)).before args0 about1 = true := code_word (m := ⟨7, 1⟩) (meth := k7m1) (c := k7c1) (by decide +kernel) rfl rfl rfl (by decide +kernel)
set_option maxRecDepth 65536 in
theorem w_c2 : (Jvm.Cond.code ({ cls := "java/lang/String", name := "<init>", desc := "([CIILjava/lang/Void;)V" } : Jvm.MethodName) jdk_42_method_149_code (6 : Nat) (Option.none : Option Jvm.ClassFile.FieldType)).before args0 about1 = true := code_word (m := ⟨7, 3⟩) (meth := k7m3) (c := k7c3) (by decide +kernel) rfl rfl rfl (by decide +kernel)
set_option maxRecDepth 65536 in
theorem w_c3 : (Jvm.Cond.code ({ cls := "java/lang/Object", name := "<init>", desc := "()V" } : Jvm.MethodName) object_method_1_code (1 : Nat) (Option.none : Option Jvm.ClassFile.FieldType)).before args0 about1 = true := code_word (m := ⟨0, 0⟩) (meth := k0m0) (c := k0c0) (by decide +kernel) rfl rfl rfl (by decide +kernel)
set_option maxRecDepth 65536 in
theorem w_c4 : (Jvm.Cond.code ({ cls := "java/lang/String", name := "valueOf", desc := "(C)Ljava/lang/String;" } : Jvm.MethodName) jdk_42_method_139_code (1 : Nat) (Option.some (Jvm.ClassFile.FieldType.object "java/lang/String"))).before args0 about1 = true := code_word (m := ⟨7, 2⟩) (meth := k7m2) (c := k7c2) (by decide +kernel) rfl rfl rfl (by decide +kernel)
set_option maxRecDepth 65536 in
theorem w_c5 : (Jvm.Cond.code ({ cls := "java/lang/StringLatin1", name := "canEncode", desc := "(C)Z" } : Jvm.MethodName) jdk_43_method_3_code (1 : Nat) (Option.some Jvm.ClassFile.FieldType.boolean)).before args0 about1 = true := code_word (m := ⟨8, 1⟩) (meth := k8m1) (c := k8c1) (by decide +kernel) rfl rfl rfl (by decide +kernel)
set_option maxRecDepth 65536 in
theorem w_c6 : (Jvm.Cond.code ({ cls := "java/lang/StringLatin1", name := "toBytes", desc := "(C)[B" } : Jvm.MethodName) jdk_43_method_46_code (1 : Nat) (Option.some (Jvm.ClassFile.FieldType.array Jvm.ClassFile.FieldType.byte))).before args0 about1 = true := code_word (m := ⟨8, 2⟩) (meth := k8m2) (c := k8c2) (by decide +kernel) rfl rfl rfl (by decide +kernel)
set_option maxRecDepth 65536 in
theorem w_c7 : (Jvm.Cond.code ({ cls := "java/lang/String", name := "<init>", desc := "([BB)V" } : Jvm.MethodName) jdk_42_method_151_code (3 : Nat) (Option.none : Option Jvm.ClassFile.FieldType)).before args0 about1 = true := code_word (m := ⟨7, 4⟩) (meth := k7m4) (c := k7c4) (by decide +kernel) rfl rfl rfl (by decide +kernel)
set_option maxRecDepth 65536 in
theorem w_c8 : (Jvm.Cond.code ({ cls := "java/lang/StringUTF16", name := "compress", desc := "([CII)[B" } : Jvm.MethodName) jdk_52_method_16_code (6 : Nat) (Option.some (Jvm.ClassFile.FieldType.array Jvm.ClassFile.FieldType.byte))).before args0 about1 = true := code_word (m := ⟨9, 2⟩) (meth := k9m2) (c := k9c2) (by decide +kernel) rfl rfl rfl (by decide +kernel)
set_option maxRecDepth 65536 in
theorem w_c9 : (Jvm.Cond.code ({ cls := "java/lang/StringUTF16", name := "compress", desc := "([CI[BII)I" } : Jvm.MethodName) jdk_52_method_21_code (7 : Nat) (Option.some Jvm.ClassFile.FieldType.int)).before args0 about1 = true := code_word (m := ⟨9, 3⟩) (meth := k9m3) (c := k9c3) (by decide +kernel) rfl rfl rfl (by decide +kernel)
set_option maxRecDepth 65536 in
theorem w_c10 : (Jvm.Cond.code ({ cls := "java/lang/StringUTF16", name := "coderFromArrayLen", desc := "([BI)B" } : Jvm.MethodName) jdk_52_method_15_code (2 : Nat) (Option.some Jvm.ClassFile.FieldType.byte)).before args0 about1 = true := code_word (m := ⟨9, 1⟩) (meth := k9m1) (c := k9c1) (by decide +kernel) rfl rfl rfl (by decide +kernel)
set_option maxRecDepth 65536 in
theorem w_c11 : (Jvm.Cond.code ({ cls := "com/example/seefrom/seefrom/ProblemIsOfRecordPinLaw", name := "pickRule", desc := "(I)Lcom/example/seefrom/seefrom/Rule;" } : Jvm.MethodName) method_2_code (2 : Nat) (Option.some (Jvm.ClassFile.FieldType.object "com/example/seefrom/seefrom/Rule"))).before args0 about1 = true := code_word (m := ⟨1, 1⟩) (meth := k1m1) (c := k1c1) (by decide +kernel) rfl rfl rfl (by decide +kernel)
set_option maxRecDepth 65536 in
theorem w_c12 : (Jvm.Cond.code ({ cls := "com/example/seefrom/seefrom/Problem", name := "<init>", desc := "(Ljava/lang/String;Ljava/lang/String;ILcom/example/seefrom/seefrom/Rule;Ljava/lang/String;)V" } : Jvm.MethodName) prog_7_method_1_code (6 : Nat) (Option.none : Option Jvm.ClassFile.FieldType)).before args0 about1 = true := code_word (m := ⟨13, 0⟩) (meth := k13m0) (c := k13c0) (by decide +kernel) rfl rfl rfl (by decide +kernel)
set_option maxRecDepth 65536 in
theorem w_c13 : (Jvm.Cond.code ({ cls := "java/lang/Record", name := "<init>", desc := "()V" } : Jvm.MethodName) jdk_30_method_1_code (1 : Nat) (Option.none : Option Jvm.ClassFile.FieldType)).before args0 about1 = true := code_word (m := ⟨12, 0⟩) (meth := k12m0) (c := k12c0) (by decide +kernel) rfl rfl rfl (by decide +kernel)
set_option maxRecDepth 65536 in
theorem w_c14 : (Jvm.Cond.code ({ cls := "java/util/Objects", name := "requireNonNull", desc := "(Ljava/lang/Object;Ljava/lang/String;)Ljava/lang/Object;" } : Jvm.MethodName) jdk_31_method_11_code (2 : Nat) (Option.some (Jvm.ClassFile.FieldType.object "java/lang/Object"))).before args0 about1 = true := code_word (m := ⟨14, 1⟩) (meth := k14m1) (c := k14c1) (by decide +kernel) rfl rfl rfl (by decide +kernel)
set_option maxRecDepth 65536 in
theorem w_c15 : (Jvm.Cond.code ({ cls := "com/example/seefrom/seefrom/Problem", name := "ofRecord", desc := "(Ljava/lang/String;Lcom/example/seefrom/seefrom/Rule;Ljava/lang/String;)Lcom/example/seefrom/seefrom/Problem;" } : Jvm.MethodName) prog_7_method_2_code (3 : Nat) (Option.some (Jvm.ClassFile.FieldType.object "com/example/seefrom/seefrom/Problem"))).before args0 about1 = true := code_word (m := ⟨13, 1⟩) (meth := k13m1) (c := k13c1) (by decide +kernel) rfl rfl rfl (by decide +kernel)
set_option maxRecDepth 65536 in
theorem w_c16 : (Jvm.Cond.code ({ cls := "com/example/seefrom/seefrom/Problem", name := "isOfRecord", desc := "()Z" } : Jvm.MethodName) prog_7_method_3_code (1 : Nat) (Option.some Jvm.ClassFile.FieldType.boolean)).before args0 about1 = true := code_word (m := ⟨13, 2⟩) (meth := k13m2) (c := k13c2) (by decide +kernel) rfl rfl rfl (by decide +kernel)
def codes1 : List Jvm.Cond := [Jvm.Cond.code x code maxLocals ret, Jvm.Cond.code ({ cls := "java/lang/String", name := "<init>", desc := "([C)V" } : Jvm.MethodName) jdk_42_method_3_code (2 : Nat) (Option.none : Option Jvm.ClassFile.FieldType), Jvm.Cond.code ({ cls := "java/lang/String", name := "<init>", desc := "([CIILjava/lang/Void;)V" } : Jvm.MethodName) jdk_42_method_149_code (6 : Nat) (Option.none : Option Jvm.ClassFile.FieldType), Jvm.Cond.code ({ cls := "java/lang/Object", name := "<init>", desc := "()V" } : Jvm.MethodName) object_method_1_code (1 : Nat) (Option.none : Option Jvm.ClassFile.FieldType), Jvm.Cond.code ({ cls := "java/lang/String", name := "valueOf", desc := "(C)Ljava/lang/String;" } : Jvm.MethodName) jdk_42_method_139_code (1 : Nat) (Option.some (Jvm.ClassFile.FieldType.object "java/lang/String")), Jvm.Cond.code ({ cls := "java/lang/StringLatin1", name := "canEncode", desc := "(C)Z" } : Jvm.MethodName) jdk_43_method_3_code (1 : Nat) (Option.some Jvm.ClassFile.FieldType.boolean), Jvm.Cond.code ({ cls := "java/lang/StringLatin1", name := "toBytes", desc := "(C)[B" } : Jvm.MethodName) jdk_43_method_46_code (1 : Nat) (Option.some (Jvm.ClassFile.FieldType.array Jvm.ClassFile.FieldType.byte)), Jvm.Cond.code ({ cls := "java/lang/String", name := "<init>", desc := "([BB)V" } : Jvm.MethodName) jdk_42_method_151_code (3 : Nat) (Option.none : Option Jvm.ClassFile.FieldType), Jvm.Cond.code ({ cls := "java/lang/StringUTF16", name := "compress", desc := "([CII)[B" } : Jvm.MethodName) jdk_52_method_16_code (6 : Nat) (Option.some (Jvm.ClassFile.FieldType.array Jvm.ClassFile.FieldType.byte)), Jvm.Cond.code ({ cls := "java/lang/StringUTF16", name := "compress", desc := "([CI[BII)I" } : Jvm.MethodName) jdk_52_method_21_code (7 : Nat) (Option.some Jvm.ClassFile.FieldType.int), Jvm.Cond.code ({ cls := "java/lang/StringUTF16", name := "coderFromArrayLen", desc := "([BI)B" } : Jvm.MethodName) jdk_52_method_15_code (2 : Nat) (Option.some Jvm.ClassFile.FieldType.byte), Jvm.Cond.code ({ cls := "com/example/seefrom/seefrom/ProblemIsOfRecordPinLaw", name := "pickRule", desc := "(I)Lcom/example/seefrom/seefrom/Rule;" } : Jvm.MethodName) method_2_code (2 : Nat) (Option.some (Jvm.ClassFile.FieldType.object "com/example/seefrom/seefrom/Rule")), Jvm.Cond.code ({ cls := "com/example/seefrom/seefrom/Problem", name := "<init>", desc := "(Ljava/lang/String;Ljava/lang/String;ILcom/example/seefrom/seefrom/Rule;Ljava/lang/String;)V" } : Jvm.MethodName) prog_7_method_1_code (6 : Nat) (Option.none : Option Jvm.ClassFile.FieldType), Jvm.Cond.code ({ cls := "java/lang/Record", name := "<init>", desc := "()V" } : Jvm.MethodName) jdk_30_method_1_code (1 : Nat) (Option.none : Option Jvm.ClassFile.FieldType), Jvm.Cond.code ({ cls := "java/util/Objects", name := "requireNonNull", desc := "(Ljava/lang/Object;Ljava/lang/String;)Ljava/lang/Object;" } : Jvm.MethodName) jdk_31_method_11_code (2 : Nat) (Option.some (Jvm.ClassFile.FieldType.object "java/lang/Object")), Jvm.Cond.code ({ cls := "com/example/seefrom/seefrom/Problem", name := "ofRecord", desc := "(Ljava/lang/String;Lcom/example/seefrom/seefrom/Rule;Ljava/lang/String;)Lcom/example/seefrom/seefrom/Problem;" } : Jvm.MethodName) prog_7_method_2_code (3 : Nat) (Option.some (Jvm.ClassFile.FieldType.object "com/example/seefrom/seefrom/Problem")), Jvm.Cond.code ({ cls := "com/example/seefrom/seefrom/Problem", name := "isOfRecord", desc := "()Z" } : Jvm.MethodName) prog_7_method_3_code (1 : Nat) (Option.some Jvm.ClassFile.FieldType.boolean)]
set_option maxRecDepth 65536 in
theorem codes_eq : words1.filter isCode = codes1 := rfl
theorem w_codes : ∀ c ∈ words1.filter isCode, c.before args0 about1 = true := by
  rw [codes_eq]
  intro c hc
  simp only [codes1, List.mem_cons, List.not_mem_nil, or_false] at hc
  rcases hc with rfl | rfl | rfl | rfl | rfl | rfl | rfl | rfl | rfl | rfl | rfl | rfl | rfl | rfl | rfl | rfl | rfl
  · exact w_c0
  · exact w_c1
  · exact w_c2
  · exact w_c3
  · exact w_c4
  · exact w_c5
  · exact w_c6
  · exact w_c7
  · exact w_c8
  · exact w_c9
  · exact w_c10
  · exact w_c11
  · exact w_c12
  · exact w_c13
  · exact w_c14
  · exact w_c15
  · exact w_c16
set_option maxRecDepth 65536 in
theorem w_t1 : (words1.take 24).all (fun c => isCode c || c.before args0 about1) = true := by decide +kernel
set_option maxRecDepth 65536 in
theorem w_t2 : ((words1.drop 24).take 24).all (fun c => isCode c || c.before args0 about1) = true := by decide +kernel
set_option maxRecDepth 65536 in
theorem w_t3 : (((words1.drop 24).drop 24).take 24).all (fun c => isCode c || c.before args0 about1) = true := by decide +kernel
set_option maxRecDepth 65536 in
theorem w_t4 : ((((words1.drop 24).drop 24).drop 24).take 24).all (fun c => isCode c || c.before args0 about1) = true := by decide +kernel
set_option maxRecDepth 65536 in
theorem w_t5 : ((((words1.drop 24).drop 24).drop 24).drop 24).all (fun c => isCode c || c.before args0 about1) = true := by decide +kernel
theorem w_tables : (allAtoms (Jvm.Cond.code x code maxLocals ret :: tables_1)).before args0 about1 = true := by
  rw [allAtoms_all]
  show words1.all (fun c => c.before args0 about1) = true
  refine all_split ?_ w_codes
  rw [← List.take_append_drop 24 words1, List.all_append, w_t1, ← List.take_append_drop 24 (words1.drop 24), List.all_append, w_t2, ← List.take_append_drop 24 ((words1.drop 24).drop 24), List.all_append, w_t3, ← List.take_append_drop 24 (((words1.drop 24).drop 24).drop 24), List.all_append, w_t4, w_t5]
  rfl
set_option maxRecDepth 65536 in
theorem w_rest : rest_1_c.before args0 about1 = true := by decide +kernel
set_option maxRecDepth 65536 in
theorem w_case : (Jvm.Cond.and given_1 narrow_1).before args0 about1 = true := by decide +kernel
set_option maxRecDepth 65536 in
theorem w_consts : constsHeld consts_1 about1 := Jvm.Lit.constsHeldB_iff.mp (by decide +kernel)
theorem w_applies : (headSpec (Jvm.Cond.code x code maxLocals ret :: tables_1) room_1).applies x e0.platform about1 = true :=
  (Spec.applies_iff w_frames).mpr ⟨w_running, w_runnable, w_alone, w_named, w_hears, w_ripe, w_room, w_tables⟩
theorem atStart : AtStart classFile x code maxLocals ret World_1 tables_1 room_1 Calls_1 rest_1 Pre_1 launch0 p0 e0 about1 theMethod args0 below0 :=
  ⟨lists_1, trivial, launch0.admits_env _ _ _, launch0.least_env, fairChoices_fair.cas, fairChoices_fair.clock, w_frames, w_args, w_heap, w_applies, ⟨w_consts, trivial⟩, w_rest, w_case⟩
end start1
theorem witness_1 : WitnessClaimed_1 := ⟨start1.p0, start1.e0, start1.about1, start1.theMethod, start1.args0, start1.below0, start1.atStart⟩
end Jvm.Pilot.@@N@@
