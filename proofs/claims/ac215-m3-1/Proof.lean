import JvmDerived
import JvmDerived.Pilot.@@N@@Statement
import JvmDerived.Pilot.@@N@@Code
set_option linter.unusedVariables false
set_option linter.unusedSimpArgs false
namespace Jvm.Pilot.@@N@@
open Jvm Jvm.ClassFile Sem Op Lib Jvm.Free Jvm.Stand Jvm.LawKit Jvm.RoadKit Bundle Jvm.Pilot.@@N@@.Jvm.D
section Own
variable {p : Program} {l : Launch} {e : Env} {R : Room} {s : State} {m : MethodId} {args : Array Value} {below : List Frame} {meth : Method} {c : Code} {Z : State} {a0 : Array Value} {y : MethodName} {bytes : ByteArray} {maxL : Nat} {ret : Option FieldType} {Q : Option Value → Heap → Prop} {P : Option Value → State → Prop} {n0 : Nat} {h : Heap} {k n : Nat} {f f' : JFrame} {pc pc' pt : Nat} {Ls : Array Slot} {S : List Value}
/-- what a walk knows of its own method -/
def Cx (p : Program) (s : State) (m : MethodId) (meth : Method) (c : Code) (Z : State) (y : MethodName) (bytes : ByteArray) (maxL : Nat) (ret : Option FieldType) : Prop :=
  p.tables.exec = Jvm.exec ∧ Z.Warmed39 s.vm ∧ c.code = bytes ∧ c.maxLocals = maxL ∧ s.vm.findClass y.cls = some m.cls ∧ meth.name = y.name ∧ meth.sig.returnType = ret ∧ meth.locks = false
/-- the run from U returns, and what it leaves is as P says -/
def Go (p : Program) (e : Env) (below : List Frame) (P : Option Value → State → Prop) (U : State) : Prop :=
  ∃ s₂ v, Steps p.tables e below U s₂ ∧ s₂.status = .running ∧ Ended s₂ below (.returned v) ∧ P v s₂
/-- as Q says, within the room, seen from the state s -/
def Wst (s : State) (R : Room) (n0 : Nat) (Q : Option Value → Heap → Prop) : Option Value → State → Prop := fun v s₂ => Q v s₂.heap ∧ ∃ L, Fr n0 L ∧ FrameEnd s (.returned v) s₂ L R.cells R.slots
/-- from wherever the walk stands with the heap h, k cells and n slots made, the frame f on top: it ends as P says -/
def G (p : Program) (l : Launch) (e : Env) (R : Room) (s : State) (m : MethodId) (args : Array Value) (below : List Frame) (meth : Method) (c : Code) (n0 : Nat) (P : Option Value → State → Prop) (h : Heap) (k n : Nat) (f : JFrame) : Prop :=
  ∀ T locs, Stand p l e R s m args below meth c T locs k n → T.heap = h → Fr n0 locs → Go p e below P (T.setTop f)
/-- a method's contract at the heap h with the arguments av -/
def Con (l : Launch) (Z : State) (y : MethodName) (bytes : ByteArray) (maxL : Nat) (ret : Option FieldType) (R : Room) (av : Array Value) (h : Heap) (n0 : Nat) (Q : Option Value → Heap → Prop) : Prop :=
  ∀ ws : List Jvm.Cond, MetFree l y (head1 (Jvm.Cond.code y bytes maxL ret :: ws) R) (fun a U => a = av ∧ Z.Warmed39 U.vm ∧ U.heap = h) (fun _ _ _ _ _ => True) (fun _ U o U' => ∃ v L, o = .returned v ∧ (Q v U'.heap ∧ Fr n0 L) ∧ FrameEnd U o U' L R.cells R.slots)
theorem Con.of {av : Array Value} (hy : plainFor y = true) (ef : ∀ m, entryFrame m av maxL = mkF m 0 Ls [])
    (body : ∀ p e s m below meth c, Cx p s m meth c Z y bytes maxL ret → G p l e R s m av below meth c n0 (Wst s R n0 Q) h 0 0 (mkF m 0 Ls [])) : Con l Z y bytes maxL ret R av h n0 Q := by
  intro ws
  refine MetFree.of_bodySF hy hisR ?_
  intro p e s m args below meth c s₁ Bd hml0 hP hK
  obtain ⟨rfl, hZ, hh⟩ := hP
  have X0 : Stand p l e R s m _ below meth c s₁ [] 0 0 := Stand.of_body Bd
  have e0 : s₁.heap = h := by rw [← hh, Bd.state]; rfl
  obtain ⟨s₂, v, h1, h2, h3, h4, L, h5, h6⟩ := body p e s m below meth c ⟨Bd.exec, hZ, Bd.bytes, hml0, findClass_of_methodNamed Bd.named, (name_of_methodNamed Bd.named Bd.method).1, Bd.returns, Bd.notSynchronized⟩ s₁ [] X0 e0 (Fr.nil n0)
  exact ⟨s₂, _, castTop (ef m) h1, h2, h3, v, L, rfl, ⟨h4, h5⟩, h6⟩
theorem Con.imp {av : Array Value} {Q' : Option Value → Heap → Prop} (K : Con l Z y bytes maxL ret R av h n0 Q) (hq : ∀ v h', Q v h' → Q' v h') : Con l Z y bytes maxL ret R av h n0 Q' := by
  intro ws p e ha hc hk s m args below hf happ hP hK
  obtain ⟨n, o, h1, h2, h3, v, L, h4, h5, h6⟩ := K ws p e ha hc hk s m args below hf happ hP hK
  exact ⟨n, o, h1, h2, h3, v, L, h4, ⟨hq _ _ h5.1, h5.2⟩, h6⟩
theorem G.pl (st : ∀ T locs, Stand p l e R s m args below meth c T locs k n → T.heap = h → ∀ t, Steps p.tables e below (T.setTop f') t → Steps p.tables e below (T.setTop f) t) (nx : G p l e R s m args below meth c n0 P h k n f') : G p l e R s m args below meth c n0 P h k n f := fun T locs X eT N => by
  obtain ⟨s₂, o, h1, r⟩ := nx T locs X eT N
  exact ⟨s₂, o, st T locs X eT _ h1, r⟩
/-- a step that hands back another state, the heap as it was -/
theorem G.mv (st : ∀ T locs, Stand p l e R s m args below meth c T locs k n → T.heap = h → ∃ T', Stand p l e R s m args below meth c T' locs k n ∧ T'.heap = h ∧ ∀ t, Steps p.tables e below (T'.setTop f') t → Steps p.tables e below (T.setTop f) t) (nx : G p l e R s m args below meth c n0 P h k n f') : G p l e R s m args below meth c n0 P h k n f := fun T locs X eT N => by
  obtain ⟨T', X', e', q⟩ := st T locs X eT
  obtain ⟨s₂, o, h1, r⟩ := nx T' locs X' e' N
  exact ⟨s₂, o, q _ h1, r⟩
theorem G.mono {k' n' : Nat} (hk : k ≤ k') (hn : n ≤ n') (nx : G p l e R s m args below meth c n0 P h k' n' f) : G p l e R s m args below meth c n0 P h k n f := fun T locs X eT N =>
  nx T locs ⟨X.admits, X.cas, X.clock, X.frames, X.room, X.hears, X.method, X.code, X.here, X.tail, X.warmed, X.limits, X.bytes, X.same.mono hk hn⟩ eT N
theorem G.imp {P' : Option Value → State → Prop} (nx : G p l e R s m args below meth c n0 P h k n f) (hp : ∀ v s₂, P v s₂ → P' v s₂) : G p l e R s m args below meth c n0 P' h k n f := fun T locs X eT N => by
  obtain ⟨s₂, v, h1, h2, h3, h4⟩ := nx T locs X eT N
  exact ⟨s₂, v, h1, h2, h3, hp _ _ h4⟩
theorem twd {d : Jvm.Cond} {L : List Jvm.Cond} (hw : ∀ d ∈ L, d.before a0 Z = true) (i : Nat) (h : L[i]? = some d) : d.before a0 Z = true := hw _ (List.mem_of_getElem? h)
theorem G.iloadN (C : Cx p s m meth c Z y bytes maxL ret) {j : Fin 4} {v : Int32} (hd : decode bytes pc = .ok (.iload_n j, 1)) (hl : Ls[j.val]? = some (.val (.int v))) (hp : pc + 1 = pc') (nx : G p l e R s m args below meth c n0 P h k n (mkF m pc' Ls (.int v :: S))) : G p l e R s m args below meth c n0 P h k n (mkF m pc Ls S) := by
  subst hp; exact G.pl (fun T locs X eT t q => XS.iloadN X.here C.1 rfl (hb C.2.2.1 hd) hl q) nx
theorem G.iload (C : Cx p s m meth c Z y bytes maxL ret) {j : Nat} {v : Int32} (hd : decode bytes pc = .ok (.iload j, 2)) (hl : Ls[j]? = some (.val (.int v))) (hp : pc + 2 = pc') (nx : G p l e R s m args below meth c n0 P h k n (mkF m pc' Ls (.int v :: S))) : G p l e R s m args below meth c n0 P h k n (mkF m pc Ls S) := by
  subst hp; exact G.pl (fun T locs X eT t q => XS.iload X.here C.1 rfl (hb C.2.2.1 hd) hl q) nx
theorem G.lloadN (C : Cx p s m meth c Z y bytes maxL ret) {j : Fin 4} {v : Int64} (hd : decode bytes pc = .ok (.lload_n j, 1)) (hl : Ls[j.val]? = some (.val (.long v))) (hp : pc + 1 = pc') (nx : G p l e R s m args below meth c n0 P h k n (mkF m pc' Ls (.long v :: S))) : G p l e R s m args below meth c n0 P h k n (mkF m pc Ls S) := by
  subst hp; exact G.pl (fun T locs X eT t q => XS.lloadN X.here C.1 rfl (hb C.2.2.1 hd) hl q) nx
theorem G.lload (C : Cx p s m meth c Z y bytes maxL ret) {j : Nat} {v : Int64} (hd : decode bytes pc = .ok (.lload j, 2)) (hl : Ls[j]? = some (.val (.long v))) (hp : pc + 2 = pc') (nx : G p l e R s m args below meth c n0 P h k n (mkF m pc' Ls (.long v :: S))) : G p l e R s m args below meth c n0 P h k n (mkF m pc Ls S) := by
  subst hp; exact G.pl (fun T locs X eT t q => XS.lload X.here C.1 rfl (hb C.2.2.1 hd) hl q) nx
theorem G.aloadN (C : Cx p s m meth c Z y bytes maxL ret) {j : Fin 4} {v : Value} (hd : decode bytes pc = .ok (.aload_n j, 1)) (hl : Ls[j.val]? = some (.val v)) (hv : v.isRef = true) (hp : pc + 1 = pc') (nx : G p l e R s m args below meth c n0 P h k n (mkF m pc' Ls (v :: S))) : G p l e R s m args below meth c n0 P h k n (mkF m pc Ls S) := by
  subst hp; exact G.pl (fun T locs X eT t q => XS.aloadN X.here C.1 rfl (hb C.2.2.1 hd) hl hv q) nx
theorem G.aload (C : Cx p s m meth c Z y bytes maxL ret) {j : Nat} {v : Value} (hd : decode bytes pc = .ok (.aload j, 2)) (hl : Ls[j]? = some (.val v)) (hv : v.isRef = true) (hp : pc + 2 = pc') (nx : G p l e R s m args below meth c n0 P h k n (mkF m pc' Ls (v :: S))) : G p l e R s m args below meth c n0 P h k n (mkF m pc Ls S) := by
  subst hp; exact G.pl (fun T locs X eT t q => XS.aload X.here C.1 rfl (hb C.2.2.1 hd) hl hv q) nx
theorem G.istoreN (C : Cx p s m meth c Z y bytes maxL ret) {j : Fin 4} {v : Int32} {Ls' : Array Slot} (hd : decode bytes pc = .ok (.istore_n j, 1)) (hl : storeLocals Ls j.val (.int v) = some Ls') (hp : pc + 1 = pc') (nx : G p l e R s m args below meth c n0 P h k n (mkF m pc' Ls' S)) : G p l e R s m args below meth c n0 P h k n (mkF m pc Ls (.int v :: S)) := by
  subst hp; exact G.pl (fun T locs X eT t q => XS.istoreN X.here C.1 rfl (hb C.2.2.1 hd) rfl hl q) nx
theorem G.istore (C : Cx p s m meth c Z y bytes maxL ret) {j : Nat} {v : Int32} {Ls' : Array Slot} (hd : decode bytes pc = .ok (.istore j, 2)) (hl : storeLocals Ls j (.int v) = some Ls') (hp : pc + 2 = pc') (nx : G p l e R s m args below meth c n0 P h k n (mkF m pc' Ls' S)) : G p l e R s m args below meth c n0 P h k n (mkF m pc Ls (.int v :: S)) := by
  subst hp; exact G.pl (fun T locs X eT t q => XS.istore X.here C.1 rfl (hb C.2.2.1 hd) rfl hl q) nx
theorem G.lstoreN (C : Cx p s m meth c Z y bytes maxL ret) {j : Fin 4} {v : Int64} {Ls' : Array Slot} (hd : decode bytes pc = .ok (.lstore_n j, 1)) (hl : storeLocals Ls j.val (.long v) = some Ls') (hp : pc + 1 = pc') (nx : G p l e R s m args below meth c n0 P h k n (mkF m pc' Ls' S)) : G p l e R s m args below meth c n0 P h k n (mkF m pc Ls (.long v :: S)) := by
  subst hp; exact G.pl (fun T locs X eT t q => XS.lstoreN X.here C.1 rfl (hb C.2.2.1 hd) rfl hl q) nx
theorem G.lstore (C : Cx p s m meth c Z y bytes maxL ret) {j : Nat} {v : Int64} {Ls' : Array Slot} (hd : decode bytes pc = .ok (.lstore j, 2)) (hl : storeLocals Ls j (.long v) = some Ls') (hp : pc + 2 = pc') (nx : G p l e R s m args below meth c n0 P h k n (mkF m pc' Ls' S)) : G p l e R s m args below meth c n0 P h k n (mkF m pc Ls (.long v :: S)) := by
  subst hp; exact G.pl (fun T locs X eT t q => XS.lstore X.here C.1 rfl (hb C.2.2.1 hd) rfl hl q) nx
theorem G.astoreN (C : Cx p s m meth c Z y bytes maxL ret) {j : Fin 4} {v : Value} {Ls' : Array Slot} (hd : decode bytes pc = .ok (.astore_n j, 1)) (hv : v.isRef = true) (hl : storeLocals Ls j.val v = some Ls') (hp : pc + 1 = pc') (nx : G p l e R s m args below meth c n0 P h k n (mkF m pc' Ls' S)) : G p l e R s m args below meth c n0 P h k n (mkF m pc Ls (v :: S)) := by
  subst hp; exact G.pl (fun T locs X eT t q => XS.astoreN X.here C.1 rfl (hb C.2.2.1 hd) rfl hv hl q) nx
theorem G.astore (C : Cx p s m meth c Z y bytes maxL ret) {j : Nat} {v : Value} {Ls' : Array Slot} (hd : decode bytes pc = .ok (.astore j, 2)) (hv : v.isRef = true) (hl : storeLocals Ls j v = some Ls') (hp : pc + 2 = pc') (nx : G p l e R s m args below meth c n0 P h k n (mkF m pc' Ls' S)) : G p l e R s m args below meth c n0 P h k n (mkF m pc Ls (v :: S)) := by
  subst hp; exact G.pl (fun T locs X eT t q => XS.astore X.here C.1 rfl (hb C.2.2.1 hd) rfl hv hl q) nx
theorem G.iconst (C : Cx p s m meth c Z y bytes maxL ret) {i : Int} {v : Int32} (hd : decode bytes pc = .ok (.iconst i, 1)) (hv : Int32.ofInt i = v) (hp : pc + 1 = pc') (nx : G p l e R s m args below meth c n0 P h k n (mkF m pc' Ls (.int v :: S))) : G p l e R s m args below meth c n0 P h k n (mkF m pc Ls S) := by
  subst hp hv; exact G.pl (fun T locs X eT t q => XS.iconst X.here C.1 rfl (hb C.2.2.1 hd) q) nx
theorem G.bipush (C : Cx p s m meth c Z y bytes maxL ret) {i : Int} {v : Int32} (hd : decode bytes pc = .ok (.bipush i, 2)) (hv : (Int8.ofInt i).toInt32 = v) (hp : pc + 2 = pc') (nx : G p l e R s m args below meth c n0 P h k n (mkF m pc' Ls (.int v :: S))) : G p l e R s m args below meth c n0 P h k n (mkF m pc Ls S) := by
  subst hp hv; exact G.pl (fun T locs X eT t q => XS.bipush X.here C.1 rfl (hb C.2.2.1 hd) q) nx
theorem G.sipush (C : Cx p s m meth c Z y bytes maxL ret) {i : Int} {v : Int32} (hd : decode bytes pc = .ok (.sipush i, 3)) (hv : (Int16.ofInt i).toInt32 = v) (hp : pc + 3 = pc') (nx : G p l e R s m args below meth c n0 P h k n (mkF m pc' Ls (.int v :: S))) : G p l e R s m args below meth c n0 P h k n (mkF m pc Ls S) := by
  subst hp hv; exact G.pl (fun T locs X eT t q => XS.sipush X.here C.1 rfl (hb C.2.2.1 hd) q) nx
theorem G.lconst (C : Cx p s m meth c Z y bytes maxL ret) {j : Fin 2} {v : Int64} (hd : decode bytes pc = .ok (.lconst j, 1)) (hv : Int64.ofNat j = v) (hp : pc + 1 = pc') (nx : G p l e R s m args below meth c n0 P h k n (mkF m pc' Ls (.long v :: S))) : G p l e R s m args below meth c n0 P h k n (mkF m pc Ls S) := by
  subst hp hv; exact G.pl (fun T locs X eT t q => XS.lconst X.here C.1 rfl (hb C.2.2.1 hd) q) nx
theorem G.aconst_null (C : Cx p s m meth c Z y bytes maxL ret) (hd : decode bytes pc = .ok (.aconst_null, 1)) (hp : pc + 1 = pc') (nx : G p l e R s m args below meth c n0 P h k n (mkF m pc' Ls (.null :: S))) : G p l e R s m args below meth c n0 P h k n (mkF m pc Ls S) := by
  subst hp; exact G.pl (fun T locs X eT t q => XS.aconstNull X.here C.1 rfl (hb C.2.2.1 hd) q) nx
theorem G.ldcI (C : Cx p s m meth c Z y bytes maxL ret) {ix : Nat} {v : Int32} (w : (Jvm.Cond.constant y.cls ix v).before a0 Z = true) (hd : decode bytes pc = .ok (.ldc ix, 2)) (hp : pc + 2 = pc') (nx : G p l e R s m args below meth c n0 P h k n (mkF m pc' Ls (.int v :: S))) : G p l e R s m args below meth c n0 P h k n (mkF m pc Ls S) := by
  subst hp; exact G.pl (fun T locs X eT t q => X.ldcInt C.1 C.2.2.2.2.1 (mvT C.2.1 w) (g := mkF m pc Ls S) rfl (hb C.2.2.1 hd) t q) nx
theorem G.ldcW (C : Cx p s m meth c Z y bytes maxL ret) {ix : Nat} {v : Int32} (w : (Jvm.Cond.constant y.cls ix v).before a0 Z = true) (hd : decode bytes pc = .ok (.ldc_w ix, 3)) (hp : pc + 3 = pc') (nx : G p l e R s m args below meth c n0 P h k n (mkF m pc' Ls (.int v :: S))) : G p l e R s m args below meth c n0 P h k n (mkF m pc Ls S) := by
  subst hp; exact G.pl (fun T locs X eT t q => X.ldcwInt C.1 C.2.2.2.2.1 (mvT C.2.1 w) (g := mkF m pc Ls S) rfl (hb C.2.2.1 hd) t q) nx
theorem G.ldcJ (C : Cx p s m meth c Z y bytes maxL ret) {ix : Nat} {v : Int64} (w : (Jvm.Cond.constantLong y.cls ix v).before a0 Z = true) (hd : decode bytes pc = .ok (.ldc2_w ix, 3)) (hp : pc + 3 = pc') (nx : G p l e R s m args below meth c n0 P h k n (mkF m pc' Ls (.long v :: S))) : G p l e R s m args below meth c n0 P h k n (mkF m pc Ls S) := by
  subst hp; exact G.pl (fun T locs X eT t q => X.ldc2Long C.1 C.2.2.2.2.1 (mvT C.2.1 w) (g := mkF m pc Ls S) rfl (hb C.2.2.1 hd) t q) nx
theorem G.iadd (C : Cx p s m meth c Z y bytes maxL ret) {x z : Int32} (hd : decode bytes pc = .ok (.iadd, 1))  (hp : pc + 1 = pc') (nx : G p l e R s m args below meth c n0 P h k n (mkF m pc' Ls (.int (x + z) :: S))) : G p l e R s m args below meth c n0 P h k n (mkF m pc Ls (.int z :: .int x :: S)) := by
  subst hp; exact G.pl (fun T locs X eT t q => XS.iadd X.here C.1 rfl (hb C.2.2.1 hd) rfl q) nx
theorem G.ladd (C : Cx p s m meth c Z y bytes maxL ret) {x z : Int64} (hd : decode bytes pc = .ok (.ladd, 1))  (hp : pc + 1 = pc') (nx : G p l e R s m args below meth c n0 P h k n (mkF m pc' Ls (.long (x + z) :: S))) : G p l e R s m args below meth c n0 P h k n (mkF m pc Ls (.long z :: .long x :: S)) := by
  subst hp; exact G.pl (fun T locs X eT t q => XS.ladd X.here C.1 rfl (hb C.2.2.1 hd) rfl q) nx
theorem G.isub (C : Cx p s m meth c Z y bytes maxL ret) {x z : Int32} (hd : decode bytes pc = .ok (.isub, 1))  (hp : pc + 1 = pc') (nx : G p l e R s m args below meth c n0 P h k n (mkF m pc' Ls (.int (x - z) :: S))) : G p l e R s m args below meth c n0 P h k n (mkF m pc Ls (.int z :: .int x :: S)) := by
  subst hp; exact G.pl (fun T locs X eT t q => XS.isub X.here C.1 rfl (hb C.2.2.1 hd) rfl q) nx
theorem G.lsub (C : Cx p s m meth c Z y bytes maxL ret) {x z : Int64} (hd : decode bytes pc = .ok (.lsub, 1))  (hp : pc + 1 = pc') (nx : G p l e R s m args below meth c n0 P h k n (mkF m pc' Ls (.long (x - z) :: S))) : G p l e R s m args below meth c n0 P h k n (mkF m pc Ls (.long z :: .long x :: S)) := by
  subst hp; exact G.pl (fun T locs X eT t q => XS.lsub X.here C.1 rfl (hb C.2.2.1 hd) rfl q) nx
theorem G.imul (C : Cx p s m meth c Z y bytes maxL ret) {x z : Int32} (hd : decode bytes pc = .ok (.imul, 1))  (hp : pc + 1 = pc') (nx : G p l e R s m args below meth c n0 P h k n (mkF m pc' Ls (.int (x * z) :: S))) : G p l e R s m args below meth c n0 P h k n (mkF m pc Ls (.int z :: .int x :: S)) := by
  subst hp; exact G.pl (fun T locs X eT t q => XS.imul X.here C.1 rfl (hb C.2.2.1 hd) rfl q) nx
theorem G.lmul (C : Cx p s m meth c Z y bytes maxL ret) {x z : Int64} (hd : decode bytes pc = .ok (.lmul, 1))  (hp : pc + 1 = pc') (nx : G p l e R s m args below meth c n0 P h k n (mkF m pc' Ls (.long (x * z) :: S))) : G p l e R s m args below meth c n0 P h k n (mkF m pc Ls (.long z :: .long x :: S)) := by
  subst hp; exact G.pl (fun T locs X eT t q => XS.lmul X.here C.1 rfl (hb C.2.2.1 hd) rfl q) nx
theorem G.iand (C : Cx p s m meth c Z y bytes maxL ret) {x z : Int32} (hd : decode bytes pc = .ok (.iand, 1))  (hp : pc + 1 = pc') (nx : G p l e R s m args below meth c n0 P h k n (mkF m pc' Ls (.int (x &&& z) :: S))) : G p l e R s m args below meth c n0 P h k n (mkF m pc Ls (.int z :: .int x :: S)) := by
  subst hp; exact G.pl (fun T locs X eT t q => XS.iand X.here C.1 rfl (hb C.2.2.1 hd) rfl q) nx
theorem G.land (C : Cx p s m meth c Z y bytes maxL ret) {x z : Int64} (hd : decode bytes pc = .ok (.land, 1))  (hp : pc + 1 = pc') (nx : G p l e R s m args below meth c n0 P h k n (mkF m pc' Ls (.long (x &&& z) :: S))) : G p l e R s m args below meth c n0 P h k n (mkF m pc Ls (.long z :: .long x :: S)) := by
  subst hp; exact G.pl (fun T locs X eT t q => XS.land X.here C.1 rfl (hb C.2.2.1 hd) rfl q) nx
theorem G.ior (C : Cx p s m meth c Z y bytes maxL ret) {x z : Int32} (hd : decode bytes pc = .ok (.ior, 1))  (hp : pc + 1 = pc') (nx : G p l e R s m args below meth c n0 P h k n (mkF m pc' Ls (.int (x ||| z) :: S))) : G p l e R s m args below meth c n0 P h k n (mkF m pc Ls (.int z :: .int x :: S)) := by
  subst hp; exact G.pl (fun T locs X eT t q => XS.ior X.here C.1 rfl (hb C.2.2.1 hd) rfl q) nx
theorem G.lor (C : Cx p s m meth c Z y bytes maxL ret) {x z : Int64} (hd : decode bytes pc = .ok (.lor, 1))  (hp : pc + 1 = pc') (nx : G p l e R s m args below meth c n0 P h k n (mkF m pc' Ls (.long (x ||| z) :: S))) : G p l e R s m args below meth c n0 P h k n (mkF m pc Ls (.long z :: .long x :: S)) := by
  subst hp; exact G.pl (fun T locs X eT t q => XS.lor X.here C.1 rfl (hb C.2.2.1 hd) rfl q) nx
theorem G.ixor (C : Cx p s m meth c Z y bytes maxL ret) {x z : Int32} (hd : decode bytes pc = .ok (.ixor, 1))  (hp : pc + 1 = pc') (nx : G p l e R s m args below meth c n0 P h k n (mkF m pc' Ls (.int (x ^^^ z) :: S))) : G p l e R s m args below meth c n0 P h k n (mkF m pc Ls (.int z :: .int x :: S)) := by
  subst hp; exact G.pl (fun T locs X eT t q => XS.ixor X.here C.1 rfl (hb C.2.2.1 hd) rfl q) nx
theorem G.lxor (C : Cx p s m meth c Z y bytes maxL ret) {x z : Int64} (hd : decode bytes pc = .ok (.lxor, 1))  (hp : pc + 1 = pc') (nx : G p l e R s m args below meth c n0 P h k n (mkF m pc' Ls (.long (x ^^^ z) :: S))) : G p l e R s m args below meth c n0 P h k n (mkF m pc Ls (.long z :: .long x :: S)) := by
  subst hp; exact G.pl (fun T locs X eT t q => XS.lxor X.here C.1 rfl (hb C.2.2.1 hd) rfl q) nx
theorem G.idiv (C : Cx p s m meth c Z y bytes maxL ret) {x z : Int32} (hd : decode bytes pc = .ok (.idiv, 1)) (hz : z ≠ 0) (hp : pc + 1 = pc') (nx : G p l e R s m args below meth c n0 P h k n (mkF m pc' Ls (.int (x / z) :: S))) : G p l e R s m args below meth c n0 P h k n (mkF m pc Ls (.int z :: .int x :: S)) := by
  subst hp; exact G.pl (fun T locs X eT t q => XS.idiv X.here C.1 rfl (hb C.2.2.1 hd) rfl hz q) nx
theorem G.irem (C : Cx p s m meth c Z y bytes maxL ret) {x z : Int32} (hd : decode bytes pc = .ok (.irem, 1)) (hz : z ≠ 0) (hp : pc + 1 = pc') (nx : G p l e R s m args below meth c n0 P h k n (mkF m pc' Ls (.int (x % z) :: S))) : G p l e R s m args below meth c n0 P h k n (mkF m pc Ls (.int z :: .int x :: S)) := by
  subst hp; exact G.pl (fun T locs X eT t q => iremM X C.1 rfl (hb C.2.2.1 hd) rfl hz q) nx
theorem G.ldiv (C : Cx p s m meth c Z y bytes maxL ret) {x z : Int64} (hd : decode bytes pc = .ok (.ldiv, 1)) (hz : z ≠ 0) (hp : pc + 1 = pc') (nx : G p l e R s m args below meth c n0 P h k n (mkF m pc' Ls (.long (x / z) :: S))) : G p l e R s m args below meth c n0 P h k n (mkF m pc Ls (.long z :: .long x :: S)) := by
  subst hp; exact G.pl (fun T locs X eT t q => XS.ldiv X.here C.1 rfl (hb C.2.2.1 hd) rfl hz q) nx
theorem G.lrem (C : Cx p s m meth c Z y bytes maxL ret) {x z : Int64} (hd : decode bytes pc = .ok (.lrem, 1)) (hz : z ≠ 0) (hp : pc + 1 = pc') (nx : G p l e R s m args below meth c n0 P h k n (mkF m pc' Ls (.long (x % z) :: S))) : G p l e R s m args below meth c n0 P h k n (mkF m pc Ls (.long z :: .long x :: S)) := by
  subst hp; exact G.pl (fun T locs X eT t q => XS.lrem X.here C.1 rfl (hb C.2.2.1 hd) rfl hz (by rw [lrem_mod]; exact q)) nx
theorem G.ineg (C : Cx p s m meth c Z y bytes maxL ret) {x : Int32} (hd : decode bytes pc = .ok (.ineg, 1))  (hp : pc + 1 = pc') (nx : G p l e R s m args below meth c n0 P h k n (mkF m pc' Ls (.int (-x) :: S))) : G p l e R s m args below meth c n0 P h k n (mkF m pc Ls (.int x :: S)) := by
  subst hp; exact G.pl (fun T locs X eT t q => XS.ineg X.here C.1 rfl (hb C.2.2.1 hd) rfl q) nx
theorem G.lneg (C : Cx p s m meth c Z y bytes maxL ret) {x : Int64} (hd : decode bytes pc = .ok (.lneg, 1))  (hp : pc + 1 = pc') (nx : G p l e R s m args below meth c n0 P h k n (mkF m pc' Ls (.long (-x) :: S))) : G p l e R s m args below meth c n0 P h k n (mkF m pc Ls (.long x :: S)) := by
  subst hp; exact G.pl (fun T locs X eT t q => XS.lneg X.here C.1 rfl (hb C.2.2.1 hd) rfl q) nx
theorem G.i2l (C : Cx p s m meth c Z y bytes maxL ret) {x : Int32} (hd : decode bytes pc = .ok (.i2l, 1))  (hp : pc + 1 = pc') (nx : G p l e R s m args below meth c n0 P h k n (mkF m pc' Ls (.long (x.toInt64) :: S))) : G p l e R s m args below meth c n0 P h k n (mkF m pc Ls (.int x :: S)) := by
  subst hp; exact G.pl (fun T locs X eT t q => XS.i2l X.here C.1 rfl (hb C.2.2.1 hd) rfl q) nx
theorem G.l2i (C : Cx p s m meth c Z y bytes maxL ret) {x : Int64} (hd : decode bytes pc = .ok (.l2i, 1))  (hp : pc + 1 = pc') (nx : G p l e R s m args below meth c n0 P h k n (mkF m pc' Ls (.int (x.toInt32) :: S))) : G p l e R s m args below meth c n0 P h k n (mkF m pc Ls (.long x :: S)) := by
  subst hp; exact G.pl (fun T locs X eT t q => XS.l2i X.here C.1 rfl (hb C.2.2.1 hd) rfl q) nx
theorem G.i2b (C : Cx p s m meth c Z y bytes maxL ret) {x : Int32} (hd : decode bytes pc = .ok (.i2b, 1))  (hp : pc + 1 = pc') (nx : G p l e R s m args below meth c n0 P h k n (mkF m pc' Ls (.int (x.toInt8.toInt32) :: S))) : G p l e R s m args below meth c n0 P h k n (mkF m pc Ls (.int x :: S)) := by
  subst hp; exact G.pl (fun T locs X eT t q => XS.i2b X.here C.1 rfl (hb C.2.2.1 hd) rfl q) nx
theorem G.i2c (C : Cx p s m meth c Z y bytes maxL ret) {x : Int32} (hd : decode bytes pc = .ok (.i2c, 1))  (hp : pc + 1 = pc') (nx : G p l e R s m args below meth c n0 P h k n (mkF m pc' Ls (.int (x.toUInt32.toUInt16.toUInt32.toInt32) :: S))) : G p l e R s m args below meth c n0 P h k n (mkF m pc Ls (.int x :: S)) := by
  subst hp; exact G.pl (fun T locs X eT t q => XS.i2c X.here C.1 rfl (hb C.2.2.1 hd) rfl q) nx
theorem G.i2s (C : Cx p s m meth c Z y bytes maxL ret) {x : Int32} (hd : decode bytes pc = .ok (.i2s, 1))  (hp : pc + 1 = pc') (nx : G p l e R s m args below meth c n0 P h k n (mkF m pc' Ls (.int (x.toInt16.toInt32) :: S))) : G p l e R s m args below meth c n0 P h k n (mkF m pc Ls (.int x :: S)) := by
  subst hp; exact G.pl (fun T locs X eT t q => XS.i2s X.here C.1 rfl (hb C.2.2.1 hd) rfl q) nx
theorem G.ishl (C : Cx p s m meth c Z y bytes maxL ret) {x z : Int32} (hd : decode bytes pc = .ok (.ishl, 1))  (hp : pc + 1 = pc') (nx : G p l e R s m args below meth c n0 P h k n (mkF m pc' Ls (.int (x <<< (z &&& 31)) :: S))) : G p l e R s m args below meth c n0 P h k n (mkF m pc Ls (.int z :: .int x :: S)) := by
  subst hp; exact G.pl (fun T locs X eT t q => XS.ishl X.here C.1 rfl (hb C.2.2.1 hd) rfl q) nx
theorem G.ishr (C : Cx p s m meth c Z y bytes maxL ret) {x z : Int32} (hd : decode bytes pc = .ok (.ishr, 1))  (hp : pc + 1 = pc') (nx : G p l e R s m args below meth c n0 P h k n (mkF m pc' Ls (.int (x >>> (z &&& 31)) :: S))) : G p l e R s m args below meth c n0 P h k n (mkF m pc Ls (.int z :: .int x :: S)) := by
  subst hp; exact G.pl (fun T locs X eT t q => XS.ishr X.here C.1 rfl (hb C.2.2.1 hd) rfl q) nx
theorem G.iushr (C : Cx p s m meth c Z y bytes maxL ret) {x z : Int32} (hd : decode bytes pc = .ok (.iushr, 1))  (hp : pc + 1 = pc') (nx : G p l e R s m args below meth c n0 P h k n (mkF m pc' Ls (.int ((x.toUInt32 >>> (z &&& 31).toUInt32).toInt32) :: S))) : G p l e R s m args below meth c n0 P h k n (mkF m pc Ls (.int z :: .int x :: S)) := by
  subst hp; exact G.pl (fun T locs X eT t q => XS.iushr X.here C.1 rfl (hb C.2.2.1 hd) rfl q) nx
theorem G.lshl (C : Cx p s m meth c Z y bytes maxL ret) {x : Int64} {z : Int32} (hd : decode bytes pc = .ok (.lshl, 1))  (hp : pc + 1 = pc') (nx : G p l e R s m args below meth c n0 P h k n (mkF m pc' Ls (.long (x <<< (z &&& 0x3f).toInt64) :: S))) : G p l e R s m args below meth c n0 P h k n (mkF m pc Ls (.int z :: .long x :: S)) := by
  subst hp; exact G.pl (fun T locs X eT t q => XS.lshl X.here C.1 rfl (hb C.2.2.1 hd) rfl q) nx
theorem G.lshr (C : Cx p s m meth c Z y bytes maxL ret) {x : Int64} {z : Int32} (hd : decode bytes pc = .ok (.lshr, 1))  (hp : pc + 1 = pc') (nx : G p l e R s m args below meth c n0 P h k n (mkF m pc' Ls (.long (x >>> (z &&& 0x3f).toInt64) :: S))) : G p l e R s m args below meth c n0 P h k n (mkF m pc Ls (.int z :: .long x :: S)) := by
  subst hp; exact G.pl (fun T locs X eT t q => XS.lshr X.here C.1 rfl (hb C.2.2.1 hd) rfl q) nx
theorem G.lushr (C : Cx p s m meth c Z y bytes maxL ret) {x : Int64} {z : Int32} (hd : decode bytes pc = .ok (.lushr, 1))  (hp : pc + 1 = pc') (nx : G p l e R s m args below meth c n0 P h k n (mkF m pc' Ls (.long ((x.toUInt64 >>> (z &&& 0x3f).toInt64.toUInt64).toInt64) :: S))) : G p l e R s m args below meth c n0 P h k n (mkF m pc Ls (.int z :: .long x :: S)) := by
  subst hp; exact G.pl (fun T locs X eT t q => XS.lushr X.here C.1 rfl (hb C.2.2.1 hd) rfl q) nx
theorem G.lcmp (C : Cx p s m meth c Z y bytes maxL ret) {x z : Int64} (hd : decode bytes pc = .ok (.lcmp, 1))  (hp : pc + 1 = pc') (nx : G p l e R s m args below meth c n0 P h k n (mkF m pc' Ls (.int (lcmpW x z) :: S))) : G p l e R s m args below meth c n0 P h k n (mkF m pc Ls (.long z :: .long x :: S)) := by
  subst hp; exact G.pl (fun T locs X eT t q => XS.lcmp X.here C.1 rfl (hb C.2.2.1 hd) rfl q) nx
theorem G.dup (C : Cx p s m meth c Z y bytes maxL ret) {v : Value} (hd : decode bytes pc = .ok (.dup, 1)) (hv : v.category = 1) (hp : pc + 1 = pc') (nx : G p l e R s m args below meth c n0 P h k n (mkF m pc' Ls (v :: v :: S))) : G p l e R s m args below meth c n0 P h k n (mkF m pc Ls (v :: S)) := by
  subst hp; exact G.pl (fun T locs X eT t q => XS.dup X.here C.1 rfl (hb C.2.2.1 hd) rfl hv q) nx
theorem G.pop (C : Cx p s m meth c Z y bytes maxL ret) {v : Value} (hd : decode bytes pc = .ok (.pop, 1)) (hv : v.category = 1) (hp : pc + 1 = pc') (nx : G p l e R s m args below meth c n0 P h k n (mkF m pc' Ls S)) : G p l e R s m args below meth c n0 P h k n (mkF m pc Ls (v :: S)) := by
  subst hp; exact G.pl (fun T locs X eT t q => XS.pop X.here C.1 rfl (hb C.2.2.1 hd) rfl hv q) nx
theorem G.dupX1 (C : Cx p s m meth c Z y bytes maxL ret) {v u : Value} (hd : decode bytes pc = .ok (.dup_x1, 1)) (hv : v.category = 1) (hu : u.category = 1) (hp : pc + 1 = pc') (nx : G p l e R s m args below meth c n0 P h k n (mkF m pc' Ls (v :: u :: v :: S))) : G p l e R s m args below meth c n0 P h k n (mkF m pc Ls (v :: u :: S)) := by
  subst hp; exact G.pl (fun T locs X eT t q => XS.dupX1 X.here C.1 rfl (hb C.2.2.1 hd) rfl hv hu q) nx
theorem G.iinc (C : Cx p s m meth c Z y bytes maxL ret) {j : Nat} {i : Int} {v z : Int32} {Ls' : Array Slot} (hd : decode bytes pc = .ok (.iinc j i, 3)) (hl : Ls[j]? = some (.val (.int v))) (hz : Int32.ofInt i = z) (hl' : storeLocals Ls j (.int (v + z)) = some Ls') (hp : pc + 3 = pc') (nx : G p l e R s m args below meth c n0 P h k n (mkF m pc' Ls' S)) : G p l e R s m args below meth c n0 P h k n (mkF m pc Ls S) := by
  subst hp hz; exact G.pl (fun T locs X eT t q => XS.iinc X.here C.1 rfl (hb C.2.2.1 hd) hl hl' q) nx
theorem G.goto (C : Cx p s m meth c Z y bytes maxL ret) {o : Int} (hd : decode bytes pc = .ok (.goto o, 3)) (ho : 0 ≤ (pc : Int) + o) (hp : ((pc : Int) + o).toNat = pc') (nx : G p l e R s m args below meth c n0 P h k n (mkF m pc' Ls S)) : G p l e R s m args below meth c n0 P h k n (mkF m pc Ls S) :=
  G.pl (fun T locs X eT t q => XS.goto X.here C.1 rfl (pc0 := pc) (pc' := pc') rfl (hb C.2.2.1 hd) ho hp q) nx
theorem G.ifc (C : Cx p s m meth c Z y bytes maxL ret) {cd : ClassFile.Cond} {o : Int} {x : Int32} (hd : decode bytes pc = .ok (.ifCond cd o, 3)) (ho : 0 ≤ (pc : Int) + o) (ht : ((pc : Int) + o).toNat = pt) (hp : pc + 3 = pc') (yes : if_icmp.holds cd x 0 = true → G p l e R s m args below meth c n0 P h k n (mkF m pt Ls S)) (no : if_icmp.holds cd x 0 = false → G p l e R s m args below meth c n0 P h k n (mkF m pc' Ls S)) : G p l e R s m args below meth c n0 P h k n (mkF m pc Ls (.int x :: S)) := by
  subst hp
  cases hc : if_icmp.holds cd x 0 with
  | true => exact G.pl (fun T locs X eT t q => XS.ifYes X.here C.1 rfl (pc0 := pc) (pc' := pt) rfl (hb C.2.2.1 hd) rfl ((if0 _ _).trans hc) ho ht q) (yes hc)
  | false => exact G.pl (fun T locs X eT t q => XS.ifNo X.here C.1 rfl (hb C.2.2.1 hd) rfl ((if0 _ _).trans hc) q) (no hc)
theorem G.icmp (C : Cx p s m meth c Z y bytes maxL ret) {cd : ClassFile.Cond} {o : Int} {x z : Int32} (hd : decode bytes pc = .ok (.if_icmp cd o, 3)) (ho : 0 ≤ (pc : Int) + o) (ht : ((pc : Int) + o).toNat = pt) (hp : pc + 3 = pc') (yes : if_icmp.holds cd x z = true → G p l e R s m args below meth c n0 P h k n (mkF m pt Ls S)) (no : if_icmp.holds cd x z = false → G p l e R s m args below meth c n0 P h k n (mkF m pc' Ls S)) : G p l e R s m args below meth c n0 P h k n (mkF m pc Ls (.int z :: .int x :: S)) := by
  subst hp
  cases hc : if_icmp.holds cd x z with
  | true => exact G.pl (fun T locs X eT t q => XS.icmpYes X.here C.1 rfl (pc0 := pc) (pc' := pt) rfl (hb C.2.2.1 hd) rfl hc ho ht q) (yes hc)
  | false => exact G.pl (fun T locs X eT t q => XS.icmpNo X.here C.1 rfl (hb C.2.2.1 hd) rfl hc q) (no hc)
theorem G.ifeq (C : Cx p s m meth c Z y bytes maxL ret) {o : Int} {x : Int32} (hd : decode bytes pc = .ok (.ifCond .eq o, 3)) (ho : 0 ≤ (pc : Int) + o) (ht : ((pc : Int) + o).toNat = pt) (hp : pc + 3 = pc') (yes : x = 0 → G p l e R s m args below meth c n0 P h k n (mkF m pt Ls S)) (no : ¬ (x = 0) → G p l e R s m args below meth c n0 P h k n (mkF m pc' Ls S)) : G p l e R s m args below meth c n0 P h k n (mkF m pc Ls (.int x :: S)) :=
  G.ifc C hd ho ht hp (fun q => yes (by simpa [if_icmp.holds] using q)) (fun q => no (by simpa [if_icmp.holds] using q))
theorem G.iceq (C : Cx p s m meth c Z y bytes maxL ret) {o : Int} {x z : Int32} (hd : decode bytes pc = .ok (.if_icmp .eq o, 3)) (ho : 0 ≤ (pc : Int) + o) (ht : ((pc : Int) + o).toNat = pt) (hp : pc + 3 = pc') (yes : x = z → G p l e R s m args below meth c n0 P h k n (mkF m pt Ls S)) (no : ¬ (x = z) → G p l e R s m args below meth c n0 P h k n (mkF m pc' Ls S)) : G p l e R s m args below meth c n0 P h k n (mkF m pc Ls (.int z :: .int x :: S)) :=
  G.icmp C hd ho ht hp (fun q => yes (by simpa [if_icmp.holds] using q)) (fun q => no (by simpa [if_icmp.holds] using q))
theorem G.lfeq (C : Cx p s m meth c Z y bytes maxL ret) {o : Int} {x z : Int64} (hd : decode bytes pc = .ok (.ifCond .eq o, 3)) (ho : 0 ≤ (pc : Int) + o) (ht : ((pc : Int) + o).toNat = pt) (hp : pc + 3 = pc') (yes : x = z → G p l e R s m args below meth c n0 P h k n (mkF m pt Ls S)) (no : ¬ (x = z) → G p l e R s m args below meth c n0 P h k n (mkF m pc' Ls S)) : G p l e R s m args below meth c n0 P h k n (mkF m pc Ls (.int (lcmpW x z) :: S)) :=
  G.ifeq C hd ho ht hp (fun q => yes ((lw_eq x z).mp q)) (fun q => no (fun r => q ((lw_eq x z).mpr r)))
theorem G.ifne (C : Cx p s m meth c Z y bytes maxL ret) {o : Int} {x : Int32} (hd : decode bytes pc = .ok (.ifCond .ne o, 3)) (ho : 0 ≤ (pc : Int) + o) (ht : ((pc : Int) + o).toNat = pt) (hp : pc + 3 = pc') (yes : ¬ (x = 0) → G p l e R s m args below meth c n0 P h k n (mkF m pt Ls S)) (no : x = 0 → G p l e R s m args below meth c n0 P h k n (mkF m pc' Ls S)) : G p l e R s m args below meth c n0 P h k n (mkF m pc Ls (.int x :: S)) :=
  G.ifc C hd ho ht hp (fun q => yes (by simpa [if_icmp.holds] using q)) (fun q => no (by simpa [if_icmp.holds] using q))
theorem G.icne (C : Cx p s m meth c Z y bytes maxL ret) {o : Int} {x z : Int32} (hd : decode bytes pc = .ok (.if_icmp .ne o, 3)) (ho : 0 ≤ (pc : Int) + o) (ht : ((pc : Int) + o).toNat = pt) (hp : pc + 3 = pc') (yes : ¬ (x = z) → G p l e R s m args below meth c n0 P h k n (mkF m pt Ls S)) (no : x = z → G p l e R s m args below meth c n0 P h k n (mkF m pc' Ls S)) : G p l e R s m args below meth c n0 P h k n (mkF m pc Ls (.int z :: .int x :: S)) :=
  G.icmp C hd ho ht hp (fun q => yes (by simpa [if_icmp.holds] using q)) (fun q => no (by simpa [if_icmp.holds] using q))
theorem G.lfne (C : Cx p s m meth c Z y bytes maxL ret) {o : Int} {x z : Int64} (hd : decode bytes pc = .ok (.ifCond .ne o, 3)) (ho : 0 ≤ (pc : Int) + o) (ht : ((pc : Int) + o).toNat = pt) (hp : pc + 3 = pc') (yes : ¬ (x = z) → G p l e R s m args below meth c n0 P h k n (mkF m pt Ls S)) (no : x = z → G p l e R s m args below meth c n0 P h k n (mkF m pc' Ls S)) : G p l e R s m args below meth c n0 P h k n (mkF m pc Ls (.int (lcmpW x z) :: S)) :=
  G.ifne C hd ho ht hp (fun q => yes (fun r => q ((lw_eq x z).mpr r))) (fun q => no ((lw_eq x z).mp q))
theorem G.iflt (C : Cx p s m meth c Z y bytes maxL ret) {o : Int} {x : Int32} (hd : decode bytes pc = .ok (.ifCond .lt o, 3)) (ho : 0 ≤ (pc : Int) + o) (ht : ((pc : Int) + o).toNat = pt) (hp : pc + 3 = pc') (yes : x < 0 → G p l e R s m args below meth c n0 P h k n (mkF m pt Ls S)) (no : ¬ (x < 0) → G p l e R s m args below meth c n0 P h k n (mkF m pc' Ls S)) : G p l e R s m args below meth c n0 P h k n (mkF m pc Ls (.int x :: S)) :=
  G.ifc C hd ho ht hp (fun q => yes (by simpa [if_icmp.holds] using q)) (fun q => no (by simpa [if_icmp.holds] using q))
theorem G.iclt (C : Cx p s m meth c Z y bytes maxL ret) {o : Int} {x z : Int32} (hd : decode bytes pc = .ok (.if_icmp .lt o, 3)) (ho : 0 ≤ (pc : Int) + o) (ht : ((pc : Int) + o).toNat = pt) (hp : pc + 3 = pc') (yes : x < z → G p l e R s m args below meth c n0 P h k n (mkF m pt Ls S)) (no : ¬ (x < z) → G p l e R s m args below meth c n0 P h k n (mkF m pc' Ls S)) : G p l e R s m args below meth c n0 P h k n (mkF m pc Ls (.int z :: .int x :: S)) :=
  G.icmp C hd ho ht hp (fun q => yes (by simpa [if_icmp.holds] using q)) (fun q => no (by simpa [if_icmp.holds] using q))
theorem G.lflt (C : Cx p s m meth c Z y bytes maxL ret) {o : Int} {x z : Int64} (hd : decode bytes pc = .ok (.ifCond .lt o, 3)) (ho : 0 ≤ (pc : Int) + o) (ht : ((pc : Int) + o).toNat = pt) (hp : pc + 3 = pc') (yes : x < z → G p l e R s m args below meth c n0 P h k n (mkF m pt Ls S)) (no : ¬ (x < z) → G p l e R s m args below meth c n0 P h k n (mkF m pc' Ls S)) : G p l e R s m args below meth c n0 P h k n (mkF m pc Ls (.int (lcmpW x z) :: S)) :=
  G.iflt C hd ho ht hp (fun q => yes ((lw_lt x z).mp q)) (fun q => no (fun r => q ((lw_lt x z).mpr r)))
theorem G.ifge (C : Cx p s m meth c Z y bytes maxL ret) {o : Int} {x : Int32} (hd : decode bytes pc = .ok (.ifCond .ge o, 3)) (ho : 0 ≤ (pc : Int) + o) (ht : ((pc : Int) + o).toNat = pt) (hp : pc + 3 = pc') (yes : ¬ (x < 0) → G p l e R s m args below meth c n0 P h k n (mkF m pt Ls S)) (no : x < 0 → G p l e R s m args below meth c n0 P h k n (mkF m pc' Ls S)) : G p l e R s m args below meth c n0 P h k n (mkF m pc Ls (.int x :: S)) :=
  G.ifc C hd ho ht hp (fun q => yes (by simpa [if_icmp.holds] using q)) (fun q => no (by simpa [if_icmp.holds] using q))
theorem G.icge (C : Cx p s m meth c Z y bytes maxL ret) {o : Int} {x z : Int32} (hd : decode bytes pc = .ok (.if_icmp .ge o, 3)) (ho : 0 ≤ (pc : Int) + o) (ht : ((pc : Int) + o).toNat = pt) (hp : pc + 3 = pc') (yes : ¬ (x < z) → G p l e R s m args below meth c n0 P h k n (mkF m pt Ls S)) (no : x < z → G p l e R s m args below meth c n0 P h k n (mkF m pc' Ls S)) : G p l e R s m args below meth c n0 P h k n (mkF m pc Ls (.int z :: .int x :: S)) :=
  G.icmp C hd ho ht hp (fun q => yes (by simpa [if_icmp.holds] using q)) (fun q => no (by simpa [if_icmp.holds] using q))
theorem G.lfge (C : Cx p s m meth c Z y bytes maxL ret) {o : Int} {x z : Int64} (hd : decode bytes pc = .ok (.ifCond .ge o, 3)) (ho : 0 ≤ (pc : Int) + o) (ht : ((pc : Int) + o).toNat = pt) (hp : pc + 3 = pc') (yes : ¬ (x < z) → G p l e R s m args below meth c n0 P h k n (mkF m pt Ls S)) (no : x < z → G p l e R s m args below meth c n0 P h k n (mkF m pc' Ls S)) : G p l e R s m args below meth c n0 P h k n (mkF m pc Ls (.int (lcmpW x z) :: S)) :=
  G.ifge C hd ho ht hp (fun q => yes (fun r => q ((lw_lt x z).mpr r))) (fun q => no ((lw_lt x z).mp q))
theorem G.ifgt (C : Cx p s m meth c Z y bytes maxL ret) {o : Int} {x : Int32} (hd : decode bytes pc = .ok (.ifCond .gt o, 3)) (ho : 0 ≤ (pc : Int) + o) (ht : ((pc : Int) + o).toNat = pt) (hp : pc + 3 = pc') (yes : 0 < x → G p l e R s m args below meth c n0 P h k n (mkF m pt Ls S)) (no : ¬ (0 < x) → G p l e R s m args below meth c n0 P h k n (mkF m pc' Ls S)) : G p l e R s m args below meth c n0 P h k n (mkF m pc Ls (.int x :: S)) :=
  G.ifc C hd ho ht hp (fun q => yes (by simpa [if_icmp.holds] using q)) (fun q => no (by simpa [if_icmp.holds] using q))
theorem G.icgt (C : Cx p s m meth c Z y bytes maxL ret) {o : Int} {x z : Int32} (hd : decode bytes pc = .ok (.if_icmp .gt o, 3)) (ho : 0 ≤ (pc : Int) + o) (ht : ((pc : Int) + o).toNat = pt) (hp : pc + 3 = pc') (yes : z < x → G p l e R s m args below meth c n0 P h k n (mkF m pt Ls S)) (no : ¬ (z < x) → G p l e R s m args below meth c n0 P h k n (mkF m pc' Ls S)) : G p l e R s m args below meth c n0 P h k n (mkF m pc Ls (.int z :: .int x :: S)) :=
  G.icmp C hd ho ht hp (fun q => yes (by simpa [if_icmp.holds] using q)) (fun q => no (by simpa [if_icmp.holds] using q))
theorem G.lfgt (C : Cx p s m meth c Z y bytes maxL ret) {o : Int} {x z : Int64} (hd : decode bytes pc = .ok (.ifCond .gt o, 3)) (ho : 0 ≤ (pc : Int) + o) (ht : ((pc : Int) + o).toNat = pt) (hp : pc + 3 = pc') (yes : z < x → G p l e R s m args below meth c n0 P h k n (mkF m pt Ls S)) (no : ¬ (z < x) → G p l e R s m args below meth c n0 P h k n (mkF m pc' Ls S)) : G p l e R s m args below meth c n0 P h k n (mkF m pc Ls (.int (lcmpW x z) :: S)) :=
  G.ifgt C hd ho ht hp (fun q => yes ((lw_gt x z).mp q)) (fun q => no (fun r => q ((lw_gt x z).mpr r)))
theorem G.ifle (C : Cx p s m meth c Z y bytes maxL ret) {o : Int} {x : Int32} (hd : decode bytes pc = .ok (.ifCond .le o, 3)) (ho : 0 ≤ (pc : Int) + o) (ht : ((pc : Int) + o).toNat = pt) (hp : pc + 3 = pc') (yes : ¬ (0 < x) → G p l e R s m args below meth c n0 P h k n (mkF m pt Ls S)) (no : 0 < x → G p l e R s m args below meth c n0 P h k n (mkF m pc' Ls S)) : G p l e R s m args below meth c n0 P h k n (mkF m pc Ls (.int x :: S)) :=
  G.ifc C hd ho ht hp (fun q => yes (by simpa [if_icmp.holds] using q)) (fun q => no (by simpa [if_icmp.holds] using q))
theorem G.icle (C : Cx p s m meth c Z y bytes maxL ret) {o : Int} {x z : Int32} (hd : decode bytes pc = .ok (.if_icmp .le o, 3)) (ho : 0 ≤ (pc : Int) + o) (ht : ((pc : Int) + o).toNat = pt) (hp : pc + 3 = pc') (yes : ¬ (z < x) → G p l e R s m args below meth c n0 P h k n (mkF m pt Ls S)) (no : z < x → G p l e R s m args below meth c n0 P h k n (mkF m pc' Ls S)) : G p l e R s m args below meth c n0 P h k n (mkF m pc Ls (.int z :: .int x :: S)) :=
  G.icmp C hd ho ht hp (fun q => yes (by simpa [if_icmp.holds] using q)) (fun q => no (by simpa [if_icmp.holds] using q))
theorem G.lfle (C : Cx p s m meth c Z y bytes maxL ret) {o : Int} {x z : Int64} (hd : decode bytes pc = .ok (.ifCond .le o, 3)) (ho : 0 ≤ (pc : Int) + o) (ht : ((pc : Int) + o).toNat = pt) (hp : pc + 3 = pc') (yes : ¬ (z < x) → G p l e R s m args below meth c n0 P h k n (mkF m pt Ls S)) (no : z < x → G p l e R s m args below meth c n0 P h k n (mkF m pc' Ls S)) : G p l e R s m args below meth c n0 P h k n (mkF m pc Ls (.int (lcmpW x z) :: S)) :=
  G.ifle C hd ho ht hp (fun q => yes (fun r => q ((lw_gt x z).mpr r))) (fun q => no ((lw_gt x z).mp q))
/-- a Bool as the machine's int -/
def bi (b : Bool) : Int32 := if b then 1 else 0
theorem bi_t : bi true = 1 := rfl
theorem bi_f : bi false = 0 := rfl
theorem bi_inj {a b : Bool} : bi a = bi b ↔ a = b := by cases a <;> cases b <;> decide
theorem bi_zero {b : Bool} : bi b = 0 ↔ b = false := by cases b <;> decide
theorem bi_one {b : Bool} : bi b = 1 ↔ b = true := by cases b <;> decide
theorem bi_fit (b : Bool) : fits .boolean (.int (bi b)) = true := by cases b <;> rfl
theorem bi_nar (b : Bool) : narrow .boolean (.int (bi b)) = .int (bi b) := by cases b <;> rfl
theorem G.bfeq (C : Cx p s m meth c Z y bytes maxL ret) {o : Int} {b : Bool} (hd : decode bytes pc = .ok (.ifCond .eq o, 3)) (ho : 0 ≤ (pc : Int) + o) (ht : ((pc : Int) + o).toNat = pt) (hp : pc + 3 = pc') (yes : b = false → G p l e R s m args below meth c n0 P h k n (mkF m pt Ls S)) (no : b = true → G p l e R s m args below meth c n0 P h k n (mkF m pc' Ls S)) : G p l e R s m args below meth c n0 P h k n (mkF m pc Ls (.int (bi b) :: S)) :=
  G.ifeq C hd ho ht hp (fun q => yes (bi_zero.mp q)) (fun q => no (by cases b; exact absurd rfl q; rfl))
theorem G.bfne (C : Cx p s m meth c Z y bytes maxL ret) {o : Int} {b : Bool} (hd : decode bytes pc = .ok (.ifCond .ne o, 3)) (ho : 0 ≤ (pc : Int) + o) (ht : ((pc : Int) + o).toNat = pt) (hp : pc + 3 = pc') (yes : b = true → G p l e R s m args below meth c n0 P h k n (mkF m pt Ls S)) (no : b = false → G p l e R s m args below meth c n0 P h k n (mkF m pc' Ls S)) : G p l e R s m args below meth c n0 P h k n (mkF m pc Ls (.int (bi b) :: S)) :=
  G.ifne C hd ho ht hp (fun q => yes (by cases b; exact absurd rfl q; rfl)) (fun q => no (bi_zero.mp q))
theorem G.out {v : Option Value} (C : Cx p s m meth c Z y bytes maxL ret) (hv : ret = none → v = none) (hq : Q v h) (hk : k ≤ R.cells) (hn : n ≤ R.slots)
    (st : ∀ T locs fs, Stand p l e R s m args below meth c T locs k n → (∀ (f : JFrame) (acts : List Action), f.method = m → f.locked = none → f.entered = [] → (doReturn e (T.setTop f) acts v).1 = T.setFrames fs) → Steps p.tables e below (T.setTop f) (T.setFrames fs)) : G p l e R s m args below meth c n0 (Wst s R n0 Q) h k n f := fun T locs X eT N => by
  have hlk : meth.locks = false := C.2.2.2.2.2.2.2
  obtain ⟨fs, hr, hrun, hended, hW, hsame⟩ := X.leave (v := v) (fun q => hv (C.2.2.2.2.2.2.1.symm.trans q)) hlk
  exact ⟨_, _, st T locs fs X hr, hrun, hended, eT ▸ hq, locs, N, ⟨_, rfl⟩, hW, hsame.mono hk hn⟩
theorem G.retI (C : Cx p s m meth c Z y bytes maxL (some .int)) {z : Int32} (hd : decode bytes pc = .ok (.ireturn, 1)) (hk : k ≤ R.cells) (hn : n ≤ R.slots) (hq : Q (some (.int z)) h) : G p l e R s m args below meth c n0 (Wst s R n0 Q) h k n (mkF m pc Ls (.int z :: S)) :=
  G.out C (fun q => by cases q) hq hk hn fun T locs fs X hr => retOut X C.1 C.2.2.2.2.2.2.1 rfl (Or.inl ⟨rfl, Or.inl rfl, z, rfl⟩) (hb C.2.2.1 hd) hr
theorem G.retZ (C : Cx p s m meth c Z y bytes maxL (some .boolean)) {z : Int32} (hd : decode bytes pc = .ok (.ireturn, 1)) (hk : k ≤ R.cells) (hn : n ≤ R.slots) (hz : narrow .boolean (.int z) = .int z) (hq : Q (some (.int z)) h) : G p l e R s m args below meth c n0 (Wst s R n0 Q) h k n (mkF m pc Ls (.int z :: S)) :=
  G.out C (fun q => by cases q) hq hk hn fun T locs fs X hr => retOut X C.1 C.2.2.2.2.2.2.1 hz (Or.inl ⟨rfl, Or.inr (Or.inl rfl), z, rfl⟩) (hb C.2.2.1 hd) hr
theorem G.retB (C : Cx p s m meth c Z y bytes maxL (some .byte)) {z : Int32} (hd : decode bytes pc = .ok (.ireturn, 1)) (hk : k ≤ R.cells) (hn : n ≤ R.slots) (hz : narrow .byte (.int z) = .int z) (hq : Q (some (.int z)) h) : G p l e R s m args below meth c n0 (Wst s R n0 Q) h k n (mkF m pc Ls (.int z :: S)) :=
  G.out C (fun q => by cases q) hq hk hn fun T locs fs X hr => retOut X C.1 C.2.2.2.2.2.2.1 hz (Or.inl ⟨rfl, Or.inr (Or.inr (Or.inl rfl)), z, rfl⟩) (hb C.2.2.1 hd) hr
theorem G.retC (C : Cx p s m meth c Z y bytes maxL (some .char)) {z : Int32} (hd : decode bytes pc = .ok (.ireturn, 1)) (hk : k ≤ R.cells) (hn : n ≤ R.slots) (hz : narrow .char (.int z) = .int z) (hq : Q (some (.int z)) h) : G p l e R s m args below meth c n0 (Wst s R n0 Q) h k n (mkF m pc Ls (.int z :: S)) :=
  G.out C (fun q => by cases q) hq hk hn fun T locs fs X hr => retOut X C.1 C.2.2.2.2.2.2.1 hz (Or.inl ⟨rfl, Or.inr (Or.inr (Or.inr (Or.inl rfl))), z, rfl⟩) (hb C.2.2.1 hd) hr
theorem G.retL (C : Cx p s m meth c Z y bytes maxL (some .long)) {z : Int64} (hd : decode bytes pc = .ok (.lreturn, 1)) (hk : k ≤ R.cells) (hn : n ≤ R.slots) (hq : Q (some (.long z)) h) : G p l e R s m args below meth c n0 (Wst s R n0 Q) h k n (mkF m pc Ls (.long z :: S)) :=
  G.out C (fun q => by cases q) hq hk hn fun T locs fs X hr => retOut X C.1 C.2.2.2.2.2.2.1 rfl (Or.inr (Or.inl ⟨rfl, rfl, z, rfl⟩)) (hb C.2.2.1 hd) hr
theorem G.retA {t : FieldType} (C : Cx p s m meth c Z y bytes maxL (some t)) {v : Value} (ht : t.isReference = true) (hv : v.isRef = true) (hd : decode bytes pc = .ok (.areturn, 1)) (hk : k ≤ R.cells) (hn : n ≤ R.slots) (hz : narrow t v = v) (hq : Q (some v) h) : G p l e R s m args below meth c n0 (Wst s R n0 Q) h k n (mkF m pc Ls (v :: S)) :=
  G.out C (fun q => by cases q) hq hk hn fun T locs fs X hr => retOut X C.1 C.2.2.2.2.2.2.1 hz (Or.inr (Or.inr (Or.inr (Or.inr ⟨rfl, ht, hv⟩)))) (hb C.2.2.1 hd) hr
theorem G.retV (C : Cx p s m meth c Z y bytes maxL none) (hd : decode bytes pc = .ok (.return_, 1)) (hk : k ≤ R.cells) (hn : n ≤ R.slots) (hq : Q none h) : G p l e R s m args below meth c n0 (Wst s R n0 Q) h k n (mkF m pc Ls []) :=
  G.out C (fun _ => rfl) hq hk hn fun T locs fs X hr => X.returnOut C.1 C.2.2.2.2.2.2.1 (hb C.2.2.1 hd) hr
theorem cat_sum {S : List Value} {W : Nat} (h : (S.map fun v => v.category).sum ≤ W) : 2 * 0 + (S.map fun v => v.category).sum ≤ W := by omega
theorem G.callS (C : Cx p s m meth c Z y bytes maxL ret) {z : MethodName} {zb : ByteArray} {zl : Nat} {zr : Option FieldType} {Rz : Room} {av : List Value} {Qz : Option Value → Heap → Prop} {ix W : Nat} {ps : List FieldType} {r : Option FieldType} {St : List Value}
    (w1 : (Jvm.Cond.methodLink y.cls ix z).before a0 Z = true) (w2 : (Jvm.Cond.static z).before a0 Z = true) (w3 : (Jvm.Cond.initialized z.cls).before a0 Z = true) (w4 : (Jvm.Cond.code z zb zl zr).before a0 Z = true)
    (hz : z.cls ≠ "java/lang/invoke/MethodHandle" ∧ z.cls ≠ "java/lang/invoke/VarHandle") (K : Con l Z z zb zl zr Rz av.toArray h n0 Qz) (hps : parseMethodDescriptor z.desc = some ⟨ps, r⟩) (hlen : av.length = ps.length) (hls : Ls.size = maxL)
    (hd : decode bytes pc = .ok (.invokestatic ix, 3)) (hst : St = av.reverse ++ S) (hW : (S.map fun v => v.category).sum ≤ W) (hf : Rz.frames + 1 ≤ R.frames) (hl : W + (zl + 11) + Rz.locals ≤ R.locals) (hk : k + Rz.cells ≤ R.cells) (hn : n + Rz.slots ≤ R.slots) (hp : pc + 3 = pc')
    (nx : ∀ v h', Qz v h' → G p l e R s m args below meth c n0 P h' (k + Rz.cells) (n + Rz.slots) (mkF m pc' Ls (v.toList ++ S))) : G p l e R s m args below meth c n0 P h k n (mkF m pc Ls St) := fun T locs X eT N => by
  subst hp hst
  obtain ⟨v, _, ⟨T', L', k', n'⟩, -, X', ⟨Lc, hQ, l1, l2, l3⟩, st⟩ := Jvm.LawKit.callS X C.1 (y := z) C.2.2.2.2.1 (mvT C.2.1 w1) (mvT C.2.1 w2) (mvT C.2.1 w3) (mvT C.2.1 w4) hz (backOf (Q := fun v z L => Qz v z ∧ Fr n0 L) (W := W) (K []) C.2.1 w4 w3 hf hl) (g := mkF m pc Ls (av.reverse ++ S)) rfl (by rw [C.2.2.2.1]; exact hls) (argsL := av) (rest := S) (lenOf hps hlen) rfl (cat_sum hW) (hb C.2.2.1 hd) (fun _ _ => ⟨rfl, eT, hk, hn⟩)
  dsimp only [Pt.U, Pt.locs, Pt.cells, Pt.slots] at X' l1 l2 l3 st hQ
  subst l1 l2 l3
  obtain ⟨s₂, o, h1, rr⟩ := nx v T'.heap hQ.1 T' _ X' rfl (Fr.app N hQ.2)
  exact ⟨s₂, o, st _ h1, rr⟩
theorem G.callI (C : Cx p s m meth c Z y bytes maxL ret) {z : MethodName} {zb : ByteArray} {zl : Nat} {Rz : Room} {a : Addr} {av : List Value} {Qz : Option Value → Heap → Prop} {ix W : Nat} {ps : List FieldType} {r : Option FieldType} {St : List Value} (hz1 : z.name = "<init>")
    (w1 : (Jvm.Cond.methodLink y.cls ix z).before a0 Z = true) (w2 : (Jvm.Cond.instanceMethod z).before a0 Z = true) (w3 : (Jvm.Cond.initialized z.cls).before a0 Z = true) (w4 : (Jvm.Cond.code z zb zl none).before a0 Z = true)
    (hz : z.cls ≠ "java/lang/invoke/MethodHandle" ∧ z.cls ≠ "java/lang/invoke/VarHandle") (K : Con l Z z zb zl none Rz (.ref a :: av).toArray h n0 Qz) (hps : parseMethodDescriptor z.desc = some ⟨ps, r⟩) (hlen : av.length = ps.length) (hls : Ls.size = maxL)
    (hd : decode bytes pc = .ok (.invokespecial ix, 3)) (hst : St = av.reverse ++ .ref a :: S) (hW : (S.map fun v => v.category).sum ≤ W) (hf : Rz.frames + 1 ≤ R.frames) (hl : W + (zl + 11) + Rz.locals ≤ R.locals) (hk : k + Rz.cells ≤ R.cells) (hn : n + Rz.slots ≤ R.slots) (hp : pc + 3 = pc')
    (nx : ∀ v h', Qz v h' → G p l e R s m args below meth c n0 P h' (k + Rz.cells) (n + Rz.slots) (mkF m pc' Ls (v.toList ++ S))) : G p l e R s m args below meth c n0 P h k n (mkF m pc Ls St) := fun T locs X eT N => by
  subst hp hst
  obtain ⟨v, _, ⟨T', L', k', n'⟩, -, X', ⟨Lc, hQ, l1, l2, l3⟩, st⟩ := X.specialBack C.1 (y := z) hz1 C.2.2.2.2.1 (mvT C.2.1 w1) (mvT C.2.1 w2) (mvT C.2.1 w4) hz (backOf (Q := fun v z L => Qz v z ∧ Fr n0 L) (W := W) (K []) C.2.1 w4 w3 hf hl) (g := mkF m pc Ls (av.reverse ++ .ref a :: S)) rfl (by rw [C.2.2.2.1]; exact hls) (Steps.refl _) (a := a) (argsL := av) (rest := S) (lenOf hps hlen) rfl (cat_sum hW) (hb C.2.2.1 hd) (fun _ _ => ⟨rfl, eT, hk, hn⟩)
  dsimp only [Pt.U, Pt.locs, Pt.cells, Pt.slots] at X' l1 l2 l3 st hQ
  subst l1 l2 l3
  obtain ⟨s₂, o, h1, rr⟩ := nx v T'.heap hQ.1 T' _ X' rfl (Fr.app N hQ.2)
  exact ⟨s₂, o, st.trans h1, rr⟩
theorem G.callV (C : Cx p s m meth c Z y bytes maxL ret) {z : MethodName} {zb : ByteArray} {zl : Nat} {zr : Option FieldType} {Rz : Room} {a : Addr} {av : List Value} {Qz : Option Value → Heap → Prop} {ix W : Nat} {ps : List FieldType} {r : Option FieldType} {St : List Value} {D : String}
    (w1 : (Jvm.Cond.methodLink y.cls ix z).before a0 Z = true) (w2 : (Jvm.Cond.instanceMethod z).before a0 Z = true) (w3 : (Jvm.Cond.initialized z.cls).before a0 Z = true) (w4 : (Jvm.Cond.code z zb zl zr).before a0 Z = true) (w5 : (Jvm.Cond.declares z).before a0 Z = true) (w6 : (Jvm.Cond.selects D z z).before a0 Z = true) (E : Exa Z h a D)
    (hz : z.cls ≠ "java/lang/invoke/MethodHandle" ∧ z.cls ≠ "java/lang/invoke/VarHandle") (K : Con l Z z zb zl zr Rz (.ref a :: av).toArray h n0 Qz) (hps : parseMethodDescriptor z.desc = some ⟨ps, r⟩) (hlen : av.length = ps.length) (hls : Ls.size = maxL)
    (hd : decode bytes pc = .ok (.invokevirtual ix, 3)) (hst : St = av.reverse ++ .ref a :: S) (hW : (S.map fun v => v.category).sum ≤ W) (hf : Rz.frames + 1 ≤ R.frames) (hl : W + (zl + 11) + Rz.locals ≤ R.locals) (hk : k + Rz.cells ≤ R.cells) (hn : n + Rz.slots ≤ R.slots) (hp : pc + 3 = pc')
    (nx : ∀ v h', Qz v h' → G p l e R s m args below meth c n0 P h' (k + Rz.cells) (n + Rz.slots) (mkF m pc' Ls (v.toList ++ S))) : G p l e R s m args below meth c n0 P h k n (mkF m pc Ls St) := fun T locs X eT N => by
  subst hp hst
  obtain ⟨cq, kq, qa, qb, qc⟩ := isOf C.2.1 eT E
  obtain ⟨v, _, ⟨T', L', k', n'⟩, -, X', ⟨Lc, hQ, l1, l2, l3⟩, st⟩ := X.virtualBack C.1 (y := z) (z := z) C.2.2.2.2.1 (mvT C.2.1 w1) (mvT C.2.1 w5) (notFace_of_selects (args := #[]) (mvT C.2.1 w6)) (mvT C.2.1 w6) (mvT C.2.1 w2) hz (backOf (Q := fun v z L => Qz v z ∧ Fr n0 L) (W := W) (K []) C.2.1 w4 w3 hf hl) qa qc (g := mkF m pc Ls (av.reverse ++ .ref a :: S)) rfl (by rw [C.2.2.2.1]; exact hls) (Steps.refl _) (argsL := av) (rest := S) (lenOf hps hlen) rfl (cat_sum hW) (hb C.2.2.1 hd) (fun _ _ => ⟨rfl, eT, hk, hn⟩)
  dsimp only [Pt.U, Pt.locs, Pt.cells, Pt.slots] at X' l1 l2 l3 st hQ
  subst l1 l2 l3
  obtain ⟨s₂, o, h1, rr⟩ := nx v T'.heap hQ.1 T' _ X' rfl (Fr.app N hQ.2)
  exact ⟨s₂, o, st.trans h1, rr⟩
def Pn (h : Heap) : Option Value → Heap → Prop := fun v h' => v = none ∧ h' = h
/-- a value is handed back, the heap as it was -/
def Pv (u : Value) (h : Heap) : Option Value → Heap → Prop := fun v h' => v = some u ∧ h' = h
theorem G.callSP (C : Cx p s m meth c Z y bytes maxL ret) {z : MethodName} {zb : ByteArray} {zl : Nat} {zr : Option FieldType} {Rz : Room} {av : List Value} {u : Value} {ix W : Nat} {ps : List FieldType} {r : Option FieldType} {St : List Value}
    (w1 : (Jvm.Cond.methodLink y.cls ix z).before a0 Z = true) (w2 : (Jvm.Cond.static z).before a0 Z = true) (w3 : (Jvm.Cond.initialized z.cls).before a0 Z = true) (w4 : (Jvm.Cond.code z zb zl zr).before a0 Z = true)
    (hz : z.cls ≠ "java/lang/invoke/MethodHandle" ∧ z.cls ≠ "java/lang/invoke/VarHandle") (K : Con l Z z zb zl zr Rz av.toArray h n0 (Pv u h)) (hps : parseMethodDescriptor z.desc = some ⟨ps, r⟩) (hlen : av.length = ps.length) (hls : Ls.size = maxL)
    (hd : decode bytes pc = .ok (.invokestatic ix, 3)) (hst : St = av.reverse ++ S) (hW : (S.map fun v => v.category).sum ≤ W) (hf : Rz.frames + 1 ≤ R.frames) (hl : W + (zl + 11) + Rz.locals ≤ R.locals) (h0 : Rz.cells = 0) (h1 : Rz.slots = 0) (hk : k ≤ R.cells) (hn : n ≤ R.slots) (hp : pc + 3 = pc')
    (nx : G p l e R s m args below meth c n0 P h k n (mkF m pc' Ls (u :: S))) : G p l e R s m args below meth c n0 P h k n (mkF m pc Ls St) :=
  G.callS C w1 w2 w3 w4 hz K hps hlen hls hd hst hW hf hl (by rw [h0]; exact hk) (by rw [h1]; exact hn) hp fun v h' hq => by
    obtain ⟨rfl, rfl⟩ := hq; rw [h0, h1]; exact nx
theorem G.callVP (C : Cx p s m meth c Z y bytes maxL ret) {z : MethodName} {zb : ByteArray} {zl : Nat} {zr : Option FieldType} {Rz : Room} {a : Addr} {av : List Value} {u : Value} {ix W : Nat} {ps : List FieldType} {r : Option FieldType} {St : List Value} {D : String}
    (w1 : (Jvm.Cond.methodLink y.cls ix z).before a0 Z = true) (w2 : (Jvm.Cond.instanceMethod z).before a0 Z = true) (w3 : (Jvm.Cond.initialized z.cls).before a0 Z = true) (w4 : (Jvm.Cond.code z zb zl zr).before a0 Z = true) (w5 : (Jvm.Cond.declares z).before a0 Z = true) (w6 : (Jvm.Cond.selects D z z).before a0 Z = true) (E : Exa Z h a D)
    (hz : z.cls ≠ "java/lang/invoke/MethodHandle" ∧ z.cls ≠ "java/lang/invoke/VarHandle") (K : Con l Z z zb zl zr Rz (.ref a :: av).toArray h n0 (Pv u h)) (hps : parseMethodDescriptor z.desc = some ⟨ps, r⟩) (hlen : av.length = ps.length) (hls : Ls.size = maxL)
    (hd : decode bytes pc = .ok (.invokevirtual ix, 3)) (hst : St = av.reverse ++ .ref a :: S) (hW : (S.map fun v => v.category).sum ≤ W) (hf : Rz.frames + 1 ≤ R.frames) (hl : W + (zl + 11) + Rz.locals ≤ R.locals) (h0 : Rz.cells = 0) (h1 : Rz.slots = 0) (hk : k ≤ R.cells) (hn : n ≤ R.slots) (hp : pc + 3 = pc')
    (nx : G p l e R s m args below meth c n0 P h k n (mkF m pc' Ls (u :: S))) : G p l e R s m args below meth c n0 P h k n (mkF m pc Ls St) :=
  G.callV C w1 w2 w3 w4 w5 w6 E hz K hps hlen hls hd hst hW hf hl (by rw [h0]; exact hk) (by rw [h1]; exact hn) hp fun v h' hq => by
    obtain ⟨rfl, rfl⟩ := hq; rw [h0, h1]; exact nx
/-- Keep, and the cells of statics as they were -/
def Kp (h h' : Heap) (ws : List Addr) : Prop := Keep h h' ws ∧ ∀ (x : Addr) (c : Cell), h[x]? = some c → c.vm.isStatics = true → h'[x]? = some c
theorem Kp.refl (h : Heap) (ws : List Addr) : Kp h h ws := ⟨Keep.refl _ _, fun _ _ q _ => q⟩
theorem Kp.ext {h1 h2 : Heap} {ws : List Addr} (K : Kp h h1 ws) (E : Ext h1 h2) : Kp h h2 ws := ⟨K.1.ext E, fun x c q r => E.2 x c (K.2 x c q r)⟩
theorem Kp.wr {h1 h2 : Heap} {ws : List Addr} {a : Addr} {sl : Nat} {v : Value} (K : Kp h h1 ws) (W : Wr h1 h2 a sl v) (q : a ∈ ws ∨ h.size ≤ a) : Kp h h2 ws := ⟨K.1.wr W q, fun x c q r => by
  have h1x := K.2 x c q r
  obtain ⟨cb, w1, w2, -⟩ := id W
  obtain ⟨cb', e1, -, -, -, e5, -⟩ := wr_at W h1x
  by_cases z : x = a
  · subst z; cases h1x.symm.trans w1; rw [r] at w2; cases w2
  · rw [e1, e5 z]⟩
theorem Kp.trans {h1 h2 : Heap} {ws ws' : List Addr} (K : Kp h h1 ws) (K' : Kp h1 h2 ws') (q : ∀ x ∈ ws', x ∈ ws ∨ h.size ≤ x) : Kp h h2 ws := ⟨K.1.trans K'.1 q, fun x c r z => K'.2 x c (K.2 x c r z) z⟩
theorem Sta.kp {h1 : Heap} {O nm d : String} {v : Value} {ws : List Addr} (K : Kp h h1 ws) (F : Sta Z h O nm d v) : Sta Z h1 O nm d v := by
  obtain ⟨cf, i, k, f, st, cell, q1, q2, q3, q4, q5, q6, q7⟩ := F
  exact ⟨cf, i, k, f, st, cell, q1, q2, q3, q4, K.2 _ _ q5 q6, q6, q7⟩
theorem G.acmpne (C : Cx p s m meth c Z y bytes maxL ret) {o : Int} {a b : Addr} (hd : decode bytes pc = .ok (.if_acmp .ne o, 3)) (ho : 0 ≤ (pc : Int) + o) (ht : ((pc : Int) + o).toNat = pt) (hp : pc + 3 = pc') (yes : ¬ (a = b) → G p l e R s m args below meth c n0 P h k n (mkF m pt Ls S)) (no : a = b → G p l e R s m args below meth c n0 P h k n (mkF m pc' Ls S)) : G p l e R s m args below meth c n0 P h k n (mkF m pc Ls (.ref b :: .ref a :: S)) := by
  by_cases q : a = b
  · exact G.pl (fun T locs X eT t k => Jvm.RoadKit.acmp (g := mkF m pc Ls (.ref b :: .ref a :: S)) X C.1 rfl rfl rfl (pc0 := pc) (pc' := pc') (same := true) rfl (hb C.2.2.1 hd) rfl (decide_eq_true (congrArg Value.ref q)) ho hp.symm k) (no q)
  · exact G.pl (fun T locs X eT t k => Jvm.RoadKit.acmp (g := mkF m pc Ls (.ref b :: .ref a :: S)) X C.1 rfl rfl rfl (pc0 := pc) (pc' := pt) (same := false) rfl (hb C.2.2.1 hd) rfl (decide_eq_false fun r => q (Value.ref.inj r)) ho ht.symm k) (yes q)
theorem G.acmpeq (C : Cx p s m meth c Z y bytes maxL ret) {o : Int} {a b : Addr} (hd : decode bytes pc = .ok (.if_acmp .eq o, 3)) (ho : 0 ≤ (pc : Int) + o) (ht : ((pc : Int) + o).toNat = pt) (hp : pc + 3 = pc') (yes : a = b → G p l e R s m args below meth c n0 P h k n (mkF m pt Ls S)) (no : ¬ (a = b) → G p l e R s m args below meth c n0 P h k n (mkF m pc' Ls S)) : G p l e R s m args below meth c n0 P h k n (mkF m pc Ls (.ref b :: .ref a :: S)) := by
  by_cases q : a = b
  · exact G.pl (fun T locs X eT t k => Jvm.RoadKit.acmp (g := mkF m pc Ls (.ref b :: .ref a :: S)) X C.1 rfl rfl rfl (pc0 := pc) (pc' := pt) (same := true) rfl (hb C.2.2.1 hd) rfl (decide_eq_true (congrArg Value.ref q)) ho ht.symm k) (yes q)
  · exact G.pl (fun T locs X eT t k => Jvm.RoadKit.acmp (g := mkF m pc Ls (.ref b :: .ref a :: S)) X C.1 rfl rfl rfl (pc0 := pc) (pc' := pc') (same := false) rfl (hb C.2.2.1 hd) rfl (decide_eq_false fun r => q (Value.ref.inj r)) ho hp.symm k) (no q)
theorem own_eqi {args : Array Value} {first s : State} {o : Option Outcome} {idx : List Nat} {t : Term} {z : Int32} (h : (Jvm.Cond.eq t (.int z)).value args first o s idx = some true) : t.eval args first o idx s = some (.int z) := by
  simp only [Cond.value] at h
  cases ht : t.eval args first o idx s with
  | none => simp [ht] at h
  | some x => cases x <;> simp [ht, Term.eval] at h ⊢; exact h
theorem own_sta_keep {O nm d : String} {v : Value} {h' : Heap} {ws : List Addr} (K : Keep h h' ws) (F : Sta Z h O nm d v) (hs : ∀ x ∈ ws, ∀ cell : Cell, h[x]? = some cell → cell.vm.isStatics = false) : Sta Z h' O nm d v := by
  obtain ⟨cf, i, k, f, st, cell, h1, h2, h3, h4, h5, h6, h7⟩ := F
  refine ⟨cf, i, k, f, st, cell, h1, h2, h3, h4, K.2.1 _ _ h5 (fun q => ?_), h6, h7⟩
  rw [hs st q cell h5] at h6; cases h6
theorem G.getF (C : Cx p s m meth c Z y bytes maxL ret) {ix : Nat} {O nm d : String} {a : Addr} {v : Value} (w : (Jvm.Cond.fieldLink y.cls ix O nm d).before a0 Z = true) (F : Fld Z h a O nm d v) (hd : decode bytes pc = .ok (.getfield ix, 3)) (hp : pc + 3 = pc') (nx : G p l e R s m args below meth c n0 P h k n (mkF m pc' Ls (v :: S))) : G p l e R s m args below meth c n0 P h k n (mkF m pc Ls (.ref a :: S)) := by
  subst hp; exact G.mv (fun T locs X eT => Jvm.RoadKit.getF X C.1 C.2.1 C.2.2.2.2.1 (host := "") (Or.inl w) Via.refl eT F (g := mkF m pc Ls (.ref a :: S)) rfl rfl (hb C.2.2.1 hd)) nx
theorem G.getS (C : Cx p s m meth c Z y bytes maxL ret) {ix : Nat} {O nm d : String} {v : Value} (w : (Jvm.Cond.fieldLink y.cls ix O nm d).before a0 Z = true) (F : Sta Z h O nm d v) (hd : decode bytes pc = .ok (.getstatic ix, 3)) (hp : pc + 3 = pc') (nx : G p l e R s m args below meth c n0 P h k n (mkF m pc' Ls (v :: S))) : G p l e R s m args below meth c n0 P h k n (mkF m pc Ls S) := by
  subst hp; exact G.mv (fun T locs X eT => Jvm.RoadKit.getS2 X C.1 C.2.1 C.2.2.2.2.1 (host := "") (Or.inl w) Via.refl eT F (g := mkF m pc Ls S) rfl (hb C.2.2.1 hd)) nx
theorem G.putF (C : Cx p s m meth c Z y bytes maxL ret) {ix kk : Nat} {O nm d D : String} {ty : FieldType} {a : Addr} {v old : Value} (w : (Jvm.Cond.fieldLink y.cls ix O nm d).before a0 Z = true) (F : Fld Z h a O nm d old) (E : Exa Z h a D) (La : (Jvm.Cond.lays D O nm d).before a0 Z = true ∨ ((Jvm.Cond.laysFinal D O nm d).before a0 Z = true ∧ y.cls = O ∧ y.name = "<init>")) (wi : (Jvm.Cond.instantiable D kk).before a0 Z = true)
    (hty : parseFieldDescriptor d = some ty) (hn : narrow ty v = v) (hf : fits ty v = true) (ha : n0 ≤ a) (hd : decode bytes pc = .ok (.putfield ix, 3)) (hp : pc + 3 = pc') (nx : ∀ h', Wr h h' a (Jvm.RoadKit.slotOf Z O nm d) v → G p l e R s m args below meth c n0 P h' k n (mkF m pc' Ls S)) : G p l e R s m args below meth c n0 P h k n (mkF m pc Ls (v :: .ref a :: S)) := fun T locs X eT N => by
  subst hp
  obtain ⟨T', h', X', e', W, st⟩ := Jvm.RoadKit.putF X C.1 C.2.1 C.2.2.2.2.1 (host := "") (Or.inl w) Via.refl eT F E (La.imp id fun q => ⟨q.1, q.2.1, C.2.2.2.2.2.1.trans q.2.2⟩) wi hty hn hf (g := mkF m pc Ls (v :: .ref a :: S)) rfl rfl (hb C.2.2.1 hd)
  obtain ⟨s₂, o, h1, rr⟩ := nx h' W T' _ X' e' (Fr.snoc X' N ha)
  exact ⟨s₂, o, st _ h1, rr⟩
theorem G.newO (C : Cx p s m meth c Z y bytes maxL ret) {ix sl : Nat} {D : String} (w : (Jvm.Cond.classLink y.cls ix D).before a0 Z = true) (wi : (Jvm.Cond.instantiable D sl).before a0 Z = true) (wz : (Jvm.Cond.initialized D).before a0 Z = true) (hd : decode bytes pc = .ok (.new ix, 3)) (hk : k + 1 ≤ R.cells) (hn : n + sl ≤ R.slots) (hp : pc + 3 = pc')
    (nx : ∀ h' a, a = h.size → Ext h h' → Exa Z h' a D → (∀ {O nm d : String} {ty : FieldType}, Laid Z a0 D O nm d → parseFieldDescriptor d = some ty → Fld Z h' a O nm d (defaultValue ty)) → G p l e R s m args below meth c n0 P h' (k + 1) (n + sl) (mkF m pc' Ls (.ref a :: S))) : G p l e R s m args below meth c n0 P h k n (mkF m pc Ls S) := fun T locs X eT N => by
  subst hp
  obtain ⟨T', h', X', e', E, A, D', -, st⟩ := Jvm.RoadKit.newO X C.1 C.2.1 C.2.2.2.2.1 w wi wz eT (g := mkF m pc Ls S) rfl (hb C.2.2.1 hd) hk hn
  obtain ⟨s₂, o, h1, rr⟩ := nx h' _ rfl E A D' T' _ X' e' N
  exact ⟨s₂, o, st _ h1, rr⟩
theorem G.initO (C : Cx p s m meth c Z y bytes maxL ret) {ix W : Nat} {a : Addr} (w1 : (Jvm.Cond.methodLink y.cls ix Lib.objectInit).before a0 Z = true) (w2 : (Jvm.Cond.instanceMethod Lib.objectInit).before a0 Z = true) (w3 : (Jvm.Cond.code Lib.objectInit ⟨#[0xb1]⟩ 1 none).before a0 Z = true) (hls : Ls.size = maxL) (hd : decode bytes pc = .ok (.invokespecial ix, 3)) (hf : 1 ≤ R.frames) (hW : (S.map fun v => v.category).sum ≤ W) (hl : W + 12 ≤ R.locals) (hp : pc + 3 = pc')
    (nx : G p l e R s m args below meth c n0 P h k n (mkF m pc' Ls S)) : G p l e R s m args below meth c n0 P h k n (mkF m pc Ls (.ref a :: S)) := by
  subst hp; exact G.mv (fun T locs X eT => Jvm.RoadKit.initO X C.1 C.2.1 C.2.2.2.2.1 w1 w2 w3 eT (g := mkF m pc Ls (.ref a :: S)) rfl (by rw [C.2.2.2.1]; exact hls) rfl (hb C.2.2.1 hd) hf (cat_sum hW) hl) nx
theorem G.ifnull (C : Cx p s m meth c Z y bytes maxL ret) {o : Int} (hd : decode bytes pc = .ok (.ifnull o, 3)) (ho : 0 ≤ (pc : Int) + o) (ht : ((pc : Int) + o).toNat = pt) (nx : G p l e R s m args below meth c n0 P h k n (mkF m pt Ls S)) : G p l e R s m args below meth c n0 P h k n (mkF m pc Ls (.null :: S)) :=
  G.pl (fun T locs X eT t q => XS.ifnullYes X.here C.1 rfl (pc0 := pc) (pc' := pt) rfl (hb C.2.2.1 hd) rfl ho ht q) nx
theorem G.ifnullR (C : Cx p s m meth c Z y bytes maxL ret) {o : Int} {a : Addr} (hd : decode bytes pc = .ok (.ifnull o, 3)) (hp : pc + 3 = pc') (nx : G p l e R s m args below meth c n0 P h k n (mkF m pc' Ls S)) : G p l e R s m args below meth c n0 P h k n (mkF m pc Ls (.ref a :: S)) := by
  subst hp; exact G.pl (fun T locs X eT t q => XS.ifnullNo X.here C.1 rfl (hb C.2.2.1 hd) rfl q) nx
theorem G.ifnonnull (C : Cx p s m meth c Z y bytes maxL ret) {o : Int} (hd : decode bytes pc = .ok (.ifnonnull o, 3)) (hp : pc + 3 = pc') (nx : G p l e R s m args below meth c n0 P h k n (mkF m pc' Ls S)) : G p l e R s m args below meth c n0 P h k n (mkF m pc Ls (.null :: S)) := by
  subst hp; exact G.pl (fun T locs X eT t q => XS.ifnonnullNo X.here C.1 rfl (hb C.2.2.1 hd) rfl q) nx
theorem G.ifnonnullR (C : Cx p s m meth c Z y bytes maxL ret) {o : Int} {a : Addr} (hd : decode bytes pc = .ok (.ifnonnull o, 3)) (ho : 0 ≤ (pc : Int) + o) (ht : ((pc : Int) + o).toNat = pt) (nx : G p l e R s m args below meth c n0 P h k n (mkF m pt Ls S)) : G p l e R s m args below meth c n0 P h k n (mkF m pc Ls (.ref a :: S)) :=
  G.pl (fun T locs X eT t q => XS.ifnonnullYes X.here C.1 rfl (pc0 := pc) (pc' := pt) rfl (hb C.2.2.1 hd) rfl ho ht q) nx
/-- an array of N places, what lies in each of them -/
def Ara (Z : State) (h : Heap) (a : Addr) (ty : FieldType) (N : Nat) (f : Nat → Value) : Prop := ∃ c : Cell, Arr Z h a c ty ∧ c.slots.size = N ∧ ∀ i, i < N → c.slots[i]? = some (f i)
section Arrays
variable {h' : Heap} {a b : Addr} {ty : FieldType} {N : Nat} {F : Nat → Value}
theorem Ara.ext (A : Ara Z h a ty N F) (E : Ext h h') : Ara Z h' a ty N F := by obtain ⟨c, q, r⟩ := A; exact ⟨c, q.ext E, r⟩
theorem Ara.keep {ws : List Addr} (A : Ara Z h a ty N F) (K : Keep h h' ws) (q : a ∉ ws) : Ara Z h' a ty N F := by obtain ⟨c, A, r⟩ := A; exact ⟨c, ⟨K.2.1 a c A.1 q, A.2⟩, r⟩
theorem Ara.kp {ws : List Addr} (A : Ara Z h a ty N F) (K : Kp h h' ws) (q : a ∉ ws) : Ara Z h' a ty N F := A.keep K.1 q
theorem Ara.oth {sl : Nat} {v : Value} (A : Ara Z h a ty N F) (W : Wr h h' b sl v) (q : a ≠ b) : Ara Z h' a ty N F := by obtain ⟨c, A, r⟩ := A; exact ⟨c, A.other W q, r⟩
theorem Ara.lt (A : Ara Z h a ty N F) : a < h.size := by obtain ⟨c, A, -⟩ := A; exact A.lt
theorem Ara.cast {F' : Nat → Value} (A : Ara Z h a ty N F) (q : ∀ i, i < N → F i = F' i) : Ara Z h a ty N F' := by obtain ⟨c, A, r1, r2⟩ := A; exact ⟨c, A, r1, fun i hi => by rw [r2 i hi, q i hi]⟩
theorem Ara.set {j : Nat} {v : Value} (A : Ara Z h a ty N F) (W : Wr h h' a j v) : Ara Z h' a ty N (fun i => if i = j then v else F i) := by
  obtain ⟨c, A, r1, r2⟩ := A
  obtain ⟨cell, w1, w2, w3, rfl⟩ := id W
  cases A.1.symm.trans w1
  refine ⟨_, A.same W, ?_, fun i hi => ?_⟩
  · rw [← r1]; simp [Cell.setSlot]
  · have hi' : i < c.slots.size := by rw [r1]; exact hi
    by_cases q : i = j
    · subst q; simp [Cell.setSlot, hi']
    · have q' : ¬ j = i := fun z => q z.symm
      simp only [q, if_false]
      rw [← r2 i hi]
      simp [Cell.setSlot, Array.getElem?_setIfInBounds, q']
theorem Ara.new {ka : ClassId} {z : Int32} (A : Arr Z h a (newA ka ty z) ty) : Ara Z h a ty z.toInt.toNat (fun _ => defaultValue ty) := by
  refine ⟨_, A, sz_new _ _ _, fun i hi => ?_⟩
  have q : i < z.toNatClampNeg := hi
  simp [newA, q]
theorem own_in {j : Int32} {cl : Cell} (r : cl.slots.size = N) (q : 0 ≤ j.toInt ∧ j.toInt < N) : ¬ (j < 0 ∨ cl.slots.size ≤ j.toNatClampNeg) := by
  rw [r, Int32.lt_iff_toInt_lt]
  show ¬ (j.toInt < 0 ∨ N ≤ j.toInt.toNat)
  omega
theorem own_ix {j : Int32} (q : 0 ≤ j.toInt ∧ j.toInt < N) : j.toInt.toNat < N := by omega
theorem Ara.len (A : Ara Z h a ty N F) : ∃ cl, Arr Z h a cl ty ∧ cl.slots.size = N := by obtain ⟨c, q, r, -⟩ := A; exact ⟨c, q, r⟩
theorem G.arrlen (C : Cx p s m meth c Z y bytes maxL ret) (A : Ara Z h a ty N F) {z : Int32} (hz : z.toInt = N) (hd : decode bytes pc = .ok (.arraylength, 1)) (hp : pc + 1 = pc') (nx : G p l e R s m args below meth c n0 P h k n (mkF m pc' Ls (.int z :: S))) : G p l e R s m args below meth c n0 P h k n (mkF m pc Ls (.ref a :: S)) := by
  obtain ⟨cl, A, r, -⟩ := A
  have q0 : ¬ z < 0 := by rw [Int32.lt_iff_toInt_lt, hz]; show ¬ ((N : Int) < 0); omega
  have q1 : cl.slots.size = z.toNatClampNeg := by rw [r]; show N = z.toInt.toNat; omega
  subst hp; exact G.pl (fun T locs X eT t q => X.arraylength C.1 (by rw [eT]; exact A.1) (State.isArrayOf_alike C.2.1.alike A.2.1) (g := mkF m pc Ls (.ref a :: S)) rfl rfl (hb C.2.2.1 hd) t (by rw [len_of q1 q0]; exact q)) nx
theorem G.caload (C : Cx p s m meth c Z y bytes maxL ret) (A : Ara Z h a .char N F) {j : Int32} (q : 0 ≤ j.toInt ∧ j.toInt < N) (hd : decode bytes pc = .ok (.caload, 1)) (hp : pc + 1 = pc') (nx : G p l e R s m args below meth c n0 P h k n (mkF m pc' Ls (F j.toInt.toNat :: S))) : G p l e R s m args below meth c n0 P h k n (mkF m pc Ls (.int j :: .ref a :: S)) := by
  obtain ⟨cl, A, r1, r2⟩ := A
  subst hp; exact G.pl (fun T locs X eT t z => X.caload C.1 (j := j) (v := F j.toInt.toNat) (by rw [eT]; exact A.1) (State.isArrayOf_alike C.2.1.alike A.2.1) A.2.2 (own_in r1 q) (r2 _ (own_ix q)) (g := mkF m pc Ls (.int j :: .ref a :: S)) rfl rfl (hb C.2.2.1 hd) _ z) nx
theorem G.laload (C : Cx p s m meth c Z y bytes maxL ret) (A : Ara Z h a .long N F) {j : Int32} (q : 0 ≤ j.toInt ∧ j.toInt < N) (hd : decode bytes pc = .ok (.laload, 1)) (hp : pc + 1 = pc') (nx : G p l e R s m args below meth c n0 P h k n (mkF m pc' Ls (F j.toInt.toNat :: S))) : G p l e R s m args below meth c n0 P h k n (mkF m pc Ls (.int j :: .ref a :: S)) := by
  obtain ⟨cl, A, r1, r2⟩ := A
  subst hp; exact G.pl (fun T locs X eT t z => X.laload C.1 (j := j) (v := F j.toInt.toNat) (by rw [eT]; exact A.1) (State.isArrayOf_alike C.2.1.alike A.2.1) A.2.2 (own_in r1 q) (r2 _ (own_ix q)) (g := mkF m pc Ls (.int j :: .ref a :: S)) rfl rfl (hb C.2.2.1 hd) _ z) nx
theorem G.baloadB (C : Cx p s m meth c Z y bytes maxL ret) (A : Ara Z h a .byte N F) {j : Int32} (q : 0 ≤ j.toInt ∧ j.toInt < N) (hd : decode bytes pc = .ok (.baload, 1)) (hp : pc + 1 = pc') (nx : G p l e R s m args below meth c n0 P h k n (mkF m pc' Ls (F j.toInt.toNat :: S))) : G p l e R s m args below meth c n0 P h k n (mkF m pc Ls (.int j :: .ref a :: S)) := by
  obtain ⟨cl, A, r1, r2⟩ := A
  subst hp; exact G.pl (fun T locs X eT t z => X.baloadBytes C.1 (j := j) (v := F j.toInt.toNat) (by rw [eT]; exact A.1) (State.isArrayOf_alike C.2.1.alike A.2.1) A.2.2 (own_in r1 q) (r2 _ (own_ix q)) (g := mkF m pc Ls (.int j :: .ref a :: S)) rfl rfl (hb C.2.2.1 hd) _ z) nx
theorem G.baloadZ (C : Cx p s m meth c Z y bytes maxL ret) (A : Ara Z h a .boolean N F) {j : Int32} (q : 0 ≤ j.toInt ∧ j.toInt < N) (hd : decode bytes pc = .ok (.baload, 1)) (hp : pc + 1 = pc') (nx : G p l e R s m args below meth c n0 P h k n (mkF m pc' Ls (F j.toInt.toNat :: S))) : G p l e R s m args below meth c n0 P h k n (mkF m pc Ls (.int j :: .ref a :: S)) := by
  obtain ⟨cl, A, r1, r2⟩ := A
  subst hp; exact G.pl (fun T locs X eT t z => X.baloadBooleans C.1 (j := j) (v := F j.toInt.toNat) (by rw [eT]; exact A.1) (State.isArrayOf_alike C.2.1.alike A.2.1) A.2.2 (own_in r1 q) (r2 _ (own_ix q)) (g := mkF m pc Ls (.int j :: .ref a :: S)) rfl rfl (hb C.2.2.1 hd) _ z) nx
theorem G.aaload (C : Cx p s m meth c Z y bytes maxL ret) {D : String} (A : Ara Z h a (.object D) N F) {j : Int32} (q : 0 ≤ j.toInt ∧ j.toInt < N) (hd : decode bytes pc = .ok (.aaload, 1)) (hp : pc + 1 = pc') (nx : G p l e R s m args below meth c n0 P h k n (mkF m pc' Ls (F j.toInt.toNat :: S))) : G p l e R s m args below meth c n0 P h k n (mkF m pc Ls (.int j :: .ref a :: S)) := by
  obtain ⟨cl, A, r1, r2⟩ := A
  subst hp; exact G.pl (fun T locs X eT t z => X.aaload C.1 (j := j) (v := F j.toInt.toNat) (by rw [eT]; exact A.1) (State.isArrayOf_alike C.2.1.alike A.2.1) rfl A.2.2 (own_in r1 q) (r2 _ (own_ix q)) (g := mkF m pc Ls (.int j :: .ref a :: S)) rfl rfl (hb C.2.2.1 hd) _ z) nx
theorem G.castore (C : Cx p s m meth c Z y bytes maxL ret) (A : Ara Z h a .char N F) {j x : Int32} (q : 0 ≤ j.toInt ∧ j.toInt < N) (ha : n0 ≤ a) (hd : decode bytes pc = .ok (.castore, 1)) (hp : pc + 1 = pc') (nx : ∀ h', Wr h h' a j.toInt.toNat (.int (nar .char x)) → G p l e R s m args below meth c n0 P h' k n (mkF m pc' Ls S)) : G p l e R s m args below meth c n0 P h k n (mkF m pc Ls (.int x :: .int j :: .ref a :: S)) := fun T locs X eT M => by
  obtain ⟨cl, A, r1, r2⟩ := A
  subst hp
  obtain ⟨T', h', X', e', W, st⟩ := Jvm.RoadKit.stC X C.1 C.2.1 eT A (j := j) (own_in r1 q) (g := mkF m pc Ls (.int x :: .int j :: .ref a :: S)) rfl rfl (hb C.2.2.1 hd)
  obtain ⟨s₂, o, h1, rr⟩ := nx h' W T' _ X' e' (Fr.snoc X' M ha)
  exact ⟨s₂, o, st _ h1, rr⟩
theorem G.lastore (C : Cx p s m meth c Z y bytes maxL ret) (A : Ara Z h a .long N F) {j : Int32} {x : Int64} (q : 0 ≤ j.toInt ∧ j.toInt < N) (ha : n0 ≤ a) (hd : decode bytes pc = .ok (.lastore, 1)) (hp : pc + 1 = pc') (nx : ∀ h', Wr h h' a j.toInt.toNat (.long x) → G p l e R s m args below meth c n0 P h' k n (mkF m pc' Ls S)) : G p l e R s m args below meth c n0 P h k n (mkF m pc Ls (.long x :: .int j :: .ref a :: S)) := fun T locs X eT M => by
  obtain ⟨cl, A, r1, r2⟩ := A
  subst hp
  obtain ⟨T', h', X', e', W, st⟩ := Jvm.RoadKit.stJ X C.1 C.2.1 eT A (j := j) (own_in r1 q) (g := mkF m pc Ls (.long x :: .int j :: .ref a :: S)) rfl rfl (hb C.2.2.1 hd)
  obtain ⟨s₂, o, h1, rr⟩ := nx h' W T' _ X' e' (Fr.snoc X' M ha)
  exact ⟨s₂, o, st _ h1, rr⟩
theorem G.bastoreZ (C : Cx p s m meth c Z y bytes maxL ret) (A : Ara Z h a .boolean N F) {j x : Int32} (q : 0 ≤ j.toInt ∧ j.toInt < N) (ha : n0 ≤ a) (hd : decode bytes pc = .ok (.bastore, 1)) (hp : pc + 1 = pc') (nx : ∀ h', Wr h h' a j.toInt.toNat (.int (nar .boolean x)) → G p l e R s m args below meth c n0 P h' k n (mkF m pc' Ls S)) : G p l e R s m args below meth c n0 P h k n (mkF m pc Ls (.int x :: .int j :: .ref a :: S)) := fun T locs X eT M => by
  obtain ⟨cl, A, r1, r2⟩ := A
  subst hp
  obtain ⟨T', h', X', e', W, st⟩ := Jvm.RoadKit.stZ X C.1 C.2.1 eT A (j := j) (own_in r1 q) (g := mkF m pc Ls (.int x :: .int j :: .ref a :: S)) rfl rfl (hb C.2.2.1 hd)
  obtain ⟨s₂, o, h1, rr⟩ := nx h' W T' _ X' e' (Fr.snoc X' M ha)
  exact ⟨s₂, o, st _ h1, rr⟩
theorem G.bastoreB (C : Cx p s m meth c Z y bytes maxL ret) (A : Ara Z h a .byte N F) {j x : Int32} (q : 0 ≤ j.toInt ∧ j.toInt < N) (ha : n0 ≤ a) (hd : decode bytes pc = .ok (.bastore, 1)) (hp : pc + 1 = pc') (nx : ∀ h', Wr h h' a j.toInt.toNat (.int (nar .byte x)) → G p l e R s m args below meth c n0 P h' k n (mkF m pc' Ls S)) : G p l e R s m args below meth c n0 P h k n (mkF m pc Ls (.int x :: .int j :: .ref a :: S)) := fun T locs X eT M => by
  obtain ⟨cl, A, r1, r2⟩ := A
  subst hp
  obtain ⟨T', h', X', e', W, st⟩ := Jvm.RoadKit.stB X C.1 C.2.1 eT A (j := j) (own_in r1 q) (g := mkF m pc Ls (.int x :: .int j :: .ref a :: S)) rfl rfl (hb C.2.2.1 hd)
  obtain ⟨s₂, o, h1, rr⟩ := nx h' W T' _ X' e' (Fr.snoc X' M ha)
  exact ⟨s₂, o, st _ h1, rr⟩
theorem G.newarr (C : Cx p s m meth c Z y bytes maxL ret) {aty : ArrayType} (w : (Jvm.Cond.arrayClass (newarray.typeOf aty)).before a0 Z = true) {z : Int32} (hz : 0 ≤ z.toInt) {cap : Nat} (hcap : z.toInt ≤ cap) (hbg : cap * 8 ≤ 536870912) (hd : decode bytes pc = .ok (.newarray aty, 2)) (hk : k + 1 ≤ R.cells) (hn : n + cap ≤ R.slots) (hp : pc + 2 = pc')
    (nx : ∀ h' a, a = h.size → Ext h h' → Ara Z h' a (newarray.typeOf aty) z.toInt.toNat (fun _ => defaultValue (newarray.typeOf aty)) → G p l e R s m args below meth c n0 P h' (k + 1) (n + cap) (mkF m pc' Ls (.ref a :: S))) : G p l e R s m args below meth c n0 P h k n (mkF m pc Ls (.int z :: S)) := fun T locs X eT M => by
  subst hp
  have q0 : ¬ z < 0 := by rw [Int32.lt_iff_toInt_lt]; show ¬ z.toInt < 0; omega
  obtain ⟨T', h', ka, X', e', E, A, st⟩ := Jvm.RoadKit.newP X C.1 C.2.1 w eT (g := mkF m pc Ls (.int z :: S)) rfl (hb C.2.2.1 hd) rfl q0 (cap := cap) (by show z.toInt.toNat ≤ cap; omega) hbg hk hn
  obtain ⟨s₂, o, h1, rr⟩ := nx h' _ rfl E (Ara.new A) T' _ X' e' M
  exact ⟨s₂, o, st _ h1, rr⟩
end Arrays
theorem own_mvS {q : Jvm.Cond} (hZ : Z.Warmed39 s.vm) (h : q.before a0 Z = true) (hq : q ∈ Bundle.stringAtoms) : q.before args s = true := by
  simp only [Bundle.stringAtoms, List.mem_cons, List.not_mem_nil, or_false] at hq
  rcases hq with rfl | rfl | rfl | rfl | rfl | rfl | rfl
  · exact mvT hZ h
  · exact mvT hZ h
  · exact Jvm.RoadKit.mvA hZ h
  · exact mvT hZ h
  · exact mvT hZ h
  · exact mvT hZ h
  · exact mvT hZ h
/-- as Q says, within the room, seen from the state s; constants may have been interned -/
def Ww (s : State) (R : Room) (n0 : Nat) (Q : Option Value → Heap → Prop) : Option Value → State → Prop := fun v t => Q v t.heap ∧ ∃ L, Fr n0 L ∧ ReturnedEndW s (.returned v) t L R.cells R.slots
theorem Ww.of {v : Option Value} {t : State} (h : Wst s R n0 Q v t) : Ww s R n0 Q v t := by
  obtain ⟨h1, L, h2, h3⟩ := h
  exact ⟨h1, L, h2, ReturnedEndW.of_narrow h3.1 h3.2.1 h3.2.2⟩
theorem G.narrow (nx : G p l e R s m args below meth c n0 (Wst s R n0 Q) h k n f) : G p l e R s m args below meth c n0 (Ww s R n0 Q) h k n f := G.imp nx fun _ _ q => Ww.of q
/-- the contract of a law whose road may intern -/
def ConW (l : Launch) (Z : State) (y : MethodName) (bytes : ByteArray) (maxL : Nat) (ret : Option FieldType) (R : Room) (av : Array Value) (h : Heap) (n0 : Nat) (Q : Option Value → Heap → Prop) : Prop :=
  ∀ ws : List Jvm.Cond, MetFree l y (head1 (Jvm.Cond.code y bytes maxL ret :: ws) R) (fun a U => a = av ∧ Z.Warmed39 U.vm ∧ U.heap = h) (fun _ _ _ _ _ => True) (fun _ U o U' => ∃ v L, o = .returned v ∧ (Q v U'.heap ∧ Fr n0 L) ∧ ReturnedEndW U o U' L R.cells R.slots)
theorem ConW.of {av : Array Value} (hy : plainFor y = true) (ef : ∀ m, entryFrame m av maxL = mkF m 0 Ls [])
    (body : ∀ p e s m below meth c, Cx p s m meth c Z y bytes maxL ret → G p l e R s m av below meth c n0 (Ww s R n0 Q) h 0 0 (mkF m 0 Ls [])) : ConW l Z y bytes maxL ret R av h n0 Q := by
  intro ws
  refine MetFree.of_bodySF hy hisR ?_
  intro p e s m args below meth c s₁ Bd hml0 hP hK
  obtain ⟨rfl, hZ, hh⟩ := hP
  have X0 : Stand p l e R s m _ below meth c s₁ [] 0 0 := Stand.of_body Bd
  have e0 : s₁.heap = h := by rw [← hh, Bd.state]; rfl
  obtain ⟨s₂, v, h1, h2, h3, h4, L, h5, h6⟩ := body p e s m below meth c ⟨Bd.exec, hZ, Bd.bytes, hml0, findClass_of_methodNamed Bd.named, (name_of_methodNamed Bd.named Bd.method).1, Bd.returns, Bd.notSynchronized⟩ s₁ [] X0 e0 (Fr.nil n0)
  exact ⟨s₂, _, castTop (ef m) h1, h2, h3, v, L, rfl, ⟨h4, h5⟩, h6⟩
theorem G.ldcS (C : Cx p s m meth c Z y bytes maxL ret) {ix nn : Nat} {text : String} (w : (Jvm.Cond.stringLink y.cls ix text).before a0 Z = true) (hS : ∀ a ∈ Bundle.stringAtoms, a.before a0 Z = true) (hd : decode bytes pc = .ok (.ldc ix, 2)) (hn4 : 4 * text.toList.length ≤ nn) (hbig : nn ≤ 536870912) (hk : k + 2 ≤ R.cells) (hn : n + (nn + 4) ≤ R.slots) (hp : pc + 2 = pc')
    (nx : ∀ (s' : State) (h' : Heap) (a : Addr), Ext h h' → Cx p s' m meth c Z y bytes maxL ret → G p l e R s' m args below meth c n0 (Wst s' R n0 (fun v z => Q v z ∧ h'.size ≤ z.size)) h' (k + 2) (n + (nn + 4)) (mkF m pc' Ls (.ref a :: S))) : G p l e R s m args below meth c n0 (Ww s R n0 Q) h k n (mkF m pc Ls S) := fun T locs X eT N => by
  subst hp
  obtain ⟨a, T₂, X₂, hS2, -, hheap, hI, st⟩ := X.ldcStringCold C.1 C.2.2.2.2.1 (by have q := Jvm.RoadKit.mvS (s := s) (args := args) C.2.1 w; rwa [State.setVm_self] at q) (fun q hq => own_mvS C.2.1 (hS q hq) hq) (g := mkF m pc Ls S) rfl (hb C.2.2.1 hd) hn4 hbig hk hn
  have E : Ext h T₂.heap := ⟨by rw [← eT]; exact hI.1, fun x cl hx => by rw [hheap x (by rw [eT]; exact (Array.getElem?_eq_some_iff.mp hx).1), eT]; exact hx⟩
  have C' : Cx p (s.setVm T₂.vm) m meth c Z y bytes maxL ret := ⟨C.1, State.Warmed39.trans (t := s) C.2.1 hS2.1, C.2.2.1, C.2.2.2.1, by show T₂.vm.findClass y.cls = _; rw [hS2.1.alike.findClass]; exact C.2.2.2.2.1, C.2.2.2.2.2⟩
  obtain ⟨s₂, v, h1, h2, h3, ⟨hq, hsz⟩, L, hF, hE⟩ := nx (s.setVm T₂.vm) T₂.heap a E C' T₂ locs X₂ rfl N
  obtain ⟨r1, r2, r3⟩ := hS2.ended (U := s₂) hE.2.1 hsz hE.2.2
  exact ⟨s₂, v, st _ h1, h2, h3, hq, L, hF, ⟨_, rfl⟩, r1, r2, r3⟩
end Own
theorem pd0 : parseMethodDescriptor "(I)Lcom/example/seefrom/seefrom/TracingField;" = some ⟨[.int], some (.object "com/example/seefrom/seefrom/TracingField")⟩ := by decide +kernel
theorem pd1 : parseMethodDescriptor "(I)C" = some ⟨[.int], some .char⟩ := by decide +kernel
theorem pd2 : parseMethodDescriptor "()Z" = some ⟨[], some .boolean⟩ := by decide +kernel
theorem pd3 : parseMethodDescriptor "([BI)C" = some ⟨[(.array .byte), .int], some .char⟩ := by decide +kernel
theorem pd4 : parseMethodDescriptor "(II)V" = some ⟨[.int, .int], none⟩ := by decide +kernel
theorem pd5 : parseMethodDescriptor "(IILjava/util/function/BiFunction;)I" = some ⟨[.int, .int, (.object "java/util/function/BiFunction")], some .int⟩ := by decide +kernel
theorem pd6 : parseMethodDescriptor "(C)Z" = some ⟨[.char], some .boolean⟩ := by decide +kernel
theorem pd7 : parseMethodDescriptor "(I)I" = some ⟨[.int], some .int⟩ := by decide +kernel
theorem pd8 : parseMethodDescriptor "(II)I" = some ⟨[.int, .int], some .int⟩ := by decide +kernel
theorem pd9 : parseMethodDescriptor "()I" = some ⟨[], some .int⟩ := by decide +kernel
theorem pd10 : parseMethodDescriptor "()B" = some ⟨[], some .byte⟩ := by decide +kernel
theorem pd11 : parseMethodDescriptor "([BIII)I" = some ⟨[(.array .byte), .int, .int, .int], some .int⟩ := by decide +kernel
theorem pd12 : parseMethodDescriptor "(I)Z" = some ⟨[.int], some .boolean⟩ := by decide +kernel
def own_tab (L : List Int32) : Nat → Value := fun i => .int (L.getD i 0)
/-- a Latin-1 string whose bytes are L -/
def own_St (Z : State) (h : Heap) (a va : Addr) (L : List Int32) : Prop := Exa Z h a "java/lang/String" ∧ Fld Z h a "java/lang/String" "value" "[B" (.ref va) ∧ Fld Z h a "java/lang/String" "coder" "B" (.int (0 : Int32)) ∧ Ara Z h va .byte L.length (own_tab L) ∧ 0 < L.length ∧ L.length < 1000
def own_has (L : List Int32) (c : Int32) : Bool := (!decide (c < 0) && !decide ((255 : Int32) < c)) && L.any (fun x => decide (x = c.toInt8.toInt32))
def own_ln (L : List Int32) : Int32 := Int32.ofInt (L.length : Int)
theorem own_ln_eq (L : List Int32) (h : L.length < 1000) : (own_ln L).toInt = L.length := by
  unfold own_ln
  exact Int32.toInt_ofInt_of_le (by omega) (by omega)
theorem own_sh0 (x : Int32) : x >>> ((0 : Int32) &&& 31) = x := by
  apply Int32.toInt_inj.mp
  have q := c_ishr x 0 0 (by decide)
  rw [q]; simp
theorem own_any_false {L : List Int32} {b : Int32} (h : ∀ q : Nat, q < L.length → ¬ L.getD q 0 = b) : L.any (fun x => decide (x = b)) = false := by
  rw [List.any_eq_false]
  intro x hx
  obtain ⟨i, hi, rfl⟩ := List.getElem_of_mem hx
  have z := h i hi
  rw [List.getD_eq_getElem?_getD, List.getElem?_eq_getElem hi] at z
  simpa using z
theorem own_any_true {L : List Int32} {b : Int32} {q : Nat} (hq : q < L.length) (h : L.getD q 0 = b) : L.any (fun x => decide (x = b)) = true := by
  rw [List.any_eq_true]
  refine ⟨L[q], List.getElem_mem hq, ?_⟩
  rw [List.getD_eq_getElem?_getD, List.getElem?_eq_getElem hq] at h
  simpa using h
def own_R (P : Bool) (h : Heap) : Option Value → Heap → Prop := fun v h' => ∃ r : Int32, v = some (.int r) ∧ h' = h ∧ (r < 0 ↔ P = false)
theorem own_z0 (i : Int32) : i < 0 ↔ i.toInt < 0 := Int32.lt_iff_toInt_lt
theorem own_stp (i z : Int32) (h0 : 0 ≤ i.toInt) (h : i < z) : (i + 1).toInt = i.toInt + 1 := by
  have s := c_iadd i 1
  have r := rng32 (i + 1)
  have r2 := rng32 z
  have o : (1 : Int32).toInt = 1 := by decide
  have q := Int32.lt_iff_toInt_lt.mp h
  omega
theorem d3_0 : decode jdk_42_method_154_code 0 = .ok (.getstatic 38, 3) := by decide +kernel
theorem d3_3 : decode jdk_42_method_154_code 3 = .ok (.ifCond .eq 14, 3) := by decide +kernel
theorem d3_6 : decode jdk_42_method_154_code 6 = .ok (.aload_n 0, 1) := by decide +kernel
theorem d3_7 : decode jdk_42_method_154_code 7 = .ok (.getfield 15, 3) := by decide +kernel
theorem d3_10 : decode jdk_42_method_154_code 10 = .ok (.ifCond .ne 7, 3) := by decide +kernel
theorem d3_13 : decode jdk_42_method_154_code 13 = .ok (.iconst 1, 1) := by decide +kernel
theorem d3_14 : decode jdk_42_method_154_code 14 = .ok (.goto 4, 3) := by decide +kernel
theorem d3_17 : decode jdk_42_method_154_code 17 = .ok (.iconst 0, 1) := by decide +kernel
theorem d3_18 : decode jdk_42_method_154_code 18 = .ok (.ireturn, 1) := by decide +kernel
theorem pn0 : plainName "java/lang/String" = true := by first | (simp [plainName, overriddenIn]; done) | decide +kernel
theorem ef_c3 (m : MethodId) (a1 : Addr) : entryFrame m #[(.ref a1)] 1 = mkF m 0 #[.val (.ref a1)] [] := by first | (simp [entryFrame, mkF, argsToLocals, Value.category]; done) | rfl
set_option maxRecDepth 65536 in
set_option maxHeartbeats 40000000 in
theorem c3 (l : Launch) (Z : State) (a0 : Array Value) (hw : ∀ d ∈ tables_1, d.before a0 Z = true) (a1 : Addr) (h : Heap) (n0 : Nat) (va : Addr) (L : List Int32) (cs : Int32) (hcs : ¬ cs = 0) (S_cs : Sta Z h "java/lang/String" "COMPACT_STRINGS" "Z" (.int cs)) (O : own_St Z h a1 va L) : Con l Z (⟨"java/lang/String", "isLatin1", "()Z"⟩ : MethodName) jdk_42_method_154_code 1 (some .boolean) ({ frames := 0, cells := 0, slots := 0, locals := 0 } : Room) #[(.ref a1)] h n0 (Pv (.int (bi true)) h) := by
  refine Con.of (plainFor_of_name pn0) (fun m => ef_c3 m a1) ?_
  intro p e s m below meth c C
  refine G.getS C (twd hw 26 rfl) S_cs d3_0 rfl ?_
  refine G.ifeq C d3_3 (by decide) (pt := 17) (by decide) rfl (fun hc3 => absurd hc3 hcs) (fun hc3 => ?_)
  refine G.aloadN C d3_6 rfl rfl rfl ?_
  refine G.getF C (twd hw 27 rfl) O.2.2.1 d3_7 rfl ?_
  refine G.ifne C d3_10 (by decide) (pt := 17) (by decide) rfl (fun q => absurd q (by decide)) (fun _ => ?_)
  refine G.iconst C d3_13 (v := (1 : Int32)) rfl rfl ?_
  refine G.goto C d3_14 (by decide) (pc' := 18) (by decide) ?_
  exact G.retZ C d3_18 (by decide) (by decide) rfl (⟨rfl, rfl⟩)
theorem d11_0 : decode jdk_42_method_152_code 0 = .ok (.getstatic 38, 3) := by decide +kernel
theorem d11_3 : decode jdk_42_method_152_code 3 = .ok (.ifCond .eq 10, 3) := by decide +kernel
theorem d11_6 : decode jdk_42_method_152_code 6 = .ok (.aload_n 0, 1) := by decide +kernel
theorem d11_7 : decode jdk_42_method_152_code 7 = .ok (.getfield 15, 3) := by decide +kernel
theorem d11_10 : decode jdk_42_method_152_code 10 = .ok (.goto 4, 3) := by decide +kernel
theorem d11_13 : decode jdk_42_method_152_code 13 = .ok (.iconst 1, 1) := by decide +kernel
theorem d11_14 : decode jdk_42_method_152_code 14 = .ok (.ireturn, 1) := by decide +kernel
theorem ef_c11 (m : MethodId) (a1 : Addr) : entryFrame m #[(.ref a1)] 1 = mkF m 0 #[.val (.ref a1)] [] := by first | (simp [entryFrame, mkF, argsToLocals, Value.category]; done) | rfl
set_option maxRecDepth 65536 in
set_option maxHeartbeats 40000000 in
theorem c11 (l : Launch) (Z : State) (a0 : Array Value) (hw : ∀ d ∈ tables_1, d.before a0 Z = true) (a1 : Addr) (h : Heap) (n0 : Nat) (va : Addr) (L : List Int32) (cs : Int32) (hcs : ¬ cs = 0) (S_cs : Sta Z h "java/lang/String" "COMPACT_STRINGS" "Z" (.int cs)) (O : own_St Z h a1 va L) : Con l Z (⟨"java/lang/String", "coder", "()B"⟩ : MethodName) jdk_42_method_152_code 1 (some .byte) ({ frames := 0, cells := 0, slots := 0, locals := 0 } : Room) #[(.ref a1)] h n0 (Pv (.int (0 : Int32)) h) := by
  refine Con.of (plainFor_of_name pn0) (fun m => ef_c11 m a1) ?_
  intro p e s m below meth c C
  refine G.getS C (twd hw 26 rfl) S_cs d11_0 rfl ?_
  refine G.ifeq C d11_3 (by decide) (pt := 13) (by decide) rfl (fun hc3 => absurd hc3 hcs) (fun hc3 => ?_)
  refine G.aloadN C d11_6 rfl rfl rfl ?_
  refine G.getF C (twd hw 27 rfl) O.2.2.1 d11_7 rfl ?_
  refine G.goto C d11_10 (by decide) (pc' := 14) (by decide) ?_
  exact G.retB C d11_14 (by decide) (by decide) rfl (⟨rfl, rfl⟩)
theorem d10_0 : decode jdk_42_method_54_code 0 = .ok (.aload_n 0, 1) := by decide +kernel
theorem d10_1 : decode jdk_42_method_54_code 1 = .ok (.getfield 9, 3) := by decide +kernel
theorem d10_4 : decode jdk_42_method_54_code 4 = .ok (.arraylength, 1) := by decide +kernel
theorem d10_5 : decode jdk_42_method_54_code 5 = .ok (.aload_n 0, 1) := by decide +kernel
theorem d10_6 : decode jdk_42_method_54_code 6 = .ok (.invokevirtual 335, 3) := by decide +kernel
theorem d10_9 : decode jdk_42_method_54_code 9 = .ok (.ishr, 1) := by decide +kernel
theorem d10_10 : decode jdk_42_method_54_code 10 = .ok (.ireturn, 1) := by decide +kernel
theorem ef_c10 (m : MethodId) (a1 : Addr) : entryFrame m #[(.ref a1)] 1 = mkF m 0 #[.val (.ref a1)] [] := by first | (simp [entryFrame, mkF, argsToLocals, Value.category]; done) | rfl
set_option maxRecDepth 65536 in
set_option maxHeartbeats 40000000 in
theorem c10 (l : Launch) (Z : State) (a0 : Array Value) (hw : ∀ d ∈ tables_1, d.before a0 Z = true) (a1 : Addr) (h : Heap) (n0 : Nat) (va : Addr) (L : List Int32) (cs : Int32) (hcs : ¬ cs = 0) (S_cs : Sta Z h "java/lang/String" "COMPACT_STRINGS" "Z" (.int cs)) (O : own_St Z h a1 va L) : Con l Z (⟨"java/lang/String", "length", "()I"⟩ : MethodName) jdk_42_method_54_code 1 (some .int) ({ frames := 1, cells := 0, slots := 0, locals := 13 } : Room) #[(.ref a1)] h n0 (Pv (.int (own_ln L)) h) := by
  refine Con.of (plainFor_of_name pn0) (fun m => ef_c10 m a1) ?_
  intro p e s m below meth c C
  refine G.aloadN C d10_0 rfl rfl rfl ?_
  refine G.getF C (twd hw 28 rfl) O.2.1 d10_1 rfl ?_
  refine G.arrlen C O.2.2.2.1 (own_ln_eq L O.2.2.2.2.2) d10_4 rfl ?_
  refine G.aloadN C d10_5 rfl rfl rfl ?_
  refine G.callVP C (S := [(.int (own_ln L))]) (W := 1) (twd hw 63 rfl) (twd hw 65 rfl) (twd hw 8 rfl) (twd hw 67 rfl) (twd hw 64 rfl) (twd hw 66 rfl) O.1 (by decide) (c11 l Z a0 hw a1 h n0 va L cs hcs S_cs O) pd10 rfl rfl d10_6 rfl (Nat.le_of_eq rfl) (by decide) (by decide) rfl rfl (by decide) (by decide) rfl ?_
  refine G.ishr C d10_9 rfl ?_
  exact G.retI C d10_10 (by decide) (by decide) (⟨by rw [own_sh0], rfl⟩)
theorem d13_0 : decode jdk_43_method_4_code 0 = .ok (.iload_n 0, 1) := by decide +kernel
theorem d13_1 : decode jdk_43_method_4_code 1 = .ok (.ifCond .lt 14, 3) := by decide +kernel
theorem d13_4 : decode jdk_43_method_4_code 4 = .ok (.iload_n 0, 1) := by decide +kernel
theorem d13_5 : decode jdk_43_method_4_code 5 = .ok (.sipush 255, 3) := by decide +kernel
theorem d13_8 : decode jdk_43_method_4_code 8 = .ok (.if_icmp .gt 7, 3) := by decide +kernel
theorem d13_11 : decode jdk_43_method_4_code 11 = .ok (.iconst 1, 1) := by decide +kernel
theorem d13_12 : decode jdk_43_method_4_code 12 = .ok (.goto 4, 3) := by decide +kernel
theorem d13_15 : decode jdk_43_method_4_code 15 = .ok (.iconst 0, 1) := by decide +kernel
theorem d13_16 : decode jdk_43_method_4_code 16 = .ok (.ireturn, 1) := by decide +kernel
theorem pn1 : plainName "java/lang/StringLatin1" = true := by first | (simp [plainName, overriddenIn]; done) | decide +kernel
theorem ef_c13 (m : MethodId) (i1 : Int32) : entryFrame m #[(.int i1)] 1 = mkF m 0 #[.val (.int i1)] [] := by first | (simp [entryFrame, mkF, argsToLocals, Value.category]; done) | rfl
set_option maxRecDepth 65536 in
set_option maxHeartbeats 40000000 in
theorem c13 (l : Launch) (Z : State) (a0 : Array Value) (hw : ∀ d ∈ tables_1, d.before a0 Z = true) (i1 : Int32) (h : Heap) (n0 : Nat)  : Con l Z (⟨"java/lang/StringLatin1", "canEncode", "(I)Z"⟩ : MethodName) jdk_43_method_4_code 1 (some .boolean) ({ frames := 0, cells := 0, slots := 0, locals := 0 } : Room) #[(.int i1)] h n0 (Pv (.int (bi (!decide (i1 < 0) && !decide ((255 : Int32) < i1)))) h) := by
  refine Con.of (plainFor_of_name pn1) (fun m => ef_c13 m i1) ?_
  intro p e s m below meth c C
  refine G.iloadN C d13_0 rfl rfl ?_
  refine G.iflt C d13_1 (by decide) (pt := 15) (by decide) rfl (fun hc1 => ?_) (fun hc1 => ?_)
  · refine G.iconst C d13_15 (v := (0 : Int32)) rfl rfl ?_
    exact G.retZ C d13_16 (by decide) (by decide) rfl (⟨by simp [bi, hc1], rfl⟩)
  · refine G.iloadN C d13_4 rfl rfl ?_
    refine G.sipush C d13_5 (v := (255 : Int32)) rfl rfl ?_
    refine G.icgt C d13_8 (by decide) (pt := 15) (by decide) rfl (fun hc8 => ?_) (fun hc8 => ?_)
    · refine G.iconst C d13_15 (v := (0 : Int32)) rfl rfl ?_
      exact G.retZ C d13_16 (by decide) (by decide) rfl (⟨by simp [bi, hc1, hc8], rfl⟩)
    · refine G.iconst C d13_11 (v := (1 : Int32)) rfl rfl ?_
      refine G.goto C d13_12 (by decide) (pc' := 16) (by decide) ?_
      exact G.retZ C d13_16 (by decide) (by decide) rfl (⟨by simp [bi, hc1, hc8], rfl⟩)
theorem d14_0 : decode jdk_29_method_65_code 0 = .ok (.iload_n 0, 1) := by decide +kernel
theorem d14_1 : decode jdk_29_method_65_code 1 = .ok (.iload_n 1, 1) := by decide +kernel
theorem d14_2 : decode jdk_29_method_65_code 2 = .ok (.if_icmp .lt 7, 3) := by decide +kernel
theorem d14_5 : decode jdk_29_method_65_code 5 = .ok (.iload_n 0, 1) := by decide +kernel
theorem d14_6 : decode jdk_29_method_65_code 6 = .ok (.goto 4, 3) := by decide +kernel
theorem d14_9 : decode jdk_29_method_65_code 9 = .ok (.iload_n 1, 1) := by decide +kernel
theorem d14_10 : decode jdk_29_method_65_code 10 = .ok (.ireturn, 1) := by decide +kernel
theorem pn2 : plainFor (⟨"java/lang/Math", "max", "(II)I"⟩ : MethodName) = true := Jvm.Free.JP.mathPlain rfl (by decide +kernel)
theorem ef_c14 (m : MethodId) (i1 : Int32) (i2 : Int32) : entryFrame m #[(.int i1), (.int i2)] 2 = mkF m 0 #[.val (.int i1), .val (.int i2)] [] := by first | (simp [entryFrame, mkF, argsToLocals, Value.category]; done) | rfl
set_option maxRecDepth 65536 in
set_option maxHeartbeats 40000000 in
theorem c14 (l : Launch) (Z : State) (a0 : Array Value) (hw : ∀ d ∈ tables_1, d.before a0 Z = true) (i1 : Int32) (i2 : Int32) (h : Heap) (n0 : Nat)  : Con l Z (⟨"java/lang/Math", "max", "(II)I"⟩ : MethodName) jdk_29_method_65_code 2 (some .int) ({ frames := 0, cells := 0, slots := 0, locals := 0 } : Room) #[(.int i1), (.int i2)] h n0 (Pv (.int (if i1 < i2 then i2 else i1)) h) := by
  refine Con.of pn2 (fun m => ef_c14 m i1 i2) ?_
  intro p e s m below meth c C
  refine G.iloadN C d14_0 rfl rfl ?_
  refine G.iloadN C d14_1 rfl rfl ?_
  refine G.iclt C d14_2 (by decide) (pt := 9) (by decide) rfl (fun hc2 => ?_) (fun hc2 => ?_)
  · refine G.iloadN C d14_9 rfl rfl ?_
    exact G.retI C d14_10 (by decide) (by decide) (⟨by simp [hc2], rfl⟩)
  · refine G.iloadN C d14_5 rfl rfl ?_
    refine G.goto C d14_6 (by decide) (pc' := 10) (by decide) ?_
    exact G.retI C d14_10 (by decide) (by decide) (⟨by simp [hc2], rfl⟩)
theorem d15_0 : decode jdk_29_method_69_code 0 = .ok (.iload_n 0, 1) := by decide +kernel
theorem d15_1 : decode jdk_29_method_69_code 1 = .ok (.iload_n 1, 1) := by decide +kernel
theorem d15_2 : decode jdk_29_method_69_code 2 = .ok (.if_icmp .gt 7, 3) := by decide +kernel
theorem d15_5 : decode jdk_29_method_69_code 5 = .ok (.iload_n 0, 1) := by decide +kernel
theorem d15_6 : decode jdk_29_method_69_code 6 = .ok (.goto 4, 3) := by decide +kernel
theorem d15_9 : decode jdk_29_method_69_code 9 = .ok (.iload_n 1, 1) := by decide +kernel
theorem d15_10 : decode jdk_29_method_69_code 10 = .ok (.ireturn, 1) := by decide +kernel
theorem pn3 : plainFor (⟨"java/lang/Math", "min", "(II)I"⟩ : MethodName) = true := Jvm.Free.JP.mathPlain rfl (by decide +kernel)
theorem ef_c15 (m : MethodId) (i1 : Int32) (i2 : Int32) : entryFrame m #[(.int i1), (.int i2)] 2 = mkF m 0 #[.val (.int i1), .val (.int i2)] [] := by first | (simp [entryFrame, mkF, argsToLocals, Value.category]; done) | rfl
set_option maxRecDepth 65536 in
set_option maxHeartbeats 40000000 in
theorem c15 (l : Launch) (Z : State) (a0 : Array Value) (hw : ∀ d ∈ tables_1, d.before a0 Z = true) (i1 : Int32) (i2 : Int32) (h : Heap) (n0 : Nat)  : Con l Z (⟨"java/lang/Math", "min", "(II)I"⟩ : MethodName) jdk_29_method_69_code 2 (some .int) ({ frames := 0, cells := 0, slots := 0, locals := 0 } : Room) #[(.int i1), (.int i2)] h n0 (Pv (.int (if i2 < i1 then i2 else i1)) h) := by
  refine Con.of pn3 (fun m => ef_c15 m i1 i2) ?_
  intro p e s m below meth c C
  refine G.iloadN C d15_0 rfl rfl ?_
  refine G.iloadN C d15_1 rfl rfl ?_
  refine G.icgt C d15_2 (by decide) (pt := 9) (by decide) rfl (fun hc2 => ?_) (fun hc2 => ?_)
  · refine G.iloadN C d15_9 rfl rfl ?_
    exact G.retI C d15_10 (by decide) (by decide) (⟨by simp [hc2], rfl⟩)
  · refine G.iloadN C d15_5 rfl rfl ?_
    refine G.goto C d15_6 (by decide) (pc' := 10) (by decide) ?_
    exact G.retI C d15_10 (by decide) (by decide) (⟨by simp [hc2], rfl⟩)
theorem d16_0 : decode jdk_43_method_23_code 0 = .ok (.iload_n 1, 1) := by decide +kernel
theorem d16_1 : decode jdk_43_method_23_code 1 = .ok (.i2b, 1) := by decide +kernel
theorem d16_2 : decode jdk_43_method_23_code 2 = .ok (.istore 4, 2) := by decide +kernel
theorem d16_4 : decode jdk_43_method_23_code 4 = .ok (.iload_n 2, 1) := by decide +kernel
theorem d16_5 : decode jdk_43_method_23_code 5 = .ok (.istore 5, 2) := by decide +kernel
theorem d16_7 : decode jdk_43_method_23_code 7 = .ok (.iload 5, 2) := by decide +kernel
theorem d16_9 : decode jdk_43_method_23_code 9 = .ok (.iload_n 3, 1) := by decide +kernel
theorem d16_10 : decode jdk_43_method_23_code 10 = .ok (.if_icmp .ge 21, 3) := by decide +kernel
theorem d16_13 : decode jdk_43_method_23_code 13 = .ok (.aload_n 0, 1) := by decide +kernel
theorem d16_14 : decode jdk_43_method_23_code 14 = .ok (.iload 5, 2) := by decide +kernel
theorem d16_16 : decode jdk_43_method_23_code 16 = .ok (.baload, 1) := by decide +kernel
theorem d16_17 : decode jdk_43_method_23_code 17 = .ok (.iload 4, 2) := by decide +kernel
theorem d16_19 : decode jdk_43_method_23_code 19 = .ok (.if_icmp .ne 6, 3) := by decide +kernel
theorem d16_22 : decode jdk_43_method_23_code 22 = .ok (.iload 5, 2) := by decide +kernel
theorem d16_24 : decode jdk_43_method_23_code 24 = .ok (.ireturn, 1) := by decide +kernel
theorem d16_25 : decode jdk_43_method_23_code 25 = .ok (.iinc 5 1, 3) := by decide +kernel
theorem d16_28 : decode jdk_43_method_23_code 28 = .ok (.goto (-21), 3) := by decide +kernel
theorem d16_31 : decode jdk_43_method_23_code 31 = .ok (.iconst (-1), 1) := by decide +kernel
theorem d16_32 : decode jdk_43_method_23_code 32 = .ok (.ireturn, 1) := by decide +kernel
theorem ef_cX (m : MethodId) (L : List Int32) (a1 : Addr) (i2 : Int32) : entryFrame m #[(.ref a1), (.int i2), (.int (0 : Int32)), (.int (own_ln L))] 6 = mkF m 0 #[.val (.ref a1), .val (.int i2), .val (.int (0 : Int32)), .val (.int (own_ln L)), .unset, .unset] [] := by first | (simp [entryFrame, mkF, argsToLocals, Value.category]; done) | rfl
set_option maxRecDepth 65536 in
set_option maxHeartbeats 40000000 in
theorem cX (l : Launch) (Z : State) (a0 : Array Value) (hw : ∀ d ∈ tables_1, d.before a0 Z = true) (L : List Int32) (a1 : Addr) (i2 : Int32) (h : Heap) (n0 : Nat) (A : Ara Z h a1 .byte L.length (own_tab L)) (hL : L.length < 1000) : Con l Z (⟨"java/lang/StringLatin1", "indexOfChar", "([BIII)I"⟩ : MethodName) jdk_43_method_23_code 6 (some .int) ({ frames := 0, cells := 0, slots := 0, locals := 0 } : Room) #[(.ref a1), (.int i2), (.int (0 : Int32)), (.int (own_ln L))] h n0 (own_R (L.any (fun x => decide (x = i2.toInt8.toInt32))) h) := by
  refine Con.of (plainFor_of_name pn1) (fun m => ef_cX m L a1 i2) ?_
  intro p e s m below meth c C
  generalize hP : Wst s ({ frames := 0, cells := 0, slots := 0, locals := 0 } : Room) n0 (own_R (L.any (fun x => decide (x = i2.toInt8.toInt32))) h) = PP
  refine G.iloadN C d16_0 rfl rfl ?_
  refine G.i2b C d16_1 rfl ?_
  refine G.istore C d16_2 (Ls' := #[.val (.ref a1), .val (.int i2), .val (.int (0 : Int32)), .val (.int (own_ln L)), .val (.int (i2.toInt8.toInt32)), .unset]) rfl rfl ?_
  generalize hv2 : (i2.toInt8.toInt32) = v2
  refine G.iloadN C d16_4 rfl rfl ?_
  refine G.istore C d16_5 (Ls' := #[.val (.ref a1), .val (.int i2), .val (.int (0 : Int32)), .val (.int (own_ln L)), .val (.int v2), .val (.int (0 : Int32))]) rfl rfl ?_
  have L7 : ∀ (t : Nat) (i : Int32), (((own_ln L).toInt - i.toInt).toNat = t) → (0 ≤ i.toInt ∧ i.toInt ≤ (own_ln L).toInt) → (∀ q : Nat, (q : Int) < i.toInt → ¬ L.getD q 0 = v2) → G p l e ({ frames := 0, cells := 0, slots := 0, locals := 0 } : Room) s m #[(.ref a1), (.int i2), (.int (0 : Int32)), (.int (own_ln L))] below meth c n0 (PP) h 0 0 (mkF m 7 #[.val (.ref a1), .val (.int i2), .val (.int (0 : Int32)), .val (.int (own_ln L)), .val (.int v2), .val (.int i)] []) := by
    intro t
    induction t using Nat.strongRecOn with
    | _ t ih7 =>
      intro i ht7 hi1 hi2
      refine G.iload C d16_7 rfl rfl ?_
      refine G.iloadN C d16_9 rfl rfl ?_
      refine G.icge C d16_10 (by decide) (pt := 31) (by decide) rfl (fun hc10 => ?_) (fun hc10 => ?_)
      · refine G.iconst C d16_31 (v := (-1 : Int32)) rfl rfl ?_
        rw [← hP]
        exact G.retI C d16_32 (by decide) (by decide) (⟨_, rfl, rfl, by rw [own_any_false (fun q hq => by rw [hv2]; exact hi2 q (by have := own_ln_eq L hL; rw [Int32.lt_iff_toInt_lt] at hc10; omega))]; constructor <;> intro q <;> first | rfl | decide⟩)
      · refine G.aloadN C d16_13 rfl rfl rfl ?_
        refine G.iload C d16_14 rfl rfl ?_
        have hlt := Int32.lt_iff_toInt_lt.mp hc10
        refine G.baloadB C A ⟨hi1.1, by rw [← own_ln_eq L hL]; exact hlt⟩ d16_16 rfl ?_
        show G p l e _ _ m _ below meth c n0 _ h 0 0 (mkF m 17 #[.val (.ref a1), .val (.int i2), .val (.int (0 : Int32)), .val (.int (own_ln L)), .val (.int v2), .val (.int i)] [(.int (L.getD i.toInt.toNat 0))])
        refine G.iload C d16_17 rfl rfl ?_
        refine G.icne C d16_19 (by decide) (pt := 25) (by decide) rfl (fun hc19 => ?_) (fun hc19 => ?_)
        · refine G.iinc C d16_25 rfl (z := (1 : Int32)) rfl (Ls' := #[.val (.ref a1), .val (.int i2), .val (.int (0 : Int32)), .val (.int (own_ln L)), .val (.int v2), .val (.int (i + (1 : Int32)))]) rfl rfl ?_
          have hst := own_stp i (own_ln L) hi1.1 hc10
          have hle := own_ln_eq L hL
          have hn0 : ((own_ln L).toInt - (i + 1).toInt).toNat < t := by omega
          have hn1 : 0 ≤ (i + 1).toInt ∧ (i + 1).toInt ≤ (own_ln L).toInt := by omega
          have hn2 : ∀ q : Nat, (q : Int) < (i + 1).toInt → ¬ L.getD q 0 = v2 := fun q hq => by
            by_cases z : (q : Int) < i.toInt
            · exact hi2 q z
            · have e : q = i.toInt.toNat := by omega
              rw [e]; exact hc19
          refine G.goto C d16_28 (by decide) (pc' := 7) (by decide) ?_
          exact ih7 _ hn0 (i + 1) rfl hn1 hn2
        · refine G.iload C d16_22 rfl rfl ?_
          rw [← hP]
          exact G.retI C d16_24 (by decide) (by decide) (⟨_, rfl, rfl, by rw [← hv2] at hc19; rw [own_any_true (q := i.toInt.toNat) (by have := own_ln_eq L hL; omega) hc19, own_z0]; constructor <;> intro q <;> first | omega | cases q⟩)
  exact L7 _ (0 : Int32) rfl ⟨by decide, by have := own_ln_eq L hL; show (0 : Int) ≤ _; omega⟩ (fun q hq => absurd hq (by show ¬ ((q : Int) < 0); omega))
theorem own_mm (x : Int32) : (if x < x then x else x) = x := by split <;> rfl
theorem d12_0 : decode jdk_43_method_22_code 0 = .ok (.iload_n 1, 1) := by decide +kernel
theorem d12_1 : decode jdk_43_method_22_code 1 = .ok (.invokestatic 88, 3) := by decide +kernel
theorem d12_4 : decode jdk_43_method_22_code 4 = .ok (.ifCond .ne 5, 3) := by decide +kernel
theorem d12_7 : decode jdk_43_method_22_code 7 = .ok (.iconst (-1), 1) := by decide +kernel
theorem d12_8 : decode jdk_43_method_22_code 8 = .ok (.ireturn, 1) := by decide +kernel
theorem d12_9 : decode jdk_43_method_22_code 9 = .ok (.iload_n 2, 1) := by decide +kernel
theorem d12_10 : decode jdk_43_method_22_code 10 = .ok (.iconst 0, 1) := by decide +kernel
theorem d12_11 : decode jdk_43_method_22_code 11 = .ok (.invokestatic 92, 3) := by decide +kernel
theorem d12_14 : decode jdk_43_method_22_code 14 = .ok (.istore_n 2, 1) := by decide +kernel
theorem d12_15 : decode jdk_43_method_22_code 15 = .ok (.iload_n 3, 1) := by decide +kernel
theorem d12_16 : decode jdk_43_method_22_code 16 = .ok (.aload_n 0, 1) := by decide +kernel
theorem d12_17 : decode jdk_43_method_22_code 17 = .ok (.arraylength, 1) := by decide +kernel
theorem d12_18 : decode jdk_43_method_22_code 18 = .ok (.invokestatic 38, 3) := by decide +kernel
theorem d12_21 : decode jdk_43_method_22_code 21 = .ok (.istore_n 3, 1) := by decide +kernel
theorem d12_22 : decode jdk_43_method_22_code 22 = .ok (.iload_n 2, 1) := by decide +kernel
theorem d12_23 : decode jdk_43_method_22_code 23 = .ok (.iload_n 3, 1) := by decide +kernel
theorem d12_24 : decode jdk_43_method_22_code 24 = .ok (.if_icmp .lt 5, 3) := by decide +kernel
theorem d12_27 : decode jdk_43_method_22_code 27 = .ok (.iconst (-1), 1) := by decide +kernel
theorem d12_28 : decode jdk_43_method_22_code 28 = .ok (.ireturn, 1) := by decide +kernel
theorem d12_29 : decode jdk_43_method_22_code 29 = .ok (.aload_n 0, 1) := by decide +kernel
theorem d12_30 : decode jdk_43_method_22_code 30 = .ok (.iload_n 1, 1) := by decide +kernel
theorem d12_31 : decode jdk_43_method_22_code 31 = .ok (.iload_n 2, 1) := by decide +kernel
theorem d12_32 : decode jdk_43_method_22_code 32 = .ok (.iload_n 3, 1) := by decide +kernel
theorem d12_33 : decode jdk_43_method_22_code 33 = .ok (.invokestatic 95, 3) := by decide +kernel
theorem d12_36 : decode jdk_43_method_22_code 36 = .ok (.ireturn, 1) := by decide +kernel
theorem ef_cY (m : MethodId) (L : List Int32) (a1 : Addr) (i2 : Int32) : entryFrame m #[(.ref a1), (.int i2), (.int (0 : Int32)), (.int (own_ln L))] 4 = mkF m 0 #[.val (.ref a1), .val (.int i2), .val (.int (0 : Int32)), .val (.int (own_ln L))] [] := by first | (simp [entryFrame, mkF, argsToLocals, Value.category]; done) | rfl
set_option maxRecDepth 65536 in
set_option maxHeartbeats 40000000 in
theorem cY (l : Launch) (Z : State) (a0 : Array Value) (hw : ∀ d ∈ tables_1, d.before a0 Z = true) (L : List Int32) (a1 : Addr) (i2 : Int32) (h : Heap) (n0 : Nat) (A : Ara Z h a1 .byte L.length (own_tab L)) (hp : 0 < L.length) (hL : L.length < 1000) : Con l Z (⟨"java/lang/StringLatin1", "indexOf", "([BIII)I"⟩ : MethodName) jdk_43_method_22_code 4 (some .int) ({ frames := 1, cells := 0, slots := 0, locals := 17 } : Room) #[(.ref a1), (.int i2), (.int (0 : Int32)), (.int (own_ln L))] h n0 (own_R (own_has L i2) h) := by
  refine Con.of (plainFor_of_name pn1) (fun m => ef_cY m L a1 i2) ?_
  intro p e s m below meth c C
  refine G.iloadN C d12_0 rfl rfl ?_
  refine G.callSP C (S := []) (W := 0) (twd hw 71 rfl) (twd hw 72 rfl) (twd hw 31 rfl) (twd hw 73 rfl) (by decide) (c13 l Z a0 hw i2 h n0) pd12 rfl rfl d12_1 rfl (Nat.le_of_eq rfl) (by decide) (by decide) rfl rfl (by decide) (by decide) rfl ?_
  refine G.bfne C d12_4 (by decide) (pt := 9) (by decide) rfl (fun hc4 => ?_) (fun hc4 => ?_)
  · refine G.iloadN C d12_9 rfl rfl ?_
    refine G.iconst C d12_10 (v := (0 : Int32)) rfl rfl ?_
    refine G.callSP C (S := []) (W := 0) (twd hw 74 rfl) (twd hw 75 rfl) (twd hw 76 rfl) (twd hw 77 rfl) (by decide) (c14 l Z a0 hw (0 : Int32) (0 : Int32) h n0) pd8 rfl rfl d12_11 rfl (Nat.le_of_eq rfl) (by decide) (by decide) rfl rfl (by decide) (by decide) rfl ?_
    show G p l e _ _ m _ below meth c n0 _ h 0 0 (mkF m 14 #[.val (.ref a1), .val (.int i2), .val (.int (0 : Int32)), .val (.int (own_ln L))] [(.int (0 : Int32))])
    refine G.istoreN C d12_14 (Ls' := #[.val (.ref a1), .val (.int i2), .val (.int (0 : Int32)), .val (.int (own_ln L))]) rfl rfl ?_
    refine G.iloadN C d12_15 rfl rfl ?_
    refine G.aloadN C d12_16 rfl rfl rfl ?_
    refine G.arrlen C A (own_ln_eq L hL) d12_17 rfl ?_
    refine G.callSP C (S := []) (W := 0) (twd hw 78 rfl) (twd hw 79 rfl) (twd hw 76 rfl) (twd hw 80 rfl) (by decide) (c15 l Z a0 hw (own_ln L) (own_ln L) h n0) pd8 rfl rfl d12_18 rfl (Nat.le_of_eq rfl) (by decide) (by decide) rfl rfl (by decide) (by decide) rfl ?_
    rw [own_mm]
    show G p l e _ _ m _ below meth c n0 _ h 0 0 (mkF m 21 #[.val (.ref a1), .val (.int i2), .val (.int (0 : Int32)), .val (.int (own_ln L))] [(.int (own_ln L))])
    refine G.istoreN C d12_21 (Ls' := #[.val (.ref a1), .val (.int i2), .val (.int (0 : Int32)), .val (.int (own_ln L))]) rfl rfl ?_
    refine G.iloadN C d12_22 rfl rfl ?_
    refine G.iloadN C d12_23 rfl rfl ?_
    refine G.iclt C d12_24 (by decide) (pt := 29) (by decide) rfl (fun hc24 => ?_) (fun hc24 => absurd (by rw [Int32.lt_iff_toInt_lt, own_ln_eq L hL]; show (0 : Int) < _; omega) hc24)
    refine G.aloadN C d12_29 rfl rfl rfl ?_
    refine G.iloadN C d12_30 rfl rfl ?_
    refine G.iloadN C d12_31 rfl rfl ?_
    refine G.iloadN C d12_32 rfl rfl ?_
    refine G.callS C (S := []) (W := 0) (twd hw 81 rfl) (twd hw 82 rfl) (twd hw 31 rfl) (twd hw 83 rfl) (by decide) (cX l Z a0 hw L a1 i2 h n0 A hL) pd11 rfl rfl d12_33 rfl (Nat.le_of_eq rfl) (by decide) (by decide) (by decide) (by decide) rfl (fun whp1 hp1 hq2 => ?_)
    obtain ⟨r36, rfl, ehq2, hr36⟩ := hq2; rw [ehq2]
    show G p l e _ _ m _ below meth c n0 _ h 0 0 (mkF m 36 #[.val (.ref a1), .val (.int i2), .val (.int (0 : Int32)), .val (.int (own_ln L))] [(.int r36)])
    exact G.retI C d12_36 (by decide) (by decide) (⟨_, rfl, rfl, by unfold own_has; rw [hc4, Bool.true_and]; exact hr36⟩)
  · refine G.iconst C d12_7 (v := (-1 : Int32)) rfl rfl ?_
    exact G.retI C d12_8 (by decide) (by decide) (⟨_, rfl, rfl, by unfold own_has; rw [hc4]; constructor <;> intro q <;> first | rfl | decide⟩)
theorem d9_0 : decode jdk_42_method_80_code 0 = .ok (.aload_n 0, 1) := by decide +kernel
theorem d9_1 : decode jdk_42_method_80_code 1 = .ok (.invokevirtual 492, 3) := by decide +kernel
theorem d9_4 : decode jdk_42_method_80_code 4 = .ok (.ifCond .eq 19, 3) := by decide +kernel
theorem d9_7 : decode jdk_42_method_80_code 7 = .ok (.aload_n 0, 1) := by decide +kernel
theorem d9_8 : decode jdk_42_method_80_code 8 = .ok (.getfield 9, 3) := by decide +kernel
theorem d9_11 : decode jdk_42_method_80_code 11 = .ok (.iload_n 1, 1) := by decide +kernel
theorem d9_12 : decode jdk_42_method_80_code 12 = .ok (.iload_n 2, 1) := by decide +kernel
theorem d9_13 : decode jdk_42_method_80_code 13 = .ok (.aload_n 0, 1) := by decide +kernel
theorem d9_14 : decode jdk_42_method_80_code 14 = .ok (.invokevirtual 505, 3) := by decide +kernel
theorem d9_17 : decode jdk_42_method_80_code 17 = .ok (.invokestatic 637, 3) := by decide +kernel
theorem d9_20 : decode jdk_42_method_80_code 20 = .ok (.goto 16, 3) := by decide +kernel
theorem d9_23 : decode jdk_42_method_80_code 23 = .ok (.aload_n 0, 1) := by decide +kernel
theorem d9_24 : decode jdk_42_method_80_code 24 = .ok (.getfield 9, 3) := by decide +kernel
theorem d9_27 : decode jdk_42_method_80_code 27 = .ok (.iload_n 1, 1) := by decide +kernel
theorem d9_28 : decode jdk_42_method_80_code 28 = .ok (.iload_n 2, 1) := by decide +kernel
theorem d9_29 : decode jdk_42_method_80_code 29 = .ok (.aload_n 0, 1) := by decide +kernel
theorem d9_30 : decode jdk_42_method_80_code 30 = .ok (.invokevirtual 505, 3) := by decide +kernel
theorem d9_33 : decode jdk_42_method_80_code 33 = .ok (.invokestatic 640, 3) := by decide +kernel
theorem d9_36 : decode jdk_42_method_80_code 36 = .ok (.ireturn, 1) := by decide +kernel
theorem ef_cW (m : MethodId) (a1 : Addr) (i2 : Int32) : entryFrame m #[(.ref a1), (.int i2), (.int (0 : Int32))] 3 = mkF m 0 #[.val (.ref a1), .val (.int i2), .val (.int (0 : Int32))] [] := by first | (simp [entryFrame, mkF, argsToLocals, Value.category]; done) | rfl
set_option maxRecDepth 65536 in
set_option maxHeartbeats 40000000 in
theorem cW (l : Launch) (Z : State) (a0 : Array Value) (hw : ∀ d ∈ tables_1, d.before a0 Z = true) (a1 : Addr) (i2 : Int32) (h : Heap) (n0 : Nat) (va : Addr) (L : List Int32) (cs : Int32) (hcs : ¬ cs = 0) (S_cs : Sta Z h "java/lang/String" "COMPACT_STRINGS" "Z" (.int cs)) (O : own_St Z h a1 va L) : Con l Z (⟨"java/lang/String", "indexOf", "(II)I"⟩ : MethodName) jdk_42_method_80_code 3 (some .int) ({ frames := 2, cells := 0, slots := 0, locals := 32 } : Room) #[(.ref a1), (.int i2), (.int (0 : Int32))] h n0 (own_R (own_has L i2) h) := by
  refine Con.of (plainFor_of_name pn0) (fun m => ef_cW m a1 i2) ?_
  intro p e s m below meth c C
  refine G.aloadN C d9_0 rfl rfl rfl ?_
  refine G.callVP C (S := []) (W := 0) (twd hw 21 rfl) (twd hw 23 rfl) (twd hw 8 rfl) (twd hw 25 rfl) (twd hw 22 rfl) (twd hw 24 rfl) O.1 (by decide) (c3 l Z a0 hw a1 h n0 va L cs hcs S_cs O) pd2 rfl rfl d9_1 rfl (Nat.le_of_eq rfl) (by decide) (by decide) rfl rfl (by decide) (by decide) rfl ?_
  refine G.bfeq C d9_4 (by decide) (pt := 23) (by decide) rfl (fun q => absurd q (by decide)) (fun _ => ?_)
  refine G.aloadN C d9_7 rfl rfl rfl ?_
  refine G.getF C (twd hw 28 rfl) O.2.1 d9_8 rfl ?_
  refine G.iloadN C d9_11 rfl rfl ?_
  refine G.iloadN C d9_12 rfl rfl ?_
  refine G.aloadN C d9_13 rfl rfl rfl ?_
  refine G.callVP C (S := [(.int (0 : Int32)), (.int i2), (.ref va)]) (W := 3) (twd hw 58 rfl) (twd hw 60 rfl) (twd hw 8 rfl) (twd hw 62 rfl) (twd hw 59 rfl) (twd hw 61 rfl) O.1 (by decide) (c10 l Z a0 hw a1 h n0 va L cs hcs S_cs O) pd9 rfl rfl d9_14 rfl (Nat.le_of_eq rfl) (by decide) (by decide) rfl rfl (by decide) (by decide) rfl ?_
  refine G.callS C (S := []) (W := 0) (twd hw 68 rfl) (twd hw 69 rfl) (twd hw 31 rfl) (twd hw 70 rfl) (by decide) (cY l Z a0 hw L va i2 h n0 O.2.2.2.1 O.2.2.2.2.1 O.2.2.2.2.2) pd11 rfl rfl d9_17 rfl (Nat.le_of_eq rfl) (by decide) (by decide) (by decide) (by decide) rfl (fun whp1 hp1 hq2 => ?_)
  obtain ⟨r20, rfl, ehq2, hr20⟩ := hq2; rw [ehq2]
  show G p l e _ _ m _ below meth c n0 _ h 0 0 (mkF m 20 #[.val (.ref a1), .val (.int i2), .val (.int (0 : Int32))] [(.int r20)])
  refine G.goto C d9_20 (by decide) (pc' := 36) (by decide) ?_
  exact G.retI C d9_36 (by decide) (by decide) (⟨_, rfl, rfl, hr20⟩)
theorem d8_0 : decode jdk_42_method_79_code 0 = .ok (.aload_n 0, 1) := by decide +kernel
theorem d8_1 : decode jdk_42_method_79_code 1 = .ok (.iload_n 1, 1) := by decide +kernel
theorem d8_2 : decode jdk_42_method_79_code 2 = .ok (.iconst 0, 1) := by decide +kernel
theorem d8_3 : decode jdk_42_method_79_code 3 = .ok (.invokevirtual 633, 3) := by decide +kernel
theorem d8_6 : decode jdk_42_method_79_code 6 = .ok (.ireturn, 1) := by decide +kernel
theorem ef_cV (m : MethodId) (a1 : Addr) (i2 : Int32) : entryFrame m #[(.ref a1), (.int i2)] 2 = mkF m 0 #[.val (.ref a1), .val (.int i2)] [] := by first | (simp [entryFrame, mkF, argsToLocals, Value.category]; done) | rfl
set_option maxRecDepth 65536 in
set_option maxHeartbeats 40000000 in
theorem cV (l : Launch) (Z : State) (a0 : Array Value) (hw : ∀ d ∈ tables_1, d.before a0 Z = true) (a1 : Addr) (i2 : Int32) (h : Heap) (n0 : Nat) (va : Addr) (L : List Int32) (cs : Int32) (hcs : ¬ cs = 0) (S_cs : Sta Z h "java/lang/String" "COMPACT_STRINGS" "Z" (.int cs)) (O : own_St Z h a1 va L) : Con l Z (⟨"java/lang/String", "indexOf", "(I)I"⟩ : MethodName) jdk_42_method_79_code 2 (some .int) ({ frames := 3, cells := 0, slots := 0, locals := 46 } : Room) #[(.ref a1), (.int i2)] h n0 (own_R (own_has L i2) h) := by
  refine Con.of (plainFor_of_name pn0) (fun m => ef_cV m a1 i2) ?_
  intro p e s m below meth c C
  refine G.aloadN C d8_0 rfl rfl rfl ?_
  refine G.iloadN C d8_1 rfl rfl ?_
  refine G.iconst C d8_2 (v := (0 : Int32)) rfl rfl ?_
  refine G.callV C (S := []) (W := 0) (twd hw 53 rfl) (twd hw 55 rfl) (twd hw 8 rfl) (twd hw 57 rfl) (twd hw 54 rfl) (twd hw 56 rfl) O.1 (by decide) (cW l Z a0 hw a1 i2 h n0 va L cs hcs S_cs O) pd8 rfl rfl d8_3 rfl (Nat.le_of_eq rfl) (by decide) (by decide) (by decide) (by decide) rfl (fun whp1 hp1 hq2 => ?_)
  obtain ⟨r6, rfl, ehq2, hr6⟩ := hq2; rw [ehq2]
  show G p l e _ _ m _ below meth c n0 _ h 0 0 (mkF m 6 #[.val (.ref a1), .val (.int i2)] [(.int r6)])
  exact G.retI C d8_6 (by decide) (by decide) (⟨_, rfl, rfl, hr6⟩)
section
variable {p : Program} {l : Launch} {e : Env} {R : Room} {s : State} {m : MethodId} {args : Array Value} {below : List Frame} {meth : Method} {c : Code} {Z : State} {a0 : Array Value} {y : MethodName} {bytes : ByteArray} {maxL : Nat} {ret : Option FieldType} {Q : Option Value → Heap → Prop} {P : Option Value → State → Prop} {n0 : Nat} {h : Heap} {k n : Nat} {f f' : JFrame} {pc pc' pt : Nat} {Ls : Array Slot} {S : List Value}
/-- the contract of a law whose road may intern, from the start itself -/
def ConZ (l : Launch) (Z : State) (y : MethodName) (bytes : ByteArray) (maxL : Nat) (ret : Option FieldType) (R : Room) (av : Array Value) (h : Heap) (n0 : Nat) (Q : Option Value → Heap → Prop) : Prop :=
  ∀ ws : List Jvm.Cond, MetFree l y (head1 (Jvm.Cond.code y bytes maxL ret :: ws) R) (fun a U => a = av ∧ U = Z ∧ Z.heap = h) (fun _ _ _ _ _ => True) (fun _ U o U' => ∃ v L, o = .returned v ∧ (Q v U'.heap ∧ Fr n0 L) ∧ ReturnedEndW U o U' L R.cells R.slots)
theorem ConZ.of {av : Array Value} (hy : plainFor y = true) (ef : ∀ m, entryFrame m av maxL = mkF m 0 Ls [])
    (body : ∀ p e s m below meth c, s = Z → Z.heap = h → Cx p s m meth c Z y bytes maxL ret → G p l e R s m av below meth c n0 (Ww s R n0 Q) h 0 0 (mkF m 0 Ls [])) : ConZ l Z y bytes maxL ret R av h n0 Q := by
  intro ws
  refine MetFree.of_bodySF hy hisR ?_
  intro p e s m args below meth c s₁ Bd hml0 hP hK
  obtain ⟨rfl, hs, hh⟩ := hP
  have X0 : Stand p l e R s m _ below meth c s₁ [] 0 0 := Stand.of_body Bd
  have e0 : s₁.heap = h := by rw [← hh, ← hs, Bd.state]; rfl
  obtain ⟨s₂, v, h1, h2, h3, h4, L, h5, h6⟩ := body p e s m below meth c hs hh ⟨Bd.exec, hs ▸ State.Warmed39.refl s, Bd.bytes, hml0, findClass_of_methodNamed Bd.named, (name_of_methodNamed Bd.named Bd.method).1, Bd.returns, Bd.notSynchronized⟩ s₁ [] X0 e0 (Fr.nil n0)
  exact ⟨s₂, _, castTop (ef m) h1, h2, h3, v, L, rfl, ⟨h4, h5⟩, h6⟩
theorem own_St.ext {va : Addr} {L : List Int32} {h' : Heap} {a : Addr} (O : own_St Z h a va L) (E : Ext h h') : own_St Z h' a va L := ⟨Exa.ext E O.1, Fld.ext E O.2.1, Fld.ext E O.2.2.1, Ara.ext O.2.2.2.1 E, O.2.2.2.2⟩
theorem own_mapD (L : List Int32) (i : Nat) : (L.map Value.int).getD i (.int 0) = .int (L.getD i 0) := by
  rw [List.getD_eq_getElem?_getD, List.getD_eq_getElem?_getD, List.getElem?_map]
  cases L[i]? <;> rfl
/-- ldc of a text that may be held already: her bytes are the text's -/
theorem G.ldcT (C : Cx p s m meth c Z y bytes maxL ret) (es : s = Z) (eh : Z.heap = h) {ix nn : Nat} {text : String} {L : List Int32} (w : (Jvm.Cond.stringLink y.cls ix text).before a0 Z = true) (hS : ∀ a ∈ Bundle.stringAtoms, a.before a0 Z = true) (hh : Jvm.Lit.constHeld Z y.cls ix) (hcw : Jvm.Lit.compactW.before a0 Z = true)
    (ht : (∀ c ∈ text.toList, c.toNat < 256) ∧ text.toList.map (fun c => Value.int (Jvm.Lit.byteI c.toNat.toUInt16)) = L.map Value.int) (hL : 0 < L.length ∧ L.length < 1000) (hd : decode bytes pc = .ok (.ldc ix, 2)) (hn4 : 4 * text.toList.length ≤ nn) (hbig : nn ≤ 536870912) (hk : k + 2 ≤ R.cells) (hn : n + (nn + 4) ≤ R.slots) (hp : pc + 2 = pc')
    (nx : ∀ (s' : State) (h' : Heap) (a b : Addr), Ext h h' → Cx p s' m meth c Z y bytes maxL ret → own_St Z h' a b L → G p l e R s' m args below meth c n0 (Wst s' R n0 (fun v z => Q v z ∧ h'.size ≤ z.size)) h' (k + 2) (n + (nn + 4)) (mkF m pc' Ls (.ref a :: S))) : G p l e R s m args below meth c n0 (Ww s R n0 Q) h k n (mkF m pc Ls S) := fun T locs X eT N => by
  subst hp es eh
  have X1 : Stand p l e R (s.setVm s.vm) m args below meth c T locs k n := by rw [State.setVm_self]; exact X
  have hz := own_ln_eq L hL.2
  have hz0 : ¬ own_ln L < 0 := by rw [Int32.lt_iff_toInt_lt, hz]; show ¬ ((L.length : Int) < 0); omega
  have hzl : (own_ln L).toNatClampNeg = (L.map Value.int).length := by show (own_ln L).toInt.toNat = _; rw [hz, List.length_map]; rfl
  have EWL : EW s a0 [(y.cls, ix)] := EW.cons w ht.1 EW.nil
  obtain ⟨a, T', h', k1, b, kc, X', eT', E, hS', hk1, hW', hf', hExa, hFc, hFv, hA, -, -, -, -, -, st⟩ := Jvm.RoadKit.ldcCH (Z := s) X1 C.1 C.2.1 C.2.2.2.2.1 w hS eT ((State.WarmedH.refl s).since 0) (Nat.zero_le _) EWL (List.mem_cons_self ..) (CHv.start EWL (fun p hp => by
    rcases List.mem_cons.mp hp with rfl | hp
    · exact hh
    · cases hp) hcw (hS _ (by simp [Bundle.stringAtoms])) (hS _ (by simp [Bundle.stringAtoms, Bundle.sN]))) ht hz0 hzl (g := mkF m pc Ls S) rfl (hb C.2.2.1 hd) hn4 hbig hk hn
  have C' : Cx p (s.setVm T'.vm) m meth c s y bytes maxL ret := ⟨C.1, hW', C.2.2.1, C.2.2.2.1, hf', C.2.2.2.2.2⟩
  have O : own_St s h' a b L := ⟨hExa, hFv, hFc, by
    obtain ⟨cl, A, -, sz, -, H, -⟩ := hA
    have sz2 : cl.slots.size = L.length := by rw [sz, hzl, List.length_map]
    exact ⟨cl, A, sz2, fun i hi => by rw [H i (by omega), own_mapD]; rfl⟩, hL⟩
  obtain ⟨s₂, v, h1, h2, h3, ⟨hq, hsz⟩, LL, hF, hE⟩ := nx (s.setVm T'.vm) h' a b E C' O T' locs X' eT' N
  obtain ⟨r1, r2, r3⟩ := hS'.ended (U := s₂) hE.2.1 (Nat.le_trans hk1 hsz) hE.2.2
  exact ⟨s₂, v, st _ h1, h2, h3, hq, LL, hF, ⟨_, rfl⟩, r1, r2, r3⟩
end

section
variable {args : Array Value} {s : State} {t : Term} {a : Addr} {cl : Cell} {i : Nat}
theorem own_orR {A B : Jvm.Cond} {idx : List Nat} (h : (Jvm.Cond.or A B).value args s none s idx = some true) (hA : A.value args s none s idx = some false) : B.value args s none s idx = some true := by
  simp only [Cond.value, hA] at h
  exact h
theorem own_ixe (i : Nat) : (Term.index 0).eval args s none [i] s = some (.int i.toInt32) := by simp [Term.eval]
theorem own_ixlt {lo : Int32} (h : ¬ i.toInt32 < lo) : (Jvm.Cond.lt (.index 0) (.int lo)).value args s none s [i] = some false := by
  simp [Cond.value, Term.eval, h]
theorem own_ixle {hi : Int32} (h : ¬ hi ≤ i.toInt32) : (Jvm.Cond.le (.int hi) (.index 0)).value args s none s [i] = some false := by
  simp [Cond.value, Term.eval, h]
theorem own_elx (ev : t.eval args s none [i] s = some (.ref a)) (hat : s.arrayAt? a = some cl) (hs : cl.slots.size < 2 ^ 31) (hi : i < cl.slots.size) : (Term.elem t (.index 0)).eval args s none [i] s = cl.slots[i]? := by
  have hj : ¬ i.toInt32 < 0 := by rw [Int32.lt_iff_toInt_lt, len_toInt (by omega)]; show ¬ (i : Int) < 0; omega
  rw [elem_f ev (own_ixe i) hat hj]
  have hk : i.toInt32.toNatClampNeg = i := by show i.toInt32.toInt.toNat = i; rw [len_toInt (by omega)]; simp
  rw [hk]
theorem own_ela {k : Int64} {v : Int32} (ev : t.eval args s none [i] s = some (.ref a)) (hat : s.arrayAt? a = some cl) (hs : cl.slots.size < 2 ^ 31) (hi : i < cl.slots.size)
    (h : (Jvm.Cond.eq (.op1 .i2l (.elem t (.index 0))) (.op2 .ladd (.op1 .i2l (.index 0)) (.long k))).value args s none s [i] = some true) (hv : i.toInt32.toInt64 + k = v.toInt64) : cl.slots[i]? = some (.int v) := by
  obtain ⟨x, y, hx, hy, -, -⟩ := cmp_v (Or.inl h)
  obtain ⟨x', hx', ax⟩ := op1_v hx
  rw [own_elx ev hat hs hi] at hx'
  have ey : (Term.op2 .ladd (.op1 .i2l (.index 0)) (.long k)).eval args s none [i] s = some (.long (i.toInt32.toInt64 + k)) := by
    rw [op2_f (op1_f (own_ixe i)) rfl]; rfl
  cases x' with
  | int z =>
    have ex : (Term.op1 .i2l (.elem t (.index 0))).eval args s none [i] s = some (.long z.toInt64) := by rw [op1_f (by rw [own_elx ev hat hs hi]; exact hx')]; rfl
    rw [eq_L ex ey] at h
    have e := of_decide_eq_true (Option.some.inj h)
    rw [hv] at e
    have e2 : z = v := by
      apply Int32.toInt_inj.mp
      have := congrArg Int64.toInt e
      rw [c_i2l, c_i2l] at this
      exact this
    rw [hx', e2]
  | _ => cases ax
theorem own_elc {j : Int32} {v : Int32} {k : Nat} (ev : t.eval args s none [] s = some (.ref a)) (hat : s.arrayAt? a = some cl) (h : (Term.elem t (.int j)).eval args s none [] s = some (.int v)) (hj : ¬ j < 0) (hk : j.toInt.toNat = k) : cl.slots[k]? = some (.int v) := by
  rw [elem_f (j := j) ev rfl hat hj] at h
  rw [← hk]; exact h
end
theorem own_eqr {args : Array Value} {s : State} {t1 t2 : Term} {b : Addr} (h : (Jvm.Cond.eq t1 t2).value args s none s [] = some true) (h2 : t2.eval args s none [] s = some (.ref b)) : t1.eval args s none [] s = some (.ref b) := by
  obtain ⟨x, y, hx, hy, -, k⟩ := cmp_v (Or.inl h)
  cases h2.symm.trans hy
  have kk : (Value.ref b).isRef = true ∧ x.isRef = true := k
  rw [eq_R hx hy kk.2 kk.1] at h
  rw [hx, of_decide_eq_true (Option.some.inj h)]
theorem own_lenz {args : Array Value} {s : State} {t : Term} {a : Addr} {cl : Cell} {z : Int32} {n : Nat} (ev : t.eval args s none [] s = some (.ref a)) (hat : s.arrayAt? a = some cl) (q : (Term.length t).eval args s none [] s = some (.int z)) (hz : z.toInt = n) : cl.slots.size = n := by
  by_cases hl : cl.slots.size < 2 ^ 31
  · rw [len_f ev hat hl] at q
    have e : cl.slots.size.toInt32 = z := by injection q with q; injection q
    have w := len_toInt hl
    rw [e] at w
    omega
  · simp [Term.eval, ev, hat, hl] at q
theorem own_St.start {args : Array Value} {s : State} {t : Term} {L : List Int32} {z : Int32} (he : (Jvm.Cond.exactly t "java/lang/String").value args s none s [] = some true) (hc : (Jvm.Cond.eq (.field t "java/lang/String" "coder" "B") (.int 0)).value args s none s [] = some true)
    (ha : (Jvm.Cond.arrayOf (.field t "java/lang/String" "value" "[B") .byte).value args s none s [] = some true) (hl : (Jvm.Cond.eq (.length (.field t "java/lang/String" "value" "[B")) (.int z)).value args s none s [] = some true) (hz : z.toInt = L.length) (hp : 0 < L.length ∧ L.length < 1000)
    (hel : ∀ va cl, (Term.field t "java/lang/String" "value" "[B").eval args s none [] s = some (.ref va) → s.arrayAt? va = some cl → cl.slots.size = L.length → ∀ i, i < L.length → cl.slots[i]? = some (own_tab L i)) : ∃ sa va, t.eval args s none [] s = some (.ref sa) ∧ own_St s s.heap sa va L := by
  obtain ⟨sa, ev⟩ := exa_v he
  obtain ⟨va, eva⟩ := arr_v ha
  obtain ⟨cl, A⟩ := Arr.start eva ha
  have hat := A.fin (Vm.Alike.refl _)
  have hs := own_lenz eva hat (own_eqi hl) hz
  exact ⟨sa, va, ev, Exa.start ev he, Fld.start ((fld_at ev).symm.trans eva), Fld.start ((fld_at ev).symm.trans (own_eqi hc)), ⟨cl, A, hs, hel va cl eva hat hs⟩, hp⟩
theorem own_bt {b : Bool} (h : ¬ b = false) : b = true := by cases b; exact absurd rfl h; rfl
theorem own_same (c x : Int32) (h : 0 ≤ c.toInt ∧ c.toInt < 256) (hx : 0 ≤ x.toInt ∧ x.toInt < 128) : x = c.toInt8.toInt32 ↔ c = x := by
  have a := c_i2b c
  constructor
  · intro q; have := congrArg Int32.toInt q; apply Int32.toInt_inj.mp; omega
  · intro q; subst q; apply Int32.toInt_inj.mp; omega
theorem own_anys (c : Int32) (h : 0 ≤ c.toInt ∧ c.toInt < 256) : ∀ L : List Int32, (∀ x ∈ L, 0 ≤ x.toInt ∧ x.toInt < 128) → L.any (fun x => decide (x = c.toInt8.toInt32)) = L.any (fun x => decide (c = x))
  | [], _ => rfl
  | x :: L, hL => by
    rw [List.any_cons, List.any_cons, own_anys c h L (fun y hy => hL y (List.mem_cons_of_mem _ hy)), decide_eq_decide.mpr (own_same c x h (hL x (List.mem_cons_self ..)))]
theorem own_eqt (c x : Int32) : c = x ↔ c.toInt = x.toInt := Int32.toInt_inj.symm
def own_LT : List Int32 := [97, 98, 103, 105, 118, 119, 120, 121, 122, 52, 53, 54, 55, 56]
def own_LA : List Int32 := [97, 98, 119, 54]
def own_LB : List Int32 := [119, 54]
def own_nr (c : Int32) : Bool := decide (c = 119) || decide (c = 54)
def own_rexp (k c : Int32) : Bool := if k = 0 then !(own_nr c || (decide (c = 97) || decide (c = 98))) else !own_nr c
theorem own_rall (k c : Int32) (h : 0 ≤ c.toInt ∧ c.toInt < 65536) : (!own_has (if k = 0 then own_LA else own_LB) c) = own_rexp k c := by
  have t0 : (c < 0) ↔ c.toInt < 0 := Int32.lt_iff_toInt_lt
  have t255 : ((255 : Int32) < c) ↔ 255 < c.toInt := Int32.lt_iff_toInt_lt
  have E : ∀ x : Int32, c = x ↔ c.toInt = x.toInt := own_eqt c
  have e97 : c = 97 ↔ c.toInt = 97 := E 97
  have e98 : c = 98 ↔ c.toInt = 98 := E 98
  have e119 : c = 119 ↔ c.toInt = 119 := E 119
  have e54 : c = 54 ↔ c.toInt = 54 := E 54
  have key : ∀ (L : List Int32) (b : Bool), (∀ x ∈ L, 0 ≤ x.toInt ∧ x.toInt < 128) → (L.any (fun x => decide (c = x)) = b) → (b = true → c.toInt < 256) → own_has L c = b := fun L b hL hb hr => by
    unfold own_has
    by_cases q : c.toInt < 256
    · rw [own_anys c ⟨h.1, q⟩ L hL, hb]
      have a1 : decide (c < 0) = false := decide_eq_false (by rw [t0]; omega)
      have a2 : decide ((255 : Int32) < c) = false := decide_eq_false (by rw [t255]; omega)
      rw [a1, a2]; cases b <;> rfl
    · have a2 : decide ((255 : Int32) < c) = true := decide_eq_true (by rw [t255]; omega)
      rw [a2]
      cases b with
      | true => exact absurd (hr rfl) q
      | false => simp
  unfold own_rexp own_nr
  by_cases hk : k = 0
  · rw [if_pos hk, if_pos hk, key own_LA _ (by decide) rfl (by simp only [own_LA, List.any_cons, List.any_nil, Bool.or_eq_true, decide_eq_true_eq, Bool.false_eq_true, or_false, e97, e98, e119, e54]; omega)]
    congr 1
    simp only [own_LA, List.any_cons, List.any_nil]
    rw [Bool.eq_iff_iff]
    simp only [Bool.or_eq_true, decide_eq_true_eq, Bool.false_eq_true, or_false, e97, e98, e119, e54]
    omega
  · rw [if_neg hk, if_neg hk, key own_LB _ (by decide) rfl (by simp only [own_LB, List.any_cons, List.any_nil, Bool.or_eq_true, decide_eq_true_eq, Bool.false_eq_true, or_false, e119, e54]; omega)]
    congr 1
    simp only [own_LB, List.any_cons, List.any_nil]
    rw [Bool.eq_iff_iff]
    simp only [Bool.or_eq_true, decide_eq_true_eq, Bool.false_eq_true, or_false, e119, e54]
theorem own_narC {r : Int32} (h : 0 ≤ r.toInt ∧ r.toInt < 65536) : narrow .char (.int r) = .int r := by
  have q := c_i2c r
  have e : r.toUInt32.toUInt16.toUInt32.toInt32 = r := Int32.toInt_inj.mp (by omega)
  show Value.int (r.toUInt32.toUInt16.toUInt32.toInt32) = _
  rw [e]
theorem own_rem14 (i : Int32) : 0 ≤ ((i &&& (2147483647 : Int32)) % (14 : Int32)).toInt ∧ ((i &&& (2147483647 : Int32)) % (14 : Int32)).toInt < 14 := by
  have a := c_mask i 2147483647 31 (by decide) (by decide)
  have n : 0 ≤ (i &&& (2147483647 : Int32)).toInt := by omega
  have r : ((i &&& (2147483647 : Int32)) % (14 : Int32)).toInt = (i &&& (2147483647 : Int32)).toInt.tmod (14 : Int32).toInt := Int32.toInt_mod _ _
  have o : (14 : Int32).toInt = 14 := by decide
  rw [o, Int.tmod_eq_emod_of_nonneg n] at r
  omega
theorem own_isref {v : Value} (h : v.isRef = true) : v = .null ∨ ∃ x, v = .ref x := by
  cases v with
  | null => exact Or.inl rfl
  | ref x => exact Or.inr ⟨x, rfl⟩
  | _ => cases h
def own_TF (Z : State) (h : Heap) (a : Addr) (L : List Int32) : Prop := Exa Z h a "com/example/seefrom/seefrom/TracingField" ∧ ∃ sa va, Fld Z h a "com/example/seefrom/seefrom/TracingField" "unrepeatableCodes" "Ljava/lang/String;" (.ref sa) ∧ own_St Z h sa va L
theorem own_TF.ext {Z : State} {h h' : Heap} {a : Addr} {L : List Int32} (F : own_TF Z h a L) (E : Ext h h') : own_TF Z h' a L := by
  obtain ⟨x, sa, va, f, o⟩ := F
  exact ⟨Exa.ext E x, sa, va, Fld.ext E f, o.ext E⟩
theorem own_sa {Z : State} {a0 : Array Value} (hw : ∀ d ∈ tables_1, d.before a0 Z = true) : ∀ a ∈ Bundle.stringAtoms, a.before a0 Z = true := by
  intro q hq
  simp only [Bundle.stringAtoms, List.mem_cons, List.not_mem_nil, or_false] at hq
  rcases hq with rfl | rfl | rfl | rfl | rfl | rfl | rfl
  · exact twd hw 8 rfl
  · exact twd hw 9 rfl
  · exact twd hw 10 rfl
  · exact twd hw 11 rfl
  · exact twd hw 12 rfl
  · exact twd hw 13 rfl
  · exact twd hw 14 rfl
theorem d6_0 : decode jdk_41_method_11_code 0 = .ok (.iload_n 0, 1) := by decide +kernel
theorem d6_1 : decode jdk_41_method_11_code 1 = .ok (.ifCond .lt 8, 3) := by decide +kernel
theorem d6_4 : decode jdk_41_method_11_code 4 = .ok (.iload_n 0, 1) := by decide +kernel
theorem d6_5 : decode jdk_41_method_11_code 5 = .ok (.iload_n 1, 1) := by decide +kernel
theorem d6_6 : decode jdk_41_method_11_code 6 = .ok (.if_icmp .lt 10, 3) := by decide +kernel
theorem d6_9 : decode jdk_41_method_11_code 9 = .ok (.aload_n 2, 1) := by decide +kernel
theorem d6_10 : decode jdk_41_method_11_code 10 = .ok (.iload_n 0, 1) := by decide +kernel
theorem d6_11 : decode jdk_41_method_11_code 11 = .ok (.iload_n 1, 1) := by decide +kernel
theorem d6_12 : decode jdk_41_method_11_code 12 = .ok (.invokestatic 95, 3) := by decide +kernel
theorem d6_15 : decode jdk_41_method_11_code 15 = .ok (.athrow, 1) := by decide +kernel
theorem d6_16 : decode jdk_41_method_11_code 16 = .ok (.iload_n 0, 1) := by decide +kernel
theorem d6_17 : decode jdk_41_method_11_code 17 = .ok (.ireturn, 1) := by decide +kernel
theorem pn4 : plainName "jdk/internal/util/Preconditions" = true := by first | (simp [plainName, overriddenIn]; done) | decide +kernel
theorem ef_c6 (m : MethodId) (i1 : Int32) (i2 : Int32) (a3 : Addr) : entryFrame m #[(.int i1), (.int i2), (.ref a3)] 3 = mkF m 0 #[.val (.int i1), .val (.int i2), .val (.ref a3)] [] := by first | (simp [entryFrame, mkF, argsToLocals, Value.category]; done) | rfl
set_option maxRecDepth 65536 in
set_option maxHeartbeats 40000000 in
theorem c6 (l : Launch) (Z : State) (a0 : Array Value) (hw : ∀ d ∈ tables_1, d.before a0 Z = true) (i1 : Int32) (i2 : Int32) (a3 : Addr) (h : Heap) (n0 : Nat) (hi : 0 ≤ i1.toInt ∧ i1.toInt < i2.toInt) : Con l Z (⟨"jdk/internal/util/Preconditions", "checkIndex", "(IILjava/util/function/BiFunction;)I"⟩ : MethodName) jdk_41_method_11_code 3 (some .int) ({ frames := 0, cells := 0, slots := 0, locals := 0 } : Room) #[(.int i1), (.int i2), (.ref a3)] h n0 (Pv (.int i1) h) := by
  refine Con.of (plainFor_of_name pn4) (fun m => ef_c6 m i1 i2 a3) ?_
  intro p e s m below meth c C
  refine G.iloadN C d6_0 rfl rfl ?_
  refine G.iflt C d6_1 (by decide) (pt := 9) (by decide) rfl (fun hc1 => absurd hc1 (by rw [Int32.lt_iff_toInt_lt]; show ¬ (i1.toInt < 0); omega)) (fun hc1 => ?_)
  refine G.iloadN C d6_4 rfl rfl ?_
  refine G.iloadN C d6_5 rfl rfl ?_
  refine G.iclt C d6_6 (by decide) (pt := 16) (by decide) rfl (fun hc6 => ?_) (fun hc6 => absurd (by rw [Int32.lt_iff_toInt_lt]; omega) hc6)
  refine G.iloadN C d6_16 rfl rfl ?_
  exact G.retI C d6_17 (by decide) (by decide) (⟨rfl, rfl⟩)
theorem ef_cKn (m : MethodId) (i1 : Int32) (i2 : Int32) : entryFrame m #[(.int i1), (.int i2), .null] 3 = mkF m 0 #[.val (.int i1), .val (.int i2), .val .null] [] := by first | (simp [entryFrame, mkF, argsToLocals, Value.category]; done) | rfl
set_option maxRecDepth 65536 in
set_option maxHeartbeats 40000000 in
theorem cKn (l : Launch) (Z : State) (a0 : Array Value) (hw : ∀ d ∈ tables_1, d.before a0 Z = true) (i1 : Int32) (i2 : Int32) (h : Heap) (n0 : Nat) (hi : 0 ≤ i1.toInt ∧ i1.toInt < i2.toInt) : Con l Z (⟨"jdk/internal/util/Preconditions", "checkIndex", "(IILjava/util/function/BiFunction;)I"⟩ : MethodName) jdk_41_method_11_code 3 (some .int) ({ frames := 0, cells := 0, slots := 0, locals := 0 } : Room) #[(.int i1), (.int i2), .null] h n0 (Pv (.int i1) h) := by
  refine Con.of (plainFor_of_name pn4) (fun m => ef_cKn m i1 i2) ?_
  intro p e s m below meth c C
  refine G.iloadN C d6_0 rfl rfl ?_
  refine G.iflt C d6_1 (by decide) (pt := 9) (by decide) rfl (fun hc1 => absurd hc1 (by rw [Int32.lt_iff_toInt_lt]; show ¬ (i1.toInt < 0); omega)) (fun hc1 => ?_)
  refine G.iloadN C d6_4 rfl rfl ?_
  refine G.iloadN C d6_5 rfl rfl ?_
  refine G.iclt C d6_6 (by decide) (pt := 16) (by decide) rfl (fun hc6 => ?_) (fun hc6 => absurd (by rw [Int32.lt_iff_toInt_lt]; omega) hc6)
  refine G.iloadN C d6_16 rfl rfl ?_
  exact G.retI C d6_17 (by decide) (by decide) (⟨rfl, rfl⟩)
theorem d5_0 : decode jdk_42_method_155_code 0 = .ok (.iload_n 0, 1) := by decide +kernel
theorem d5_1 : decode jdk_42_method_155_code 1 = .ok (.iload_n 1, 1) := by decide +kernel
theorem d5_2 : decode jdk_42_method_155_code 2 = .ok (.getstatic 1053, 3) := by decide +kernel
theorem d5_5 : decode jdk_42_method_155_code 5 = .ok (.invokestatic 1059, 3) := by decide +kernel
theorem d5_8 : decode jdk_42_method_155_code 8 = .ok (.pop, 1) := by decide +kernel
theorem d5_9 : decode jdk_42_method_155_code 9 = .ok (.return_, 1) := by decide +kernel
theorem ef_c5 (m : MethodId) (i1 : Int32) (i2 : Int32) : entryFrame m #[(.int i1), (.int i2)] 2 = mkF m 0 #[.val (.int i1), .val (.int i2)] [] := by first | (simp [entryFrame, mkF, argsToLocals, Value.category]; done) | rfl
set_option maxRecDepth 65536 in
set_option maxHeartbeats 40000000 in
theorem c5 (l : Launch) (Z : State) (a0 : Array Value) (hw : ∀ d ∈ tables_1, d.before a0 Z = true) (i1 : Int32) (i2 : Int32) (h : Heap) (n0 : Nat) (hi : 0 ≤ i1.toInt ∧ i1.toInt < i2.toInt) (fm : Value) (hfm : fm.isRef = true) (S_fm : Sta Z h "jdk/internal/util/Preconditions" "SIOOBE_FORMATTER" "Ljava/util/function/BiFunction;" fm) : Con l Z (⟨"java/lang/String", "checkIndex", "(II)V"⟩ : MethodName) jdk_42_method_155_code 2 none ({ frames := 1, cells := 0, slots := 0, locals := 14 } : Room) #[(.int i1), (.int i2)] h n0 (fun v h' => v = none ∧ h' = h) := by
  refine Con.of (plainFor_of_name pn0) (fun m => ef_c5 m i1 i2) ?_
  intro p e s m below meth c C
  refine G.iloadN C d5_0 rfl rfl ?_
  refine G.iloadN C d5_1 rfl rfl ?_
  rcases own_isref hfm with rfl | ⟨fa, rfl⟩
  · refine G.getS C (twd hw 36 rfl) S_fm d5_2 rfl ?_
    refine G.callSP C (S := []) (W := 0) (twd hw 38 rfl) (twd hw 39 rfl) (twd hw 37 rfl) (twd hw 40 rfl) (by decide) (cKn l Z a0 hw i1 i2 h n0 hi) pd5 rfl rfl d5_5 rfl (Nat.le_of_eq rfl) (by decide) (by decide) rfl rfl (by decide) (by decide) rfl ?_
    refine G.pop C d5_8 rfl rfl ?_
    exact G.retV C d5_9 (by decide) (by decide) (⟨rfl, rfl⟩)
  · refine G.getS C (twd hw 36 rfl) S_fm d5_2 rfl ?_
    refine G.callSP C (S := []) (W := 0) (twd hw 38 rfl) (twd hw 39 rfl) (twd hw 37 rfl) (twd hw 40 rfl) (by decide) (c6 l Z a0 hw i1 i2 fa h n0 hi) pd5 rfl rfl d5_5 rfl (Nat.le_of_eq rfl) (by decide) (by decide) rfl rfl (by decide) (by decide) rfl ?_
    refine G.pop C d5_8 rfl rfl ?_
    exact G.retV C d5_9 (by decide) (by decide) (⟨rfl, rfl⟩)
theorem d4_0 : decode jdk_43_method_2_code 0 = .ok (.iload_n 1, 1) := by decide +kernel
theorem d4_1 : decode jdk_43_method_2_code 1 = .ok (.aload_n 0, 1) := by decide +kernel
theorem d4_2 : decode jdk_43_method_2_code 2 = .ok (.arraylength, 1) := by decide +kernel
theorem d4_3 : decode jdk_43_method_2_code 3 = .ok (.invokestatic 9, 3) := by decide +kernel
theorem d4_6 : decode jdk_43_method_2_code 6 = .ok (.aload_n 0, 1) := by decide +kernel
theorem d4_7 : decode jdk_43_method_2_code 7 = .ok (.iload_n 1, 1) := by decide +kernel
theorem d4_8 : decode jdk_43_method_2_code 8 = .ok (.baload, 1) := by decide +kernel
theorem d4_9 : decode jdk_43_method_2_code 9 = .ok (.sipush 255, 3) := by decide +kernel
theorem d4_12 : decode jdk_43_method_2_code 12 = .ok (.iand, 1) := by decide +kernel
theorem d4_13 : decode jdk_43_method_2_code 13 = .ok (.i2c, 1) := by decide +kernel
theorem d4_14 : decode jdk_43_method_2_code 14 = .ok (.ireturn, 1) := by decide +kernel
theorem ef_c4 (m : MethodId) (a1 : Addr) (i2 : Int32) : entryFrame m #[(.ref a1), (.int i2)] 2 = mkF m 0 #[.val (.ref a1), .val (.int i2)] [] := by first | (simp [entryFrame, mkF, argsToLocals, Value.category]; done) | rfl
set_option maxRecDepth 65536 in
set_option maxHeartbeats 40000000 in
theorem c4 (l : Launch) (Z : State) (a0 : Array Value) (hw : ∀ d ∈ tables_1, d.before a0 Z = true) (a1 : Addr) (i2 : Int32) (h : Heap) (n0 : Nat) (L : List Int32) (A : Ara Z h a1 .byte L.length (own_tab L)) (hL : L.length < 1000) (hi : 0 ≤ i2.toInt ∧ i2.toInt < L.length) (fm : Value) (hfm : fm.isRef = true) (S_fm : Sta Z h "jdk/internal/util/Preconditions" "SIOOBE_FORMATTER" "Ljava/util/function/BiFunction;" fm) : Con l Z (⟨"java/lang/StringLatin1", "charAt", "([BI)C"⟩ : MethodName) jdk_43_method_2_code 2 (some .char) ({ frames := 2, cells := 0, slots := 0, locals := 27 } : Room) #[(.ref a1), (.int i2)] h n0 (fun v h' => ∃ r : Int32, v = some (.int r) ∧ h' = h ∧ (0 ≤ r.toInt ∧ r.toInt < 65536)) := by
  refine Con.of (plainFor_of_name pn1) (fun m => ef_c4 m a1 i2) ?_
  intro p e s m below meth c C
  refine G.iloadN C d4_0 rfl rfl ?_
  refine G.aloadN C d4_1 rfl rfl rfl ?_
  refine G.arrlen C A (own_ln_eq L hL) d4_2 rfl ?_
  refine G.callS C (S := []) (W := 0) (twd hw 33 rfl) (twd hw 34 rfl) (twd hw 8 rfl) (twd hw 35 rfl) (by decide) (c5 l Z a0 hw i2 (own_ln L) h n0 ⟨hi.1, by rw [own_ln_eq L hL]; exact hi.2⟩ fm hfm S_fm) pd4 rfl rfl d4_3 rfl (Nat.le_of_eq rfl) (by decide) (by decide) (by decide) (by decide) rfl (fun whp1 hp1 hq2 => ?_)
  obtain ⟨rfl, ehq2⟩ := hq2; rw [ehq2]
  show G p l e _ _ m _ below meth c n0 _ h 0 0 (mkF m 6 #[.val (.ref a1), .val (.int i2)] [])
  refine G.aloadN C d4_6 rfl rfl rfl ?_
  refine G.iloadN C d4_7 rfl rfl ?_
  refine G.baloadB C A hi d4_8 rfl ?_
  show G p l e _ _ m _ below meth c n0 _ h 0 0 (mkF m 9 #[.val (.ref a1), .val (.int i2)] [(.int (L.getD i2.toInt.toNat 0))])
  refine G.sipush C d4_9 (v := (255 : Int32)) rfl rfl ?_
  refine G.iand C d4_12 rfl ?_
  refine G.i2c C d4_13 rfl ?_
  exact G.retC C d4_14 (by decide) (by decide) (own_narC (c_i2c _).2) (⟨_, rfl, rfl, (c_i2c _).2⟩)
theorem d2_0 : decode jdk_42_method_56_code 0 = .ok (.aload_n 0, 1) := by decide +kernel
theorem d2_1 : decode jdk_42_method_56_code 1 = .ok (.invokevirtual 492, 3) := by decide +kernel
theorem d2_4 : decode jdk_42_method_56_code 4 = .ok (.ifCond .eq 12, 3) := by decide +kernel
theorem d2_7 : decode jdk_42_method_56_code 7 = .ok (.aload_n 0, 1) := by decide +kernel
theorem d2_8 : decode jdk_42_method_56_code 8 = .ok (.getfield 9, 3) := by decide +kernel
theorem d2_11 : decode jdk_42_method_56_code 11 = .ok (.iload_n 1, 1) := by decide +kernel
theorem d2_12 : decode jdk_42_method_56_code 12 = .ok (.invokestatic 495, 3) := by decide +kernel
theorem d2_15 : decode jdk_42_method_56_code 15 = .ok (.ireturn, 1) := by decide +kernel
theorem d2_16 : decode jdk_42_method_56_code 16 = .ok (.aload_n 0, 1) := by decide +kernel
theorem d2_17 : decode jdk_42_method_56_code 17 = .ok (.getfield 9, 3) := by decide +kernel
theorem d2_20 : decode jdk_42_method_56_code 20 = .ok (.iload_n 1, 1) := by decide +kernel
theorem d2_21 : decode jdk_42_method_56_code 21 = .ok (.invokestatic 498, 3) := by decide +kernel
theorem d2_24 : decode jdk_42_method_56_code 24 = .ok (.ireturn, 1) := by decide +kernel
theorem ef_c2 (m : MethodId) (a1 : Addr) (i2 : Int32) : entryFrame m #[(.ref a1), (.int i2)] 2 = mkF m 0 #[.val (.ref a1), .val (.int i2)] [] := by first | (simp [entryFrame, mkF, argsToLocals, Value.category]; done) | rfl
set_option maxRecDepth 65536 in
set_option maxHeartbeats 40000000 in
theorem c2 (l : Launch) (Z : State) (a0 : Array Value) (hw : ∀ d ∈ tables_1, d.before a0 Z = true) (a1 : Addr) (i2 : Int32) (h : Heap) (n0 : Nat) (va : Addr) (L : List Int32) (cs : Int32) (hcs : ¬ cs = 0) (S_cs : Sta Z h "java/lang/String" "COMPACT_STRINGS" "Z" (.int cs)) (O : own_St Z h a1 va L) (hi : 0 ≤ i2.toInt ∧ i2.toInt < L.length) (fm : Value) (hfm : fm.isRef = true) (S_fm : Sta Z h "jdk/internal/util/Preconditions" "SIOOBE_FORMATTER" "Ljava/util/function/BiFunction;" fm) : Con l Z (⟨"java/lang/String", "charAt", "(I)C"⟩ : MethodName) jdk_42_method_56_code 2 (some .char) ({ frames := 3, cells := 0, slots := 0, locals := 40 } : Room) #[(.ref a1), (.int i2)] h n0 (fun v h' => ∃ r : Int32, v = some (.int r) ∧ h' = h ∧ (0 ≤ r.toInt ∧ r.toInt < 65536)) := by
  refine Con.of (plainFor_of_name pn0) (fun m => ef_c2 m a1 i2) ?_
  intro p e s m below meth c C
  refine G.aloadN C d2_0 rfl rfl rfl ?_
  refine G.callVP C (S := []) (W := 0) (twd hw 21 rfl) (twd hw 23 rfl) (twd hw 8 rfl) (twd hw 25 rfl) (twd hw 22 rfl) (twd hw 24 rfl) O.1 (by decide) (c3 l Z a0 hw a1 h n0 va L cs hcs S_cs O) pd2 rfl rfl d2_1 rfl (Nat.le_of_eq rfl) (by decide) (by decide) rfl rfl (by decide) (by decide) rfl ?_
  refine G.bfeq C d2_4 (by decide) (pt := 16) (by decide) rfl (fun q => absurd q (by decide)) (fun _ => ?_)
  refine G.aloadN C d2_7 rfl rfl rfl ?_
  refine G.getF C (twd hw 28 rfl) O.2.1 d2_8 rfl ?_
  refine G.iloadN C d2_11 rfl rfl ?_
  refine G.callS C (S := []) (W := 0) (twd hw 29 rfl) (twd hw 30 rfl) (twd hw 31 rfl) (twd hw 32 rfl) (by decide) (c4 l Z a0 hw va i2 h n0 L O.2.2.2.1 O.2.2.2.2.2 hi fm hfm S_fm) pd3 rfl rfl d2_12 rfl (Nat.le_of_eq rfl) (by decide) (by decide) (by decide) (by decide) rfl (fun whp1 hp1 hq2 => ?_)
  obtain ⟨cc, rfl, ehq2, hcc⟩ := hq2; rw [ehq2]
  show G p l e _ _ m _ below meth c n0 _ h 0 0 (mkF m 15 #[.val (.ref a1), .val (.int i2)] [(.int cc)])
  exact G.retC C d2_15 (by decide) (by decide) (own_narC hcc) (⟨_, rfl, rfl, hcc⟩)
theorem d1_0 : decode method_2_code 0 = .ok (.iload_n 0, 1) := by decide +kernel
theorem d1_1 : decode method_2_code 1 = .ok (.ifCond .ne 7, 3) := by decide +kernel
theorem d1_4 : decode method_2_code 4 = .ok (.getstatic 7, 3) := by decide +kernel
theorem d1_7 : decode method_2_code 7 = .ok (.areturn, 1) := by decide +kernel
theorem d1_8 : decode method_2_code 8 = .ok (.iload_n 0, 1) := by decide +kernel
theorem d1_9 : decode method_2_code 9 = .ok (.iconst 1, 1) := by decide +kernel
theorem d1_10 : decode method_2_code 10 = .ok (.if_icmp .ne 7, 3) := by decide +kernel
theorem d1_13 : decode method_2_code 13 = .ok (.getstatic 13, 3) := by decide +kernel
theorem d1_16 : decode method_2_code 16 = .ok (.areturn, 1) := by decide +kernel
theorem d1_17 : decode method_2_code 17 = .ok (.iload_n 0, 1) := by decide +kernel
theorem d1_18 : decode method_2_code 18 = .ok (.iconst 2, 1) := by decide +kernel
theorem d1_19 : decode method_2_code 19 = .ok (.if_icmp .ne 7, 3) := by decide +kernel
theorem d1_22 : decode method_2_code 22 = .ok (.getstatic 16, 3) := by decide +kernel
theorem d1_25 : decode method_2_code 25 = .ok (.areturn, 1) := by decide +kernel
theorem d1_26 : decode method_2_code 26 = .ok (.getstatic 19, 3) := by decide +kernel
theorem d1_29 : decode method_2_code 29 = .ok (.areturn, 1) := by decide +kernel
theorem pn5 : plainName "com/example/seefrom/seefrom/TracingFieldRepeatsPinLaw" = true := by first | (simp [plainName, overriddenIn]; done) | decide +kernel
theorem ef_c1 (m : MethodId) (i1 : Int32) : entryFrame m #[(.int i1)] 1 = mkF m 0 #[.val (.int i1)] [] := by first | (simp [entryFrame, mkF, argsToLocals, Value.category]; done) | rfl
set_option maxRecDepth 65536 in
set_option maxHeartbeats 40000000 in
theorem c1 (l : Launch) (Z : State) (a0 : Array Value) (hw : ∀ d ∈ tables_1, d.before a0 Z = true) (i1 : Int32) (h : Heap) (n0 : Nat) (wT : Addr) (S_T : Sta Z h "com/example/seefrom/seefrom/TracingField" "TOPICAL_TERM" "Lcom/example/seefrom/seefrom/TracingField;" (.ref wT)) (T_T : own_TF Z h wT own_LA) (wN : Addr) (S_N : Sta Z h "com/example/seefrom/seefrom/TracingField" "GENERAL_SUBDIVISION" "Lcom/example/seefrom/seefrom/TracingField;" (.ref wN)) (T_N : own_TF Z h wN own_LB) (wG : Addr) (S_G : Sta Z h "com/example/seefrom/seefrom/TracingField" "GEOGRAPHIC_SUBDIVISION" "Lcom/example/seefrom/seefrom/TracingField;" (.ref wG)) (T_G : own_TF Z h wG own_LB) (wC : Addr) (S_C : Sta Z h "com/example/seefrom/seefrom/TracingField" "CHRONOLOGICAL_SUBDIVISION" "Lcom/example/seefrom/seefrom/TracingField;" (.ref wC)) (T_C : own_TF Z h wC own_LB) : Con l Z (⟨"com/example/seefrom/seefrom/TracingFieldRepeatsPinLaw", "field", "(I)Lcom/example/seefrom/seefrom/TracingField;"⟩ : MethodName) method_2_code 1 (some (.object "com/example/seefrom/seefrom/TracingField")) ({ frames := 0, cells := 0, slots := 0, locals := 0 } : Room) #[(.int i1)] h n0 (fun v h' => ∃ a, v = some (.ref a) ∧ h' = h ∧ own_TF Z h a (if i1 = 0 then own_LA else own_LB)) := by
  refine Con.of (plainFor_of_name pn5) (fun m => ef_c1 m i1) ?_
  intro p e s m below meth c C
  refine G.iloadN C d1_0 rfl rfl ?_
  refine G.ifne C d1_1 (by decide) (pt := 8) (by decide) rfl (fun hc1 => ?_) (fun hc1 => ?_)
  · refine G.iloadN C d1_8 rfl rfl ?_
    refine G.iconst C d1_9 (v := (1 : Int32)) rfl rfl ?_
    refine G.icne C d1_10 (by decide) (pt := 17) (by decide) rfl (fun hc10 => ?_) (fun hc10 => ?_)
    · refine G.iloadN C d1_17 rfl rfl ?_
      refine G.iconst C d1_18 (v := (2 : Int32)) rfl rfl ?_
      refine G.icne C d1_19 (by decide) (pt := 26) (by decide) rfl (fun hc19 => ?_) (fun hc19 => ?_)
      · refine G.getS C (twd hw 87 rfl) S_C d1_26 rfl ?_
        exact G.retA C rfl rfl d1_29 (by decide) (by decide) rfl (⟨_, rfl, rfl, by rw [if_neg hc1]; exact T_C⟩)
      · refine G.getS C (twd hw 89 rfl) S_G d1_22 rfl ?_
        exact G.retA C rfl rfl d1_25 (by decide) (by decide) rfl (⟨_, rfl, rfl, by rw [if_neg hc1]; exact T_G⟩)
    · refine G.getS C (twd hw 84 rfl) S_N d1_13 rfl ?_
      exact G.retA C rfl rfl d1_16 (by decide) (by decide) rfl (⟨_, rfl, rfl, by rw [if_neg hc1]; exact T_N⟩)
  · refine G.getS C (twd hw 4 rfl) S_T d1_4 rfl ?_
    exact G.retA C rfl rfl d1_7 (by decide) (by decide) rfl (⟨_, rfl, rfl, by rw [if_pos hc1]; exact T_T⟩)
theorem d7_0 : decode prog_18_method_7_code 0 = .ok (.aload_n 0, 1) := by decide +kernel
theorem d7_1 : decode prog_18_method_7_code 1 = .ok (.getfield 42, 3) := by decide +kernel
theorem d7_4 : decode prog_18_method_7_code 4 = .ok (.iload_n 1, 1) := by decide +kernel
theorem d7_5 : decode prog_18_method_7_code 5 = .ok (.invokevirtual 73, 3) := by decide +kernel
theorem d7_8 : decode prog_18_method_7_code 8 = .ok (.ifCond .ge 7, 3) := by decide +kernel
theorem d7_11 : decode prog_18_method_7_code 11 = .ok (.iconst 1, 1) := by decide +kernel
theorem d7_12 : decode prog_18_method_7_code 12 = .ok (.goto 4, 3) := by decide +kernel
theorem d7_15 : decode prog_18_method_7_code 15 = .ok (.iconst 0, 1) := by decide +kernel
theorem d7_16 : decode prog_18_method_7_code 16 = .ok (.ireturn, 1) := by decide +kernel
theorem pn6 : plainName "com/example/seefrom/seefrom/TracingField" = true := by first | (simp [plainName, overriddenIn]; done) | decide +kernel
theorem ef_c7 (m : MethodId) (a1 : Addr) (i2 : Int32) : entryFrame m #[(.ref a1), (.int i2)] 2 = mkF m 0 #[.val (.ref a1), .val (.int i2)] [] := by first | (simp [entryFrame, mkF, argsToLocals, Value.category]; done) | rfl
set_option maxRecDepth 65536 in
set_option maxHeartbeats 40000000 in
theorem c7 (l : Launch) (Z : State) (a0 : Array Value) (hw : ∀ d ∈ tables_1, d.before a0 Z = true) (a1 : Addr) (i2 : Int32) (h : Heap) (n0 : Nat) (L : List Int32) (T_ : own_TF Z h a1 L) (cs : Int32) (hcs : ¬ cs = 0) (S_cs : Sta Z h "java/lang/String" "COMPACT_STRINGS" "Z" (.int cs)) : Con l Z (⟨"com/example/seefrom/seefrom/TracingField", "repeats", "(C)Z"⟩ : MethodName) prog_18_method_7_code 2 (some .boolean) ({ frames := 4, cells := 0, slots := 0, locals := 59 } : Room) #[(.ref a1), (.int i2)] h n0 (Pv (.int (bi (!own_has L i2))) h) := by
  refine Con.of (plainFor_of_name pn6) (fun m => ef_c7 m a1 i2) ?_
  intro p e s m below meth c C
  obtain ⟨sa, va, Fd, O⟩ := T_.2
  refine G.aloadN C d7_0 rfl rfl rfl ?_
  refine G.getF C (twd hw 46 rfl) Fd d7_1 rfl ?_
  refine G.iloadN C d7_4 rfl rfl ?_
  refine G.callV C (S := []) (W := 0) (twd hw 48 rfl) (twd hw 50 rfl) (twd hw 8 rfl) (twd hw 52 rfl) (twd hw 49 rfl) (twd hw 51 rfl) O.1 (by decide) (cV l Z a0 hw sa i2 h n0 va L cs hcs S_cs O) pd7 rfl rfl d7_5 rfl (Nat.le_of_eq rfl) (by decide) (by decide) (by decide) (by decide) rfl (fun whp1 hp1 hq2 => ?_)
  obtain ⟨r8, rfl, ehq2, hr8⟩ := hq2; rw [ehq2]
  show G p l e _ _ m _ below meth c n0 _ h 0 0 (mkF m 8 #[.val (.ref a1), .val (.int i2)] [(.int r8)])
  refine G.ifge C d7_8 (by decide) (pt := 15) (by decide) rfl (fun hc8 => ?_) (fun hc8 => ?_)
  · refine G.iconst C d7_15 (v := (0 : Int32)) rfl rfl ?_
    exact G.retZ C d7_16 (by decide) (by decide) rfl (⟨by rw [own_bt (fun q => hc8 (hr8.mpr q))]; rfl, rfl⟩)
  · refine G.iconst C d7_11 (v := (1 : Int32)) rfl rfl ?_
    refine G.goto C d7_12 (by decide) (pc' := 16) (by decide) ?_
    exact G.retZ C d7_16 (by decide) (by decide) rfl (⟨by rw [hr8.mp hc8]; rfl, rfl⟩)
theorem ef_c0 (m : MethodId) (i1 : Int32) (i2 : Int32) (i3 : Int32) : entryFrame m #[(.int i1), (.int i2), (.int i3)] maxLocals = mkF m 0 #[.val (.int i1), .val (.int i2), .val (.int i3), .unset, .unset, .unset, .unset, .unset] [] := by first | (simp [entryFrame, mkF, argsToLocals, Value.category, maxLocals]; done) | rfl
set_option maxRecDepth 65536 in
set_option maxHeartbeats 40000000 in
theorem c0 (l : Launch) (Z : State) (a0 : Array Value) (hw : ∀ d ∈ tables_1, d.before a0 Z = true) (i1 : Int32) (i2 : Int32) (i3 : Int32) (h : Heap) (n0 : Nat) (wT : Addr) (S_T : Sta Z h "com/example/seefrom/seefrom/TracingField" "TOPICAL_TERM" "Lcom/example/seefrom/seefrom/TracingField;" (.ref wT)) (T_T : own_TF Z h wT own_LA) (wN : Addr) (S_N : Sta Z h "com/example/seefrom/seefrom/TracingField" "GENERAL_SUBDIVISION" "Lcom/example/seefrom/seefrom/TracingField;" (.ref wN)) (T_N : own_TF Z h wN own_LB) (wG : Addr) (S_G : Sta Z h "com/example/seefrom/seefrom/TracingField" "GEOGRAPHIC_SUBDIVISION" "Lcom/example/seefrom/seefrom/TracingField;" (.ref wG)) (T_G : own_TF Z h wG own_LB) (wC : Addr) (S_C : Sta Z h "com/example/seefrom/seefrom/TracingField" "CHRONOLOGICAL_SUBDIVISION" "Lcom/example/seefrom/seefrom/TracingField;" (.ref wC)) (T_C : own_TF Z h wC own_LB) (cs : Int32) (hcs : ¬ cs = 0) (S_cs : Sta Z h "java/lang/String" "COMPACT_STRINGS" "Z" (.int cs)) (fm : Value) (hfm : fm.isRef = true) (S_fm : Sta Z h "jdk/internal/util/Preconditions" "SIOOBE_FORMATTER" "Ljava/util/function/BiFunction;" fm) (hheld : Jvm.Lit.constHeld Z "com/example/seefrom/seefrom/TracingFieldRepeatsPinLaw" 28) (hcw : Jvm.Lit.compactW.before a0 Z = true) : ConZ l Z x code maxLocals ret room_1 #[(.int i1), (.int i2), (.int i3)] h n0 (fun v h' => v = some (.int 1)) := by
  refine ConZ.of (plainFor_of_name pn5) (fun m => ef_c0 m i1 i2 i3) ?_
  intro p e s m below meth c es eh C
  replace C : Cx p s m meth c Z (⟨"com/example/seefrom/seefrom/TracingFieldRepeatsPinLaw", "law", "(III)Z"⟩ : MethodName) code 8 (some .boolean) := C
  refine G.iloadN C at_0 rfl rfl ?_
  refine G.iconst C at_1 (v := (3 : Int32)) rfl rfl ?_
  refine G.iand C at_2 rfl ?_
  refine G.istoreN C at_3 (Ls' := #[.val (.int i1), .val (.int i2), .val (.int i3), .val (.int (i1 &&& (3 : Int32))), .unset, .unset, .unset, .unset]) rfl rfl ?_
  generalize hv3 : (i1 &&& (3 : Int32)) = v3
  refine G.iloadN C at_4 rfl rfl ?_
  refine G.callS C (S := []) (W := 0) (twd hw 0 rfl) (twd hw 1 rfl) (twd hw 2 rfl) (twd hw 3 rfl) (by decide) (c1 l Z a0 hw v3 h n0 wT S_T T_T wN S_N T_N wG S_G T_G wC S_C T_C) pd0 rfl rfl at_5 rfl (Nat.le_of_eq rfl) (by decide) (by decide) (by decide) (by decide) rfl (fun whp1 hp1 hq2 => ?_)
  obtain ⟨f8, rfl, ehq2, TF8⟩ := hq2; rw [ehq2]
  show G p l e _ _ m _ below meth c n0 _ h 0 0 (mkF m 8 #[.val (.int i1), .val (.int i2), .val (.int i3), .val (.int v3), .unset, .unset, .unset, .unset] [(.ref f8)])
  refine G.astore C at_8 rfl (Ls' := #[.val (.int i1), .val (.int i2), .val (.int i3), .val (.int v3), .val (.ref f8), .unset, .unset, .unset]) rfl rfl ?_
  refine G.iloadN C at_10 rfl rfl ?_
  refine G.iconst C at_11 (v := (1 : Int32)) rfl rfl ?_
  refine G.iand C at_12 rfl ?_
  refine G.ifne C at_13 (by decide) (pt := 37) (by decide) rfl (fun hc13 => ?_) (fun hc13 => ?_)
  · refine G.narrow ?_
    refine G.iloadN C at_37 rfl rfl ?_
    refine G.ldcI C (v := (65535 : Int32)) (twd hw 86 rfl) at_38 rfl ?_
    refine G.iand C at_40 rfl ?_
    refine G.i2c C at_41 rfl ?_
    obtain ⟨cc, hcc, ecc⟩ : ∃ cc : Int32, (0 ≤ cc.toInt ∧ cc.toInt < 65536) ∧ ((i2 &&& (65535 : Int32)).toUInt32.toUInt16.toUInt32.toInt32) = cc := ⟨_, (c_i2c _).2, rfl⟩
    rw [ecc]
    refine G.istore C at_42 (Ls' := #[.val (.int i1), .val (.int i2), .val (.int i3), .val (.int v3), .val (.ref f8), .val (.int cc), .unset, .unset]) rfl rfl ?_
    refine G.iload C at_44 rfl rfl ?_
    refine G.bipush C at_46 (v := (119 : Int32)) rfl rfl ?_
    have J63 : ∀ (b63 : Bool), (b63 = own_nr cc) → G p l e room_1 s m #[(.int i1), (.int i2), (.int i3)] below meth c n0 (Wst s room_1 n0 (fun v h' => v = some (.int 1))) h 0 0 (mkF m 63 #[.val (.int i1), .val (.int i2), .val (.int i3), .val (.int v3), .val (.ref f8), .val (.int cc), .unset, .unset] [(.int (bi b63))]) := by
      intro b63 hb63
      refine G.istore C at_63 (Ls' := #[.val (.int i1), .val (.int i2), .val (.int i3), .val (.int v3), .val (.ref f8), .val (.int cc), .val (.int (bi b63)), .unset]) rfl rfl ?_
      refine G.iloadN C at_65 rfl rfl ?_
      have J110 : ∀ (b110 : Bool), (b110 = own_rexp v3 cc) → G p l e room_1 s m #[(.int i1), (.int i2), (.int i3)] below meth c n0 (Wst s room_1 n0 (fun v h' => v = some (.int 1))) h 0 0 (mkF m 110 #[.val (.int i1), .val (.int i2), .val (.int i3), .val (.int v3), .val (.ref f8), .val (.int cc), .val (.int (bi b63)), .val (.int (bi b110))] []) := by
        intro b110 hb110
        refine G.aload C at_110 rfl rfl rfl ?_
        refine G.iload C at_112 rfl rfl ?_
        refine G.callVP C (S := []) (W := 0) (twd hw 41 rfl) (twd hw 43 rfl) (twd hw 5 rfl) (twd hw 45 rfl) (twd hw 42 rfl) (twd hw 44 rfl) TF8.1 (by decide) (c7 l Z a0 hw f8 cc h n0 _ TF8 cs hcs S_cs) pd6 rfl rfl at_114 rfl (Nat.le_of_eq rfl) (by decide) (by decide) rfl rfl (by decide) (by decide) rfl ?_
        refine G.iload C at_117 rfl rfl ?_
        refine G.icne C at_119 (by decide) (pt := 126) (by decide) rfl (fun hc119 => ?_) (fun hc119 => ?_)
        · refine G.iconst C at_126 (v := (0 : Int32)) rfl rfl ?_
          exact G.retZ C at_127 (by decide) (by decide) rfl (absurd (by rw [hb110, own_rall v3 cc hcc]) hc119)
        · refine G.iconst C at_122 (v := (1 : Int32)) rfl rfl ?_
          refine G.goto C at_123 (by decide) (pc' := 127) (by decide) ?_
          exact G.retZ C at_127 (by decide) (by decide) rfl (rfl)
      refine G.ifne C at_66 (by decide) (pt := 98) (by decide) rfl (fun hc66 => ?_) (fun hc66 => ?_)
      · refine G.iload C at_98 rfl rfl ?_
        refine G.bfne C at_100 (by decide) (pt := 107) (by decide) rfl (fun hc100 => ?_) (fun hc100 => ?_)
        · refine G.iconst C at_107 (v := (0 : Int32)) rfl rfl ?_
          refine G.istore C at_108 (Ls' := #[.val (.int i1), .val (.int i2), .val (.int i3), .val (.int v3), .val (.ref f8), .val (.int cc), .val (.int (bi b63)), .val (.int (0 : Int32))]) rfl rfl ?_
          exact J110 false (by unfold own_rexp; rw [if_neg hc66, ← hb63]; simp [hc100])
        · refine G.iconst C at_103 (v := (1 : Int32)) rfl rfl ?_
          refine G.goto C at_104 (by decide) (pc' := 108) (by decide) ?_
          refine G.istore C at_108 (Ls' := #[.val (.int i1), .val (.int i2), .val (.int i3), .val (.int v3), .val (.ref f8), .val (.int cc), .val (.int (bi b63)), .val (.int (1 : Int32))]) rfl rfl ?_
          exact J110 true (by unfold own_rexp; rw [if_neg hc66, ← hb63]; simp [hc100])
      · refine G.iload C at_69 rfl rfl ?_
        refine G.bfne C at_71 (by decide) (pt := 92) (by decide) rfl (fun hc71 => ?_) (fun hc71 => ?_)
        · refine G.iconst C at_92 (v := (0 : Int32)) rfl rfl ?_
          refine G.istore C at_93 (Ls' := #[.val (.int i1), .val (.int i2), .val (.int i3), .val (.int v3), .val (.ref f8), .val (.int cc), .val (.int (bi b63)), .val (.int (0 : Int32))]) rfl rfl ?_
          refine G.goto C at_95 (by decide) (pc' := 110) (by decide) ?_
          exact J110 false (by unfold own_rexp; rw [if_pos hc66, ← hb63]; simp [hc71])
        · refine G.iload C at_74 rfl rfl ?_
          refine G.bipush C at_76 (v := (97 : Int32)) rfl rfl ?_
          refine G.iceq C at_78 (by decide) (pt := 92) (by decide) rfl (fun hc78 => ?_) (fun hc78 => ?_)
          · refine G.iconst C at_92 (v := (0 : Int32)) rfl rfl ?_
            refine G.istore C at_93 (Ls' := #[.val (.int i1), .val (.int i2), .val (.int i3), .val (.int v3), .val (.ref f8), .val (.int cc), .val (.int (bi b63)), .val (.int (0 : Int32))]) rfl rfl ?_
            refine G.goto C at_95 (by decide) (pc' := 110) (by decide) ?_
            exact J110 false (by unfold own_rexp; rw [if_pos hc66, ← hb63]; simp [hc71, hc78])
          · refine G.iload C at_81 rfl rfl ?_
            refine G.bipush C at_83 (v := (98 : Int32)) rfl rfl ?_
            refine G.iceq C at_85 (by decide) (pt := 92) (by decide) rfl (fun hc85 => ?_) (fun hc85 => ?_)
            · refine G.iconst C at_92 (v := (0 : Int32)) rfl rfl ?_
              refine G.istore C at_93 (Ls' := #[.val (.int i1), .val (.int i2), .val (.int i3), .val (.int v3), .val (.ref f8), .val (.int cc), .val (.int (bi b63)), .val (.int (0 : Int32))]) rfl rfl ?_
              refine G.goto C at_95 (by decide) (pc' := 110) (by decide) ?_
              exact J110 false (by unfold own_rexp; rw [if_pos hc66, ← hb63]; simp [hc71, hc78, hc85])
            · refine G.iconst C at_88 (v := (1 : Int32)) rfl rfl ?_
              refine G.goto C at_89 (by decide) (pc' := 93) (by decide) ?_
              refine G.istore C at_93 (Ls' := #[.val (.int i1), .val (.int i2), .val (.int i3), .val (.int v3), .val (.ref f8), .val (.int cc), .val (.int (bi b63)), .val (.int (1 : Int32))]) rfl rfl ?_
              refine G.goto C at_95 (by decide) (pc' := 110) (by decide) ?_
              exact J110 true (by unfold own_rexp; rw [if_pos hc66, ← hb63]; simp [hc71, hc78, hc85])
    refine G.iceq C at_48 (by decide) (pt := 58) (by decide) rfl (fun hc48 => ?_) (fun hc48 => ?_)
    · refine G.iconst C at_58 (v := (1 : Int32)) rfl rfl ?_
      refine G.goto C at_59 (by decide) (pc' := 63) (by decide) ?_
      exact J63 true (by simp [own_nr, hc48])
    · refine G.iload C at_51 rfl rfl ?_
      refine G.bipush C at_53 (v := (54 : Int32)) rfl rfl ?_
      refine G.icne C at_55 (by decide) (pt := 62) (by decide) rfl (fun hc55 => ?_) (fun hc55 => ?_)
      · refine G.iconst C at_62 (v := (0 : Int32)) rfl rfl ?_
        exact J63 false (by simp [own_nr, hc48, hc55])
      · refine G.iconst C at_58 (v := (1 : Int32)) rfl rfl ?_
        refine G.goto C at_59 (by decide) (pc' := 63) (by decide) ?_
        exact J63 true (by simp [own_nr, hc48, hc55])
  · refine G.ldcT C es eh (nn := 56) (L := own_LT) (twd hw 7 rfl) (own_sa hw) hheld hcw (by decide +kernel) (by decide) at_16 (by decide) (by decide) (by decide) (by decide) rfl (fun s2 h16 a16 va16 E16 C O16 => ?_)
    replace S_cs := Sta.ext E16 S_cs
    replace S_fm := Sta.ext E16 S_fm
    replace TF8 := own_TF.ext TF8 E16
    show G p l e _ _ m _ below meth c n0 _ h16 2 60 (mkF m 18 #[.val (.int i1), .val (.int i2), .val (.int i3), .val (.int v3), .val (.ref f8), .unset, .unset, .unset] [(.ref a16)])
    refine G.astore C at_18 rfl (Ls' := #[.val (.int i1), .val (.int i2), .val (.int i3), .val (.int v3), .val (.ref f8), .unset, .val (.ref a16), .unset]) rfl rfl ?_
    refine G.aload C at_20 rfl rfl rfl ?_
    refine G.iloadN C at_22 rfl rfl ?_
    refine G.ldcI C (v := (2147483647 : Int32)) (twd hw 15 rfl) at_23 rfl ?_
    refine G.iand C at_25 rfl ?_
    refine G.bipush C at_26 (v := (14 : Int32)) rfl rfl ?_
    refine G.irem C at_28 (by decide) rfl ?_
    refine G.callV C (S := []) (W := 0) (twd hw 16 rfl) (twd hw 18 rfl) (twd hw 8 rfl) (twd hw 20 rfl) (twd hw 17 rfl) (twd hw 19 rfl) O16.1 (by decide) (c2 l Z a0 hw a16 ((i2 &&& (2147483647 : Int32)) % (14 : Int32)) h16 n0 va16 own_LT cs hcs S_cs O16 (own_rem14 _) fm hfm S_fm) pd1 rfl rfl at_29 rfl (Nat.le_of_eq rfl) (by decide) (by decide) (by decide) (by decide) rfl (fun whp3 hp3 hq4 => ?_)
    obtain ⟨cc, rfl, ehq4, hcc⟩ := hq4; rw [ehq4]
    show G p l e _ _ m _ below meth c n0 _ h16 2 60 (mkF m 32 #[.val (.int i1), .val (.int i2), .val (.int i3), .val (.int v3), .val (.ref f8), .unset, .val (.ref a16), .unset] [(.int cc)])
    refine G.istore C at_32 (Ls' := #[.val (.int i1), .val (.int i2), .val (.int i3), .val (.int v3), .val (.ref f8), .val (.int cc), .val (.ref a16), .unset]) rfl rfl ?_
    refine G.goto C at_34 (by decide) (pc' := 44) (by decide) ?_
    refine G.iload C at_44 rfl rfl ?_
    refine G.bipush C at_46 (v := (119 : Int32)) rfl rfl ?_
    have J63 : ∀ (b63 : Bool), (b63 = own_nr cc) → G p l e room_1 s2 m #[(.int i1), (.int i2), (.int i3)] below meth c n0 (Wst s2 room_1 n0 (fun v z => (fun v h' => v = some (Value.int 1)) v z ∧ h16.size ≤ z.size)) h16 2 60 (mkF m 63 #[.val (.int i1), .val (.int i2), .val (.int i3), .val (.int v3), .val (.ref f8), .val (.int cc), .val (.ref a16), .unset] [(.int (bi b63))]) := by
      intro b63 hb63
      refine G.istore C at_63 (Ls' := #[.val (.int i1), .val (.int i2), .val (.int i3), .val (.int v3), .val (.ref f8), .val (.int cc), .val (.int (bi b63)), .unset]) rfl rfl ?_
      refine G.iloadN C at_65 rfl rfl ?_
      have J110 : ∀ (b110 : Bool), (b110 = own_rexp v3 cc) → G p l e room_1 s2 m #[(.int i1), (.int i2), (.int i3)] below meth c n0 (Wst s2 room_1 n0 (fun v z => (fun v h' => v = some (Value.int 1)) v z ∧ h16.size ≤ z.size)) h16 2 60 (mkF m 110 #[.val (.int i1), .val (.int i2), .val (.int i3), .val (.int v3), .val (.ref f8), .val (.int cc), .val (.int (bi b63)), .val (.int (bi b110))] []) := by
        intro b110 hb110
        refine G.aload C at_110 rfl rfl rfl ?_
        refine G.iload C at_112 rfl rfl ?_
        refine G.callVP C (S := []) (W := 0) (twd hw 41 rfl) (twd hw 43 rfl) (twd hw 5 rfl) (twd hw 45 rfl) (twd hw 42 rfl) (twd hw 44 rfl) TF8.1 (by decide) (c7 l Z a0 hw f8 cc h16 n0 _ TF8 cs hcs S_cs) pd6 rfl rfl at_114 rfl (Nat.le_of_eq rfl) (by decide) (by decide) rfl rfl (by decide) (by decide) rfl ?_
        refine G.iload C at_117 rfl rfl ?_
        refine G.icne C at_119 (by decide) (pt := 126) (by decide) rfl (fun hc119 => ?_) (fun hc119 => ?_)
        · refine G.iconst C at_126 (v := (0 : Int32)) rfl rfl ?_
          exact G.retZ C at_127 (by decide) (by decide) rfl (absurd (by rw [hb110, own_rall v3 cc hcc]) hc119)
        · refine G.iconst C at_122 (v := (1 : Int32)) rfl rfl ?_
          refine G.goto C at_123 (by decide) (pc' := 127) (by decide) ?_
          exact G.retZ C at_127 (by decide) (by decide) rfl (⟨rfl, Nat.le_refl _⟩)
      refine G.ifne C at_66 (by decide) (pt := 98) (by decide) rfl (fun hc66 => ?_) (fun hc66 => ?_)
      · refine G.iload C at_98 rfl rfl ?_
        refine G.bfne C at_100 (by decide) (pt := 107) (by decide) rfl (fun hc100 => ?_) (fun hc100 => ?_)
        · refine G.iconst C at_107 (v := (0 : Int32)) rfl rfl ?_
          refine G.istore C at_108 (Ls' := #[.val (.int i1), .val (.int i2), .val (.int i3), .val (.int v3), .val (.ref f8), .val (.int cc), .val (.int (bi b63)), .val (.int (0 : Int32))]) rfl rfl ?_
          exact J110 false (by unfold own_rexp; rw [if_neg hc66, ← hb63]; simp [hc100])
        · refine G.iconst C at_103 (v := (1 : Int32)) rfl rfl ?_
          refine G.goto C at_104 (by decide) (pc' := 108) (by decide) ?_
          refine G.istore C at_108 (Ls' := #[.val (.int i1), .val (.int i2), .val (.int i3), .val (.int v3), .val (.ref f8), .val (.int cc), .val (.int (bi b63)), .val (.int (1 : Int32))]) rfl rfl ?_
          exact J110 true (by unfold own_rexp; rw [if_neg hc66, ← hb63]; simp [hc100])
      · refine G.iload C at_69 rfl rfl ?_
        refine G.bfne C at_71 (by decide) (pt := 92) (by decide) rfl (fun hc71 => ?_) (fun hc71 => ?_)
        · refine G.iconst C at_92 (v := (0 : Int32)) rfl rfl ?_
          refine G.istore C at_93 (Ls' := #[.val (.int i1), .val (.int i2), .val (.int i3), .val (.int v3), .val (.ref f8), .val (.int cc), .val (.int (bi b63)), .val (.int (0 : Int32))]) rfl rfl ?_
          refine G.goto C at_95 (by decide) (pc' := 110) (by decide) ?_
          exact J110 false (by unfold own_rexp; rw [if_pos hc66, ← hb63]; simp [hc71])
        · refine G.iload C at_74 rfl rfl ?_
          refine G.bipush C at_76 (v := (97 : Int32)) rfl rfl ?_
          refine G.iceq C at_78 (by decide) (pt := 92) (by decide) rfl (fun hc78 => ?_) (fun hc78 => ?_)
          · refine G.iconst C at_92 (v := (0 : Int32)) rfl rfl ?_
            refine G.istore C at_93 (Ls' := #[.val (.int i1), .val (.int i2), .val (.int i3), .val (.int v3), .val (.ref f8), .val (.int cc), .val (.int (bi b63)), .val (.int (0 : Int32))]) rfl rfl ?_
            refine G.goto C at_95 (by decide) (pc' := 110) (by decide) ?_
            exact J110 false (by unfold own_rexp; rw [if_pos hc66, ← hb63]; simp [hc71, hc78])
          · refine G.iload C at_81 rfl rfl ?_
            refine G.bipush C at_83 (v := (98 : Int32)) rfl rfl ?_
            refine G.iceq C at_85 (by decide) (pt := 92) (by decide) rfl (fun hc85 => ?_) (fun hc85 => ?_)
            · refine G.iconst C at_92 (v := (0 : Int32)) rfl rfl ?_
              refine G.istore C at_93 (Ls' := #[.val (.int i1), .val (.int i2), .val (.int i3), .val (.int v3), .val (.ref f8), .val (.int cc), .val (.int (bi b63)), .val (.int (0 : Int32))]) rfl rfl ?_
              refine G.goto C at_95 (by decide) (pc' := 110) (by decide) ?_
              exact J110 false (by unfold own_rexp; rw [if_pos hc66, ← hb63]; simp [hc71, hc78, hc85])
            · refine G.iconst C at_88 (v := (1 : Int32)) rfl rfl ?_
              refine G.goto C at_89 (by decide) (pc' := 93) (by decide) ?_
              refine G.istore C at_93 (Ls' := #[.val (.int i1), .val (.int i2), .val (.int i3), .val (.int v3), .val (.ref f8), .val (.int cc), .val (.int (bi b63)), .val (.int (1 : Int32))]) rfl rfl ?_
              refine G.goto C at_95 (by decide) (pc' := 110) (by decide) ?_
              exact J110 true (by unfold own_rexp; rw [if_pos hc66, ← hb63]; simp [hc71, hc78, hc85])
    refine G.iceq C at_48 (by decide) (pt := 58) (by decide) rfl (fun hc48 => ?_) (fun hc48 => ?_)
    · refine G.iconst C at_58 (v := (1 : Int32)) rfl rfl ?_
      refine G.goto C at_59 (by decide) (pc' := 63) (by decide) ?_
      exact J63 true (by simp [own_nr, hc48])
    · refine G.iload C at_51 rfl rfl ?_
      refine G.bipush C at_53 (v := (54 : Int32)) rfl rfl ?_
      refine G.icne C at_55 (by decide) (pt := 62) (by decide) rfl (fun hc55 => ?_) (fun hc55 => ?_)
      · refine G.iconst C at_62 (v := (0 : Int32)) rfl rfl ?_
        exact J63 false (by simp [own_nr, hc48, hc55])
      · refine G.iconst C at_58 (v := (1 : Int32)) rfl rfl ?_
        refine G.goto C at_59 (by decide) (pc' := 63) (by decide) ?_
        exact J63 true (by simp [own_nr, hc48, hc55])
set_option maxRecDepth 65536 in
set_option maxHeartbeats 40000000 in
theorem comes_1 {Post : Tables → Env → Array Value → State → Outcome → State → Prop} (hpost : ∀ tb e args s v u, (limb_1_1.after args s (.returned v) u = true ∧ limb_1_2.after args s (.returned v) u = true ∧ True) → ReturnedEndW s (.returned v) u (Jvm.fieldLocs frame_1_writes args s ++ Jvm.arrayLocs frame_1_arrays args s ++ Jvm.staticLocs frame_1_statics s) 8 1088 → Post tb e args s (.returned v) u) :
    ArmFor flags0 classFile x code maxLocals ret World_1 tables_1 room_1 Calls_1 rest_1 Pre_1 Post := by
  intro l hfl _ _ p e ha hc hk s m args below hf hA hF happ hP
  obtain ⟨hcalls, hrest, hpre⟩ := hP
  obtain ⟨-, -, -, hnamed, -, -, -, hat⟩ := (Spec.applies_iff hf).mp happ
  obtain ⟨hg, hn⟩ := and_e (Cond.before_iff.mp (show (Jvm.Cond.and given_1 narrow_1).before args s = true from hpre))
  obtain ⟨gc, gr0⟩ := and_e hg
  obtain ⟨g0, gr1⟩ := and_e gr0
  obtain ⟨g1, g2⟩ := and_e gr1
  obtain ⟨w0, w1, w2, rfl⟩ : ∃ w0 w1 w2 : Value, args = #[w0, w1, w2] := by
    have hs : args.size = 3 := by simpa [Cond.value, given_1] using gc
    obtain ⟨L⟩ := args
    match L, hs with
    | [w0, w1, w2], _ => exact ⟨w0, w1, w2, rfl⟩
  have hw := fun d (hd : d ∈ tables_1) => atoms_spec (ws := Jvm.Cond.code x code maxLocals ret :: tables_1) hat d (List.mem_cons_of_mem _ hd)
  obtain ⟨hsets, hown0⟩ := atoms_of _ (rest_1_c_eq ▸ (show rest_1_c.before _ s = true from hrest))
  obtain ⟨i0, ei0⟩ := is_v g0
  obtain rfl : w0 = (.int i0) := Option.some.inj ei0
  obtain ⟨i1, ei1⟩ := is_v g1
  obtain rfl : w1 = (.int i1) := Option.some.inj ei1
  obtain ⟨i2, ei2⟩ := is_v g2
  obtain rfl : w2 = (.int i2) := Option.some.inj ei2
  obtain ⟨n0, hn⟩ := and_e hn
  obtain ⟨n1, hn⟩ := and_e hn
  obtain ⟨n2, hn⟩ := and_e hn
  obtain ⟨n3, hn⟩ := and_e hn
  obtain ⟨n4, hn⟩ := and_e hn
  obtain ⟨n5, hn⟩ := and_e hn
  obtain ⟨n6, hn⟩ := and_e hn
  obtain ⟨n7, hn⟩ := and_e hn
  obtain ⟨n8, hn⟩ := and_e hn
  obtain ⟨n9, hn⟩ := and_e hn
  obtain ⟨n10, hn⟩ := and_e hn
  obtain ⟨n11, hn⟩ := and_e hn
  obtain ⟨n12, hn⟩ := and_e hn
  obtain ⟨n13, hn⟩ := and_e hn
  obtain ⟨n14, hn⟩ := and_e hn
  obtain ⟨n15, hn⟩ := and_e hn
  obtain ⟨n16, hn⟩ := and_e hn
  obtain ⟨n17, hn⟩ := and_e hn
  obtain ⟨n18, n19⟩ := and_e hn
  obtain ⟨sT, vT, esT, OT⟩ := own_St.start (L := own_LA) n1 n2 n3 n4 (by decide) (by decide) (fun va cl ev hat hsz i hi => by
    have hi2 : i < 4 := hi
    have hc : i = 0 ∨ i = 1 ∨ i = 2 ∨ i = 3 := by omega
    rcases hc with rfl | rfl | rfl | rfl
    · exact own_elc ev hat (own_eqi n5) (by decide) (by decide)
    · exact own_elc ev hat (own_eqi n6) (by decide) (by decide)
    · exact own_elc ev hat (own_eqi n7) (by decide) (by decide)
    · exact own_elc ev hat (own_eqi n8) (by decide) (by decide))
  obtain ⟨sN, vN, esN, ON⟩ := own_St.start (L := own_LB) n10 n11 n12 n13 (by decide) (by decide) (fun va cl ev hat hsz i hi => by
    have hi2 : i < 2 := hi
    have hc : i = 0 ∨ i = 1 := by omega
    rcases hc with rfl | rfl
    · exact own_elc ev hat (own_eqi n14) (by decide) (by decide)
    · exact own_elc ev hat (own_eqi n15) (by decide) (by decide))
  obtain ⟨wT, eT⟩ := exa_v n0
  have S_T := Sta.start eT (Or.inr ⟨(twd hw 5 rfl), (twd hw 6 rfl)⟩)
  have T_T : own_TF s s.heap wT own_LA := ⟨Exa.start eT n0, sT, vT, Fld.start ((fld_at eT).symm.trans esT), OT⟩
  obtain ⟨wN, eN⟩ := exa_v n9
  have S_N := Sta.start eN (Or.inr ⟨(twd hw 5 rfl), (twd hw 85 rfl)⟩)
  have T_N : own_TF s s.heap wN own_LB := ⟨Exa.start eN n9, sN, vN, Fld.start ((fld_at eN).symm.trans esN), ON⟩
  obtain ⟨wC, eC⟩ := exa_v n16
  have S_C := Sta.start eC (Or.inr ⟨(twd hw 5 rfl), (twd hw 88 rfl)⟩)
  have T_C : own_TF s s.heap wC own_LB := ⟨Exa.start eC n16, sN, vN, Fld.start ((fld_at eC).symm.trans (own_eqr n17 esN)), ON⟩
  obtain ⟨wG, eG⟩ := exa_v n18
  have S_G := Sta.start eG (Or.inr ⟨(twd hw 5 rfl), (twd hw 90 rfl)⟩)
  have T_G : own_TF s s.heap wG own_LB := ⟨Exa.start eG n18, sN, vN, Fld.start ((fld_at eG).symm.trans (own_eqr n19 esN)), ON⟩
  obtain ⟨cs, ecs⟩ := is_v (Cond.before_iff.mp (hsets _ (List.mem_of_getElem? (i := 1) rfl)))
  have S_cs := Sta.start ecs (Or.inl (hsets _ (List.mem_of_getElem? (i := 0) rfl)))
  have hcs : ¬ cs = 0 := fun q => by
    have z := not_v (Cond.before_iff.mp (hsets _ (List.mem_of_getElem? (i := 2) rfl)))
    have z2 := eq_i ecs (Term.int_eval (0)) (by rw [q])
    rw [z2] at z; cases z
  obtain ⟨fm, efm, hfm⟩ := Cond.isRef_spec (hsets _ (List.mem_of_getElem? (i := 8) rfl))
  have S_fm := Sta.start efm (Or.inl (hsets _ (List.mem_of_getElem? (i := 7) rfl)))
  have hheld : Jvm.Lit.constHeld s "com/example/seefrom/seefrom/TracingFieldRepeatsPinLaw" 28 := hcalls.1 ("com/example/seefrom/seefrom/TracingFieldRepeatsPinLaw", 28) (by simp [consts_1])
  have hcw : Jvm.Lit.compactW.before _ s = true := (hsets _ (List.mem_of_getElem? (i := 2) rfl))
  obtain ⟨nn, o, h1, h2, h3, _, L, rfl, ⟨rfl, N⟩, hq⟩ := c0 l s _ hw i0 i1 i2 s.heap s.heap.size wT S_T T_T wN S_N T_N wG S_G T_G wC S_C T_C cs hcs S_cs fm hfm S_fm hheld hcw tables_1 p e ha hc hk s m _ below hf ((Spec.applies_iff_loose hf).mp happ).1 ⟨rfl, rfl, rfl⟩ trivial
  exact ⟨nn, _, h1, h2, h3, hpost _ _ _ _ _ _ ⟨Cond.after_iff.mpr rfl, Cond.after_iff.mpr (eq_i res_at (Term.int_eval (1)) rfl), trivial⟩ ⟨hq.1, hq.2.1, hq.2.2.1, (hq.2.2.2.sift fun y hy => Or.inr (N y hy)).mono (by decide) (by decide)⟩⟩
theorem main_1_1 : Claimed_1_1 := comes_1 fun _ _ _ _ _ _ h hF => ⟨h.1, hF⟩
theorem main_1_2 : Claimed_1_2 := comes_1 fun _ _ _ _ _ _ h hF => ⟨h.2.1, hF⟩
end Jvm.Pilot.@@N@@
namespace Jvm.Pilot.@@N@@
open Jvm Jvm.ClassFile Sem Op Lib Jvm.Free Jvm.Stand Jvm.Pilot.@@N@@.Jvm.D
/-! MADE BY PROGRAM (witnessworld.py) out of the Statement's table words and the real class files: 19 classes; the members and pool entries that the words name. The judged class is class 1, her method 2. -/
namespace start1
open Jvm.ClassFile
def u (s : String) : CpInfo := .utf8 (stringToUtf16 s)
/-- a pool by its gaps: so many unusable entries, then the entry; so many at the end -/
def gap : Nat → List CpInfo → List CpInfo
  | 0, r => r
  | n + 1, r => .unusable :: gap n r
def poolList (es : List (Nat × CpInfo)) (last : Nat) : List CpInfo := es.foldr (fun e r => gap e.1 (e.2 :: r)) (gap last [])
def pool (es : List (Nat × CpInfo)) (last : Nat) : Array CpInfo := ⟨poolList es last⟩
def fileOf (pool : Array CpInfo) (this : Nat) (attrs : Array Attribute := #[]) (ms : Array MethodInfo := #[]) (fl : Nat := 33) (sup : Nat := 0) (ifs : Array Nat := #[]) (fds : Array FieldInfo := #[]) : ClassFile where
  minorVersion := 0
  majorVersion := 65
  constantPool := pool
  accessFlags := fl
  thisClass := this
  superClass := sup
  interfaces := ifs
  fields := fds
  methods := ms
  attributes := attrs
def plain (name : String) (sup : Option ClassId) : Class where
  name := name
  kind := .ordinary
  loader := none
  accessFlags := 33
  super := sup
  interfaces := #[]
  cf := none
  fields := #[]
  methods := #[]
  instanceTypes := #[]
  staticTypes := #[]
  resolved := #[]
  callSites := []
  init := .initialized
  statics := none
  mirror := none

def pool0 : Array CpInfo := pool [(5, u "<init>"), (0, u "()V"), (1, .class_ 10), (1, u "java/lang/Object")] 113

def k0m0 : Method := { name := "<init>", desc := "()V", sig := { parameters := [], returnType := none }, accessFlags := 1, code := none }
/-- java/lang/Object -/
def k0 : Class := { plain "java/lang/Object" none with
  accessFlags := 33
  interfaces := #[]
  cf := some (fileOf pool0 8 #[] #[{ accessFlags := 1, nameIndex := 5, descriptorIndex := 6, attributes := #[] }] 33 0 #[] #[])
  fields := #[]
  methods := #[k0m0]
  instanceTypes := #[]
  staticTypes := #[]
  resolved := Array.replicate 124 none
  statics := none }

def pool1 : Array CpInfo := pool [(2, .class_ 4), (1, u "java/lang/Object"), (0, u "<init>"), (0, u "()V"), (0, .fieldref 8 9), (0, .class_ 10), (0, .nameAndType 11 12), (0, u "com/example/seefrom/seefrom/TracingField"), (0, u "TOPICAL_TERM"), (0, u "Lcom/example/seefrom/seefrom/TracingField;"), (0, .fieldref 8 14), (0, .nameAndType 15 12), (0, u "GENERAL_SUBDIVISION"), (0, .fieldref 8 17), (0, .nameAndType 18 12), (0, u "GEOGRAPHIC_SUBDIVISION"), (0, .fieldref 8 20), (0, .nameAndType 21 12), (0, u "CHRONOLOGICAL_SUBDIVISION"), (0, .methodref 23 24), (0, .class_ 25), (0, .nameAndType 26 27), (0, u "com/example/seefrom/seefrom/TracingFieldRepeatsPinLaw"), (0, u "field"), (0, u "(I)Lcom/example/seefrom/seefrom/TracingField;"), (0, .string 29), (0, u "abgivwxyz45678"), (0, .integer 2147483647), (0, .methodref 32 33), (0, .class_ 34), (0, .nameAndType 35 36), (0, u "java/lang/String"), (0, u "charAt"), (0, u "(I)C"), (0, .integer 65535), (0, .methodref 8 39), (0, .nameAndType 40 41), (0, u "repeats"), (0, u "(C)Z"), (3, u "law"), (0, u "(III)Z")] 2

def k1m0 : Method := { name := "<init>", desc := "()V", sig := { parameters := [], returnType := none }, accessFlags := 2, code := none }
def k1c1 : Code := { maxStack := 2, maxLocals := 1, code := method_2_code, exceptionTable := #[], attributes := #[] }
def k1m1 : Method := { name := "field", desc := "(I)Lcom/example/seefrom/seefrom/TracingField;", sig := { parameters := [.int], returnType := some (.object "com/example/seefrom/seefrom/TracingField") }, accessFlags := 10, code := some k1c1 }
def k1c2 : Code := { maxStack := 3, maxLocals := 8, code := code, exceptionTable := #[], attributes := #[] }
def k1m2 : Method := { name := "law", desc := "(III)Z", sig := { parameters := [.int, .int, .int], returnType := some .boolean }, accessFlags := 9, code := some k1c2 }
/-- com/example/seefrom/seefrom/TracingFieldRepeatsPinLaw -/
def k1 : Class := { plain "com/example/seefrom/seefrom/TracingFieldRepeatsPinLaw" (some 0) with
  accessFlags := 49
  interfaces := #[]
  cf := some (fileOf pool1 23 #[] #[{ accessFlags := 2, nameIndex := 5, descriptorIndex := 6, attributes := #[] }, { accessFlags := 10, nameIndex := 26, descriptorIndex := 27, attributes := #[] }, { accessFlags := 9, nameIndex := 45, descriptorIndex := 46, attributes := #[] }] 49 2 #[] #[])
  fields := #[]
  methods := #[k1m0, k1m1, k1m2]
  instanceTypes := #[]
  staticTypes := #[]
  resolved := Array.replicate 49 none
  statics := none }

def pool2 : Array CpInfo := pool [(1, .class_ 2), (0, u "java/lang/constant/Constable"), (0, .class_ 4), (0, u "java/lang/Object")] 6

/-- java/lang/constant/Constable -/
def k2 : Class := { plain "java/lang/constant/Constable" (some 0) with
  accessFlags := 1537
  interfaces := #[]
  cf := some (fileOf pool2 1 #[] #[] 1537 3 #[] #[])
  fields := #[]
  methods := #[]
  instanceTypes := #[]
  staticTypes := #[]
  resolved := Array.replicate 11 none
  statics := none }

def pool3 : Array CpInfo := pool [(1, .class_ 2), (0, u "java/lang/Comparable"), (0, .class_ 4), (0, u "java/lang/Object")] 7

/-- java/lang/Comparable -/
def k3 : Class := { plain "java/lang/Comparable" (some 0) with
  accessFlags := 1537
  interfaces := #[]
  cf := some (fileOf pool3 1 #[] #[] 1537 3 #[] #[])
  fields := #[]
  methods := #[]
  instanceTypes := #[]
  staticTypes := #[]
  resolved := Array.replicate 12 none
  statics := none }

def pool4 : Array CpInfo := pool [(1, .class_ 2), (0, u "java/io/Serializable"), (0, .class_ 4), (0, u "java/lang/Object")] 2

/-- java/io/Serializable -/
def k4 : Class := { plain "java/io/Serializable" (some 0) with
  accessFlags := 1537
  interfaces := #[]
  cf := some (fileOf pool4 1 #[] #[] 1537 3 #[] #[])
  fields := #[]
  methods := #[]
  instanceTypes := #[]
  staticTypes := #[]
  resolved := Array.replicate 7 none
  statics := none }

def pool5 : Array CpInfo := pool [(2, .class_ 4), (1, u "java/lang/Enum"), (0, u "name"), (0, u "Ljava/lang/String;"), (2, u "ordinal"), (0, u "I"), (1, .class_ 14), (1, u "java/lang/Object"), (4, u "hash"), (86, .class_ 108), (1, u "java/lang/Enum$EnumDesc"), (2, .class_ 112), (0, u "java/lang/constant/Constable"), (0, .class_ 114), (0, u "java/lang/Comparable"), (0, .class_ 116), (0, u "java/io/Serializable")] 87

/-- java/lang/Enum -/
def k5 : Class := { plain "java/lang/Enum" (some 0) with
  accessFlags := 1057
  interfaces := #[2, 3, 4]
  cf := some (fileOf pool5 2 #[.nestMembers #[106]] #[] 1057 12 #[111, 113, 115] #[{ accessFlags := 18, nameIndex := 5, descriptorIndex := 6, attributes := #[] }, { accessFlags := 18, nameIndex := 9, descriptorIndex := 10, attributes := #[] }, { accessFlags := 2, nameIndex := 19, descriptorIndex := 10, attributes := #[] }])
  fields := #[{ name := "name", type := (.object "java/lang/String"), accessFlags := 18, slot := 0, constantValue := 0 }, { name := "ordinal", type := .int, accessFlags := 18, slot := 1, constantValue := 0 }, { name := "hash", type := .int, accessFlags := 2, slot := 2, constantValue := 0 }]
  methods := #[]
  instanceTypes := #[(.object "java/lang/String"), .int, .int]
  staticTypes := #[]
  resolved := Array.replicate 204 none
  statics := none }

def pool6 : Array CpInfo := pool [(1, .class_ 2), (0, u "com/example/seefrom/seefrom/TracingField"), (2, u "TOPICAL_TERM"), (0, u "Lcom/example/seefrom/seefrom/TracingField;"), (2, u "GENERAL_SUBDIVISION"), (2, u "GEOGRAPHIC_SUBDIVISION"), (2, u "CHRONOLOGICAL_SUBDIVISION"), (2, u "$VALUES"), (0, u "[Lcom/example/seefrom/seefrom/TracingField;"), (6, .class_ 28), (1, u "java/lang/Enum"), (8, u "tag"), (0, u "Ljava/lang/String;"), (2, u "definedCodes"), (0, .fieldref 1 43), (0, .nameAndType 44 38), (0, u "unrepeatableCodes"), (2, u "mandatoryCode"), (0, u "C"), (2, u "recordKind"), (0, u "Lcom/example/seefrom/seefrom/RecordKind;"), (2, u "nonfilingIndicator"), (0, u "Z"), (2, u "BY_TAG"), (0, u "Ljava/util/Map;"), (12, .methodref 74 75), (0, .class_ 76), (0, .nameAndType 77 78), (0, u "java/lang/String"), (0, u "indexOf"), (0, u "(I)I"), (59, u "(C)Z"), (1, u "repeats")] 8

def k6c0 : Code := { maxStack := 2, maxLocals := 2, code := prog_18_method_7_code, exceptionTable := #[], attributes := #[] }
def k6m0 : Method := { name := "repeats", desc := "(C)Z", sig := { parameters := [.char], returnType := some .boolean }, accessFlags := 1, code := some k6c0 }
/-- com/example/seefrom/seefrom/TracingField -/
def k6 : Class := { plain "com/example/seefrom/seefrom/TracingField" (some 5) with
  accessFlags := 16433
  interfaces := #[]
  cf := some (fileOf pool6 1 #[] #[{ accessFlags := 1, nameIndex := 140, descriptorIndex := 138, attributes := #[] }] 16433 26 #[] #[{ accessFlags := 16409, nameIndex := 5, descriptorIndex := 6, attributes := #[] }, { accessFlags := 16409, nameIndex := 9, descriptorIndex := 6, attributes := #[] }, { accessFlags := 16409, nameIndex := 12, descriptorIndex := 6, attributes := #[] }, { accessFlags := 16409, nameIndex := 15, descriptorIndex := 6, attributes := #[] }, { accessFlags := 26, nameIndex := 59, descriptorIndex := 60, attributes := #[] }, { accessFlags := 18, nameIndex := 37, descriptorIndex := 38, attributes := #[] }, { accessFlags := 18, nameIndex := 41, descriptorIndex := 38, attributes := #[] }, { accessFlags := 18, nameIndex := 44, descriptorIndex := 38, attributes := #[] }, { accessFlags := 18, nameIndex := 47, descriptorIndex := 48, attributes := #[] }, { accessFlags := 18, nameIndex := 51, descriptorIndex := 52, attributes := #[] }, { accessFlags := 18, nameIndex := 55, descriptorIndex := 56, attributes := #[] }, { accessFlags := 4122, nameIndex := 18, descriptorIndex := 19, attributes := #[] }])
  fields := #[{ name := "TOPICAL_TERM", type := (.object "com/example/seefrom/seefrom/TracingField"), accessFlags := 16409, slot := 0, constantValue := 0 }, { name := "GENERAL_SUBDIVISION", type := (.object "com/example/seefrom/seefrom/TracingField"), accessFlags := 16409, slot := 1, constantValue := 0 }, { name := "GEOGRAPHIC_SUBDIVISION", type := (.object "com/example/seefrom/seefrom/TracingField"), accessFlags := 16409, slot := 2, constantValue := 0 }, { name := "CHRONOLOGICAL_SUBDIVISION", type := (.object "com/example/seefrom/seefrom/TracingField"), accessFlags := 16409, slot := 3, constantValue := 0 }, { name := "BY_TAG", type := (.object "java/util/Map"), accessFlags := 26, slot := 4, constantValue := 0 }, { name := "tag", type := (.object "java/lang/String"), accessFlags := 18, slot := 3, constantValue := 0 }, { name := "definedCodes", type := (.object "java/lang/String"), accessFlags := 18, slot := 4, constantValue := 0 }, { name := "unrepeatableCodes", type := (.object "java/lang/String"), accessFlags := 18, slot := 5, constantValue := 0 }, { name := "mandatoryCode", type := .char, accessFlags := 18, slot := 6, constantValue := 0 }, { name := "recordKind", type := (.object "com/example/seefrom/seefrom/RecordKind"), accessFlags := 18, slot := 7, constantValue := 0 }, { name := "nonfilingIndicator", type := .boolean, accessFlags := 18, slot := 8, constantValue := 0 }, { name := "$VALUES", type := (.array (.object "com/example/seefrom/seefrom/TracingField")), accessFlags := 4122, slot := 5, constantValue := 0 }]
  methods := #[k6m0]
  instanceTypes := #[(.object "java/lang/String"), .int, .int, (.object "java/lang/String"), (.object "java/lang/String"), (.object "java/lang/String"), .char, (.object "com/example/seefrom/seefrom/RecordKind"), .boolean]
  staticTypes := #[(.object "com/example/seefrom/seefrom/TracingField"), (.object "com/example/seefrom/seefrom/TracingField"), (.object "com/example/seefrom/seefrom/TracingField"), (.object "com/example/seefrom/seefrom/TracingField"), (.object "java/util/Map"), (.array (.object "com/example/seefrom/seefrom/TracingField"))]
  resolved := Array.replicate 149 none
  statics := some 0 }

def pool7 : Array CpInfo := pool [(2, .class_ 4), (1, u "java/lang/CharSequence"), (42, .class_ 48), (0, u "java/lang/CharSequence$1CodePointIterator"), (10, .class_ 60), (0, u "java/lang/CharSequence$1CharIterator"), (5, .class_ 67), (0, u "java/lang/Object")] 63

/-- java/lang/CharSequence -/
def k7 : Class := { plain "java/lang/CharSequence" (some 0) with
  accessFlags := 1537
  interfaces := #[]
  cf := some (fileOf pool7 2 #[.nestMembers #[47, 59]] #[] 1537 66 #[] #[])
  fields := #[]
  methods := #[]
  instanceTypes := #[]
  staticTypes := #[]
  resolved := Array.replicate 131 none
  statics := none }

def pool8 : Array CpInfo := pool [(1, .class_ 2), (0, u "java/lang/constant/ConstantDesc"), (0, .class_ 4), (0, u "java/lang/Object")] 32

/-- java/lang/constant/ConstantDesc -/
def k8 : Class := { plain "java/lang/constant/ConstantDesc" (some 0) with
  accessFlags := 1537
  interfaces := #[]
  cf := some (fileOf pool8 1 #[] #[] 1537 3 #[] #[])
  fields := #[]
  methods := #[]
  instanceTypes := #[]
  staticTypes := #[]
  resolved := Array.replicate 37 none
  statics := none }

def pool9 : Array CpInfo := pool [(2, .class_ 4), (1, u "java/lang/Object"), (0, u "<init>"), (0, u "()V"), (2, .fieldref 10 11), (0, .class_ 12), (0, .nameAndType 13 14), (0, u "java/lang/String"), (0, u "value"), (0, u "[B"), (0, .fieldref 10 16), (0, .nameAndType 17 18), (0, u "coder"), (0, u "B"), (2, u "hash"), (0, u "I"), (2, u "hashIsZero"), (0, u "Z"), (11, .fieldref 10 39), (0, .nameAndType 40 26), (0, u "COMPACT_STRINGS"), (66, .class_ 109), (1, u "java/lang/StringLatin1"), (32, u "()Z"), (191, u "()I"), (0, .methodref 10 336), (0, .nameAndType 17 337), (0, u "()B"), (25, u "([BI)C"), (27, u "(II)V"), (35, u "(I)C"), (64, .methodref 10 493), (0, .nameAndType 494 142), (0, u "isLatin1"), (0, .methodref 107 496), (0, .nameAndType 497 363), (0, u "charAt"), (3, u "checkIndex"), (3, .methodref 10 506), (0, .nameAndType 507 334), (0, u "length"), (67, .class_ 576), (0, u "java/lang/CharSequence"), (22, u "CASE_INSENSITIVE_ORDER"), (0, u "Ljava/util/Comparator;"), (32, .methodref 10 634), (0, .nameAndType 635 636), (0, u "indexOf"), (0, u "(II)I"), (0, .methodref 107 638), (0, .nameAndType 635 639), (0, u "([BIII)I"), (125, u "(I)I"), (287, .fieldref 1054 1055), (0, .class_ 1056), (0, .nameAndType 1057 1058), (0, u "jdk/internal/util/Preconditions"), (0, u "SIOOBE_FORMATTER"), (0, u "Ljava/util/function/BiFunction;"), (0, .methodref 1054 1060), (0, .nameAndType 501 1061), (0, u "(IILjava/util/function/BiFunction;)I"), (39, u "serialPersistentFields"), (0, u "[Ljava/io/ObjectStreamField;"), (0, .class_ 1104), (0, u "java/lang/String$CaseInsensitiveComparator"), (1, .class_ 1107), (0, u "java/io/Serializable"), (0, .class_ 1109), (0, u "java/lang/Comparable"), (0, .class_ 1111), (0, u "java/lang/constant/Constable"), (0, .class_ 1113), (0, u "java/lang/constant/ConstantDesc"), (2, u "serialVersionUID"), (0, u "J"), (3, u "REPL"), (0, u "C"), (2, u "LATIN1"), (1, u "UTF16")] 323

def k9m0 : Method := { name := "<init>", desc := "()V", sig := { parameters := [], returnType := none }, accessFlags := 1, code := none }
def k9c1 : Code := { maxStack := 2, maxLocals := 1, code := jdk_42_method_54_code, exceptionTable := #[], attributes := #[] }
def k9m1 : Method := { name := "length", desc := "()I", sig := { parameters := [], returnType := some .int }, accessFlags := 1, code := some k9c1 }
def k9c2 : Code := { maxStack := 2, maxLocals := 2, code := jdk_42_method_56_code, exceptionTable := #[], attributes := #[] }
def k9m2 : Method := { name := "charAt", desc := "(I)C", sig := { parameters := [.int], returnType := some .char }, accessFlags := 1, code := some k9c2 }
def k9c3 : Code := { maxStack := 3, maxLocals := 2, code := jdk_42_method_79_code, exceptionTable := #[], attributes := #[] }
def k9m3 : Method := { name := "indexOf", desc := "(I)I", sig := { parameters := [.int], returnType := some .int }, accessFlags := 1, code := some k9c3 }
def k9c4 : Code := { maxStack := 4, maxLocals := 3, code := jdk_42_method_80_code, exceptionTable := #[], attributes := #[] }
def k9m4 : Method := { name := "indexOf", desc := "(II)I", sig := { parameters := [.int, .int], returnType := some .int }, accessFlags := 1, code := some k9c4 }
def k9c5 : Code := { maxStack := 1, maxLocals := 1, code := jdk_42_method_152_code, exceptionTable := #[], attributes := #[] }
def k9m5 : Method := { name := "coder", desc := "()B", sig := { parameters := [], returnType := some .byte }, accessFlags := 0, code := some k9c5 }
def k9c6 : Code := { maxStack := 1, maxLocals := 1, code := jdk_42_method_154_code, exceptionTable := #[], attributes := #[] }
def k9m6 : Method := { name := "isLatin1", desc := "()Z", sig := { parameters := [], returnType := some .boolean }, accessFlags := 0, code := some k9c6 }
def k9c7 : Code := { maxStack := 3, maxLocals := 2, code := jdk_42_method_155_code, exceptionTable := #[], attributes := #[] }
def k9m7 : Method := { name := "checkIndex", desc := "(II)V", sig := { parameters := [.int, .int], returnType := none }, accessFlags := 8, code := some k9c7 }
/-- java/lang/String -/
def k9 : Class := { plain "java/lang/String" (some 0) with
  accessFlags := 49
  interfaces := #[4, 3, 7, 2, 8]
  cf := some (fileOf pool9 10 #[.nestMembers #[1103]] #[{ accessFlags := 1, nameIndex := 5, descriptorIndex := 6, attributes := #[] }, { accessFlags := 1, nameIndex := 507, descriptorIndex := 334, attributes := #[] }, { accessFlags := 1, nameIndex := 497, descriptorIndex := 427, attributes := #[] }, { accessFlags := 1, nameIndex := 635, descriptorIndex := 765, attributes := #[] }, { accessFlags := 1, nameIndex := 635, descriptorIndex := 636, attributes := #[] }, { accessFlags := 0, nameIndex := 17, descriptorIndex := 337, attributes := #[] }, { accessFlags := 0, nameIndex := 494, descriptorIndex := 142, attributes := #[] }, { accessFlags := 8, nameIndex := 501, descriptorIndex := 391, attributes := #[] }] 49 2 #[1106, 1108, 575, 1110, 1112] #[{ accessFlags := 18, nameIndex := 13, descriptorIndex := 14, attributes := #[] }, { accessFlags := 18, nameIndex := 17, descriptorIndex := 18, attributes := #[] }, { accessFlags := 2, nameIndex := 21, descriptorIndex := 22, attributes := #[] }, { accessFlags := 2, nameIndex := 25, descriptorIndex := 26, attributes := #[] }, { accessFlags := 26, nameIndex := 1116, descriptorIndex := 1117, attributes := #[] }, { accessFlags := 24, nameIndex := 40, descriptorIndex := 26, attributes := #[] }, { accessFlags := 26, nameIndex := 1101, descriptorIndex := 1102, attributes := #[] }, { accessFlags := 26, nameIndex := 1121, descriptorIndex := 1122, attributes := #[] }, { accessFlags := 25, nameIndex := 599, descriptorIndex := 600, attributes := #[] }, { accessFlags := 24, nameIndex := 1125, descriptorIndex := 18, attributes := #[] }, { accessFlags := 24, nameIndex := 1127, descriptorIndex := 18, attributes := #[] }])
  fields := #[{ name := "value", type := (.array .byte), accessFlags := 18, slot := 0, constantValue := 0 }, { name := "coder", type := .byte, accessFlags := 18, slot := 1, constantValue := 0 }, { name := "hash", type := .int, accessFlags := 2, slot := 2, constantValue := 0 }, { name := "hashIsZero", type := .boolean, accessFlags := 2, slot := 3, constantValue := 0 }, { name := "serialVersionUID", type := .long, accessFlags := 26, slot := 0, constantValue := 0 }, { name := "COMPACT_STRINGS", type := .boolean, accessFlags := 24, slot := 1, constantValue := 0 }, { name := "serialPersistentFields", type := (.array (.object "java/io/ObjectStreamField")), accessFlags := 26, slot := 2, constantValue := 0 }, { name := "REPL", type := .char, accessFlags := 26, slot := 3, constantValue := 0 }, { name := "CASE_INSENSITIVE_ORDER", type := (.object "java/util/Comparator"), accessFlags := 25, slot := 4, constantValue := 0 }, { name := "LATIN1", type := .byte, accessFlags := 24, slot := 5, constantValue := 0 }, { name := "UTF16", type := .byte, accessFlags := 24, slot := 6, constantValue := 0 }]
  methods := #[k9m0, k9m1, k9m2, k9m3, k9m4, k9m5, k9m6, k9m7]
  instanceTypes := #[(.array .byte), .byte, .int, .boolean]
  staticTypes := #[.long, .boolean, (.array (.object "java/io/ObjectStreamField")), .char, (.object "java/util/Comparator"), .byte, .byte]
  resolved := Array.replicate 1451 none
  statics := some 1 }

def pool10 : Array CpInfo := pool [(1, .class_ 2), (0, u "java/lang/String"), (1, .class_ 6), (1, u "java/lang/Object"), (0, u "<init>"), (0, u "()V"), (0, .methodref 1 10), (0, .nameAndType 11 12), (0, u "checkIndex"), (0, u "(II)V"), (1, .class_ 16), (1, u "java/lang/StringLatin1"), (21, .methodref 39 40), (0, .class_ 41), (0, .nameAndType 42 43), (0, u "java/lang/Math"), (0, u "min"), (0, u "(II)I"), (9, u "([BI)C"), (34, .methodref 14 89), (0, .nameAndType 90 91), (0, u "canEncode"), (0, u "(I)Z"), (0, .methodref 39 93), (0, .nameAndType 94 43), (0, u "max"), (0, .methodref 14 96), (0, .nameAndType 97 98), (0, u "indexOfChar"), (0, u "([BIII)I"), (2, u "indexOf"), (19, u "$assertionsDisabled"), (0, u "Z"), (98, .class_ 223), (1, u "java/lang/StringLatin1$LinesSpliterator"), (28, u "charAt"), (137, .class_ 391), (0, u "java/lang/StringLatin1$CharsSpliterator")] 3

def k10m0 : Method := { name := "<init>", desc := "()V", sig := { parameters := [], returnType := none }, accessFlags := 0, code := none }
def k10c1 : Code := { maxStack := 2, maxLocals := 2, code := jdk_43_method_2_code, exceptionTable := #[], attributes := #[] }
def k10m1 : Method := { name := "charAt", desc := "([BI)C", sig := { parameters := [(.array .byte), .int], returnType := some .char }, accessFlags := 9, code := some k10c1 }
def k10c2 : Code := { maxStack := 2, maxLocals := 1, code := jdk_43_method_4_code, exceptionTable := #[], attributes := #[] }
def k10m2 : Method := { name := "canEncode", desc := "(I)Z", sig := { parameters := [.int], returnType := some .boolean }, accessFlags := 9, code := some k10c2 }
def k10c3 : Code := { maxStack := 4, maxLocals := 4, code := jdk_43_method_22_code, exceptionTable := #[], attributes := #[] }
def k10m3 : Method := { name := "indexOf", desc := "([BIII)I", sig := { parameters := [(.array .byte), .int, .int, .int], returnType := some .int }, accessFlags := 9, code := some k10c3 }
def k10c4 : Code := { maxStack := 2, maxLocals := 6, code := jdk_43_method_23_code, exceptionTable := #[], attributes := #[] }
def k10m4 : Method := { name := "indexOfChar", desc := "([BIII)I", sig := { parameters := [(.array .byte), .int, .int, .int], returnType := some .int }, accessFlags := 10, code := some k10c4 }
/-- java/lang/StringLatin1 -/
def k10 : Class := { plain "java/lang/StringLatin1" (some 0) with
  accessFlags := 48
  interfaces := #[]
  cf := some (fileOf pool10 14 #[.nestMembers #[390, 221]] #[{ accessFlags := 0, nameIndex := 7, descriptorIndex := 8, attributes := #[] }, { accessFlags := 9, nameIndex := 252, descriptorIndex := 53, attributes := #[] }, { accessFlags := 9, nameIndex := 90, descriptorIndex := 91, attributes := #[] }, { accessFlags := 9, nameIndex := 101, descriptorIndex := 98, attributes := #[] }, { accessFlags := 10, nameIndex := 97, descriptorIndex := 98, attributes := #[] }] 48 4 #[] #[{ accessFlags := 4120, nameIndex := 121, descriptorIndex := 122, attributes := #[] }])
  fields := #[{ name := "$assertionsDisabled", type := .boolean, accessFlags := 4120, slot := 0, constantValue := 0 }]
  methods := #[k10m0, k10m1, k10m2, k10m3, k10m4]
  instanceTypes := #[]
  staticTypes := #[.boolean]
  resolved := Array.replicate 395 none
  statics := none }

def pool11 : Array CpInfo := pool [(2, .class_ 4), (1, u "java/lang/Object"), (0, u "<init>"), (0, u "()V"), (17, .class_ 26), (1, u "jdk/internal/util/Preconditions"), (6, u "checkIndex"), (21, .class_ 56), (0, u "jdk/internal/util/Preconditions$4"), (57, .class_ 115), (0, u "jdk/internal/util/Preconditions$1"), (7, u "SIOOBE_FORMATTER"), (0, u "Ljava/util/function/BiFunction;"), (0, .class_ 126), (0, u "jdk/internal/util/Preconditions$2"), (3, u "AIOOBE_FORMATTER"), (0, .class_ 132), (0, u "jdk/internal/util/Preconditions$3"), (3, u "IOOBE_FORMATTER"), (41, u "(IILjava/util/function/BiFunction;)I")] 15

def k11m0 : Method := { name := "<init>", desc := "()V", sig := { parameters := [], returnType := none }, accessFlags := 1, code := none }
def k11c1 : Code := { maxStack := 3, maxLocals := 3, code := jdk_41_method_11_code, exceptionTable := #[], attributes := #[] }
def k11m1 : Method := { name := "checkIndex", desc := "(IILjava/util/function/BiFunction;)I", sig := { parameters := [.int, .int, (.object "java/util/function/BiFunction")], returnType := some .int }, accessFlags := 9, code := some k11c1 }
/-- jdk/internal/util/Preconditions -/
def k11 : Class := { plain "jdk/internal/util/Preconditions" (some 0) with
  accessFlags := 33
  interfaces := #[]
  cf := some (fileOf pool11 24 #[.nestMembers #[55, 131, 125, 114]] #[{ accessFlags := 1, nameIndex := 5, descriptorIndex := 6, attributes := #[] }, { accessFlags := 9, nameIndex := 33, descriptorIndex := 178, attributes := #[] }] 33 2 #[] #[{ accessFlags := 25, nameIndex := 123, descriptorIndex := 124, attributes := #[] }, { accessFlags := 25, nameIndex := 130, descriptorIndex := 124, attributes := #[] }, { accessFlags := 25, nameIndex := 136, descriptorIndex := 124, attributes := #[] }])
  fields := #[{ name := "SIOOBE_FORMATTER", type := (.object "java/util/function/BiFunction"), accessFlags := 25, slot := 0, constantValue := 0 }, { name := "AIOOBE_FORMATTER", type := (.object "java/util/function/BiFunction"), accessFlags := 25, slot := 1, constantValue := 0 }, { name := "IOOBE_FORMATTER", type := (.object "java/util/function/BiFunction"), accessFlags := 25, slot := 2, constantValue := 0 }]
  methods := #[k11m0, k11m1]
  instanceTypes := #[]
  staticTypes := #[(.object "java/util/function/BiFunction"), (.object "java/util/function/BiFunction"), (.object "java/util/function/BiFunction")]
  resolved := Array.replicate 194 none
  statics := some 2 }

def pool12 : Array CpInfo := pool [(1, .class_ 2), (0, u "java/lang/Math"), (1, .class_ 6), (1, u "java/lang/Object"), (0, u "<init>"), (0, u "()V"), (89, .class_ 100), (1, u "java/lang/Math$RandomNumberGeneratorHolder"), (71, u "negativeZeroFloatBits"), (0, u "J"), (2, u "negativeZeroDoubleBits"), (21, u "max"), (2, u "min"), (43, u "$assertionsDisabled"), (0, u "Z"), (88, u "(II)I"), (2, u "twoToTheDoubleScaleDown"), (0, u "D"), (4, u "twoToTheDoubleScaleUp"), (9, u "E"), (3, u "PI"), (2, u "TAU"), (2, u "DEGREES_TO_RADIANS"), (0, u "RADIANS_TO_DEGREES")] 94

def k12m0 : Method := { name := "<init>", desc := "()V", sig := { parameters := [], returnType := none }, accessFlags := 2, code := none }
def k12c1 : Code := { maxStack := 2, maxLocals := 2, code := jdk_29_method_65_code, exceptionTable := #[], attributes := #[] }
def k12m1 : Method := { name := "max", desc := "(II)I", sig := { parameters := [.int, .int], returnType := some .int }, accessFlags := 9, code := some k12c1 }
def k12c2 : Code := { maxStack := 2, maxLocals := 2, code := jdk_29_method_69_code, exceptionTable := #[], attributes := #[] }
def k12m2 : Method := { name := "min", desc := "(II)I", sig := { parameters := [.int, .int], returnType := some .int }, accessFlags := 9, code := some k12c2 }
/-- java/lang/Math -/
def k12 : Class := { plain "java/lang/Math" (some 0) with
  accessFlags := 49
  interfaces := #[]
  cf := some (fileOf pool12 1 #[.nestMembers #[98]] #[{ accessFlags := 2, nameIndex := 7, descriptorIndex := 8, attributes := #[] }, { accessFlags := 9, nameIndex := 198, descriptorIndex := 335, attributes := #[] }, { accessFlags := 9, nameIndex := 201, descriptorIndex := 335, attributes := #[] }] 49 4 #[] #[{ accessFlags := 25, nameIndex := 354, descriptorIndex := 339, attributes := #[] }, { accessFlags := 25, nameIndex := 358, descriptorIndex := 339, attributes := #[] }, { accessFlags := 25, nameIndex := 361, descriptorIndex := 339, attributes := #[] }, { accessFlags := 26, nameIndex := 364, descriptorIndex := 339, attributes := #[] }, { accessFlags := 26, nameIndex := 365, descriptorIndex := 339, attributes := #[] }, { accessFlags := 26, nameIndex := 172, descriptorIndex := 173, attributes := #[] }, { accessFlags := 26, nameIndex := 176, descriptorIndex := 173, attributes := #[] }, { accessFlags := 8, nameIndex := 344, descriptorIndex := 339, attributes := #[] }, { accessFlags := 8, nameIndex := 338, descriptorIndex := 339, attributes := #[] }, { accessFlags := 4120, nameIndex := 245, descriptorIndex := 246, attributes := #[] }])
  fields := #[{ name := "E", type := .double, accessFlags := 25, slot := 0, constantValue := 0 }, { name := "PI", type := .double, accessFlags := 25, slot := 1, constantValue := 0 }, { name := "TAU", type := .double, accessFlags := 25, slot := 2, constantValue := 0 }, { name := "DEGREES_TO_RADIANS", type := .double, accessFlags := 26, slot := 3, constantValue := 0 }, { name := "RADIANS_TO_DEGREES", type := .double, accessFlags := 26, slot := 4, constantValue := 0 }, { name := "negativeZeroFloatBits", type := .long, accessFlags := 26, slot := 5, constantValue := 0 }, { name := "negativeZeroDoubleBits", type := .long, accessFlags := 26, slot := 6, constantValue := 0 }, { name := "twoToTheDoubleScaleUp", type := .double, accessFlags := 8, slot := 7, constantValue := 0 }, { name := "twoToTheDoubleScaleDown", type := .double, accessFlags := 8, slot := 8, constantValue := 0 }, { name := "$assertionsDisabled", type := .boolean, accessFlags := 4120, slot := 9, constantValue := 0 }]
  methods := #[k12m0, k12m1, k12m2]
  instanceTypes := #[]
  staticTypes := #[.double, .double, .double, .double, .double, .long, .long, .double, .double, .boolean]
  resolved := Array.replicate 460 none
  statics := none }

def pool13 : Array CpInfo := pool [(9, u "<init>"), (6, .class_ 18), (1, u "java/lang/Object"), (0, u "()V"), (1, .class_ 23), (1, u "jdk/internal/util/ArraysSupport"), (0, u "LOG2_ARRAY_LONG_INDEX_SCALE"), (0, u "I"), (2, u "U"), (0, u "Ljdk/internal/misc/Unsafe;"), (8, u "BIG_ENDIAN"), (0, u "Z"), (8, u "LOG2_BYTE_BIT_SIZE"), (4, u "LOG2_ARRAY_INT_INDEX_SCALE"), (54, u "JLA"), (0, u "Ljdk/internal/access/JavaLangAccess;"), (11, u "LOG2_ARRAY_BOOLEAN_INDEX_SCALE"), (9, u "LOG2_ARRAY_BYTE_INDEX_SCALE"), (5, u "LOG2_ARRAY_CHAR_INDEX_SCALE"), (5, u "LOG2_ARRAY_SHORT_INDEX_SCALE"), (18, u "LOG2_ARRAY_FLOAT_INDEX_SCALE"), (24, u "LOG2_ARRAY_DOUBLE_INDEX_SCALE"), (89, u "T_BOOLEAN"), (2, u "T_CHAR"), (1, u "T_FLOAT"), (1, u "T_DOUBLE"), (1, u "T_BYTE"), (1, u "T_SHORT"), (1, u "T_INT"), (1, u "T_LONG"), (1, u "SOFT_MAX_ARRAY_LENGTH")] 83

def k13m0 : Method := { name := "<init>", desc := "()V", sig := { parameters := [], returnType := none }, accessFlags := 2, code := none }
/-- jdk/internal/util/ArraysSupport -/
def k13 : Class := { plain "jdk/internal/util/ArraysSupport" (some 0) with
  accessFlags := 33
  interfaces := #[]
  cf := some (fileOf pool13 21 #[] #[{ accessFlags := 2, nameIndex := 9, descriptorIndex := 19, attributes := #[] }] 33 16 #[] #[{ accessFlags := 24, nameIndex := 28, descriptorIndex := 29, attributes := #[] }, { accessFlags := 26, nameIndex := 38, descriptorIndex := 39, attributes := #[] }, { accessFlags := 25, nameIndex := 121, descriptorIndex := 25, attributes := #[] }, { accessFlags := 25, nameIndex := 131, descriptorIndex := 25, attributes := #[] }, { accessFlags := 25, nameIndex := 137, descriptorIndex := 25, attributes := #[] }, { accessFlags := 25, nameIndex := 143, descriptorIndex := 25, attributes := #[] }, { accessFlags := 25, nameIndex := 53, descriptorIndex := 25, attributes := #[] }, { accessFlags := 25, nameIndex := 24, descriptorIndex := 25, attributes := #[] }, { accessFlags := 25, nameIndex := 162, descriptorIndex := 25, attributes := #[] }, { accessFlags := 25, nameIndex := 187, descriptorIndex := 25, attributes := #[] }, { accessFlags := 26, nameIndex := 48, descriptorIndex := 25, attributes := #[] }, { accessFlags := 25, nameIndex := 277, descriptorIndex := 25, attributes := #[] }, { accessFlags := 25, nameIndex := 280, descriptorIndex := 25, attributes := #[] }, { accessFlags := 25, nameIndex := 282, descriptorIndex := 25, attributes := #[] }, { accessFlags := 25, nameIndex := 284, descriptorIndex := 25, attributes := #[] }, { accessFlags := 25, nameIndex := 286, descriptorIndex := 25, attributes := #[] }, { accessFlags := 25, nameIndex := 288, descriptorIndex := 25, attributes := #[] }, { accessFlags := 25, nameIndex := 290, descriptorIndex := 25, attributes := #[] }, { accessFlags := 25, nameIndex := 292, descriptorIndex := 25, attributes := #[] }, { accessFlags := 26, nameIndex := 108, descriptorIndex := 109, attributes := #[] }, { accessFlags := 25, nameIndex := 294, descriptorIndex := 25, attributes := #[] }])
  fields := #[{ name := "U", type := (.object "jdk/internal/misc/Unsafe"), accessFlags := 24, slot := 0, constantValue := 0 }, { name := "BIG_ENDIAN", type := .boolean, accessFlags := 26, slot := 1, constantValue := 0 }, { name := "LOG2_ARRAY_BOOLEAN_INDEX_SCALE", type := .int, accessFlags := 25, slot := 2, constantValue := 0 }, { name := "LOG2_ARRAY_BYTE_INDEX_SCALE", type := .int, accessFlags := 25, slot := 3, constantValue := 0 }, { name := "LOG2_ARRAY_CHAR_INDEX_SCALE", type := .int, accessFlags := 25, slot := 4, constantValue := 0 }, { name := "LOG2_ARRAY_SHORT_INDEX_SCALE", type := .int, accessFlags := 25, slot := 5, constantValue := 0 }, { name := "LOG2_ARRAY_INT_INDEX_SCALE", type := .int, accessFlags := 25, slot := 6, constantValue := 0 }, { name := "LOG2_ARRAY_LONG_INDEX_SCALE", type := .int, accessFlags := 25, slot := 7, constantValue := 0 }, { name := "LOG2_ARRAY_FLOAT_INDEX_SCALE", type := .int, accessFlags := 25, slot := 8, constantValue := 0 }, { name := "LOG2_ARRAY_DOUBLE_INDEX_SCALE", type := .int, accessFlags := 25, slot := 9, constantValue := 0 }, { name := "LOG2_BYTE_BIT_SIZE", type := .int, accessFlags := 26, slot := 10, constantValue := 0 }, { name := "T_BOOLEAN", type := .int, accessFlags := 25, slot := 11, constantValue := 0 }, { name := "T_CHAR", type := .int, accessFlags := 25, slot := 12, constantValue := 0 }, { name := "T_FLOAT", type := .int, accessFlags := 25, slot := 13, constantValue := 0 }, { name := "T_DOUBLE", type := .int, accessFlags := 25, slot := 14, constantValue := 0 }, { name := "T_BYTE", type := .int, accessFlags := 25, slot := 15, constantValue := 0 }, { name := "T_SHORT", type := .int, accessFlags := 25, slot := 16, constantValue := 0 }, { name := "T_INT", type := .int, accessFlags := 25, slot := 17, constantValue := 0 }, { name := "T_LONG", type := .int, accessFlags := 25, slot := 18, constantValue := 0 }, { name := "JLA", type := (.object "jdk/internal/access/JavaLangAccess"), accessFlags := 26, slot := 19, constantValue := 0 }, { name := "SOFT_MAX_ARRAY_LENGTH", type := .int, accessFlags := 25, slot := 20, constantValue := 0 }]
  methods := #[k13m0]
  instanceTypes := #[]
  staticTypes := #[(.object "jdk/internal/misc/Unsafe"), .boolean, .int, .int, .int, .int, .int, .int, .int, .int, .int, .int, .int, .int, .int, .int, .int, .int, .int, (.object "jdk/internal/access/JavaLangAccess"), .int]
  resolved := Array.replicate 378 none
  statics := none }

def pool14 : Array CpInfo := pool [(1, u "java/lang/Cloneable"), (0, .class_ 1), (0, u "java/lang/Object"), (0, .class_ 3)] 3

/-- java/lang/Cloneable -/
def k14 : Class := { plain "java/lang/Cloneable" (some 0) with
  accessFlags := 1537
  interfaces := #[]
  cf := some (fileOf pool14 2 #[] #[] 1537 4 #[] #[])
  fields := #[]
  methods := #[]
  instanceTypes := #[]
  staticTypes := #[]
  resolved := Array.replicate 8 none
  statics := none }

/-- the primitive byte -/
def k15 : Class := { plain "byte" none with kind := .primitive 'B', accessFlags := 0x411 }
/-- [B -/
def k16 : Class := { plain "[B" (some 0) with kind := .array 15 .byte, interfaces := #[14, 4], accessFlags := 1041 }

/-- the primitive int -/
def k17 : Class := { plain "int" none with kind := .primitive 'I', accessFlags := 0x411 }
/-- [I -/
def k18 : Class := { plain "[I" (some 0) with kind := .array 17 .int, interfaces := #[14, 4], accessFlags := 1041 }

def heap : Heap := #[{ cls := 6, slots := #[.ref 7, .ref 8, .ref 9, .ref 10, .null, .null], vm := .statics 6 },
  { cls := 9, slots := #[.long 0, .int 1, .null, .int 0, .null, .int 0, .int 0], vm := .statics 9 },
  { cls := 11, slots := #[.null, .null, .null], vm := .statics 11 },
  { cls := 16, slots := #[.int 97, .int 98, .int 119, .int 54], vm := .none },
  { cls := 16, slots := #[.int 119, .int 54], vm := .none },
  { cls := 9, slots := #[.ref 3, .int 0, .int 0, .int 0], vm := .none },
  { cls := 9, slots := #[.ref 4, .int 0, .int 0, .int 0], vm := .none },
  { cls := 6, slots := #[.null, .int 0, .int 0, .null, .null, .ref 5, .int 0, .null, .int 0], vm := .none },
  { cls := 6, slots := #[.null, .int 1, .int 0, .null, .null, .ref 6, .int 0, .null, .int 0], vm := .none },
  { cls := 6, slots := #[.null, .int 2, .int 0, .null, .null, .ref 6, .int 0, .null, .int 0], vm := .none },
  { cls := 6, slots := #[.null, .int 3, .int 0, .null, .null, .ref 6, .int 0, .null, .int 0], vm := .none }]
def classes : Array Class := #[k0, k1, k2, k3, k4, k5, k6, k7, k8, k9, k10, k11, k12, k13, k14, k15, k16, k17, k18]
def interned : List (Array UInt16 × Addr) := []
def slotsUsed : Nat := 66
def theMethod : MethodId := ⟨1, 2⟩
def args0 : Array Value := #[.int 0, .int 3, .int 0]
def aboutOver (below : List Frame) : State where
  vm := { classes := classes, interned := interned.toArray }
  heap := heap
  slotsUsed := slotsUsed
  threads := #[{ frames := .invoking theMethod args0 :: below }]
def below0 : List Frame := [.native { method := ⟨0, 0⟩, args := #[] }]
def about1 : State := aboutOver below0
def p0 : Program := .bare "" "" ""
def e0 : Env := launch0.env 0 0 0
theorem w_frames : about1.frames = Frame.invoking theMethod args0 :: below0 := rfl
set_option maxRecDepth 65536 in
theorem w_args : argsFit about1.vm theMethod args0 = true := by decide +kernel
set_option maxRecDepth 65536 in
theorem w_heap : heapFits about1 = true := by decide +kernel
set_option maxRecDepth 65536 in
theorem w_runnable : about1.curStatus? = some .runnable := by decide +kernel
set_option maxRecDepth 65536 in
theorem w_alone : about1.alone = true := by decide +kernel
set_option maxRecDepth 65536 in
theorem w_named : about1.methodNamed? x = some theMethod := by decide +kernel
set_option maxRecDepth 65536 in
theorem w_hears : about1.hears theMethod below0 = true := by decide +kernel
set_option maxRecDepth 65536 in
theorem w_ripe : about1.ripe theMethod args0 below0 = true := by decide +kernel
theorem w_running : about1.status = .running := rfl
set_option maxRecDepth 65536 in
theorem w_room : about1.hasRoom e0.platform room_1 = true :=
  launch0.hasRoom_least _ room_1 (by decide +kernel) (by decide +kernel) (by decide +kernel) (by decide +kernel) (by decide +kernel) (by decide +kernel)
theorem allAtoms_all (ts : List Jvm.Cond) (a : Array Jvm.Value) (st : Jvm.State) : (allAtoms ts).before a st = ts.all (fun c => c.before a st) := by
  induction ts with
  | nil => rfl
  | cons c t ih =>
    show (Jvm.Cond.and c (allAtoms t)).before a st = _
    rw [Jvm.Cond.before_and, ih, List.all_cons]
def words1 : List Jvm.Cond := Jvm.Cond.code x code maxLocals ret :: tables_1
/-- a 'code' word, met by the world's own term for the bytes: nothing is compared byte by byte -/
theorem code_word {y : MethodName} {bytes : ByteArray} {mx : Nat} {rt : Option FieldType} {a : Array Value} {s : State} {m : MethodId} {meth : Method} {c : Code} (h1 : s.methodNamed? y = some m) (h2 : s.vm.method? m = some meth) (h3 : meth.code = some c) (h4 : c.code = bytes)
    (h5 : (c.maxLocals == mx && c.exceptionTable.isEmpty && decide (c.maxStack ≤ mostOperands) && decide (meth.sig.returnType = rt) && !meth.locks && decide (parseMethodDescriptor y.desc = some meth.sig)) = true) : (Jvm.Cond.code y bytes mx rt).before a s = true := by
  simp only [Bool.and_eq_true, beq_iff_eq, Bool.not_eq_true', decide_eq_true_eq] at h5
  obtain ⟨⟨⟨⟨⟨g1, g2⟩, g3⟩, g4⟩, g5⟩, g6⟩ := h5
  simp [Cond.before, Cond.holds, Cond.value, h1, h2, h3, h4, g1, g2, g3, g4, g5, g6]
def isCode : Jvm.Cond → Bool
  | .code _ _ _ _ => true
  | _ => false
theorem all_split {L : List Jvm.Cond} {P : Jvm.Cond → Bool} (h1 : L.all (fun c => isCode c || P c) = true) (h2 : ∀ c ∈ L.filter isCode, P c = true) : L.all P = true := by
  refine List.all_eq_true.mpr fun c hc => ?_
  have h := List.all_eq_true.mp h1 c hc
  rcases Bool.eq_false_or_eq_true (isCode c) with hi | hi
  · exact h2 c (List.mem_filter.mpr ⟨hc, hi⟩)
  · simpa [hi] using h
set_option maxRecDepth 65536 in
theorem w_c0 : (Jvm.Cond.code x code maxLocals ret).before args0 about1 = true := code_word (m := ⟨1, 2⟩) (meth := k1m2) (c := k1c2) (by decide +kernel) rfl rfl rfl (by decide +kernel)
set_option maxRecDepth 65536 in
theorem w_c1 : (Jvm.Cond.code ({ cls := "com/example/seefrom/seefrom/TracingFieldRepeatsPinLaw", name := "field", desc := "(I)Lcom/example/seefrom/seefrom/TracingField;" } : Jvm.MethodName) method_2_code (1 : Nat) (Option.some (Jvm.ClassFile.FieldType.object "com/example/seefrom/seefrom/TracingField"))).before args0 about1 = true := code_word (m := ⟨1, 1⟩) (meth := k1m1) (c := k1c1) (by decide +kernel) rfl rfl rfl (by decide +kernel)
set_option maxRecDepth 65536 in
theorem w_c2 : (Jvm.Cond.code ({ cls := "java/lang/String", name := "charAt", desc := "(I)C" } : Jvm.MethodName) jdk_42_method_56_code (2 : Nat) (Option.some Jvm.ClassFile.FieldType.char)).before args0 about1 = true := code_word (m := ⟨9, 2⟩) (meth := k9m2) (c := k9c2) (by decide +kernel) rfl rfl rfl (by decide +kernel)
set_option maxRecDepth 65536 in
theorem w_c3 : (Jvm.Cond.code ({ cls := "java/lang/String", name := "isLatin1", desc := "()Z" } : Jvm.MethodName) jdk_42_method_154_code (1 : Nat) (Option.some Jvm.ClassFile.FieldType.boolean)).before args0 about1 = true := code_word (m := ⟨9, 6⟩) (meth := k9m6) (c := k9c6) (by decide +kernel) rfl rfl rfl (by decide +kernel)
set_option maxRecDepth 65536 in
theorem w_c4 : (Jvm.Cond.code ({ cls := "java/lang/StringLatin1", name := "charAt", desc := "([BI)C" } : Jvm.MethodName) jdk_43_method_2_code (2 : Nat) (Option.some Jvm.ClassFile.FieldType.char)).before args0 about1 = true := code_word (m := ⟨10, 1⟩) (meth := k10m1) (c := k10c1) (by decide +kernel) rfl rfl rfl (by decide +kernel)
set_option maxRecDepth 65536 in
theorem w_c5 : (Jvm.Cond.code ({ cls := "java/lang/String", name := "checkIndex", desc := "(II)V" } : Jvm.MethodName) jdk_42_method_155_code (2 : Nat) (Option.none : Option Jvm.ClassFile.FieldType)).before args0 about1 = true := code_word (m := ⟨9, 7⟩) (meth := k9m7) (c := k9c7) (by decide +kernel) rfl rfl rfl (by decide +kernel)
set_option maxRecDepth 65536 in
theorem w_c6 : (Jvm.Cond.code ({ cls := "jdk/internal/util/Preconditions", name := "checkIndex", desc := "(IILjava/util/function/BiFunction;)I" } : Jvm.MethodName) jdk_41_method_11_code (3 : Nat) (Option.some Jvm.ClassFile.FieldType.int)).before args0 about1 = true := code_word (m := ⟨11, 1⟩) (meth := k11m1) (c := k11c1) (by decide +kernel) rfl rfl rfl (by decide +kernel)
set_option maxRecDepth 65536 in
theorem w_c7 : (Jvm.Cond.code ({ cls := "com/example/seefrom/seefrom/TracingField", name := "repeats", desc := "(C)Z" } : Jvm.MethodName) prog_18_method_7_code (2 : Nat) (Option.some Jvm.ClassFile.FieldType.boolean)).before args0 about1 = true := code_word (m := ⟨6, 0⟩) (meth := k6m0) (c := k6c0) (by decide +kernel) rfl rfl rfl (by decide +kernel)
set_option maxRecDepth 65536 in
theorem w_c8 : (Jvm.Cond.code ({ cls := "java/lang/String", name := "indexOf", desc := "(I)I" } : Jvm.MethodName) jdk_42_method_79_code (2 : Nat) (Option.some Jvm.ClassFile.FieldType.int)).before args0 about1 = true := code_word (m := ⟨9, 3⟩) (meth := k9m3) (c := k9c3) (by decide +kernel) rfl rfl rfl (by decide +kernel)
set_option maxRecDepth 65536 in
theorem w_c9 : (Jvm.Cond.code ({ cls := "java/lang/String", name := "indexOf", desc := "(II)I" } : Jvm.MethodName) jdk_42_method_80_code (3 : Nat) (Option.some Jvm.ClassFile.FieldType.int)).before args0 about1 = true := code_word (m := ⟨9, 4⟩) (meth := k9m4) (c := k9c4) (by decide +kernel) rfl rfl rfl (by decide +kernel)
set_option maxRecDepth 65536 in
theorem w_c10 : (Jvm.Cond.code ({ cls := "java/lang/String", name := "length", desc := "()I" } : Jvm.MethodName) jdk_42_method_54_code (1 : Nat) (Option.some Jvm.ClassFile.FieldType.int)).before args0 about1 = true := code_word (m := ⟨9, 1⟩) (meth := k9m1) (c := k9c1) (by decide +kernel) rfl rfl rfl (by decide +kernel)
set_option maxRecDepth 65536 in
theorem w_c11 : (Jvm.Cond.code ({ cls := "java/lang/String", name := "coder", desc := "()B" } : Jvm.MethodName) jdk_42_method_152_code (1 : Nat) (Option.some Jvm.ClassFile.FieldType.byte)).before args0 about1 = true := code_word (m := ⟨9, 5⟩) (meth := k9m5) (c := k9c5) (by decide +kernel) rfl rfl rfl (by decide +kernel)
set_option maxRecDepth 65536 in
theorem w_c12 : (Jvm.Cond.code ({ cls := "java/lang/StringLatin1", name := "indexOf", desc := "([BIII)I" } : Jvm.MethodName) jdk_43_method_22_code (4 : Nat) (Option.some Jvm.ClassFile.FieldType.int)).before args0 about1 = true := code_word (m := ⟨10, 3⟩) (meth := k10m3) (c := k10c3) (by decide +kernel) rfl rfl rfl (by decide +kernel)
set_option maxRecDepth 65536 in
theorem w_c13 : (Jvm.Cond.code ({ cls := "java/lang/StringLatin1", name := "canEncode", desc := "(I)Z" } : Jvm.MethodName) jdk_43_method_4_code (1 : Nat) (Option.some Jvm.ClassFile.FieldType.boolean)).before args0 about1 = true := code_word (m := ⟨10, 2⟩) (meth := k10m2) (c := k10c2) (by decide +kernel) rfl rfl rfl (by decide +kernel)
set_option maxRecDepth 65536 in
theorem w_c14 : (Jvm.Cond.code ({ cls := "java/lang/Math", name := "max", desc := "(II)I" } : Jvm.MethodName) jdk_29_method_65_code (2 : Nat) (Option.some Jvm.ClassFile.FieldType.int)).before args0 about1 = true := code_word (m := ⟨12, 1⟩) (meth := k12m1) (c := k12c1) (by decide +kernel) rfl rfl rfl (by decide +kernel)
set_option maxRecDepth 65536 in
theorem w_c15 : (Jvm.Cond.code ({ cls := "java/lang/Math", name := "min", desc := "(II)I" } : Jvm.MethodName) jdk_29_method_69_code (2 : Nat) (Option.some Jvm.ClassFile.FieldType.int)).before args0 about1 = true := code_word (m := ⟨12, 2⟩) (meth := k12m2) (c := k12c2) (by decide +kernel) rfl rfl rfl (by decide +kernel)
set_option maxRecDepth 65536 in
theorem w_c16 : (Jvm.Cond.code ({ cls := "java/lang/StringLatin1", name := "indexOfChar", desc := "([BIII)I" } : Jvm.MethodName) jdk_43_method_23_code (6 : Nat) (Option.some Jvm.ClassFile.FieldType.int)).before args0 about1 = true := code_word (m := ⟨10, 4⟩) (meth := k10m4) (c := k10c4) (by decide +kernel) rfl rfl rfl (by decide +kernel)
def codes1 : List Jvm.Cond := [Jvm.Cond.code x code maxLocals ret, Jvm.Cond.code ({ cls := "com/example/seefrom/seefrom/TracingFieldRepeatsPinLaw", name := "field", desc := "(I)Lcom/example/seefrom/seefrom/TracingField;" } : Jvm.MethodName) method_2_code (1 : Nat) (Option.some (Jvm.ClassFile.FieldType.object "com/example/seefrom/seefrom/TracingField")), Jvm.Cond.code ({ cls := "java/lang/String", name := "charAt", desc := "(I)C" } : Jvm.MethodName) jdk_42_method_56_code (2 : Nat) (Option.some Jvm.ClassFile.FieldType.char), Jvm.Cond.code ({ cls := "java/lang/String", name := "isLatin1", desc := "()Z" } : Jvm.MethodName) jdk_42_method_154_code (1 : Nat) (Option.some Jvm.ClassFile.FieldType.boolean), Jvm.Cond.code ({ cls := "java/lang/StringLatin1", name := "charAt", desc := "([BI)C" } : Jvm.MethodName) jdk_43_method_2_code (2 : Nat) (Option.some Jvm.ClassFile.FieldType.char), Jvm.Cond.code ({ cls := "java/lang/String", name := "checkIndex", desc := "(II)V" } : Jvm.MethodName) jdk_42_method_155_code (2 : Nat) (Option.none : Option Jvm.ClassFile.FieldType), Jvm.Cond.code ({ cls := "jdk/internal/util/Preconditions", name := "checkIndex", desc := "(IILjava/util/function/BiFunction;)I" } : Jvm.MethodName) jdk_41_method_11_code (3 : Nat) (Option.some Jvm.ClassFile.FieldType.int), Jvm.Cond.code ({ cls := "com/example/seefrom/seefrom/TracingField", name := "repeats", desc := "(C)Z" } : Jvm.MethodName) prog_18_method_7_code (2 : Nat) (Option.some Jvm.ClassFile.FieldType.boolean), Jvm.Cond.code ({ cls := "java/lang/String", name := "indexOf", desc := "(I)I" } : Jvm.MethodName) jdk_42_method_79_code (2 : Nat) (Option.some Jvm.ClassFile.FieldType.int), Jvm.Cond.code ({ cls := "java/lang/String", name := "indexOf", desc := "(II)I" } : Jvm.MethodName) jdk_42_method_80_code (3 : Nat) (Option.some Jvm.ClassFile.FieldType.int), Jvm.Cond.code ({ cls := "java/lang/String", name := "length", desc := "()I" } : Jvm.MethodName) jdk_42_method_54_code (1 : Nat) (Option.some Jvm.ClassFile.FieldType.int), Jvm.Cond.code ({ cls := "java/lang/String", name := "coder", desc := "()B" } : Jvm.MethodName) jdk_42_method_152_code (1 : Nat) (Option.some Jvm.ClassFile.FieldType.byte), Jvm.Cond.code ({ cls := "java/lang/StringLatin1", name := "indexOf", desc := "([BIII)I" } : Jvm.MethodName) jdk_43_method_22_code (4 : Nat) (Option.some Jvm.ClassFile.FieldType.int), Jvm.Cond.code ({ cls := "java/lang/StringLatin1", name := "canEncode", desc := "(I)Z" } : Jvm.MethodName) jdk_43_method_4_code (1 : Nat) (Option.some Jvm.ClassFile.FieldType.boolean), Jvm.Cond.code ({ cls := "java/lang/Math", name := "max", desc := "(II)I" } : Jvm.MethodName) jdk_29_method_65_code (2 : Nat) (Option.some Jvm.ClassFile.FieldType.int), Jvm.Cond.code ({ cls := "java/lang/Math", name := "min", desc := "(II)I" } : Jvm.MethodName) jdk_29_method_69_code (2 : Nat) (Option.some Jvm.ClassFile.FieldType.int), Jvm.Cond.code ({ cls := "java/lang/StringLatin1", name := "indexOfChar", desc := "([BIII)I" } : Jvm.MethodName) jdk_43_method_23_code (6 : Nat) (Option.some Jvm.ClassFile.FieldType.int)]
set_option maxRecDepth 65536 in
theorem codes_eq : words1.filter isCode = codes1 := rfl
theorem w_codes : ∀ c ∈ words1.filter isCode, c.before args0 about1 = true := by
  rw [codes_eq]
  intro c hc
  simp only [codes1, List.mem_cons, List.not_mem_nil, or_false] at hc
  rcases hc with rfl | rfl | rfl | rfl | rfl | rfl | rfl | rfl | rfl | rfl | rfl | rfl | rfl | rfl | rfl | rfl | rfl
  · exact w_c0
  · exact w_c1
  · exact w_c2
  · exact w_c3
  · exact w_c4
  · exact w_c5
  · exact w_c6
  · exact w_c7
  · exact w_c8
  · exact w_c9
  · exact w_c10
  · exact w_c11
  · exact w_c12
  · exact w_c13
  · exact w_c14
  · exact w_c15
  · exact w_c16
set_option maxRecDepth 65536 in
theorem w_t1 : (words1.take 24).all (fun c => isCode c || c.before args0 about1) = true := by decide +kernel
set_option maxRecDepth 65536 in
theorem w_t2 : ((words1.drop 24).take 24).all (fun c => isCode c || c.before args0 about1) = true := by decide +kernel
set_option maxRecDepth 65536 in
theorem w_t3 : (((words1.drop 24).drop 24).take 24).all (fun c => isCode c || c.before args0 about1) = true := by decide +kernel
set_option maxRecDepth 65536 in
theorem w_t4 : (((words1.drop 24).drop 24).drop 24).all (fun c => isCode c || c.before args0 about1) = true := by decide +kernel
theorem w_tables : (allAtoms (Jvm.Cond.code x code maxLocals ret :: tables_1)).before args0 about1 = true := by
  rw [allAtoms_all]
  show words1.all (fun c => c.before args0 about1) = true
  refine all_split ?_ w_codes
  rw [← List.take_append_drop 24 words1, List.all_append, w_t1, ← List.take_append_drop 24 (words1.drop 24), List.all_append, w_t2, ← List.take_append_drop 24 ((words1.drop 24).drop 24), List.all_append, w_t3, w_t4]
  rfl
set_option maxRecDepth 65536 in
theorem w_rest : rest_1_c.before args0 about1 = true := by decide +kernel
set_option maxRecDepth 65536 in
theorem w_case : (Jvm.Cond.and given_1 narrow_1).before args0 about1 = true := by decide +kernel
set_option maxRecDepth 65536 in
theorem w_consts : constsHeld consts_1 about1 := Jvm.Lit.constsHeldB_iff.mp (by decide +kernel)
theorem w_applies : (headSpec (Jvm.Cond.code x code maxLocals ret :: tables_1) room_1).applies x e0.platform about1 = true :=
  (Spec.applies_iff w_frames).mpr ⟨w_running, w_runnable, w_alone, w_named, w_hears, w_ripe, w_room, w_tables⟩
theorem atStart : AtStart classFile x code maxLocals ret World_1 tables_1 room_1 Calls_1 rest_1 Pre_1 launch0 p0 e0 about1 theMethod args0 below0 :=
  ⟨lists_1, trivial, launch0.admits_env _ _ _, launch0.least_env, fairChoices_fair.cas, fairChoices_fair.clock, w_frames, w_args, w_heap, w_applies, ⟨w_consts, trivial⟩, w_rest, w_case⟩
end start1
theorem witness_1 : WitnessClaimed_1 := ⟨start1.p0, start1.e0, start1.about1, start1.theMethod, start1.args0, start1.below0, start1.atStart⟩
end Jvm.Pilot.@@N@@
