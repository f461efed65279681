import JvmDerived
import JvmDerived.Pilot.@@N@@Statement
import JvmDerived.Pilot.@@N@@Code
set_option linter.unusedVariables false
set_option linter.unusedSimpArgs false
namespace Jvm.Pilot.@@N@@
open Jvm Jvm.ClassFile Sem Op Lib Jvm.Free Jvm.Stand Jvm.LawKit Jvm.RoadKit Bundle Jvm.Pilot.@@N@@.Jvm.D
section Own
variable {p : Program} {l : Launch} {e : Env} {R : Room} {s : State} {m : MethodId} {args : Array Value} {below : List Frame} {meth : Method} {c : Code} {Z : State} {a0 : Array Value} {y : MethodName} {bytes : ByteArray} {maxL : Nat} {ret : Option FieldType} {Q : Option Value → Heap → Prop} {P : Option Value → State → Prop} {n0 : Nat} {h : Heap} {k n : Nat} {f f' : JFrame} {pc pc' pt : Nat} {Ls : Array Slot} {S : List Value}
/-- what a walk knows of its own method -/
def Cx (p : Program) (s : State) (m : MethodId) (meth : Method) (c : Code) (Z : State) (y : MethodName) (bytes : ByteArray) (maxL : Nat) (ret : Option FieldType) : Prop :=
  p.tables.exec = Jvm.exec ∧ Z.Warmed39 s.vm ∧ c.code = bytes ∧ c.maxLocals = maxL ∧ s.vm.findClass y.cls = some m.cls ∧ meth.name = y.name ∧ meth.sig.returnType = ret ∧ meth.locks = false
/-- the run from U returns, and what it leaves is as P says -/
def Go (p : Program) (e : Env) (below : List Frame) (P : Option Value → State → Prop) (U : State) : Prop :=
  ∃ s₂ v, Steps p.tables e below U s₂ ∧ s₂.status = .running ∧ Ended s₂ below (.returned v) ∧ P v s₂
/-- as Q says, within the room, seen from the state s -/
def Wst (s : State) (R : Room) (n0 : Nat) (Q : Option Value → Heap → Prop) : Option Value → State → Prop := fun v s₂ => Q v s₂.heap ∧ ∃ L, Fr n0 L ∧ FrameEnd s (.returned v) s₂ L R.cells R.slots
/-- from wherever the walk stands with the heap h, k cells and n slots made, the frame f on top: it ends as P says -/
def G (p : Program) (l : Launch) (e : Env) (R : Room) (s : State) (m : MethodId) (args : Array Value) (below : List Frame) (meth : Method) (c : Code) (n0 : Nat) (P : Option Value → State → Prop) (h : Heap) (k n : Nat) (f : JFrame) : Prop :=
  ∀ T locs, Stand p l e R s m args below meth c T locs k n → T.heap = h → Fr n0 locs → Go p e below P (T.setTop f)
/-- a method's contract at the heap h with the arguments av -/
def Con (l : Launch) (Z : State) (y : MethodName) (bytes : ByteArray) (maxL : Nat) (ret : Option FieldType) (R : Room) (av : Array Value) (h : Heap) (n0 : Nat) (Q : Option Value → Heap → Prop) : Prop :=
  ∀ ws : List Jvm.Cond, MetFree l y (head1 (Jvm.Cond.code y bytes maxL ret :: ws) R) (fun a U => a = av ∧ Z.Warmed39 U.vm ∧ U.heap = h) (fun _ _ _ _ _ => True) (fun _ U o U' => ∃ v L, o = .returned v ∧ (Q v U'.heap ∧ Fr n0 L) ∧ FrameEnd U o U' L R.cells R.slots)
theorem Con.of {av : Array Value} (hy : plainFor y = true) (ef : ∀ m, entryFrame m av maxL = mkF m 0 Ls [])
    (body : ∀ p e s m below meth c, Cx p s m meth c Z y bytes maxL ret → G p l e R s m av below meth c n0 (Wst s R n0 Q) h 0 0 (mkF m 0 Ls [])) : Con l Z y bytes maxL ret R av h n0 Q := by
  intro ws
  refine MetFree.of_bodySF hy hisR ?_
  intro p e s m args below meth c s₁ Bd hml0 hP hK
  obtain ⟨rfl, hZ, hh⟩ := hP
  have X0 : Stand p l e R s m _ below meth c s₁ [] 0 0 := Stand.of_body Bd
  have e0 : s₁.heap = h := by rw [← hh, Bd.state]; rfl
  obtain ⟨s₂, v, h1, h2, h3, h4, L, h5, h6⟩ := body p e s m below meth c ⟨Bd.exec, hZ, Bd.bytes, hml0, findClass_of_methodNamed Bd.named, (name_of_methodNamed Bd.named Bd.method).1, Bd.returns, Bd.notSynchronized⟩ s₁ [] X0 e0 (Fr.nil n0)
  exact ⟨s₂, _, castTop (ef m) h1, h2, h3, v, L, rfl, ⟨h4, h5⟩, h6⟩
theorem Con.imp {av : Array Value} {Q' : Option Value → Heap → Prop} (K : Con l Z y bytes maxL ret R av h n0 Q) (hq : ∀ v h', Q v h' → Q' v h') : Con l Z y bytes maxL ret R av h n0 Q' := by
  intro ws p e ha hc hk s m args below hf happ hP hK
  obtain ⟨n, o, h1, h2, h3, v, L, h4, h5, h6⟩ := K ws p e ha hc hk s m args below hf happ hP hK
  exact ⟨n, o, h1, h2, h3, v, L, h4, ⟨hq _ _ h5.1, h5.2⟩, h6⟩
theorem G.pl (st : ∀ T locs, Stand p l e R s m args below meth c T locs k n → T.heap = h → ∀ t, Steps p.tables e below (T.setTop f') t → Steps p.tables e below (T.setTop f) t) (nx : G p l e R s m args below meth c n0 P h k n f') : G p l e R s m args below meth c n0 P h k n f := fun T locs X eT N => by
  obtain ⟨s₂, o, h1, r⟩ := nx T locs X eT N
  exact ⟨s₂, o, st T locs X eT _ h1, r⟩
/-- a step that hands back another state, the heap as it was -/
theorem G.mv (st : ∀ T locs, Stand p l e R s m args below meth c T locs k n → T.heap = h → ∃ T', Stand p l e R s m args below meth c T' locs k n ∧ T'.heap = h ∧ ∀ t, Steps p.tables e below (T'.setTop f') t → Steps p.tables e below (T.setTop f) t) (nx : G p l e R s m args below meth c n0 P h k n f') : G p l e R s m args below meth c n0 P h k n f := fun T locs X eT N => by
  obtain ⟨T', X', e', q⟩ := st T locs X eT
  obtain ⟨s₂, o, h1, r⟩ := nx T' locs X' e' N
  exact ⟨s₂, o, q _ h1, r⟩
theorem G.mono {k' n' : Nat} (hk : k ≤ k') (hn : n ≤ n') (nx : G p l e R s m args below meth c n0 P h k' n' f) : G p l e R s m args below meth c n0 P h k n f := fun T locs X eT N =>
  nx T locs ⟨X.admits, X.cas, X.clock, X.frames, X.room, X.hears, X.method, X.code, X.here, X.tail, X.warmed, X.limits, X.bytes, X.same.mono hk hn⟩ eT N
theorem G.imp {P' : Option Value → State → Prop} (nx : G p l e R s m args below meth c n0 P h k n f) (hp : ∀ v s₂, P v s₂ → P' v s₂) : G p l e R s m args below meth c n0 P' h k n f := fun T locs X eT N => by
  obtain ⟨s₂, v, h1, h2, h3, h4⟩ := nx T locs X eT N
  exact ⟨s₂, v, h1, h2, h3, hp _ _ h4⟩
theorem twd {d : Jvm.Cond} {L : List Jvm.Cond} (hw : ∀ d ∈ L, d.before a0 Z = true) (i : Nat) (h : L[i]? = some d) : d.before a0 Z = true := hw _ (List.mem_of_getElem? h)
theorem G.iloadN (C : Cx p s m meth c Z y bytes maxL ret) {j : Fin 4} {v : Int32} (hd : decode bytes pc = .ok (.iload_n j, 1)) (hl : Ls[j.val]? = some (.val (.int v))) (hp : pc + 1 = pc') (nx : G p l e R s m args below meth c n0 P h k n (mkF m pc' Ls (.int v :: S))) : G p l e R s m args below meth c n0 P h k n (mkF m pc Ls S) := by
  subst hp; exact G.pl (fun T locs X eT t q => XS.iloadN X.here C.1 rfl (hb C.2.2.1 hd) hl q) nx
theorem G.iload (C : Cx p s m meth c Z y bytes maxL ret) {j : Nat} {v : Int32} (hd : decode bytes pc = .ok (.iload j, 2)) (hl : Ls[j]? = some (.val (.int v))) (hp : pc + 2 = pc') (nx : G p l e R s m args below meth c n0 P h k n (mkF m pc' Ls (.int v :: S))) : G p l e R s m args below meth c n0 P h k n (mkF m pc Ls S) := by
  subst hp; exact G.pl (fun T locs X eT t q => XS.iload X.here C.1 rfl (hb C.2.2.1 hd) hl q) nx
theorem G.lloadN (C : Cx p s m meth c Z y bytes maxL ret) {j : Fin 4} {v : Int64} (hd : decode bytes pc = .ok (.lload_n j, 1)) (hl : Ls[j.val]? = some (.val (.long v))) (hp : pc + 1 = pc') (nx : G p l e R s m args below meth c n0 P h k n (mkF m pc' Ls (.long v :: S))) : G p l e R s m args below meth c n0 P h k n (mkF m pc Ls S) := by
  subst hp; exact G.pl (fun T locs X eT t q => XS.lloadN X.here C.1 rfl (hb C.2.2.1 hd) hl q) nx
theorem G.lload (C : Cx p s m meth c Z y bytes maxL ret) {j : Nat} {v : Int64} (hd : decode bytes pc = .ok (.lload j, 2)) (hl : Ls[j]? = some (.val (.long v))) (hp : pc + 2 = pc') (nx : G p l e R s m args below meth c n0 P h k n (mkF m pc' Ls (.long v :: S))) : G p l e R s m args below meth c n0 P h k n (mkF m pc Ls S) := by
  subst hp; exact G.pl (fun T locs X eT t q => XS.lload X.here C.1 rfl (hb C.2.2.1 hd) hl q) nx
theorem G.aloadN (C : Cx p s m meth c Z y bytes maxL ret) {j : Fin 4} {v : Value} (hd : decode bytes pc = .ok (.aload_n j, 1)) (hl : Ls[j.val]? = some (.val v)) (hv : v.isRef = true) (hp : pc + 1 = pc') (nx : G p l e R s m args below meth c n0 P h k n (mkF m pc' Ls (v :: S))) : G p l e R s m args below meth c n0 P h k n (mkF m pc Ls S) := by
  subst hp; exact G.pl (fun T locs X eT t q => XS.aloadN X.here C.1 rfl (hb C.2.2.1 hd) hl hv q) nx
theorem G.aload (C : Cx p s m meth c Z y bytes maxL ret) {j : Nat} {v : Value} (hd : decode bytes pc = .ok (.aload j, 2)) (hl : Ls[j]? = some (.val v)) (hv : v.isRef = true) (hp : pc + 2 = pc') (nx : G p l e R s m args below meth c n0 P h k n (mkF m pc' Ls (v :: S))) : G p l e R s m args below meth c n0 P h k n (mkF m pc Ls S) := by
  subst hp; exact G.pl (fun T locs X eT t q => XS.aload X.here C.1 rfl (hb C.2.2.1 hd) hl hv q) nx
theorem G.istoreN (C : Cx p s m meth c Z y bytes maxL ret) {j : Fin 4} {v : Int32} {Ls' : Array Slot} (hd : decode bytes pc = .ok (.istore_n j, 1)) (hl : storeLocals Ls j.val (.int v) = some Ls') (hp : pc + 1 = pc') (nx : G p l e R s m args below meth c n0 P h k n (mkF m pc' Ls' S)) : G p l e R s m args below meth c n0 P h k n (mkF m pc Ls (.int v :: S)) := by
  subst hp; exact G.pl (fun T locs X eT t q => XS.istoreN X.here C.1 rfl (hb C.2.2.1 hd) rfl hl q) nx
theorem G.istore (C : Cx p s m meth c Z y bytes maxL ret) {j : Nat} {v : Int32} {Ls' : Array Slot} (hd : decode bytes pc = .ok (.istore j, 2)) (hl : storeLocals Ls j (.int v) = some Ls') (hp : pc + 2 = pc') (nx : G p l e R s m args below meth c n0 P h k n (mkF m pc' Ls' S)) : G p l e R s m args below meth c n0 P h k n (mkF m pc Ls (.int v :: S)) := by
  subst hp; exact G.pl (fun T locs X eT t q => XS.istore X.here C.1 rfl (hb C.2.2.1 hd) rfl hl q) nx
theorem G.lstoreN (C : Cx p s m meth c Z y bytes maxL ret) {j : Fin 4} {v : Int64} {Ls' : Array Slot} (hd : decode bytes pc = .ok (.lstore_n j, 1)) (hl : storeLocals Ls j.val (.long v) = some Ls') (hp : pc + 1 = pc') (nx : G p l e R s m args below meth c n0 P h k n (mkF m pc' Ls' S)) : G p l e R s m args below meth c n0 P h k n (mkF m pc Ls (.long v :: S)) := by
  subst hp; exact G.pl (fun T locs X eT t q => XS.lstoreN X.here C.1 rfl (hb C.2.2.1 hd) rfl hl q) nx
theorem G.lstore (C : Cx p s m meth c Z y bytes maxL ret) {j : Nat} {v : Int64} {Ls' : Array Slot} (hd : decode bytes pc = .ok (.lstore j, 2)) (hl : storeLocals Ls j (.long v) = some Ls') (hp : pc + 2 = pc') (nx : G p l e R s m args below meth c n0 P h k n (mkF m pc' Ls' S)) : G p l e R s m args below meth c n0 P h k n (mkF m pc Ls (.long v :: S)) := by
  subst hp; exact G.pl (fun T locs X eT t q => XS.lstore X.here C.1 rfl (hb C.2.2.1 hd) rfl hl q) nx
theorem G.astoreN (C : Cx p s m meth c Z y bytes maxL ret) {j : Fin 4} {v : Value} {Ls' : Array Slot} (hd : decode bytes pc = .ok (.astore_n j, 1)) (hv : v.isRef = true) (hl : storeLocals Ls j.val v = some Ls') (hp : pc + 1 = pc') (nx : G p l e R s m args below meth c n0 P h k n (mkF m pc' Ls' S)) : G p l e R s m args below meth c n0 P h k n (mkF m pc Ls (v :: S)) := by
  subst hp; exact G.pl (fun T locs X eT t q => XS.astoreN X.here C.1 rfl (hb C.2.2.1 hd) rfl hv hl q) nx
theorem G.astore (C : Cx p s m meth c Z y bytes maxL ret) {j : Nat} {v : Value} {Ls' : Array Slot} (hd : decode bytes pc = .ok (.astore j, 2)) (hv : v.isRef = true) (hl : storeLocals Ls j v = some Ls') (hp : pc + 2 = pc') (nx : G p l e R s m args below meth c n0 P h k n (mkF m pc' Ls' S)) : G p l e R s m args below meth c n0 P h k n (mkF m pc Ls (v :: S)) := by
  subst hp; exact G.pl (fun T locs X eT t q => XS.astore X.here C.1 rfl (hb C.2.2.1 hd) rfl hv hl q) nx
theorem G.iconst (C : Cx p s m meth c Z y bytes maxL ret) {i : Int} {v : Int32} (hd : decode bytes pc = .ok (.iconst i, 1)) (hv : Int32.ofInt i = v) (hp : pc + 1 = pc') (nx : G p l e R s m args below meth c n0 P h k n (mkF m pc' Ls (.int v :: S))) : G p l e R s m args below meth c n0 P h k n (mkF m pc Ls S) := by
  subst hp hv; exact G.pl (fun T locs X eT t q => XS.iconst X.here C.1 rfl (hb C.2.2.1 hd) q) nx
theorem G.bipush (C : Cx p s m meth c Z y bytes maxL ret) {i : Int} {v : Int32} (hd : decode bytes pc = .ok (.bipush i, 2)) (hv : (Int8.ofInt i).toInt32 = v) (hp : pc + 2 = pc') (nx : G p l e R s m args below meth c n0 P h k n (mkF m pc' Ls (.int v :: S))) : G p l e R s m args below meth c n0 P h k n (mkF m pc Ls S) := by
  subst hp hv; exact G.pl (fun T locs X eT t q => XS.bipush X.here C.1 rfl (hb C.2.2.1 hd) q) nx
theorem G.sipush (C : Cx p s m meth c Z y bytes maxL ret) {i : Int} {v : Int32} (hd : decode bytes pc = .ok (.sipush i, 3)) (hv : (Int16.ofInt i).toInt32 = v) (hp : pc + 3 = pc') (nx : G p l e R s m args below meth c n0 P h k n (mkF m pc' Ls (.int v :: S))) : G p l e R s m args below meth c n0 P h k n (mkF m pc Ls S) := by
  subst hp hv; exact G.pl (fun T locs X eT t q => XS.sipush X.here C.1 rfl (hb C.2.2.1 hd) q) nx
theorem G.lconst (C : Cx p s m meth c Z y bytes maxL ret) {j : Fin 2} {v : Int64} (hd : decode bytes pc = .ok (.lconst j, 1)) (hv : Int64.ofNat j = v) (hp : pc + 1 = pc') (nx : G p l e R s m args below meth c n0 P h k n (mkF m pc' Ls (.long v :: S))) : G p l e R s m args below meth c n0 P h k n (mkF m pc Ls S) := by
  subst hp hv; exact G.pl (fun T locs X eT t q => XS.lconst X.here C.1 rfl (hb C.2.2.1 hd) q) nx
theorem G.aconst_null (C : Cx p s m meth c Z y bytes maxL ret) (hd : decode bytes pc = .ok (.aconst_null, 1)) (hp : pc + 1 = pc') (nx : G p l e R s m args below meth c n0 P h k n (mkF m pc' Ls (.null :: S))) : G p l e R s m args below meth c n0 P h k n (mkF m pc Ls S) := by
  subst hp; exact G.pl (fun T locs X eT t q => XS.aconstNull X.here C.1 rfl (hb C.2.2.1 hd) q) nx
theorem G.ldcI (C : Cx p s m meth c Z y bytes maxL ret) {ix : Nat} {v : Int32} (w : (Jvm.Cond.constant y.cls ix v).before a0 Z = true) (hd : decode bytes pc = .ok (.ldc ix, 2)) (hp : pc + 2 = pc') (nx : G p l e R s m args below meth c n0 P h k n (mkF m pc' Ls (.int v :: S))) : G p l e R s m args below meth c n0 P h k n (mkF m pc Ls S) := by
  subst hp; exact G.pl (fun T locs X eT t q => X.ldcInt C.1 C.2.2.2.2.1 (mvT C.2.1 w) (g := mkF m pc Ls S) rfl (hb C.2.2.1 hd) t q) nx
theorem G.ldcW (C : Cx p s m meth c Z y bytes maxL ret) {ix : Nat} {v : Int32} (w : (Jvm.Cond.constant y.cls ix v).before a0 Z = true) (hd : decode bytes pc = .ok (.ldc_w ix, 3)) (hp : pc + 3 = pc') (nx : G p l e R s m args below meth c n0 P h k n (mkF m pc' Ls (.int v :: S))) : G p l e R s m args below meth c n0 P h k n (mkF m pc Ls S) := by
  subst hp; exact G.pl (fun T locs X eT t q => X.ldcwInt C.1 C.2.2.2.2.1 (mvT C.2.1 w) (g := mkF m pc Ls S) rfl (hb C.2.2.1 hd) t q) nx
theorem G.ldcJ (C : Cx p s m meth c Z y bytes maxL ret) {ix : Nat} {v : Int64} (w : (Jvm.Cond.constantLong y.cls ix v).before a0 Z = true) (hd : decode bytes pc = .ok (.ldc2_w ix, 3)) (hp : pc + 3 = pc') (nx : G p l e R s m args below meth c n0 P h k n (mkF m pc' Ls (.long v :: S))) : G p l e R s m args below meth c n0 P h k n (mkF m pc Ls S) := by
  subst hp; exact G.pl (fun T locs X eT t q => X.ldc2Long C.1 C.2.2.2.2.1 (mvT C.2.1 w) (g := mkF m pc Ls S) rfl (hb C.2.2.1 hd) t q) nx
theorem G.iadd (C : Cx p s m meth c Z y bytes maxL ret) {x z : Int32} (hd : decode bytes pc = .ok (.iadd, 1))  (hp : pc + 1 = pc') (nx : G p l e R s m args below meth c n0 P h k n (mkF m pc' Ls (.int (x + z) :: S))) : G p l e R s m args below meth c n0 P h k n (mkF m pc Ls (.int z :: .int x :: S)) := by
  subst hp; exact G.pl (fun T locs X eT t q => XS.iadd X.here C.1 rfl (hb C.2.2.1 hd) rfl q) nx
theorem G.ladd (C : Cx p s m meth c Z y bytes maxL ret) {x z : Int64} (hd : decode bytes pc = .ok (.ladd, 1))  (hp : pc + 1 = pc') (nx : G p l e R s m args below meth c n0 P h k n (mkF m pc' Ls (.long (x + z) :: S))) : G p l e R s m args below meth c n0 P h k n (mkF m pc Ls (.long z :: .long x :: S)) := by
  subst hp; exact G.pl (fun T locs X eT t q => XS.ladd X.here C.1 rfl (hb C.2.2.1 hd) rfl q) nx
theorem G.isub (C : Cx p s m meth c Z y bytes maxL ret) {x z : Int32} (hd : decode bytes pc = .ok (.isub, 1))  (hp : pc + 1 = pc') (nx : G p l e R s m args below meth c n0 P h k n (mkF m pc' Ls (.int (x - z) :: S))) : G p l e R s m args below meth c n0 P h k n (mkF m pc Ls (.int z :: .int x :: S)) := by
  subst hp; exact G.pl (fun T locs X eT t q => XS.isub X.here C.1 rfl (hb C.2.2.1 hd) rfl q) nx
theorem G.lsub (C : Cx p s m meth c Z y bytes maxL ret) {x z : Int64} (hd : decode bytes pc = .ok (.lsub, 1))  (hp : pc + 1 = pc') (nx : G p l e R s m args below meth c n0 P h k n (mkF m pc' Ls (.long (x - z) :: S))) : G p l e R s m args below meth c n0 P h k n (mkF m pc Ls (.long z :: .long x :: S)) := by
  subst hp; exact G.pl (fun T locs X eT t q => XS.lsub X.here C.1 rfl (hb C.2.2.1 hd) rfl q) nx
theorem G.imul (C : Cx p s m meth c Z y bytes maxL ret) {x z : Int32} (hd : decode bytes pc = .ok (.imul, 1))  (hp : pc + 1 = pc') (nx : G p l e R s m args below meth c n0 P h k n (mkF m pc' Ls (.int (x * z) :: S))) : G p l e R s m args below meth c n0 P h k n (mkF m pc Ls (.int z :: .int x :: S)) := by
  subst hp; exact G.pl (fun T locs X eT t q => XS.imul X.here C.1 rfl (hb C.2.2.1 hd) rfl q) nx
theorem G.lmul (C : Cx p s m meth c Z y bytes maxL ret) {x z : Int64} (hd : decode bytes pc = .ok (.lmul, 1))  (hp : pc + 1 = pc') (nx : G p l e R s m args below meth c n0 P h k n (mkF m pc' Ls (.long (x * z) :: S))) : G p l e R s m args below meth c n0 P h k n (mkF m pc Ls (.long z :: .long x :: S)) := by
  subst hp; exact G.pl (fun T locs X eT t q => XS.lmul X.here C.1 rfl (hb C.2.2.1 hd) rfl q) nx
theorem G.iand (C : Cx p s m meth c Z y bytes maxL ret) {x z : Int32} (hd : decode bytes pc = .ok (.iand, 1))  (hp : pc + 1 = pc') (nx : G p l e R s m args below meth c n0 P h k n (mkF m pc' Ls (.int (x &&& z) :: S))) : G p l e R s m args below meth c n0 P h k n (mkF m pc Ls (.int z :: .int x :: S)) := by
  subst hp; exact G.pl (fun T locs X eT t q => XS.iand X.here C.1 rfl (hb C.2.2.1 hd) rfl q) nx
theorem G.land (C : Cx p s m meth c Z y bytes maxL ret) {x z : Int64} (hd : decode bytes pc = .ok (.land, 1))  (hp : pc + 1 = pc') (nx : G p l e R s m args below meth c n0 P h k n (mkF m pc' Ls (.long (x &&& z) :: S))) : G p l e R s m args below meth c n0 P h k n (mkF m pc Ls (.long z :: .long x :: S)) := by
  subst hp; exact G.pl (fun T locs X eT t q => XS.land X.here C.1 rfl (hb C.2.2.1 hd) rfl q) nx
theorem G.ior (C : Cx p s m meth c Z y bytes maxL ret) {x z : Int32} (hd : decode bytes pc = .ok (.ior, 1))  (hp : pc + 1 = pc') (nx : G p l e R s m args below meth c n0 P h k n (mkF m pc' Ls (.int (x ||| z) :: S))) : G p l e R s m args below meth c n0 P h k n (mkF m pc Ls (.int z :: .int x :: S)) := by
  subst hp; exact G.pl (fun T locs X eT t q => XS.ior X.here C.1 rfl (hb C.2.2.1 hd) rfl q) nx
theorem G.lor (C : Cx p s m meth c Z y bytes maxL ret) {x z : Int64} (hd : decode bytes pc = .ok (.lor, 1))  (hp : pc + 1 = pc') (nx : G p l e R s m args below meth c n0 P h k n (mkF m pc' Ls (.long (x ||| z) :: S))) : G p l e R s m args below meth c n0 P h k n (mkF m pc Ls (.long z :: .long x :: S)) := by
  subst hp; exact G.pl (fun T locs X eT t q => XS.lor X.here C.1 rfl (hb C.2.2.1 hd) rfl q) nx
theorem G.ixor (C : Cx p s m meth c Z y bytes maxL ret) {x z : Int32} (hd : decode bytes pc = .ok (.ixor, 1))  (hp : pc + 1 = pc') (nx : G p l e R s m args below meth c n0 P h k n (mkF m pc' Ls (.int (x ^^^ z) :: S))) : G p l e R s m args below meth c n0 P h k n (mkF m pc Ls (.int z :: .int x :: S)) := by
  subst hp; exact G.pl (fun T locs X eT t q => XS.ixor X.here C.1 rfl (hb C.2.2.1 hd) rfl q) nx
theorem G.lxor (C : Cx p s m meth c Z y bytes maxL ret) {x z : Int64} (hd : decode bytes pc = .ok (.lxor, 1))  (hp : pc + 1 = pc') (nx : G p l e R s m args below meth c n0 P h k n (mkF m pc' Ls (.long (x ^^^ z) :: S))) : G p l e R s m args below meth c n0 P h k n (mkF m pc Ls (.long z :: .long x :: S)) := by
  subst hp; exact G.pl (fun T locs X eT t q => XS.lxor X.here C.1 rfl (hb C.2.2.1 hd) rfl q) nx
theorem G.idiv (C : Cx p s m meth c Z y bytes maxL ret) {x z : Int32} (hd : decode bytes pc = .ok (.idiv, 1)) (hz : z ≠ 0) (hp : pc + 1 = pc') (nx : G p l e R s m args below meth c n0 P h k n (mkF m pc' Ls (.int (x / z) :: S))) : G p l e R s m args below meth c n0 P h k n (mkF m pc Ls (.int z :: .int x :: S)) := by
  subst hp; exact G.pl (fun T locs X eT t q => XS.idiv X.here C.1 rfl (hb C.2.2.1 hd) rfl hz q) nx
theorem G.irem (C : Cx p s m meth c Z y bytes maxL ret) {x z : Int32} (hd : decode bytes pc = .ok (.irem, 1)) (hz : z ≠ 0) (hp : pc + 1 = pc') (nx : G p l e R s m args below meth c n0 P h k n (mkF m pc' Ls (.int (x % z) :: S))) : G p l e R s m args below meth c n0 P h k n (mkF m pc Ls (.int z :: .int x :: S)) := by
  subst hp; exact G.pl (fun T locs X eT t q => iremM X C.1 rfl (hb C.2.2.1 hd) rfl hz q) nx
theorem G.ldiv (C : Cx p s m meth c Z y bytes maxL ret) {x z : Int64} (hd : decode bytes pc = .ok (.ldiv, 1)) (hz : z ≠ 0) (hp : pc + 1 = pc') (nx : G p l e R s m args below meth c n0 P h k n (mkF m pc' Ls (.long (x / z) :: S))) : G p l e R s m args below meth c n0 P h k n (mkF m pc Ls (.long z :: .long x :: S)) := by
  subst hp; exact G.pl (fun T locs X eT t q => XS.ldiv X.here C.1 rfl (hb C.2.2.1 hd) rfl hz q) nx
theorem G.lrem (C : Cx p s m meth c Z y bytes maxL ret) {x z : Int64} (hd : decode bytes pc = .ok (.lrem, 1)) (hz : z ≠ 0) (hp : pc + 1 = pc') (nx : G p l e R s m args below meth c n0 P h k n (mkF m pc' Ls (.long (x % z) :: S))) : G p l e R s m args below meth c n0 P h k n (mkF m pc Ls (.long z :: .long x :: S)) := by
  subst hp; exact G.pl (fun T locs X eT t q => XS.lrem X.here C.1 rfl (hb C.2.2.1 hd) rfl hz (by rw [lrem_mod]; exact q)) nx
theorem G.ineg (C : Cx p s m meth c Z y bytes maxL ret) {x : Int32} (hd : decode bytes pc = .ok (.ineg, 1))  (hp : pc + 1 = pc') (nx : G p l e R s m args below meth c n0 P h k n (mkF m pc' Ls (.int (-x) :: S))) : G p l e R s m args below meth c n0 P h k n (mkF m pc Ls (.int x :: S)) := by
  subst hp; exact G.pl (fun T locs X eT t q => XS.ineg X.here C.1 rfl (hb C.2.2.1 hd) rfl q) nx
theorem G.lneg (C : Cx p s m meth c Z y bytes maxL ret) {x : Int64} (hd : decode bytes pc = .ok (.lneg, 1))  (hp : pc + 1 = pc') (nx : G p l e R s m args below meth c n0 P h k n (mkF m pc' Ls (.long (-x) :: S))) : G p l e R s m args below meth c n0 P h k n (mkF m pc Ls (.long x :: S)) := by
  subst hp; exact G.pl (fun T locs X eT t q => XS.lneg X.here C.1 rfl (hb C.2.2.1 hd) rfl q) nx
theorem G.i2l (C : Cx p s m meth c Z y bytes maxL ret) {x : Int32} (hd : decode bytes pc = .ok (.i2l, 1))  (hp : pc + 1 = pc') (nx : G p l e R s m args below meth c n0 P h k n (mkF m pc' Ls (.long (x.toInt64) :: S))) : G p l e R s m args below meth c n0 P h k n (mkF m pc Ls (.int x :: S)) := by
  subst hp; exact G.pl (fun T locs X eT t q => XS.i2l X.here C.1 rfl (hb C.2.2.1 hd) rfl q) nx
theorem G.l2i (C : Cx p s m meth c Z y bytes maxL ret) {x : Int64} (hd : decode bytes pc = .ok (.l2i, 1))  (hp : pc + 1 = pc') (nx : G p l e R s m args below meth c n0 P h k n (mkF m pc' Ls (.int (x.toInt32) :: S))) : G p l e R s m args below meth c n0 P h k n (mkF m pc Ls (.long x :: S)) := by
  subst hp; exact G.pl (fun T locs X eT t q => XS.l2i X.here C.1 rfl (hb C.2.2.1 hd) rfl q) nx
theorem G.i2b (C : Cx p s m meth c Z y bytes maxL ret) {x : Int32} (hd : decode bytes pc = .ok (.i2b, 1))  (hp : pc + 1 = pc') (nx : G p l e R s m args below meth c n0 P h k n (mkF m pc' Ls (.int (x.toInt8.toInt32) :: S))) : G p l e R s m args below meth c n0 P h k n (mkF m pc Ls (.int x :: S)) := by
  subst hp; exact G.pl (fun T locs X eT t q => XS.i2b X.here C.1 rfl (hb C.2.2.1 hd) rfl q) nx
theorem G.i2c (C : Cx p s m meth c Z y bytes maxL ret) {x : Int32} (hd : decode bytes pc = .ok (.i2c, 1))  (hp : pc + 1 = pc') (nx : G p l e R s m args below meth c n0 P h k n (mkF m pc' Ls (.int (x.toUInt32.toUInt16.toUInt32.toInt32) :: S))) : G p l e R s m args below meth c n0 P h k n (mkF m pc Ls (.int x :: S)) := by
  subst hp; exact G.pl (fun T locs X eT t q => XS.i2c X.here C.1 rfl (hb C.2.2.1 hd) rfl q) nx
theorem G.i2s (C : Cx p s m meth c Z y bytes maxL ret) {x : Int32} (hd : decode bytes pc = .ok (.i2s, 1))  (hp : pc + 1 = pc') (nx : G p l e R s m args below meth c n0 P h k n (mkF m pc' Ls (.int (x.toInt16.toInt32) :: S))) : G p l e R s m args below meth c n0 P h k n (mkF m pc Ls (.int x :: S)) := by
  subst hp; exact G.pl (fun T locs X eT t q => XS.i2s X.here C.1 rfl (hb C.2.2.1 hd) rfl q) nx
theorem G.ishl (C : Cx p s m meth c Z y bytes maxL ret) {x z : Int32} (hd : decode bytes pc = .ok (.ishl, 1))  (hp : pc + 1 = pc') (nx : G p l e R s m args below meth c n0 P h k n (mkF m pc' Ls (.int (x <<< (z &&& 31)) :: S))) : G p l e R s m args below meth c n0 P h k n (mkF m pc Ls (.int z :: .int x :: S)) := by
  subst hp; exact G.pl (fun T locs X eT t q => XS.ishl X.here C.1 rfl (hb C.2.2.1 hd) rfl q) nx
theorem G.ishr (C : Cx p s m meth c Z y bytes maxL ret) {x z : Int32} (hd : decode bytes pc = .ok (.ishr, 1))  (hp : pc + 1 = pc') (nx : G p l e R s m args below meth c n0 P h k n (mkF m pc' Ls (.int (x >>> (z &&& 31)) :: S))) : G p l e R s m args below meth c n0 P h k n (mkF m pc Ls (.int z :: .int x :: S)) := by
  subst hp; exact G.pl (fun T locs X eT t q => XS.ishr X.here C.1 rfl (hb C.2.2.1 hd) rfl q) nx
theorem G.iushr (C : Cx p s m meth c Z y bytes maxL ret) {x z : Int32} (hd : decode bytes pc = .ok (.iushr, 1))  (hp : pc + 1 = pc') (nx : G p l e R s m args below meth c n0 P h k n (mkF m pc' Ls (.int ((x.toUInt32 >>> (z &&& 31).toUInt32).toInt32) :: S))) : G p l e R s m args below meth c n0 P h k n (mkF m pc Ls (.int z :: .int x :: S)) := by
  subst hp; exact G.pl (fun T locs X eT t q => XS.iushr X.here C.1 rfl (hb C.2.2.1 hd) rfl q) nx
theorem G.lshl (C : Cx p s m meth c Z y bytes maxL ret) {x : Int64} {z : Int32} (hd : decode bytes pc = .ok (.lshl, 1))  (hp : pc + 1 = pc') (nx : G p l e R s m args below meth c n0 P h k n (mkF m pc' Ls (.long (x <<< (z &&& 0x3f).toInt64) :: S))) : G p l e R s m args below meth c n0 P h k n (mkF m pc Ls (.int z :: .long x :: S)) := by
  subst hp; exact G.pl (fun T locs X eT t q => XS.lshl X.here C.1 rfl (hb C.2.2.1 hd) rfl q) nx
theorem G.lshr (C : Cx p s m meth c Z y bytes maxL ret) {x : Int64} {z : Int32} (hd : decode bytes pc = .ok (.lshr, 1))  (hp : pc + 1 = pc') (nx : G p l e R s m args below meth c n0 P h k n (mkF m pc' Ls (.long (x >>> (z &&& 0x3f).toInt64) :: S))) : G p l e R s m args below meth c n0 P h k n (mkF m pc Ls (.int z :: .long x :: S)) := by
  subst hp; exact G.pl (fun T locs X eT t q => XS.lshr X.here C.1 rfl (hb C.2.2.1 hd) rfl q) nx
theorem G.lushr (C : Cx p s m meth c Z y bytes maxL ret) {x : Int64} {z : Int32} (hd : decode bytes pc = .ok (.lushr, 1))  (hp : pc + 1 = pc') (nx : G p l e R s m args below meth c n0 P h k n (mkF m pc' Ls (.long ((x.toUInt64 >>> (z &&& 0x3f).toInt64.toUInt64).toInt64) :: S))) : G p l e R s m args below meth c n0 P h k n (mkF m pc Ls (.int z :: .long x :: S)) := by
  subst hp; exact G.pl (fun T locs X eT t q => XS.lushr X.here C.1 rfl (hb C.2.2.1 hd) rfl q) nx
theorem G.lcmp (C : Cx p s m meth c Z y bytes maxL ret) {x z : Int64} (hd : decode bytes pc = .ok (.lcmp, 1))  (hp : pc + 1 = pc') (nx : G p l e R s m args below meth c n0 P h k n (mkF m pc' Ls (.int (lcmpW x z) :: S))) : G p l e R s m args below meth c n0 P h k n (mkF m pc Ls (.long z :: .long x :: S)) := by
  subst hp; exact G.pl (fun T locs X eT t q => XS.lcmp X.here C.1 rfl (hb C.2.2.1 hd) rfl q) nx
theorem G.dup (C : Cx p s m meth c Z y bytes maxL ret) {v : Value} (hd : decode bytes pc = .ok (.dup, 1)) (hv : v.category = 1) (hp : pc + 1 = pc') (nx : G p l e R s m args below meth c n0 P h k n (mkF m pc' Ls (v :: v :: S))) : G p l e R s m args below meth c n0 P h k n (mkF m pc Ls (v :: S)) := by
  subst hp; exact G.pl (fun T locs X eT t q => XS.dup X.here C.1 rfl (hb C.2.2.1 hd) rfl hv q) nx
theorem G.pop (C : Cx p s m meth c Z y bytes maxL ret) {v : Value} (hd : decode bytes pc = .ok (.pop, 1)) (hv : v.category = 1) (hp : pc + 1 = pc') (nx : G p l e R s m args below meth c n0 P h k n (mkF m pc' Ls S)) : G p l e R s m args below meth c n0 P h k n (mkF m pc Ls (v :: S)) := by
  subst hp; exact G.pl (fun T locs X eT t q => XS.pop X.here C.1 rfl (hb C.2.2.1 hd) rfl hv q) nx
theorem G.dupX1 (C : Cx p s m meth c Z y bytes maxL ret) {v u : Value} (hd : decode bytes pc = .ok (.dup_x1, 1)) (hv : v.category = 1) (hu : u.category = 1) (hp : pc + 1 = pc') (nx : G p l e R s m args below meth c n0 P h k n (mkF m pc' Ls (v :: u :: v :: S))) : G p l e R s m args below meth c n0 P h k n (mkF m pc Ls (v :: u :: S)) := by
  subst hp; exact G.pl (fun T locs X eT t q => XS.dupX1 X.here C.1 rfl (hb C.2.2.1 hd) rfl hv hu q) nx
theorem G.iinc (C : Cx p s m meth c Z y bytes maxL ret) {j : Nat} {i : Int} {v z : Int32} {Ls' : Array Slot} (hd : decode bytes pc = .ok (.iinc j i, 3)) (hl : Ls[j]? = some (.val (.int v))) (hz : Int32.ofInt i = z) (hl' : storeLocals Ls j (.int (v + z)) = some Ls') (hp : pc + 3 = pc') (nx : G p l e R s m args below meth c n0 P h k n (mkF m pc' Ls' S)) : G p l e R s m args below meth c n0 P h k n (mkF m pc Ls S) := by
  subst hp hz; exact G.pl (fun T locs X eT t q => XS.iinc X.here C.1 rfl (hb C.2.2.1 hd) hl hl' q) nx
theorem G.goto (C : Cx p s m meth c Z y bytes maxL ret) {o : Int} (hd : decode bytes pc = .ok (.goto o, 3)) (ho : 0 ≤ (pc : Int) + o) (hp : ((pc : Int) + o).toNat = pc') (nx : G p l e R s m args below meth c n0 P h k n (mkF m pc' Ls S)) : G p l e R s m args below meth c n0 P h k n (mkF m pc Ls S) :=
  G.pl (fun T locs X eT t q => XS.goto X.here C.1 rfl (pc0 := pc) (pc' := pc') rfl (hb C.2.2.1 hd) ho hp q) nx
theorem G.ifc (C : Cx p s m meth c Z y bytes maxL ret) {cd : ClassFile.Cond} {o : Int} {x : Int32} (hd : decode bytes pc = .ok (.ifCond cd o, 3)) (ho : 0 ≤ (pc : Int) + o) (ht : ((pc : Int) + o).toNat = pt) (hp : pc + 3 = pc') (yes : if_icmp.holds cd x 0 = true → G p l e R s m args below meth c n0 P h k n (mkF m pt Ls S)) (no : if_icmp.holds cd x 0 = false → G p l e R s m args below meth c n0 P h k n (mkF m pc' Ls S)) : G p l e R s m args below meth c n0 P h k n (mkF m pc Ls (.int x :: S)) := by
  subst hp
  cases hc : if_icmp.holds cd x 0 with
  | true => exact G.pl (fun T locs X eT t q => XS.ifYes X.here C.1 rfl (pc0 := pc) (pc' := pt) rfl (hb C.2.2.1 hd) rfl ((if0 _ _).trans hc) ho ht q) (yes hc)
  | false => exact G.pl (fun T locs X eT t q => XS.ifNo X.here C.1 rfl (hb C.2.2.1 hd) rfl ((if0 _ _).trans hc) q) (no hc)
theorem G.icmp (C : Cx p s m meth c Z y bytes maxL ret) {cd : ClassFile.Cond} {o : Int} {x z : Int32} (hd : decode bytes pc = .ok (.if_icmp cd o, 3)) (ho : 0 ≤ (pc : Int) + o) (ht : ((pc : Int) + o).toNat = pt) (hp : pc + 3 = pc') (yes : if_icmp.holds cd x z = true → G p l e R s m args below meth c n0 P h k n (mkF m pt Ls S)) (no : if_icmp.holds cd x z = false → G p l e R s m args below meth c n0 P h k n (mkF m pc' Ls S)) : G p l e R s m args below meth c n0 P h k n (mkF m pc Ls (.int z :: .int x :: S)) := by
  subst hp
  cases hc : if_icmp.holds cd x z with
  | true => exact G.pl (fun T locs X eT t q => XS.icmpYes X.here C.1 rfl (pc0 := pc) (pc' := pt) rfl (hb C.2.2.1 hd) rfl hc ho ht q) (yes hc)
  | false => exact G.pl (fun T locs X eT t q => XS.icmpNo X.here C.1 rfl (hb C.2.2.1 hd) rfl hc q) (no hc)
theorem G.ifeq (C : Cx p s m meth c Z y bytes maxL ret) {o : Int} {x : Int32} (hd : decode bytes pc = .ok (.ifCond .eq o, 3)) (ho : 0 ≤ (pc : Int) + o) (ht : ((pc : Int) + o).toNat = pt) (hp : pc + 3 = pc') (yes : x = 0 → G p l e R s m args below meth c n0 P h k n (mkF m pt Ls S)) (no : ¬ (x = 0) → G p l e R s m args below meth c n0 P h k n (mkF m pc' Ls S)) : G p l e R s m args below meth c n0 P h k n (mkF m pc Ls (.int x :: S)) :=
  G.ifc C hd ho ht hp (fun q => yes (by simpa [if_icmp.holds] using q)) (fun q => no (by simpa [if_icmp.holds] using q))
theorem G.iceq (C : Cx p s m meth c Z y bytes maxL ret) {o : Int} {x z : Int32} (hd : decode bytes pc = .ok (.if_icmp .eq o, 3)) (ho : 0 ≤ (pc : Int) + o) (ht : ((pc : Int) + o).toNat = pt) (hp : pc + 3 = pc') (yes : x = z → G p l e R s m args below meth c n0 P h k n (mkF m pt Ls S)) (no : ¬ (x = z) → G p l e R s m args below meth c n0 P h k n (mkF m pc' Ls S)) : G p l e R s m args below meth c n0 P h k n (mkF m pc Ls (.int z :: .int x :: S)) :=
  G.icmp C hd ho ht hp (fun q => yes (by simpa [if_icmp.holds] using q)) (fun q => no (by simpa [if_icmp.holds] using q))
theorem G.lfeq (C : Cx p s m meth c Z y bytes maxL ret) {o : Int} {x z : Int64} (hd : decode bytes pc = .ok (.ifCond .eq o, 3)) (ho : 0 ≤ (pc : Int) + o) (ht : ((pc : Int) + o).toNat = pt) (hp : pc + 3 = pc') (yes : x = z → G p l e R s m args below meth c n0 P h k n (mkF m pt Ls S)) (no : ¬ (x = z) → G p l e R s m args below meth c n0 P h k n (mkF m pc' Ls S)) : G p l e R s m args below meth c n0 P h k n (mkF m pc Ls (.int (lcmpW x z) :: S)) :=
  G.ifeq C hd ho ht hp (fun q => yes ((lw_eq x z).mp q)) (fun q => no (fun r => q ((lw_eq x z).mpr r)))
theorem G.ifne (C : Cx p s m meth c Z y bytes maxL ret) {o : Int} {x : Int32} (hd : decode bytes pc = .ok (.ifCond .ne o, 3)) (ho : 0 ≤ (pc : Int) + o) (ht : ((pc : Int) + o).toNat = pt) (hp : pc + 3 = pc') (yes : ¬ (x = 0) → G p l e R s m args below meth c n0 P h k n (mkF m pt Ls S)) (no : x = 0 → G p l e R s m args below meth c n0 P h k n (mkF m pc' Ls S)) : G p l e R s m args below meth c n0 P h k n (mkF m pc Ls (.int x :: S)) :=
  G.ifc C hd ho ht hp (fun q => yes (by simpa [if_icmp.holds] using q)) (fun q => no (by simpa [if_icmp.holds] using q))
theorem G.icne (C : Cx p s m meth c Z y bytes maxL ret) {o : Int} {x z : Int32} (hd : decode bytes pc = .ok (.if_icmp .ne o, 3)) (ho : 0 ≤ (pc : Int) + o) (ht : ((pc : Int) + o).toNat = pt) (hp : pc + 3 = pc') (yes : ¬ (x = z) → G p l e R s m args below meth c n0 P h k n (mkF m pt Ls S)) (no : x = z → G p l e R s m args below meth c n0 P h k n (mkF m pc' Ls S)) : G p l e R s m args below meth c n0 P h k n (mkF m pc Ls (.int z :: .int x :: S)) :=
  G.icmp C hd ho ht hp (fun q => yes (by simpa [if_icmp.holds] using q)) (fun q => no (by simpa [if_icmp.holds] using q))
theorem G.lfne (C : Cx p s m meth c Z y bytes maxL ret) {o : Int} {x z : Int64} (hd : decode bytes pc = .ok (.ifCond .ne o, 3)) (ho : 0 ≤ (pc : Int) + o) (ht : ((pc : Int) + o).toNat = pt) (hp : pc + 3 = pc') (yes : ¬ (x = z) → G p l e R s m args below meth c n0 P h k n (mkF m pt Ls S)) (no : x = z → G p l e R s m args below meth c n0 P h k n (mkF m pc' Ls S)) : G p l e R s m args below meth c n0 P h k n (mkF m pc Ls (.int (lcmpW x z) :: S)) :=
  G.ifne C hd ho ht hp (fun q => yes (fun r => q ((lw_eq x z).mpr r))) (fun q => no ((lw_eq x z).mp q))
theorem G.iflt (C : Cx p s m meth c Z y bytes maxL ret) {o : Int} {x : Int32} (hd : decode bytes pc = .ok (.ifCond .lt o, 3)) (ho : 0 ≤ (pc : Int) + o) (ht : ((pc : Int) + o).toNat = pt) (hp : pc + 3 = pc') (yes : x < 0 → G p l e R s m args below meth c n0 P h k n (mkF m pt Ls S)) (no : ¬ (x < 0) → G p l e R s m args below meth c n0 P h k n (mkF m pc' Ls S)) : G p l e R s m args below meth c n0 P h k n (mkF m pc Ls (.int x :: S)) :=
  G.ifc C hd ho ht hp (fun q => yes (by simpa [if_icmp.holds] using q)) (fun q => no (by simpa [if_icmp.holds] using q))
theorem G.iclt (C : Cx p s m meth c Z y bytes maxL ret) {o : Int} {x z : Int32} (hd : decode bytes pc = .ok (.if_icmp .lt o, 3)) (ho : 0 ≤ (pc : Int) + o) (ht : ((pc : Int) + o).toNat = pt) (hp : pc + 3 = pc') (yes : x < z → G p l e R s m args below meth c n0 P h k n (mkF m pt Ls S)) (no : ¬ (x < z) → G p l e R s m args below meth c n0 P h k n (mkF m pc' Ls S)) : G p l e R s m args below meth c n0 P h k n (mkF m pc Ls (.int z :: .int x :: S)) :=
  G.icmp C hd ho ht hp (fun q => yes (by simpa [if_icmp.holds] using q)) (fun q => no (by simpa [if_icmp.holds] using q))
theorem G.lflt (C : Cx p s m meth c Z y bytes maxL ret) {o : Int} {x z : Int64} (hd : decode bytes pc = .ok (.ifCond .lt o, 3)) (ho : 0 ≤ (pc : Int) + o) (ht : ((pc : Int) + o).toNat = pt) (hp : pc + 3 = pc') (yes : x < z → G p l e R s m args below meth c n0 P h k n (mkF m pt Ls S)) (no : ¬ (x < z) → G p l e R s m args below meth c n0 P h k n (mkF m pc' Ls S)) : G p l e R s m args below meth c n0 P h k n (mkF m pc Ls (.int (lcmpW x z) :: S)) :=
  G.iflt C hd ho ht hp (fun q => yes ((lw_lt x z).mp q)) (fun q => no (fun r => q ((lw_lt x z).mpr r)))
theorem G.ifge (C : Cx p s m meth c Z y bytes maxL ret) {o : Int} {x : Int32} (hd : decode bytes pc = .ok (.ifCond .ge o, 3)) (ho : 0 ≤ (pc : Int) + o) (ht : ((pc : Int) + o).toNat = pt) (hp : pc + 3 = pc') (yes : ¬ (x < 0) → G p l e R s m args below meth c n0 P h k n (mkF m pt Ls S)) (no : x < 0 → G p l e R s m args below meth c n0 P h k n (mkF m pc' Ls S)) : G p l e R s m args below meth c n0 P h k n (mkF m pc Ls (.int x :: S)) :=
  G.ifc C hd ho ht hp (fun q => yes (by simpa [if_icmp.holds] using q)) (fun q => no (by simpa [if_icmp.holds] using q))
theorem G.icge (C : Cx p s m meth c Z y bytes maxL ret) {o : Int} {x z : Int32} (hd : decode bytes pc = .ok (.if_icmp .ge o, 3)) (ho : 0 ≤ (pc : Int) + o) (ht : ((pc : Int) + o).toNat = pt) (hp : pc + 3 = pc') (yes : ¬ (x < z) → G p l e R s m args below meth c n0 P h k n (mkF m pt Ls S)) (no : x < z → G p l e R s m args below meth c n0 P h k n (mkF m pc' Ls S)) : G p l e R s m args below meth c n0 P h k n (mkF m pc Ls (.int z :: .int x :: S)) :=
  G.icmp C hd ho ht hp (fun q => yes (by simpa [if_icmp.holds] using q)) (fun q => no (by simpa [if_icmp.holds] using q))
theorem G.lfge (C : Cx p s m meth c Z y bytes maxL ret) {o : Int} {x z : Int64} (hd : decode bytes pc = .ok (.ifCond .ge o, 3)) (ho : 0 ≤ (pc : Int) + o) (ht : ((pc : Int) + o).toNat = pt) (hp : pc + 3 = pc') (yes : ¬ (x < z) → G p l e R s m args below meth c n0 P h k n (mkF m pt Ls S)) (no : x < z → G p l e R s m args below meth c n0 P h k n (mkF m pc' Ls S)) : G p l e R s m args below meth c n0 P h k n (mkF m pc Ls (.int (lcmpW x z) :: S)) :=
  G.ifge C hd ho ht hp (fun q => yes (fun r => q ((lw_lt x z).mpr r))) (fun q => no ((lw_lt x z).mp q))
theorem G.ifgt (C : Cx p s m meth c Z y bytes maxL ret) {o : Int} {x : Int32} (hd : decode bytes pc = .ok (.ifCond .gt o, 3)) (ho : 0 ≤ (pc : Int) + o) (ht : ((pc : Int) + o).toNat = pt) (hp : pc + 3 = pc') (yes : 0 < x → G p l e R s m args below meth c n0 P h k n (mkF m pt Ls S)) (no : ¬ (0 < x) → G p l e R s m args below meth c n0 P h k n (mkF m pc' Ls S)) : G p l e R s m args below meth c n0 P h k n (mkF m pc Ls (.int x :: S)) :=
  G.ifc C hd ho ht hp (fun q => yes (by simpa [if_icmp.holds] using q)) (fun q => no (by simpa [if_icmp.holds] using q))
theorem G.icgt (C : Cx p s m meth c Z y bytes maxL ret) {o : Int} {x z : Int32} (hd : decode bytes pc = .ok (.if_icmp .gt o, 3)) (ho : 0 ≤ (pc : Int) + o) (ht : ((pc : Int) + o).toNat = pt) (hp : pc + 3 = pc') (yes : z < x → G p l e R s m args below meth c n0 P h k n (mkF m pt Ls S)) (no : ¬ (z < x) → G p l e R s m args below meth c n0 P h k n (mkF m pc' Ls S)) : G p l e R s m args below meth c n0 P h k n (mkF m pc Ls (.int z :: .int x :: S)) :=
  G.icmp C hd ho ht hp (fun q => yes (by simpa [if_icmp.holds] using q)) (fun q => no (by simpa [if_icmp.holds] using q))
theorem G.lfgt (C : Cx p s m meth c Z y bytes maxL ret) {o : Int} {x z : Int64} (hd : decode bytes pc = .ok (.ifCond .gt o, 3)) (ho : 0 ≤ (pc : Int) + o) (ht : ((pc : Int) + o).toNat = pt) (hp : pc + 3 = pc') (yes : z < x → G p l e R s m args below meth c n0 P h k n (mkF m pt Ls S)) (no : ¬ (z < x) → G p l e R s m args below meth c n0 P h k n (mkF m pc' Ls S)) : G p l e R s m args below meth c n0 P h k n (mkF m pc Ls (.int (lcmpW x z) :: S)) :=
  G.ifgt C hd ho ht hp (fun q => yes ((lw_gt x z).mp q)) (fun q => no (fun r => q ((lw_gt x z).mpr r)))
theorem G.ifle (C : Cx p s m meth c Z y bytes maxL ret) {o : Int} {x : Int32} (hd : decode bytes pc = .ok (.ifCond .le o, 3)) (ho : 0 ≤ (pc : Int) + o) (ht : ((pc : Int) + o).toNat = pt) (hp : pc + 3 = pc') (yes : ¬ (0 < x) → G p l e R s m args below meth c n0 P h k n (mkF m pt Ls S)) (no : 0 < x → G p l e R s m args below meth c n0 P h k n (mkF m pc' Ls S)) : G p l e R s m args below meth c n0 P h k n (mkF m pc Ls (.int x :: S)) :=
  G.ifc C hd ho ht hp (fun q => yes (by simpa [if_icmp.holds] using q)) (fun q => no (by simpa [if_icmp.holds] using q))
theorem G.icle (C : Cx p s m meth c Z y bytes maxL ret) {o : Int} {x z : Int32} (hd : decode bytes pc = .ok (.if_icmp .le o, 3)) (ho : 0 ≤ (pc : Int) + o) (ht : ((pc : Int) + o).toNat = pt) (hp : pc + 3 = pc') (yes : ¬ (z < x) → G p l e R s m args below meth c n0 P h k n (mkF m pt Ls S)) (no : z < x → G p l e R s m args below meth c n0 P h k n (mkF m pc' Ls S)) : G p l e R s m args below meth c n0 P h k n (mkF m pc Ls (.int z :: .int x :: S)) :=
  G.icmp C hd ho ht hp (fun q => yes (by simpa [if_icmp.holds] using q)) (fun q => no (by simpa [if_icmp.holds] using q))
theorem G.lfle (C : Cx p s m meth c Z y bytes maxL ret) {o : Int} {x z : Int64} (hd : decode bytes pc = .ok (.ifCond .le o, 3)) (ho : 0 ≤ (pc : Int) + o) (ht : ((pc : Int) + o).toNat = pt) (hp : pc + 3 = pc') (yes : ¬ (z < x) → G p l e R s m args below meth c n0 P h k n (mkF m pt Ls S)) (no : z < x → G p l e R s m args below meth c n0 P h k n (mkF m pc' Ls S)) : G p l e R s m args below meth c n0 P h k n (mkF m pc Ls (.int (lcmpW x z) :: S)) :=
  G.ifle C hd ho ht hp (fun q => yes (fun r => q ((lw_gt x z).mpr r))) (fun q => no ((lw_gt x z).mp q))
/-- a Bool as the machine's int -/
def bi (b : Bool) : Int32 := if b then 1 else 0
theorem bi_t : bi true = 1 := rfl
theorem bi_f : bi false = 0 := rfl
theorem bi_inj {a b : Bool} : bi a = bi b ↔ a = b := by cases a <;> cases b <;> decide
theorem bi_zero {b : Bool} : bi b = 0 ↔ b = false := by cases b <;> decide
theorem bi_one {b : Bool} : bi b = 1 ↔ b = true := by cases b <;> decide
theorem bi_fit (b : Bool) : fits .boolean (.int (bi b)) = true := by cases b <;> rfl
theorem bi_nar (b : Bool) : narrow .boolean (.int (bi b)) = .int (bi b) := by cases b <;> rfl
theorem G.bfeq (C : Cx p s m meth c Z y bytes maxL ret) {o : Int} {b : Bool} (hd : decode bytes pc = .ok (.ifCond .eq o, 3)) (ho : 0 ≤ (pc : Int) + o) (ht : ((pc : Int) + o).toNat = pt) (hp : pc + 3 = pc') (yes : b = false → G p l e R s m args below meth c n0 P h k n (mkF m pt Ls S)) (no : b = true → G p l e R s m args below meth c n0 P h k n (mkF m pc' Ls S)) : G p l e R s m args below meth c n0 P h k n (mkF m pc Ls (.int (bi b) :: S)) :=
  G.ifeq C hd ho ht hp (fun q => yes (bi_zero.mp q)) (fun q => no (by cases b; exact absurd rfl q; rfl))
theorem G.bfne (C : Cx p s m meth c Z y bytes maxL ret) {o : Int} {b : Bool} (hd : decode bytes pc = .ok (.ifCond .ne o, 3)) (ho : 0 ≤ (pc : Int) + o) (ht : ((pc : Int) + o).toNat = pt) (hp : pc + 3 = pc') (yes : b = true → G p l e R s m args below meth c n0 P h k n (mkF m pt Ls S)) (no : b = false → G p l e R s m args below meth c n0 P h k n (mkF m pc' Ls S)) : G p l e R s m args below meth c n0 P h k n (mkF m pc Ls (.int (bi b) :: S)) :=
  G.ifne C hd ho ht hp (fun q => yes (by cases b; exact absurd rfl q; rfl)) (fun q => no (bi_zero.mp q))
theorem G.out {v : Option Value} (C : Cx p s m meth c Z y bytes maxL ret) (hv : ret = none → v = none) (hq : Q v h) (hk : k ≤ R.cells) (hn : n ≤ R.slots)
    (st : ∀ T locs fs, Stand p l e R s m args below meth c T locs k n → (∀ (f : JFrame) (acts : List Action), f.method = m → f.locked = none → f.entered = [] → (doReturn e (T.setTop f) acts v).1 = T.setFrames fs) → Steps p.tables e below (T.setTop f) (T.setFrames fs)) : G p l e R s m args below meth c n0 (Wst s R n0 Q) h k n f := fun T locs X eT N => by
  have hlk : meth.locks = false := C.2.2.2.2.2.2.2
  obtain ⟨fs, hr, hrun, hended, hW, hsame⟩ := X.leave (v := v) (fun q => hv (C.2.2.2.2.2.2.1.symm.trans q)) hlk
  exact ⟨_, _, st T locs fs X hr, hrun, hended, eT ▸ hq, locs, N, ⟨_, rfl⟩, hW, hsame.mono hk hn⟩
theorem G.retI (C : Cx p s m meth c Z y bytes maxL (some .int)) {z : Int32} (hd : decode bytes pc = .ok (.ireturn, 1)) (hk : k ≤ R.cells) (hn : n ≤ R.slots) (hq : Q (some (.int z)) h) : G p l e R s m args below meth c n0 (Wst s R n0 Q) h k n (mkF m pc Ls (.int z :: S)) :=
  G.out C (fun q => by cases q) hq hk hn fun T locs fs X hr => retOut X C.1 C.2.2.2.2.2.2.1 rfl (Or.inl ⟨rfl, Or.inl rfl, z, rfl⟩) (hb C.2.2.1 hd) hr
theorem G.retZ (C : Cx p s m meth c Z y bytes maxL (some .boolean)) {z : Int32} (hd : decode bytes pc = .ok (.ireturn, 1)) (hk : k ≤ R.cells) (hn : n ≤ R.slots) (hz : narrow .boolean (.int z) = .int z) (hq : Q (some (.int z)) h) : G p l e R s m args below meth c n0 (Wst s R n0 Q) h k n (mkF m pc Ls (.int z :: S)) :=
  G.out C (fun q => by cases q) hq hk hn fun T locs fs X hr => retOut X C.1 C.2.2.2.2.2.2.1 hz (Or.inl ⟨rfl, Or.inr (Or.inl rfl), z, rfl⟩) (hb C.2.2.1 hd) hr
theorem G.retB (C : Cx p s m meth c Z y bytes maxL (some .byte)) {z : Int32} (hd : decode bytes pc = .ok (.ireturn, 1)) (hk : k ≤ R.cells) (hn : n ≤ R.slots) (hz : narrow .byte (.int z) = .int z) (hq : Q (some (.int z)) h) : G p l e R s m args below meth c n0 (Wst s R n0 Q) h k n (mkF m pc Ls (.int z :: S)) :=
  G.out C (fun q => by cases q) hq hk hn fun T locs fs X hr => retOut X C.1 C.2.2.2.2.2.2.1 hz (Or.inl ⟨rfl, Or.inr (Or.inr (Or.inl rfl)), z, rfl⟩) (hb C.2.2.1 hd) hr
theorem G.retC (C : Cx p s m meth c Z y bytes maxL (some .char)) {z : Int32} (hd : decode bytes pc = .ok (.ireturn, 1)) (hk : k ≤ R.cells) (hn : n ≤ R.slots) (hz : narrow .char (.int z) = .int z) (hq : Q (some (.int z)) h) : G p l e R s m args below meth c n0 (Wst s R n0 Q) h k n (mkF m pc Ls (.int z :: S)) :=
  G.out C (fun q => by cases q) hq hk hn fun T locs fs X hr => retOut X C.1 C.2.2.2.2.2.2.1 hz (Or.inl ⟨rfl, Or.inr (Or.inr (Or.inr (Or.inl rfl))), z, rfl⟩) (hb C.2.2.1 hd) hr
theorem G.retL (C : Cx p s m meth c Z y bytes maxL (some .long)) {z : Int64} (hd : decode bytes pc = .ok (.lreturn, 1)) (hk : k ≤ R.cells) (hn : n ≤ R.slots) (hq : Q (some (.long z)) h) : G p l e R s m args below meth c n0 (Wst s R n0 Q) h k n (mkF m pc Ls (.long z :: S)) :=
  G.out C (fun q => by cases q) hq hk hn fun T locs fs X hr => retOut X C.1 C.2.2.2.2.2.2.1 rfl (Or.inr (Or.inl ⟨rfl, rfl, z, rfl⟩)) (hb C.2.2.1 hd) hr
theorem G.retA {t : FieldType} (C : Cx p s m meth c Z y bytes maxL (some t)) {v : Value} (ht : t.isReference = true) (hv : v.isRef = true) (hd : decode bytes pc = .ok (.areturn, 1)) (hk : k ≤ R.cells) (hn : n ≤ R.slots) (hz : narrow t v = v) (hq : Q (some v) h) : G p l e R s m args below meth c n0 (Wst s R n0 Q) h k n (mkF m pc Ls (v :: S)) :=
  G.out C (fun q => by cases q) hq hk hn fun T locs fs X hr => retOut X C.1 C.2.2.2.2.2.2.1 hz (Or.inr (Or.inr (Or.inr (Or.inr ⟨rfl, ht, hv⟩)))) (hb C.2.2.1 hd) hr
theorem G.retV (C : Cx p s m meth c Z y bytes maxL none) (hd : decode bytes pc = .ok (.return_, 1)) (hk : k ≤ R.cells) (hn : n ≤ R.slots) (hq : Q none h) : G p l e R s m args below meth c n0 (Wst s R n0 Q) h k n (mkF m pc Ls []) :=
  G.out C (fun _ => rfl) hq hk hn fun T locs fs X hr => X.returnOut C.1 C.2.2.2.2.2.2.1 (hb C.2.2.1 hd) hr
theorem cat_sum {S : List Value} {W : Nat} (h : (S.map fun v => v.category).sum ≤ W) : 2 * 0 + (S.map fun v => v.category).sum ≤ W := by omega
theorem G.callS (C : Cx p s m meth c Z y bytes maxL ret) {z : MethodName} {zb : ByteArray} {zl : Nat} {zr : Option FieldType} {Rz : Room} {av : List Value} {Qz : Option Value → Heap → Prop} {ix W : Nat} {ps : List FieldType} {r : Option FieldType} {St : List Value}
    (w1 : (Jvm.Cond.methodLink y.cls ix z).before a0 Z = true) (w2 : (Jvm.Cond.static z).before a0 Z = true) (w3 : (Jvm.Cond.initialized z.cls).before a0 Z = true) (w4 : (Jvm.Cond.code z zb zl zr).before a0 Z = true)
    (hz : z.cls ≠ "java/lang/invoke/MethodHandle" ∧ z.cls ≠ "java/lang/invoke/VarHandle") (K : Con l Z z zb zl zr Rz av.toArray h n0 Qz) (hps : parseMethodDescriptor z.desc = some ⟨ps, r⟩) (hlen : av.length = ps.length) (hls : Ls.size = maxL)
    (hd : decode bytes pc = .ok (.invokestatic ix, 3)) (hst : St = av.reverse ++ S) (hW : (S.map fun v => v.category).sum ≤ W) (hf : Rz.frames + 1 ≤ R.frames) (hl : W + (zl + 11) + Rz.locals ≤ R.locals) (hk : k + Rz.cells ≤ R.cells) (hn : n + Rz.slots ≤ R.slots) (hp : pc + 3 = pc')
    (nx : ∀ v h', Qz v h' → G p l e R s m args below meth c n0 P h' (k + Rz.cells) (n + Rz.slots) (mkF m pc' Ls (v.toList ++ S))) : G p l e R s m args below meth c n0 P h k n (mkF m pc Ls St) := fun T locs X eT N => by
  subst hp hst
  obtain ⟨v, _, ⟨T', L', k', n'⟩, -, X', ⟨Lc, hQ, l1, l2, l3⟩, st⟩ := Jvm.LawKit.callS X C.1 (y := z) C.2.2.2.2.1 (mvT C.2.1 w1) (mvT C.2.1 w2) (mvT C.2.1 w3) (mvT C.2.1 w4) hz (backOf (Q := fun v z L => Qz v z ∧ Fr n0 L) (W := W) (K []) C.2.1 w4 w3 hf hl) (g := mkF m pc Ls (av.reverse ++ S)) rfl (by rw [C.2.2.2.1]; exact hls) (argsL := av) (rest := S) (lenOf hps hlen) rfl (cat_sum hW) (hb C.2.2.1 hd) (fun _ _ => ⟨rfl, eT, hk, hn⟩)
  dsimp only [Pt.U, Pt.locs, Pt.cells, Pt.slots] at X' l1 l2 l3 st hQ
  subst l1 l2 l3
  obtain ⟨s₂, o, h1, rr⟩ := nx v T'.heap hQ.1 T' _ X' rfl (Fr.app N hQ.2)
  exact ⟨s₂, o, st _ h1, rr⟩
theorem G.callI (C : Cx p s m meth c Z y bytes maxL ret) {z : MethodName} {zb : ByteArray} {zl : Nat} {Rz : Room} {a : Addr} {av : List Value} {Qz : Option Value → Heap → Prop} {ix W : Nat} {ps : List FieldType} {r : Option FieldType} {St : List Value} (hz1 : z.name = "<init>")
    (w1 : (Jvm.Cond.methodLink y.cls ix z).before a0 Z = true) (w2 : (Jvm.Cond.instanceMethod z).before a0 Z = true) (w3 : (Jvm.Cond.initialized z.cls).before a0 Z = true) (w4 : (Jvm.Cond.code z zb zl none).before a0 Z = true)
    (hz : z.cls ≠ "java/lang/invoke/MethodHandle" ∧ z.cls ≠ "java/lang/invoke/VarHandle") (K : Con l Z z zb zl none Rz (.ref a :: av).toArray h n0 Qz) (hps : parseMethodDescriptor z.desc = some ⟨ps, r⟩) (hlen : av.length = ps.length) (hls : Ls.size = maxL)
    (hd : decode bytes pc = .ok (.invokespecial ix, 3)) (hst : St = av.reverse ++ .ref a :: S) (hW : (S.map fun v => v.category).sum ≤ W) (hf : Rz.frames + 1 ≤ R.frames) (hl : W + (zl + 11) + Rz.locals ≤ R.locals) (hk : k + Rz.cells ≤ R.cells) (hn : n + Rz.slots ≤ R.slots) (hp : pc + 3 = pc')
    (nx : ∀ v h', Qz v h' → G p l e R s m args below meth c n0 P h' (k + Rz.cells) (n + Rz.slots) (mkF m pc' Ls (v.toList ++ S))) : G p l e R s m args below meth c n0 P h k n (mkF m pc Ls St) := fun T locs X eT N => by
  subst hp hst
  obtain ⟨v, _, ⟨T', L', k', n'⟩, -, X', ⟨Lc, hQ, l1, l2, l3⟩, st⟩ := X.specialBack C.1 (y := z) hz1 C.2.2.2.2.1 (mvT C.2.1 w1) (mvT C.2.1 w2) (mvT C.2.1 w4) hz (backOf (Q := fun v z L => Qz v z ∧ Fr n0 L) (W := W) (K []) C.2.1 w4 w3 hf hl) (g := mkF m pc Ls (av.reverse ++ .ref a :: S)) rfl (by rw [C.2.2.2.1]; exact hls) (Steps.refl _) (a := a) (argsL := av) (rest := S) (lenOf hps hlen) rfl (cat_sum hW) (hb C.2.2.1 hd) (fun _ _ => ⟨rfl, eT, hk, hn⟩)
  dsimp only [Pt.U, Pt.locs, Pt.cells, Pt.slots] at X' l1 l2 l3 st hQ
  subst l1 l2 l3
  obtain ⟨s₂, o, h1, rr⟩ := nx v T'.heap hQ.1 T' _ X' rfl (Fr.app N hQ.2)
  exact ⟨s₂, o, st.trans h1, rr⟩
theorem G.callV (C : Cx p s m meth c Z y bytes maxL ret) {z : MethodName} {zb : ByteArray} {zl : Nat} {zr : Option FieldType} {Rz : Room} {a : Addr} {av : List Value} {Qz : Option Value → Heap → Prop} {ix W : Nat} {ps : List FieldType} {r : Option FieldType} {St : List Value} {D : String}
    (w1 : (Jvm.Cond.methodLink y.cls ix z).before a0 Z = true) (w2 : (Jvm.Cond.instanceMethod z).before a0 Z = true) (w3 : (Jvm.Cond.initialized z.cls).before a0 Z = true) (w4 : (Jvm.Cond.code z zb zl zr).before a0 Z = true) (w5 : (Jvm.Cond.declares z).before a0 Z = true) (w6 : (Jvm.Cond.selects D z z).before a0 Z = true) (E : Exa Z h a D)
    (hz : z.cls ≠ "java/lang/invoke/MethodHandle" ∧ z.cls ≠ "java/lang/invoke/VarHandle") (K : Con l Z z zb zl zr Rz (.ref a :: av).toArray h n0 Qz) (hps : parseMethodDescriptor z.desc = some ⟨ps, r⟩) (hlen : av.length = ps.length) (hls : Ls.size = maxL)
    (hd : decode bytes pc = .ok (.invokevirtual ix, 3)) (hst : St = av.reverse ++ .ref a :: S) (hW : (S.map fun v => v.category).sum ≤ W) (hf : Rz.frames + 1 ≤ R.frames) (hl : W + (zl + 11) + Rz.locals ≤ R.locals) (hk : k + Rz.cells ≤ R.cells) (hn : n + Rz.slots ≤ R.slots) (hp : pc + 3 = pc')
    (nx : ∀ v h', Qz v h' → G p l e R s m args below meth c n0 P h' (k + Rz.cells) (n + Rz.slots) (mkF m pc' Ls (v.toList ++ S))) : G p l e R s m args below meth c n0 P h k n (mkF m pc Ls St) := fun T locs X eT N => by
  subst hp hst
  obtain ⟨cq, kq, qa, qb, qc⟩ := isOf C.2.1 eT E
  obtain ⟨v, _, ⟨T', L', k', n'⟩, -, X', ⟨Lc, hQ, l1, l2, l3⟩, st⟩ := X.virtualBack C.1 (y := z) (z := z) C.2.2.2.2.1 (mvT C.2.1 w1) (mvT C.2.1 w5) (notFace_of_selects (args := #[]) (mvT C.2.1 w6)) (mvT C.2.1 w6) (mvT C.2.1 w2) hz (backOf (Q := fun v z L => Qz v z ∧ Fr n0 L) (W := W) (K []) C.2.1 w4 w3 hf hl) qa qc (g := mkF m pc Ls (av.reverse ++ .ref a :: S)) rfl (by rw [C.2.2.2.1]; exact hls) (Steps.refl _) (argsL := av) (rest := S) (lenOf hps hlen) rfl (cat_sum hW) (hb C.2.2.1 hd) (fun _ _ => ⟨rfl, eT, hk, hn⟩)
  dsimp only [Pt.U, Pt.locs, Pt.cells, Pt.slots] at X' l1 l2 l3 st hQ
  subst l1 l2 l3
  obtain ⟨s₂, o, h1, rr⟩ := nx v T'.heap hQ.1 T' _ X' rfl (Fr.app N hQ.2)
  exact ⟨s₂, o, st.trans h1, rr⟩
def Pn (h : Heap) : Option Value → Heap → Prop := fun v h' => v = none ∧ h' = h
/-- a value is handed back, the heap as it was -/
def Pv (u : Value) (h : Heap) : Option Value → Heap → Prop := fun v h' => v = some u ∧ h' = h
theorem G.callSP (C : Cx p s m meth c Z y bytes maxL ret) {z : MethodName} {zb : ByteArray} {zl : Nat} {zr : Option FieldType} {Rz : Room} {av : List Value} {u : Value} {ix W : Nat} {ps : List FieldType} {r : Option FieldType} {St : List Value}
    (w1 : (Jvm.Cond.methodLink y.cls ix z).before a0 Z = true) (w2 : (Jvm.Cond.static z).before a0 Z = true) (w3 : (Jvm.Cond.initialized z.cls).before a0 Z = true) (w4 : (Jvm.Cond.code z zb zl zr).before a0 Z = true)
    (hz : z.cls ≠ "java/lang/invoke/MethodHandle" ∧ z.cls ≠ "java/lang/invoke/VarHandle") (K : Con l Z z zb zl zr Rz av.toArray h n0 (Pv u h)) (hps : parseMethodDescriptor z.desc = some ⟨ps, r⟩) (hlen : av.length = ps.length) (hls : Ls.size = maxL)
    (hd : decode bytes pc = .ok (.invokestatic ix, 3)) (hst : St = av.reverse ++ S) (hW : (S.map fun v => v.category).sum ≤ W) (hf : Rz.frames + 1 ≤ R.frames) (hl : W + (zl + 11) + Rz.locals ≤ R.locals) (h0 : Rz.cells = 0) (h1 : Rz.slots = 0) (hk : k ≤ R.cells) (hn : n ≤ R.slots) (hp : pc + 3 = pc')
    (nx : G p l e R s m args below meth c n0 P h k n (mkF m pc' Ls (u :: S))) : G p l e R s m args below meth c n0 P h k n (mkF m pc Ls St) :=
  G.callS C w1 w2 w3 w4 hz K hps hlen hls hd hst hW hf hl (by rw [h0]; exact hk) (by rw [h1]; exact hn) hp fun v h' hq => by
    obtain ⟨rfl, rfl⟩ := hq; rw [h0, h1]; exact nx
theorem G.callVP (C : Cx p s m meth c Z y bytes maxL ret) {z : MethodName} {zb : ByteArray} {zl : Nat} {zr : Option FieldType} {Rz : Room} {a : Addr} {av : List Value} {u : Value} {ix W : Nat} {ps : List FieldType} {r : Option FieldType} {St : List Value} {D : String}
    (w1 : (Jvm.Cond.methodLink y.cls ix z).before a0 Z = true) (w2 : (Jvm.Cond.instanceMethod z).before a0 Z = true) (w3 : (Jvm.Cond.initialized z.cls).before a0 Z = true) (w4 : (Jvm.Cond.code z zb zl zr).before a0 Z = true) (w5 : (Jvm.Cond.declares z).before a0 Z = true) (w6 : (Jvm.Cond.selects D z z).before a0 Z = true) (E : Exa Z h a D)
    (hz : z.cls ≠ "java/lang/invoke/MethodHandle" ∧ z.cls ≠ "java/lang/invoke/VarHandle") (K : Con l Z z zb zl zr Rz (.ref a :: av).toArray h n0 (Pv u h)) (hps : parseMethodDescriptor z.desc = some ⟨ps, r⟩) (hlen : av.length = ps.length) (hls : Ls.size = maxL)
    (hd : decode bytes pc = .ok (.invokevirtual ix, 3)) (hst : St = av.reverse ++ .ref a :: S) (hW : (S.map fun v => v.category).sum ≤ W) (hf : Rz.frames + 1 ≤ R.frames) (hl : W + (zl + 11) + Rz.locals ≤ R.locals) (h0 : Rz.cells = 0) (h1 : Rz.slots = 0) (hk : k ≤ R.cells) (hn : n ≤ R.slots) (hp : pc + 3 = pc')
    (nx : G p l e R s m args below meth c n0 P h k n (mkF m pc' Ls (u :: S))) : G p l e R s m args below meth c n0 P h k n (mkF m pc Ls St) :=
  G.callV C w1 w2 w3 w4 w5 w6 E hz K hps hlen hls hd hst hW hf hl (by rw [h0]; exact hk) (by rw [h1]; exact hn) hp fun v h' hq => by
    obtain ⟨rfl, rfl⟩ := hq; rw [h0, h1]; exact nx
/-- Keep, and the cells of statics as they were -/
def Kp (h h' : Heap) (ws : List Addr) : Prop := Keep h h' ws ∧ ∀ (x : Addr) (c : Cell), h[x]? = some c → c.vm.isStatics = true → h'[x]? = some c
theorem Kp.refl (h : Heap) (ws : List Addr) : Kp h h ws := ⟨Keep.refl _ _, fun _ _ q _ => q⟩
theorem Kp.ext {h1 h2 : Heap} {ws : List Addr} (K : Kp h h1 ws) (E : Ext h1 h2) : Kp h h2 ws := ⟨K.1.ext E, fun x c q r => E.2 x c (K.2 x c q r)⟩
theorem Kp.wr {h1 h2 : Heap} {ws : List Addr} {a : Addr} {sl : Nat} {v : Value} (K : Kp h h1 ws) (W : Wr h1 h2 a sl v) (q : a ∈ ws ∨ h.size ≤ a) : Kp h h2 ws := ⟨K.1.wr W q, fun x c q r => by
  have h1x := K.2 x c q r
  obtain ⟨cb, w1, w2, -⟩ := id W
  obtain ⟨cb', e1, -, -, -, e5, -⟩ := wr_at W h1x
  by_cases z : x = a
  · subst z; cases h1x.symm.trans w1; rw [r] at w2; cases w2
  · rw [e1, e5 z]⟩
theorem Kp.trans {h1 h2 : Heap} {ws ws' : List Addr} (K : Kp h h1 ws) (K' : Kp h1 h2 ws') (q : ∀ x ∈ ws', x ∈ ws ∨ h.size ≤ x) : Kp h h2 ws := ⟨K.1.trans K'.1 q, fun x c r z => K'.2 x c (K.2 x c r z) z⟩
theorem Sta.kp {h1 : Heap} {O nm d : String} {v : Value} {ws : List Addr} (K : Kp h h1 ws) (F : Sta Z h O nm d v) : Sta Z h1 O nm d v := by
  obtain ⟨cf, i, k, f, st, cell, q1, q2, q3, q4, q5, q6, q7⟩ := F
  exact ⟨cf, i, k, f, st, cell, q1, q2, q3, q4, K.2 _ _ q5 q6, q6, q7⟩
theorem G.acmpne (C : Cx p s m meth c Z y bytes maxL ret) {o : Int} {a b : Addr} (hd : decode bytes pc = .ok (.if_acmp .ne o, 3)) (ho : 0 ≤ (pc : Int) + o) (ht : ((pc : Int) + o).toNat = pt) (hp : pc + 3 = pc') (yes : ¬ (a = b) → G p l e R s m args below meth c n0 P h k n (mkF m pt Ls S)) (no : a = b → G p l e R s m args below meth c n0 P h k n (mkF m pc' Ls S)) : G p l e R s m args below meth c n0 P h k n (mkF m pc Ls (.ref b :: .ref a :: S)) := by
  by_cases q : a = b
  · exact G.pl (fun T locs X eT t k => Jvm.RoadKit.acmp (g := mkF m pc Ls (.ref b :: .ref a :: S)) X C.1 rfl rfl rfl (pc0 := pc) (pc' := pc') (same := true) rfl (hb C.2.2.1 hd) rfl (decide_eq_true (congrArg Value.ref q)) ho hp.symm k) (no q)
  · exact G.pl (fun T locs X eT t k => Jvm.RoadKit.acmp (g := mkF m pc Ls (.ref b :: .ref a :: S)) X C.1 rfl rfl rfl (pc0 := pc) (pc' := pt) (same := false) rfl (hb C.2.2.1 hd) rfl (decide_eq_false fun r => q (Value.ref.inj r)) ho ht.symm k) (yes q)
theorem G.acmpeq (C : Cx p s m meth c Z y bytes maxL ret) {o : Int} {a b : Addr} (hd : decode bytes pc = .ok (.if_acmp .eq o, 3)) (ho : 0 ≤ (pc : Int) + o) (ht : ((pc : Int) + o).toNat = pt) (hp : pc + 3 = pc') (yes : a = b → G p l e R s m args below meth c n0 P h k n (mkF m pt Ls S)) (no : ¬ (a = b) → G p l e R s m args below meth c n0 P h k n (mkF m pc' Ls S)) : G p l e R s m args below meth c n0 P h k n (mkF m pc Ls (.ref b :: .ref a :: S)) := by
  by_cases q : a = b
  · exact G.pl (fun T locs X eT t k => Jvm.RoadKit.acmp (g := mkF m pc Ls (.ref b :: .ref a :: S)) X C.1 rfl rfl rfl (pc0 := pc) (pc' := pt) (same := true) rfl (hb C.2.2.1 hd) rfl (decide_eq_true (congrArg Value.ref q)) ho ht.symm k) (yes q)
  · exact G.pl (fun T locs X eT t k => Jvm.RoadKit.acmp (g := mkF m pc Ls (.ref b :: .ref a :: S)) X C.1 rfl rfl rfl (pc0 := pc) (pc' := pc') (same := false) rfl (hb C.2.2.1 hd) rfl (decide_eq_false fun r => q (Value.ref.inj r)) ho hp.symm k) (no q)
theorem own_eqi {args : Array Value} {first s : State} {o : Option Outcome} {idx : List Nat} {t : Term} {z : Int32} (h : (Jvm.Cond.eq t (.int z)).value args first o s idx = some true) : t.eval args first o idx s = some (.int z) := by
  simp only [Cond.value] at h
  cases ht : t.eval args first o idx s with
  | none => simp [ht] at h
  | some x => cases x <;> simp [ht, Term.eval] at h ⊢; exact h
theorem own_sta_keep {O nm d : String} {v : Value} {h' : Heap} {ws : List Addr} (K : Keep h h' ws) (F : Sta Z h O nm d v) (hs : ∀ x ∈ ws, ∀ cell : Cell, h[x]? = some cell → cell.vm.isStatics = false) : Sta Z h' O nm d v := by
  obtain ⟨cf, i, k, f, st, cell, h1, h2, h3, h4, h5, h6, h7⟩ := F
  refine ⟨cf, i, k, f, st, cell, h1, h2, h3, h4, K.2.1 _ _ h5 (fun q => ?_), h6, h7⟩
  rw [hs st q cell h5] at h6; cases h6
theorem G.getF (C : Cx p s m meth c Z y bytes maxL ret) {ix : Nat} {O nm d : String} {a : Addr} {v : Value} (w : (Jvm.Cond.fieldLink y.cls ix O nm d).before a0 Z = true) (F : Fld Z h a O nm d v) (hd : decode bytes pc = .ok (.getfield ix, 3)) (hp : pc + 3 = pc') (nx : G p l e R s m args below meth c n0 P h k n (mkF m pc' Ls (v :: S))) : G p l e R s m args below meth c n0 P h k n (mkF m pc Ls (.ref a :: S)) := by
  subst hp; exact G.mv (fun T locs X eT => Jvm.RoadKit.getF X C.1 C.2.1 C.2.2.2.2.1 (host := "") (Or.inl w) Via.refl eT F (g := mkF m pc Ls (.ref a :: S)) rfl rfl (hb C.2.2.1 hd)) nx
theorem G.getS (C : Cx p s m meth c Z y bytes maxL ret) {ix : Nat} {O nm d : String} {v : Value} (w : (Jvm.Cond.fieldLink y.cls ix O nm d).before a0 Z = true) (F : Sta Z h O nm d v) (hd : decode bytes pc = .ok (.getstatic ix, 3)) (hp : pc + 3 = pc') (nx : G p l e R s m args below meth c n0 P h k n (mkF m pc' Ls (v :: S))) : G p l e R s m args below meth c n0 P h k n (mkF m pc Ls S) := by
  subst hp; exact G.mv (fun T locs X eT => Jvm.RoadKit.getS2 X C.1 C.2.1 C.2.2.2.2.1 (host := "") (Or.inl w) Via.refl eT F (g := mkF m pc Ls S) rfl (hb C.2.2.1 hd)) nx
theorem G.putF (C : Cx p s m meth c Z y bytes maxL ret) {ix kk : Nat} {O nm d D : String} {ty : FieldType} {a : Addr} {v old : Value} (w : (Jvm.Cond.fieldLink y.cls ix O nm d).before a0 Z = true) (F : Fld Z h a O nm d old) (E : Exa Z h a D) (La : (Jvm.Cond.lays D O nm d).before a0 Z = true ∨ ((Jvm.Cond.laysFinal D O nm d).before a0 Z = true ∧ y.cls = O ∧ y.name = "<init>")) (wi : (Jvm.Cond.instantiable D kk).before a0 Z = true)
    (hty : parseFieldDescriptor d = some ty) (hn : narrow ty v = v) (hf : fits ty v = true) (ha : n0 ≤ a) (hd : decode bytes pc = .ok (.putfield ix, 3)) (hp : pc + 3 = pc') (nx : ∀ h', Wr h h' a (Jvm.RoadKit.slotOf Z O nm d) v → G p l e R s m args below meth c n0 P h' k n (mkF m pc' Ls S)) : G p l e R s m args below meth c n0 P h k n (mkF m pc Ls (v :: .ref a :: S)) := fun T locs X eT N => by
  subst hp
  obtain ⟨T', h', X', e', W, st⟩ := Jvm.RoadKit.putF X C.1 C.2.1 C.2.2.2.2.1 (host := "") (Or.inl w) Via.refl eT F E (La.imp id fun q => ⟨q.1, q.2.1, C.2.2.2.2.2.1.trans q.2.2⟩) wi hty hn hf (g := mkF m pc Ls (v :: .ref a :: S)) rfl rfl (hb C.2.2.1 hd)
  obtain ⟨s₂, o, h1, rr⟩ := nx h' W T' _ X' e' (Fr.snoc X' N ha)
  exact ⟨s₂, o, st _ h1, rr⟩
theorem G.newO (C : Cx p s m meth c Z y bytes maxL ret) {ix sl : Nat} {D : String} (w : (Jvm.Cond.classLink y.cls ix D).before a0 Z = true) (wi : (Jvm.Cond.instantiable D sl).before a0 Z = true) (wz : (Jvm.Cond.initialized D).before a0 Z = true) (hd : decode bytes pc = .ok (.new ix, 3)) (hk : k + 1 ≤ R.cells) (hn : n + sl ≤ R.slots) (hp : pc + 3 = pc')
    (nx : ∀ h' a, a = h.size → Ext h h' → Exa Z h' a D → (∀ {O nm d : String} {ty : FieldType}, Laid Z a0 D O nm d → parseFieldDescriptor d = some ty → Fld Z h' a O nm d (defaultValue ty)) → G p l e R s m args below meth c n0 P h' (k + 1) (n + sl) (mkF m pc' Ls (.ref a :: S))) : G p l e R s m args below meth c n0 P h k n (mkF m pc Ls S) := fun T locs X eT N => by
  subst hp
  obtain ⟨T', h', X', e', E, A, D', -, st⟩ := Jvm.RoadKit.newO X C.1 C.2.1 C.2.2.2.2.1 w wi wz eT (g := mkF m pc Ls S) rfl (hb C.2.2.1 hd) hk hn
  obtain ⟨s₂, o, h1, rr⟩ := nx h' _ rfl E A D' T' _ X' e' N
  exact ⟨s₂, o, st _ h1, rr⟩
theorem G.initO (C : Cx p s m meth c Z y bytes maxL ret) {ix W : Nat} {a : Addr} (w1 : (Jvm.Cond.methodLink y.cls ix Lib.objectInit).before a0 Z = true) (w2 : (Jvm.Cond.instanceMethod Lib.objectInit).before a0 Z = true) (w3 : (Jvm.Cond.code Lib.objectInit ⟨#[0xb1]⟩ 1 none).before a0 Z = true) (hls : Ls.size = maxL) (hd : decode bytes pc = .ok (.invokespecial ix, 3)) (hf : 1 ≤ R.frames) (hW : (S.map fun v => v.category).sum ≤ W) (hl : W + 12 ≤ R.locals) (hp : pc + 3 = pc')
    (nx : G p l e R s m args below meth c n0 P h k n (mkF m pc' Ls S)) : G p l e R s m args below meth c n0 P h k n (mkF m pc Ls (.ref a :: S)) := by
  subst hp; exact G.mv (fun T locs X eT => Jvm.RoadKit.initO X C.1 C.2.1 C.2.2.2.2.1 w1 w2 w3 eT (g := mkF m pc Ls (.ref a :: S)) rfl (by rw [C.2.2.2.1]; exact hls) rfl (hb C.2.2.1 hd) hf (cat_sum hW) hl) nx
theorem G.ifnull (C : Cx p s m meth c Z y bytes maxL ret) {o : Int} (hd : decode bytes pc = .ok (.ifnull o, 3)) (ho : 0 ≤ (pc : Int) + o) (ht : ((pc : Int) + o).toNat = pt) (nx : G p l e R s m args below meth c n0 P h k n (mkF m pt Ls S)) : G p l e R s m args below meth c n0 P h k n (mkF m pc Ls (.null :: S)) :=
  G.pl (fun T locs X eT t q => XS.ifnullYes X.here C.1 rfl (pc0 := pc) (pc' := pt) rfl (hb C.2.2.1 hd) rfl ho ht q) nx
theorem G.ifnullR (C : Cx p s m meth c Z y bytes maxL ret) {o : Int} {a : Addr} (hd : decode bytes pc = .ok (.ifnull o, 3)) (hp : pc + 3 = pc') (nx : G p l e R s m args below meth c n0 P h k n (mkF m pc' Ls S)) : G p l e R s m args below meth c n0 P h k n (mkF m pc Ls (.ref a :: S)) := by
  subst hp; exact G.pl (fun T locs X eT t q => XS.ifnullNo X.here C.1 rfl (hb C.2.2.1 hd) rfl q) nx
theorem G.ifnonnull (C : Cx p s m meth c Z y bytes maxL ret) {o : Int} (hd : decode bytes pc = .ok (.ifnonnull o, 3)) (hp : pc + 3 = pc') (nx : G p l e R s m args below meth c n0 P h k n (mkF m pc' Ls S)) : G p l e R s m args below meth c n0 P h k n (mkF m pc Ls (.null :: S)) := by
  subst hp; exact G.pl (fun T locs X eT t q => XS.ifnonnullNo X.here C.1 rfl (hb C.2.2.1 hd) rfl q) nx
theorem G.ifnonnullR (C : Cx p s m meth c Z y bytes maxL ret) {o : Int} {a : Addr} (hd : decode bytes pc = .ok (.ifnonnull o, 3)) (ho : 0 ≤ (pc : Int) + o) (ht : ((pc : Int) + o).toNat = pt) (nx : G p l e R s m args below meth c n0 P h k n (mkF m pt Ls S)) : G p l e R s m args below meth c n0 P h k n (mkF m pc Ls (.ref a :: S)) :=
  G.pl (fun T locs X eT t q => XS.ifnonnullYes X.here C.1 rfl (pc0 := pc) (pc' := pt) rfl (hb C.2.2.1 hd) rfl ho ht q) nx
/-- an array of N places, what lies in each of them -/
def Ara (Z : State) (h : Heap) (a : Addr) (ty : FieldType) (N : Nat) (f : Nat → Value) : Prop := ∃ c : Cell, Arr Z h a c ty ∧ c.slots.size = N ∧ ∀ i, i < N → c.slots[i]? = some (f i)
section Arrays
variable {h' : Heap} {a b : Addr} {ty : FieldType} {N : Nat} {F : Nat → Value}
theorem Ara.ext (A : Ara Z h a ty N F) (E : Ext h h') : Ara Z h' a ty N F := by obtain ⟨c, q, r⟩ := A; exact ⟨c, q.ext E, r⟩
theorem Ara.keep {ws : List Addr} (A : Ara Z h a ty N F) (K : Keep h h' ws) (q : a ∉ ws) : Ara Z h' a ty N F := by obtain ⟨c, A, r⟩ := A; exact ⟨c, ⟨K.2.1 a c A.1 q, A.2⟩, r⟩
theorem Ara.kp {ws : List Addr} (A : Ara Z h a ty N F) (K : Kp h h' ws) (q : a ∉ ws) : Ara Z h' a ty N F := A.keep K.1 q
theorem Ara.oth {sl : Nat} {v : Value} (A : Ara Z h a ty N F) (W : Wr h h' b sl v) (q : a ≠ b) : Ara Z h' a ty N F := by obtain ⟨c, A, r⟩ := A; exact ⟨c, A.other W q, r⟩
theorem Ara.lt (A : Ara Z h a ty N F) : a < h.size := by obtain ⟨c, A, -⟩ := A; exact A.lt
theorem Ara.cast {F' : Nat → Value} (A : Ara Z h a ty N F) (q : ∀ i, i < N → F i = F' i) : Ara Z h a ty N F' := by obtain ⟨c, A, r1, r2⟩ := A; exact ⟨c, A, r1, fun i hi => by rw [r2 i hi, q i hi]⟩
theorem Ara.set {j : Nat} {v : Value} (A : Ara Z h a ty N F) (W : Wr h h' a j v) : Ara Z h' a ty N (fun i => if i = j then v else F i) := by
  obtain ⟨c, A, r1, r2⟩ := A
  obtain ⟨cell, w1, w2, w3, rfl⟩ := id W
  cases A.1.symm.trans w1
  refine ⟨_, A.same W, ?_, fun i hi => ?_⟩
  · rw [← r1]; simp [Cell.setSlot]
  · have hi' : i < c.slots.size := by rw [r1]; exact hi
    by_cases q : i = j
    · subst q; simp [Cell.setSlot, hi']
    · have q' : ¬ j = i := fun z => q z.symm
      simp only [q, if_false]
      rw [← r2 i hi]
      simp [Cell.setSlot, Array.getElem?_setIfInBounds, q']
theorem Ara.new {ka : ClassId} {z : Int32} (A : Arr Z h a (newA ka ty z) ty) : Ara Z h a ty z.toInt.toNat (fun _ => defaultValue ty) := by
  refine ⟨_, A, sz_new _ _ _, fun i hi => ?_⟩
  have q : i < z.toNatClampNeg := hi
  simp [newA, q]
theorem own_in {j : Int32} {cl : Cell} (r : cl.slots.size = N) (q : 0 ≤ j.toInt ∧ j.toInt < N) : ¬ (j < 0 ∨ cl.slots.size ≤ j.toNatClampNeg) := by
  rw [r, Int32.lt_iff_toInt_lt]
  show ¬ (j.toInt < 0 ∨ N ≤ j.toInt.toNat)
  omega
theorem own_ix {j : Int32} (q : 0 ≤ j.toInt ∧ j.toInt < N) : j.toInt.toNat < N := by omega
theorem Ara.len (A : Ara Z h a ty N F) : ∃ cl, Arr Z h a cl ty ∧ cl.slots.size = N := by obtain ⟨c, q, r, -⟩ := A; exact ⟨c, q, r⟩
theorem G.arrlen (C : Cx p s m meth c Z y bytes maxL ret) (A : Ara Z h a ty N F) {z : Int32} (hz : z.toInt = N) (hd : decode bytes pc = .ok (.arraylength, 1)) (hp : pc + 1 = pc') (nx : G p l e R s m args below meth c n0 P h k n (mkF m pc' Ls (.int z :: S))) : G p l e R s m args below meth c n0 P h k n (mkF m pc Ls (.ref a :: S)) := by
  obtain ⟨cl, A, r, -⟩ := A
  have q0 : ¬ z < 0 := by rw [Int32.lt_iff_toInt_lt, hz]; show ¬ ((N : Int) < 0); omega
  have q1 : cl.slots.size = z.toNatClampNeg := by rw [r]; show N = z.toInt.toNat; omega
  subst hp; exact G.pl (fun T locs X eT t q => X.arraylength C.1 (by rw [eT]; exact A.1) (State.isArrayOf_alike C.2.1.alike A.2.1) (g := mkF m pc Ls (.ref a :: S)) rfl rfl (hb C.2.2.1 hd) t (by rw [len_of q1 q0]; exact q)) nx
theorem G.caload (C : Cx p s m meth c Z y bytes maxL ret) (A : Ara Z h a .char N F) {j : Int32} (q : 0 ≤ j.toInt ∧ j.toInt < N) (hd : decode bytes pc = .ok (.caload, 1)) (hp : pc + 1 = pc') (nx : G p l e R s m args below meth c n0 P h k n (mkF m pc' Ls (F j.toInt.toNat :: S))) : G p l e R s m args below meth c n0 P h k n (mkF m pc Ls (.int j :: .ref a :: S)) := by
  obtain ⟨cl, A, r1, r2⟩ := A
  subst hp; exact G.pl (fun T locs X eT t z => X.caload C.1 (j := j) (v := F j.toInt.toNat) (by rw [eT]; exact A.1) (State.isArrayOf_alike C.2.1.alike A.2.1) A.2.2 (own_in r1 q) (r2 _ (own_ix q)) (g := mkF m pc Ls (.int j :: .ref a :: S)) rfl rfl (hb C.2.2.1 hd) _ z) nx
theorem G.laload (C : Cx p s m meth c Z y bytes maxL ret) (A : Ara Z h a .long N F) {j : Int32} (q : 0 ≤ j.toInt ∧ j.toInt < N) (hd : decode bytes pc = .ok (.laload, 1)) (hp : pc + 1 = pc') (nx : G p l e R s m args below meth c n0 P h k n (mkF m pc' Ls (F j.toInt.toNat :: S))) : G p l e R s m args below meth c n0 P h k n (mkF m pc Ls (.int j :: .ref a :: S)) := by
  obtain ⟨cl, A, r1, r2⟩ := A
  subst hp; exact G.pl (fun T locs X eT t z => X.laload C.1 (j := j) (v := F j.toInt.toNat) (by rw [eT]; exact A.1) (State.isArrayOf_alike C.2.1.alike A.2.1) A.2.2 (own_in r1 q) (r2 _ (own_ix q)) (g := mkF m pc Ls (.int j :: .ref a :: S)) rfl rfl (hb C.2.2.1 hd) _ z) nx
theorem G.baloadB (C : Cx p s m meth c Z y bytes maxL ret) (A : Ara Z h a .byte N F) {j : Int32} (q : 0 ≤ j.toInt ∧ j.toInt < N) (hd : decode bytes pc = .ok (.baload, 1)) (hp : pc + 1 = pc') (nx : G p l e R s m args below meth c n0 P h k n (mkF m pc' Ls (F j.toInt.toNat :: S))) : G p l e R s m args below meth c n0 P h k n (mkF m pc Ls (.int j :: .ref a :: S)) := by
  obtain ⟨cl, A, r1, r2⟩ := A
  subst hp; exact G.pl (fun T locs X eT t z => X.baloadBytes C.1 (j := j) (v := F j.toInt.toNat) (by rw [eT]; exact A.1) (State.isArrayOf_alike C.2.1.alike A.2.1) A.2.2 (own_in r1 q) (r2 _ (own_ix q)) (g := mkF m pc Ls (.int j :: .ref a :: S)) rfl rfl (hb C.2.2.1 hd) _ z) nx
theorem G.baloadZ (C : Cx p s m meth c Z y bytes maxL ret) (A : Ara Z h a .boolean N F) {j : Int32} (q : 0 ≤ j.toInt ∧ j.toInt < N) (hd : decode bytes pc = .ok (.baload, 1)) (hp : pc + 1 = pc') (nx : G p l e R s m args below meth c n0 P h k n (mkF m pc' Ls (F j.toInt.toNat :: S))) : G p l e R s m args below meth c n0 P h k n (mkF m pc Ls (.int j :: .ref a :: S)) := by
  obtain ⟨cl, A, r1, r2⟩ := A
  subst hp; exact G.pl (fun T locs X eT t z => X.baloadBooleans C.1 (j := j) (v := F j.toInt.toNat) (by rw [eT]; exact A.1) (State.isArrayOf_alike C.2.1.alike A.2.1) A.2.2 (own_in r1 q) (r2 _ (own_ix q)) (g := mkF m pc Ls (.int j :: .ref a :: S)) rfl rfl (hb C.2.2.1 hd) _ z) nx
theorem G.aaload (C : Cx p s m meth c Z y bytes maxL ret) {D : String} (A : Ara Z h a (.object D) N F) {j : Int32} (q : 0 ≤ j.toInt ∧ j.toInt < N) (hd : decode bytes pc = .ok (.aaload, 1)) (hp : pc + 1 = pc') (nx : G p l e R s m args below meth c n0 P h k n (mkF m pc' Ls (F j.toInt.toNat :: S))) : G p l e R s m args below meth c n0 P h k n (mkF m pc Ls (.int j :: .ref a :: S)) := by
  obtain ⟨cl, A, r1, r2⟩ := A
  subst hp; exact G.pl (fun T locs X eT t z => X.aaload C.1 (j := j) (v := F j.toInt.toNat) (by rw [eT]; exact A.1) (State.isArrayOf_alike C.2.1.alike A.2.1) rfl A.2.2 (own_in r1 q) (r2 _ (own_ix q)) (g := mkF m pc Ls (.int j :: .ref a :: S)) rfl rfl (hb C.2.2.1 hd) _ z) nx
theorem G.castore (C : Cx p s m meth c Z y bytes maxL ret) (A : Ara Z h a .char N F) {j x : Int32} (q : 0 ≤ j.toInt ∧ j.toInt < N) (ha : n0 ≤ a) (hd : decode bytes pc = .ok (.castore, 1)) (hp : pc + 1 = pc') (nx : ∀ h', Wr h h' a j.toInt.toNat (.int (nar .char x)) → G p l e R s m args below meth c n0 P h' k n (mkF m pc' Ls S)) : G p l e R s m args below meth c n0 P h k n (mkF m pc Ls (.int x :: .int j :: .ref a :: S)) := fun T locs X eT M => by
  obtain ⟨cl, A, r1, r2⟩ := A
  subst hp
  obtain ⟨T', h', X', e', W, st⟩ := Jvm.RoadKit.stC X C.1 C.2.1 eT A (j := j) (own_in r1 q) (g := mkF m pc Ls (.int x :: .int j :: .ref a :: S)) rfl rfl (hb C.2.2.1 hd)
  obtain ⟨s₂, o, h1, rr⟩ := nx h' W T' _ X' e' (Fr.snoc X' M ha)
  exact ⟨s₂, o, st _ h1, rr⟩
theorem G.lastore (C : Cx p s m meth c Z y bytes maxL ret) (A : Ara Z h a .long N F) {j : Int32} {x : Int64} (q : 0 ≤ j.toInt ∧ j.toInt < N) (ha : n0 ≤ a) (hd : decode bytes pc = .ok (.lastore, 1)) (hp : pc + 1 = pc') (nx : ∀ h', Wr h h' a j.toInt.toNat (.long x) → G p l e R s m args below meth c n0 P h' k n (mkF m pc' Ls S)) : G p l e R s m args below meth c n0 P h k n (mkF m pc Ls (.long x :: .int j :: .ref a :: S)) := fun T locs X eT M => by
  obtain ⟨cl, A, r1, r2⟩ := A
  subst hp
  obtain ⟨T', h', X', e', W, st⟩ := Jvm.RoadKit.stJ X C.1 C.2.1 eT A (j := j) (own_in r1 q) (g := mkF m pc Ls (.long x :: .int j :: .ref a :: S)) rfl rfl (hb C.2.2.1 hd)
  obtain ⟨s₂, o, h1, rr⟩ := nx h' W T' _ X' e' (Fr.snoc X' M ha)
  exact ⟨s₂, o, st _ h1, rr⟩
theorem G.bastoreZ (C : Cx p s m meth c Z y bytes maxL ret) (A : Ara Z h a .boolean N F) {j x : Int32} (q : 0 ≤ j.toInt ∧ j.toInt < N) (ha : n0 ≤ a) (hd : decode bytes pc = .ok (.bastore, 1)) (hp : pc + 1 = pc') (nx : ∀ h', Wr h h' a j.toInt.toNat (.int (nar .boolean x)) → G p l e R s m args below meth c n0 P h' k n (mkF m pc' Ls S)) : G p l e R s m args below meth c n0 P h k n (mkF m pc Ls (.int x :: .int j :: .ref a :: S)) := fun T locs X eT M => by
  obtain ⟨cl, A, r1, r2⟩ := A
  subst hp
  obtain ⟨T', h', X', e', W, st⟩ := Jvm.RoadKit.stZ X C.1 C.2.1 eT A (j := j) (own_in r1 q) (g := mkF m pc Ls (.int x :: .int j :: .ref a :: S)) rfl rfl (hb C.2.2.1 hd)
  obtain ⟨s₂, o, h1, rr⟩ := nx h' W T' _ X' e' (Fr.snoc X' M ha)
  exact ⟨s₂, o, st _ h1, rr⟩
theorem G.bastoreB (C : Cx p s m meth c Z y bytes maxL ret) (A : Ara Z h a .byte N F) {j x : Int32} (q : 0 ≤ j.toInt ∧ j.toInt < N) (ha : n0 ≤ a) (hd : decode bytes pc = .ok (.bastore, 1)) (hp : pc + 1 = pc') (nx : ∀ h', Wr h h' a j.toInt.toNat (.int (nar .byte x)) → G p l e R s m args below meth c n0 P h' k n (mkF m pc' Ls S)) : G p l e R s m args below meth c n0 P h k n (mkF m pc Ls (.int x :: .int j :: .ref a :: S)) := fun T locs X eT M => by
  obtain ⟨cl, A, r1, r2⟩ := A
  subst hp
  obtain ⟨T', h', X', e', W, st⟩ := Jvm.RoadKit.stB X C.1 C.2.1 eT A (j := j) (own_in r1 q) (g := mkF m pc Ls (.int x :: .int j :: .ref a :: S)) rfl rfl (hb C.2.2.1 hd)
  obtain ⟨s₂, o, h1, rr⟩ := nx h' W T' _ X' e' (Fr.snoc X' M ha)
  exact ⟨s₂, o, st _ h1, rr⟩
theorem G.newarr (C : Cx p s m meth c Z y bytes maxL ret) {aty : ArrayType} (w : (Jvm.Cond.arrayClass (newarray.typeOf aty)).before a0 Z = true) {z : Int32} (hz : 0 ≤ z.toInt) {cap : Nat} (hcap : z.toInt ≤ cap) (hbg : cap * 8 ≤ 536870912) (hd : decode bytes pc = .ok (.newarray aty, 2)) (hk : k + 1 ≤ R.cells) (hn : n + cap ≤ R.slots) (hp : pc + 2 = pc')
    (nx : ∀ h' a, a = h.size → Ext h h' → Ara Z h' a (newarray.typeOf aty) z.toInt.toNat (fun _ => defaultValue (newarray.typeOf aty)) → G p l e R s m args below meth c n0 P h' (k + 1) (n + cap) (mkF m pc' Ls (.ref a :: S))) : G p l e R s m args below meth c n0 P h k n (mkF m pc Ls (.int z :: S)) := fun T locs X eT M => by
  subst hp
  have q0 : ¬ z < 0 := by rw [Int32.lt_iff_toInt_lt]; show ¬ z.toInt < 0; omega
  obtain ⟨T', h', ka, X', e', E, A, st⟩ := Jvm.RoadKit.newP X C.1 C.2.1 w eT (g := mkF m pc Ls (.int z :: S)) rfl (hb C.2.2.1 hd) rfl q0 (cap := cap) (by show z.toInt.toNat ≤ cap; omega) hbg hk hn
  obtain ⟨s₂, o, h1, rr⟩ := nx h' _ rfl E (Ara.new A) T' _ X' e' M
  exact ⟨s₂, o, st _ h1, rr⟩
end Arrays
theorem G.instY (C : Cx p s m meth c Z y bytes maxL ret) {ix : Nat} {K : String} {a : Addr} (w : (Jvm.Cond.classLink y.cls ix K).before a0 Z = true) (I : Ins Z h a K true) (hd : decode bytes pc = .ok (.instanceof ix, 3)) (hp : pc + 3 = pc') (nx : G p l e R s m args below meth c n0 P h k n (mkF m pc' Ls (.int 1 :: S))) : G p l e R s m args below meth c n0 P h k n (mkF m pc Ls (.ref a :: S)) := by
  subst hp; exact G.mv (fun T locs X eT => Jvm.RoadKit.instY X C.1 C.2.1 C.2.2.2.2.1 w eT I (g := mkF m pc Ls (.ref a :: S)) rfl rfl (hb C.2.2.1 hd)) nx
theorem G.instN (C : Cx p s m meth c Z y bytes maxL ret) {ix : Nat} {K D : String} {a : Addr} (w : (Jvm.Cond.classLink y.cls ix K).before a0 Z = true) (I : Ins Z h a K false) (E : Exa Z h a D) (hd : decode bytes pc = .ok (.instanceof ix, 3)) (hp : pc + 3 = pc') (nx : G p l e R s m args below meth c n0 P h k n (mkF m pc' Ls (.int 0 :: S))) : G p l e R s m args below meth c n0 P h k n (mkF m pc Ls (.ref a :: S)) := by
  subst hp
  refine G.mv (fun T locs X eT => ?_) nx
  obtain ⟨cell, cT, h1, h2, h3⟩ := I
  obtain ⟨cell', kk, e1, -, e3, e4, -⟩ := E
  cases h1.symm.trans e1
  obtain ⟨k', q, -⟩ := C.2.1.alike.2.2 _ _ e3
  obtain ⟨vm', X', st⟩ := Jvm.Sym.instanceofNoAt X C.1 C.2.2.2.2.1 (Jvm.RoadKit.mv C.2.1 w) (by rw [eT]; exact h1) e4 q (by rw [C.2.1.alike.findClass]; exact h2) (by rw [C.2.1.alike.assignable]; simpa [e4] using h3) (g := mkF m pc Ls (.ref a :: S)) rfl rfl (hb C.2.2.1 hd)
  exact ⟨_, X', eT, st⟩
theorem G.instNull (C : Cx p s m meth c Z y bytes maxL ret) {ix : Nat} (hd : decode bytes pc = .ok (.instanceof ix, 3)) (hp : pc + 3 = pc') (nx : G p l e R s m args below meth c n0 P h k n (mkF m pc' Ls (.int 0 :: S))) : G p l e R s m args below meth c n0 P h k n (mkF m pc Ls (.null :: S)) := by
  subst hp; exact G.pl (fun T locs X eT t q => X.instanceofNull C.1 (g := mkF m pc Ls (.null :: S)) rfl rfl (hb C.2.2.1 hd) _ q) nx
theorem G.castY (C : Cx p s m meth c Z y bytes maxL ret) {ix : Nat} {K : String} {a : Addr} (w : (Jvm.Cond.classLink y.cls ix K).before a0 Z = true) (I : Ins Z h a K true) (hd : decode bytes pc = .ok (.checkcast ix, 3)) (hp : pc + 3 = pc') (nx : G p l e R s m args below meth c n0 P h k n (mkF m pc' Ls (.ref a :: S))) : G p l e R s m args below meth c n0 P h k n (mkF m pc Ls (.ref a :: S)) := by
  subst hp; exact G.mv (fun T locs X eT => Jvm.RoadKit.castY X C.1 C.2.1 C.2.2.2.2.1 w eT I (g := mkF m pc Ls (.ref a :: S)) rfl rfl (hb C.2.2.1 hd)) nx
theorem own_notsub {vm : Vm} {t : ClassId} : ∀ (fuel : Nat) (c : ClassId) (L : List ClassId), (∀ x ∈ c :: L, x ≠ t) → (match L with | [] => ∃ k, vm.classes[c]? = some k ∧ k.super = none | p :: _ => ∃ k, vm.classes[c]? = some k ∧ k.super = some p) → (∀ i (hi : i + 1 < L.length), ∃ k, vm.classes[L[i]]? = some k ∧ k.super = some L[i + 1]) → (∀ q, L.getLast? = some q → ∃ k, vm.classes[q]? = some k ∧ k.super = none) → vm.isSubclassAux fuel c t = false
  | 0, c, L, _, _, _, _ => rfl
  | fuel + 1, c, [], h1, h2, _, _ => by
    obtain ⟨k, e1, e2⟩ := h2
    simp [Vm.isSubclassAux, e1, e2, h1 c (List.mem_cons_self ..)]
  | fuel + 1, c, p :: L, h1, h2, h3, h4 => by
    obtain ⟨k, e1, e2⟩ := h2
    have ih := own_notsub (vm := vm) (t := t) fuel p L (fun x hx => h1 x (List.mem_cons_of_mem _ hx)) (by
      cases L with
      | nil => exact h4 p rfl
      | cons q L => exact h3 0 (by simp)) (fun i hi => h3 (i + 1) (by simpa using hi)) (fun q hq => h4 q (by
        cases L with
        | nil => simp at hq
        | cons z L => simpa using hq))
    simp [Vm.isSubclassAux, e1, e2, h1 c (List.mem_cons_self ..), ih]
/-- a class of three (itself, its superclass, Object) is no subclass of another, plain one -/
theorem Ins.no3 {D D2 K : String} {a : Addr} {kk : Nat} (E : Exa Z h a D) (w1 : (Jvm.Cond.superclass D D2).before a0 Z = true) (w2 : (Jvm.Cond.superclass D2 "java/lang/Object").before a0 Z = true) (w3 : (Jvm.Cond.noSuperclass "java/lang/Object").before a0 Z = true) (w4 : (Jvm.Cond.instantiable K kk).before a0 Z = true) (h1 : D ≠ K) (h2 : D2 ≠ K) (h3 : "java/lang/Object" ≠ K) : Ins Z h a K false := by
  obtain ⟨cell, k0, e1, e2, e3, e4, -⟩ := E
  obtain ⟨cT, kT, i1, i2, i3, i4, i5⟩ := Cond.instantiable_spec w4
  obtain ⟨p1, k1, kp1, a1, a2, a3, a4, a5, a6, a7⟩ := Cond.superclass_spec e2 w1
  obtain ⟨p2, k2, kp2, b1, b2, b3, b4, b5, b6, b7⟩ := Cond.superclass_spec a1 w2
  obtain ⟨c3, k3, d1, d2, d3, d4, d5⟩ := Cond.noSuperclass_spec w3
  cases b1.symm.trans d1
  have nm : ∀ {A B : String} {c : ClassId}, Z.vm.findClass A = some c → Z.vm.findClass B = some c → A = B := fun ha hb => by
    obtain ⟨k, q1, q2⟩ := Vm.findClass_spec ha
    obtain ⟨k', r1, r2⟩ := Vm.findClass_spec hb
    cases q1.symm.trans r1
    exact q2.symm.trans r2
  cases a2.symm.trans e3
  have n1 : cell.cls ≠ cT := fun q => h1 (nm e2 (q ▸ i1))
  have n2 : p1 ≠ cT := fun q => h2 (nm a1 (q ▸ i1))
  have n3 : p2 ≠ cT := fun q => h3 (nm b1 (q ▸ i1))
  have hs : Z.vm.isSubclass cell.cls cT = false := own_notsub _ _ [p1, p2] (by
    intro x hx
    simp only [List.mem_cons, List.not_mem_nil, or_false] at hx
    rcases hx with rfl | rfl | rfl
    · exact n1
    · exact n2
    · exact n3) ⟨_, a2, a4⟩ (fun i hi => by
      have : i = 0 := by simp at hi; omega
      subst this
      exact ⟨_, b2, b4⟩) (fun q hq => by
      have : q = p2 := by simpa using hq.symm
      subst this
      exact ⟨_, d2, d3⟩)
  have ni : kT.isInterface = false := by
    cases z : kT.isInterface with
    | false => rfl
    | true => simp [z] at i4
  refine ⟨cell, cT, e1, i1, ?_⟩
  rw [e4]
  show (true && Z.vm.assignable cell.cls cT) = false
  simp [Vm.assignable, Vm.assignableAux, n1, a2, i2, a5, i3, ni, hs]
end Own
theorem pd0 : parseMethodDescriptor "(II)V" = some ⟨[.int, .int], none⟩ := by decide +kernel
theorem pd1 : parseMethodDescriptor "()V" = some ⟨[], none⟩ := by decide +kernel
theorem pd2 : parseMethodDescriptor "(Ljava/lang/Object;)Z" = some ⟨[(.object "java/lang/Object")], some .boolean⟩ := by decide +kernel
theorem pd3 : parseMethodDescriptor "(I)Ljava/lang/Integer;" = some ⟨[.int], some (.object "java/lang/Integer")⟩ := by decide +kernel
theorem pd4 : parseMethodDescriptor "(I)V" = some ⟨[.int], none⟩ := by decide +kernel
def own_L (Z : State) (h : Heap) (a : Addr) (v0 v1 : Value) : Prop := Exa Z h a "com/example/carillon/carillon/model/Lecture" ∧ Fld Z h a "com/example/carillon/carillon/model/Lecture" "slot" "I" v0 ∧ Fld Z h a "com/example/carillon/carillon/model/Lecture" "room" "I" v1
theorem own_L.ext {Z : State} {h h' : Heap} {a : Addr} {v0 v1 : Value} (F : own_L Z h a v0 v1) (E : Ext h h') : own_L Z h' a v0 v1 := ⟨Exa.ext E F.1, Fld.ext E F.2.1, Fld.ext E F.2.2⟩
theorem own_L.keep {Z : State} {h h' : Heap} {a : Addr} {v0 v1 : Value} {ws : List Addr} (F : own_L Z h a v0 v1) (K : Kp h h' ws) (q : a ∉ ws) : own_L Z h' a v0 v1 := ⟨Exa.keep F.1 K.1, Fld.keep F.2.1 K.1 q, Fld.keep F.2.2 K.1 q⟩
theorem own_L.oth {Z : State} {h h' : Heap} {a b : Addr} {v0 v1 : Value} {sl : Nat} {u : Value} (F : own_L Z h a v0 v1) (W : Wr h h' b sl u) (q : a ≠ b) : own_L Z h' a v0 v1 := ⟨Exa.wr W F.1, Fld.other W F.2.1 (Or.inl q), Fld.other W F.2.2 (Or.inl q)⟩
theorem own_L.w0 {Z : State} {a0 : Array Value} {h h' : Heap} {a : Addr} {v0 v1 : Value} {u : Value} (hw : ∀ d ∈ tables_1, d.before a0 Z = true) (F : own_L Z h a v0 v1) (W : Wr h h' a (Jvm.RoadKit.slotOf Z "com/example/carillon/carillon/model/Lecture" "slot" "I") u) : own_L Z h' a u v1 := ⟨Exa.wr W F.1, Fld.same W F.2.1, Fld.other W F.2.2 (Or.inr (slot_ne (C := "com/example/carillon/carillon/model/Lecture") (Or.inr (twd hw 13 rfl)) (Or.inr (twd hw 11 rfl)) (by decide) (t := .int) (t' := .int) (by decide) (by decide)))⟩
theorem own_L.w1 {Z : State} {a0 : Array Value} {h h' : Heap} {a : Addr} {v0 v1 : Value} {u : Value} (hw : ∀ d ∈ tables_1, d.before a0 Z = true) (F : own_L Z h a v0 v1) (W : Wr h h' a (Jvm.RoadKit.slotOf Z "com/example/carillon/carillon/model/Lecture" "room" "I") u) : own_L Z h' a v0 u := ⟨Exa.wr W F.1, Fld.other W F.2.1 (Or.inr (slot_ne (C := "com/example/carillon/carillon/model/Lecture") (Or.inr (twd hw 11 rfl)) (Or.inr (twd hw 13 rfl)) (by decide) (t := .int) (t' := .int) (by decide) (by decide))), Fld.same W F.2.2⟩
theorem own_L.new {Z : State} {a0 : Array Value} {h : Heap} {a : Addr} (hw : ∀ d ∈ tables_1, d.before a0 Z = true) (E : Exa Z h a "com/example/carillon/carillon/model/Lecture") (D : ∀ {O nm d : String} {ty : FieldType}, Laid Z a0 "com/example/carillon/carillon/model/Lecture" O nm d → parseFieldDescriptor d = some ty → Fld Z h a O nm d (defaultValue ty)) : own_L Z h a (.int 0) (.int 0) := ⟨E, D (Or.inr (twd hw 11 rfl)) (ty := .int) (by decide), D (Or.inr (twd hw 13 rfl)) (ty := .int) (by decide)⟩
def own_I (Z : State) (h : Heap) (a : Addr) (v0 : Value) : Prop := Exa Z h a "java/lang/Integer" ∧ Fld Z h a "java/lang/Integer" "value" "I" v0
theorem own_I.ext {Z : State} {h h' : Heap} {a : Addr} {v0 : Value} (F : own_I Z h a v0) (E : Ext h h') : own_I Z h' a v0 := ⟨Exa.ext E F.1, Fld.ext E F.2⟩
theorem own_I.keep {Z : State} {h h' : Heap} {a : Addr} {v0 : Value} {ws : List Addr} (F : own_I Z h a v0) (K : Kp h h' ws) (q : a ∉ ws) : own_I Z h' a v0 := ⟨Exa.keep F.1 K.1, Fld.keep F.2 K.1 q⟩
theorem own_I.oth {Z : State} {h h' : Heap} {a b : Addr} {v0 : Value} {sl : Nat} {u : Value} (F : own_I Z h a v0) (W : Wr h h' b sl u) (q : a ≠ b) : own_I Z h' a v0 := ⟨Exa.wr W F.1, Fld.other W F.2 (Or.inl q)⟩
theorem own_I.w0 {Z : State} {a0 : Array Value} {h h' : Heap} {a : Addr} {v0 : Value} {u : Value} (hw : ∀ d ∈ tables_1, d.before a0 Z = true) (F : own_I Z h a v0) (W : Wr h h' a (Jvm.RoadKit.slotOf Z "java/lang/Integer" "value" "I") u) : own_I Z h' a u := ⟨Exa.wr W F.1, Fld.same W F.2⟩
theorem own_I.new {Z : State} {a0 : Array Value} {h : Heap} {a : Addr} (hw : ∀ d ∈ tables_1, d.before a0 Z = true) (E : Exa Z h a "java/lang/Integer") (D : ∀ {O nm d : String} {ty : FieldType}, Laid Z a0 "java/lang/Integer" O nm d → parseFieldDescriptor d = some ty → Fld Z h a O nm d (defaultValue ty)) : own_I Z h a (.int 0) := ⟨E, D (Or.inr (twd hw 45 rfl)) (ty := .int) (by decide)⟩
def own_IC (Z : State) (h : Heap) (ca : Addr) (cf : Nat → Addr) : Prop := Sta Z h "java/lang/Integer$IntegerCache" "high" "I" (.int (127 : Int32)) ∧ Sta Z h "java/lang/Integer$IntegerCache" "cache" "[Ljava/lang/Integer;" (.ref ca) ∧ Ara Z h ca (.object "java/lang/Integer") 256 (fun i => .ref (cf i)) ∧ ∀ i, i < 256 → Exa Z h (cf i) "java/lang/Integer"
theorem own_IC.ext {Z : State} {h h' : Heap} {ca : Addr} {cf : Nat → Addr} (F : own_IC Z h ca cf) (E : Ext h h') : own_IC Z h' ca cf := ⟨Sta.ext E F.1, Sta.ext E F.2.1, F.2.2.1.ext E, fun i hi => Exa.ext E (F.2.2.2 i hi)⟩
theorem own_IC.oth {Z : State} {h h' : Heap} {ca b : Addr} {cf : Nat → Addr} {sl : Nat} {u : Value} (F : own_IC Z h ca cf) (W : Wr h h' b sl u) (q : ca ≠ b) : own_IC Z h' ca cf := ⟨Sta.wr W F.1, Sta.wr W F.2.1, F.2.2.1.oth W q, fun i hi => Exa.wr W (F.2.2.2 i hi)⟩
theorem own_IC.keep {Z : State} {h h' : Heap} {ca : Addr} {cf : Nat → Addr} {ws : List Addr} (F : own_IC Z h ca cf) (K : Kp h h' ws) (q : ca ∉ ws) : own_IC Z h' ca cf := ⟨Sta.kp K F.1, Sta.kp K F.2.1, F.2.2.1.kp K q, fun i hi => Exa.keep (F.2.2.2 i hi) K.1⟩
theorem own_IC.lt {Z : State} {h : Heap} {ca : Addr} {cf : Nat → Addr} (F : own_IC Z h ca cf) : ca < h.size := F.2.2.1.lt
theorem own_len256 {args : Array Value} {s : State} {t : Term} {a : Addr} {cl : Cell} (ev : t.eval args s none [] s = some (.ref a)) (hat : s.arrayAt? a = some cl) (q : (Term.length t).eval args s none [] s = some (.int 256)) : cl.slots.size = 256 := by
  by_cases hl : cl.slots.size < 2 ^ 31
  · rw [len_f ev hat hl] at q
    have z : cl.slots.size.toInt32 = 256 := by injection q with q; injection q
    have w := len_toInt hl
    rw [z] at w
    have : (256 : Int32).toInt = 256 := by decide
    omega
  · simp [Term.eval, ev, hat, hl] at q
theorem own_elem {args : Array Value} {s : State} {t : Term} {a : Addr} {cl : Cell} {i : Nat} {D : String} (ev : t.eval args s none [i] s = some (.ref a)) (hat : s.arrayAt? a = some cl) (hi : i < cl.slots.size) (hs : cl.slots.size < 2 ^ 31) (q : (Jvm.Cond.exactly (.elem t (.index 0)) D).value args s none s [i] = some true) : ∃ x, cl.slots[i]? = some (.ref x) ∧ Exa s s.heap x D := by
  obtain ⟨a', c', cell, k, e1, e2, e3, e4, e5, rfl, e7⟩ := Cond.exactly_spec (show (Jvm.Cond.exactly (.elem t (.index 0)) D).holds args s none s [i] = true by simp only [Cond.holds]; rw [q]; rfl)
  refine ⟨a', ?_, ⟨cell, k, e3, e2, e4, e5, e7⟩⟩
  have ei : (Term.index 0).eval args s none [i] s = some (.int i.toInt32) := by simp [Term.eval]
  have hj : ¬ i.toInt32 < 0 := by rw [Int32.lt_iff_toInt_lt, len_toInt (by omega)]; show ¬ (i : Int) < 0; omega
  rw [elem_f ev ei hat hj] at e1
  have hk : i.toInt32.toNatClampNeg = i := by show i.toInt32.toInt.toNat = i; rw [len_toInt (by omega)]; simp
  rw [hk] at e1
  exact e1
theorem own_IC.start {s : State} {args : Array Value} {c2 : Jvm.Cond} (q1 : (Jvm.Cond.initializedFor "java/lang/Integer$IntegerCache" "high" "I").before args s = true) (q2 : (Jvm.Cond.laysStatic "java/lang/Integer$IntegerCache" "cache" "[Ljava/lang/Integer;").before args s = true) (q3 : (Jvm.Cond.eq (Jvm.Term.static "java/lang/Integer$IntegerCache" "high" "I") (Jvm.Term.int (127 : Int32))).before args s = true)
    (q4 : (Jvm.Cond.arrayOf (Jvm.Term.static "java/lang/Integer$IntegerCache" "cache" "[Ljava/lang/Integer;") (.object "java/lang/Integer")).before args s = true) (q6 : (Jvm.Cond.eq (Jvm.Term.length (Jvm.Term.static "java/lang/Integer$IntegerCache" "cache" "[Ljava/lang/Integer;")) (Jvm.Term.int (256 : Int32))).before args s = true)
    (q7 : (Jvm.Cond.all (Jvm.Term.static "java/lang/Integer$IntegerCache" "cache" "[Ljava/lang/Integer;") (.and (.exactly (.elem (Jvm.Term.static "java/lang/Integer$IntegerCache" "cache" "[Ljava/lang/Integer;") (.index 0)) "java/lang/Integer") c2)).before args s = true) (qi : (Jvm.Cond.initialized "java/lang/Integer$IntegerCache").before args s = true) : ∃ ca cf, own_IC s s.heap ca cf := by
  obtain ⟨ca, ev⟩ := arr_v (Cond.before_iff.mp q4)
  obtain ⟨cl, A⟩ := Arr.start ev (Cond.before_iff.mp q4)
  have hat := A.fin (Vm.Alike.refl _)
  have hsz : cl.slots.size = 256 := own_len256 ev hat (own_eqi (Cond.before_iff.mp q6))
  have hel : ∀ i, i < 256 → ∃ x, cl.slots[i]? = some (.ref x) ∧ Exa s s.heap x "java/lang/Integer" := fun i hi => by
    obtain ⟨r1, -⟩ := and_e (Cond.all_elim ev hat (Cond.before_iff.mp q7) i (by rw [hsz]; exact hi))
    exact own_elem ev hat (by rw [hsz]; exact hi) (by rw [hsz]; decide) r1
  refine ⟨ca, fun i => if q : i < 256 then Classical.choose (hel i q) else 0, Sta.start (own_eqi (Cond.before_iff.mp q3)) (Or.inl q1), Sta.start ev (Or.inr ⟨qi, q2⟩), ⟨cl, A, hsz, fun i hi => ?_⟩, fun i hi => ?_⟩
  · show _ = some (Value.ref (if q : i < 256 then Classical.choose (hel i q) else 0))
    rw [dif_pos hi]; exact (Classical.choose_spec (hel i hi)).1
  · show Exa s s.heap (if q : i < 256 then Classical.choose (hel i q) else 0) _
    rw [dif_pos hi]; exact (Classical.choose_spec (hel i hi)).2
theorem d6_0 : decode jdk_18_method_1_code 0 = .ok (.aload_n 0, 1) := by decide +kernel
theorem d6_1 : decode jdk_18_method_1_code 1 = .ok (.invokespecial 1, 3) := by decide +kernel
theorem d6_4 : decode jdk_18_method_1_code 4 = .ok (.return_, 1) := by decide +kernel
theorem pn0 : plainName "java/lang/Number" = true := by first | (simp [plainName, overriddenIn]; done) | decide +kernel
theorem ef_c6 (m : MethodId) (a1 : Addr) : entryFrame m #[(.ref a1)] 1 = mkF m 0 #[.val (.ref a1)] [] := by first | (simp [entryFrame, mkF, argsToLocals, Value.category]; done) | rfl
set_option maxRecDepth 65536 in
set_option maxHeartbeats 40000000 in
theorem c6 (l : Launch) (Z : State) (a0 : Array Value) (hw : ∀ d ∈ tables_1, d.before a0 Z = true) (a1 : Addr) (h : Heap) (n0 : Nat)  : Con l Z (⟨"java/lang/Number", "<init>", "()V"⟩ : MethodName) jdk_18_method_1_code 1 none ({ frames := 1, cells := 0, slots := 0, locals := 12 } : Room) #[(.ref a1)] h n0 (Pn h) := by
  refine Con.of (plainFor_of_name pn0) (fun m => ef_c6 m a1) ?_
  intro p e s m below meth c C
  refine G.aloadN C d6_0 rfl rfl rfl ?_
  refine G.initO C (W := 0) (twd hw 43 rfl) (twd hw 8 rfl) (twd hw 9 rfl) rfl d6_1 (by decide) (Nat.le_of_eq rfl) (by decide) rfl ?_
  exact G.retV C d6_4 (by decide) (by decide) (⟨rfl, rfl⟩)
theorem d5_0 : decode jdk_33_method_23_code 0 = .ok (.aload_n 0, 1) := by decide +kernel
theorem d5_1 : decode jdk_33_method_23_code 1 = .ok (.invokespecial 202, 3) := by decide +kernel
theorem d5_4 : decode jdk_33_method_23_code 4 = .ok (.aload_n 0, 1) := by decide +kernel
theorem d5_5 : decode jdk_33_method_23_code 5 = .ok (.iload_n 1, 1) := by decide +kernel
theorem d5_6 : decode jdk_33_method_23_code 6 = .ok (.putfield 205, 3) := by decide +kernel
theorem d5_9 : decode jdk_33_method_23_code 9 = .ok (.return_, 1) := by decide +kernel
theorem pn1 : plainName "java/lang/Integer" = true := by first | (simp [plainName, overriddenIn]; done) | decide +kernel
theorem ef_c5 (m : MethodId) (a1 : Addr) (i2 : Int32) : entryFrame m #[(.ref a1), (.int i2)] 2 = mkF m 0 #[.val (.ref a1), .val (.int i2)] [] := by first | (simp [entryFrame, mkF, argsToLocals, Value.category]; done) | rfl
set_option maxRecDepth 65536 in
set_option maxHeartbeats 40000000 in
theorem c5 (l : Launch) (Z : State) (a0 : Array Value) (hw : ∀ d ∈ tables_1, d.before a0 Z = true) (a1 : Addr) (i2 : Int32) (h : Heap) (n0 : Nat) (u0 : Value) (ge : n0 ≤ a1) (O : own_I Z h a1 u0) : Con l Z (⟨"java/lang/Integer", "<init>", "(I)V"⟩ : MethodName) jdk_33_method_23_code 2 none ({ frames := 2, cells := 0, slots := 0, locals := 24 } : Room) #[(.ref a1), (.int i2)] h n0 (fun v h' => v = none ∧ own_I Z h' a1 (.int i2) ∧ Kp h h' [a1]) := by
  refine Con.of (plainFor_of_name pn1) (fun m => ef_c5 m a1 i2) ?_
  intro p e s m below meth c C
  refine G.aloadN C d5_0 rfl rfl rfl ?_
  refine G.callI C (S := []) (W := 0) rfl (twd hw 37 rfl) (twd hw 38 rfl) (twd hw 41 rfl) (twd hw 42 rfl) (by decide) (c6 l Z a0 hw a1 h n0) pd1 rfl rfl d5_1 rfl (Nat.le_of_eq rfl) (by decide) (by decide) (by decide) (by decide) rfl (fun whp1 hp1 hq2 => ?_)
  obtain ⟨rfl, ehq2⟩ := hq2; rw [ehq2]
  show G p l e _ _ m _ below meth c n0 _ h 0 0 (mkF m 4 #[.val (.ref a1), .val (.int i2)] [])
  refine G.aloadN C d5_4 rfl rfl rfl ?_
  refine G.iloadN C d5_5 rfl rfl ?_
  refine G.putF C (twd hw 44 rfl) (O).2 (O).1 (Or.inr ⟨(twd hw 45 rfl), rfl, rfl⟩) (twd hw 32 rfl) (ty := .int) (by decide) rfl rfl ge d5_6 rfl (fun hn3 W6 => ?_)
  have kp4 := Kp.wr (Kp.refl h [a1]) W6 (Or.inl (by simp))
  have oc5 := own_I.w0 hw O W6
  exact G.retV C d5_9 (by decide) (by decide) (⟨rfl, oc5, kp4⟩)
theorem own_cix (i : Int32) (h1 : ¬ (i < (-128 : Int32))) (h2 : ¬ ((127 : Int32) < i)) : 0 ≤ (i + (128 : Int32)).toInt ∧ (i + (128 : Int32)).toInt < (256 : Nat) := by
  rw [Int32.lt_iff_toInt_lt] at h1 h2
  have a := c_iadd i 128
  have b := rng32 (i + 128)
  have d1 : (-128 : Int32).toInt = -128 := by decide
  have d2 : (127 : Int32).toInt = 127 := by decide
  have d3 : (128 : Int32).toInt = 128 := by decide
  omega
theorem own_cix' {j : Int32} (q : 0 ≤ j.toInt ∧ j.toInt < (256 : Nat)) : j.toInt.toNat < 256 := by omega
theorem d4_0 : decode jdk_33_method_22_code 0 = .ok (.iload_n 0, 1) := by decide +kernel
theorem d4_1 : decode jdk_33_method_22_code 1 = .ok (.bipush (-128), 2) := by decide +kernel
theorem d4_3 : decode jdk_33_method_22_code 3 = .ok (.if_icmp .lt 20, 3) := by decide +kernel
theorem d4_6 : decode jdk_33_method_22_code 6 = .ok (.iload_n 0, 1) := by decide +kernel
theorem d4_7 : decode jdk_33_method_22_code 7 = .ok (.getstatic 191, 3) := by decide +kernel
theorem d4_10 : decode jdk_33_method_22_code 10 = .ok (.if_icmp .gt 13, 3) := by decide +kernel
theorem d4_13 : decode jdk_33_method_22_code 13 = .ok (.getstatic 195, 3) := by decide +kernel
theorem d4_16 : decode jdk_33_method_22_code 16 = .ok (.iload_n 0, 1) := by decide +kernel
theorem d4_17 : decode jdk_33_method_22_code 17 = .ok (.sipush 128, 3) := by decide +kernel
theorem d4_20 : decode jdk_33_method_22_code 20 = .ok (.iadd, 1) := by decide +kernel
theorem d4_21 : decode jdk_33_method_22_code 21 = .ok (.aaload, 1) := by decide +kernel
theorem d4_22 : decode jdk_33_method_22_code 22 = .ok (.areturn, 1) := by decide +kernel
theorem d4_23 : decode jdk_33_method_22_code 23 = .ok (.new 1, 3) := by decide +kernel
theorem d4_26 : decode jdk_33_method_22_code 26 = .ok (.dup, 1) := by decide +kernel
theorem d4_27 : decode jdk_33_method_22_code 27 = .ok (.iload_n 0, 1) := by decide +kernel
theorem d4_28 : decode jdk_33_method_22_code 28 = .ok (.invokespecial 199, 3) := by decide +kernel
theorem d4_31 : decode jdk_33_method_22_code 31 = .ok (.areturn, 1) := by decide +kernel
theorem ef_c4 (m : MethodId) (i1 : Int32) : entryFrame m #[(.int i1)] 1 = mkF m 0 #[.val (.int i1)] [] := by first | (simp [entryFrame, mkF, argsToLocals, Value.category]; done) | rfl
set_option maxRecDepth 65536 in
set_option maxHeartbeats 40000000 in
theorem c4 (l : Launch) (Z : State) (a0 : Array Value) (hw : ∀ d ∈ tables_1, d.before a0 Z = true) (i1 : Int32) (h : Heap) (n0 : Nat) (sz : n0 ≤ h.size) (ca : Addr) (cf : Nat → Addr) (F : own_IC Z h ca cf) : Con l Z (⟨"java/lang/Integer", "valueOf", "(I)Ljava/lang/Integer;"⟩ : MethodName) jdk_33_method_22_code 1 (some (.object "java/lang/Integer")) ({ frames := 3, cells := 1, slots := 1, locals := 38 } : Room) #[(.int i1)] h n0 (fun v h' => ∃ b, v = some (.ref b) ∧ Exa Z h' b "java/lang/Integer" ∧ Kp h h' []) := by
  refine Con.of (plainFor_of_name pn1) (fun m => ef_c4 m i1) ?_
  intro p e s m below meth c C
  refine G.iloadN C d4_0 rfl rfl ?_
  refine G.bipush C d4_1 (v := (-128 : Int32)) rfl rfl ?_
  refine G.iclt C d4_3 (by decide) (pt := 23) (by decide) rfl (fun hc3 => ?_) (fun hc3 => ?_)
  · refine G.newO C (twd hw 31 rfl) (twd hw 32 rfl) (twd hw 23 rfl) d4_23 (by decide) (by decide) rfl (fun hn1 b23 g23 E23 A23 D23 => ?_)
    have old23 := Nat.le_trans (Kp.refl h []).1.1 (Nat.le_of_eq g23.symm)
    have ge23 : n0 ≤ b23 := by rw [g23]; exact sz
    have sf2 := Sta.ext E23 F.1
    have sf3 := Sta.ext E23 F.2.1
    have sz4 : n0 ≤ hn1.size := Nat.le_trans sz E23.1
    have kp5 := Kp.ext (Kp.refl h []) E23
    have ob23 := own_I.new hw A23 D23
    show G p l e _ _ m _ below meth c n0 _ hn1 1 1 (mkF m 26 #[.val (.int i1)] [(.ref b23)])
    refine G.dup C d4_26 rfl rfl ?_
    refine G.iloadN C d4_27 rfl rfl ?_
    refine G.callI C (S := [(.ref b23)]) (W := 1) rfl (twd hw 33 rfl) (twd hw 34 rfl) (twd hw 23 rfl) (twd hw 36 rfl) (by decide) (c5 l Z a0 hw b23 i1 hn1 n0 _ ge23 ob23) pd4 rfl rfl d4_28 rfl (Nat.le_of_eq rfl) (by decide) (by decide) (by decide) (by decide) rfl (fun whp6 hp6 hq7 => ?_)
    obtain ⟨rfl, ob31, K31⟩ := hq7
    have sf8 := Sta.kp K31 sf2
    have sf9 := Sta.kp K31 sf3
    have sz10 : n0 ≤ hp6.size := Nat.le_trans sz4 K31.1.1
    have kp11 := Kp.trans kp5 K31 (by simp [old23])
    show G p l e _ _ m _ below meth c n0 _ hp6 1 1 (mkF m 31 #[.val (.int i1)] [(.ref b23)])
    exact G.retA C rfl rfl d4_31 (by decide) (by decide) rfl (⟨_, rfl, (ob31).1, kp11⟩)
  · refine G.iloadN C d4_6 rfl rfl ?_
    refine G.getS C (twd hw 25 rfl) F.1 d4_7 rfl ?_
    refine G.icgt C d4_10 (by decide) (pt := 23) (by decide) rfl (fun hc10 => ?_) (fun hc10 => ?_)
    · refine G.newO C (twd hw 31 rfl) (twd hw 32 rfl) (twd hw 23 rfl) d4_23 (by decide) (by decide) rfl (fun hn12 b23 g23 E23 A23 D23 => ?_)
      have old23 := Nat.le_trans (Kp.refl h []).1.1 (Nat.le_of_eq g23.symm)
      have ge23 : n0 ≤ b23 := by rw [g23]; exact sz
      have sf13 := Sta.ext E23 F.1
      have sf14 := Sta.ext E23 F.2.1
      have sz15 : n0 ≤ hn12.size := Nat.le_trans sz E23.1
      have kp16 := Kp.ext (Kp.refl h []) E23
      have ob23 := own_I.new hw A23 D23
      show G p l e _ _ m _ below meth c n0 _ hn12 1 1 (mkF m 26 #[.val (.int i1)] [(.ref b23)])
      refine G.dup C d4_26 rfl rfl ?_
      refine G.iloadN C d4_27 rfl rfl ?_
      refine G.callI C (S := [(.ref b23)]) (W := 1) rfl (twd hw 33 rfl) (twd hw 34 rfl) (twd hw 23 rfl) (twd hw 36 rfl) (by decide) (c5 l Z a0 hw b23 i1 hn12 n0 _ ge23 ob23) pd4 rfl rfl d4_28 rfl (Nat.le_of_eq rfl) (by decide) (by decide) (by decide) (by decide) rfl (fun whp17 hp17 hq18 => ?_)
      obtain ⟨rfl, ob31, K31⟩ := hq18
      have sf19 := Sta.kp K31 sf13
      have sf20 := Sta.kp K31 sf14
      have sz21 : n0 ≤ hp17.size := Nat.le_trans sz15 K31.1.1
      have kp22 := Kp.trans kp16 K31 (by simp [old23])
      show G p l e _ _ m _ below meth c n0 _ hp17 1 1 (mkF m 31 #[.val (.int i1)] [(.ref b23)])
      exact G.retA C rfl rfl d4_31 (by decide) (by decide) rfl (⟨_, rfl, (ob31).1, kp22⟩)
    · refine G.getS C (twd hw 27 rfl) F.2.1 d4_13 rfl ?_
      refine G.iloadN C d4_16 rfl rfl ?_
      refine G.sipush C d4_17 (v := (128 : Int32)) rfl rfl ?_
      refine G.iadd C d4_20 rfl ?_
      have hix := own_cix i1 hc3 hc10
      refine G.aaload C (F.2.2.1) hix d4_21 rfl ?_
      show G p l e _ _ m _ below meth c n0 _ h 0 0 (mkF m 22 #[.val (.int i1)] [(.ref (cf (i1 + (128 : Int32)).toInt.toNat))])
      exact G.retA C rfl rfl d4_22 (by decide) (by decide) rfl (⟨_, rfl, F.2.2.2 _ (own_cix' hix), Kp.refl h []⟩)
theorem d1_0 : decode prog_18_method_1_code 0 = .ok (.aload_n 0, 1) := by decide +kernel
theorem d1_1 : decode prog_18_method_1_code 1 = .ok (.invokespecial 1, 3) := by decide +kernel
theorem d1_4 : decode prog_18_method_1_code 4 = .ok (.aload_n 0, 1) := by decide +kernel
theorem d1_5 : decode prog_18_method_1_code 5 = .ok (.iload_n 1, 1) := by decide +kernel
theorem d1_6 : decode prog_18_method_1_code 6 = .ok (.putfield 7, 3) := by decide +kernel
theorem d1_9 : decode prog_18_method_1_code 9 = .ok (.aload_n 0, 1) := by decide +kernel
theorem d1_10 : decode prog_18_method_1_code 10 = .ok (.iload_n 2, 1) := by decide +kernel
theorem d1_11 : decode prog_18_method_1_code 11 = .ok (.putfield 13, 3) := by decide +kernel
theorem d1_14 : decode prog_18_method_1_code 14 = .ok (.return_, 1) := by decide +kernel
theorem pn2 : plainName "com/example/carillon/carillon/model/Lecture" = true := by first | (simp [plainName, overriddenIn]; done) | decide +kernel
theorem ef_c1 (m : MethodId) (a1 : Addr) (i2 : Int32) (i3 : Int32) : entryFrame m #[(.ref a1), (.int i2), (.int i3)] 3 = mkF m 0 #[.val (.ref a1), .val (.int i2), .val (.int i3)] [] := by first | (simp [entryFrame, mkF, argsToLocals, Value.category]; done) | rfl
set_option maxRecDepth 65536 in
set_option maxHeartbeats 40000000 in
theorem c1 (l : Launch) (Z : State) (a0 : Array Value) (hw : ∀ d ∈ tables_1, d.before a0 Z = true) (a1 : Addr) (i2 : Int32) (i3 : Int32) (h : Heap) (n0 : Nat) (u0 u1 : Value) (ge : n0 ≤ a1) (O : own_L Z h a1 u0 u1) : Con l Z (⟨"com/example/carillon/carillon/model/Lecture", "<init>", "(II)V"⟩ : MethodName) prog_18_method_1_code 3 none ({ frames := 1, cells := 0, slots := 0, locals := 12 } : Room) #[(.ref a1), (.int i2), (.int i3)] h n0 (fun v h' => v = none ∧ own_L Z h' a1 (.int i2) (.int i3) ∧ Kp h h' [a1]) := by
  refine Con.of (plainFor_of_name pn2) (fun m => ef_c1 m a1 i2 i3) ?_
  intro p e s m below meth c C
  refine G.aloadN C d1_0 rfl rfl rfl ?_
  refine G.initO C (W := 0) (twd hw 7 rfl) (twd hw 8 rfl) (twd hw 9 rfl) rfl d1_1 (by decide) (Nat.le_of_eq rfl) (by decide) rfl ?_
  refine G.aloadN C d1_4 rfl rfl rfl ?_
  refine G.iloadN C d1_5 rfl rfl ?_
  refine G.putF C (twd hw 10 rfl) (O).2.1 (O).1 (Or.inr ⟨(twd hw 11 rfl), rfl, rfl⟩) (twd hw 2 rfl) (ty := .int) (by decide) rfl rfl ge d1_6 rfl (fun hn1 W6 => ?_)
  have kp2 := Kp.wr (Kp.refl h [a1]) W6 (Or.inl (by simp))
  have oc3 := own_L.w0 hw O W6
  refine G.aloadN C d1_9 rfl rfl rfl ?_
  refine G.iloadN C d1_10 rfl rfl ?_
  refine G.putF C (twd hw 12 rfl) (oc3).2.2 (oc3).1 (Or.inr ⟨(twd hw 13 rfl), rfl, rfl⟩) (twd hw 2 rfl) (ty := .int) (by decide) rfl rfl ge d1_11 rfl (fun hn4 W11 => ?_)
  have kp5 := Kp.wr kp2 W11 (Or.inl (by simp))
  have oc6 := own_L.w1 hw oc3 W11
  exact G.retV C d1_14 (by decide) (by decide) (⟨rfl, oc6, kp5⟩)
def own_eq (a b x y : Int32) : Bool := decide (a = x) && decide (b = y)
theorem d3_0 : decode prog_18_method_4_code 0 = .ok (.aload_n 1, 1) := by decide +kernel
theorem d3_1 : decode prog_18_method_4_code 1 = .ok (.instanceof 8, 3) := by decide +kernel
theorem d3_4 : decode prog_18_method_4_code 4 = .ok (.ifCond .eq 34, 3) := by decide +kernel
theorem d3_7 : decode prog_18_method_4_code 7 = .ok (.aload_n 1, 1) := by decide +kernel
theorem d3_8 : decode prog_18_method_4_code 8 = .ok (.checkcast 8, 3) := by decide +kernel
theorem d3_11 : decode prog_18_method_4_code 11 = .ok (.astore_n 2, 1) := by decide +kernel
theorem d3_12 : decode prog_18_method_4_code 12 = .ok (.aload_n 0, 1) := by decide +kernel
theorem d3_13 : decode prog_18_method_4_code 13 = .ok (.getfield 7, 3) := by decide +kernel
theorem d3_16 : decode prog_18_method_4_code 16 = .ok (.aload_n 2, 1) := by decide +kernel
theorem d3_17 : decode prog_18_method_4_code 17 = .ok (.getfield 7, 3) := by decide +kernel
theorem d3_20 : decode prog_18_method_4_code 20 = .ok (.if_icmp .ne 18, 3) := by decide +kernel
theorem d3_23 : decode prog_18_method_4_code 23 = .ok (.aload_n 0, 1) := by decide +kernel
theorem d3_24 : decode prog_18_method_4_code 24 = .ok (.getfield 13, 3) := by decide +kernel
theorem d3_27 : decode prog_18_method_4_code 27 = .ok (.aload_n 2, 1) := by decide +kernel
theorem d3_28 : decode prog_18_method_4_code 28 = .ok (.getfield 13, 3) := by decide +kernel
theorem d3_31 : decode prog_18_method_4_code 31 = .ok (.if_icmp .ne 7, 3) := by decide +kernel
theorem d3_34 : decode prog_18_method_4_code 34 = .ok (.iconst 1, 1) := by decide +kernel
theorem d3_35 : decode prog_18_method_4_code 35 = .ok (.goto 4, 3) := by decide +kernel
theorem d3_38 : decode prog_18_method_4_code 38 = .ok (.iconst 0, 1) := by decide +kernel
theorem d3_39 : decode prog_18_method_4_code 39 = .ok (.ireturn, 1) := by decide +kernel
theorem ef_cE (m : MethodId) (a1 : Addr) (a2 : Addr) : entryFrame m #[(.ref a1), (.ref a2)] 3 = mkF m 0 #[.val (.ref a1), .val (.ref a2), .unset] [] := by first | (simp [entryFrame, mkF, argsToLocals, Value.category]; done) | rfl
set_option maxRecDepth 65536 in
set_option maxHeartbeats 40000000 in
theorem cE (l : Launch) (Z : State) (a0 : Array Value) (hw : ∀ d ∈ tables_1, d.before a0 Z = true) (a1 : Addr) (a2 : Addr) (h : Heap) (n0 : Nat) (s1 r1 s2 r2 : Int32) (O : own_L Z h a1 (.int s1) (.int r1)) (O2 : own_L Z h a2 (.int s2) (.int r2)) : Con l Z (⟨"com/example/carillon/carillon/model/Lecture", "equals", "(Ljava/lang/Object;)Z"⟩ : MethodName) prog_18_method_4_code 3 (some .boolean) ({ frames := 0, cells := 0, slots := 0, locals := 0 } : Room) #[(.ref a1), (.ref a2)] h n0 (Pv (.int (bi (own_eq s1 r1 s2 r2))) h) := by
  refine Con.of (plainFor_of_name pn2) (fun m => ef_cE m a1 a2) ?_
  intro p e s m below meth c C
  refine G.aloadN C d3_0 rfl rfl rfl ?_
  refine G.instY C (twd hw 19 rfl) (Ins.self O2.1) d3_1 rfl ?_
  refine G.ifeq C d3_4 (by decide) (pt := 38) (by decide) rfl (fun q => absurd q (by decide)) (fun _ => ?_)
  refine G.aloadN C d3_7 rfl rfl rfl ?_
  refine G.castY C (twd hw 19 rfl) (Ins.self O2.1) d3_8 rfl ?_
  refine G.astoreN C d3_11 rfl (Ls' := #[.val (.ref a1), .val (.ref a2), .val (.ref a2)]) rfl rfl ?_
  refine G.aloadN C d3_12 rfl rfl rfl ?_
  refine G.getF C (twd hw 10 rfl) (O).2.1 d3_13 rfl ?_
  refine G.aloadN C d3_16 rfl rfl rfl ?_
  refine G.getF C (twd hw 10 rfl) (O2).2.1 d3_17 rfl ?_
  refine G.icne C d3_20 (by decide) (pt := 38) (by decide) rfl (fun hc20 => ?_) (fun hc20 => ?_)
  · refine G.iconst C d3_38 (v := (0 : Int32)) rfl rfl ?_
    exact G.retZ C d3_39 (by decide) (by decide) rfl (⟨by simp [own_eq, bi, hc20], rfl⟩)
  · refine G.aloadN C d3_23 rfl rfl rfl ?_
    refine G.getF C (twd hw 12 rfl) (O).2.2 d3_24 rfl ?_
    refine G.aloadN C d3_27 rfl rfl rfl ?_
    refine G.getF C (twd hw 12 rfl) (O2).2.2 d3_28 rfl ?_
    refine G.icne C d3_31 (by decide) (pt := 38) (by decide) rfl (fun hc31 => ?_) (fun hc31 => ?_)
    · refine G.iconst C d3_38 (v := (0 : Int32)) rfl rfl ?_
      exact G.retZ C d3_39 (by decide) (by decide) rfl (⟨by simp [own_eq, bi, hc20, hc31], rfl⟩)
    · refine G.iconst C d3_34 (v := (1 : Int32)) rfl rfl ?_
      refine G.goto C d3_35 (by decide) (pc' := 39) (by decide) ?_
      exact G.retZ C d3_39 (by decide) (by decide) rfl (⟨by simp [own_eq, bi, hc20, hc31], rfl⟩)
theorem ef_cEn (m : MethodId) (a1 : Addr) : entryFrame m #[(.ref a1), .null] 3 = mkF m 0 #[.val (.ref a1), .val .null, .unset] [] := by first | (simp [entryFrame, mkF, argsToLocals, Value.category]; done) | rfl
set_option maxRecDepth 65536 in
set_option maxHeartbeats 40000000 in
theorem cEn (l : Launch) (Z : State) (a0 : Array Value) (hw : ∀ d ∈ tables_1, d.before a0 Z = true) (a1 : Addr) (h : Heap) (n0 : Nat)  : Con l Z (⟨"com/example/carillon/carillon/model/Lecture", "equals", "(Ljava/lang/Object;)Z"⟩ : MethodName) prog_18_method_4_code 3 (some .boolean) ({ frames := 0, cells := 0, slots := 0, locals := 0 } : Room) #[(.ref a1), .null] h n0 (Pv (.int (bi false)) h) := by
  refine Con.of (plainFor_of_name pn2) (fun m => ef_cEn m a1) ?_
  intro p e s m below meth c C
  refine G.aloadN C d3_0 rfl rfl rfl ?_
  refine G.instNull C d3_1 rfl ?_
  refine G.ifeq C d3_4 (by decide) (pt := 38) (by decide) rfl (fun _ => ?_) (fun q => absurd q (by decide))
  refine G.iconst C d3_38 (v := (0 : Int32)) rfl rfl ?_
  exact G.retZ C d3_39 (by decide) (by decide) rfl (⟨rfl, rfl⟩)
theorem ef_cEi (m : MethodId) (a1 : Addr) (a2 : Addr) : entryFrame m #[(.ref a1), (.ref a2)] 3 = mkF m 0 #[.val (.ref a1), .val (.ref a2), .unset] [] := by first | (simp [entryFrame, mkF, argsToLocals, Value.category]; done) | rfl
set_option maxRecDepth 65536 in
set_option maxHeartbeats 40000000 in
theorem cEi (l : Launch) (Z : State) (a0 : Array Value) (hw : ∀ d ∈ tables_1, d.before a0 Z = true) (a1 : Addr) (a2 : Addr) (h : Heap) (n0 : Nat) (E2 : Exa Z h a2 "java/lang/Integer") : Con l Z (⟨"com/example/carillon/carillon/model/Lecture", "equals", "(Ljava/lang/Object;)Z"⟩ : MethodName) prog_18_method_4_code 3 (some .boolean) ({ frames := 0, cells := 0, slots := 0, locals := 0 } : Room) #[(.ref a1), (.ref a2)] h n0 (Pv (.int (bi false)) h) := by
  refine Con.of (plainFor_of_name pn2) (fun m => ef_cEi m a1 a2) ?_
  intro p e s m below meth c C
  refine G.aloadN C d3_0 rfl rfl rfl ?_
  refine G.instN C (twd hw 19 rfl) (Ins.no3 E2 (twd hw 28 rfl) (twd hw 29 rfl) (twd hw 30 rfl) (twd hw 2 rfl) (by decide) (by decide) (by decide)) E2 d3_1 rfl ?_
  refine G.ifeq C d3_4 (by decide) (pt := 38) (by decide) rfl (fun _ => ?_) (fun q => absurd q (by decide))
  refine G.iconst C d3_38 (v := (0 : Int32)) rfl rfl ?_
  exact G.retZ C d3_39 (by decide) (by decide) rfl (⟨rfl, rfl⟩)
theorem pn3 : plainName "com/example/carillon/carillon/model/LectureEqualsPinLaw" = true := by first | (simp [plainName, overriddenIn]; done) | decide +kernel
theorem ef_c0 (m : MethodId) (i1 : Int32) (i2 : Int32) (i3 : Int32) (i4 : Int32) (i5 : Int32) : entryFrame m #[(.int i1), (.int i2), (.int i3), (.int i4), (.int i5)] maxLocals = mkF m 0 #[.val (.int i1), .val (.int i2), .val (.int i3), .val (.int i4), .val (.int i5), .unset, .unset, .unset, .unset] [] := by first | (simp [entryFrame, mkF, argsToLocals, Value.category, maxLocals]; done) | rfl
set_option maxRecDepth 65536 in
set_option maxHeartbeats 40000000 in
theorem c0 (l : Launch) (Z : State) (a0 : Array Value) (hw : ∀ d ∈ tables_1, d.before a0 Z = true) (i1 : Int32) (i2 : Int32) (i3 : Int32) (i4 : Int32) (i5 : Int32) (h : Heap) (n0 : Nat) (Z0 : n0 ≤ h.size) (ca : Addr) (cf : Nat → Addr) (FC : own_IC Z h ca cf) : Con l Z x code maxLocals ret room_1 #[(.int i1), (.int i2), (.int i3), (.int i4), (.int i5)] h n0 (fun v h' => v = some (.int 1)) := by
  refine Con.of (plainFor_of_name pn3) (fun m => ef_c0 m i1 i2 i3 i4 i5) ?_
  intro p e s m below meth c C
  replace C : Cx p s m meth c Z (⟨"com/example/carillon/carillon/model/LectureEqualsPinLaw", "law", "(IIIII)Z"⟩ : MethodName) code 9 (some .boolean) := C
  refine G.iload C at_0 rfl rfl ?_
  refine G.ldcI C (v := (2147483647 : Int32)) (twd hw 0 rfl) at_2 rfl ?_
  refine G.iand C at_4 rfl ?_
  refine G.bipush C at_5 (v := (7 : Int32)) rfl rfl ?_
  refine G.irem C at_7 (by decide) rfl ?_
  refine G.istore C at_8 (Ls' := #[.val (.int i1), .val (.int i2), .val (.int i3), .val (.int i4), .val (.int i5), .val (.int ((i5 &&& (2147483647 : Int32)) % (7 : Int32))), .unset, .unset, .unset]) rfl rfl ?_
  generalize hv8 : ((i5 &&& (2147483647 : Int32)) % (7 : Int32)) = v8
  refine G.newO C (twd hw 1 rfl) (twd hw 2 rfl) (twd hw 3 rfl) at_10 (by decide) (by decide) rfl (fun hn1 b10 g10 E10 A10 D10 => ?_)
  have ne_ca_b10 : ca ≠ b10 := by rw [g10]; exact Nat.ne_of_lt (own_IC.lt FC)
  have ge10 : n0 ≤ b10 := by rw [g10]; exact Z0
  have oc2 := own_IC.ext FC E10
  have sz3 : n0 ≤ hn1.size := Nat.le_trans Z0 E10.1
  have ob10 := own_L.new hw A10 D10
  show G p l e _ _ m _ below meth c n0 _ hn1 1 2 (mkF m 13 #[.val (.int i1), .val (.int i2), .val (.int i3), .val (.int i4), .val (.int i5), .val (.int v8), .unset, .unset, .unset] [(.ref b10)])
  refine G.dup C at_13 rfl rfl ?_
  refine G.iloadN C at_14 rfl rfl ?_
  refine G.iloadN C at_15 rfl rfl ?_
  refine G.callI C (S := [(.ref b10)]) (W := 1) rfl (twd hw 4 rfl) (twd hw 5 rfl) (twd hw 3 rfl) (twd hw 6 rfl) (by decide) (c1 l Z a0 hw b10 i1 i2 hn1 n0 _ _ ge10 ob10) pd0 rfl rfl at_16 rfl (Nat.le_of_eq rfl) (by decide) (by decide) (by decide) (by decide) rfl (fun whp4 hp4 hq5 => ?_)
  obtain ⟨rfl, ob19, K19⟩ := hq5
  have oc6 := own_IC.keep oc2 K19 (by simp [ne_ca_b10])
  have sz7 : n0 ≤ hp4.size := Nat.le_trans sz3 K19.1.1
  show G p l e _ _ m _ below meth c n0 _ hp4 1 2 (mkF m 19 #[.val (.int i1), .val (.int i2), .val (.int i3), .val (.int i4), .val (.int i5), .val (.int v8), .unset, .unset, .unset] [(.ref b10)])
  refine G.astore C at_19 rfl (Ls' := #[.val (.int i1), .val (.int i2), .val (.int i3), .val (.int i4), .val (.int i5), .val (.int v8), .val (.ref b10), .unset, .unset]) rfl rfl ?_
  refine G.iload C at_21 rfl rfl ?_
  refine G.ifne C at_23 (by decide) (pt := 57) (by decide) rfl (fun hc23 => ?_) (fun hc23 => ?_)
  · refine G.iload C at_57 rfl rfl ?_
    refine G.iconst C at_59 (v := (1 : Int32)) rfl rfl ?_
    refine G.icne C at_60 (by decide) (pt := 80) (by decide) rfl (fun hc60 => ?_) (fun hc60 => ?_)
    · refine G.iload C at_80 rfl rfl ?_
      refine G.iconst C at_82 (v := (2 : Int32)) rfl rfl ?_
      refine G.icne C at_83 (by decide) (pt := 112) (by decide) rfl (fun hc83 => ?_) (fun hc83 => ?_)
      · refine G.iload C at_112 rfl rfl ?_
        refine G.iconst C at_114 (v := (3 : Int32)) rfl rfl ?_
        refine G.icne C at_115 (by decide) (pt := 144) (by decide) rfl (fun hc115 => ?_) (fun hc115 => ?_)
        · refine G.iload C at_144 rfl rfl ?_
          refine G.iconst C at_146 (v := (4 : Int32)) rfl rfl ?_
          refine G.icne C at_147 (by decide) (pt := 159) (by decide) rfl (fun hc147 => ?_) (fun hc147 => ?_)
          · refine G.iload C at_159 rfl rfl ?_
            refine G.iconst C at_161 (v := (5 : Int32)) rfl rfl ?_
            refine G.icne C at_162 (by decide) (pt := 177) (by decide) rfl (fun hc162 => ?_) (fun hc162 => ?_)
            · refine G.aload C at_177 rfl rfl rfl ?_
              refine G.astore C at_179 rfl (Ls' := #[.val (.int i1), .val (.int i2), .val (.int i3), .val (.int i4), .val (.int i5), .val (.int v8), .val (.ref b10), .val (.ref b10), .unset]) rfl rfl ?_
              refine G.iconst C at_181 (v := (1 : Int32)) rfl rfl ?_
              refine G.istore C at_182 (Ls' := #[.val (.int i1), .val (.int i2), .val (.int i3), .val (.int i4), .val (.int i5), .val (.int v8), .val (.ref b10), .val (.ref b10), .val (.int (1 : Int32))]) rfl rfl ?_
              refine G.aload C at_184 rfl rfl rfl ?_
              refine G.aload C at_186 rfl rfl rfl ?_
              refine G.callVP C (S := []) (W := 0) (twd hw 14 rfl) (twd hw 16 rfl) (twd hw 3 rfl) (twd hw 18 rfl) (twd hw 15 rfl) (twd hw 17 rfl) (ob19).1 (by decide) (cE l Z a0 hw b10 b10 hp4 n0 i1 i2 i1 i2 ob19 ob19) pd2 rfl rfl at_188 rfl (Nat.le_of_eq rfl) (by decide) (by decide) rfl rfl (by decide) (by decide) rfl ?_
              refine G.iload C at_191 rfl rfl ?_
              refine G.icne C at_193 (by decide) (pt := 200) (by decide) rfl (fun hc193 => ?_) (fun hc193 => ?_)
              · refine G.iconst C at_200 (v := (0 : Int32)) rfl rfl ?_
                exact G.retZ C at_201 (by decide) (by decide) rfl (absurd (by simp [own_eq, bi]) hc193)
              · refine G.iconst C at_196 (v := (1 : Int32)) rfl rfl ?_
                refine G.goto C at_197 (by decide) (pc' := 201) (by decide) ?_
                exact G.retZ C at_201 (by decide) (by decide) rfl (rfl)
            · refine G.iloadN C at_165 rfl rfl ?_
              refine G.callS C (S := []) (W := 0) (twd hw 21 rfl) (twd hw 22 rfl) (twd hw 23 rfl) (twd hw 24 rfl) (by decide) (c4 l Z a0 hw i1 hp4 n0 sz7 ca cf oc6) pd3 rfl rfl at_166 rfl (Nat.le_of_eq rfl) (by decide) (by decide) (by decide) (by decide) rfl (fun whp8 hp8 hq9 => ?_)
              obtain ⟨vo169, rfl, EI169, K169⟩ := hq9
              have oc10 := own_IC.keep oc6 K169 (by simp)
              have oc11 := own_L.keep ob19 K169 (by simp)
              have sz12 : n0 ≤ hp8.size := Nat.le_trans sz7 K169.1.1
              show G p l e _ _ m _ below meth c n0 _ hp8 2 3 (mkF m 169 #[.val (.int i1), .val (.int i2), .val (.int i3), .val (.int i4), .val (.int i5), .val (.int v8), .val (.ref b10), .unset, .unset] [(.ref vo169)])
              refine G.astore C at_169 rfl (Ls' := #[.val (.int i1), .val (.int i2), .val (.int i3), .val (.int i4), .val (.int i5), .val (.int v8), .val (.ref b10), .val (.ref vo169), .unset]) rfl rfl ?_
              refine G.iconst C at_171 (v := (0 : Int32)) rfl rfl ?_
              refine G.istore C at_172 (Ls' := #[.val (.int i1), .val (.int i2), .val (.int i3), .val (.int i4), .val (.int i5), .val (.int v8), .val (.ref b10), .val (.ref vo169), .val (.int (0 : Int32))]) rfl rfl ?_
              refine G.goto C at_174 (by decide) (pc' := 184) (by decide) ?_
              refine G.aload C at_184 rfl rfl rfl ?_
              refine G.aload C at_186 rfl rfl rfl ?_
              refine G.callVP C (S := []) (W := 0) (twd hw 14 rfl) (twd hw 16 rfl) (twd hw 3 rfl) (twd hw 18 rfl) (twd hw 15 rfl) (twd hw 17 rfl) (oc11).1 (by decide) (cEi l Z a0 hw b10 vo169 hp8 n0 EI169) pd2 rfl rfl at_188 rfl (Nat.le_of_eq rfl) (by decide) (by decide) rfl rfl (by decide) (by decide) rfl ?_
              refine G.iload C at_191 rfl rfl ?_
              refine G.icne C at_193 (by decide) (pt := 200) (by decide) rfl (fun q => absurd q (by decide)) (fun _ => ?_)
              refine G.iconst C at_196 (v := (1 : Int32)) rfl rfl ?_
              refine G.goto C at_197 (by decide) (pc' := 201) (by decide) ?_
              exact G.retZ C at_201 (by decide) (by decide) rfl (rfl)
          · refine G.aconst_null C at_150 rfl ?_
            refine G.astore C at_151 rfl (Ls' := #[.val (.int i1), .val (.int i2), .val (.int i3), .val (.int i4), .val (.int i5), .val (.int v8), .val (.ref b10), .val .null, .unset]) rfl rfl ?_
            refine G.iconst C at_153 (v := (0 : Int32)) rfl rfl ?_
            refine G.istore C at_154 (Ls' := #[.val (.int i1), .val (.int i2), .val (.int i3), .val (.int i4), .val (.int i5), .val (.int v8), .val (.ref b10), .val .null, .val (.int (0 : Int32))]) rfl rfl ?_
            refine G.goto C at_156 (by decide) (pc' := 184) (by decide) ?_
            refine G.aload C at_184 rfl rfl rfl ?_
            refine G.aload C at_186 rfl rfl rfl ?_
            refine G.callVP C (S := []) (W := 0) (twd hw 14 rfl) (twd hw 16 rfl) (twd hw 3 rfl) (twd hw 18 rfl) (twd hw 15 rfl) (twd hw 17 rfl) (ob19).1 (by decide) (cEn l Z a0 hw b10 hp4 n0) pd2 rfl rfl at_188 rfl (Nat.le_of_eq rfl) (by decide) (by decide) rfl rfl (by decide) (by decide) rfl ?_
            refine G.iload C at_191 rfl rfl ?_
            refine G.icne C at_193 (by decide) (pt := 200) (by decide) rfl (fun q => absurd q (by decide)) (fun _ => ?_)
            refine G.iconst C at_196 (v := (1 : Int32)) rfl rfl ?_
            refine G.goto C at_197 (by decide) (pc' := 201) (by decide) ?_
            exact G.retZ C at_201 (by decide) (by decide) rfl (rfl)
        · refine G.newO C (twd hw 1 rfl) (twd hw 2 rfl) (twd hw 3 rfl) at_118 (by decide) (by decide) rfl (fun hn13 b118 g118 E118 A118 D118 => ?_)
          have ne_ca_b118 : ca ≠ b118 := by rw [g118]; exact Nat.ne_of_lt (own_IC.lt oc6)
          have ne_b10_b118 : b10 ≠ b118 := by rw [g118]; exact Nat.ne_of_lt (Exa.lt (ob19).1)
          have ge118 : n0 ≤ b118 := by rw [g118]; exact sz7
          have oc14 := own_IC.ext oc6 E118
          have oc15 := own_L.ext ob19 E118
          have sz16 : n0 ≤ hn13.size := Nat.le_trans sz7 E118.1
          have ob118 := own_L.new hw A118 D118
          show G p l e _ _ m _ below meth c n0 _ hn13 2 4 (mkF m 121 #[.val (.int i1), .val (.int i2), .val (.int i3), .val (.int i4), .val (.int i5), .val (.int v8), .val (.ref b10), .unset, .unset] [(.ref b118)])
          refine G.dup C at_121 rfl rfl ?_
          refine G.iloadN C at_122 rfl rfl ?_
          refine G.iloadN C at_123 rfl rfl ?_
          refine G.callI C (S := [(.ref b118)]) (W := 1) rfl (twd hw 4 rfl) (twd hw 5 rfl) (twd hw 3 rfl) (twd hw 6 rfl) (by decide) (c1 l Z a0 hw b118 i3 i2 hn13 n0 _ _ ge118 ob118) pd0 rfl rfl at_124 rfl (Nat.le_of_eq rfl) (by decide) (by decide) (by decide) (by decide) rfl (fun whp17 hp17 hq18 => ?_)
          obtain ⟨rfl, ob127, K127⟩ := hq18
          have oc19 := own_IC.keep oc14 K127 (by simp [ne_ca_b118])
          have oc20 := own_L.keep oc15 K127 (by simp [ne_b10_b118])
          have sz21 : n0 ≤ hp17.size := Nat.le_trans sz16 K127.1.1
          show G p l e _ _ m _ below meth c n0 _ hp17 2 4 (mkF m 127 #[.val (.int i1), .val (.int i2), .val (.int i3), .val (.int i4), .val (.int i5), .val (.int v8), .val (.ref b10), .unset, .unset] [(.ref b118)])
          refine G.astore C at_127 rfl (Ls' := #[.val (.int i1), .val (.int i2), .val (.int i3), .val (.int i4), .val (.int i5), .val (.int v8), .val (.ref b10), .val (.ref b118), .unset]) rfl rfl ?_
          refine G.iloadN C at_129 rfl rfl ?_
          refine G.iloadN C at_130 rfl rfl ?_
          refine G.icne C at_131 (by decide) (pt := 138) (by decide) rfl (fun hc131 => ?_) (fun hc131 => ?_)
          · refine G.iconst C at_138 (v := (0 : Int32)) rfl rfl ?_
            refine G.istore C at_139 (Ls' := #[.val (.int i1), .val (.int i2), .val (.int i3), .val (.int i4), .val (.int i5), .val (.int v8), .val (.ref b10), .val (.ref b118), .val (.int (0 : Int32))]) rfl rfl ?_
            refine G.goto C at_141 (by decide) (pc' := 184) (by decide) ?_
            refine G.aload C at_184 rfl rfl rfl ?_
            refine G.aload C at_186 rfl rfl rfl ?_
            refine G.callVP C (S := []) (W := 0) (twd hw 14 rfl) (twd hw 16 rfl) (twd hw 3 rfl) (twd hw 18 rfl) (twd hw 15 rfl) (twd hw 17 rfl) (oc20).1 (by decide) (cE l Z a0 hw b10 b118 hp17 n0 i1 i2 i3 i2 oc20 ob127) pd2 rfl rfl at_188 rfl (Nat.le_of_eq rfl) (by decide) (by decide) rfl rfl (by decide) (by decide) rfl ?_
            refine G.iload C at_191 rfl rfl ?_
            refine G.icne C at_193 (by decide) (pt := 200) (by decide) rfl (fun hc193 => ?_) (fun hc193 => ?_)
            · refine G.iconst C at_200 (v := (0 : Int32)) rfl rfl ?_
              exact G.retZ C at_201 (by decide) (by decide) rfl (absurd (by simp [own_eq, bi, hc131]) hc193)
            · refine G.iconst C at_196 (v := (1 : Int32)) rfl rfl ?_
              refine G.goto C at_197 (by decide) (pc' := 201) (by decide) ?_
              exact G.retZ C at_201 (by decide) (by decide) rfl (rfl)
          · refine G.iconst C at_134 (v := (1 : Int32)) rfl rfl ?_
            refine G.goto C at_135 (by decide) (pc' := 139) (by decide) ?_
            refine G.istore C at_139 (Ls' := #[.val (.int i1), .val (.int i2), .val (.int i3), .val (.int i4), .val (.int i5), .val (.int v8), .val (.ref b10), .val (.ref b118), .val (.int (1 : Int32))]) rfl rfl ?_
            refine G.goto C at_141 (by decide) (pc' := 184) (by decide) ?_
            refine G.aload C at_184 rfl rfl rfl ?_
            refine G.aload C at_186 rfl rfl rfl ?_
            refine G.callVP C (S := []) (W := 0) (twd hw 14 rfl) (twd hw 16 rfl) (twd hw 3 rfl) (twd hw 18 rfl) (twd hw 15 rfl) (twd hw 17 rfl) (oc20).1 (by decide) (cE l Z a0 hw b10 b118 hp17 n0 i1 i2 i3 i2 oc20 ob127) pd2 rfl rfl at_188 rfl (Nat.le_of_eq rfl) (by decide) (by decide) rfl rfl (by decide) (by decide) rfl ?_
            refine G.iload C at_191 rfl rfl ?_
            refine G.icne C at_193 (by decide) (pt := 200) (by decide) rfl (fun hc193 => ?_) (fun hc193 => ?_)
            · refine G.iconst C at_200 (v := (0 : Int32)) rfl rfl ?_
              exact G.retZ C at_201 (by decide) (by decide) rfl (absurd (by simp [own_eq, bi, hc131]) hc193)
            · refine G.iconst C at_196 (v := (1 : Int32)) rfl rfl ?_
              refine G.goto C at_197 (by decide) (pc' := 201) (by decide) ?_
              exact G.retZ C at_201 (by decide) (by decide) rfl (rfl)
      · refine G.newO C (twd hw 1 rfl) (twd hw 2 rfl) (twd hw 3 rfl) at_86 (by decide) (by decide) rfl (fun hn22 b86 g86 E86 A86 D86 => ?_)
        have ne_ca_b86 : ca ≠ b86 := by rw [g86]; exact Nat.ne_of_lt (own_IC.lt oc6)
        have ne_b10_b86 : b10 ≠ b86 := by rw [g86]; exact Nat.ne_of_lt (Exa.lt (ob19).1)
        have ge86 : n0 ≤ b86 := by rw [g86]; exact sz7
        have oc23 := own_IC.ext oc6 E86
        have oc24 := own_L.ext ob19 E86
        have sz25 : n0 ≤ hn22.size := Nat.le_trans sz7 E86.1
        have ob86 := own_L.new hw A86 D86
        show G p l e _ _ m _ below meth c n0 _ hn22 2 4 (mkF m 89 #[.val (.int i1), .val (.int i2), .val (.int i3), .val (.int i4), .val (.int i5), .val (.int v8), .val (.ref b10), .unset, .unset] [(.ref b86)])
        refine G.dup C at_89 rfl rfl ?_
        refine G.iloadN C at_90 rfl rfl ?_
        refine G.iloadN C at_91 rfl rfl ?_
        refine G.callI C (S := [(.ref b86)]) (W := 1) rfl (twd hw 4 rfl) (twd hw 5 rfl) (twd hw 3 rfl) (twd hw 6 rfl) (by decide) (c1 l Z a0 hw b86 i1 i4 hn22 n0 _ _ ge86 ob86) pd0 rfl rfl at_92 rfl (Nat.le_of_eq rfl) (by decide) (by decide) (by decide) (by decide) rfl (fun whp26 hp26 hq27 => ?_)
        obtain ⟨rfl, ob95, K95⟩ := hq27
        have oc28 := own_IC.keep oc23 K95 (by simp [ne_ca_b86])
        have oc29 := own_L.keep oc24 K95 (by simp [ne_b10_b86])
        have sz30 : n0 ≤ hp26.size := Nat.le_trans sz25 K95.1.1
        show G p l e _ _ m _ below meth c n0 _ hp26 2 4 (mkF m 95 #[.val (.int i1), .val (.int i2), .val (.int i3), .val (.int i4), .val (.int i5), .val (.int v8), .val (.ref b10), .unset, .unset] [(.ref b86)])
        refine G.astore C at_95 rfl (Ls' := #[.val (.int i1), .val (.int i2), .val (.int i3), .val (.int i4), .val (.int i5), .val (.int v8), .val (.ref b10), .val (.ref b86), .unset]) rfl rfl ?_
        refine G.iloadN C at_97 rfl rfl ?_
        refine G.iloadN C at_98 rfl rfl ?_
        refine G.icne C at_99 (by decide) (pt := 106) (by decide) rfl (fun hc99 => ?_) (fun hc99 => ?_)
        · refine G.iconst C at_106 (v := (0 : Int32)) rfl rfl ?_
          refine G.istore C at_107 (Ls' := #[.val (.int i1), .val (.int i2), .val (.int i3), .val (.int i4), .val (.int i5), .val (.int v8), .val (.ref b10), .val (.ref b86), .val (.int (0 : Int32))]) rfl rfl ?_
          refine G.goto C at_109 (by decide) (pc' := 184) (by decide) ?_
          refine G.aload C at_184 rfl rfl rfl ?_
          refine G.aload C at_186 rfl rfl rfl ?_
          refine G.callVP C (S := []) (W := 0) (twd hw 14 rfl) (twd hw 16 rfl) (twd hw 3 rfl) (twd hw 18 rfl) (twd hw 15 rfl) (twd hw 17 rfl) (oc29).1 (by decide) (cE l Z a0 hw b10 b86 hp26 n0 i1 i2 i1 i4 oc29 ob95) pd2 rfl rfl at_188 rfl (Nat.le_of_eq rfl) (by decide) (by decide) rfl rfl (by decide) (by decide) rfl ?_
          refine G.iload C at_191 rfl rfl ?_
          refine G.icne C at_193 (by decide) (pt := 200) (by decide) rfl (fun hc193 => ?_) (fun hc193 => ?_)
          · refine G.iconst C at_200 (v := (0 : Int32)) rfl rfl ?_
            exact G.retZ C at_201 (by decide) (by decide) rfl (absurd (by simp [own_eq, bi, hc99]) hc193)
          · refine G.iconst C at_196 (v := (1 : Int32)) rfl rfl ?_
            refine G.goto C at_197 (by decide) (pc' := 201) (by decide) ?_
            exact G.retZ C at_201 (by decide) (by decide) rfl (rfl)
        · refine G.iconst C at_102 (v := (1 : Int32)) rfl rfl ?_
          refine G.goto C at_103 (by decide) (pc' := 107) (by decide) ?_
          refine G.istore C at_107 (Ls' := #[.val (.int i1), .val (.int i2), .val (.int i3), .val (.int i4), .val (.int i5), .val (.int v8), .val (.ref b10), .val (.ref b86), .val (.int (1 : Int32))]) rfl rfl ?_
          refine G.goto C at_109 (by decide) (pc' := 184) (by decide) ?_
          refine G.aload C at_184 rfl rfl rfl ?_
          refine G.aload C at_186 rfl rfl rfl ?_
          refine G.callVP C (S := []) (W := 0) (twd hw 14 rfl) (twd hw 16 rfl) (twd hw 3 rfl) (twd hw 18 rfl) (twd hw 15 rfl) (twd hw 17 rfl) (oc29).1 (by decide) (cE l Z a0 hw b10 b86 hp26 n0 i1 i2 i1 i4 oc29 ob95) pd2 rfl rfl at_188 rfl (Nat.le_of_eq rfl) (by decide) (by decide) rfl rfl (by decide) (by decide) rfl ?_
          refine G.iload C at_191 rfl rfl ?_
          refine G.icne C at_193 (by decide) (pt := 200) (by decide) rfl (fun hc193 => ?_) (fun hc193 => ?_)
          · refine G.iconst C at_200 (v := (0 : Int32)) rfl rfl ?_
            exact G.retZ C at_201 (by decide) (by decide) rfl (absurd (by simp [own_eq, bi, hc99]) hc193)
          · refine G.iconst C at_196 (v := (1 : Int32)) rfl rfl ?_
            refine G.goto C at_197 (by decide) (pc' := 201) (by decide) ?_
            exact G.retZ C at_201 (by decide) (by decide) rfl (rfl)
    · refine G.newO C (twd hw 1 rfl) (twd hw 2 rfl) (twd hw 3 rfl) at_63 (by decide) (by decide) rfl (fun hn31 b63 g63 E63 A63 D63 => ?_)
      have ne_ca_b63 : ca ≠ b63 := by rw [g63]; exact Nat.ne_of_lt (own_IC.lt oc6)
      have ne_b10_b63 : b10 ≠ b63 := by rw [g63]; exact Nat.ne_of_lt (Exa.lt (ob19).1)
      have ge63 : n0 ≤ b63 := by rw [g63]; exact sz7
      have oc32 := own_IC.ext oc6 E63
      have oc33 := own_L.ext ob19 E63
      have sz34 : n0 ≤ hn31.size := Nat.le_trans sz7 E63.1
      have ob63 := own_L.new hw A63 D63
      show G p l e _ _ m _ below meth c n0 _ hn31 2 4 (mkF m 66 #[.val (.int i1), .val (.int i2), .val (.int i3), .val (.int i4), .val (.int i5), .val (.int v8), .val (.ref b10), .unset, .unset] [(.ref b63)])
      refine G.dup C at_66 rfl rfl ?_
      refine G.iloadN C at_67 rfl rfl ?_
      refine G.iloadN C at_68 rfl rfl ?_
      refine G.callI C (S := [(.ref b63)]) (W := 1) rfl (twd hw 4 rfl) (twd hw 5 rfl) (twd hw 3 rfl) (twd hw 6 rfl) (by decide) (c1 l Z a0 hw b63 i1 i2 hn31 n0 _ _ ge63 ob63) pd0 rfl rfl at_69 rfl (Nat.le_of_eq rfl) (by decide) (by decide) (by decide) (by decide) rfl (fun whp35 hp35 hq36 => ?_)
      obtain ⟨rfl, ob72, K72⟩ := hq36
      have oc37 := own_IC.keep oc32 K72 (by simp [ne_ca_b63])
      have oc38 := own_L.keep oc33 K72 (by simp [ne_b10_b63])
      have sz39 : n0 ≤ hp35.size := Nat.le_trans sz34 K72.1.1
      show G p l e _ _ m _ below meth c n0 _ hp35 2 4 (mkF m 72 #[.val (.int i1), .val (.int i2), .val (.int i3), .val (.int i4), .val (.int i5), .val (.int v8), .val (.ref b10), .unset, .unset] [(.ref b63)])
      refine G.astore C at_72 rfl (Ls' := #[.val (.int i1), .val (.int i2), .val (.int i3), .val (.int i4), .val (.int i5), .val (.int v8), .val (.ref b10), .val (.ref b63), .unset]) rfl rfl ?_
      refine G.iconst C at_74 (v := (1 : Int32)) rfl rfl ?_
      refine G.istore C at_75 (Ls' := #[.val (.int i1), .val (.int i2), .val (.int i3), .val (.int i4), .val (.int i5), .val (.int v8), .val (.ref b10), .val (.ref b63), .val (.int (1 : Int32))]) rfl rfl ?_
      refine G.goto C at_77 (by decide) (pc' := 184) (by decide) ?_
      refine G.aload C at_184 rfl rfl rfl ?_
      refine G.aload C at_186 rfl rfl rfl ?_
      refine G.callVP C (S := []) (W := 0) (twd hw 14 rfl) (twd hw 16 rfl) (twd hw 3 rfl) (twd hw 18 rfl) (twd hw 15 rfl) (twd hw 17 rfl) (oc38).1 (by decide) (cE l Z a0 hw b10 b63 hp35 n0 i1 i2 i1 i2 oc38 ob72) pd2 rfl rfl at_188 rfl (Nat.le_of_eq rfl) (by decide) (by decide) rfl rfl (by decide) (by decide) rfl ?_
      refine G.iload C at_191 rfl rfl ?_
      refine G.icne C at_193 (by decide) (pt := 200) (by decide) rfl (fun hc193 => ?_) (fun hc193 => ?_)
      · refine G.iconst C at_200 (v := (0 : Int32)) rfl rfl ?_
        exact G.retZ C at_201 (by decide) (by decide) rfl (absurd (by simp [own_eq, bi]) hc193)
      · refine G.iconst C at_196 (v := (1 : Int32)) rfl rfl ?_
        refine G.goto C at_197 (by decide) (pc' := 201) (by decide) ?_
        exact G.retZ C at_201 (by decide) (by decide) rfl (rfl)
  · refine G.newO C (twd hw 1 rfl) (twd hw 2 rfl) (twd hw 3 rfl) at_26 (by decide) (by decide) rfl (fun hn40 b26 g26 E26 A26 D26 => ?_)
    have ne_ca_b26 : ca ≠ b26 := by rw [g26]; exact Nat.ne_of_lt (own_IC.lt oc6)
    have ne_b10_b26 : b10 ≠ b26 := by rw [g26]; exact Nat.ne_of_lt (Exa.lt (ob19).1)
    have ge26 : n0 ≤ b26 := by rw [g26]; exact sz7
    have oc41 := own_IC.ext oc6 E26
    have oc42 := own_L.ext ob19 E26
    have sz43 : n0 ≤ hn40.size := Nat.le_trans sz7 E26.1
    have ob26 := own_L.new hw A26 D26
    show G p l e _ _ m _ below meth c n0 _ hn40 2 4 (mkF m 29 #[.val (.int i1), .val (.int i2), .val (.int i3), .val (.int i4), .val (.int i5), .val (.int v8), .val (.ref b10), .unset, .unset] [(.ref b26)])
    refine G.dup C at_29 rfl rfl ?_
    refine G.iloadN C at_30 rfl rfl ?_
    refine G.iloadN C at_31 rfl rfl ?_
    refine G.callI C (S := [(.ref b26)]) (W := 1) rfl (twd hw 4 rfl) (twd hw 5 rfl) (twd hw 3 rfl) (twd hw 6 rfl) (by decide) (c1 l Z a0 hw b26 i3 i4 hn40 n0 _ _ ge26 ob26) pd0 rfl rfl at_32 rfl (Nat.le_of_eq rfl) (by decide) (by decide) (by decide) (by decide) rfl (fun whp44 hp44 hq45 => ?_)
    obtain ⟨rfl, ob35, K35⟩ := hq45
    have oc46 := own_IC.keep oc41 K35 (by simp [ne_ca_b26])
    have oc47 := own_L.keep oc42 K35 (by simp [ne_b10_b26])
    have sz48 : n0 ≤ hp44.size := Nat.le_trans sz43 K35.1.1
    show G p l e _ _ m _ below meth c n0 _ hp44 2 4 (mkF m 35 #[.val (.int i1), .val (.int i2), .val (.int i3), .val (.int i4), .val (.int i5), .val (.int v8), .val (.ref b10), .unset, .unset] [(.ref b26)])
    refine G.astore C at_35 rfl (Ls' := #[.val (.int i1), .val (.int i2), .val (.int i3), .val (.int i4), .val (.int i5), .val (.int v8), .val (.ref b10), .val (.ref b26), .unset]) rfl rfl ?_
    refine G.iloadN C at_37 rfl rfl ?_
    refine G.iloadN C at_38 rfl rfl ?_
    refine G.icne C at_39 (by decide) (pt := 51) (by decide) rfl (fun hc39 => ?_) (fun hc39 => ?_)
    · refine G.iconst C at_51 (v := (0 : Int32)) rfl rfl ?_
      refine G.istore C at_52 (Ls' := #[.val (.int i1), .val (.int i2), .val (.int i3), .val (.int i4), .val (.int i5), .val (.int v8), .val (.ref b10), .val (.ref b26), .val (.int (0 : Int32))]) rfl rfl ?_
      refine G.goto C at_54 (by decide) (pc' := 184) (by decide) ?_
      refine G.aload C at_184 rfl rfl rfl ?_
      refine G.aload C at_186 rfl rfl rfl ?_
      refine G.callVP C (S := []) (W := 0) (twd hw 14 rfl) (twd hw 16 rfl) (twd hw 3 rfl) (twd hw 18 rfl) (twd hw 15 rfl) (twd hw 17 rfl) (oc47).1 (by decide) (cE l Z a0 hw b10 b26 hp44 n0 i1 i2 i3 i4 oc47 ob35) pd2 rfl rfl at_188 rfl (Nat.le_of_eq rfl) (by decide) (by decide) rfl rfl (by decide) (by decide) rfl ?_
      refine G.iload C at_191 rfl rfl ?_
      refine G.icne C at_193 (by decide) (pt := 200) (by decide) rfl (fun hc193 => ?_) (fun hc193 => ?_)
      · refine G.iconst C at_200 (v := (0 : Int32)) rfl rfl ?_
        exact G.retZ C at_201 (by decide) (by decide) rfl (absurd (by simp [own_eq, bi, hc39]) hc193)
      · refine G.iconst C at_196 (v := (1 : Int32)) rfl rfl ?_
        refine G.goto C at_197 (by decide) (pc' := 201) (by decide) ?_
        exact G.retZ C at_201 (by decide) (by decide) rfl (rfl)
    · refine G.iloadN C at_42 rfl rfl ?_
      refine G.iloadN C at_43 rfl rfl ?_
      refine G.icne C at_44 (by decide) (pt := 51) (by decide) rfl (fun hc44 => ?_) (fun hc44 => ?_)
      · refine G.iconst C at_51 (v := (0 : Int32)) rfl rfl ?_
        refine G.istore C at_52 (Ls' := #[.val (.int i1), .val (.int i2), .val (.int i3), .val (.int i4), .val (.int i5), .val (.int v8), .val (.ref b10), .val (.ref b26), .val (.int (0 : Int32))]) rfl rfl ?_
        refine G.goto C at_54 (by decide) (pc' := 184) (by decide) ?_
        refine G.aload C at_184 rfl rfl rfl ?_
        refine G.aload C at_186 rfl rfl rfl ?_
        refine G.callVP C (S := []) (W := 0) (twd hw 14 rfl) (twd hw 16 rfl) (twd hw 3 rfl) (twd hw 18 rfl) (twd hw 15 rfl) (twd hw 17 rfl) (oc47).1 (by decide) (cE l Z a0 hw b10 b26 hp44 n0 i1 i2 i3 i4 oc47 ob35) pd2 rfl rfl at_188 rfl (Nat.le_of_eq rfl) (by decide) (by decide) rfl rfl (by decide) (by decide) rfl ?_
        refine G.iload C at_191 rfl rfl ?_
        refine G.icne C at_193 (by decide) (pt := 200) (by decide) rfl (fun hc193 => ?_) (fun hc193 => ?_)
        · refine G.iconst C at_200 (v := (0 : Int32)) rfl rfl ?_
          exact G.retZ C at_201 (by decide) (by decide) rfl (absurd (by simp [own_eq, bi, hc39, hc44]) hc193)
        · refine G.iconst C at_196 (v := (1 : Int32)) rfl rfl ?_
          refine G.goto C at_197 (by decide) (pc' := 201) (by decide) ?_
          exact G.retZ C at_201 (by decide) (by decide) rfl (rfl)
      · refine G.iconst C at_47 (v := (1 : Int32)) rfl rfl ?_
        refine G.goto C at_48 (by decide) (pc' := 52) (by decide) ?_
        refine G.istore C at_52 (Ls' := #[.val (.int i1), .val (.int i2), .val (.int i3), .val (.int i4), .val (.int i5), .val (.int v8), .val (.ref b10), .val (.ref b26), .val (.int (1 : Int32))]) rfl rfl ?_
        refine G.goto C at_54 (by decide) (pc' := 184) (by decide) ?_
        refine G.aload C at_184 rfl rfl rfl ?_
        refine G.aload C at_186 rfl rfl rfl ?_
        refine G.callVP C (S := []) (W := 0) (twd hw 14 rfl) (twd hw 16 rfl) (twd hw 3 rfl) (twd hw 18 rfl) (twd hw 15 rfl) (twd hw 17 rfl) (oc47).1 (by decide) (cE l Z a0 hw b10 b26 hp44 n0 i1 i2 i3 i4 oc47 ob35) pd2 rfl rfl at_188 rfl (Nat.le_of_eq rfl) (by decide) (by decide) rfl rfl (by decide) (by decide) rfl ?_
        refine G.iload C at_191 rfl rfl ?_
        refine G.icne C at_193 (by decide) (pt := 200) (by decide) rfl (fun hc193 => ?_) (fun hc193 => ?_)
        · refine G.iconst C at_200 (v := (0 : Int32)) rfl rfl ?_
          exact G.retZ C at_201 (by decide) (by decide) rfl (absurd (by simp [own_eq, bi, hc39, hc44]) hc193)
        · refine G.iconst C at_196 (v := (1 : Int32)) rfl rfl ?_
          refine G.goto C at_197 (by decide) (pc' := 201) (by decide) ?_
          exact G.retZ C at_201 (by decide) (by decide) rfl (rfl)
set_option maxRecDepth 65536 in
set_option maxHeartbeats 40000000 in
theorem comes_1 {Post : Tables → Env → Array Value → State → Outcome → State → Prop} (hpost : ∀ tb e args s v u, (limb_1_1.after args s (.returned v) u = true ∧ limb_1_2.after args s (.returned v) u = true ∧ True) → FrameEnd s (.returned v) u (Jvm.fieldLocs frame_1_writes args s ++ Jvm.arrayLocs frame_1_arrays args s ++ Jvm.staticLocs frame_1_statics s) 16 128 → Post tb e args s (.returned v) u) :
    ArmFor flags0 classFile x code maxLocals ret World_1 tables_1 room_1 Calls_1 rest_1 Pre_1 Post := by
  intro l hfl _ _ p e ha hc hk s m args below hf hA hF happ hP
  obtain ⟨hcalls, hrest, hpre⟩ := hP
  obtain ⟨-, -, -, hnamed, -, -, -, hat⟩ := (Spec.applies_iff hf).mp happ
  obtain ⟨hg, hn⟩ := and_e (Cond.before_iff.mp (show (Jvm.Cond.and given_1 narrow_1).before args s = true from hpre))
  obtain ⟨gc, gr0⟩ := and_e hg
  obtain ⟨g0, gr1⟩ := and_e gr0
  obtain ⟨g1, gr2⟩ := and_e gr1
  obtain ⟨g2, gr3⟩ := and_e gr2
  obtain ⟨g3, g4⟩ := and_e gr3
  obtain ⟨w0, w1, w2, w3, w4, rfl⟩ : ∃ w0 w1 w2 w3 w4 : Value, args = #[w0, w1, w2, w3, w4] := by
    have hs : args.size = 5 := by simpa [Cond.value, given_1] using gc
    obtain ⟨L⟩ := args
    match L, hs with
    | [w0, w1, w2, w3, w4], _ => exact ⟨w0, w1, w2, w3, w4, rfl⟩
  have hw := fun d (hd : d ∈ tables_1) => atoms_spec (ws := Jvm.Cond.code x code maxLocals ret :: tables_1) hat d (List.mem_cons_of_mem _ hd)
  obtain ⟨hsets, hown0⟩ := atoms_of _ (rest_1_c_eq ▸ (show rest_1_c.before _ s = true from hrest))
  obtain ⟨i0, ei0⟩ := is_v g0
  obtain rfl : w0 = (.int i0) := Option.some.inj ei0
  obtain ⟨i1, ei1⟩ := is_v g1
  obtain rfl : w1 = (.int i1) := Option.some.inj ei1
  obtain ⟨i2, ei2⟩ := is_v g2
  obtain rfl : w2 = (.int i2) := Option.some.inj ei2
  obtain ⟨i3, ei3⟩ := is_v g3
  obtain rfl : w3 = (.int i3) := Option.some.inj ei3
  obtain ⟨i4, ei4⟩ := is_v g4
  obtain rfl : w4 = (.int i4) := Option.some.inj ei4
  obtain ⟨ca, cf, FC⟩ := own_IC.start (hsets _ (List.mem_of_getElem? (i := 1) rfl)) (hsets _ (List.mem_of_getElem? (i := 2) rfl)) (hsets _ (List.mem_of_getElem? (i := 3) rfl)) (hsets _ (List.mem_of_getElem? (i := 4) rfl)) (hsets _ (List.mem_of_getElem? (i := 6) rfl)) (hsets _ (List.mem_of_getElem? (i := 7) rfl)) (twd hw 26 rfl)
  obtain ⟨nn, o, h1, h2, h3, _, L, rfl, ⟨rfl, N⟩, hq⟩ := c0 l s _ hw i0 i1 i2 i3 i4 s.heap s.heap.size (Nat.le_refl _) ca cf FC tables_1 p e ha hc hk s m _ below hf ((Spec.applies_iff_loose hf).mp happ).1 ⟨rfl, State.Warmed39.refl s, rfl⟩ trivial
  exact ⟨nn, _, h1, h2, h3, hpost _ _ _ _ _ _ ⟨Cond.after_iff.mpr rfl, Cond.after_iff.mpr (eq_i res_at (Term.int_eval (1)) rfl), trivial⟩ ⟨hq.1, hq.2.1, (hq.2.2.sift fun y hy => Or.inr (N y hy)).mono (by decide) (by decide)⟩⟩
theorem main_1_1 : Claimed_1_1 := comes_1 fun _ _ _ _ _ _ h hF => ⟨h.1, hF⟩
theorem main_1_2 : Claimed_1_2 := comes_1 fun _ _ _ _ _ _ h hF => ⟨h.2.1, hF⟩
end Jvm.Pilot.@@N@@
namespace Jvm.Pilot.@@N@@
open Jvm Jvm.ClassFile Sem Op Lib Jvm.Free Jvm.Stand Jvm.Pilot.@@N@@.Jvm.D
/-! MADE BY PROGRAM (witnessworld.py) out of the Statement's table words and the real class files: 16 classes; the members and pool entries that the words name. The judged class is class 1, her method 1. -/
namespace start1
open Jvm.ClassFile
def u (s : String) : CpInfo := .utf8 (stringToUtf16 s)
/-- a pool by its gaps: so many unusable entries, then the entry; so many at the end -/
def gap : Nat → List CpInfo → List CpInfo
  | 0, r => r
  | n + 1, r => .unusable :: gap n r
def poolList (es : List (Nat × CpInfo)) (last : Nat) : List CpInfo := es.foldr (fun e r => gap e.1 (e.2 :: r)) (gap last [])
def pool (es : List (Nat × CpInfo)) (last : Nat) : Array CpInfo := ⟨poolList es last⟩
def fileOf (pool : Array CpInfo) (this : Nat) (attrs : Array Attribute := #[]) (ms : Array MethodInfo := #[]) (fl : Nat := 33) (sup : Nat := 0) (ifs : Array Nat := #[]) (fds : Array FieldInfo := #[]) : ClassFile where
  minorVersion := 0
  majorVersion := 65
  constantPool := pool
  accessFlags := fl
  thisClass := this
  superClass := sup
  interfaces := ifs
  fields := fds
  methods := ms
  attributes := attrs
def plain (name : String) (sup : Option ClassId) : Class where
  name := name
  kind := .ordinary
  loader := none
  accessFlags := 33
  super := sup
  interfaces := #[]
  cf := none
  fields := #[]
  methods := #[]
  instanceTypes := #[]
  staticTypes := #[]
  resolved := #[]
  callSites := []
  init := .initialized
  statics := none
  mirror := none

def pool0 : Array CpInfo := pool [(5, u "<init>"), (0, u "()V"), (1, .class_ 10), (1, u "java/lang/Object")] 113

def k0c0 : Code := { maxStack := 0, maxLocals := 1, code := object_method_1_code, exceptionTable := #[], attributes := #[] }
def k0m0 : Method := { name := "<init>", desc := "()V", sig := { parameters := [], returnType := none }, accessFlags := 1, code := some k0c0 }
/-- java/lang/Object -/
def k0 : Class := { plain "java/lang/Object" none with
  accessFlags := 33
  interfaces := #[]
  cf := some (fileOf pool0 8 #[] #[{ accessFlags := 1, nameIndex := 5, descriptorIndex := 6, attributes := #[] }] 33 0 #[] #[])
  fields := #[]
  methods := #[k0m0]
  instanceTypes := #[]
  staticTypes := #[]
  resolved := Array.replicate 124 none
  statics := none }

def pool1 : Array CpInfo := pool [(2, .class_ 4), (1, u "java/lang/Object"), (0, u "<init>"), (0, u "()V"), (0, .integer 2147483647), (0, .class_ 9), (0, u "com/example/carillon/carillon/model/Lecture"), (0, .methodref 8 11), (0, .nameAndType 5 12), (0, u "(II)V"), (0, .methodref 14 15), (0, .class_ 16), (0, .nameAndType 17 18), (0, u "java/lang/Integer"), (0, u "valueOf"), (0, u "(I)Ljava/lang/Integer;"), (0, .methodref 8 20), (0, .nameAndType 21 22), (0, u "equals"), (0, u "(Ljava/lang/Object;)Z"), (0, .class_ 24), (0, u "com/example/carillon/carillon/model/LectureEqualsPinLaw"), (2, u "law"), (0, u "(IIIII)Z")] 3

def k1m0 : Method := { name := "<init>", desc := "()V", sig := { parameters := [], returnType := none }, accessFlags := 1, code := none }
def k1c1 : Code := { maxStack := 4, maxLocals := 9, code := code, exceptionTable := #[], attributes := #[] }
def k1m1 : Method := { name := "law", desc := "(IIIII)Z", sig := { parameters := [.int, .int, .int, .int, .int], returnType := some .boolean }, accessFlags := 9, code := some k1c1 }
/-- com/example/carillon/carillon/model/LectureEqualsPinLaw -/
def k1 : Class := { plain "com/example/carillon/carillon/model/LectureEqualsPinLaw" (some 0) with
  accessFlags := 49
  interfaces := #[]
  cf := some (fileOf pool1 23 #[] #[{ accessFlags := 1, nameIndex := 5, descriptorIndex := 6, attributes := #[] }, { accessFlags := 9, nameIndex := 27, descriptorIndex := 28, attributes := #[] }] 49 2 #[] #[])
  fields := #[]
  methods := #[k1m0, k1m1]
  instanceTypes := #[]
  staticTypes := #[]
  resolved := Array.replicate 32 none
  statics := none }

def pool2 : Array CpInfo := pool [(1, .methodref 2 3), (0, .class_ 4), (0, .nameAndType 5 6), (0, u "java/lang/Object"), (0, u "<init>"), (0, u "()V"), (0, .fieldref 8 9), (0, .class_ 10), (0, .nameAndType 11 12), (0, u "com/example/carillon/carillon/model/Lecture"), (0, u "slot"), (0, u "I"), (0, .fieldref 8 14), (0, .nameAndType 15 12), (0, u "room"), (4, u "(II)V"), (3, u "equals"), (0, u "(Ljava/lang/Object;)Z")] 21

def k2c0 : Code := { maxStack := 2, maxLocals := 3, code := prog_18_method_1_code, exceptionTable := #[], attributes := #[] }
def k2m0 : Method := { name := "<init>", desc := "(II)V", sig := { parameters := [.int, .int], returnType := none }, accessFlags := 1, code := some k2c0 }
def k2c1 : Code := { maxStack := 2, maxLocals := 3, code := prog_18_method_4_code, exceptionTable := #[], attributes := #[] }
def k2m1 : Method := { name := "equals", desc := "(Ljava/lang/Object;)Z", sig := { parameters := [(.object "java/lang/Object")], returnType := some .boolean }, accessFlags := 1, code := some k2c1 }
/-- com/example/carillon/carillon/model/Lecture -/
def k2 : Class := { plain "com/example/carillon/carillon/model/Lecture" (some 0) with
  accessFlags := 49
  interfaces := #[]
  cf := some (fileOf pool2 8 #[] #[{ accessFlags := 1, nameIndex := 5, descriptorIndex := 20, attributes := #[] }, { accessFlags := 1, nameIndex := 24, descriptorIndex := 25, attributes := #[] }] 49 2 #[] #[{ accessFlags := 18, nameIndex := 11, descriptorIndex := 12, attributes := #[] }, { accessFlags := 18, nameIndex := 15, descriptorIndex := 12, attributes := #[] }])
  fields := #[{ name := "slot", type := .int, accessFlags := 18, slot := 0, constantValue := 0 }, { name := "room", type := .int, accessFlags := 18, slot := 1, constantValue := 0 }]
  methods := #[k2m0, k2m1]
  instanceTypes := #[.int, .int]
  staticTypes := #[]
  resolved := Array.replicate 47 none
  statics := none }

def pool3 : Array CpInfo := pool [(1, .class_ 2), (0, u "java/io/Serializable"), (0, .class_ 4), (0, u "java/lang/Object")] 2

/-- java/io/Serializable -/
def k3 : Class := { plain "java/io/Serializable" (some 0) with
  accessFlags := 1537
  interfaces := #[]
  cf := some (fileOf pool3 1 #[] #[] 1537 3 #[] #[])
  fields := #[]
  methods := #[]
  instanceTypes := #[]
  staticTypes := #[]
  resolved := Array.replicate 7 none
  statics := none }

def pool4 : Array CpInfo := pool [(1, .methodref 2 3), (0, .class_ 4), (0, .nameAndType 5 6), (0, u "java/lang/Object"), (0, u "<init>"), (0, u "()V"), (1, .class_ 10), (1, u "java/lang/Number"), (2, .class_ 14), (0, u "java/io/Serializable"), (0, u "serialVersionUID"), (0, u "J")] 20

def k4c0 : Code := { maxStack := 1, maxLocals := 1, code := jdk_18_method_1_code, exceptionTable := #[], attributes := #[] }
def k4m0 : Method := { name := "<init>", desc := "()V", sig := { parameters := [], returnType := none }, accessFlags := 1, code := some k4c0 }
/-- java/lang/Number -/
def k4 : Class := { plain "java/lang/Number" (some 0) with
  accessFlags := 1057
  interfaces := #[3]
  cf := some (fileOf pool4 8 #[] #[{ accessFlags := 1, nameIndex := 5, descriptorIndex := 6, attributes := #[] }] 1057 2 #[13] #[{ accessFlags := 26, nameIndex := 15, descriptorIndex := 16, attributes := #[] }])
  fields := #[{ name := "serialVersionUID", type := .long, accessFlags := 26, slot := 0, constantValue := 0 }]
  methods := #[k4m0]
  instanceTypes := #[]
  staticTypes := #[.long]
  resolved := Array.replicate 37 none
  statics := none }

def pool5 : Array CpInfo := pool [(1, .class_ 2), (0, u "java/lang/Comparable"), (0, .class_ 4), (0, u "java/lang/Object")] 7

/-- java/lang/Comparable -/
def k5 : Class := { plain "java/lang/Comparable" (some 0) with
  accessFlags := 1537
  interfaces := #[]
  cf := some (fileOf pool5 1 #[] #[] 1537 3 #[] #[])
  fields := #[]
  methods := #[]
  instanceTypes := #[]
  staticTypes := #[]
  resolved := Array.replicate 12 none
  statics := none }

def pool6 : Array CpInfo := pool [(1, .class_ 2), (0, u "java/lang/constant/Constable"), (0, .class_ 4), (0, u "java/lang/Object")] 6

/-- java/lang/constant/Constable -/
def k6 : Class := { plain "java/lang/constant/Constable" (some 0) with
  accessFlags := 1537
  interfaces := #[]
  cf := some (fileOf pool6 1 #[] #[] 1537 3 #[] #[])
  fields := #[]
  methods := #[]
  instanceTypes := #[]
  staticTypes := #[]
  resolved := Array.replicate 11 none
  statics := none }

def pool7 : Array CpInfo := pool [(1, .class_ 2), (0, u "java/lang/constant/ConstantDesc"), (0, .class_ 4), (0, u "java/lang/Object")] 32

/-- java/lang/constant/ConstantDesc -/
def k7 : Class := { plain "java/lang/constant/ConstantDesc" (some 0) with
  accessFlags := 1537
  interfaces := #[]
  cf := some (fileOf pool7 1 #[] #[] 1537 3 #[] #[])
  fields := #[]
  methods := #[]
  instanceTypes := #[]
  staticTypes := #[]
  resolved := Array.replicate 37 none
  statics := none }

def pool8 : Array CpInfo := pool [(1, .class_ 2), (0, u "java/lang/Integer"), (16, u "digits"), (0, u "[C"), (46, u "<init>"), (17, u "DigitOnes"), (0, u "[B"), (2, u "DigitTens"), (10, .nameAndType 67 101), (0, u "()V"), (85, u "valueOf"), (0, u "(I)Ljava/lang/Integer;"), (0, .class_ 190), (0, u "java/lang/Integer$IntegerCache"), (0, .fieldref 189 192), (0, .nameAndType 193 194), (0, u "high"), (0, u "I"), (0, .fieldref 189 196), (0, .nameAndType 197 198), (0, u "cache"), (0, u "[Ljava/lang/Integer;"), (0, .methodref 1 200), (0, .nameAndType 67 201), (0, u "(I)V"), (0, .methodref 203 100), (0, .class_ 204), (0, u "java/lang/Number"), (0, .fieldref 1 206), (0, .nameAndType 207 194), (0, u "value"), (94, u "TYPE"), (0, u "Ljava/lang/Class;"), (0, .class_ 305), (0, u "java/lang/Comparable"), (0, .class_ 307), (0, u "java/lang/constant/Constable"), (0, .class_ 309), (0, u "java/lang/constant/ConstantDesc"), (0, u "MIN_VALUE"), (1, u "MAX_VALUE"), (3, u "SIZE"), (1, u "BYTES"), (1, u "serialVersionUID"), (0, u "J")] 131

def k8c0 : Code := { maxStack := 3, maxLocals := 1, code := jdk_33_method_22_code, exceptionTable := #[], attributes := #[] }
def k8m0 : Method := { name := "valueOf", desc := "(I)Ljava/lang/Integer;", sig := { parameters := [.int], returnType := some (.object "java/lang/Integer") }, accessFlags := 9, code := some k8c0 }
def k8c1 : Code := { maxStack := 2, maxLocals := 2, code := jdk_33_method_23_code, exceptionTable := #[], attributes := #[] }
def k8m1 : Method := { name := "<init>", desc := "(I)V", sig := { parameters := [.int], returnType := none }, accessFlags := 1, code := some k8c1 }
/-- java/lang/Integer -/
def k8 : Class := { plain "java/lang/Integer" (some 4) with
  accessFlags := 49
  interfaces := #[5, 6, 7]
  cf := some (fileOf pool8 1 #[.nestMembers #[189]] #[{ accessFlags := 9, nameIndex := 187, descriptorIndex := 188, attributes := #[] }, { accessFlags := 1, nameIndex := 67, descriptorIndex := 201, attributes := #[] }] 49 203 #[304, 306, 308] #[{ accessFlags := 25, nameIndex := 310, descriptorIndex := 194, attributes := #[] }, { accessFlags := 25, nameIndex := 312, descriptorIndex := 194, attributes := #[] }, { accessFlags := 25, nameIndex := 302, descriptorIndex := 303, attributes := #[] }, { accessFlags := 24, nameIndex := 19, descriptorIndex := 20, attributes := #[] }, { accessFlags := 24, nameIndex := 89, descriptorIndex := 86, attributes := #[] }, { accessFlags := 24, nameIndex := 85, descriptorIndex := 86, attributes := #[] }, { accessFlags := 18, nameIndex := 207, descriptorIndex := 194, attributes := #[] }, { accessFlags := 25, nameIndex := 316, descriptorIndex := 194, attributes := #[] }, { accessFlags := 25, nameIndex := 318, descriptorIndex := 194, attributes := #[] }, { accessFlags := 26, nameIndex := 320, descriptorIndex := 321, attributes := #[] }])
  fields := #[{ name := "MIN_VALUE", type := .int, accessFlags := 25, slot := 0, constantValue := 0 }, { name := "MAX_VALUE", type := .int, accessFlags := 25, slot := 1, constantValue := 0 }, { name := "TYPE", type := (.object "java/lang/Class"), accessFlags := 25, slot := 2, constantValue := 0 }, { name := "digits", type := (.array .char), accessFlags := 24, slot := 3, constantValue := 0 }, { name := "DigitTens", type := (.array .byte), accessFlags := 24, slot := 4, constantValue := 0 }, { name := "DigitOnes", type := (.array .byte), accessFlags := 24, slot := 5, constantValue := 0 }, { name := "value", type := .int, accessFlags := 18, slot := 0, constantValue := 0 }, { name := "SIZE", type := .int, accessFlags := 25, slot := 6, constantValue := 0 }, { name := "BYTES", type := .int, accessFlags := 25, slot := 7, constantValue := 0 }, { name := "serialVersionUID", type := .long, accessFlags := 26, slot := 8, constantValue := 0 }]
  methods := #[k8m0, k8m1]
  instanceTypes := #[.int]
  staticTypes := #[.int, .int, (.object "java/lang/Class"), (.array .char), (.array .byte), (.array .byte), .int, .int, .long]
  resolved := Array.replicate 453 none
  statics := none }

def pool9 : Array CpInfo := pool [(2, .class_ 4), (1, u "java/lang/Object"), (0, u "<init>"), (0, u "()V"), (0, .class_ 8), (0, u "java/lang/Integer"), (7, .class_ 18), (1, u "java/lang/Integer$IntegerCache"), (0, u "$assertionsDisabled"), (0, u "Z"), (26, u "high"), (0, u "I"), (8, u "archivedCache"), (0, u "[Ljava/lang/Integer;"), (12, u "cache"), (0, u "low")] 27

def k9m0 : Method := { name := "<init>", desc := "()V", sig := { parameters := [], returnType := none }, accessFlags := 2, code := none }
/-- java/lang/Integer$IntegerCache -/
def k9 : Class := { plain "java/lang/Integer$IntegerCache" (some 0) with
  accessFlags := 48
  interfaces := #[]
  cf := some (fileOf pool9 16 #[.nestHost 7] #[{ accessFlags := 2, nameIndex := 5, descriptorIndex := 6, attributes := #[] }] 48 2 #[] #[{ accessFlags := 24, nameIndex := 72, descriptorIndex := 48, attributes := #[] }, { accessFlags := 24, nameIndex := 47, descriptorIndex := 48, attributes := #[] }, { accessFlags := 24, nameIndex := 71, descriptorIndex := 58, attributes := #[] }, { accessFlags := 8, nameIndex := 57, descriptorIndex := 58, attributes := #[] }, { accessFlags := 4120, nameIndex := 19, descriptorIndex := 20, attributes := #[] }])
  fields := #[{ name := "low", type := .int, accessFlags := 24, slot := 0, constantValue := 0 }, { name := "high", type := .int, accessFlags := 24, slot := 1, constantValue := 0 }, { name := "cache", type := (.array (.object "java/lang/Integer")), accessFlags := 24, slot := 2, constantValue := 0 }, { name := "archivedCache", type := (.array (.object "java/lang/Integer")), accessFlags := 8, slot := 3, constantValue := 0 }, { name := "$assertionsDisabled", type := .boolean, accessFlags := 4120, slot := 4, constantValue := 0 }]
  methods := #[k9m0]
  instanceTypes := #[]
  staticTypes := #[.int, .int, (.array (.object "java/lang/Integer")), (.array (.object "java/lang/Integer")), .boolean]
  resolved := Array.replicate 100 none
  statics := some 0 }

def pool10 : Array CpInfo := pool [(1, u "java/lang/Cloneable"), (0, .class_ 1), (0, u "java/lang/Object"), (0, .class_ 3)] 3

/-- java/lang/Cloneable -/
def k10 : Class := { plain "java/lang/Cloneable" (some 0) with
  accessFlags := 1537
  interfaces := #[]
  cf := some (fileOf pool10 2 #[] #[] 1537 4 #[] #[])
  fields := #[]
  methods := #[]
  instanceTypes := #[]
  staticTypes := #[]
  resolved := Array.replicate 8 none
  statics := none }

/-- the primitive byte -/
def k11 : Class := { plain "byte" none with kind := .primitive 'B', accessFlags := 0x411 }
/-- [B -/
def k12 : Class := { plain "[B" (some 0) with kind := .array 11 .byte, interfaces := #[10, 3], accessFlags := 1041 }

/-- the primitive int -/
def k13 : Class := { plain "int" none with kind := .primitive 'I', accessFlags := 0x411 }
/-- [I -/
def k14 : Class := { plain "[I" (some 0) with kind := .array 13 .int, interfaces := #[10, 3], accessFlags := 1041 }

/-- [Ljava/lang/Integer; -/
def k15 : Class := { plain "[Ljava/lang/Integer;" (some 0) with kind := .array 8 (.object "java/lang/Integer"), interfaces := #[10, 3], accessFlags := 1041 }

def heap : Heap := #[{ cls := 9, slots := #[.int 0, .int 127, .ref 1, .null, .int 0], vm := .statics 9 },
  { cls := 15, slots := #[.ref 2, .ref 3, .ref 4, .ref 5, .ref 6, .ref 7, .ref 8, .ref 9, .ref 10, .ref 11, .ref 12, .ref 13, .ref 14, .ref 15, .ref 16, .ref 17, .ref 18, .ref 19, .ref 20, .ref 21, .ref 22, .ref 23, .ref 24, .ref 25, .ref 26, .ref 27, .ref 28, .ref 29, .ref 30, .ref 31, .ref 32, .ref 33, .ref 34, .ref 35, .ref 36, .ref 37, .ref 38, .ref 39, .ref 40, .ref 41, .ref 42, .ref 43, .ref 44, .ref 45, .ref 46, .ref 47, .ref 48, .ref 49, .ref 50, .ref 51, .ref 52, .ref 53, .ref 54, .ref 55, .ref 56, .ref 57, .ref 58, .ref 59, .ref 60, .ref 61, .ref 62, .ref 63, .ref 64, .ref 65, .ref 66, .ref 67, .ref 68, .ref 69, .ref 70, .ref 71, .ref 72, .ref 73, .ref 74, .ref 75, .ref 76, .ref 77, .ref 78, .ref 79, .ref 80, .ref 81, .ref 82, .ref 83, .ref 84, .ref 85, .ref 86, .ref 87, .ref 88, .ref 89, .ref 90, .ref 91, .ref 92, .ref 93, .ref 94, .ref 95, .ref 96, .ref 97, .ref 98, .ref 99, .ref 100, .ref 101, .ref 102, .ref 103, .ref 104, .ref 105, .ref 106, .ref 107, .ref 108, .ref 109, .ref 110, .ref 111, .ref 112, .ref 113, .ref 114, .ref 115, .ref 116, .ref 117, .ref 118, .ref 119, .ref 120, .ref 121, .ref 122, .ref 123, .ref 124, .ref 125, .ref 126, .ref 127, .ref 128, .ref 129, .ref 130, .ref 131, .ref 132, .ref 133, .ref 134, .ref 135, .ref 136, .ref 137, .ref 138, .ref 139, .ref 140, .ref 141, .ref 142, .ref 143, .ref 144, .ref 145, .ref 146, .ref 147, .ref 148, .ref 149, .ref 150, .ref 151, .ref 152, .ref 153, .ref 154, .ref 155, .ref 156, .ref 157, .ref 158, .ref 159, .ref 160, .ref 161, .ref 162, .ref 163, .ref 164, .ref 165, .ref 166, .ref 167, .ref 168, .ref 169, .ref 170, .ref 171, .ref 172, .ref 173, .ref 174, .ref 175, .ref 176, .ref 177, .ref 178, .ref 179, .ref 180, .ref 181, .ref 182, .ref 183, .ref 184, .ref 185, .ref 186, .ref 187, .ref 188, .ref 189, .ref 190, .ref 191, .ref 192, .ref 193, .ref 194, .ref 195, .ref 196, .ref 197, .ref 198, .ref 199, .ref 200, .ref 201, .ref 202, .ref 203, .ref 204, .ref 205, .ref 206, .ref 207, .ref 208, .ref 209, .ref 210, .ref 211, .ref 212, .ref 213, .ref 214, .ref 215, .ref 216, .ref 217, .ref 218, .ref 219, .ref 220, .ref 221, .ref 222, .ref 223, .ref 224, .ref 225, .ref 226, .ref 227, .ref 228, .ref 229, .ref 230, .ref 231, .ref 232, .ref 233, .ref 234, .ref 235, .ref 236, .ref 237, .ref 238, .ref 239, .ref 240, .ref 241, .ref 242, .ref 243, .ref 244, .ref 245, .ref 246, .ref 247, .ref 248, .ref 249, .ref 250, .ref 251, .ref 252, .ref 253, .ref 254, .ref 255, .ref 256, .ref 257], vm := .none },
  { cls := 8, slots := #[.int (-128)], vm := .none },
  { cls := 8, slots := #[.int (-127)], vm := .none },
  { cls := 8, slots := #[.int (-126)], vm := .none },
  { cls := 8, slots := #[.int (-125)], vm := .none },
  { cls := 8, slots := #[.int (-124)], vm := .none },
  { cls := 8, slots := #[.int (-123)], vm := .none },
  { cls := 8, slots := #[.int (-122)], vm := .none },
  { cls := 8, slots := #[.int (-121)], vm := .none },
  { cls := 8, slots := #[.int (-120)], vm := .none },
  { cls := 8, slots := #[.int (-119)], vm := .none },
  { cls := 8, slots := #[.int (-118)], vm := .none },
  { cls := 8, slots := #[.int (-117)], vm := .none },
  { cls := 8, slots := #[.int (-116)], vm := .none },
  { cls := 8, slots := #[.int (-115)], vm := .none },
  { cls := 8, slots := #[.int (-114)], vm := .none },
  { cls := 8, slots := #[.int (-113)], vm := .none },
  { cls := 8, slots := #[.int (-112)], vm := .none },
  { cls := 8, slots := #[.int (-111)], vm := .none },
  { cls := 8, slots := #[.int (-110)], vm := .none },
  { cls := 8, slots := #[.int (-109)], vm := .none },
  { cls := 8, slots := #[.int (-108)], vm := .none },
  { cls := 8, slots := #[.int (-107)], vm := .none },
  { cls := 8, slots := #[.int (-106)], vm := .none },
  { cls := 8, slots := #[.int (-105)], vm := .none },
  { cls := 8, slots := #[.int (-104)], vm := .none },
  { cls := 8, slots := #[.int (-103)], vm := .none },
  { cls := 8, slots := #[.int (-102)], vm := .none },
  { cls := 8, slots := #[.int (-101)], vm := .none },
  { cls := 8, slots := #[.int (-100)], vm := .none },
  { cls := 8, slots := #[.int (-99)], vm := .none },
  { cls := 8, slots := #[.int (-98)], vm := .none },
  { cls := 8, slots := #[.int (-97)], vm := .none },
  { cls := 8, slots := #[.int (-96)], vm := .none },
  { cls := 8, slots := #[.int (-95)], vm := .none },
  { cls := 8, slots := #[.int (-94)], vm := .none },
  { cls := 8, slots := #[.int (-93)], vm := .none },
  { cls := 8, slots := #[.int (-92)], vm := .none },
  { cls := 8, slots := #[.int (-91)], vm := .none },
  { cls := 8, slots := #[.int (-90)], vm := .none },
  { cls := 8, slots := #[.int (-89)], vm := .none },
  { cls := 8, slots := #[.int (-88)], vm := .none },
  { cls := 8, slots := #[.int (-87)], vm := .none },
  { cls := 8, slots := #[.int (-86)], vm := .none },
  { cls := 8, slots := #[.int (-85)], vm := .none },
  { cls := 8, slots := #[.int (-84)], vm := .none },
  { cls := 8, slots := #[.int (-83)], vm := .none },
  { cls := 8, slots := #[.int (-82)], vm := .none },
  { cls := 8, slots := #[.int (-81)], vm := .none },
  { cls := 8, slots := #[.int (-80)], vm := .none },
  { cls := 8, slots := #[.int (-79)], vm := .none },
  { cls := 8, slots := #[.int (-78)], vm := .none },
  { cls := 8, slots := #[.int (-77)], vm := .none },
  { cls := 8, slots := #[.int (-76)], vm := .none },
  { cls := 8, slots := #[.int (-75)], vm := .none },
  { cls := 8, slots := #[.int (-74)], vm := .none },
  { cls := 8, slots := #[.int (-73)], vm := .none },
  { cls := 8, slots := #[.int (-72)], vm := .none },
  { cls := 8, slots := #[.int (-71)], vm := .none },
  { cls := 8, slots := #[.int (-70)], vm := .none },
  { cls := 8, slots := #[.int (-69)], vm := .none },
  { cls := 8, slots := #[.int (-68)], vm := .none },
  { cls := 8, slots := #[.int (-67)], vm := .none },
  { cls := 8, slots := #[.int (-66)], vm := .none },
  { cls := 8, slots := #[.int (-65)], vm := .none },
  { cls := 8, slots := #[.int (-64)], vm := .none },
  { cls := 8, slots := #[.int (-63)], vm := .none },
  { cls := 8, slots := #[.int (-62)], vm := .none },
  { cls := 8, slots := #[.int (-61)], vm := .none },
  { cls := 8, slots := #[.int (-60)], vm := .none },
  { cls := 8, slots := #[.int (-59)], vm := .none },
  { cls := 8, slots := #[.int (-58)], vm := .none },
  { cls := 8, slots := #[.int (-57)], vm := .none },
  { cls := 8, slots := #[.int (-56)], vm := .none },
  { cls := 8, slots := #[.int (-55)], vm := .none },
  { cls := 8, slots := #[.int (-54)], vm := .none },
  { cls := 8, slots := #[.int (-53)], vm := .none },
  { cls := 8, slots := #[.int (-52)], vm := .none },
  { cls := 8, slots := #[.int (-51)], vm := .none },
  { cls := 8, slots := #[.int (-50)], vm := .none },
  { cls := 8, slots := #[.int (-49)], vm := .none },
  { cls := 8, slots := #[.int (-48)], vm := .none },
  { cls := 8, slots := #[.int (-47)], vm := .none },
  { cls := 8, slots := #[.int (-46)], vm := .none },
  { cls := 8, slots := #[.int (-45)], vm := .none },
  { cls := 8, slots := #[.int (-44)], vm := .none },
  { cls := 8, slots := #[.int (-43)], vm := .none },
  { cls := 8, slots := #[.int (-42)], vm := .none },
  { cls := 8, slots := #[.int (-41)], vm := .none },
  { cls := 8, slots := #[.int (-40)], vm := .none },
  { cls := 8, slots := #[.int (-39)], vm := .none },
  { cls := 8, slots := #[.int (-38)], vm := .none },
  { cls := 8, slots := #[.int (-37)], vm := .none },
  { cls := 8, slots := #[.int (-36)], vm := .none },
  { cls := 8, slots := #[.int (-35)], vm := .none },
  { cls := 8, slots := #[.int (-34)], vm := .none },
  { cls := 8, slots := #[.int (-33)], vm := .none },
  { cls := 8, slots := #[.int (-32)], vm := .none },
  { cls := 8, slots := #[.int (-31)], vm := .none },
  { cls := 8, slots := #[.int (-30)], vm := .none },
  { cls := 8, slots := #[.int (-29)], vm := .none },
  { cls := 8, slots := #[.int (-28)], vm := .none },
  { cls := 8, slots := #[.int (-27)], vm := .none },
  { cls := 8, slots := #[.int (-26)], vm := .none },
  { cls := 8, slots := #[.int (-25)], vm := .none },
  { cls := 8, slots := #[.int (-24)], vm := .none },
  { cls := 8, slots := #[.int (-23)], vm := .none },
  { cls := 8, slots := #[.int (-22)], vm := .none },
  { cls := 8, slots := #[.int (-21)], vm := .none },
  { cls := 8, slots := #[.int (-20)], vm := .none },
  { cls := 8, slots := #[.int (-19)], vm := .none },
  { cls := 8, slots := #[.int (-18)], vm := .none },
  { cls := 8, slots := #[.int (-17)], vm := .none },
  { cls := 8, slots := #[.int (-16)], vm := .none },
  { cls := 8, slots := #[.int (-15)], vm := .none },
  { cls := 8, slots := #[.int (-14)], vm := .none },
  { cls := 8, slots := #[.int (-13)], vm := .none },
  { cls := 8, slots := #[.int (-12)], vm := .none },
  { cls := 8, slots := #[.int (-11)], vm := .none },
  { cls := 8, slots := #[.int (-10)], vm := .none },
  { cls := 8, slots := #[.int (-9)], vm := .none },
  { cls := 8, slots := #[.int (-8)], vm := .none },
  { cls := 8, slots := #[.int (-7)], vm := .none },
  { cls := 8, slots := #[.int (-6)], vm := .none },
  { cls := 8, slots := #[.int (-5)], vm := .none },
  { cls := 8, slots := #[.int (-4)], vm := .none },
  { cls := 8, slots := #[.int (-3)], vm := .none },
  { cls := 8, slots := #[.int (-2)], vm := .none },
  { cls := 8, slots := #[.int (-1)], vm := .none },
  { cls := 8, slots := #[.int 0], vm := .none },
  { cls := 8, slots := #[.int 1], vm := .none },
  { cls := 8, slots := #[.int 2], vm := .none },
  { cls := 8, slots := #[.int 3], vm := .none },
  { cls := 8, slots := #[.int 4], vm := .none },
  { cls := 8, slots := #[.int 5], vm := .none },
  { cls := 8, slots := #[.int 6], vm := .none },
  { cls := 8, slots := #[.int 7], vm := .none },
  { cls := 8, slots := #[.int 8], vm := .none },
  { cls := 8, slots := #[.int 9], vm := .none },
  { cls := 8, slots := #[.int 10], vm := .none },
  { cls := 8, slots := #[.int 11], vm := .none },
  { cls := 8, slots := #[.int 12], vm := .none },
  { cls := 8, slots := #[.int 13], vm := .none },
  { cls := 8, slots := #[.int 14], vm := .none },
  { cls := 8, slots := #[.int 15], vm := .none },
  { cls := 8, slots := #[.int 16], vm := .none },
  { cls := 8, slots := #[.int 17], vm := .none },
  { cls := 8, slots := #[.int 18], vm := .none },
  { cls := 8, slots := #[.int 19], vm := .none },
  { cls := 8, slots := #[.int 20], vm := .none },
  { cls := 8, slots := #[.int 21], vm := .none },
  { cls := 8, slots := #[.int 22], vm := .none },
  { cls := 8, slots := #[.int 23], vm := .none },
  { cls := 8, slots := #[.int 24], vm := .none },
  { cls := 8, slots := #[.int 25], vm := .none },
  { cls := 8, slots := #[.int 26], vm := .none },
  { cls := 8, slots := #[.int 27], vm := .none },
  { cls := 8, slots := #[.int 28], vm := .none },
  { cls := 8, slots := #[.int 29], vm := .none },
  { cls := 8, slots := #[.int 30], vm := .none },
  { cls := 8, slots := #[.int 31], vm := .none },
  { cls := 8, slots := #[.int 32], vm := .none },
  { cls := 8, slots := #[.int 33], vm := .none },
  { cls := 8, slots := #[.int 34], vm := .none },
  { cls := 8, slots := #[.int 35], vm := .none },
  { cls := 8, slots := #[.int 36], vm := .none },
  { cls := 8, slots := #[.int 37], vm := .none },
  { cls := 8, slots := #[.int 38], vm := .none },
  { cls := 8, slots := #[.int 39], vm := .none },
  { cls := 8, slots := #[.int 40], vm := .none },
  { cls := 8, slots := #[.int 41], vm := .none },
  { cls := 8, slots := #[.int 42], vm := .none },
  { cls := 8, slots := #[.int 43], vm := .none },
  { cls := 8, slots := #[.int 44], vm := .none },
  { cls := 8, slots := #[.int 45], vm := .none },
  { cls := 8, slots := #[.int 46], vm := .none },
  { cls := 8, slots := #[.int 47], vm := .none },
  { cls := 8, slots := #[.int 48], vm := .none },
  { cls := 8, slots := #[.int 49], vm := .none },
  { cls := 8, slots := #[.int 50], vm := .none },
  { cls := 8, slots := #[.int 51], vm := .none },
  { cls := 8, slots := #[.int 52], vm := .none },
  { cls := 8, slots := #[.int 53], vm := .none },
  { cls := 8, slots := #[.int 54], vm := .none },
  { cls := 8, slots := #[.int 55], vm := .none },
  { cls := 8, slots := #[.int 56], vm := .none },
  { cls := 8, slots := #[.int 57], vm := .none },
  { cls := 8, slots := #[.int 58], vm := .none },
  { cls := 8, slots := #[.int 59], vm := .none },
  { cls := 8, slots := #[.int 60], vm := .none },
  { cls := 8, slots := #[.int 61], vm := .none },
  { cls := 8, slots := #[.int 62], vm := .none },
  { cls := 8, slots := #[.int 63], vm := .none },
  { cls := 8, slots := #[.int 64], vm := .none },
  { cls := 8, slots := #[.int 65], vm := .none },
  { cls := 8, slots := #[.int 66], vm := .none },
  { cls := 8, slots := #[.int 67], vm := .none },
  { cls := 8, slots := #[.int 68], vm := .none },
  { cls := 8, slots := #[.int 69], vm := .none },
  { cls := 8, slots := #[.int 70], vm := .none },
  { cls := 8, slots := #[.int 71], vm := .none },
  { cls := 8, slots := #[.int 72], vm := .none },
  { cls := 8, slots := #[.int 73], vm := .none },
  { cls := 8, slots := #[.int 74], vm := .none },
  { cls := 8, slots := #[.int 75], vm := .none },
  { cls := 8, slots := #[.int 76], vm := .none },
  { cls := 8, slots := #[.int 77], vm := .none },
  { cls := 8, slots := #[.int 78], vm := .none },
  { cls := 8, slots := #[.int 79], vm := .none },
  { cls := 8, slots := #[.int 80], vm := .none },
  { cls := 8, slots := #[.int 81], vm := .none },
  { cls := 8, slots := #[.int 82], vm := .none },
  { cls := 8, slots := #[.int 83], vm := .none },
  { cls := 8, slots := #[.int 84], vm := .none },
  { cls := 8, slots := #[.int 85], vm := .none },
  { cls := 8, slots := #[.int 86], vm := .none },
  { cls := 8, slots := #[.int 87], vm := .none },
  { cls := 8, slots := #[.int 88], vm := .none },
  { cls := 8, slots := #[.int 89], vm := .none },
  { cls := 8, slots := #[.int 90], vm := .none },
  { cls := 8, slots := #[.int 91], vm := .none },
  { cls := 8, slots := #[.int 92], vm := .none },
  { cls := 8, slots := #[.int 93], vm := .none },
  { cls := 8, slots := #[.int 94], vm := .none },
  { cls := 8, slots := #[.int 95], vm := .none },
  { cls := 8, slots := #[.int 96], vm := .none },
  { cls := 8, slots := #[.int 97], vm := .none },
  { cls := 8, slots := #[.int 98], vm := .none },
  { cls := 8, slots := #[.int 99], vm := .none },
  { cls := 8, slots := #[.int 100], vm := .none },
  { cls := 8, slots := #[.int 101], vm := .none },
  { cls := 8, slots := #[.int 102], vm := .none },
  { cls := 8, slots := #[.int 103], vm := .none },
  { cls := 8, slots := #[.int 104], vm := .none },
  { cls := 8, slots := #[.int 105], vm := .none },
  { cls := 8, slots := #[.int 106], vm := .none },
  { cls := 8, slots := #[.int 107], vm := .none },
  { cls := 8, slots := #[.int 108], vm := .none },
  { cls := 8, slots := #[.int 109], vm := .none },
  { cls := 8, slots := #[.int 110], vm := .none },
  { cls := 8, slots := #[.int 111], vm := .none },
  { cls := 8, slots := #[.int 112], vm := .none },
  { cls := 8, slots := #[.int 113], vm := .none },
  { cls := 8, slots := #[.int 114], vm := .none },
  { cls := 8, slots := #[.int 115], vm := .none },
  { cls := 8, slots := #[.int 116], vm := .none },
  { cls := 8, slots := #[.int 117], vm := .none },
  { cls := 8, slots := #[.int 118], vm := .none },
  { cls := 8, slots := #[.int 119], vm := .none },
  { cls := 8, slots := #[.int 120], vm := .none },
  { cls := 8, slots := #[.int 121], vm := .none },
  { cls := 8, slots := #[.int 122], vm := .none },
  { cls := 8, slots := #[.int 123], vm := .none },
  { cls := 8, slots := #[.int 124], vm := .none },
  { cls := 8, slots := #[.int 125], vm := .none },
  { cls := 8, slots := #[.int 126], vm := .none },
  { cls := 8, slots := #[.int 127], vm := .none }]
def classes : Array Class := #[k0, k1, k2, k3, k4, k5, k6, k7, k8, k9, k10, k11, k12, k13, k14, k15]
def interned : List (Array UInt16 × Addr) := []
def slotsUsed : Nat := 517
def theMethod : MethodId := ⟨1, 1⟩
def args0 : Array Value := #[.int 5, .int 3, .int 7, .int 9, .int 1]
def aboutOver (below : List Frame) : State where
  vm := { classes := classes, interned := interned.toArray }
  heap := heap
  slotsUsed := slotsUsed
  threads := #[{ frames := .invoking theMethod args0 :: below }]
def below0 : List Frame := [.native { method := ⟨0, 0⟩, args := #[] }]
def about1 : State := aboutOver below0
def p0 : Program := .bare "" "" ""
def e0 : Env := launch0.env 0 0 0
theorem w_frames : about1.frames = Frame.invoking theMethod args0 :: below0 := rfl
set_option maxRecDepth 65536 in
theorem w_args : argsFit about1.vm theMethod args0 = true := by decide +kernel
set_option maxRecDepth 65536 in
theorem w_heap : heapFits about1 = true := by decide +kernel
set_option maxRecDepth 65536 in
theorem w_runnable : about1.curStatus? = some .runnable := by decide +kernel
set_option maxRecDepth 65536 in
theorem w_alone : about1.alone = true := by decide +kernel
set_option maxRecDepth 65536 in
theorem w_named : about1.methodNamed? x = some theMethod := by decide +kernel
set_option maxRecDepth 65536 in
theorem w_hears : about1.hears theMethod below0 = true := by decide +kernel
set_option maxRecDepth 65536 in
theorem w_ripe : about1.ripe theMethod args0 below0 = true := by decide +kernel
theorem w_running : about1.status = .running := rfl
set_option maxRecDepth 65536 in
theorem w_room : about1.hasRoom e0.platform room_1 = true :=
  launch0.hasRoom_least _ room_1 (by decide +kernel) (by decide +kernel) (by decide +kernel) (by decide +kernel) (by decide +kernel) (by decide +kernel)
theorem allAtoms_all (ts : List Jvm.Cond) (a : Array Jvm.Value) (st : Jvm.State) : (allAtoms ts).before a st = ts.all (fun c => c.before a st) := by
  induction ts with
  | nil => rfl
  | cons c t ih =>
    show (Jvm.Cond.and c (allAtoms t)).before a st = _
    rw [Jvm.Cond.before_and, ih, List.all_cons]
def words1 : List Jvm.Cond := Jvm.Cond.code x code maxLocals ret :: tables_1
/-- a 'code' word, met by the world's own term for the bytes: nothing is compared byte by byte -/
theorem code_word {y : MethodName} {bytes : ByteArray} {mx : Nat} {rt : Option FieldType} {a : Array Value} {s : State} {m : MethodId} {meth : Method} {c : Code} (h1 : s.methodNamed? y = some m) (h2 : s.vm.method? m = some meth) (h3 : meth.code = some c) (h4 : c.code = bytes)
    (h5 : (c.maxLocals == mx && c.exceptionTable.isEmpty && decide (c.maxStack ≤ mostOperands) && decide (meth.sig.returnType = rt) && !meth.locks && decide (parseMethodDescriptor y.desc = some meth.sig)) = true) : (Jvm.Cond.code y bytes mx rt).before a s = true := by
  simp only [Bool.and_eq_true, beq_iff_eq, Bool.not_eq_true', decide_eq_true_eq] at h5
  obtain ⟨⟨⟨⟨⟨g1, g2⟩, g3⟩, g4⟩, g5⟩, g6⟩ := h5
  simp [Cond.before, Cond.holds, Cond.value, h1, h2, h3, h4, g1, g2, g3, g4, g5, g6]
def isCode : Jvm.Cond → Bool
  | .code _ _ _ _ => true
  | _ => false
theorem all_split {L : List Jvm.Cond} {P : Jvm.Cond → Bool} (h1 : L.all (fun c => isCode c || P c) = true) (h2 : ∀ c ∈ L.filter isCode, P c = true) : L.all P = true := by
  refine List.all_eq_true.mpr fun c hc => ?_
  have h := List.all_eq_true.mp h1 c hc
  rcases Bool.eq_false_or_eq_true (isCode c) with hi | hi
  · exact h2 c (List.mem_filter.mpr ⟨hc, hi⟩)
  · simpa [hi] using h
set_option maxRecDepth 65536 in
theorem w_c0 : (Jvm.Cond.code x code maxLocals ret).before args0 about1 = true := code_word (m := ⟨1, 1⟩) (meth := k1m1) (c := k1c1) (by decide +kernel) rfl rfl rfl (by decide +kernel)
set_option maxRecDepth 65536 in
theorem w_c1 : (Jvm.Cond.code ({ cls := "com/example/carillon/carillon/model/Lecture", name := "<init>", desc := "(II)V" } : Jvm.MethodName) prog_18_method_1_code (3 : Nat) (Option.none : Option Jvm.ClassFile.FieldType)).before args0 about1 = true := code_word (m := ⟨2, 0⟩) (meth := k2m0) (c := k2c0) (by decide +kernel) rfl rfl rfl (by decide +kernel)
set_option maxRecDepth 65536 in
theorem w_c2 : (Jvm.Cond.code ({ cls := "java/lang/Object", name := "<init>", desc := "()V" } : Jvm.MethodName) object_method_1_code (1 : Nat) (Option.none : Option Jvm.ClassFile.FieldType)).before args0 about1 = true := code_word (m := ⟨0, 0⟩) (meth := k0m0) (c := k0c0) (by decide +kernel) rfl rfl rfl (by decide +kernel)
set_option maxRecDepth 65536 in
theorem w_c3 : (Jvm.Cond.code ({ cls := "com/example/carillon/carillon/model/Lecture", name := "equals", desc := "(Ljava/lang/Object;)Z" } : Jvm.MethodName) prog_18_method_4_code (3 : Nat) (Option.some Jvm.ClassFile.FieldType.boolean)).before args0 about1 = true := code_word (m := ⟨2, 1⟩) (meth := k2m1) (c := k2c1) (by decide +kernel) rfl rfl rfl (by decide +kernel)
set_option maxRecDepth 65536 in
theorem w_c4 : (Jvm.Cond.code ({ cls := "java/lang/Integer", name := "valueOf", desc := "(I)Ljava/lang/Integer;" } : Jvm.MethodName) jdk_33_method_22_code (1 : Nat) (Option.some (Jvm.ClassFile.FieldType.object "java/lang/Integer"))).before args0 about1 = true := code_word (m := ⟨8, 0⟩) (meth := k8m0) (c := k8c0) (by decide +kernel) rfl rfl rfl (by decide +kernel)
set_option maxRecDepth 65536 in
theorem w_c5 : (Jvm.Cond.code ({ cls := "java/lang/Integer", name := "<init>", desc := "(I)V" } : Jvm.MethodName) jdk_33_method_23_code (2 : Nat) (Option.none : Option Jvm.ClassFile.FieldType)).before args0 about1 = true := code_word (m := ⟨8, 1⟩) (meth := k8m1) (c := k8c1) (by decide +kernel) rfl rfl rfl (by decide +kernel)
set_option maxRecDepth 65536 in
theorem w_c6 : (Jvm.Cond.code ({ cls := "java/lang/Number", name := "<init>", desc := "()V" } : Jvm.MethodName) jdk_18_method_1_code (1 : Nat) (Option.none : Option Jvm.ClassFile.FieldType)).before args0 about1 = true := code_word (m := ⟨4, 0⟩) (meth := k4m0) (c := k4c0) (by decide +kernel) rfl rfl rfl (by decide +kernel)
def codes1 : List Jvm.Cond := [Jvm.Cond.code x code maxLocals ret, Jvm.Cond.code ({ cls := "com/example/carillon/carillon/model/Lecture", name := "<init>", desc := "(II)V" } : Jvm.MethodName) prog_18_method_1_code (3 : Nat) (Option.none : Option Jvm.ClassFile.FieldType), Jvm.Cond.code ({ cls := "java/lang/Object", name := "<init>", desc := "()V" } : Jvm.MethodName) object_method_1_code (1 : Nat) (Option.none : Option Jvm.ClassFile.FieldType), Jvm.Cond.code ({ cls := "com/example/carillon/carillon/model/Lecture", name := "equals", desc := "(Ljava/lang/Object;)Z" } : Jvm.MethodName) prog_18_method_4_code (3 : Nat) (Option.some Jvm.ClassFile.FieldType.boolean), Jvm.Cond.code ({ cls := "java/lang/Integer", name := "valueOf", desc := "(I)Ljava/lang/Integer;" } : Jvm.MethodName) jdk_33_method_22_code (1 : Nat) (Option.some (Jvm.ClassFile.FieldType.object "java/lang/Integer")), Jvm.Cond.code ({ cls := "java/lang/Integer", name := "<init>", desc := "(I)V" } : Jvm.MethodName) jdk_33_method_23_code (2 : Nat) (Option.none : Option Jvm.ClassFile.FieldType), Jvm.Cond.code ({ cls := "java/lang/Number", name := "<init>", desc := "()V" } : Jvm.MethodName) jdk_18_method_1_code (1 : Nat) (Option.none : Option Jvm.ClassFile.FieldType)]
set_option maxRecDepth 65536 in
theorem codes_eq : words1.filter isCode = codes1 := rfl
theorem w_codes : ∀ c ∈ words1.filter isCode, c.before args0 about1 = true := by
  rw [codes_eq]
  intro c hc
  simp only [codes1, List.mem_cons, List.not_mem_nil, or_false] at hc
  rcases hc with rfl | rfl | rfl | rfl | rfl | rfl | rfl
  · exact w_c0
  · exact w_c1
  · exact w_c2
  · exact w_c3
  · exact w_c4
  · exact w_c5
  · exact w_c6
set_option maxRecDepth 65536 in
theorem w_t1 : (words1.take 24).all (fun c => isCode c || c.before args0 about1) = true := by decide +kernel
set_option maxRecDepth 65536 in
theorem w_t2 : (words1.drop 24).all (fun c => isCode c || c.before args0 about1) = true := by decide +kernel
theorem w_tables : (allAtoms (Jvm.Cond.code x code maxLocals ret :: tables_1)).before args0 about1 = true := by
  rw [allAtoms_all]
  show words1.all (fun c => c.before args0 about1) = true
  refine all_split ?_ w_codes
  rw [← List.take_append_drop 24 words1, List.all_append, w_t1, w_t2]
  rfl
set_option maxRecDepth 65536 in
theorem w_rest : rest_1_c.before args0 about1 = true := by decide +kernel
set_option maxRecDepth 65536 in
theorem w_case : (Jvm.Cond.and given_1 narrow_1).before args0 about1 = true := by decide +kernel
theorem w_applies : (headSpec (Jvm.Cond.code x code maxLocals ret :: tables_1) room_1).applies x e0.platform about1 = true :=
  (Spec.applies_iff w_frames).mpr ⟨w_running, w_runnable, w_alone, w_named, w_hears, w_ripe, w_room, w_tables⟩
theorem atStart : AtStart classFile x code maxLocals ret World_1 tables_1 room_1 Calls_1 rest_1 Pre_1 launch0 p0 e0 about1 theMethod args0 below0 :=
  ⟨lists_1, trivial, launch0.admits_env _ _ _, launch0.least_env, fairChoices_fair.cas, fairChoices_fair.clock, w_frames, w_args, w_heap, w_applies, trivial, w_rest, w_case⟩
end start1
theorem witness_1 : WitnessClaimed_1 := ⟨start1.p0, start1.e0, start1.about1, start1.theMethod, start1.args0, start1.below0, start1.atStart⟩
end Jvm.Pilot.@@N@@
