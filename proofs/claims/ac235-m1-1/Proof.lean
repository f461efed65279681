import JvmDerived
import JvmDerived.Pilot.@@N@@Statement
import JvmDerived.Pilot.@@N@@Code
set_option linter.unusedVariables false
set_option linter.unusedSimpArgs false
namespace Jvm.Pilot.@@N@@
open Jvm Jvm.ClassFile Sem Op Lib Jvm.Free Jvm.Stand Jvm.LawKit Jvm.RoadKit Bundle Jvm.Pilot.@@N@@.Jvm.D
section Own
variable {p : Program} {l : Launch} {e : Env} {R : Room} {s : State} {m : MethodId} {args : Array Value} {below : List Frame} {meth : Method} {c : Code} {Z : State} {a0 : Array Value} {y : MethodName} {bytes : ByteArray} {maxL : Nat} {ret : Option FieldType} {Q : Option Value → Heap → Prop} {P : Option Value → State → Prop} {n0 : Nat} {h : Heap} {k n : Nat} {f f' : JFrame} {pc pc' pt : Nat} {Ls : Array Slot} {S : List Value}
/-- what a walk knows of its own method -/
def Cx (p : Program) (s : State) (m : MethodId) (meth : Method) (c : Code) (Z : State) (y : MethodName) (bytes : ByteArray) (maxL : Nat) (ret : Option FieldType) : Prop :=
  p.tables.exec = Jvm.exec ∧ Z.Warmed39 s.vm ∧ c.code = bytes ∧ c.maxLocals = maxL ∧ s.vm.findClass y.cls = some m.cls ∧ meth.name = y.name ∧ meth.sig.returnType = ret ∧ meth.locks = false
/-- the run from U returns, and what it leaves is as P says -/
def Go (p : Program) (e : Env) (below : List Frame) (P : Option Value → State → Prop) (U : State) : Prop :=
  ∃ s₂ v, Steps p.tables e below U s₂ ∧ s₂.status = .running ∧ Ended s₂ below (.returned v) ∧ P v s₂
/-- as Q says, within the room, seen from the state s -/
def Wst (s : State) (R : Room) (n0 : Nat) (Q : Option Value → Heap → Prop) : Option Value → State → Prop := fun v s₂ => Q v s₂.heap ∧ ∃ L, Fr n0 L ∧ FrameEnd s (.returned v) s₂ L R.cells R.slots
/-- from wherever the walk stands with the heap h, k cells and n slots made, the frame f on top: it ends as P says -/
def G (p : Program) (l : Launch) (e : Env) (R : Room) (s : State) (m : MethodId) (args : Array Value) (below : List Frame) (meth : Method) (c : Code) (n0 : Nat) (P : Option Value → State → Prop) (h : Heap) (k n : Nat) (f : JFrame) : Prop :=
  ∀ T locs, Stand p l e R s m args below meth c T locs k n → T.heap = h → Fr n0 locs → Go p e below P (T.setTop f)
/-- a method's contract at the heap h with the arguments av -/
def Con (l : Launch) (Z : State) (y : MethodName) (bytes : ByteArray) (maxL : Nat) (ret : Option FieldType) (R : Room) (av : Array Value) (h : Heap) (n0 : Nat) (Q : Option Value → Heap → Prop) : Prop :=
  ∀ ws : List Jvm.Cond, MetFree l y (head1 (Jvm.Cond.code y bytes maxL ret :: ws) R) (fun a U => a = av ∧ Z.Warmed39 U.vm ∧ U.heap = h) (fun _ _ _ _ _ => True) (fun _ U o U' => ∃ v L, o = .returned v ∧ (Q v U'.heap ∧ Fr n0 L) ∧ FrameEnd U o U' L R.cells R.slots)
theorem Con.of {av : Array Value} (hy : plainFor y = true) (ef : ∀ m, entryFrame m av maxL = mkF m 0 Ls [])
    (body : ∀ p e s m below meth c, Cx p s m meth c Z y bytes maxL ret → G p l e R s m av below meth c n0 (Wst s R n0 Q) h 0 0 (mkF m 0 Ls [])) : Con l Z y bytes maxL ret R av h n0 Q := by
  intro ws
  refine MetFree.of_bodySF hy hisR ?_
  intro p e s m args below meth c s₁ Bd hml0 hP hK
  obtain ⟨rfl, hZ, hh⟩ := hP
  have X0 : Stand p l e R s m _ below meth c s₁ [] 0 0 := Stand.of_body Bd
  have e0 : s₁.heap = h := by rw [← hh, Bd.state]; rfl
  obtain ⟨s₂, v, h1, h2, h3, h4, L, h5, h6⟩ := body p e s m below meth c ⟨Bd.exec, hZ, Bd.bytes, hml0, findClass_of_methodNamed Bd.named, (name_of_methodNamed Bd.named Bd.method).1, Bd.returns, Bd.notSynchronized⟩ s₁ [] X0 e0 (Fr.nil n0)
  exact ⟨s₂, _, castTop (ef m) h1, h2, h3, v, L, rfl, ⟨h4, h5⟩, h6⟩
theorem Con.imp {av : Array Value} {Q' : Option Value → Heap → Prop} (K : Con l Z y bytes maxL ret R av h n0 Q) (hq : ∀ v h', Q v h' → Q' v h') : Con l Z y bytes maxL ret R av h n0 Q' := by
  intro ws p e ha hc hk s m args below hf happ hP hK
  obtain ⟨n, o, h1, h2, h3, v, L, h4, h5, h6⟩ := K ws p e ha hc hk s m args below hf happ hP hK
  exact ⟨n, o, h1, h2, h3, v, L, h4, ⟨hq _ _ h5.1, h5.2⟩, h6⟩
theorem G.pl (st : ∀ T locs, Stand p l e R s m args below meth c T locs k n → T.heap = h → ∀ t, Steps p.tables e below (T.setTop f') t → Steps p.tables e below (T.setTop f) t) (nx : G p l e R s m args below meth c n0 P h k n f') : G p l e R s m args below meth c n0 P h k n f := fun T locs X eT N => by
  obtain ⟨s₂, o, h1, r⟩ := nx T locs X eT N
  exact ⟨s₂, o, st T locs X eT _ h1, r⟩
/-- a step that hands back another state, the heap as it was -/
theorem G.mv (st : ∀ T locs, Stand p l e R s m args below meth c T locs k n → T.heap = h → ∃ T', Stand p l e R s m args below meth c T' locs k n ∧ T'.heap = h ∧ ∀ t, Steps p.tables e below (T'.setTop f') t → Steps p.tables e below (T.setTop f) t) (nx : G p l e R s m args below meth c n0 P h k n f') : G p l e R s m args below meth c n0 P h k n f := fun T locs X eT N => by
  obtain ⟨T', X', e', q⟩ := st T locs X eT
  obtain ⟨s₂, o, h1, r⟩ := nx T' locs X' e' N
  exact ⟨s₂, o, q _ h1, r⟩
theorem G.mono {k' n' : Nat} (hk : k ≤ k') (hn : n ≤ n') (nx : G p l e R s m args below meth c n0 P h k' n' f) : G p l e R s m args below meth c n0 P h k n f := fun T locs X eT N =>
  nx T locs ⟨X.admits, X.cas, X.clock, X.frames, X.room, X.hears, X.method, X.code, X.here, X.tail, X.warmed, X.limits, X.bytes, X.same.mono hk hn⟩ eT N
theorem G.imp {P' : Option Value → State → Prop} (nx : G p l e R s m args below meth c n0 P h k n f) (hp : ∀ v s₂, P v s₂ → P' v s₂) : G p l e R s m args below meth c n0 P' h k n f := fun T locs X eT N => by
  obtain ⟨s₂, v, h1, h2, h3, h4⟩ := nx T locs X eT N
  exact ⟨s₂, v, h1, h2, h3, hp _ _ h4⟩
theorem twd {d : Jvm.Cond} {L : List Jvm.Cond} (hw : ∀ d ∈ L, d.before a0 Z = true) (i : Nat) (h : L[i]? = some d) : d.before a0 Z = true := hw _ (List.mem_of_getElem? h)
theorem G.iloadN (C : Cx p s m meth c Z y bytes maxL ret) {j : Fin 4} {v : Int32} (hd : decode bytes pc = .ok (.iload_n j, 1)) (hl : Ls[j.val]? = some (.val (.int v))) (hp : pc + 1 = pc') (nx : G p l e R s m args below meth c n0 P h k n (mkF m pc' Ls (.int v :: S))) : G p l e R s m args below meth c n0 P h k n (mkF m pc Ls S) := by
  subst hp; exact G.pl (fun T locs X eT t q => XS.iloadN X.here C.1 rfl (hb C.2.2.1 hd) hl q) nx
theorem G.iload (C : Cx p s m meth c Z y bytes maxL ret) {j : Nat} {v : Int32} (hd : decode bytes pc = .ok (.iload j, 2)) (hl : Ls[j]? = some (.val (.int v))) (hp : pc + 2 = pc') (nx : G p l e R s m args below meth c n0 P h k n (mkF m pc' Ls (.int v :: S))) : G p l e R s m args below meth c n0 P h k n (mkF m pc Ls S) := by
  subst hp; exact G.pl (fun T locs X eT t q => XS.iload X.here C.1 rfl (hb C.2.2.1 hd) hl q) nx
theorem G.lloadN (C : Cx p s m meth c Z y bytes maxL ret) {j : Fin 4} {v : Int64} (hd : decode bytes pc = .ok (.lload_n j, 1)) (hl : Ls[j.val]? = some (.val (.long v))) (hp : pc + 1 = pc') (nx : G p l e R s m args below meth c n0 P h k n (mkF m pc' Ls (.long v :: S))) : G p l e R s m args below meth c n0 P h k n (mkF m pc Ls S) := by
  subst hp; exact G.pl (fun T locs X eT t q => XS.lloadN X.here C.1 rfl (hb C.2.2.1 hd) hl q) nx
theorem G.lload (C : Cx p s m meth c Z y bytes maxL ret) {j : Nat} {v : Int64} (hd : decode bytes pc = .ok (.lload j, 2)) (hl : Ls[j]? = some (.val (.long v))) (hp : pc + 2 = pc') (nx : G p l e R s m args below meth c n0 P h k n (mkF m pc' Ls (.long v :: S))) : G p l e R s m args below meth c n0 P h k n (mkF m pc Ls S) := by
  subst hp; exact G.pl (fun T locs X eT t q => XS.lload X.here C.1 rfl (hb C.2.2.1 hd) hl q) nx
theorem G.aloadN (C : Cx p s m meth c Z y bytes maxL ret) {j : Fin 4} {v : Value} (hd : decode bytes pc = .ok (.aload_n j, 1)) (hl : Ls[j.val]? = some (.val v)) (hv : v.isRef = true) (hp : pc + 1 = pc') (nx : G p l e R s m args below meth c n0 P h k n (mkF m pc' Ls (v :: S))) : G p l e R s m args below meth c n0 P h k n (mkF m pc Ls S) := by
  subst hp; exact G.pl (fun T locs X eT t q => XS.aloadN X.here C.1 rfl (hb C.2.2.1 hd) hl hv q) nx
theorem G.aload (C : Cx p s m meth c Z y bytes maxL ret) {j : Nat} {v : Value} (hd : decode bytes pc = .ok (.aload j, 2)) (hl : Ls[j]? = some (.val v)) (hv : v.isRef = true) (hp : pc + 2 = pc') (nx : G p l e R s m args below meth c n0 P h k n (mkF m pc' Ls (v :: S))) : G p l e R s m args below meth c n0 P h k n (mkF m pc Ls S) := by
  subst hp; exact G.pl (fun T locs X eT t q => XS.aload X.here C.1 rfl (hb C.2.2.1 hd) hl hv q) nx
theorem G.istoreN (C : Cx p s m meth c Z y bytes maxL ret) {j : Fin 4} {v : Int32} {Ls' : Array Slot} (hd : decode bytes pc = .ok (.istore_n j, 1)) (hl : storeLocals Ls j.val (.int v) = some Ls') (hp : pc + 1 = pc') (nx : G p l e R s m args below meth c n0 P h k n (mkF m pc' Ls' S)) : G p l e R s m args below meth c n0 P h k n (mkF m pc Ls (.int v :: S)) := by
  subst hp; exact G.pl (fun T locs X eT t q => XS.istoreN X.here C.1 rfl (hb C.2.2.1 hd) rfl hl q) nx
theorem G.istore (C : Cx p s m meth c Z y bytes maxL ret) {j : Nat} {v : Int32} {Ls' : Array Slot} (hd : decode bytes pc = .ok (.istore j, 2)) (hl : storeLocals Ls j (.int v) = some Ls') (hp : pc + 2 = pc') (nx : G p l e R s m args below meth c n0 P h k n (mkF m pc' Ls' S)) : G p l e R s m args below meth c n0 P h k n (mkF m pc Ls (.int v :: S)) := by
  subst hp; exact G.pl (fun T locs X eT t q => XS.istore X.here C.1 rfl (hb C.2.2.1 hd) rfl hl q) nx
theorem G.lstoreN (C : Cx p s m meth c Z y bytes maxL ret) {j : Fin 4} {v : Int64} {Ls' : Array Slot} (hd : decode bytes pc = .ok (.lstore_n j, 1)) (hl : storeLocals Ls j.val (.long v) = some Ls') (hp : pc + 1 = pc') (nx : G p l e R s m args below meth c n0 P h k n (mkF m pc' Ls' S)) : G p l e R s m args below meth c n0 P h k n (mkF m pc Ls (.long v :: S)) := by
  subst hp; exact G.pl (fun T locs X eT t q => XS.lstoreN X.here C.1 rfl (hb C.2.2.1 hd) rfl hl q) nx
theorem G.lstore (C : Cx p s m meth c Z y bytes maxL ret) {j : Nat} {v : Int64} {Ls' : Array Slot} (hd : decode bytes pc = .ok (.lstore j, 2)) (hl : storeLocals Ls j (.long v) = some Ls') (hp : pc + 2 = pc') (nx : G p l e R s m args below meth c n0 P h k n (mkF m pc' Ls' S)) : G p l e R s m args below meth c n0 P h k n (mkF m pc Ls (.long v :: S)) := by
  subst hp; exact G.pl (fun T locs X eT t q => XS.lstore X.here C.1 rfl (hb C.2.2.1 hd) rfl hl q) nx
theorem G.astoreN (C : Cx p s m meth c Z y bytes maxL ret) {j : Fin 4} {v : Value} {Ls' : Array Slot} (hd : decode bytes pc = .ok (.astore_n j, 1)) (hv : v.isRef = true) (hl : storeLocals Ls j.val v = some Ls') (hp : pc + 1 = pc') (nx : G p l e R s m args below meth c n0 P h k n (mkF m pc' Ls' S)) : G p l e R s m args below meth c n0 P h k n (mkF m pc Ls (v :: S)) := by
  subst hp; exact G.pl (fun T locs X eT t q => XS.astoreN X.here C.1 rfl (hb C.2.2.1 hd) rfl hv hl q) nx
theorem G.astore (C : Cx p s m meth c Z y bytes maxL ret) {j : Nat} {v : Value} {Ls' : Array Slot} (hd : decode bytes pc = .ok (.astore j, 2)) (hv : v.isRef = true) (hl : storeLocals Ls j v = some Ls') (hp : pc + 2 = pc') (nx : G p l e R s m args below meth c n0 P h k n (mkF m pc' Ls' S)) : G p l e R s m args below meth c n0 P h k n (mkF m pc Ls (v :: S)) := by
  subst hp; exact G.pl (fun T locs X eT t q => XS.astore X.here C.1 rfl (hb C.2.2.1 hd) rfl hv hl q) nx
theorem G.iconst (C : Cx p s m meth c Z y bytes maxL ret) {i : Int} {v : Int32} (hd : decode bytes pc = .ok (.iconst i, 1)) (hv : Int32.ofInt i = v) (hp : pc + 1 = pc') (nx : G p l e R s m args below meth c n0 P h k n (mkF m pc' Ls (.int v :: S))) : G p l e R s m args below meth c n0 P h k n (mkF m pc Ls S) := by
  subst hp hv; exact G.pl (fun T locs X eT t q => XS.iconst X.here C.1 rfl (hb C.2.2.1 hd) q) nx
theorem G.bipush (C : Cx p s m meth c Z y bytes maxL ret) {i : Int} {v : Int32} (hd : decode bytes pc = .ok (.bipush i, 2)) (hv : (Int8.ofInt i).toInt32 = v) (hp : pc + 2 = pc') (nx : G p l e R s m args below meth c n0 P h k n (mkF m pc' Ls (.int v :: S))) : G p l e R s m args below meth c n0 P h k n (mkF m pc Ls S) := by
  subst hp hv; exact G.pl (fun T locs X eT t q => XS.bipush X.here C.1 rfl (hb C.2.2.1 hd) q) nx
theorem G.sipush (C : Cx p s m meth c Z y bytes maxL ret) {i : Int} {v : Int32} (hd : decode bytes pc = .ok (.sipush i, 3)) (hv : (Int16.ofInt i).toInt32 = v) (hp : pc + 3 = pc') (nx : G p l e R s m args below meth c n0 P h k n (mkF m pc' Ls (.int v :: S))) : G p l e R s m args below meth c n0 P h k n (mkF m pc Ls S) := by
  subst hp hv; exact G.pl (fun T locs X eT t q => XS.sipush X.here C.1 rfl (hb C.2.2.1 hd) q) nx
theorem G.lconst (C : Cx p s m meth c Z y bytes maxL ret) {j : Fin 2} {v : Int64} (hd : decode bytes pc = .ok (.lconst j, 1)) (hv : Int64.ofNat j = v) (hp : pc + 1 = pc') (nx : G p l e R s m args below meth c n0 P h k n (mkF m pc' Ls (.long v :: S))) : G p l e R s m args below meth c n0 P h k n (mkF m pc Ls S) := by
  subst hp hv; exact G.pl (fun T locs X eT t q => XS.lconst X.here C.1 rfl (hb C.2.2.1 hd) q) nx
theorem G.aconst_null (C : Cx p s m meth c Z y bytes maxL ret) (hd : decode bytes pc = .ok (.aconst_null, 1)) (hp : pc + 1 = pc') (nx : G p l e R s m args below meth c n0 P h k n (mkF m pc' Ls (.null :: S))) : G p l e R s m args below meth c n0 P h k n (mkF m pc Ls S) := by
  subst hp; exact G.pl (fun T locs X eT t q => XS.aconstNull X.here C.1 rfl (hb C.2.2.1 hd) q) nx
theorem G.ldcI (C : Cx p s m meth c Z y bytes maxL ret) {ix : Nat} {v : Int32} (w : (Jvm.Cond.constant y.cls ix v).before a0 Z = true) (hd : decode bytes pc = .ok (.ldc ix, 2)) (hp : pc + 2 = pc') (nx : G p l e R s m args below meth c n0 P h k n (mkF m pc' Ls (.int v :: S))) : G p l e R s m args below meth c n0 P h k n (mkF m pc Ls S) := by
  subst hp; exact G.pl (fun T locs X eT t q => X.ldcInt C.1 C.2.2.2.2.1 (mvT C.2.1 w) (g := mkF m pc Ls S) rfl (hb C.2.2.1 hd) t q) nx
theorem G.ldcW (C : Cx p s m meth c Z y bytes maxL ret) {ix : Nat} {v : Int32} (w : (Jvm.Cond.constant y.cls ix v).before a0 Z = true) (hd : decode bytes pc = .ok (.ldc_w ix, 3)) (hp : pc + 3 = pc') (nx : G p l e R s m args below meth c n0 P h k n (mkF m pc' Ls (.int v :: S))) : G p l e R s m args below meth c n0 P h k n (mkF m pc Ls S) := by
  subst hp; exact G.pl (fun T locs X eT t q => X.ldcwInt C.1 C.2.2.2.2.1 (mvT C.2.1 w) (g := mkF m pc Ls S) rfl (hb C.2.2.1 hd) t q) nx
theorem G.ldcJ (C : Cx p s m meth c Z y bytes maxL ret) {ix : Nat} {v : Int64} (w : (Jvm.Cond.constantLong y.cls ix v).before a0 Z = true) (hd : decode bytes pc = .ok (.ldc2_w ix, 3)) (hp : pc + 3 = pc') (nx : G p l e R s m args below meth c n0 P h k n (mkF m pc' Ls (.long v :: S))) : G p l e R s m args below meth c n0 P h k n (mkF m pc Ls S) := by
  subst hp; exact G.pl (fun T locs X eT t q => X.ldc2Long C.1 C.2.2.2.2.1 (mvT C.2.1 w) (g := mkF m pc Ls S) rfl (hb C.2.2.1 hd) t q) nx
theorem G.iadd (C : Cx p s m meth c Z y bytes maxL ret) {x z : Int32} (hd : decode bytes pc = .ok (.iadd, 1))  (hp : pc + 1 = pc') (nx : G p l e R s m args below meth c n0 P h k n (mkF m pc' Ls (.int (x + z) :: S))) : G p l e R s m args below meth c n0 P h k n (mkF m pc Ls (.int z :: .int x :: S)) := by
  subst hp; exact G.pl (fun T locs X eT t q => XS.iadd X.here C.1 rfl (hb C.2.2.1 hd) rfl q) nx
theorem G.ladd (C : Cx p s m meth c Z y bytes maxL ret) {x z : Int64} (hd : decode bytes pc = .ok (.ladd, 1))  (hp : pc + 1 = pc') (nx : G p l e R s m args below meth c n0 P h k n (mkF m pc' Ls (.long (x + z) :: S))) : G p l e R s m args below meth c n0 P h k n (mkF m pc Ls (.long z :: .long x :: S)) := by
  subst hp; exact G.pl (fun T locs X eT t q => XS.ladd X.here C.1 rfl (hb C.2.2.1 hd) rfl q) nx
theorem G.isub (C : Cx p s m meth c Z y bytes maxL ret) {x z : Int32} (hd : decode bytes pc = .ok (.isub, 1))  (hp : pc + 1 = pc') (nx : G p l e R s m args below meth c n0 P h k n (mkF m pc' Ls (.int (x - z) :: S))) : G p l e R s m args below meth c n0 P h k n (mkF m pc Ls (.int z :: .int x :: S)) := by
  subst hp; exact G.pl (fun T locs X eT t q => XS.isub X.here C.1 rfl (hb C.2.2.1 hd) rfl q) nx
theorem G.lsub (C : Cx p s m meth c Z y bytes maxL ret) {x z : Int64} (hd : decode bytes pc = .ok (.lsub, 1))  (hp : pc + 1 = pc') (nx : G p l e R s m args below meth c n0 P h k n (mkF m pc' Ls (.long (x - z) :: S))) : G p l e R s m args below meth c n0 P h k n (mkF m pc Ls (.long z :: .long x :: S)) := by
  subst hp; exact G.pl (fun T locs X eT t q => XS.lsub X.here C.1 rfl (hb C.2.2.1 hd) rfl q) nx
theorem G.imul (C : Cx p s m meth c Z y bytes maxL ret) {x z : Int32} (hd : decode bytes pc = .ok (.imul, 1))  (hp : pc + 1 = pc') (nx : G p l e R s m args below meth c n0 P h k n (mkF m pc' Ls (.int (x * z) :: S))) : G p l e R s m args below meth c n0 P h k n (mkF m pc Ls (.int z :: .int x :: S)) := by
  subst hp; exact G.pl (fun T locs X eT t q => XS.imul X.here C.1 rfl (hb C.2.2.1 hd) rfl q) nx
theorem G.lmul (C : Cx p s m meth c Z y bytes maxL ret) {x z : Int64} (hd : decode bytes pc = .ok (.lmul, 1))  (hp : pc + 1 = pc') (nx : G p l e R s m args below meth c n0 P h k n (mkF m pc' Ls (.long (x * z) :: S))) : G p l e R s m args below meth c n0 P h k n (mkF m pc Ls (.long z :: .long x :: S)) := by
  subst hp; exact G.pl (fun T locs X eT t q => XS.lmul X.here C.1 rfl (hb C.2.2.1 hd) rfl q) nx
theorem G.iand (C : Cx p s m meth c Z y bytes maxL ret) {x z : Int32} (hd : decode bytes pc = .ok (.iand, 1))  (hp : pc + 1 = pc') (nx : G p l e R s m args below meth c n0 P h k n (mkF m pc' Ls (.int (x &&& z) :: S))) : G p l e R s m args below meth c n0 P h k n (mkF m pc Ls (.int z :: .int x :: S)) := by
  subst hp; exact G.pl (fun T locs X eT t q => XS.iand X.here C.1 rfl (hb C.2.2.1 hd) rfl q) nx
theorem G.land (C : Cx p s m meth c Z y bytes maxL ret) {x z : Int64} (hd : decode bytes pc = .ok (.land, 1))  (hp : pc + 1 = pc') (nx : G p l e R s m args below meth c n0 P h k n (mkF m pc' Ls (.long (x &&& z) :: S))) : G p l e R s m args below meth c n0 P h k n (mkF m pc Ls (.long z :: .long x :: S)) := by
  subst hp; exact G.pl (fun T locs X eT t q => XS.land X.here C.1 rfl (hb C.2.2.1 hd) rfl q) nx
theorem G.ior (C : Cx p s m meth c Z y bytes maxL ret) {x z : Int32} (hd : decode bytes pc = .ok (.ior, 1))  (hp : pc + 1 = pc') (nx : G p l e R s m args below meth c n0 P h k n (mkF m pc' Ls (.int (x ||| z) :: S))) : G p l e R s m args below meth c n0 P h k n (mkF m pc Ls (.int z :: .int x :: S)) := by
  subst hp; exact G.pl (fun T locs X eT t q => XS.ior X.here C.1 rfl (hb C.2.2.1 hd) rfl q) nx
theorem G.lor (C : Cx p s m meth c Z y bytes maxL ret) {x z : Int64} (hd : decode bytes pc = .ok (.lor, 1))  (hp : pc + 1 = pc') (nx : G p l e R s m args below meth c n0 P h k n (mkF m pc' Ls (.long (x ||| z) :: S))) : G p l e R s m args below meth c n0 P h k n (mkF m pc Ls (.long z :: .long x :: S)) := by
  subst hp; exact G.pl (fun T locs X eT t q => XS.lor X.here C.1 rfl (hb C.2.2.1 hd) rfl q) nx
theorem G.ixor (C : Cx p s m meth c Z y bytes maxL ret) {x z : Int32} (hd : decode bytes pc = .ok (.ixor, 1))  (hp : pc + 1 = pc') (nx : G p l e R s m args below meth c n0 P h k n (mkF m pc' Ls (.int (x ^^^ z) :: S))) : G p l e R s m args below meth c n0 P h k n (mkF m pc Ls (.int z :: .int x :: S)) := by
  subst hp; exact G.pl (fun T locs X eT t q => XS.ixor X.here C.1 rfl (hb C.2.2.1 hd) rfl q) nx
theorem G.lxor (C : Cx p s m meth c Z y bytes maxL ret) {x z : Int64} (hd : decode bytes pc = .ok (.lxor, 1))  (hp : pc + 1 = pc') (nx : G p l e R s m args below meth c n0 P h k n (mkF m pc' Ls (.long (x ^^^ z) :: S))) : G p l e R s m args below meth c n0 P h k n (mkF m pc Ls (.long z :: .long x :: S)) := by
  subst hp; exact G.pl (fun T locs X eT t q => XS.lxor X.here C.1 rfl (hb C.2.2.1 hd) rfl q) nx
theorem G.idiv (C : Cx p s m meth c Z y bytes maxL ret) {x z : Int32} (hd : decode bytes pc = .ok (.idiv, 1)) (hz : z ≠ 0) (hp : pc + 1 = pc') (nx : G p l e R s m args below meth c n0 P h k n (mkF m pc' Ls (.int (x / z) :: S))) : G p l e R s m args below meth c n0 P h k n (mkF m pc Ls (.int z :: .int x :: S)) := by
  subst hp; exact G.pl (fun T locs X eT t q => XS.idiv X.here C.1 rfl (hb C.2.2.1 hd) rfl hz q) nx
theorem G.irem (C : Cx p s m meth c Z y bytes maxL ret) {x z : Int32} (hd : decode bytes pc = .ok (.irem, 1)) (hz : z ≠ 0) (hp : pc + 1 = pc') (nx : G p l e R s m args below meth c n0 P h k n (mkF m pc' Ls (.int (x % z) :: S))) : G p l e R s m args below meth c n0 P h k n (mkF m pc Ls (.int z :: .int x :: S)) := by
  subst hp; exact G.pl (fun T locs X eT t q => iremM X C.1 rfl (hb C.2.2.1 hd) rfl hz q) nx
theorem G.ldiv (C : Cx p s m meth c Z y bytes maxL ret) {x z : Int64} (hd : decode bytes pc = .ok (.ldiv, 1)) (hz : z ≠ 0) (hp : pc + 1 = pc') (nx : G p l e R s m args below meth c n0 P h k n (mkF m pc' Ls (.long (x / z) :: S))) : G p l e R s m args below meth c n0 P h k n (mkF m pc Ls (.long z :: .long x :: S)) := by
  subst hp; exact G.pl (fun T locs X eT t q => XS.ldiv X.here C.1 rfl (hb C.2.2.1 hd) rfl hz q) nx
theorem G.lrem (C : Cx p s m meth c Z y bytes maxL ret) {x z : Int64} (hd : decode bytes pc = .ok (.lrem, 1)) (hz : z ≠ 0) (hp : pc + 1 = pc') (nx : G p l e R s m args below meth c n0 P h k n (mkF m pc' Ls (.long (x % z) :: S))) : G p l e R s m args below meth c n0 P h k n (mkF m pc Ls (.long z :: .long x :: S)) := by
  subst hp; exact G.pl (fun T locs X eT t q => XS.lrem X.here C.1 rfl (hb C.2.2.1 hd) rfl hz (by rw [lrem_mod]; exact q)) nx
theorem G.ineg (C : Cx p s m meth c Z y bytes maxL ret) {x : Int32} (hd : decode bytes pc = .ok (.ineg, 1))  (hp : pc + 1 = pc') (nx : G p l e R s m args below meth c n0 P h k n (mkF m pc' Ls (.int (-x) :: S))) : G p l e R s m args below meth c n0 P h k n (mkF m pc Ls (.int x :: S)) := by
  subst hp; exact G.pl (fun T locs X eT t q => XS.ineg X.here C.1 rfl (hb C.2.2.1 hd) rfl q) nx
theorem G.lneg (C : Cx p s m meth c Z y bytes maxL ret) {x : Int64} (hd : decode bytes pc = .ok (.lneg, 1))  (hp : pc + 1 = pc') (nx : G p l e R s m args below meth c n0 P h k n (mkF m pc' Ls (.long (-x) :: S))) : G p l e R s m args below meth c n0 P h k n (mkF m pc Ls (.long x :: S)) := by
  subst hp; exact G.pl (fun T locs X eT t q => XS.lneg X.here C.1 rfl (hb C.2.2.1 hd) rfl q) nx
theorem G.i2l (C : Cx p s m meth c Z y bytes maxL ret) {x : Int32} (hd : decode bytes pc = .ok (.i2l, 1))  (hp : pc + 1 = pc') (nx : G p l e R s m args below meth c n0 P h k n (mkF m pc' Ls (.long (x.toInt64) :: S))) : G p l e R s m args below meth c n0 P h k n (mkF m pc Ls (.int x :: S)) := by
  subst hp; exact G.pl (fun T locs X eT t q => XS.i2l X.here C.1 rfl (hb C.2.2.1 hd) rfl q) nx
theorem G.l2i (C : Cx p s m meth c Z y bytes maxL ret) {x : Int64} (hd : decode bytes pc = .ok (.l2i, 1))  (hp : pc + 1 = pc') (nx : G p l e R s m args below meth c n0 P h k n (mkF m pc' Ls (.int (x.toInt32) :: S))) : G p l e R s m args below meth c n0 P h k n (mkF m pc Ls (.long x :: S)) := by
  subst hp; exact G.pl (fun T locs X eT t q => XS.l2i X.here C.1 rfl (hb C.2.2.1 hd) rfl q) nx
theorem G.i2b (C : Cx p s m meth c Z y bytes maxL ret) {x : Int32} (hd : decode bytes pc = .ok (.i2b, 1))  (hp : pc + 1 = pc') (nx : G p l e R s m args below meth c n0 P h k n (mkF m pc' Ls (.int (x.toInt8.toInt32) :: S))) : G p l e R s m args below meth c n0 P h k n (mkF m pc Ls (.int x :: S)) := by
  subst hp; exact G.pl (fun T locs X eT t q => XS.i2b X.here C.1 rfl (hb C.2.2.1 hd) rfl q) nx
theorem G.i2c (C : Cx p s m meth c Z y bytes maxL ret) {x : Int32} (hd : decode bytes pc = .ok (.i2c, 1))  (hp : pc + 1 = pc') (nx : G p l e R s m args below meth c n0 P h k n (mkF m pc' Ls (.int (x.toUInt32.toUInt16.toUInt32.toInt32) :: S))) : G p l e R s m args below meth c n0 P h k n (mkF m pc Ls (.int x :: S)) := by
  subst hp; exact G.pl (fun T locs X eT t q => XS.i2c X.here C.1 rfl (hb C.2.2.1 hd) rfl q) nx
theorem G.i2s (C : Cx p s m meth c Z y bytes maxL ret) {x : Int32} (hd : decode bytes pc = .ok (.i2s, 1))  (hp : pc + 1 = pc') (nx : G p l e R s m args below meth c n0 P h k n (mkF m pc' Ls (.int (x.toInt16.toInt32) :: S))) : G p l e R s m args below meth c n0 P h k n (mkF m pc Ls (.int x :: S)) := by
  subst hp; exact G.pl (fun T locs X eT t q => XS.i2s X.here C.1 rfl (hb C.2.2.1 hd) rfl q) nx
theorem G.ishl (C : Cx p s m meth c Z y bytes maxL ret) {x z : Int32} (hd : decode bytes pc = .ok (.ishl, 1))  (hp : pc + 1 = pc') (nx : G p l e R s m args below meth c n0 P h k n (mkF m pc' Ls (.int (x <<< (z &&& 31)) :: S))) : G p l e R s m args below meth c n0 P h k n (mkF m pc Ls (.int z :: .int x :: S)) := by
  subst hp; exact G.pl (fun T locs X eT t q => XS.ishl X.here C.1 rfl (hb C.2.2.1 hd) rfl q) nx
theorem G.ishr (C : Cx p s m meth c Z y bytes maxL ret) {x z : Int32} (hd : decode bytes pc = .ok (.ishr, 1))  (hp : pc + 1 = pc') (nx : G p l e R s m args below meth c n0 P h k n (mkF m pc' Ls (.int (x >>> (z &&& 31)) :: S))) : G p l e R s m args below meth c n0 P h k n (mkF m pc Ls (.int z :: .int x :: S)) := by
  subst hp; exact G.pl (fun T locs X eT t q => XS.ishr X.here C.1 rfl (hb C.2.2.1 hd) rfl q) nx
theorem G.iushr (C : Cx p s m meth c Z y bytes maxL ret) {x z : Int32} (hd : decode bytes pc = .ok (.iushr, 1))  (hp : pc + 1 = pc') (nx : G p l e R s m args below meth c n0 P h k n (mkF m pc' Ls (.int ((x.toUInt32 >>> (z &&& 31).toUInt32).toInt32) :: S))) : G p l e R s m args below meth c n0 P h k n (mkF m pc Ls (.int z :: .int x :: S)) := by
  subst hp; exact G.pl (fun T locs X eT t q => XS.iushr X.here C.1 rfl (hb C.2.2.1 hd) rfl q) nx
theorem G.lshl (C : Cx p s m meth c Z y bytes maxL ret) {x : Int64} {z : Int32} (hd : decode bytes pc = .ok (.lshl, 1))  (hp : pc + 1 = pc') (nx : G p l e R s m args below meth c n0 P h k n (mkF m pc' Ls (.long (x <<< (z &&& 0x3f).toInt64) :: S))) : G p l e R s m args below meth c n0 P h k n (mkF m pc Ls (.int z :: .long x :: S)) := by
  subst hp; exact G.pl (fun T locs X eT t q => XS.lshl X.here C.1 rfl (hb C.2.2.1 hd) rfl q) nx
theorem G.lshr (C : Cx p s m meth c Z y bytes maxL ret) {x : Int64} {z : Int32} (hd : decode bytes pc = .ok (.lshr, 1))  (hp : pc + 1 = pc') (nx : G p l e R s m args below meth c n0 P h k n (mkF m pc' Ls (.long (x >>> (z &&& 0x3f).toInt64) :: S))) : G p l e R s m args below meth c n0 P h k n (mkF m pc Ls (.int z :: .long x :: S)) := by
  subst hp; exact G.pl (fun T locs X eT t q => XS.lshr X.here C.1 rfl (hb C.2.2.1 hd) rfl q) nx
theorem G.lushr (C : Cx p s m meth c Z y bytes maxL ret) {x : Int64} {z : Int32} (hd : decode bytes pc = .ok (.lushr, 1))  (hp : pc + 1 = pc') (nx : G p l e R s m args below meth c n0 P h k n (mkF m pc' Ls (.long ((x.toUInt64 >>> (z &&& 0x3f).toInt64.toUInt64).toInt64) :: S))) : G p l e R s m args below meth c n0 P h k n (mkF m pc Ls (.int z :: .long x :: S)) := by
  subst hp; exact G.pl (fun T locs X eT t q => XS.lushr X.here C.1 rfl (hb C.2.2.1 hd) rfl q) nx
theorem G.lcmp (C : Cx p s m meth c Z y bytes maxL ret) {x z : Int64} (hd : decode bytes pc = .ok (.lcmp, 1))  (hp : pc + 1 = pc') (nx : G p l e R s m args below meth c n0 P h k n (mkF m pc' Ls (.int (lcmpW x z) :: S))) : G p l e R s m args below meth c n0 P h k n (mkF m pc Ls (.long z :: .long x :: S)) := by
  subst hp; exact G.pl (fun T locs X eT t q => XS.lcmp X.here C.1 rfl (hb C.2.2.1 hd) rfl q) nx
theorem G.dup (C : Cx p s m meth c Z y bytes maxL ret) {v : Value} (hd : decode bytes pc = .ok (.dup, 1)) (hv : v.category = 1) (hp : pc + 1 = pc') (nx : G p l e R s m args below meth c n0 P h k n (mkF m pc' Ls (v :: v :: S))) : G p l e R s m args below meth c n0 P h k n (mkF m pc Ls (v :: S)) := by
  subst hp; exact G.pl (fun T locs X eT t q => XS.dup X.here C.1 rfl (hb C.2.2.1 hd) rfl hv q) nx
theorem G.pop (C : Cx p s m meth c Z y bytes maxL ret) {v : Value} (hd : decode bytes pc = .ok (.pop, 1)) (hv : v.category = 1) (hp : pc + 1 = pc') (nx : G p l e R s m args below meth c n0 P h k n (mkF m pc' Ls S)) : G p l e R s m args below meth c n0 P h k n (mkF m pc Ls (v :: S)) := by
  subst hp; exact G.pl (fun T locs X eT t q => XS.pop X.here C.1 rfl (hb C.2.2.1 hd) rfl hv q) nx
theorem G.dupX1 (C : Cx p s m meth c Z y bytes maxL ret) {v u : Value} (hd : decode bytes pc = .ok (.dup_x1, 1)) (hv : v.category = 1) (hu : u.category = 1) (hp : pc + 1 = pc') (nx : G p l e R s m args below meth c n0 P h k n (mkF m pc' Ls (v :: u :: v :: S))) : G p l e R s m args below meth c n0 P h k n (mkF m pc Ls (v :: u :: S)) := by
  subst hp; exact G.pl (fun T locs X eT t q => XS.dupX1 X.here C.1 rfl (hb C.2.2.1 hd) rfl hv hu q) nx
theorem G.iinc (C : Cx p s m meth c Z y bytes maxL ret) {j : Nat} {i : Int} {v z : Int32} {Ls' : Array Slot} (hd : decode bytes pc = .ok (.iinc j i, 3)) (hl : Ls[j]? = some (.val (.int v))) (hz : Int32.ofInt i = z) (hl' : storeLocals Ls j (.int (v + z)) = some Ls') (hp : pc + 3 = pc') (nx : G p l e R s m args below meth c n0 P h k n (mkF m pc' Ls' S)) : G p l e R s m args below meth c n0 P h k n (mkF m pc Ls S) := by
  subst hp hz; exact G.pl (fun T locs X eT t q => XS.iinc X.here C.1 rfl (hb C.2.2.1 hd) hl hl' q) nx
theorem G.goto (C : Cx p s m meth c Z y bytes maxL ret) {o : Int} (hd : decode bytes pc = .ok (.goto o, 3)) (ho : 0 ≤ (pc : Int) + o) (hp : ((pc : Int) + o).toNat = pc') (nx : G p l e R s m args below meth c n0 P h k n (mkF m pc' Ls S)) : G p l e R s m args below meth c n0 P h k n (mkF m pc Ls S) :=
  G.pl (fun T locs X eT t q => XS.goto X.here C.1 rfl (pc0 := pc) (pc' := pc') rfl (hb C.2.2.1 hd) ho hp q) nx
theorem G.ifc (C : Cx p s m meth c Z y bytes maxL ret) {cd : ClassFile.Cond} {o : Int} {x : Int32} (hd : decode bytes pc = .ok (.ifCond cd o, 3)) (ho : 0 ≤ (pc : Int) + o) (ht : ((pc : Int) + o).toNat = pt) (hp : pc + 3 = pc') (yes : if_icmp.holds cd x 0 = true → G p l e R s m args below meth c n0 P h k n (mkF m pt Ls S)) (no : if_icmp.holds cd x 0 = false → G p l e R s m args below meth c n0 P h k n (mkF m pc' Ls S)) : G p l e R s m args below meth c n0 P h k n (mkF m pc Ls (.int x :: S)) := by
  subst hp
  cases hc : if_icmp.holds cd x 0 with
  | true => exact G.pl (fun T locs X eT t q => XS.ifYes X.here C.1 rfl (pc0 := pc) (pc' := pt) rfl (hb C.2.2.1 hd) rfl ((if0 _ _).trans hc) ho ht q) (yes hc)
  | false => exact G.pl (fun T locs X eT t q => XS.ifNo X.here C.1 rfl (hb C.2.2.1 hd) rfl ((if0 _ _).trans hc) q) (no hc)
theorem G.icmp (C : Cx p s m meth c Z y bytes maxL ret) {cd : ClassFile.Cond} {o : Int} {x z : Int32} (hd : decode bytes pc = .ok (.if_icmp cd o, 3)) (ho : 0 ≤ (pc : Int) + o) (ht : ((pc : Int) + o).toNat = pt) (hp : pc + 3 = pc') (yes : if_icmp.holds cd x z = true → G p l e R s m args below meth c n0 P h k n (mkF m pt Ls S)) (no : if_icmp.holds cd x z = false → G p l e R s m args below meth c n0 P h k n (mkF m pc' Ls S)) : G p l e R s m args below meth c n0 P h k n (mkF m pc Ls (.int z :: .int x :: S)) := by
  subst hp
  cases hc : if_icmp.holds cd x z with
  | true => exact G.pl (fun T locs X eT t q => XS.icmpYes X.here C.1 rfl (pc0 := pc) (pc' := pt) rfl (hb C.2.2.1 hd) rfl hc ho ht q) (yes hc)
  | false => exact G.pl (fun T locs X eT t q => XS.icmpNo X.here C.1 rfl (hb C.2.2.1 hd) rfl hc q) (no hc)
theorem G.ifeq (C : Cx p s m meth c Z y bytes maxL ret) {o : Int} {x : Int32} (hd : decode bytes pc = .ok (.ifCond .eq o, 3)) (ho : 0 ≤ (pc : Int) + o) (ht : ((pc : Int) + o).toNat = pt) (hp : pc + 3 = pc') (yes : x = 0 → G p l e R s m args below meth c n0 P h k n (mkF m pt Ls S)) (no : ¬ (x = 0) → G p l e R s m args below meth c n0 P h k n (mkF m pc' Ls S)) : G p l e R s m args below meth c n0 P h k n (mkF m pc Ls (.int x :: S)) :=
  G.ifc C hd ho ht hp (fun q => yes (by simpa [if_icmp.holds] using q)) (fun q => no (by simpa [if_icmp.holds] using q))
theorem G.iceq (C : Cx p s m meth c Z y bytes maxL ret) {o : Int} {x z : Int32} (hd : decode bytes pc = .ok (.if_icmp .eq o, 3)) (ho : 0 ≤ (pc : Int) + o) (ht : ((pc : Int) + o).toNat = pt) (hp : pc + 3 = pc') (yes : x = z → G p l e R s m args below meth c n0 P h k n (mkF m pt Ls S)) (no : ¬ (x = z) → G p l e R s m args below meth c n0 P h k n (mkF m pc' Ls S)) : G p l e R s m args below meth c n0 P h k n (mkF m pc Ls (.int z :: .int x :: S)) :=
  G.icmp C hd ho ht hp (fun q => yes (by simpa [if_icmp.holds] using q)) (fun q => no (by simpa [if_icmp.holds] using q))
theorem G.lfeq (C : Cx p s m meth c Z y bytes maxL ret) {o : Int} {x z : Int64} (hd : decode bytes pc = .ok (.ifCond .eq o, 3)) (ho : 0 ≤ (pc : Int) + o) (ht : ((pc : Int) + o).toNat = pt) (hp : pc + 3 = pc') (yes : x = z → G p l e R s m args below meth c n0 P h k n (mkF m pt Ls S)) (no : ¬ (x = z) → G p l e R s m args below meth c n0 P h k n (mkF m pc' Ls S)) : G p l e R s m args below meth c n0 P h k n (mkF m pc Ls (.int (lcmpW x z) :: S)) :=
  G.ifeq C hd ho ht hp (fun q => yes ((lw_eq x z).mp q)) (fun q => no (fun r => q ((lw_eq x z).mpr r)))
theorem G.ifne (C : Cx p s m meth c Z y bytes maxL ret) {o : Int} {x : Int32} (hd : decode bytes pc = .ok (.ifCond .ne o, 3)) (ho : 0 ≤ (pc : Int) + o) (ht : ((pc : Int) + o).toNat = pt) (hp : pc + 3 = pc') (yes : ¬ (x = 0) → G p l e R s m args below meth c n0 P h k n (mkF m pt Ls S)) (no : x = 0 → G p l e R s m args below meth c n0 P h k n (mkF m pc' Ls S)) : G p l e R s m args below meth c n0 P h k n (mkF m pc Ls (.int x :: S)) :=
  G.ifc C hd ho ht hp (fun q => yes (by simpa [if_icmp.holds] using q)) (fun q => no (by simpa [if_icmp.holds] using q))
theorem G.icne (C : Cx p s m meth c Z y bytes maxL ret) {o : Int} {x z : Int32} (hd : decode bytes pc = .ok (.if_icmp .ne o, 3)) (ho : 0 ≤ (pc : Int) + o) (ht : ((pc : Int) + o).toNat = pt) (hp : pc + 3 = pc') (yes : ¬ (x = z) → G p l e R s m args below meth c n0 P h k n (mkF m pt Ls S)) (no : x = z → G p l e R s m args below meth c n0 P h k n (mkF m pc' Ls S)) : G p l e R s m args below meth c n0 P h k n (mkF m pc Ls (.int z :: .int x :: S)) :=
  G.icmp C hd ho ht hp (fun q => yes (by simpa [if_icmp.holds] using q)) (fun q => no (by simpa [if_icmp.holds] using q))
theorem G.lfne (C : Cx p s m meth c Z y bytes maxL ret) {o : Int} {x z : Int64} (hd : decode bytes pc = .ok (.ifCond .ne o, 3)) (ho : 0 ≤ (pc : Int) + o) (ht : ((pc : Int) + o).toNat = pt) (hp : pc + 3 = pc') (yes : ¬ (x = z) → G p l e R s m args below meth c n0 P h k n (mkF m pt Ls S)) (no : x = z → G p l e R s m args below meth c n0 P h k n (mkF m pc' Ls S)) : G p l e R s m args below meth c n0 P h k n (mkF m pc Ls (.int (lcmpW x z) :: S)) :=
  G.ifne C hd ho ht hp (fun q => yes (fun r => q ((lw_eq x z).mpr r))) (fun q => no ((lw_eq x z).mp q))
theorem G.iflt (C : Cx p s m meth c Z y bytes maxL ret) {o : Int} {x : Int32} (hd : decode bytes pc = .ok (.ifCond .lt o, 3)) (ho : 0 ≤ (pc : Int) + o) (ht : ((pc : Int) + o).toNat = pt) (hp : pc + 3 = pc') (yes : x < 0 → G p l e R s m args below meth c n0 P h k n (mkF m pt Ls S)) (no : ¬ (x < 0) → G p l e R s m args below meth c n0 P h k n (mkF m pc' Ls S)) : G p l e R s m args below meth c n0 P h k n (mkF m pc Ls (.int x :: S)) :=
  G.ifc C hd ho ht hp (fun q => yes (by simpa [if_icmp.holds] using q)) (fun q => no (by simpa [if_icmp.holds] using q))
theorem G.iclt (C : Cx p s m meth c Z y bytes maxL ret) {o : Int} {x z : Int32} (hd : decode bytes pc = .ok (.if_icmp .lt o, 3)) (ho : 0 ≤ (pc : Int) + o) (ht : ((pc : Int) + o).toNat = pt) (hp : pc + 3 = pc') (yes : x < z → G p l e R s m args below meth c n0 P h k n (mkF m pt Ls S)) (no : ¬ (x < z) → G p l e R s m args below meth c n0 P h k n (mkF m pc' Ls S)) : G p l e R s m args below meth c n0 P h k n (mkF m pc Ls (.int z :: .int x :: S)) :=
  G.icmp C hd ho ht hp (fun q => yes (by simpa [if_icmp.holds] using q)) (fun q => no (by simpa [if_icmp.holds] using q))
theorem G.lflt (C : Cx p s m meth c Z y bytes maxL ret) {o : Int} {x z : Int64} (hd : decode bytes pc = .ok (.ifCond .lt o, 3)) (ho : 0 ≤ (pc : Int) + o) (ht : ((pc : Int) + o).toNat = pt) (hp : pc + 3 = pc') (yes : x < z → G p l e R s m args below meth c n0 P h k n (mkF m pt Ls S)) (no : ¬ (x < z) → G p l e R s m args below meth c n0 P h k n (mkF m pc' Ls S)) : G p l e R s m args below meth c n0 P h k n (mkF m pc Ls (.int (lcmpW x z) :: S)) :=
  G.iflt C hd ho ht hp (fun q => yes ((lw_lt x z).mp q)) (fun q => no (fun r => q ((lw_lt x z).mpr r)))
theorem G.ifge (C : Cx p s m meth c Z y bytes maxL ret) {o : Int} {x : Int32} (hd : decode bytes pc = .ok (.ifCond .ge o, 3)) (ho : 0 ≤ (pc : Int) + o) (ht : ((pc : Int) + o).toNat = pt) (hp : pc + 3 = pc') (yes : ¬ (x < 0) → G p l e R s m args below meth c n0 P h k n (mkF m pt Ls S)) (no : x < 0 → G p l e R s m args below meth c n0 P h k n (mkF m pc' Ls S)) : G p l e R s m args below meth c n0 P h k n (mkF m pc Ls (.int x :: S)) :=
  G.ifc C hd ho ht hp (fun q => yes (by simpa [if_icmp.holds] using q)) (fun q => no (by simpa [if_icmp.holds] using q))
theorem G.icge (C : Cx p s m meth c Z y bytes maxL ret) {o : Int} {x z : Int32} (hd : decode bytes pc = .ok (.if_icmp .ge o, 3)) (ho : 0 ≤ (pc : Int) + o) (ht : ((pc : Int) + o).toNat = pt) (hp : pc + 3 = pc') (yes : ¬ (x < z) → G p l e R s m args below meth c n0 P h k n (mkF m pt Ls S)) (no : x < z → G p l e R s m args below meth c n0 P h k n (mkF m pc' Ls S)) : G p l e R s m args below meth c n0 P h k n (mkF m pc Ls (.int z :: .int x :: S)) :=
  G.icmp C hd ho ht hp (fun q => yes (by simpa [if_icmp.holds] using q)) (fun q => no (by simpa [if_icmp.holds] using q))
theorem G.lfge (C : Cx p s m meth c Z y bytes maxL ret) {o : Int} {x z : Int64} (hd : decode bytes pc = .ok (.ifCond .ge o, 3)) (ho : 0 ≤ (pc : Int) + o) (ht : ((pc : Int) + o).toNat = pt) (hp : pc + 3 = pc') (yes : ¬ (x < z) → G p l e R s m args below meth c n0 P h k n (mkF m pt Ls S)) (no : x < z → G p l e R s m args below meth c n0 P h k n (mkF m pc' Ls S)) : G p l e R s m args below meth c n0 P h k n (mkF m pc Ls (.int (lcmpW x z) :: S)) :=
  G.ifge C hd ho ht hp (fun q => yes (fun r => q ((lw_lt x z).mpr r))) (fun q => no ((lw_lt x z).mp q))
theorem G.ifgt (C : Cx p s m meth c Z y bytes maxL ret) {o : Int} {x : Int32} (hd : decode bytes pc = .ok (.ifCond .gt o, 3)) (ho : 0 ≤ (pc : Int) + o) (ht : ((pc : Int) + o).toNat = pt) (hp : pc + 3 = pc') (yes : 0 < x → G p l e R s m args below meth c n0 P h k n (mkF m pt Ls S)) (no : ¬ (0 < x) → G p l e R s m args below meth c n0 P h k n (mkF m pc' Ls S)) : G p l e R s m args below meth c n0 P h k n (mkF m pc Ls (.int x :: S)) :=
  G.ifc C hd ho ht hp (fun q => yes (by simpa [if_icmp.holds] using q)) (fun q => no (by simpa [if_icmp.holds] using q))
theorem G.icgt (C : Cx p s m meth c Z y bytes maxL ret) {o : Int} {x z : Int32} (hd : decode bytes pc = .ok (.if_icmp .gt o, 3)) (ho : 0 ≤ (pc : Int) + o) (ht : ((pc : Int) + o).toNat = pt) (hp : pc + 3 = pc') (yes : z < x → G p l e R s m args below meth c n0 P h k n (mkF m pt Ls S)) (no : ¬ (z < x) → G p l e R s m args below meth c n0 P h k n (mkF m pc' Ls S)) : G p l e R s m args below meth c n0 P h k n (mkF m pc Ls (.int z :: .int x :: S)) :=
  G.icmp C hd ho ht hp (fun q => yes (by simpa [if_icmp.holds] using q)) (fun q => no (by simpa [if_icmp.holds] using q))
theorem G.lfgt (C : Cx p s m meth c Z y bytes maxL ret) {o : Int} {x z : Int64} (hd : decode bytes pc = .ok (.ifCond .gt o, 3)) (ho : 0 ≤ (pc : Int) + o) (ht : ((pc : Int) + o).toNat = pt) (hp : pc + 3 = pc') (yes : z < x → G p l e R s m args below meth c n0 P h k n (mkF m pt Ls S)) (no : ¬ (z < x) → G p l e R s m args below meth c n0 P h k n (mkF m pc' Ls S)) : G p l e R s m args below meth c n0 P h k n (mkF m pc Ls (.int (lcmpW x z) :: S)) :=
  G.ifgt C hd ho ht hp (fun q => yes ((lw_gt x z).mp q)) (fun q => no (fun r => q ((lw_gt x z).mpr r)))
theorem G.ifle (C : Cx p s m meth c Z y bytes maxL ret) {o : Int} {x : Int32} (hd : decode bytes pc = .ok (.ifCond .le o, 3)) (ho : 0 ≤ (pc : Int) + o) (ht : ((pc : Int) + o).toNat = pt) (hp : pc + 3 = pc') (yes : ¬ (0 < x) → G p l e R s m args below meth c n0 P h k n (mkF m pt Ls S)) (no : 0 < x → G p l e R s m args below meth c n0 P h k n (mkF m pc' Ls S)) : G p l e R s m args below meth c n0 P h k n (mkF m pc Ls (.int x :: S)) :=
  G.ifc C hd ho ht hp (fun q => yes (by simpa [if_icmp.holds] using q)) (fun q => no (by simpa [if_icmp.holds] using q))
theorem G.icle (C : Cx p s m meth c Z y bytes maxL ret) {o : Int} {x z : Int32} (hd : decode bytes pc = .ok (.if_icmp .le o, 3)) (ho : 0 ≤ (pc : Int) + o) (ht : ((pc : Int) + o).toNat = pt) (hp : pc + 3 = pc') (yes : ¬ (z < x) → G p l e R s m args below meth c n0 P h k n (mkF m pt Ls S)) (no : z < x → G p l e R s m args below meth c n0 P h k n (mkF m pc' Ls S)) : G p l e R s m args below meth c n0 P h k n (mkF m pc Ls (.int z :: .int x :: S)) :=
  G.icmp C hd ho ht hp (fun q => yes (by simpa [if_icmp.holds] using q)) (fun q => no (by simpa [if_icmp.holds] using q))
theorem G.lfle (C : Cx p s m meth c Z y bytes maxL ret) {o : Int} {x z : Int64} (hd : decode bytes pc = .ok (.ifCond .le o, 3)) (ho : 0 ≤ (pc : Int) + o) (ht : ((pc : Int) + o).toNat = pt) (hp : pc + 3 = pc') (yes : ¬ (z < x) → G p l e R s m args below meth c n0 P h k n (mkF m pt Ls S)) (no : z < x → G p l e R s m args below meth c n0 P h k n (mkF m pc' Ls S)) : G p l e R s m args below meth c n0 P h k n (mkF m pc Ls (.int (lcmpW x z) :: S)) :=
  G.ifle C hd ho ht hp (fun q => yes (fun r => q ((lw_gt x z).mpr r))) (fun q => no ((lw_gt x z).mp q))
/-- a Bool as the machine's int -/
def bi (b : Bool) : Int32 := if b then 1 else 0
theorem bi_t : bi true = 1 := rfl
theorem bi_f : bi false = 0 := rfl
theorem bi_inj {a b : Bool} : bi a = bi b ↔ a = b := by cases a <;> cases b <;> decide
theorem bi_zero {b : Bool} : bi b = 0 ↔ b = false := by cases b <;> decide
theorem bi_one {b : Bool} : bi b = 1 ↔ b = true := by cases b <;> decide
theorem bi_fit (b : Bool) : fits .boolean (.int (bi b)) = true := by cases b <;> rfl
theorem bi_nar (b : Bool) : narrow .boolean (.int (bi b)) = .int (bi b) := by cases b <;> rfl
theorem G.bfeq (C : Cx p s m meth c Z y bytes maxL ret) {o : Int} {b : Bool} (hd : decode bytes pc = .ok (.ifCond .eq o, 3)) (ho : 0 ≤ (pc : Int) + o) (ht : ((pc : Int) + o).toNat = pt) (hp : pc + 3 = pc') (yes : b = false → G p l e R s m args below meth c n0 P h k n (mkF m pt Ls S)) (no : b = true → G p l e R s m args below meth c n0 P h k n (mkF m pc' Ls S)) : G p l e R s m args below meth c n0 P h k n (mkF m pc Ls (.int (bi b) :: S)) :=
  G.ifeq C hd ho ht hp (fun q => yes (bi_zero.mp q)) (fun q => no (by cases b; exact absurd rfl q; rfl))
theorem G.bfne (C : Cx p s m meth c Z y bytes maxL ret) {o : Int} {b : Bool} (hd : decode bytes pc = .ok (.ifCond .ne o, 3)) (ho : 0 ≤ (pc : Int) + o) (ht : ((pc : Int) + o).toNat = pt) (hp : pc + 3 = pc') (yes : b = true → G p l e R s m args below meth c n0 P h k n (mkF m pt Ls S)) (no : b = false → G p l e R s m args below meth c n0 P h k n (mkF m pc' Ls S)) : G p l e R s m args below meth c n0 P h k n (mkF m pc Ls (.int (bi b) :: S)) :=
  G.ifne C hd ho ht hp (fun q => yes (by cases b; exact absurd rfl q; rfl)) (fun q => no (bi_zero.mp q))
theorem G.out {v : Option Value} (C : Cx p s m meth c Z y bytes maxL ret) (hv : ret = none → v = none) (hq : Q v h) (hk : k ≤ R.cells) (hn : n ≤ R.slots)
    (st : ∀ T locs fs, Stand p l e R s m args below meth c T locs k n → (∀ (f : JFrame) (acts : List Action), f.method = m → f.locked = none → f.entered = [] → (doReturn e (T.setTop f) acts v).1 = T.setFrames fs) → Steps p.tables e below (T.setTop f) (T.setFrames fs)) : G p l e R s m args below meth c n0 (Wst s R n0 Q) h k n f := fun T locs X eT N => by
  have hlk : meth.locks = false := C.2.2.2.2.2.2.2
  obtain ⟨fs, hr, hrun, hended, hW, hsame⟩ := X.leave (v := v) (fun q => hv (C.2.2.2.2.2.2.1.symm.trans q)) hlk
  exact ⟨_, _, st T locs fs X hr, hrun, hended, eT ▸ hq, locs, N, ⟨_, rfl⟩, hW, hsame.mono hk hn⟩
theorem G.retI (C : Cx p s m meth c Z y bytes maxL (some .int)) {z : Int32} (hd : decode bytes pc = .ok (.ireturn, 1)) (hk : k ≤ R.cells) (hn : n ≤ R.slots) (hq : Q (some (.int z)) h) : G p l e R s m args below meth c n0 (Wst s R n0 Q) h k n (mkF m pc Ls (.int z :: S)) :=
  G.out C (fun q => by cases q) hq hk hn fun T locs fs X hr => retOut X C.1 C.2.2.2.2.2.2.1 rfl (Or.inl ⟨rfl, Or.inl rfl, z, rfl⟩) (hb C.2.2.1 hd) hr
theorem G.retZ (C : Cx p s m meth c Z y bytes maxL (some .boolean)) {z : Int32} (hd : decode bytes pc = .ok (.ireturn, 1)) (hk : k ≤ R.cells) (hn : n ≤ R.slots) (hz : narrow .boolean (.int z) = .int z) (hq : Q (some (.int z)) h) : G p l e R s m args below meth c n0 (Wst s R n0 Q) h k n (mkF m pc Ls (.int z :: S)) :=
  G.out C (fun q => by cases q) hq hk hn fun T locs fs X hr => retOut X C.1 C.2.2.2.2.2.2.1 hz (Or.inl ⟨rfl, Or.inr (Or.inl rfl), z, rfl⟩) (hb C.2.2.1 hd) hr
theorem G.retB (C : Cx p s m meth c Z y bytes maxL (some .byte)) {z : Int32} (hd : decode bytes pc = .ok (.ireturn, 1)) (hk : k ≤ R.cells) (hn : n ≤ R.slots) (hz : narrow .byte (.int z) = .int z) (hq : Q (some (.int z)) h) : G p l e R s m args below meth c n0 (Wst s R n0 Q) h k n (mkF m pc Ls (.int z :: S)) :=
  G.out C (fun q => by cases q) hq hk hn fun T locs fs X hr => retOut X C.1 C.2.2.2.2.2.2.1 hz (Or.inl ⟨rfl, Or.inr (Or.inr (Or.inl rfl)), z, rfl⟩) (hb C.2.2.1 hd) hr
theorem G.retC (C : Cx p s m meth c Z y bytes maxL (some .char)) {z : Int32} (hd : decode bytes pc = .ok (.ireturn, 1)) (hk : k ≤ R.cells) (hn : n ≤ R.slots) (hz : narrow .char (.int z) = .int z) (hq : Q (some (.int z)) h) : G p l e R s m args below meth c n0 (Wst s R n0 Q) h k n (mkF m pc Ls (.int z :: S)) :=
  G.out C (fun q => by cases q) hq hk hn fun T locs fs X hr => retOut X C.1 C.2.2.2.2.2.2.1 hz (Or.inl ⟨rfl, Or.inr (Or.inr (Or.inr (Or.inl rfl))), z, rfl⟩) (hb C.2.2.1 hd) hr
theorem G.retL (C : Cx p s m meth c Z y bytes maxL (some .long)) {z : Int64} (hd : decode bytes pc = .ok (.lreturn, 1)) (hk : k ≤ R.cells) (hn : n ≤ R.slots) (hq : Q (some (.long z)) h) : G p l e R s m args below meth c n0 (Wst s R n0 Q) h k n (mkF m pc Ls (.long z :: S)) :=
  G.out C (fun q => by cases q) hq hk hn fun T locs fs X hr => retOut X C.1 C.2.2.2.2.2.2.1 rfl (Or.inr (Or.inl ⟨rfl, rfl, z, rfl⟩)) (hb C.2.2.1 hd) hr
theorem G.retA {t : FieldType} (C : Cx p s m meth c Z y bytes maxL (some t)) {v : Value} (ht : t.isReference = true) (hv : v.isRef = true) (hd : decode bytes pc = .ok (.areturn, 1)) (hk : k ≤ R.cells) (hn : n ≤ R.slots) (hz : narrow t v = v) (hq : Q (some v) h) : G p l e R s m args below meth c n0 (Wst s R n0 Q) h k n (mkF m pc Ls (v :: S)) :=
  G.out C (fun q => by cases q) hq hk hn fun T locs fs X hr => retOut X C.1 C.2.2.2.2.2.2.1 hz (Or.inr (Or.inr (Or.inr (Or.inr ⟨rfl, ht, hv⟩)))) (hb C.2.2.1 hd) hr
theorem G.retV (C : Cx p s m meth c Z y bytes maxL none) (hd : decode bytes pc = .ok (.return_, 1)) (hk : k ≤ R.cells) (hn : n ≤ R.slots) (hq : Q none h) : G p l e R s m args below meth c n0 (Wst s R n0 Q) h k n (mkF m pc Ls []) :=
  G.out C (fun _ => rfl) hq hk hn fun T locs fs X hr => X.returnOut C.1 C.2.2.2.2.2.2.1 (hb C.2.2.1 hd) hr
theorem cat_sum {S : List Value} {W : Nat} (h : (S.map fun v => v.category).sum ≤ W) : 2 * 0 + (S.map fun v => v.category).sum ≤ W := by omega
theorem G.callS (C : Cx p s m meth c Z y bytes maxL ret) {z : MethodName} {zb : ByteArray} {zl : Nat} {zr : Option FieldType} {Rz : Room} {av : List Value} {Qz : Option Value → Heap → Prop} {ix W : Nat} {ps : List FieldType} {r : Option FieldType} {St : List Value}
    (w1 : (Jvm.Cond.methodLink y.cls ix z).before a0 Z = true) (w2 : (Jvm.Cond.static z).before a0 Z = true) (w3 : (Jvm.Cond.initialized z.cls).before a0 Z = true) (w4 : (Jvm.Cond.code z zb zl zr).before a0 Z = true)
    (hz : z.cls ≠ "java/lang/invoke/MethodHandle" ∧ z.cls ≠ "java/lang/invoke/VarHandle") (K : Con l Z z zb zl zr Rz av.toArray h n0 Qz) (hps : parseMethodDescriptor z.desc = some ⟨ps, r⟩) (hlen : av.length = ps.length) (hls : Ls.size = maxL)
    (hd : decode bytes pc = .ok (.invokestatic ix, 3)) (hst : St = av.reverse ++ S) (hW : (S.map fun v => v.category).sum ≤ W) (hf : Rz.frames + 1 ≤ R.frames) (hl : W + (zl + 11) + Rz.locals ≤ R.locals) (hk : k + Rz.cells ≤ R.cells) (hn : n + Rz.slots ≤ R.slots) (hp : pc + 3 = pc')
    (nx : ∀ v h', Qz v h' → G p l e R s m args below meth c n0 P h' (k + Rz.cells) (n + Rz.slots) (mkF m pc' Ls (v.toList ++ S))) : G p l e R s m args below meth c n0 P h k n (mkF m pc Ls St) := fun T locs X eT N => by
  subst hp hst
  obtain ⟨v, _, ⟨T', L', k', n'⟩, -, X', ⟨Lc, hQ, l1, l2, l3⟩, st⟩ := Jvm.LawKit.callS X C.1 (y := z) C.2.2.2.2.1 (mvT C.2.1 w1) (mvT C.2.1 w2) (mvT C.2.1 w3) (mvT C.2.1 w4) hz (backOf (Q := fun v z L => Qz v z ∧ Fr n0 L) (W := W) (K []) C.2.1 w4 w3 hf hl) (g := mkF m pc Ls (av.reverse ++ S)) rfl (by rw [C.2.2.2.1]; exact hls) (argsL := av) (rest := S) (lenOf hps hlen) rfl (cat_sum hW) (hb C.2.2.1 hd) (fun _ _ => ⟨rfl, eT, hk, hn⟩)
  dsimp only [Pt.U, Pt.locs, Pt.cells, Pt.slots] at X' l1 l2 l3 st hQ
  subst l1 l2 l3
  obtain ⟨s₂, o, h1, rr⟩ := nx v T'.heap hQ.1 T' _ X' rfl (Fr.app N hQ.2)
  exact ⟨s₂, o, st _ h1, rr⟩
theorem G.callI (C : Cx p s m meth c Z y bytes maxL ret) {z : MethodName} {zb : ByteArray} {zl : Nat} {Rz : Room} {a : Addr} {av : List Value} {Qz : Option Value → Heap → Prop} {ix W : Nat} {ps : List FieldType} {r : Option FieldType} {St : List Value} (hz1 : z.name = "<init>")
    (w1 : (Jvm.Cond.methodLink y.cls ix z).before a0 Z = true) (w2 : (Jvm.Cond.instanceMethod z).before a0 Z = true) (w3 : (Jvm.Cond.initialized z.cls).before a0 Z = true) (w4 : (Jvm.Cond.code z zb zl none).before a0 Z = true)
    (hz : z.cls ≠ "java/lang/invoke/MethodHandle" ∧ z.cls ≠ "java/lang/invoke/VarHandle") (K : Con l Z z zb zl none Rz (.ref a :: av).toArray h n0 Qz) (hps : parseMethodDescriptor z.desc = some ⟨ps, r⟩) (hlen : av.length = ps.length) (hls : Ls.size = maxL)
    (hd : decode bytes pc = .ok (.invokespecial ix, 3)) (hst : St = av.reverse ++ .ref a :: S) (hW : (S.map fun v => v.category).sum ≤ W) (hf : Rz.frames + 1 ≤ R.frames) (hl : W + (zl + 11) + Rz.locals ≤ R.locals) (hk : k + Rz.cells ≤ R.cells) (hn : n + Rz.slots ≤ R.slots) (hp : pc + 3 = pc')
    (nx : ∀ v h', Qz v h' → G p l e R s m args below meth c n0 P h' (k + Rz.cells) (n + Rz.slots) (mkF m pc' Ls (v.toList ++ S))) : G p l e R s m args below meth c n0 P h k n (mkF m pc Ls St) := fun T locs X eT N => by
  subst hp hst
  obtain ⟨v, _, ⟨T', L', k', n'⟩, -, X', ⟨Lc, hQ, l1, l2, l3⟩, st⟩ := X.specialBack C.1 (y := z) hz1 C.2.2.2.2.1 (mvT C.2.1 w1) (mvT C.2.1 w2) (mvT C.2.1 w4) hz (backOf (Q := fun v z L => Qz v z ∧ Fr n0 L) (W := W) (K []) C.2.1 w4 w3 hf hl) (g := mkF m pc Ls (av.reverse ++ .ref a :: S)) rfl (by rw [C.2.2.2.1]; exact hls) (Steps.refl _) (a := a) (argsL := av) (rest := S) (lenOf hps hlen) rfl (cat_sum hW) (hb C.2.2.1 hd) (fun _ _ => ⟨rfl, eT, hk, hn⟩)
  dsimp only [Pt.U, Pt.locs, Pt.cells, Pt.slots] at X' l1 l2 l3 st hQ
  subst l1 l2 l3
  obtain ⟨s₂, o, h1, rr⟩ := nx v T'.heap hQ.1 T' _ X' rfl (Fr.app N hQ.2)
  exact ⟨s₂, o, st.trans h1, rr⟩
theorem G.callV (C : Cx p s m meth c Z y bytes maxL ret) {z : MethodName} {zb : ByteArray} {zl : Nat} {zr : Option FieldType} {Rz : Room} {a : Addr} {av : List Value} {Qz : Option Value → Heap → Prop} {ix W : Nat} {ps : List FieldType} {r : Option FieldType} {St : List Value} {D : String}
    (w1 : (Jvm.Cond.methodLink y.cls ix z).before a0 Z = true) (w2 : (Jvm.Cond.instanceMethod z).before a0 Z = true) (w3 : (Jvm.Cond.initialized z.cls).before a0 Z = true) (w4 : (Jvm.Cond.code z zb zl zr).before a0 Z = true) (w5 : (Jvm.Cond.declares z).before a0 Z = true) (w6 : (Jvm.Cond.selects D z z).before a0 Z = true) (E : Exa Z h a D)
    (hz : z.cls ≠ "java/lang/invoke/MethodHandle" ∧ z.cls ≠ "java/lang/invoke/VarHandle") (K : Con l Z z zb zl zr Rz (.ref a :: av).toArray h n0 Qz) (hps : parseMethodDescriptor z.desc = some ⟨ps, r⟩) (hlen : av.length = ps.length) (hls : Ls.size = maxL)
    (hd : decode bytes pc = .ok (.invokevirtual ix, 3)) (hst : St = av.reverse ++ .ref a :: S) (hW : (S.map fun v => v.category).sum ≤ W) (hf : Rz.frames + 1 ≤ R.frames) (hl : W + (zl + 11) + Rz.locals ≤ R.locals) (hk : k + Rz.cells ≤ R.cells) (hn : n + Rz.slots ≤ R.slots) (hp : pc + 3 = pc')
    (nx : ∀ v h', Qz v h' → G p l e R s m args below meth c n0 P h' (k + Rz.cells) (n + Rz.slots) (mkF m pc' Ls (v.toList ++ S))) : G p l e R s m args below meth c n0 P h k n (mkF m pc Ls St) := fun T locs X eT N => by
  subst hp hst
  obtain ⟨cq, kq, qa, qb, qc⟩ := isOf C.2.1 eT E
  obtain ⟨v, _, ⟨T', L', k', n'⟩, -, X', ⟨Lc, hQ, l1, l2, l3⟩, st⟩ := X.virtualBack C.1 (y := z) (z := z) C.2.2.2.2.1 (mvT C.2.1 w1) (mvT C.2.1 w5) (notFace_of_selects (args := #[]) (mvT C.2.1 w6)) (mvT C.2.1 w6) (mvT C.2.1 w2) hz (backOf (Q := fun v z L => Qz v z ∧ Fr n0 L) (W := W) (K []) C.2.1 w4 w3 hf hl) qa qc (g := mkF m pc Ls (av.reverse ++ .ref a :: S)) rfl (by rw [C.2.2.2.1]; exact hls) (Steps.refl _) (argsL := av) (rest := S) (lenOf hps hlen) rfl (cat_sum hW) (hb C.2.2.1 hd) (fun _ _ => ⟨rfl, eT, hk, hn⟩)
  dsimp only [Pt.U, Pt.locs, Pt.cells, Pt.slots] at X' l1 l2 l3 st hQ
  subst l1 l2 l3
  obtain ⟨s₂, o, h1, rr⟩ := nx v T'.heap hQ.1 T' _ X' rfl (Fr.app N hQ.2)
  exact ⟨s₂, o, st.trans h1, rr⟩
def Pn (h : Heap) : Option Value → Heap → Prop := fun v h' => v = none ∧ h' = h
/-- a value is handed back, the heap as it was -/
def Pv (u : Value) (h : Heap) : Option Value → Heap → Prop := fun v h' => v = some u ∧ h' = h
theorem G.callSP (C : Cx p s m meth c Z y bytes maxL ret) {z : MethodName} {zb : ByteArray} {zl : Nat} {zr : Option FieldType} {Rz : Room} {av : List Value} {u : Value} {ix W : Nat} {ps : List FieldType} {r : Option FieldType} {St : List Value}
    (w1 : (Jvm.Cond.methodLink y.cls ix z).before a0 Z = true) (w2 : (Jvm.Cond.static z).before a0 Z = true) (w3 : (Jvm.Cond.initialized z.cls).before a0 Z = true) (w4 : (Jvm.Cond.code z zb zl zr).before a0 Z = true)
    (hz : z.cls ≠ "java/lang/invoke/MethodHandle" ∧ z.cls ≠ "java/lang/invoke/VarHandle") (K : Con l Z z zb zl zr Rz av.toArray h n0 (Pv u h)) (hps : parseMethodDescriptor z.desc = some ⟨ps, r⟩) (hlen : av.length = ps.length) (hls : Ls.size = maxL)
    (hd : decode bytes pc = .ok (.invokestatic ix, 3)) (hst : St = av.reverse ++ S) (hW : (S.map fun v => v.category).sum ≤ W) (hf : Rz.frames + 1 ≤ R.frames) (hl : W + (zl + 11) + Rz.locals ≤ R.locals) (h0 : Rz.cells = 0) (h1 : Rz.slots = 0) (hk : k ≤ R.cells) (hn : n ≤ R.slots) (hp : pc + 3 = pc')
    (nx : G p l e R s m args below meth c n0 P h k n (mkF m pc' Ls (u :: S))) : G p l e R s m args below meth c n0 P h k n (mkF m pc Ls St) :=
  G.callS C w1 w2 w3 w4 hz K hps hlen hls hd hst hW hf hl (by rw [h0]; exact hk) (by rw [h1]; exact hn) hp fun v h' hq => by
    obtain ⟨rfl, rfl⟩ := hq; rw [h0, h1]; exact nx
theorem G.callVP (C : Cx p s m meth c Z y bytes maxL ret) {z : MethodName} {zb : ByteArray} {zl : Nat} {zr : Option FieldType} {Rz : Room} {a : Addr} {av : List Value} {u : Value} {ix W : Nat} {ps : List FieldType} {r : Option FieldType} {St : List Value} {D : String}
    (w1 : (Jvm.Cond.methodLink y.cls ix z).before a0 Z = true) (w2 : (Jvm.Cond.instanceMethod z).before a0 Z = true) (w3 : (Jvm.Cond.initialized z.cls).before a0 Z = true) (w4 : (Jvm.Cond.code z zb zl zr).before a0 Z = true) (w5 : (Jvm.Cond.declares z).before a0 Z = true) (w6 : (Jvm.Cond.selects D z z).before a0 Z = true) (E : Exa Z h a D)
    (hz : z.cls ≠ "java/lang/invoke/MethodHandle" ∧ z.cls ≠ "java/lang/invoke/VarHandle") (K : Con l Z z zb zl zr Rz (.ref a :: av).toArray h n0 (Pv u h)) (hps : parseMethodDescriptor z.desc = some ⟨ps, r⟩) (hlen : av.length = ps.length) (hls : Ls.size = maxL)
    (hd : decode bytes pc = .ok (.invokevirtual ix, 3)) (hst : St = av.reverse ++ .ref a :: S) (hW : (S.map fun v => v.category).sum ≤ W) (hf : Rz.frames + 1 ≤ R.frames) (hl : W + (zl + 11) + Rz.locals ≤ R.locals) (h0 : Rz.cells = 0) (h1 : Rz.slots = 0) (hk : k ≤ R.cells) (hn : n ≤ R.slots) (hp : pc + 3 = pc')
    (nx : G p l e R s m args below meth c n0 P h k n (mkF m pc' Ls (u :: S))) : G p l e R s m args below meth c n0 P h k n (mkF m pc Ls St) :=
  G.callV C w1 w2 w3 w4 w5 w6 E hz K hps hlen hls hd hst hW hf hl (by rw [h0]; exact hk) (by rw [h1]; exact hn) hp fun v h' hq => by
    obtain ⟨rfl, rfl⟩ := hq; rw [h0, h1]; exact nx
/-- Keep, and the cells of statics as they were -/
def Kp (h h' : Heap) (ws : List Addr) : Prop := Keep h h' ws ∧ ∀ (x : Addr) (c : Cell), h[x]? = some c → c.vm.isStatics = true → h'[x]? = some c
theorem Kp.refl (h : Heap) (ws : List Addr) : Kp h h ws := ⟨Keep.refl _ _, fun _ _ q _ => q⟩
theorem Kp.ext {h1 h2 : Heap} {ws : List Addr} (K : Kp h h1 ws) (E : Ext h1 h2) : Kp h h2 ws := ⟨K.1.ext E, fun x c q r => E.2 x c (K.2 x c q r)⟩
theorem Kp.wr {h1 h2 : Heap} {ws : List Addr} {a : Addr} {sl : Nat} {v : Value} (K : Kp h h1 ws) (W : Wr h1 h2 a sl v) (q : a ∈ ws ∨ h.size ≤ a) : Kp h h2 ws := ⟨K.1.wr W q, fun x c q r => by
  have h1x := K.2 x c q r
  obtain ⟨cb, w1, w2, -⟩ := id W
  obtain ⟨cb', e1, -, -, -, e5, -⟩ := wr_at W h1x
  by_cases z : x = a
  · subst z; cases h1x.symm.trans w1; rw [r] at w2; cases w2
  · rw [e1, e5 z]⟩
theorem Kp.trans {h1 h2 : Heap} {ws ws' : List Addr} (K : Kp h h1 ws) (K' : Kp h1 h2 ws') (q : ∀ x ∈ ws', x ∈ ws ∨ h.size ≤ x) : Kp h h2 ws := ⟨K.1.trans K'.1 q, fun x c r z => K'.2 x c (K.2 x c r z) z⟩
theorem Sta.kp {h1 : Heap} {O nm d : String} {v : Value} {ws : List Addr} (K : Kp h h1 ws) (F : Sta Z h O nm d v) : Sta Z h1 O nm d v := by
  obtain ⟨cf, i, k, f, st, cell, q1, q2, q3, q4, q5, q6, q7⟩ := F
  exact ⟨cf, i, k, f, st, cell, q1, q2, q3, q4, K.2 _ _ q5 q6, q6, q7⟩
theorem G.acmpne (C : Cx p s m meth c Z y bytes maxL ret) {o : Int} {a b : Addr} (hd : decode bytes pc = .ok (.if_acmp .ne o, 3)) (ho : 0 ≤ (pc : Int) + o) (ht : ((pc : Int) + o).toNat = pt) (hp : pc + 3 = pc') (yes : ¬ (a = b) → G p l e R s m args below meth c n0 P h k n (mkF m pt Ls S)) (no : a = b → G p l e R s m args below meth c n0 P h k n (mkF m pc' Ls S)) : G p l e R s m args below meth c n0 P h k n (mkF m pc Ls (.ref b :: .ref a :: S)) := by
  by_cases q : a = b
  · exact G.pl (fun T locs X eT t k => Jvm.RoadKit.acmp (g := mkF m pc Ls (.ref b :: .ref a :: S)) X C.1 rfl rfl rfl (pc0 := pc) (pc' := pc') (same := true) rfl (hb C.2.2.1 hd) rfl (decide_eq_true (congrArg Value.ref q)) ho hp.symm k) (no q)
  · exact G.pl (fun T locs X eT t k => Jvm.RoadKit.acmp (g := mkF m pc Ls (.ref b :: .ref a :: S)) X C.1 rfl rfl rfl (pc0 := pc) (pc' := pt) (same := false) rfl (hb C.2.2.1 hd) rfl (decide_eq_false fun r => q (Value.ref.inj r)) ho ht.symm k) (yes q)
theorem G.acmpeq (C : Cx p s m meth c Z y bytes maxL ret) {o : Int} {a b : Addr} (hd : decode bytes pc = .ok (.if_acmp .eq o, 3)) (ho : 0 ≤ (pc : Int) + o) (ht : ((pc : Int) + o).toNat = pt) (hp : pc + 3 = pc') (yes : a = b → G p l e R s m args below meth c n0 P h k n (mkF m pt Ls S)) (no : ¬ (a = b) → G p l e R s m args below meth c n0 P h k n (mkF m pc' Ls S)) : G p l e R s m args below meth c n0 P h k n (mkF m pc Ls (.ref b :: .ref a :: S)) := by
  by_cases q : a = b
  · exact G.pl (fun T locs X eT t k => Jvm.RoadKit.acmp (g := mkF m pc Ls (.ref b :: .ref a :: S)) X C.1 rfl rfl rfl (pc0 := pc) (pc' := pt) (same := true) rfl (hb C.2.2.1 hd) rfl (decide_eq_true (congrArg Value.ref q)) ho ht.symm k) (yes q)
  · exact G.pl (fun T locs X eT t k => Jvm.RoadKit.acmp (g := mkF m pc Ls (.ref b :: .ref a :: S)) X C.1 rfl rfl rfl (pc0 := pc) (pc' := pc') (same := false) rfl (hb C.2.2.1 hd) rfl (decide_eq_false fun r => q (Value.ref.inj r)) ho hp.symm k) (no q)
theorem own_eqi {args : Array Value} {first s : State} {o : Option Outcome} {idx : List Nat} {t : Term} {z : Int32} (h : (Jvm.Cond.eq t (.int z)).value args first o s idx = some true) : t.eval args first o idx s = some (.int z) := by
  simp only [Cond.value] at h
  cases ht : t.eval args first o idx s with
  | none => simp [ht] at h
  | some x => cases x <;> simp [ht, Term.eval] at h ⊢; exact h
theorem own_sta_keep {O nm d : String} {v : Value} {h' : Heap} {ws : List Addr} (K : Keep h h' ws) (F : Sta Z h O nm d v) (hs : ∀ x ∈ ws, ∀ cell : Cell, h[x]? = some cell → cell.vm.isStatics = false) : Sta Z h' O nm d v := by
  obtain ⟨cf, i, k, f, st, cell, h1, h2, h3, h4, h5, h6, h7⟩ := F
  refine ⟨cf, i, k, f, st, cell, h1, h2, h3, h4, K.2.1 _ _ h5 (fun q => ?_), h6, h7⟩
  rw [hs st q cell h5] at h6; cases h6
theorem G.getF (C : Cx p s m meth c Z y bytes maxL ret) {ix : Nat} {O nm d : String} {a : Addr} {v : Value} (w : (Jvm.Cond.fieldLink y.cls ix O nm d).before a0 Z = true) (F : Fld Z h a O nm d v) (hd : decode bytes pc = .ok (.getfield ix, 3)) (hp : pc + 3 = pc') (nx : G p l e R s m args below meth c n0 P h k n (mkF m pc' Ls (v :: S))) : G p l e R s m args below meth c n0 P h k n (mkF m pc Ls (.ref a :: S)) := by
  subst hp; exact G.mv (fun T locs X eT => Jvm.RoadKit.getF X C.1 C.2.1 C.2.2.2.2.1 (host := "") (Or.inl w) Via.refl eT F (g := mkF m pc Ls (.ref a :: S)) rfl rfl (hb C.2.2.1 hd)) nx
theorem G.getS (C : Cx p s m meth c Z y bytes maxL ret) {ix : Nat} {O nm d : String} {v : Value} (w : (Jvm.Cond.fieldLink y.cls ix O nm d).before a0 Z = true) (F : Sta Z h O nm d v) (hd : decode bytes pc = .ok (.getstatic ix, 3)) (hp : pc + 3 = pc') (nx : G p l e R s m args below meth c n0 P h k n (mkF m pc' Ls (v :: S))) : G p l e R s m args below meth c n0 P h k n (mkF m pc Ls S) := by
  subst hp; exact G.mv (fun T locs X eT => Jvm.RoadKit.getS2 X C.1 C.2.1 C.2.2.2.2.1 (host := "") (Or.inl w) Via.refl eT F (g := mkF m pc Ls S) rfl (hb C.2.2.1 hd)) nx
theorem G.putF (C : Cx p s m meth c Z y bytes maxL ret) {ix kk : Nat} {O nm d D : String} {ty : FieldType} {a : Addr} {v old : Value} (w : (Jvm.Cond.fieldLink y.cls ix O nm d).before a0 Z = true) (F : Fld Z h a O nm d old) (E : Exa Z h a D) (La : (Jvm.Cond.lays D O nm d).before a0 Z = true ∨ ((Jvm.Cond.laysFinal D O nm d).before a0 Z = true ∧ y.cls = O ∧ y.name = "<init>")) (wi : (Jvm.Cond.instantiable D kk).before a0 Z = true)
    (hty : parseFieldDescriptor d = some ty) (hn : narrow ty v = v) (hf : fits ty v = true) (ha : n0 ≤ a) (hd : decode bytes pc = .ok (.putfield ix, 3)) (hp : pc + 3 = pc') (nx : ∀ h', Wr h h' a (Jvm.RoadKit.slotOf Z O nm d) v → G p l e R s m args below meth c n0 P h' k n (mkF m pc' Ls S)) : G p l e R s m args below meth c n0 P h k n (mkF m pc Ls (v :: .ref a :: S)) := fun T locs X eT N => by
  subst hp
  obtain ⟨T', h', X', e', W, st⟩ := Jvm.RoadKit.putF X C.1 C.2.1 C.2.2.2.2.1 (host := "") (Or.inl w) Via.refl eT F E (La.imp id fun q => ⟨q.1, q.2.1, C.2.2.2.2.2.1.trans q.2.2⟩) wi hty hn hf (g := mkF m pc Ls (v :: .ref a :: S)) rfl rfl (hb C.2.2.1 hd)
  obtain ⟨s₂, o, h1, rr⟩ := nx h' W T' _ X' e' (Fr.snoc X' N ha)
  exact ⟨s₂, o, st _ h1, rr⟩
theorem G.newO (C : Cx p s m meth c Z y bytes maxL ret) {ix sl : Nat} {D : String} (w : (Jvm.Cond.classLink y.cls ix D).before a0 Z = true) (wi : (Jvm.Cond.instantiable D sl).before a0 Z = true) (wz : (Jvm.Cond.initialized D).before a0 Z = true) (hd : decode bytes pc = .ok (.new ix, 3)) (hk : k + 1 ≤ R.cells) (hn : n + sl ≤ R.slots) (hp : pc + 3 = pc')
    (nx : ∀ h' a, a = h.size → Ext h h' → Exa Z h' a D → (∀ {O nm d : String} {ty : FieldType}, Laid Z a0 D O nm d → parseFieldDescriptor d = some ty → Fld Z h' a O nm d (defaultValue ty)) → G p l e R s m args below meth c n0 P h' (k + 1) (n + sl) (mkF m pc' Ls (.ref a :: S))) : G p l e R s m args below meth c n0 P h k n (mkF m pc Ls S) := fun T locs X eT N => by
  subst hp
  obtain ⟨T', h', X', e', E, A, D', -, st⟩ := Jvm.RoadKit.newO X C.1 C.2.1 C.2.2.2.2.1 w wi wz eT (g := mkF m pc Ls S) rfl (hb C.2.2.1 hd) hk hn
  obtain ⟨s₂, o, h1, rr⟩ := nx h' _ rfl E A D' T' _ X' e' N
  exact ⟨s₂, o, st _ h1, rr⟩
theorem G.initO (C : Cx p s m meth c Z y bytes maxL ret) {ix W : Nat} {a : Addr} (w1 : (Jvm.Cond.methodLink y.cls ix Lib.objectInit).before a0 Z = true) (w2 : (Jvm.Cond.instanceMethod Lib.objectInit).before a0 Z = true) (w3 : (Jvm.Cond.code Lib.objectInit ⟨#[0xb1]⟩ 1 none).before a0 Z = true) (hls : Ls.size = maxL) (hd : decode bytes pc = .ok (.invokespecial ix, 3)) (hf : 1 ≤ R.frames) (hW : (S.map fun v => v.category).sum ≤ W) (hl : W + 12 ≤ R.locals) (hp : pc + 3 = pc')
    (nx : G p l e R s m args below meth c n0 P h k n (mkF m pc' Ls S)) : G p l e R s m args below meth c n0 P h k n (mkF m pc Ls (.ref a :: S)) := by
  subst hp; exact G.mv (fun T locs X eT => Jvm.RoadKit.initO X C.1 C.2.1 C.2.2.2.2.1 w1 w2 w3 eT (g := mkF m pc Ls (.ref a :: S)) rfl (by rw [C.2.2.2.1]; exact hls) rfl (hb C.2.2.1 hd) hf (cat_sum hW) hl) nx
theorem G.ifnull (C : Cx p s m meth c Z y bytes maxL ret) {o : Int} (hd : decode bytes pc = .ok (.ifnull o, 3)) (ho : 0 ≤ (pc : Int) + o) (ht : ((pc : Int) + o).toNat = pt) (nx : G p l e R s m args below meth c n0 P h k n (mkF m pt Ls S)) : G p l e R s m args below meth c n0 P h k n (mkF m pc Ls (.null :: S)) :=
  G.pl (fun T locs X eT t q => XS.ifnullYes X.here C.1 rfl (pc0 := pc) (pc' := pt) rfl (hb C.2.2.1 hd) rfl ho ht q) nx
theorem G.ifnullR (C : Cx p s m meth c Z y bytes maxL ret) {o : Int} {a : Addr} (hd : decode bytes pc = .ok (.ifnull o, 3)) (hp : pc + 3 = pc') (nx : G p l e R s m args below meth c n0 P h k n (mkF m pc' Ls S)) : G p l e R s m args below meth c n0 P h k n (mkF m pc Ls (.ref a :: S)) := by
  subst hp; exact G.pl (fun T locs X eT t q => XS.ifnullNo X.here C.1 rfl (hb C.2.2.1 hd) rfl q) nx
theorem G.ifnonnull (C : Cx p s m meth c Z y bytes maxL ret) {o : Int} (hd : decode bytes pc = .ok (.ifnonnull o, 3)) (hp : pc + 3 = pc') (nx : G p l e R s m args below meth c n0 P h k n (mkF m pc' Ls S)) : G p l e R s m args below meth c n0 P h k n (mkF m pc Ls (.null :: S)) := by
  subst hp; exact G.pl (fun T locs X eT t q => XS.ifnonnullNo X.here C.1 rfl (hb C.2.2.1 hd) rfl q) nx
theorem G.ifnonnullR (C : Cx p s m meth c Z y bytes maxL ret) {o : Int} {a : Addr} (hd : decode bytes pc = .ok (.ifnonnull o, 3)) (ho : 0 ≤ (pc : Int) + o) (ht : ((pc : Int) + o).toNat = pt) (nx : G p l e R s m args below meth c n0 P h k n (mkF m pt Ls S)) : G p l e R s m args below meth c n0 P h k n (mkF m pc Ls (.ref a :: S)) :=
  G.pl (fun T locs X eT t q => XS.ifnonnullYes X.here C.1 rfl (pc0 := pc) (pc' := pt) rfl (hb C.2.2.1 hd) rfl ho ht q) nx
/-- an array of N places, what lies in each of them -/
def Ara (Z : State) (h : Heap) (a : Addr) (ty : FieldType) (N : Nat) (f : Nat → Value) : Prop := ∃ c : Cell, Arr Z h a c ty ∧ c.slots.size = N ∧ ∀ i, i < N → c.slots[i]? = some (f i)
section Arrays
variable {h' : Heap} {a b : Addr} {ty : FieldType} {N : Nat} {F : Nat → Value}
theorem Ara.ext (A : Ara Z h a ty N F) (E : Ext h h') : Ara Z h' a ty N F := by obtain ⟨c, q, r⟩ := A; exact ⟨c, q.ext E, r⟩
theorem Ara.keep {ws : List Addr} (A : Ara Z h a ty N F) (K : Keep h h' ws) (q : a ∉ ws) : Ara Z h' a ty N F := by obtain ⟨c, A, r⟩ := A; exact ⟨c, ⟨K.2.1 a c A.1 q, A.2⟩, r⟩
theorem Ara.kp {ws : List Addr} (A : Ara Z h a ty N F) (K : Kp h h' ws) (q : a ∉ ws) : Ara Z h' a ty N F := A.keep K.1 q
theorem Ara.oth {sl : Nat} {v : Value} (A : Ara Z h a ty N F) (W : Wr h h' b sl v) (q : a ≠ b) : Ara Z h' a ty N F := by obtain ⟨c, A, r⟩ := A; exact ⟨c, A.other W q, r⟩
theorem Ara.lt (A : Ara Z h a ty N F) : a < h.size := by obtain ⟨c, A, -⟩ := A; exact A.lt
theorem Ara.cast {F' : Nat → Value} (A : Ara Z h a ty N F) (q : ∀ i, i < N → F i = F' i) : Ara Z h a ty N F' := by obtain ⟨c, A, r1, r2⟩ := A; exact ⟨c, A, r1, fun i hi => by rw [r2 i hi, q i hi]⟩
theorem Ara.set {j : Nat} {v : Value} (A : Ara Z h a ty N F) (W : Wr h h' a j v) : Ara Z h' a ty N (fun i => if i = j then v else F i) := by
  obtain ⟨c, A, r1, r2⟩ := A
  obtain ⟨cell, w1, w2, w3, rfl⟩ := id W
  cases A.1.symm.trans w1
  refine ⟨_, A.same W, ?_, fun i hi => ?_⟩
  · rw [← r1]; simp [Cell.setSlot]
  · have hi' : i < c.slots.size := by rw [r1]; exact hi
    by_cases q : i = j
    · subst q; simp [Cell.setSlot, hi']
    · have q' : ¬ j = i := fun z => q z.symm
      simp only [q, if_false]
      rw [← r2 i hi]
      simp [Cell.setSlot, Array.getElem?_setIfInBounds, q']
theorem Ara.new {ka : ClassId} {z : Int32} (A : Arr Z h a (newA ka ty z) ty) : Ara Z h a ty z.toInt.toNat (fun _ => defaultValue ty) := by
  refine ⟨_, A, sz_new _ _ _, fun i hi => ?_⟩
  have q : i < z.toNatClampNeg := hi
  simp [newA, q]
theorem own_in {j : Int32} {cl : Cell} (r : cl.slots.size = N) (q : 0 ≤ j.toInt ∧ j.toInt < N) : ¬ (j < 0 ∨ cl.slots.size ≤ j.toNatClampNeg) := by
  rw [r, Int32.lt_iff_toInt_lt]
  show ¬ (j.toInt < 0 ∨ N ≤ j.toInt.toNat)
  omega
theorem own_ix {j : Int32} (q : 0 ≤ j.toInt ∧ j.toInt < N) : j.toInt.toNat < N := by omega
theorem Ara.len (A : Ara Z h a ty N F) : ∃ cl, Arr Z h a cl ty ∧ cl.slots.size = N := by obtain ⟨c, q, r, -⟩ := A; exact ⟨c, q, r⟩
theorem G.arrlen (C : Cx p s m meth c Z y bytes maxL ret) (A : Ara Z h a ty N F) {z : Int32} (hz : z.toInt = N) (hd : decode bytes pc = .ok (.arraylength, 1)) (hp : pc + 1 = pc') (nx : G p l e R s m args below meth c n0 P h k n (mkF m pc' Ls (.int z :: S))) : G p l e R s m args below meth c n0 P h k n (mkF m pc Ls (.ref a :: S)) := by
  obtain ⟨cl, A, r, -⟩ := A
  have q0 : ¬ z < 0 := by rw [Int32.lt_iff_toInt_lt, hz]; show ¬ ((N : Int) < 0); omega
  have q1 : cl.slots.size = z.toNatClampNeg := by rw [r]; show N = z.toInt.toNat; omega
  subst hp; exact G.pl (fun T locs X eT t q => X.arraylength C.1 (by rw [eT]; exact A.1) (State.isArrayOf_alike C.2.1.alike A.2.1) (g := mkF m pc Ls (.ref a :: S)) rfl rfl (hb C.2.2.1 hd) t (by rw [len_of q1 q0]; exact q)) nx
theorem G.caload (C : Cx p s m meth c Z y bytes maxL ret) (A : Ara Z h a .char N F) {j : Int32} (q : 0 ≤ j.toInt ∧ j.toInt < N) (hd : decode bytes pc = .ok (.caload, 1)) (hp : pc + 1 = pc') (nx : G p l e R s m args below meth c n0 P h k n (mkF m pc' Ls (F j.toInt.toNat :: S))) : G p l e R s m args below meth c n0 P h k n (mkF m pc Ls (.int j :: .ref a :: S)) := by
  obtain ⟨cl, A, r1, r2⟩ := A
  subst hp; exact G.pl (fun T locs X eT t z => X.caload C.1 (j := j) (v := F j.toInt.toNat) (by rw [eT]; exact A.1) (State.isArrayOf_alike C.2.1.alike A.2.1) A.2.2 (own_in r1 q) (r2 _ (own_ix q)) (g := mkF m pc Ls (.int j :: .ref a :: S)) rfl rfl (hb C.2.2.1 hd) _ z) nx
theorem G.laload (C : Cx p s m meth c Z y bytes maxL ret) (A : Ara Z h a .long N F) {j : Int32} (q : 0 ≤ j.toInt ∧ j.toInt < N) (hd : decode bytes pc = .ok (.laload, 1)) (hp : pc + 1 = pc') (nx : G p l e R s m args below meth c n0 P h k n (mkF m pc' Ls (F j.toInt.toNat :: S))) : G p l e R s m args below meth c n0 P h k n (mkF m pc Ls (.int j :: .ref a :: S)) := by
  obtain ⟨cl, A, r1, r2⟩ := A
  subst hp; exact G.pl (fun T locs X eT t z => X.laload C.1 (j := j) (v := F j.toInt.toNat) (by rw [eT]; exact A.1) (State.isArrayOf_alike C.2.1.alike A.2.1) A.2.2 (own_in r1 q) (r2 _ (own_ix q)) (g := mkF m pc Ls (.int j :: .ref a :: S)) rfl rfl (hb C.2.2.1 hd) _ z) nx
theorem G.baloadB (C : Cx p s m meth c Z y bytes maxL ret) (A : Ara Z h a .byte N F) {j : Int32} (q : 0 ≤ j.toInt ∧ j.toInt < N) (hd : decode bytes pc = .ok (.baload, 1)) (hp : pc + 1 = pc') (nx : G p l e R s m args below meth c n0 P h k n (mkF m pc' Ls (F j.toInt.toNat :: S))) : G p l e R s m args below meth c n0 P h k n (mkF m pc Ls (.int j :: .ref a :: S)) := by
  obtain ⟨cl, A, r1, r2⟩ := A
  subst hp; exact G.pl (fun T locs X eT t z => X.baloadBytes C.1 (j := j) (v := F j.toInt.toNat) (by rw [eT]; exact A.1) (State.isArrayOf_alike C.2.1.alike A.2.1) A.2.2 (own_in r1 q) (r2 _ (own_ix q)) (g := mkF m pc Ls (.int j :: .ref a :: S)) rfl rfl (hb C.2.2.1 hd) _ z) nx
theorem G.baloadZ (C : Cx p s m meth c Z y bytes maxL ret) (A : Ara Z h a .boolean N F) {j : Int32} (q : 0 ≤ j.toInt ∧ j.toInt < N) (hd : decode bytes pc = .ok (.baload, 1)) (hp : pc + 1 = pc') (nx : G p l e R s m args below meth c n0 P h k n (mkF m pc' Ls (F j.toInt.toNat :: S))) : G p l e R s m args below meth c n0 P h k n (mkF m pc Ls (.int j :: .ref a :: S)) := by
  obtain ⟨cl, A, r1, r2⟩ := A
  subst hp; exact G.pl (fun T locs X eT t z => X.baloadBooleans C.1 (j := j) (v := F j.toInt.toNat) (by rw [eT]; exact A.1) (State.isArrayOf_alike C.2.1.alike A.2.1) A.2.2 (own_in r1 q) (r2 _ (own_ix q)) (g := mkF m pc Ls (.int j :: .ref a :: S)) rfl rfl (hb C.2.2.1 hd) _ z) nx
theorem G.aaload (C : Cx p s m meth c Z y bytes maxL ret) {D : String} (A : Ara Z h a (.object D) N F) {j : Int32} (q : 0 ≤ j.toInt ∧ j.toInt < N) (hd : decode bytes pc = .ok (.aaload, 1)) (hp : pc + 1 = pc') (nx : G p l e R s m args below meth c n0 P h k n (mkF m pc' Ls (F j.toInt.toNat :: S))) : G p l e R s m args below meth c n0 P h k n (mkF m pc Ls (.int j :: .ref a :: S)) := by
  obtain ⟨cl, A, r1, r2⟩ := A
  subst hp; exact G.pl (fun T locs X eT t z => X.aaload C.1 (j := j) (v := F j.toInt.toNat) (by rw [eT]; exact A.1) (State.isArrayOf_alike C.2.1.alike A.2.1) rfl A.2.2 (own_in r1 q) (r2 _ (own_ix q)) (g := mkF m pc Ls (.int j :: .ref a :: S)) rfl rfl (hb C.2.2.1 hd) _ z) nx
theorem G.castore (C : Cx p s m meth c Z y bytes maxL ret) (A : Ara Z h a .char N F) {j x : Int32} (q : 0 ≤ j.toInt ∧ j.toInt < N) (ha : n0 ≤ a) (hd : decode bytes pc = .ok (.castore, 1)) (hp : pc + 1 = pc') (nx : ∀ h', Wr h h' a j.toInt.toNat (.int (nar .char x)) → G p l e R s m args below meth c n0 P h' k n (mkF m pc' Ls S)) : G p l e R s m args below meth c n0 P h k n (mkF m pc Ls (.int x :: .int j :: .ref a :: S)) := fun T locs X eT M => by
  obtain ⟨cl, A, r1, r2⟩ := A
  subst hp
  obtain ⟨T', h', X', e', W, st⟩ := Jvm.RoadKit.stC X C.1 C.2.1 eT A (j := j) (own_in r1 q) (g := mkF m pc Ls (.int x :: .int j :: .ref a :: S)) rfl rfl (hb C.2.2.1 hd)
  obtain ⟨s₂, o, h1, rr⟩ := nx h' W T' _ X' e' (Fr.snoc X' M ha)
  exact ⟨s₂, o, st _ h1, rr⟩
theorem G.lastore (C : Cx p s m meth c Z y bytes maxL ret) (A : Ara Z h a .long N F) {j : Int32} {x : Int64} (q : 0 ≤ j.toInt ∧ j.toInt < N) (ha : n0 ≤ a) (hd : decode bytes pc = .ok (.lastore, 1)) (hp : pc + 1 = pc') (nx : ∀ h', Wr h h' a j.toInt.toNat (.long x) → G p l e R s m args below meth c n0 P h' k n (mkF m pc' Ls S)) : G p l e R s m args below meth c n0 P h k n (mkF m pc Ls (.long x :: .int j :: .ref a :: S)) := fun T locs X eT M => by
  obtain ⟨cl, A, r1, r2⟩ := A
  subst hp
  obtain ⟨T', h', X', e', W, st⟩ := Jvm.RoadKit.stJ X C.1 C.2.1 eT A (j := j) (own_in r1 q) (g := mkF m pc Ls (.long x :: .int j :: .ref a :: S)) rfl rfl (hb C.2.2.1 hd)
  obtain ⟨s₂, o, h1, rr⟩ := nx h' W T' _ X' e' (Fr.snoc X' M ha)
  exact ⟨s₂, o, st _ h1, rr⟩
theorem G.bastoreZ (C : Cx p s m meth c Z y bytes maxL ret) (A : Ara Z h a .boolean N F) {j x : Int32} (q : 0 ≤ j.toInt ∧ j.toInt < N) (ha : n0 ≤ a) (hd : decode bytes pc = .ok (.bastore, 1)) (hp : pc + 1 = pc') (nx : ∀ h', Wr h h' a j.toInt.toNat (.int (nar .boolean x)) → G p l e R s m args below meth c n0 P h' k n (mkF m pc' Ls S)) : G p l e R s m args below meth c n0 P h k n (mkF m pc Ls (.int x :: .int j :: .ref a :: S)) := fun T locs X eT M => by
  obtain ⟨cl, A, r1, r2⟩ := A
  subst hp
  obtain ⟨T', h', X', e', W, st⟩ := Jvm.RoadKit.stZ X C.1 C.2.1 eT A (j := j) (own_in r1 q) (g := mkF m pc Ls (.int x :: .int j :: .ref a :: S)) rfl rfl (hb C.2.2.1 hd)
  obtain ⟨s₂, o, h1, rr⟩ := nx h' W T' _ X' e' (Fr.snoc X' M ha)
  exact ⟨s₂, o, st _ h1, rr⟩
theorem G.bastoreB (C : Cx p s m meth c Z y bytes maxL ret) (A : Ara Z h a .byte N F) {j x : Int32} (q : 0 ≤ j.toInt ∧ j.toInt < N) (ha : n0 ≤ a) (hd : decode bytes pc = .ok (.bastore, 1)) (hp : pc + 1 = pc') (nx : ∀ h', Wr h h' a j.toInt.toNat (.int (nar .byte x)) → G p l e R s m args below meth c n0 P h' k n (mkF m pc' Ls S)) : G p l e R s m args below meth c n0 P h k n (mkF m pc Ls (.int x :: .int j :: .ref a :: S)) := fun T locs X eT M => by
  obtain ⟨cl, A, r1, r2⟩ := A
  subst hp
  obtain ⟨T', h', X', e', W, st⟩ := Jvm.RoadKit.stB X C.1 C.2.1 eT A (j := j) (own_in r1 q) (g := mkF m pc Ls (.int x :: .int j :: .ref a :: S)) rfl rfl (hb C.2.2.1 hd)
  obtain ⟨s₂, o, h1, rr⟩ := nx h' W T' _ X' e' (Fr.snoc X' M ha)
  exact ⟨s₂, o, st _ h1, rr⟩
theorem G.newarr (C : Cx p s m meth c Z y bytes maxL ret) {aty : ArrayType} (w : (Jvm.Cond.arrayClass (newarray.typeOf aty)).before a0 Z = true) {z : Int32} (hz : 0 ≤ z.toInt) {cap : Nat} (hcap : z.toInt ≤ cap) (hbg : cap * 8 ≤ 536870912) (hd : decode bytes pc = .ok (.newarray aty, 2)) (hk : k + 1 ≤ R.cells) (hn : n + cap ≤ R.slots) (hp : pc + 2 = pc')
    (nx : ∀ h' a, a = h.size → Ext h h' → Ara Z h' a (newarray.typeOf aty) z.toInt.toNat (fun _ => defaultValue (newarray.typeOf aty)) → G p l e R s m args below meth c n0 P h' (k + 1) (n + cap) (mkF m pc' Ls (.ref a :: S))) : G p l e R s m args below meth c n0 P h k n (mkF m pc Ls (.int z :: S)) := fun T locs X eT M => by
  subst hp
  have q0 : ¬ z < 0 := by rw [Int32.lt_iff_toInt_lt]; show ¬ z.toInt < 0; omega
  obtain ⟨T', h', ka, X', e', E, A, st⟩ := Jvm.RoadKit.newP X C.1 C.2.1 w eT (g := mkF m pc Ls (.int z :: S)) rfl (hb C.2.2.1 hd) rfl q0 (cap := cap) (by show z.toInt.toNat ≤ cap; omega) hbg hk hn
  obtain ⟨s₂, o, h1, rr⟩ := nx h' _ rfl E (Ara.new A) T' _ X' e' M
  exact ⟨s₂, o, st _ h1, rr⟩
end Arrays
end Own
theorem pd0 : parseMethodDescriptor "(I)I" = some ⟨[.int], some .int⟩ := by decide +kernel
theorem pd1 : parseMethodDescriptor "([D[D)[D" = some ⟨[(.array .double), (.array .double)], some (.array .double)⟩ := by decide +kernel
section
open Jvm.FP Jvm.FP.Core
/-- a whole quotient of whole numbers is that whole number -/
theorem own_quot {i u : Int} {x y : Datum} (hx : Whole (i * u) x) (hy : Whole u y) (hu : u ≠ 0) (hi : i.natAbs ≤ 2 ^ 53) : Whole i (quotient b64 x y) := by
  cases x with
  | nan => exact hx.elim
  | inf => exact hx.elim
  | fin s c r =>
  cases y with
  | nan => exact hy.elim
  | inf => exact hy.elim
  | fin t d w =>
    have h1 := whole_natAbs hx
    have h2 := whole_natAbs hy
    have hun : 0 < u.natAbs := Int.natAbs_pos.mpr hu
    have hd : d ≠ 0 := fun q => by
      rw [q, Nat.zero_mul] at h2
      have := Nat.mul_pos hun (Nat.two_pow_pos (-w).toNat)
      omega
    have hdp : 0 < d := Nat.pos_of_ne_zero hd
    show Whole i (if d = 0 then _ else roundRatio b64 (s != t) c d (r - w))
    rw [if_neg hd]
    have key : c * 2 ^ (r - w).toNat = i.natAbs * d * 2 ^ (w - r).toNat := by
      refine Nat.eq_of_mul_eq_mul_right (Nat.mul_pos (Nat.two_pow_pos r.toNat) (Nat.mul_pos hun (Nat.two_pow_pos (-w).toNat))) ?_
      have hexp : (r - w).toNat + ((-r).toNat + w.toNat) = (w - r).toNat + (r.toNat + (-w).toNat) := by omega
      rw [Int.natAbs_mul] at h1
      calc c * 2 ^ (r - w).toNat * (2 ^ r.toNat * (u.natAbs * 2 ^ (-w).toNat))
          = (c * 2 ^ r.toNat) * (u.natAbs * 2 ^ (-w).toNat) * 2 ^ (r - w).toNat := by ac_rfl
        _ = (i.natAbs * u.natAbs * 2 ^ (-r).toNat) * (d * 2 ^ w.toNat) * 2 ^ (r - w).toNat := by rw [h1, h2]
        _ = i.natAbs * u.natAbs * d * 2 ^ ((r - w).toNat + ((-r).toNat + w.toNat)) := by simp only [Nat.pow_add]; ac_rfl
        _ = i.natAbs * u.natAbs * d * 2 ^ ((w - r).toNat + (r.toNat + (-w).toNat)) := by rw [hexp]
        _ = i.natAbs * d * 2 ^ (w - r).toNat * (2 ^ r.toNat * (u.natAbs * 2 ^ (-w).toNat)) := by simp only [Nat.pow_add]; ac_rfl
    have e0 : roundRatio b64 (s != t) c d (r - w) = roundRatio b64 (s != t) i.natAbs 1 0 := by
      refine roundRatio_congr hdp (by decide) ?_
      rw [show (r - w - 0).toNat = (r - w).toNat by omega, show (0 - (r - w)).toNat = (w - r).toNat by omega, Nat.mul_one]
      exact key
    rw [e0]
    have hs : Whole i (.fin (s != t) i.natAbs 0) := by
      show signed (s != t) (i.natAbs * 2 ^ (0 : Int).toNat) = i * ((2 ^ (-(0 : Int)).toNat : Nat) : Int)
      rw [show (0 : Int).toNat = 0 from rfl, show (-(0 : Int)).toNat = 0 from rfl, Nat.pow_zero, Nat.mul_one, show ((1 : Nat) : Int) = 1 from rfl, Int.mul_one]
      by_cases h0 : i = 0
      · rw [h0]; exact signed_zero _
      · have s1 := whole_sign hx (Int.mul_ne_zero h0 hu)
        have s2 := whole_sign hy hu
        have s3 : (s != t) = decide (i < 0) := by
          rw [s1, s2]
          rcases Int.lt_or_gt_of_ne h0 with a | a <;> rcases Int.lt_or_gt_of_ne hu with b | b
          · have := Int.mul_pos_of_neg_of_neg a b
            simp [a, b, show ¬ i * u < 0 by omega]
          · have := Int.mul_neg_of_neg_of_pos a b
            simp [a, this, show ¬ u < 0 by omega]
          · have := Int.mul_neg_of_pos_of_neg a b
            simp [b, this, show ¬ i < 0 by omega]
          · have := Int.mul_pos a b
            simp [show ¬ i < 0 by omega, show ¬ u < 0 by omega, show ¬ i * u < 0 by omega]
        rw [s3]
        unfold signed
        by_cases q : i < 0 <;> simp [q] <;> omega
    exact whole_round good_b64 wide_b64 hi hs
theorem own_dd {i u : Int} {a b : UInt64} (ha : DInt (i * u) a) (hb : DInt u b) (hu : u ≠ 0) (hi : i.natAbs ≤ 2 ^ 53) : DInt i (FP.ddiv a b) := by
  show Whole i (val64 (Core.ddiv a b))
  rw [val64_ddiv]
  exact own_quot ha hb hu hi
theorem own_nn {i : Int} {a : UInt64} (h : DInt i a) : Jvm.Free.Fl.NoNaN64 a := Jvm.Free.Fl.val64_no.mpr fun q => by
  unfold DInt at h
  rw [q] at h
  exact h
theorem own_cv {i : Int} {a b : UInt64} (ha : DInt i a) (hb : DInt i b) : cmpValue (FP.dcmp a b) .l = 0 := by
  rw [show FP.dcmp a b = some (compare i i) from dcmp_int ha hb]
  have e : compare i i = .eq := by simp [compare, compareOfLessAndEq]
  rw [e]; rfl
end
def own_q (x : Int32) : Int32 := x >>> ((16 : Int32) &&& 31)
def own_u (x : Int32) : Int32 := if ((x >>> ((15 : Int32) &&& 31)) &&& (1 : Int32)) = 0 then (x &&& (32767 : Int32)) + (1 : Int32) else -((x &&& (32767 : Int32)) + (1 : Int32))
theorem own_q_r (x : Int32) : -32768 ≤ (own_q x).toInt ∧ (own_q x).toInt ≤ 32767 := by
  have a := c_ishr x 16 16 (by decide)
  have r := rng32 x
  unfold own_q
  rw [a]
  omega
theorem own_u_r (x : Int32) : (own_u x).toInt ≠ 0 ∧ -32768 ≤ (own_u x).toInt ∧ (own_u x).toInt ≤ 32768 := by
  have a := c_mask x 32767 15 (by decide) (by decide)
  have b := c_iadd (x &&& 32767) 1
  have o : (1 : Int32).toInt = 1 := by decide
  have r := rng32 ((x &&& (32767 : Int32)) + (1 : Int32))
  have n := c_ineg ((x &&& (32767 : Int32)) + (1 : Int32))
  have r2 := rng32 (-((x &&& (32767 : Int32)) + (1 : Int32)))
  unfold own_u
  split <;> omega
theorem own_qu {q u : Int32} (hq : -32768 ≤ q.toInt ∧ q.toInt ≤ 32767) (hu : u.toInt ≠ 0 ∧ -32768 ≤ u.toInt ∧ u.toInt ≤ 32768) : (q * u).toInt = q.toInt * u.toInt := by
  have m := c_imul q u
  have r := rng32 (q * u)
  have b : (q.toInt * u.toInt).natAbs ≤ 32768 * 32768 := by rw [Int.natAbs_mul]; exact Nat.mul_le_mul (by omega) (by omega)
  omega
theorem own_D {q u : Int32} (hq : -32768 ≤ q.toInt ∧ q.toInt ≤ 32767) (hu : u.toInt ≠ 0 ∧ -32768 ≤ u.toInt ∧ u.toInt ≤ 32768) : Jvm.FP.Core.DInt q.toInt (FP.ddiv (FP.i2d (q * u)) (FP.i2d u)) :=
  own_dd (by have e := Jvm.FP.Core.i2d_int (q * u); rw [own_qu hq hu] at e; exact e) (Jvm.FP.Core.i2d_int u) hu.1 (by omega)
theorem own_Dn {q u : Int32} (hq : -32768 ≤ q.toInt ∧ q.toInt ≤ 32767) (hu : u.toInt ≠ 0 ∧ -32768 ≤ u.toInt ∧ u.toInt ≤ 32768) : Jvm.Free.Fl.NoNaN64 (FP.ddiv (FP.i2d (q * u)) (FP.i2d u)) := own_nn (own_D hq hu)
theorem own_c1 {q u : Int32} (hq : -32768 ≤ q.toInt ∧ q.toInt ≤ 32767) (hu : u.toInt ≠ 0 ∧ -32768 ≤ u.toInt ∧ u.toInt ≤ 32768) : cmpValue (FP.dcmp (FP.ddiv (FP.i2d (q * u)) (FP.i2d u)) (FP.i2d q)) .l = 0 := own_cv (own_D hq hu) (Jvm.FP.Core.i2d_int q)
theorem own_c0 (x : Int32) : cmpValue (FP.dcmp (FP.i2d x) (FP.i2d x)) .l = 0 := own_cv (Jvm.FP.Core.i2d_int x) (Jvm.FP.Core.i2d_int x)
def own_td (L : List UInt64) : Nat → Value := fun i => .double (L.getD i 0)
theorem own_dset (L : List UInt64) (j : Nat) (x : UInt64) (hj : j < L.length) (q : Nat) : (if q = j then Value.double x else own_td L q) = own_td (L.set j x) q := by
  unfold own_td
  rw [List.getD_eq_getElem?_getD, List.getD_eq_getElem?_getD, List.getElem?_set]
  by_cases e : q = j
  · subst e; simp [hj]
  · rw [if_neg e, if_neg (fun z => e z.symm)]
theorem own_d0 (n q : Nat) : Value.double 0 = own_td (List.replicate n (0 : UInt64)) q := by
  unfold own_td
  rw [List.getD_eq_getElem?_getD, List.getElem?_replicate]
  split <;> rfl
section
variable {p : Program} {l : Launch} {e : Env} {R : Room} {s : State} {m : MethodId} {args : Array Value} {below : List Frame} {meth : Method} {c : Code} {Z : State} {a0 : Array Value} {y : MethodName} {bytes : ByteArray} {maxL : Nat} {ret : Option FieldType} {Q : Option Value → Heap → Prop} {P : Option Value → State → Prop} {n0 : Nat} {h : Heap} {k n : Nat} {f f' : JFrame} {pc pc' pt : Nat} {Ls : Array Slot} {S : List Value}
theorem G.i2d (C : Cx p s m meth c Z y bytes maxL ret) {x : Int32} (hd : decode bytes pc = .ok (.i2d, 1)) (hp : pc + 1 = pc') (nx : G p l e R s m args below meth c n0 P h k n (mkF m pc' Ls (.double (FP.i2d x) :: S))) : G p l e R s m args below meth c n0 P h k n (mkF m pc Ls (.int x :: S)) := by
  subst hp; exact G.pl (fun T locs X eT t q => Jvm.Free.XS.i2dS X.here C.1 rfl (hb C.2.2.1 hd) rfl rfl q) nx
theorem G.ddiv (C : Cx p s m meth c Z y bytes maxL ret) {x z : UInt64} (hn : Jvm.Free.Fl.NoNaN64 (FP.ddiv x z)) (hd : decode bytes pc = .ok (.ddiv, 1)) (hp : pc + 1 = pc') (nx : G p l e R s m args below meth c n0 P h k n (mkF m pc' Ls (.double (FP.ddiv x z) :: S))) : G p l e R s m args below meth c n0 P h k n (mkF m pc Ls (.double z :: .double x :: S)) := by
  subst hp; exact G.pl (fun T locs X eT t q => Jvm.Free.XS.ddivS X.here C.1 rfl (hb C.2.2.1 hd) rfl hn rfl q) nx
theorem G.dcmpl (C : Cx p s m meth c Z y bytes maxL ret) {x z : UInt64} {v : Int32} (hv : cmpValue (FP.dcmp x z) .l = v) (hd : decode bytes pc = .ok (.dcmp .l, 1)) (hp : pc + 1 = pc') (nx : G p l e R s m args below meth c n0 P h k n (mkF m pc' Ls (.int v :: S))) : G p l e R s m args below meth c n0 P h k n (mkF m pc Ls (.double z :: .double x :: S)) := by
  subst hp; exact G.pl (fun T locs X eT t q => Jvm.Free.XS.dcmpS X.here C.1 rfl (hb C.2.2.1 hd) rfl hv q) nx
theorem G.daload (C : Cx p s m meth c Z y bytes maxL ret) {a : Addr} {N : Nat} {F : Nat → Value} (A : Ara Z h a .double N F) {j : Int32} (q : 0 ≤ j.toInt ∧ j.toInt < N) (hd : decode bytes pc = .ok (.daload, 1)) (hp : pc + 1 = pc') (nx : G p l e R s m args below meth c n0 P h k n (mkF m pc' Ls (F j.toInt.toNat :: S))) : G p l e R s m args below meth c n0 P h k n (mkF m pc Ls (.int j :: .ref a :: S)) := by
  obtain ⟨cl, A, r1, r2⟩ := A
  subst hp; exact G.pl (fun T locs X eT t z => X.daload C.1 (j := j) (v := F j.toInt.toNat) (by rw [eT]; exact A.1) (State.isArrayOf_alike C.2.1.alike A.2.1) A.2.2 (own_in r1 q) (r2 _ (own_ix q)) (g := mkF m pc Ls (.int j :: .ref a :: S)) rfl rfl (hb C.2.2.1 hd) _ z) nx
theorem G.dastore (C : Cx p s m meth c Z y bytes maxL ret) {a : Addr} {N : Nat} {F : Nat → Value} (A : Ara Z h a .double N F) {j : Int32} {x : UInt64} (q : 0 ≤ j.toInt ∧ j.toInt < N) (ha : n0 ≤ a) (hd : decode bytes pc = .ok (.dastore, 1)) (hp : pc + 1 = pc') (nx : ∀ h', Wr h h' a j.toInt.toNat (.double x) → G p l e R s m args below meth c n0 P h' k n (mkF m pc' Ls S)) : G p l e R s m args below meth c n0 P h k n (mkF m pc Ls (.double x :: .int j :: .ref a :: S)) := fun T locs X eT M => by
  obtain ⟨cl, A, r1, r2⟩ := A
  subst hp
  obtain ⟨T', h', X', e', W, st⟩ := Jvm.RoadKit.stD X C.1 C.2.1 eT A (j := j) (own_in r1 q) (g := mkF m pc Ls (.double x :: .int j :: .ref a :: S)) rfl rfl (hb C.2.2.1 hd)
  obtain ⟨s₂, o, h1, rr⟩ := nx h' W T' _ X' e' (Fr.snoc X' M ha)
  exact ⟨s₂, o, st _ h1, rr⟩
end
theorem own_k3 (x : Int32) : (x &&& (3 : Int32)) = 0 ∨ (x &&& (3 : Int32)) = 1 ∨ (x &&& (3 : Int32)) = 2 ∨ (x &&& (3 : Int32)) = 3 := by
  have a := c_mask x 3 2 (by decide) (by decide)
  have e : ∀ k : Int32, (x &&& (3 : Int32)) = k ↔ (x &&& (3 : Int32)).toInt = k.toInt := fun k => Int32.toInt_inj.symm
  have e0 := e 0
  have e1 := e 1
  have e2 := e 2
  have e3 := e 3
  have o0 : (0 : Int32).toInt = 0 := by decide
  have o1 : (1 : Int32).toInt = 1 := by decide
  have o2 : (2 : Int32).toInt = 2 := by decide
  have o3 : (3 : Int32).toInt = 3 := by decide
  rw [o0] at e0
  rw [o1] at e1
  rw [o2] at e2
  rw [o3] at e3
  rw [e0, e1, e2, e3]
  omega
theorem d1_0 : decode method_2_code 0 = .ok (.iload_n 0, 1) := by decide +kernel
theorem d1_1 : decode method_2_code 1 = .ok (.bipush 16, 2) := by decide +kernel
theorem d1_3 : decode method_2_code 3 = .ok (.ishr, 1) := by decide +kernel
theorem d1_4 : decode method_2_code 4 = .ok (.ireturn, 1) := by decide +kernel
theorem pn0 : plainName "io/keyfold/SideBySideRatiosPinLaw" = true := by first | (simp [plainName, overriddenIn]; done) | decide +kernel
theorem ef_c1 (m : MethodId) (i1 : Int32) : entryFrame m #[(.int i1)] 1 = mkF m 0 #[.val (.int i1)] [] := by first | (simp [entryFrame, mkF, argsToLocals, Value.category]; done) | rfl
set_option maxRecDepth 65536 in
set_option maxHeartbeats 40000000 in
theorem c1 (l : Launch) (Z : State) (a0 : Array Value) (hw : ∀ d ∈ tables_1, d.before a0 Z = true) (i1 : Int32) (h : Heap) (n0 : Nat)  : Con l Z (⟨"io/keyfold/SideBySideRatiosPinLaw", "quot", "(I)I"⟩ : MethodName) method_2_code 1 (some .int) ({ frames := 0, cells := 0, slots := 0, locals := 0 } : Room) #[(.int i1)] h n0 (Pv (.int (own_q i1)) h) := by
  refine Con.of (plainFor_of_name pn0) (fun m => ef_c1 m i1) ?_
  intro p e s m below meth c C
  refine G.iloadN C d1_0 rfl rfl ?_
  refine G.bipush C d1_1 (v := (16 : Int32)) rfl rfl ?_
  refine G.ishr C d1_3 rfl ?_
  exact G.retI C d1_4 (by decide) (by decide) (⟨rfl, rfl⟩)
theorem d2_0 : decode method_3_code 0 = .ok (.iload_n 0, 1) := by decide +kernel
theorem d2_1 : decode method_3_code 1 = .ok (.sipush 32767, 3) := by decide +kernel
theorem d2_4 : decode method_3_code 4 = .ok (.iand, 1) := by decide +kernel
theorem d2_5 : decode method_3_code 5 = .ok (.iconst 1, 1) := by decide +kernel
theorem d2_6 : decode method_3_code 6 = .ok (.iadd, 1) := by decide +kernel
theorem d2_7 : decode method_3_code 7 = .ok (.istore_n 1, 1) := by decide +kernel
theorem d2_8 : decode method_3_code 8 = .ok (.iload_n 0, 1) := by decide +kernel
theorem d2_9 : decode method_3_code 9 = .ok (.bipush 15, 2) := by decide +kernel
theorem d2_11 : decode method_3_code 11 = .ok (.ishr, 1) := by decide +kernel
theorem d2_12 : decode method_3_code 12 = .ok (.iconst 1, 1) := by decide +kernel
theorem d2_13 : decode method_3_code 13 = .ok (.iand, 1) := by decide +kernel
theorem d2_14 : decode method_3_code 14 = .ok (.ifCond .ne 7, 3) := by decide +kernel
theorem d2_17 : decode method_3_code 17 = .ok (.iload_n 1, 1) := by decide +kernel
theorem d2_18 : decode method_3_code 18 = .ok (.goto 5, 3) := by decide +kernel
theorem d2_21 : decode method_3_code 21 = .ok (.iload_n 1, 1) := by decide +kernel
theorem d2_22 : decode method_3_code 22 = .ok (.ineg, 1) := by decide +kernel
theorem d2_23 : decode method_3_code 23 = .ok (.ireturn, 1) := by decide +kernel
theorem ef_c2 (m : MethodId) (i1 : Int32) : entryFrame m #[(.int i1)] 2 = mkF m 0 #[.val (.int i1), .unset] [] := by first | (simp [entryFrame, mkF, argsToLocals, Value.category]; done) | rfl
set_option maxRecDepth 65536 in
set_option maxHeartbeats 40000000 in
theorem c2 (l : Launch) (Z : State) (a0 : Array Value) (hw : ∀ d ∈ tables_1, d.before a0 Z = true) (i1 : Int32) (h : Heap) (n0 : Nat)  : Con l Z (⟨"io/keyfold/SideBySideRatiosPinLaw", "div", "(I)I"⟩ : MethodName) method_3_code 2 (some .int) ({ frames := 0, cells := 0, slots := 0, locals := 0 } : Room) #[(.int i1)] h n0 (Pv (.int (own_u i1)) h) := by
  refine Con.of (plainFor_of_name pn0) (fun m => ef_c2 m i1) ?_
  intro p e s m below meth c C
  refine G.iloadN C d2_0 rfl rfl ?_
  refine G.sipush C d2_1 (v := (32767 : Int32)) rfl rfl ?_
  refine G.iand C d2_4 rfl ?_
  refine G.iconst C d2_5 (v := (1 : Int32)) rfl rfl ?_
  refine G.iadd C d2_6 rfl ?_
  refine G.istoreN C d2_7 (Ls' := #[.val (.int i1), .val (.int ((i1 &&& (32767 : Int32)) + (1 : Int32)))]) rfl rfl ?_
  refine G.iloadN C d2_8 rfl rfl ?_
  refine G.bipush C d2_9 (v := (15 : Int32)) rfl rfl ?_
  refine G.ishr C d2_11 rfl ?_
  refine G.iconst C d2_12 (v := (1 : Int32)) rfl rfl ?_
  refine G.iand C d2_13 rfl ?_
  refine G.ifne C d2_14 (by decide) (pt := 21) (by decide) rfl (fun hc14 => ?_) (fun hc14 => ?_)
  · refine G.iloadN C d2_21 rfl rfl ?_
    refine G.ineg C d2_22 rfl ?_
    exact G.retI C d2_23 (by decide) (by decide) (⟨by unfold own_u; rw [if_neg hc14], rfl⟩)
  · refine G.iloadN C d2_17 rfl rfl ?_
    refine G.goto C d2_18 (by decide) (pc' := 23) (by decide) ?_
    exact G.retI C d2_23 (by decide) (by decide) (⟨by unfold own_u; rw [if_pos hc14], rfl⟩)
theorem d3_0 : decode prog_10_method_4_code 0 = .ok (.aload_n 0, 1) := by decide +kernel
theorem d3_1 : decode prog_10_method_4_code 1 = .ok (.arraylength, 1) := by decide +kernel
theorem d3_2 : decode prog_10_method_4_code 2 = .ok (.newarray .double, 2) := by decide +kernel
theorem d3_4 : decode prog_10_method_4_code 4 = .ok (.astore_n 2, 1) := by decide +kernel
theorem d3_5 : decode prog_10_method_4_code 5 = .ok (.iconst 0, 1) := by decide +kernel
theorem d3_6 : decode prog_10_method_4_code 6 = .ok (.istore_n 3, 1) := by decide +kernel
theorem d3_7 : decode prog_10_method_4_code 7 = .ok (.iload_n 3, 1) := by decide +kernel
theorem d3_8 : decode prog_10_method_4_code 8 = .ok (.aload_n 0, 1) := by decide +kernel
theorem d3_9 : decode prog_10_method_4_code 9 = .ok (.arraylength, 1) := by decide +kernel
theorem d3_10 : decode prog_10_method_4_code 10 = .ok (.if_icmp .ge 19, 3) := by decide +kernel
theorem d3_13 : decode prog_10_method_4_code 13 = .ok (.aload_n 2, 1) := by decide +kernel
theorem d3_14 : decode prog_10_method_4_code 14 = .ok (.iload_n 3, 1) := by decide +kernel
theorem d3_15 : decode prog_10_method_4_code 15 = .ok (.aload_n 0, 1) := by decide +kernel
theorem d3_16 : decode prog_10_method_4_code 16 = .ok (.iload_n 3, 1) := by decide +kernel
theorem d3_17 : decode prog_10_method_4_code 17 = .ok (.daload, 1) := by decide +kernel
theorem d3_18 : decode prog_10_method_4_code 18 = .ok (.aload_n 1, 1) := by decide +kernel
theorem d3_19 : decode prog_10_method_4_code 19 = .ok (.iload_n 3, 1) := by decide +kernel
theorem d3_20 : decode prog_10_method_4_code 20 = .ok (.daload, 1) := by decide +kernel
theorem d3_21 : decode prog_10_method_4_code 21 = .ok (.ddiv, 1) := by decide +kernel
theorem d3_22 : decode prog_10_method_4_code 22 = .ok (.dastore, 1) := by decide +kernel
theorem d3_23 : decode prog_10_method_4_code 23 = .ok (.iinc 3 1, 3) := by decide +kernel
theorem d3_26 : decode prog_10_method_4_code 26 = .ok (.goto (-19), 3) := by decide +kernel
theorem d3_29 : decode prog_10_method_4_code 29 = .ok (.aload_n 2, 1) := by decide +kernel
theorem d3_30 : decode prog_10_method_4_code 30 = .ok (.areturn, 1) := by decide +kernel
theorem pn1 : plainName "io/keyfold/SideBySide" = true := by first | (simp [plainName, overriddenIn]; done) | decide +kernel
theorem ef_cR0 (m : MethodId) (a1 : Addr) (a2 : Addr) : entryFrame m #[(.ref a1), (.ref a2)] 4 = mkF m 0 #[.val (.ref a1), .val (.ref a2), .unset, .unset] [] := by first | (simp [entryFrame, mkF, argsToLocals, Value.category]; done) | rfl
set_option maxRecDepth 65536 in
set_option maxHeartbeats 40000000 in
theorem cR0 (l : Launch) (Z : State) (a0 : Array Value) (hw : ∀ d ∈ tables_1, d.before a0 Z = true) (a1 : Addr) (a2 : Addr) (h : Heap) (n0 : Nat) (A : Ara Z h a1 .double 0 (own_td [])) (B : Ara Z h a2 .double 0 (own_td []))  (sz : n0 ≤ h.size) : Con l Z (⟨"io/keyfold/SideBySide", "ratios", "([D[D)[D"⟩ : MethodName) prog_10_method_4_code 4 (some (.array .double)) ({ frames := 0, cells := 1, slots := 0, locals := 0 } : Room) #[(.ref a1), (.ref a2)] h n0 (fun v h' => ∃ b, v = some (.ref b) ∧ Ara Z h' b .double 0 (own_td []) ∧ Kp h h' [] ∧ h.size ≤ b) := by
  refine Con.of (plainFor_of_name pn1) (fun m => ef_cR0 m a1 a2) ?_
  intro p e s m below meth c C
  refine G.aloadN C d3_0 rfl rfl rfl ?_
  refine G.arrlen C A (z := (0 : Int32)) rfl d3_1 rfl ?_
  refine G.newarr C (aty := .double) (twd hw 7 rfl) (z := (0 : Int32)) (by decide) (cap := 0) (by decide) (by decide) d3_2 (by decide) (by decide) rfl (fun hn1 b2 g2 E2 A2 => ?_)
  have old2 := Nat.le_trans (Kp.refl h []).1.1 (Nat.le_of_eq g2.symm)
  have ne_a1_b2 : a1 ≠ b2 := by rw [g2]; exact Nat.ne_of_lt (Ara.lt A)
  have ne_a2_b2 : a2 ≠ b2 := by rw [g2]; exact Nat.ne_of_lt (Ara.lt B)
  have ge2 : n0 ≤ b2 := by rw [g2]; exact sz
  have oc2 := Ara.ext A E2
  have oc3 := Ara.ext B E2
  have sz4 : n0 ≤ hn1.size := Nat.le_trans sz E2.1
  have kp5 := Kp.ext (Kp.refl h []) E2
  have AA2 : Ara Z hn1 b2 .double 0 (own_td []) := Ara.cast A2 (fun q hq => own_d0 0 q)
  show G p l e _ _ m _ below meth c n0 _ hn1 1 0 (mkF m 4 #[.val (.ref a1), .val (.ref a2), .unset, .unset] [(.ref b2)])
  refine G.astoreN C d3_4 rfl (Ls' := #[.val (.ref a1), .val (.ref a2), .val (.ref b2), .unset]) rfl rfl ?_
  refine G.iconst C d3_5 (v := (0 : Int32)) rfl rfl ?_
  refine G.istoreN C d3_6 (Ls' := #[.val (.ref a1), .val (.ref a2), .val (.ref b2), .val (.int (0 : Int32))]) rfl rfl ?_
  refine G.iloadN C d3_7 rfl rfl ?_
  refine G.aloadN C d3_8 rfl rfl rfl ?_
  refine G.arrlen C oc2 (z := (0 : Int32)) rfl d3_9 rfl ?_
  refine G.icge C d3_10 (by decide) (pt := 29) (by decide) rfl (fun _ => ?_) (fun q => absurd q (by decide))
  refine G.aloadN C d3_29 rfl rfl rfl ?_
  exact G.retA C rfl rfl d3_30 (by decide) (by decide) rfl (⟨_, rfl, AA2, kp5, old2⟩)
theorem ef_cR1 (m : MethodId) (a1 : Addr) (a2 : Addr) : entryFrame m #[(.ref a1), (.ref a2)] 4 = mkF m 0 #[.val (.ref a1), .val (.ref a2), .unset, .unset] [] := by first | (simp [entryFrame, mkF, argsToLocals, Value.category]; done) | rfl
set_option maxRecDepth 65536 in
set_option maxHeartbeats 40000000 in
theorem cR1 (l : Launch) (Z : State) (a0 : Array Value) (hw : ∀ d ∈ tables_1, d.before a0 Z = true) (a1 : Addr) (a2 : Addr) (h : Heap) (n0 : Nat) (x0 y0 : UInt64) (A : Ara Z h a1 .double 1 (own_td [x0])) (B : Ara Z h a2 .double 1 (own_td [y0])) (n_0 : Jvm.Free.Fl.NoNaN64 (FP.ddiv x0 y0)) (sz : n0 ≤ h.size) : Con l Z (⟨"io/keyfold/SideBySide", "ratios", "([D[D)[D"⟩ : MethodName) prog_10_method_4_code 4 (some (.array .double)) ({ frames := 0, cells := 1, slots := 1, locals := 0 } : Room) #[(.ref a1), (.ref a2)] h n0 (fun v h' => ∃ b, v = some (.ref b) ∧ Ara Z h' b .double 1 (own_td [(FP.ddiv x0 y0)]) ∧ Kp h h' [] ∧ h.size ≤ b) := by
  refine Con.of (plainFor_of_name pn1) (fun m => ef_cR1 m a1 a2) ?_
  intro p e s m below meth c C
  refine G.aloadN C d3_0 rfl rfl rfl ?_
  refine G.arrlen C A (z := (1 : Int32)) rfl d3_1 rfl ?_
  refine G.newarr C (aty := .double) (twd hw 7 rfl) (z := (1 : Int32)) (by decide) (cap := 1) (by decide) (by decide) d3_2 (by decide) (by decide) rfl (fun hn1 b2 g2 E2 A2 => ?_)
  have old2 := Nat.le_trans (Kp.refl h []).1.1 (Nat.le_of_eq g2.symm)
  have ne_a1_b2 : a1 ≠ b2 := by rw [g2]; exact Nat.ne_of_lt (Ara.lt A)
  have ne_a2_b2 : a2 ≠ b2 := by rw [g2]; exact Nat.ne_of_lt (Ara.lt B)
  have ge2 : n0 ≤ b2 := by rw [g2]; exact sz
  have oc2 := Ara.ext A E2
  have oc3 := Ara.ext B E2
  have sz4 : n0 ≤ hn1.size := Nat.le_trans sz E2.1
  have kp5 := Kp.ext (Kp.refl h []) E2
  have AA2 : Ara Z hn1 b2 .double 1 (own_td [(0 : UInt64)]) := Ara.cast A2 (fun q hq => own_d0 1 q)
  show G p l e _ _ m _ below meth c n0 _ hn1 1 1 (mkF m 4 #[.val (.ref a1), .val (.ref a2), .unset, .unset] [(.ref b2)])
  refine G.astoreN C d3_4 rfl (Ls' := #[.val (.ref a1), .val (.ref a2), .val (.ref b2), .unset]) rfl rfl ?_
  refine G.iconst C d3_5 (v := (0 : Int32)) rfl rfl ?_
  refine G.istoreN C d3_6 (Ls' := #[.val (.ref a1), .val (.ref a2), .val (.ref b2), .val (.int (0 : Int32))]) rfl rfl ?_
  refine G.iloadN C d3_7 rfl rfl ?_
  refine G.aloadN C d3_8 rfl rfl rfl ?_
  refine G.arrlen C oc2 (z := (1 : Int32)) rfl d3_9 rfl ?_
  refine G.icge C d3_10 (by decide) (pt := 29) (by decide) rfl (fun q => absurd q (by decide)) (fun _ => ?_)
  refine G.aloadN C d3_13 rfl rfl rfl ?_
  refine G.iloadN C d3_14 rfl rfl ?_
  refine G.aloadN C d3_15 rfl rfl rfl ?_
  refine G.iloadN C d3_16 rfl rfl ?_
  refine G.daload C oc2 (by decide) d3_17 rfl ?_
  show G p l e _ _ m _ below meth c n0 _ hn1 1 1 (mkF m 18 #[.val (.ref a1), .val (.ref a2), .val (.ref b2), .val (.int (0 : Int32))] [(.double x0), (.int (0 : Int32)), (.ref b2)])
  refine G.aloadN C d3_18 rfl rfl rfl ?_
  refine G.iloadN C d3_19 rfl rfl ?_
  refine G.daload C oc3 (by decide) d3_20 rfl ?_
  show G p l e _ _ m _ below meth c n0 _ hn1 1 1 (mkF m 21 #[.val (.ref a1), .val (.ref a2), .val (.ref b2), .val (.int (0 : Int32))] [(.double y0), (.double x0), (.int (0 : Int32)), (.ref b2)])
  refine G.ddiv C n_0 d3_21 rfl ?_
  refine G.dastore C AA2 (by decide) ge2 d3_22 rfl (fun hn6 Whn6 => ?_)
  have Wbhn6 : Wr hn1 hn6 b2 0 (.double (FP.ddiv x0 y0)) := Whn6
  have oc7 := Ara.oth oc2 Whn6 ne_a1_b2
  have oc8 := Ara.oth oc3 Whn6 ne_a2_b2
  have sz9 : n0 ≤ hn6.size := (by rw [Whn6.size]; exact sz4)
  have kp10 := Kp.wr kp5 Whn6 (Or.inr old2)
  have Awhn6 : Ara Z hn6 b2 .double 1 (own_td [(FP.ddiv x0 y0)]) := Ara.cast (Ara.set AA2 Wbhn6) (fun q hq => own_dset [(0 : UInt64)] 0 (FP.ddiv x0 y0) (show 0 < 1 by decide) q)
  refine G.iinc C d3_23 rfl (z := (1 : Int32)) rfl (Ls' := #[.val (.ref a1), .val (.ref a2), .val (.ref b2), .val (.int ((0 : Int32) + (1 : Int32)))]) rfl rfl ?_
  show G p l e _ _ m _ below meth c n0 _ hn6 1 1 (mkF m 26 #[.val (.ref a1), .val (.ref a2), .val (.ref b2), .val (.int (1 : Int32))] [])
  refine G.goto C d3_26 (by decide) (pc' := 7) (by decide) ?_
  refine G.iloadN C d3_7 rfl rfl ?_
  refine G.aloadN C d3_8 rfl rfl rfl ?_
  refine G.arrlen C oc7 (z := (1 : Int32)) rfl d3_9 rfl ?_
  refine G.icge C d3_10 (by decide) (pt := 29) (by decide) rfl (fun _ => ?_) (fun q => absurd q (by decide))
  refine G.aloadN C d3_29 rfl rfl rfl ?_
  exact G.retA C rfl rfl d3_30 (by decide) (by decide) rfl (⟨_, rfl, Awhn6, kp10, old2⟩)
theorem ef_cR2 (m : MethodId) (a1 : Addr) (a2 : Addr) : entryFrame m #[(.ref a1), (.ref a2)] 4 = mkF m 0 #[.val (.ref a1), .val (.ref a2), .unset, .unset] [] := by first | (simp [entryFrame, mkF, argsToLocals, Value.category]; done) | rfl
set_option maxRecDepth 65536 in
set_option maxHeartbeats 40000000 in
theorem cR2 (l : Launch) (Z : State) (a0 : Array Value) (hw : ∀ d ∈ tables_1, d.before a0 Z = true) (a1 : Addr) (a2 : Addr) (h : Heap) (n0 : Nat) (x0 x1 y0 y1 : UInt64) (A : Ara Z h a1 .double 2 (own_td [x0, x1])) (B : Ara Z h a2 .double 2 (own_td [y0, y1])) (n_0 : Jvm.Free.Fl.NoNaN64 (FP.ddiv x0 y0)) (n_1 : Jvm.Free.Fl.NoNaN64 (FP.ddiv x1 y1)) (sz : n0 ≤ h.size) : Con l Z (⟨"io/keyfold/SideBySide", "ratios", "([D[D)[D"⟩ : MethodName) prog_10_method_4_code 4 (some (.array .double)) ({ frames := 0, cells := 1, slots := 2, locals := 0 } : Room) #[(.ref a1), (.ref a2)] h n0 (fun v h' => ∃ b, v = some (.ref b) ∧ Ara Z h' b .double 2 (own_td [(FP.ddiv x0 y0), (FP.ddiv x1 y1)]) ∧ Kp h h' [] ∧ h.size ≤ b) := by
  refine Con.of (plainFor_of_name pn1) (fun m => ef_cR2 m a1 a2) ?_
  intro p e s m below meth c C
  refine G.aloadN C d3_0 rfl rfl rfl ?_
  refine G.arrlen C A (z := (2 : Int32)) rfl d3_1 rfl ?_
  refine G.newarr C (aty := .double) (twd hw 7 rfl) (z := (2 : Int32)) (by decide) (cap := 2) (by decide) (by decide) d3_2 (by decide) (by decide) rfl (fun hn1 b2 g2 E2 A2 => ?_)
  have old2 := Nat.le_trans (Kp.refl h []).1.1 (Nat.le_of_eq g2.symm)
  have ne_a1_b2 : a1 ≠ b2 := by rw [g2]; exact Nat.ne_of_lt (Ara.lt A)
  have ne_a2_b2 : a2 ≠ b2 := by rw [g2]; exact Nat.ne_of_lt (Ara.lt B)
  have ge2 : n0 ≤ b2 := by rw [g2]; exact sz
  have oc2 := Ara.ext A E2
  have oc3 := Ara.ext B E2
  have sz4 : n0 ≤ hn1.size := Nat.le_trans sz E2.1
  have kp5 := Kp.ext (Kp.refl h []) E2
  have AA2 : Ara Z hn1 b2 .double 2 (own_td [(0 : UInt64), (0 : UInt64)]) := Ara.cast A2 (fun q hq => own_d0 2 q)
  show G p l e _ _ m _ below meth c n0 _ hn1 1 2 (mkF m 4 #[.val (.ref a1), .val (.ref a2), .unset, .unset] [(.ref b2)])
  refine G.astoreN C d3_4 rfl (Ls' := #[.val (.ref a1), .val (.ref a2), .val (.ref b2), .unset]) rfl rfl ?_
  refine G.iconst C d3_5 (v := (0 : Int32)) rfl rfl ?_
  refine G.istoreN C d3_6 (Ls' := #[.val (.ref a1), .val (.ref a2), .val (.ref b2), .val (.int (0 : Int32))]) rfl rfl ?_
  refine G.iloadN C d3_7 rfl rfl ?_
  refine G.aloadN C d3_8 rfl rfl rfl ?_
  refine G.arrlen C oc2 (z := (2 : Int32)) rfl d3_9 rfl ?_
  refine G.icge C d3_10 (by decide) (pt := 29) (by decide) rfl (fun q => absurd q (by decide)) (fun _ => ?_)
  refine G.aloadN C d3_13 rfl rfl rfl ?_
  refine G.iloadN C d3_14 rfl rfl ?_
  refine G.aloadN C d3_15 rfl rfl rfl ?_
  refine G.iloadN C d3_16 rfl rfl ?_
  refine G.daload C oc2 (by decide) d3_17 rfl ?_
  show G p l e _ _ m _ below meth c n0 _ hn1 1 2 (mkF m 18 #[.val (.ref a1), .val (.ref a2), .val (.ref b2), .val (.int (0 : Int32))] [(.double x0), (.int (0 : Int32)), (.ref b2)])
  refine G.aloadN C d3_18 rfl rfl rfl ?_
  refine G.iloadN C d3_19 rfl rfl ?_
  refine G.daload C oc3 (by decide) d3_20 rfl ?_
  show G p l e _ _ m _ below meth c n0 _ hn1 1 2 (mkF m 21 #[.val (.ref a1), .val (.ref a2), .val (.ref b2), .val (.int (0 : Int32))] [(.double y0), (.double x0), (.int (0 : Int32)), (.ref b2)])
  refine G.ddiv C n_0 d3_21 rfl ?_
  refine G.dastore C AA2 (by decide) ge2 d3_22 rfl (fun hn6 Whn6 => ?_)
  have Wbhn6 : Wr hn1 hn6 b2 0 (.double (FP.ddiv x0 y0)) := Whn6
  have oc7 := Ara.oth oc2 Whn6 ne_a1_b2
  have oc8 := Ara.oth oc3 Whn6 ne_a2_b2
  have sz9 : n0 ≤ hn6.size := (by rw [Whn6.size]; exact sz4)
  have kp10 := Kp.wr kp5 Whn6 (Or.inr old2)
  have Awhn6 : Ara Z hn6 b2 .double 2 (own_td [(FP.ddiv x0 y0), (0 : UInt64)]) := Ara.cast (Ara.set AA2 Wbhn6) (fun q hq => own_dset [(0 : UInt64), (0 : UInt64)] 0 (FP.ddiv x0 y0) (show 0 < 2 by decide) q)
  refine G.iinc C d3_23 rfl (z := (1 : Int32)) rfl (Ls' := #[.val (.ref a1), .val (.ref a2), .val (.ref b2), .val (.int ((0 : Int32) + (1 : Int32)))]) rfl rfl ?_
  show G p l e _ _ m _ below meth c n0 _ hn6 1 2 (mkF m 26 #[.val (.ref a1), .val (.ref a2), .val (.ref b2), .val (.int (1 : Int32))] [])
  refine G.goto C d3_26 (by decide) (pc' := 7) (by decide) ?_
  refine G.iloadN C d3_7 rfl rfl ?_
  refine G.aloadN C d3_8 rfl rfl rfl ?_
  refine G.arrlen C oc7 (z := (2 : Int32)) rfl d3_9 rfl ?_
  refine G.icge C d3_10 (by decide) (pt := 29) (by decide) rfl (fun q => absurd q (by decide)) (fun _ => ?_)
  refine G.aloadN C d3_13 rfl rfl rfl ?_
  refine G.iloadN C d3_14 rfl rfl ?_
  refine G.aloadN C d3_15 rfl rfl rfl ?_
  refine G.iloadN C d3_16 rfl rfl ?_
  refine G.daload C oc7 (by decide) d3_17 rfl ?_
  show G p l e _ _ m _ below meth c n0 _ hn6 1 2 (mkF m 18 #[.val (.ref a1), .val (.ref a2), .val (.ref b2), .val (.int (1 : Int32))] [(.double x1), (.int (1 : Int32)), (.ref b2)])
  refine G.aloadN C d3_18 rfl rfl rfl ?_
  refine G.iloadN C d3_19 rfl rfl ?_
  refine G.daload C oc8 (by decide) d3_20 rfl ?_
  show G p l e _ _ m _ below meth c n0 _ hn6 1 2 (mkF m 21 #[.val (.ref a1), .val (.ref a2), .val (.ref b2), .val (.int (1 : Int32))] [(.double y1), (.double x1), (.int (1 : Int32)), (.ref b2)])
  refine G.ddiv C n_1 d3_21 rfl ?_
  refine G.dastore C Awhn6 (by decide) ge2 d3_22 rfl (fun hn11 Whn11 => ?_)
  have Wbhn11 : Wr hn6 hn11 b2 1 (.double (FP.ddiv x1 y1)) := Whn11
  have oc12 := Ara.oth oc7 Whn11 ne_a1_b2
  have oc13 := Ara.oth oc8 Whn11 ne_a2_b2
  have sz14 : n0 ≤ hn11.size := (by rw [Whn11.size]; exact sz9)
  have kp15 := Kp.wr kp10 Whn11 (Or.inr old2)
  have Awhn11 : Ara Z hn11 b2 .double 2 (own_td [(FP.ddiv x0 y0), (FP.ddiv x1 y1)]) := Ara.cast (Ara.set Awhn6 Wbhn11) (fun q hq => own_dset [(FP.ddiv x0 y0), (0 : UInt64)] 1 (FP.ddiv x1 y1) (show 1 < 2 by decide) q)
  refine G.iinc C d3_23 rfl (z := (1 : Int32)) rfl (Ls' := #[.val (.ref a1), .val (.ref a2), .val (.ref b2), .val (.int ((1 : Int32) + (1 : Int32)))]) rfl rfl ?_
  show G p l e _ _ m _ below meth c n0 _ hn11 1 2 (mkF m 26 #[.val (.ref a1), .val (.ref a2), .val (.ref b2), .val (.int (2 : Int32))] [])
  refine G.goto C d3_26 (by decide) (pc' := 7) (by decide) ?_
  refine G.iloadN C d3_7 rfl rfl ?_
  refine G.aloadN C d3_8 rfl rfl rfl ?_
  refine G.arrlen C oc12 (z := (2 : Int32)) rfl d3_9 rfl ?_
  refine G.icge C d3_10 (by decide) (pt := 29) (by decide) rfl (fun _ => ?_) (fun q => absurd q (by decide))
  refine G.aloadN C d3_29 rfl rfl rfl ?_
  exact G.retA C rfl rfl d3_30 (by decide) (by decide) rfl (⟨_, rfl, Awhn11, kp15, old2⟩)
theorem ef_cR3 (m : MethodId) (a1 : Addr) (a2 : Addr) : entryFrame m #[(.ref a1), (.ref a2)] 4 = mkF m 0 #[.val (.ref a1), .val (.ref a2), .unset, .unset] [] := by first | (simp [entryFrame, mkF, argsToLocals, Value.category]; done) | rfl
set_option maxRecDepth 65536 in
set_option maxHeartbeats 40000000 in
theorem cR3 (l : Launch) (Z : State) (a0 : Array Value) (hw : ∀ d ∈ tables_1, d.before a0 Z = true) (a1 : Addr) (a2 : Addr) (h : Heap) (n0 : Nat) (x0 x1 x2 y0 y1 y2 : UInt64) (A : Ara Z h a1 .double 3 (own_td [x0, x1, x2])) (B : Ara Z h a2 .double 3 (own_td [y0, y1, y2])) (n_0 : Jvm.Free.Fl.NoNaN64 (FP.ddiv x0 y0)) (n_1 : Jvm.Free.Fl.NoNaN64 (FP.ddiv x1 y1)) (n_2 : Jvm.Free.Fl.NoNaN64 (FP.ddiv x2 y2)) (sz : n0 ≤ h.size) : Con l Z (⟨"io/keyfold/SideBySide", "ratios", "([D[D)[D"⟩ : MethodName) prog_10_method_4_code 4 (some (.array .double)) ({ frames := 0, cells := 1, slots := 3, locals := 0 } : Room) #[(.ref a1), (.ref a2)] h n0 (fun v h' => ∃ b, v = some (.ref b) ∧ Ara Z h' b .double 3 (own_td [(FP.ddiv x0 y0), (FP.ddiv x1 y1), (FP.ddiv x2 y2)]) ∧ Kp h h' [] ∧ h.size ≤ b) := by
  refine Con.of (plainFor_of_name pn1) (fun m => ef_cR3 m a1 a2) ?_
  intro p e s m below meth c C
  refine G.aloadN C d3_0 rfl rfl rfl ?_
  refine G.arrlen C A (z := (3 : Int32)) rfl d3_1 rfl ?_
  refine G.newarr C (aty := .double) (twd hw 7 rfl) (z := (3 : Int32)) (by decide) (cap := 3) (by decide) (by decide) d3_2 (by decide) (by decide) rfl (fun hn1 b2 g2 E2 A2 => ?_)
  have old2 := Nat.le_trans (Kp.refl h []).1.1 (Nat.le_of_eq g2.symm)
  have ne_a1_b2 : a1 ≠ b2 := by rw [g2]; exact Nat.ne_of_lt (Ara.lt A)
  have ne_a2_b2 : a2 ≠ b2 := by rw [g2]; exact Nat.ne_of_lt (Ara.lt B)
  have ge2 : n0 ≤ b2 := by rw [g2]; exact sz
  have oc2 := Ara.ext A E2
  have oc3 := Ara.ext B E2
  have sz4 : n0 ≤ hn1.size := Nat.le_trans sz E2.1
  have kp5 := Kp.ext (Kp.refl h []) E2
  have AA2 : Ara Z hn1 b2 .double 3 (own_td [(0 : UInt64), (0 : UInt64), (0 : UInt64)]) := Ara.cast A2 (fun q hq => own_d0 3 q)
  show G p l e _ _ m _ below meth c n0 _ hn1 1 3 (mkF m 4 #[.val (.ref a1), .val (.ref a2), .unset, .unset] [(.ref b2)])
  refine G.astoreN C d3_4 rfl (Ls' := #[.val (.ref a1), .val (.ref a2), .val (.ref b2), .unset]) rfl rfl ?_
  refine G.iconst C d3_5 (v := (0 : Int32)) rfl rfl ?_
  refine G.istoreN C d3_6 (Ls' := #[.val (.ref a1), .val (.ref a2), .val (.ref b2), .val (.int (0 : Int32))]) rfl rfl ?_
  refine G.iloadN C d3_7 rfl rfl ?_
  refine G.aloadN C d3_8 rfl rfl rfl ?_
  refine G.arrlen C oc2 (z := (3 : Int32)) rfl d3_9 rfl ?_
  refine G.icge C d3_10 (by decide) (pt := 29) (by decide) rfl (fun q => absurd q (by decide)) (fun _ => ?_)
  refine G.aloadN C d3_13 rfl rfl rfl ?_
  refine G.iloadN C d3_14 rfl rfl ?_
  refine G.aloadN C d3_15 rfl rfl rfl ?_
  refine G.iloadN C d3_16 rfl rfl ?_
  refine G.daload C oc2 (by decide) d3_17 rfl ?_
  show G p l e _ _ m _ below meth c n0 _ hn1 1 3 (mkF m 18 #[.val (.ref a1), .val (.ref a2), .val (.ref b2), .val (.int (0 : Int32))] [(.double x0), (.int (0 : Int32)), (.ref b2)])
  refine G.aloadN C d3_18 rfl rfl rfl ?_
  refine G.iloadN C d3_19 rfl rfl ?_
  refine G.daload C oc3 (by decide) d3_20 rfl ?_
  show G p l e _ _ m _ below meth c n0 _ hn1 1 3 (mkF m 21 #[.val (.ref a1), .val (.ref a2), .val (.ref b2), .val (.int (0 : Int32))] [(.double y0), (.double x0), (.int (0 : Int32)), (.ref b2)])
  refine G.ddiv C n_0 d3_21 rfl ?_
  refine G.dastore C AA2 (by decide) ge2 d3_22 rfl (fun hn6 Whn6 => ?_)
  have Wbhn6 : Wr hn1 hn6 b2 0 (.double (FP.ddiv x0 y0)) := Whn6
  have oc7 := Ara.oth oc2 Whn6 ne_a1_b2
  have oc8 := Ara.oth oc3 Whn6 ne_a2_b2
  have sz9 : n0 ≤ hn6.size := (by rw [Whn6.size]; exact sz4)
  have kp10 := Kp.wr kp5 Whn6 (Or.inr old2)
  have Awhn6 : Ara Z hn6 b2 .double 3 (own_td [(FP.ddiv x0 y0), (0 : UInt64), (0 : UInt64)]) := Ara.cast (Ara.set AA2 Wbhn6) (fun q hq => own_dset [(0 : UInt64), (0 : UInt64), (0 : UInt64)] 0 (FP.ddiv x0 y0) (show 0 < 3 by decide) q)
  refine G.iinc C d3_23 rfl (z := (1 : Int32)) rfl (Ls' := #[.val (.ref a1), .val (.ref a2), .val (.ref b2), .val (.int ((0 : Int32) + (1 : Int32)))]) rfl rfl ?_
  show G p l e _ _ m _ below meth c n0 _ hn6 1 3 (mkF m 26 #[.val (.ref a1), .val (.ref a2), .val (.ref b2), .val (.int (1 : Int32))] [])
  refine G.goto C d3_26 (by decide) (pc' := 7) (by decide) ?_
  refine G.iloadN C d3_7 rfl rfl ?_
  refine G.aloadN C d3_8 rfl rfl rfl ?_
  refine G.arrlen C oc7 (z := (3 : Int32)) rfl d3_9 rfl ?_
  refine G.icge C d3_10 (by decide) (pt := 29) (by decide) rfl (fun q => absurd q (by decide)) (fun _ => ?_)
  refine G.aloadN C d3_13 rfl rfl rfl ?_
  refine G.iloadN C d3_14 rfl rfl ?_
  refine G.aloadN C d3_15 rfl rfl rfl ?_
  refine G.iloadN C d3_16 rfl rfl ?_
  refine G.daload C oc7 (by decide) d3_17 rfl ?_
  show G p l e _ _ m _ below meth c n0 _ hn6 1 3 (mkF m 18 #[.val (.ref a1), .val (.ref a2), .val (.ref b2), .val (.int (1 : Int32))] [(.double x1), (.int (1 : Int32)), (.ref b2)])
  refine G.aloadN C d3_18 rfl rfl rfl ?_
  refine G.iloadN C d3_19 rfl rfl ?_
  refine G.daload C oc8 (by decide) d3_20 rfl ?_
  show G p l e _ _ m _ below meth c n0 _ hn6 1 3 (mkF m 21 #[.val (.ref a1), .val (.ref a2), .val (.ref b2), .val (.int (1 : Int32))] [(.double y1), (.double x1), (.int (1 : Int32)), (.ref b2)])
  refine G.ddiv C n_1 d3_21 rfl ?_
  refine G.dastore C Awhn6 (by decide) ge2 d3_22 rfl (fun hn11 Whn11 => ?_)
  have Wbhn11 : Wr hn6 hn11 b2 1 (.double (FP.ddiv x1 y1)) := Whn11
  have oc12 := Ara.oth oc7 Whn11 ne_a1_b2
  have oc13 := Ara.oth oc8 Whn11 ne_a2_b2
  have sz14 : n0 ≤ hn11.size := (by rw [Whn11.size]; exact sz9)
  have kp15 := Kp.wr kp10 Whn11 (Or.inr old2)
  have Awhn11 : Ara Z hn11 b2 .double 3 (own_td [(FP.ddiv x0 y0), (FP.ddiv x1 y1), (0 : UInt64)]) := Ara.cast (Ara.set Awhn6 Wbhn11) (fun q hq => own_dset [(FP.ddiv x0 y0), (0 : UInt64), (0 : UInt64)] 1 (FP.ddiv x1 y1) (show 1 < 3 by decide) q)
  refine G.iinc C d3_23 rfl (z := (1 : Int32)) rfl (Ls' := #[.val (.ref a1), .val (.ref a2), .val (.ref b2), .val (.int ((1 : Int32) + (1 : Int32)))]) rfl rfl ?_
  show G p l e _ _ m _ below meth c n0 _ hn11 1 3 (mkF m 26 #[.val (.ref a1), .val (.ref a2), .val (.ref b2), .val (.int (2 : Int32))] [])
  refine G.goto C d3_26 (by decide) (pc' := 7) (by decide) ?_
  refine G.iloadN C d3_7 rfl rfl ?_
  refine G.aloadN C d3_8 rfl rfl rfl ?_
  refine G.arrlen C oc12 (z := (3 : Int32)) rfl d3_9 rfl ?_
  refine G.icge C d3_10 (by decide) (pt := 29) (by decide) rfl (fun q => absurd q (by decide)) (fun _ => ?_)
  refine G.aloadN C d3_13 rfl rfl rfl ?_
  refine G.iloadN C d3_14 rfl rfl ?_
  refine G.aloadN C d3_15 rfl rfl rfl ?_
  refine G.iloadN C d3_16 rfl rfl ?_
  refine G.daload C oc12 (by decide) d3_17 rfl ?_
  show G p l e _ _ m _ below meth c n0 _ hn11 1 3 (mkF m 18 #[.val (.ref a1), .val (.ref a2), .val (.ref b2), .val (.int (2 : Int32))] [(.double x2), (.int (2 : Int32)), (.ref b2)])
  refine G.aloadN C d3_18 rfl rfl rfl ?_
  refine G.iloadN C d3_19 rfl rfl ?_
  refine G.daload C oc13 (by decide) d3_20 rfl ?_
  show G p l e _ _ m _ below meth c n0 _ hn11 1 3 (mkF m 21 #[.val (.ref a1), .val (.ref a2), .val (.ref b2), .val (.int (2 : Int32))] [(.double y2), (.double x2), (.int (2 : Int32)), (.ref b2)])
  refine G.ddiv C n_2 d3_21 rfl ?_
  refine G.dastore C Awhn11 (by decide) ge2 d3_22 rfl (fun hn16 Whn16 => ?_)
  have Wbhn16 : Wr hn11 hn16 b2 2 (.double (FP.ddiv x2 y2)) := Whn16
  have oc17 := Ara.oth oc12 Whn16 ne_a1_b2
  have oc18 := Ara.oth oc13 Whn16 ne_a2_b2
  have sz19 : n0 ≤ hn16.size := (by rw [Whn16.size]; exact sz14)
  have kp20 := Kp.wr kp15 Whn16 (Or.inr old2)
  have Awhn16 : Ara Z hn16 b2 .double 3 (own_td [(FP.ddiv x0 y0), (FP.ddiv x1 y1), (FP.ddiv x2 y2)]) := Ara.cast (Ara.set Awhn11 Wbhn16) (fun q hq => own_dset [(FP.ddiv x0 y0), (FP.ddiv x1 y1), (0 : UInt64)] 2 (FP.ddiv x2 y2) (show 2 < 3 by decide) q)
  refine G.iinc C d3_23 rfl (z := (1 : Int32)) rfl (Ls' := #[.val (.ref a1), .val (.ref a2), .val (.ref b2), .val (.int ((2 : Int32) + (1 : Int32)))]) rfl rfl ?_
  show G p l e _ _ m _ below meth c n0 _ hn16 1 3 (mkF m 26 #[.val (.ref a1), .val (.ref a2), .val (.ref b2), .val (.int (3 : Int32))] [])
  refine G.goto C d3_26 (by decide) (pc' := 7) (by decide) ?_
  refine G.iloadN C d3_7 rfl rfl ?_
  refine G.aloadN C d3_8 rfl rfl rfl ?_
  refine G.arrlen C oc17 (z := (3 : Int32)) rfl d3_9 rfl ?_
  refine G.icge C d3_10 (by decide) (pt := 29) (by decide) rfl (fun _ => ?_) (fun q => absurd q (by decide))
  refine G.aloadN C d3_29 rfl rfl rfl ?_
  exact G.retA C rfl rfl d3_30 (by decide) (by decide) rfl (⟨_, rfl, Awhn16, kp20, old2⟩)
theorem ef_c0 (m : MethodId) (i1 : Int32) (i2 : Int32) (i3 : Int32) (i4 : Int32) : entryFrame m #[(.int i1), (.int i2), (.int i3), (.int i4)] maxLocals = mkF m 0 #[.val (.int i1), .val (.int i2), .val (.int i3), .val (.int i4), .unset, .unset, .unset, .unset, .unset, .unset, .unset, .unset, .unset, .unset, .unset] [] := by first | (simp [entryFrame, mkF, argsToLocals, Value.category, maxLocals]; done) | rfl
set_option maxRecDepth 65536 in
set_option maxHeartbeats 40000000 in
theorem c0 (l : Launch) (Z : State) (a0 : Array Value) (hw : ∀ d ∈ tables_1, d.before a0 Z = true) (i1 : Int32) (i2 : Int32) (i3 : Int32) (i4 : Int32) (h : Heap) (n0 : Nat) (Z0 : n0 ≤ h.size) : Con l Z x code maxLocals ret room_1 #[(.int i1), (.int i2), (.int i3), (.int i4)] h n0 (fun v h' => v = some (.int 1)) := by
  refine Con.of (plainFor_of_name pn0) (fun m => ef_c0 m i1 i2 i3 i4) ?_
  intro p e s m below meth c C
  replace C : Cx p s m meth c Z (⟨"io/keyfold/SideBySideRatiosPinLaw", "law", "(IIII)Z"⟩ : MethodName) code 15 (some .boolean) := C
  refine G.iloadN C at_0 rfl rfl ?_
  refine G.iconst C at_1 (v := (3 : Int32)) rfl rfl ?_
  refine G.iand C at_2 rfl ?_
  rcases own_k3 i1 with hk | hk | hk | hk
  · rw [hk]
    refine G.istore C at_3 (Ls' := #[.val (.int i1), .val (.int i2), .val (.int i3), .val (.int i4), .val (.int (0 : Int32)), .unset, .unset, .unset, .unset, .unset, .unset, .unset, .unset, .unset, .unset]) rfl rfl ?_
    refine G.iloadN C at_5 rfl rfl ?_
    refine G.callSP C (S := []) (W := 0) (twd hw 0 rfl) (twd hw 1 rfl) (twd hw 2 rfl) (twd hw 3 rfl) (by decide) (c1 l Z a0 hw i2 h n0) pd0 rfl rfl at_6 rfl (Nat.le_of_eq rfl) (by decide) (by decide) rfl rfl (by decide) (by decide) rfl ?_
    refine G.istore C at_9 (Ls' := #[.val (.int i1), .val (.int i2), .val (.int i3), .val (.int i4), .val (.int (0 : Int32)), .val (.int (own_q i2)), .unset, .unset, .unset, .unset, .unset, .unset, .unset, .unset, .unset]) rfl rfl ?_
    refine G.iloadN C at_11 rfl rfl ?_
    refine G.callSP C (S := []) (W := 0) (twd hw 4 rfl) (twd hw 5 rfl) (twd hw 2 rfl) (twd hw 6 rfl) (by decide) (c2 l Z a0 hw i2 h n0) pd0 rfl rfl at_12 rfl (Nat.le_of_eq rfl) (by decide) (by decide) rfl rfl (by decide) (by decide) rfl ?_
    refine G.istore C at_15 (Ls' := #[.val (.int i1), .val (.int i2), .val (.int i3), .val (.int i4), .val (.int (0 : Int32)), .val (.int (own_q i2)), .val (.int (own_u i2)), .unset, .unset, .unset, .unset, .unset, .unset, .unset, .unset]) rfl rfl ?_
    refine G.iloadN C at_17 rfl rfl ?_
    refine G.callSP C (S := []) (W := 0) (twd hw 0 rfl) (twd hw 1 rfl) (twd hw 2 rfl) (twd hw 3 rfl) (by decide) (c1 l Z a0 hw i3 h n0) pd0 rfl rfl at_18 rfl (Nat.le_of_eq rfl) (by decide) (by decide) rfl rfl (by decide) (by decide) rfl ?_
    refine G.istore C at_21 (Ls' := #[.val (.int i1), .val (.int i2), .val (.int i3), .val (.int i4), .val (.int (0 : Int32)), .val (.int (own_q i2)), .val (.int (own_u i2)), .val (.int (own_q i3)), .unset, .unset, .unset, .unset, .unset, .unset, .unset]) rfl rfl ?_
    refine G.iloadN C at_23 rfl rfl ?_
    refine G.callSP C (S := []) (W := 0) (twd hw 4 rfl) (twd hw 5 rfl) (twd hw 2 rfl) (twd hw 6 rfl) (by decide) (c2 l Z a0 hw i3 h n0) pd0 rfl rfl at_24 rfl (Nat.le_of_eq rfl) (by decide) (by decide) rfl rfl (by decide) (by decide) rfl ?_
    refine G.istore C at_27 (Ls' := #[.val (.int i1), .val (.int i2), .val (.int i3), .val (.int i4), .val (.int (0 : Int32)), .val (.int (own_q i2)), .val (.int (own_u i2)), .val (.int (own_q i3)), .val (.int (own_u i3)), .unset, .unset, .unset, .unset, .unset, .unset]) rfl rfl ?_
    refine G.iloadN C at_29 rfl rfl ?_
    refine G.callSP C (S := []) (W := 0) (twd hw 0 rfl) (twd hw 1 rfl) (twd hw 2 rfl) (twd hw 3 rfl) (by decide) (c1 l Z a0 hw i4 h n0) pd0 rfl rfl at_30 rfl (Nat.le_of_eq rfl) (by decide) (by decide) rfl rfl (by decide) (by decide) rfl ?_
    refine G.istore C at_33 (Ls' := #[.val (.int i1), .val (.int i2), .val (.int i3), .val (.int i4), .val (.int (0 : Int32)), .val (.int (own_q i2)), .val (.int (own_u i2)), .val (.int (own_q i3)), .val (.int (own_u i3)), .val (.int (own_q i4)), .unset, .unset, .unset, .unset, .unset]) rfl rfl ?_
    refine G.iloadN C at_35 rfl rfl ?_
    refine G.callSP C (S := []) (W := 0) (twd hw 4 rfl) (twd hw 5 rfl) (twd hw 2 rfl) (twd hw 6 rfl) (by decide) (c2 l Z a0 hw i4 h n0) pd0 rfl rfl at_36 rfl (Nat.le_of_eq rfl) (by decide) (by decide) rfl rfl (by decide) (by decide) rfl ?_
    refine G.istore C at_39 (Ls' := #[.val (.int i1), .val (.int i2), .val (.int i3), .val (.int i4), .val (.int (0 : Int32)), .val (.int (own_q i2)), .val (.int (own_u i2)), .val (.int (own_q i3)), .val (.int (own_u i3)), .val (.int (own_q i4)), .val (.int (own_u i4)), .unset, .unset, .unset, .unset]) rfl rfl ?_
    refine G.iload C at_41 rfl rfl ?_
    refine G.newarr C (aty := .double) (twd hw 7 rfl) (z := (0 : Int32)) (by decide) (cap := 0) (by decide) (by decide) at_43 (by decide) (by decide) rfl (fun hn1 b43 g43 E43 A43 => ?_)
    have ge43 : n0 ≤ b43 := by rw [g43]; exact Z0
    have sz2 : n0 ≤ hn1.size := Nat.le_trans Z0 E43.1
    have AA43 : Ara Z hn1 b43 .double 0 (own_td []) := Ara.cast A43 (fun q hq => own_d0 0 q)
    show G p l e _ _ m _ below meth c n0 _ hn1 1 0 (mkF m 45 #[.val (.int i1), .val (.int i2), .val (.int i3), .val (.int i4), .val (.int (0 : Int32)), .val (.int (own_q i2)), .val (.int (own_u i2)), .val (.int (own_q i3)), .val (.int (own_u i3)), .val (.int (own_q i4)), .val (.int (own_u i4)), .unset, .unset, .unset, .unset] [(.ref b43)])
    refine G.astore C at_45 rfl (Ls' := #[.val (.int i1), .val (.int i2), .val (.int i3), .val (.int i4), .val (.int (0 : Int32)), .val (.int (own_q i2)), .val (.int (own_u i2)), .val (.int (own_q i3)), .val (.int (own_u i3)), .val (.int (own_q i4)), .val (.int (own_u i4)), .val (.ref b43), .unset, .unset, .unset]) rfl rfl ?_
    refine G.iload C at_47 rfl rfl ?_
    refine G.newarr C (aty := .double) (twd hw 7 rfl) (z := (0 : Int32)) (by decide) (cap := 0) (by decide) (by decide) at_49 (by decide) (by decide) rfl (fun hn3 b49 g49 E49 A49 => ?_)
    have ne_b43_b49 : b43 ≠ b49 := by rw [g49]; exact Nat.ne_of_lt (Ara.lt AA43)
    have ge49 : n0 ≤ b49 := by rw [g49]; exact sz2
    have oc4 := Ara.ext AA43 E49
    have sz5 : n0 ≤ hn3.size := Nat.le_trans sz2 E49.1
    have AA49 : Ara Z hn3 b49 .double 0 (own_td []) := Ara.cast A49 (fun q hq => own_d0 0 q)
    show G p l e _ _ m _ below meth c n0 _ hn3 2 0 (mkF m 51 #[.val (.int i1), .val (.int i2), .val (.int i3), .val (.int i4), .val (.int (0 : Int32)), .val (.int (own_q i2)), .val (.int (own_u i2)), .val (.int (own_q i3)), .val (.int (own_u i3)), .val (.int (own_q i4)), .val (.int (own_u i4)), .val (.ref b43), .unset, .unset, .unset] [(.ref b49)])
    refine G.astore C at_51 rfl (Ls' := #[.val (.int i1), .val (.int i2), .val (.int i3), .val (.int i4), .val (.int (0 : Int32)), .val (.int (own_q i2)), .val (.int (own_u i2)), .val (.int (own_q i3)), .val (.int (own_u i3)), .val (.int (own_q i4)), .val (.int (own_u i4)), .val (.ref b43), .val (.ref b49), .unset, .unset]) rfl rfl ?_
    refine G.iload C at_53 rfl rfl ?_
    refine G.ifle C at_55 (by decide) (pt := 75) (by decide) rfl (fun _ => ?_) (fun q => absurd q (by decide))
    refine G.iload C at_75 rfl rfl ?_
    refine G.iconst C at_77 (v := (1 : Int32)) rfl rfl ?_
    refine G.icle C at_78 (by decide) (pt := 98) (by decide) rfl (fun _ => ?_) (fun q => absurd q (by decide))
    refine G.iload C at_98 rfl rfl ?_
    refine G.iconst C at_100 (v := (2 : Int32)) rfl rfl ?_
    refine G.icle C at_101 (by decide) (pt := 121) (by decide) rfl (fun _ => ?_) (fun q => absurd q (by decide))
    refine G.aload C at_121 rfl rfl rfl ?_
    refine G.aload C at_123 rfl rfl rfl ?_
    refine G.callS C (S := []) (W := 0) (twd hw 8 rfl) (twd hw 9 rfl) (twd hw 10 rfl) (twd hw 11 rfl) (by decide) (cR0 l Z a0 hw b43 b49 hn3 n0  oc4 AA49  sz5) pd1 rfl rfl at_125 rfl (Nat.le_of_eq rfl) (by decide) (by decide) (by decide) (by decide) rfl (fun whp6 hp6 hq7 => ?_)
    obtain ⟨f125, rfl, A125, K125, g125⟩ := hq7
    have ne_b43_f125 : b43 ≠ f125 := Nat.ne_of_lt (Nat.lt_of_lt_of_le (Ara.lt oc4) g125)
    have ne_b49_f125 : b49 ≠ f125 := Nat.ne_of_lt (Nat.lt_of_lt_of_le (Ara.lt AA49) g125)
    have oc8 := Ara.kp oc4 K125 (by simp)
    have oc9 := Ara.kp AA49 K125 (by simp)
    have sz10 : n0 ≤ hp6.size := Nat.le_trans sz5 K125.1.1
    show G p l e _ _ m _ below meth c n0 _ hp6 3 0 (mkF m 128 #[.val (.int i1), .val (.int i2), .val (.int i3), .val (.int i4), .val (.int (0 : Int32)), .val (.int (own_q i2)), .val (.int (own_u i2)), .val (.int (own_q i3)), .val (.int (own_u i3)), .val (.int (own_q i4)), .val (.int (own_u i4)), .val (.ref b43), .val (.ref b49), .unset, .unset] [(.ref f125)])
    refine G.astore C at_128 rfl (Ls' := #[.val (.int i1), .val (.int i2), .val (.int i3), .val (.int i4), .val (.int (0 : Int32)), .val (.int (own_q i2)), .val (.int (own_u i2)), .val (.int (own_q i3)), .val (.int (own_u i3)), .val (.int (own_q i4)), .val (.int (own_u i4)), .val (.ref b43), .val (.ref b49), .val (.ref f125), .unset]) rfl rfl ?_
    refine G.aload C at_130 rfl rfl rfl ?_
    refine G.ifnullR C at_132 rfl ?_
    refine G.aload C at_135 rfl rfl rfl ?_
    refine G.arrlen C A125 (z := (0 : Int32)) rfl at_137 rfl ?_
    refine G.iload C at_138 rfl rfl ?_
    refine G.icne C at_140 (by decide) (pt := 157) (by decide) rfl (fun q => absurd q (by decide)) (fun _ => ?_)
    refine G.aload C at_143 rfl rfl rfl ?_
    refine G.aload C at_145 rfl rfl rfl ?_
    refine G.acmpeq C at_147 (by decide) (pt := 157) (by decide) rfl (fun q => absurd q (Ne.symm ne_b43_f125)) (fun _ => ?_)
    refine G.aload C at_150 rfl rfl rfl ?_
    refine G.aload C at_152 rfl rfl rfl ?_
    refine G.acmpne C at_154 (by decide) (pt := 159) (by decide) rfl (fun _ => ?_) (fun q => absurd q (Ne.symm ne_b49_f125))
    refine G.iconst C at_159 (v := (1 : Int32)) rfl rfl ?_
    refine G.istore C at_160 (Ls' := #[.val (.int i1), .val (.int i2), .val (.int i3), .val (.int i4), .val (.int (0 : Int32)), .val (.int (own_q i2)), .val (.int (own_u i2)), .val (.int (own_q i3)), .val (.int (own_u i3)), .val (.int (own_q i4)), .val (.int (own_u i4)), .val (.ref b43), .val (.ref b49), .val (.ref f125), .val (.int (1 : Int32))]) rfl rfl ?_
    refine G.iload C at_162 rfl rfl ?_
    refine G.ifle C at_164 (by decide) (pt := 215) (by decide) rfl (fun _ => ?_) (fun q => absurd q (by decide))
    refine G.iload C at_215 rfl rfl ?_
    refine G.iconst C at_217 (v := (1 : Int32)) rfl rfl ?_
    refine G.icle C at_218 (by decide) (pt := 269) (by decide) rfl (fun _ => ?_) (fun q => absurd q (by decide))
    refine G.iload C at_269 rfl rfl ?_
    refine G.iconst C at_271 (v := (2 : Int32)) rfl rfl ?_
    refine G.icle C at_272 (by decide) (pt := 323) (by decide) rfl (fun _ => ?_) (fun q => absurd q (by decide))
    refine G.iload C at_323 rfl rfl ?_
    exact G.retZ C at_325 (by decide) (by decide) rfl (rfl)
  · rw [hk]
    refine G.istore C at_3 (Ls' := #[.val (.int i1), .val (.int i2), .val (.int i3), .val (.int i4), .val (.int (1 : Int32)), .unset, .unset, .unset, .unset, .unset, .unset, .unset, .unset, .unset, .unset]) rfl rfl ?_
    refine G.iloadN C at_5 rfl rfl ?_
    refine G.callSP C (S := []) (W := 0) (twd hw 0 rfl) (twd hw 1 rfl) (twd hw 2 rfl) (twd hw 3 rfl) (by decide) (c1 l Z a0 hw i2 h n0) pd0 rfl rfl at_6 rfl (Nat.le_of_eq rfl) (by decide) (by decide) rfl rfl (by decide) (by decide) rfl ?_
    refine G.istore C at_9 (Ls' := #[.val (.int i1), .val (.int i2), .val (.int i3), .val (.int i4), .val (.int (1 : Int32)), .val (.int (own_q i2)), .unset, .unset, .unset, .unset, .unset, .unset, .unset, .unset, .unset]) rfl rfl ?_
    refine G.iloadN C at_11 rfl rfl ?_
    refine G.callSP C (S := []) (W := 0) (twd hw 4 rfl) (twd hw 5 rfl) (twd hw 2 rfl) (twd hw 6 rfl) (by decide) (c2 l Z a0 hw i2 h n0) pd0 rfl rfl at_12 rfl (Nat.le_of_eq rfl) (by decide) (by decide) rfl rfl (by decide) (by decide) rfl ?_
    refine G.istore C at_15 (Ls' := #[.val (.int i1), .val (.int i2), .val (.int i3), .val (.int i4), .val (.int (1 : Int32)), .val (.int (own_q i2)), .val (.int (own_u i2)), .unset, .unset, .unset, .unset, .unset, .unset, .unset, .unset]) rfl rfl ?_
    refine G.iloadN C at_17 rfl rfl ?_
    refine G.callSP C (S := []) (W := 0) (twd hw 0 rfl) (twd hw 1 rfl) (twd hw 2 rfl) (twd hw 3 rfl) (by decide) (c1 l Z a0 hw i3 h n0) pd0 rfl rfl at_18 rfl (Nat.le_of_eq rfl) (by decide) (by decide) rfl rfl (by decide) (by decide) rfl ?_
    refine G.istore C at_21 (Ls' := #[.val (.int i1), .val (.int i2), .val (.int i3), .val (.int i4), .val (.int (1 : Int32)), .val (.int (own_q i2)), .val (.int (own_u i2)), .val (.int (own_q i3)), .unset, .unset, .unset, .unset, .unset, .unset, .unset]) rfl rfl ?_
    refine G.iloadN C at_23 rfl rfl ?_
    refine G.callSP C (S := []) (W := 0) (twd hw 4 rfl) (twd hw 5 rfl) (twd hw 2 rfl) (twd hw 6 rfl) (by decide) (c2 l Z a0 hw i3 h n0) pd0 rfl rfl at_24 rfl (Nat.le_of_eq rfl) (by decide) (by decide) rfl rfl (by decide) (by decide) rfl ?_
    refine G.istore C at_27 (Ls' := #[.val (.int i1), .val (.int i2), .val (.int i3), .val (.int i4), .val (.int (1 : Int32)), .val (.int (own_q i2)), .val (.int (own_u i2)), .val (.int (own_q i3)), .val (.int (own_u i3)), .unset, .unset, .unset, .unset, .unset, .unset]) rfl rfl ?_
    refine G.iloadN C at_29 rfl rfl ?_
    refine G.callSP C (S := []) (W := 0) (twd hw 0 rfl) (twd hw 1 rfl) (twd hw 2 rfl) (twd hw 3 rfl) (by decide) (c1 l Z a0 hw i4 h n0) pd0 rfl rfl at_30 rfl (Nat.le_of_eq rfl) (by decide) (by decide) rfl rfl (by decide) (by decide) rfl ?_
    refine G.istore C at_33 (Ls' := #[.val (.int i1), .val (.int i2), .val (.int i3), .val (.int i4), .val (.int (1 : Int32)), .val (.int (own_q i2)), .val (.int (own_u i2)), .val (.int (own_q i3)), .val (.int (own_u i3)), .val (.int (own_q i4)), .unset, .unset, .unset, .unset, .unset]) rfl rfl ?_
    refine G.iloadN C at_35 rfl rfl ?_
    refine G.callSP C (S := []) (W := 0) (twd hw 4 rfl) (twd hw 5 rfl) (twd hw 2 rfl) (twd hw 6 rfl) (by decide) (c2 l Z a0 hw i4 h n0) pd0 rfl rfl at_36 rfl (Nat.le_of_eq rfl) (by decide) (by decide) rfl rfl (by decide) (by decide) rfl ?_
    refine G.istore C at_39 (Ls' := #[.val (.int i1), .val (.int i2), .val (.int i3), .val (.int i4), .val (.int (1 : Int32)), .val (.int (own_q i2)), .val (.int (own_u i2)), .val (.int (own_q i3)), .val (.int (own_u i3)), .val (.int (own_q i4)), .val (.int (own_u i4)), .unset, .unset, .unset, .unset]) rfl rfl ?_
    refine G.iload C at_41 rfl rfl ?_
    refine G.newarr C (aty := .double) (twd hw 7 rfl) (z := (1 : Int32)) (by decide) (cap := 1) (by decide) (by decide) at_43 (by decide) (by decide) rfl (fun hn11 b43 g43 E43 A43 => ?_)
    have ge43 : n0 ≤ b43 := by rw [g43]; exact Z0
    have sz12 : n0 ≤ hn11.size := Nat.le_trans Z0 E43.1
    have AA43 : Ara Z hn11 b43 .double 1 (own_td [(0 : UInt64)]) := Ara.cast A43 (fun q hq => own_d0 1 q)
    show G p l e _ _ m _ below meth c n0 _ hn11 1 1 (mkF m 45 #[.val (.int i1), .val (.int i2), .val (.int i3), .val (.int i4), .val (.int (1 : Int32)), .val (.int (own_q i2)), .val (.int (own_u i2)), .val (.int (own_q i3)), .val (.int (own_u i3)), .val (.int (own_q i4)), .val (.int (own_u i4)), .unset, .unset, .unset, .unset] [(.ref b43)])
    refine G.astore C at_45 rfl (Ls' := #[.val (.int i1), .val (.int i2), .val (.int i3), .val (.int i4), .val (.int (1 : Int32)), .val (.int (own_q i2)), .val (.int (own_u i2)), .val (.int (own_q i3)), .val (.int (own_u i3)), .val (.int (own_q i4)), .val (.int (own_u i4)), .val (.ref b43), .unset, .unset, .unset]) rfl rfl ?_
    refine G.iload C at_47 rfl rfl ?_
    refine G.newarr C (aty := .double) (twd hw 7 rfl) (z := (1 : Int32)) (by decide) (cap := 1) (by decide) (by decide) at_49 (by decide) (by decide) rfl (fun hn13 b49 g49 E49 A49 => ?_)
    have ne_b43_b49 : b43 ≠ b49 := by rw [g49]; exact Nat.ne_of_lt (Ara.lt AA43)
    have ge49 : n0 ≤ b49 := by rw [g49]; exact sz12
    have oc14 := Ara.ext AA43 E49
    have sz15 : n0 ≤ hn13.size := Nat.le_trans sz12 E49.1
    have AA49 : Ara Z hn13 b49 .double 1 (own_td [(0 : UInt64)]) := Ara.cast A49 (fun q hq => own_d0 1 q)
    show G p l e _ _ m _ below meth c n0 _ hn13 2 2 (mkF m 51 #[.val (.int i1), .val (.int i2), .val (.int i3), .val (.int i4), .val (.int (1 : Int32)), .val (.int (own_q i2)), .val (.int (own_u i2)), .val (.int (own_q i3)), .val (.int (own_u i3)), .val (.int (own_q i4)), .val (.int (own_u i4)), .val (.ref b43), .unset, .unset, .unset] [(.ref b49)])
    refine G.astore C at_51 rfl (Ls' := #[.val (.int i1), .val (.int i2), .val (.int i3), .val (.int i4), .val (.int (1 : Int32)), .val (.int (own_q i2)), .val (.int (own_u i2)), .val (.int (own_q i3)), .val (.int (own_u i3)), .val (.int (own_q i4)), .val (.int (own_u i4)), .val (.ref b43), .val (.ref b49), .unset, .unset]) rfl rfl ?_
    refine G.iload C at_53 rfl rfl ?_
    refine G.ifle C at_55 (by decide) (pt := 75) (by decide) rfl (fun q => absurd q (by decide)) (fun _ => ?_)
    refine G.aload C at_58 rfl rfl rfl ?_
    refine G.iconst C at_60 (v := (0 : Int32)) rfl rfl ?_
    refine G.iload C at_61 rfl rfl ?_
    refine G.iload C at_63 rfl rfl ?_
    refine G.imul C at_65 rfl ?_
    refine G.i2d C at_66 rfl ?_
    refine G.dastore C oc14 (by decide) ge43 at_67 rfl (fun hn16 Whn16 => ?_)
    have Wbhn16 : Wr hn13 hn16 b43 0 (.double (FP.i2d ((own_q i2) * (own_u i2)))) := Whn16
    have oc17 := Ara.oth AA49 Whn16 (Ne.symm ne_b43_b49)
    have sz18 : n0 ≤ hn16.size := (by rw [Whn16.size]; exact sz15)
    have Awhn16 : Ara Z hn16 b43 .double 1 (own_td [(FP.i2d ((own_q i2) * (own_u i2)))]) := Ara.cast (Ara.set oc14 Wbhn16) (fun q hq => own_dset [(0 : UInt64)] 0 (FP.i2d ((own_q i2) * (own_u i2))) (show 0 < 1 by decide) q)
    refine G.aload C at_68 rfl rfl rfl ?_
    refine G.iconst C at_70 (v := (0 : Int32)) rfl rfl ?_
    refine G.iload C at_71 rfl rfl ?_
    refine G.i2d C at_73 rfl ?_
    refine G.dastore C oc17 (by decide) ge49 at_74 rfl (fun hn19 Whn19 => ?_)
    have Wbhn19 : Wr hn16 hn19 b49 0 (.double (FP.i2d (own_u i2))) := Whn19
    have oc20 := Ara.oth Awhn16 Whn19 ne_b43_b49
    have sz21 : n0 ≤ hn19.size := (by rw [Whn19.size]; exact sz18)
    have Awhn19 : Ara Z hn19 b49 .double 1 (own_td [(FP.i2d (own_u i2))]) := Ara.cast (Ara.set oc17 Wbhn19) (fun q hq => own_dset [(0 : UInt64)] 0 (FP.i2d (own_u i2)) (show 0 < 1 by decide) q)
    refine G.iload C at_75 rfl rfl ?_
    refine G.iconst C at_77 (v := (1 : Int32)) rfl rfl ?_
    refine G.icle C at_78 (by decide) (pt := 98) (by decide) rfl (fun _ => ?_) (fun q => absurd q (by decide))
    refine G.iload C at_98 rfl rfl ?_
    refine G.iconst C at_100 (v := (2 : Int32)) rfl rfl ?_
    refine G.icle C at_101 (by decide) (pt := 121) (by decide) rfl (fun _ => ?_) (fun q => absurd q (by decide))
    refine G.aload C at_121 rfl rfl rfl ?_
    refine G.aload C at_123 rfl rfl rfl ?_
    refine G.callS C (S := []) (W := 0) (twd hw 8 rfl) (twd hw 9 rfl) (twd hw 10 rfl) (twd hw 11 rfl) (by decide) (cR1 l Z a0 hw b43 b49 hn19 n0 (FP.i2d ((own_q i2) * (own_u i2))) (FP.i2d (own_u i2)) oc20 Awhn19 (own_Dn (own_q_r _) (own_u_r _)) sz21) pd1 rfl rfl at_125 rfl (Nat.le_of_eq rfl) (by decide) (by decide) (by decide) (by decide) rfl (fun whp22 hp22 hq23 => ?_)
    obtain ⟨f125, rfl, A125, K125, g125⟩ := hq23
    have ne_b43_f125 : b43 ≠ f125 := Nat.ne_of_lt (Nat.lt_of_lt_of_le (Ara.lt oc20) g125)
    have ne_b49_f125 : b49 ≠ f125 := Nat.ne_of_lt (Nat.lt_of_lt_of_le (Ara.lt Awhn19) g125)
    have oc24 := Ara.kp oc20 K125 (by simp)
    have oc25 := Ara.kp Awhn19 K125 (by simp)
    have sz26 : n0 ≤ hp22.size := Nat.le_trans sz21 K125.1.1
    show G p l e _ _ m _ below meth c n0 _ hp22 3 3 (mkF m 128 #[.val (.int i1), .val (.int i2), .val (.int i3), .val (.int i4), .val (.int (1 : Int32)), .val (.int (own_q i2)), .val (.int (own_u i2)), .val (.int (own_q i3)), .val (.int (own_u i3)), .val (.int (own_q i4)), .val (.int (own_u i4)), .val (.ref b43), .val (.ref b49), .unset, .unset] [(.ref f125)])
    refine G.astore C at_128 rfl (Ls' := #[.val (.int i1), .val (.int i2), .val (.int i3), .val (.int i4), .val (.int (1 : Int32)), .val (.int (own_q i2)), .val (.int (own_u i2)), .val (.int (own_q i3)), .val (.int (own_u i3)), .val (.int (own_q i4)), .val (.int (own_u i4)), .val (.ref b43), .val (.ref b49), .val (.ref f125), .unset]) rfl rfl ?_
    refine G.aload C at_130 rfl rfl rfl ?_
    refine G.ifnullR C at_132 rfl ?_
    refine G.aload C at_135 rfl rfl rfl ?_
    refine G.arrlen C A125 (z := (1 : Int32)) rfl at_137 rfl ?_
    refine G.iload C at_138 rfl rfl ?_
    refine G.icne C at_140 (by decide) (pt := 157) (by decide) rfl (fun q => absurd q (by decide)) (fun _ => ?_)
    refine G.aload C at_143 rfl rfl rfl ?_
    refine G.aload C at_145 rfl rfl rfl ?_
    refine G.acmpeq C at_147 (by decide) (pt := 157) (by decide) rfl (fun q => absurd q (Ne.symm ne_b43_f125)) (fun _ => ?_)
    refine G.aload C at_150 rfl rfl rfl ?_
    refine G.aload C at_152 rfl rfl rfl ?_
    refine G.acmpne C at_154 (by decide) (pt := 159) (by decide) rfl (fun _ => ?_) (fun q => absurd q (Ne.symm ne_b49_f125))
    refine G.iconst C at_159 (v := (1 : Int32)) rfl rfl ?_
    refine G.istore C at_160 (Ls' := #[.val (.int i1), .val (.int i2), .val (.int i3), .val (.int i4), .val (.int (1 : Int32)), .val (.int (own_q i2)), .val (.int (own_u i2)), .val (.int (own_q i3)), .val (.int (own_u i3)), .val (.int (own_q i4)), .val (.int (own_u i4)), .val (.ref b43), .val (.ref b49), .val (.ref f125), .val (.int (1 : Int32))]) rfl rfl ?_
    refine G.iload C at_162 rfl rfl ?_
    refine G.ifle C at_164 (by decide) (pt := 215) (by decide) rfl (fun q => absurd q (by decide)) (fun _ => ?_)
    refine G.iload C at_167 rfl rfl ?_
    refine G.ifeq C at_169 (by decide) (pt := 212) (by decide) rfl (fun q => absurd q (by decide)) (fun _ => ?_)
    refine G.aload C at_172 rfl rfl rfl ?_
    refine G.iconst C at_174 (v := (0 : Int32)) rfl rfl ?_
    refine G.daload C A125 (by decide) at_175 rfl ?_
    show G p l e _ _ m _ below meth c n0 _ hp22 3 3 (mkF m 176 #[.val (.int i1), .val (.int i2), .val (.int i3), .val (.int i4), .val (.int (1 : Int32)), .val (.int (own_q i2)), .val (.int (own_u i2)), .val (.int (own_q i3)), .val (.int (own_u i3)), .val (.int (own_q i4)), .val (.int (own_u i4)), .val (.ref b43), .val (.ref b49), .val (.ref f125), .val (.int (1 : Int32))] [(.double (FP.ddiv (FP.i2d ((own_q i2) * (own_u i2))) (FP.i2d (own_u i2))))])
    refine G.iload C at_176 rfl rfl ?_
    refine G.i2d C at_178 rfl ?_
    refine G.dcmpl C (v := (0 : Int32)) (own_c1 (own_q_r _) (own_u_r _)) at_179 rfl ?_
    refine G.ifne C at_180 (by decide) (pt := 212) (by decide) rfl (fun q => absurd q (by decide)) (fun _ => ?_)
    refine G.aload C at_183 rfl rfl rfl ?_
    refine G.iconst C at_185 (v := (0 : Int32)) rfl rfl ?_
    refine G.daload C oc24 (by decide) at_186 rfl ?_
    show G p l e _ _ m _ below meth c n0 _ hp22 3 3 (mkF m 187 #[.val (.int i1), .val (.int i2), .val (.int i3), .val (.int i4), .val (.int (1 : Int32)), .val (.int (own_q i2)), .val (.int (own_u i2)), .val (.int (own_q i3)), .val (.int (own_u i3)), .val (.int (own_q i4)), .val (.int (own_u i4)), .val (.ref b43), .val (.ref b49), .val (.ref f125), .val (.int (1 : Int32))] [(.double (FP.i2d ((own_q i2) * (own_u i2))))])
    refine G.iload C at_187 rfl rfl ?_
    refine G.iload C at_189 rfl rfl ?_
    refine G.imul C at_191 rfl ?_
    refine G.i2d C at_192 rfl ?_
    refine G.dcmpl C (v := (0 : Int32)) (own_c0 _) at_193 rfl ?_
    refine G.ifne C at_194 (by decide) (pt := 212) (by decide) rfl (fun q => absurd q (by decide)) (fun _ => ?_)
    refine G.aload C at_197 rfl rfl rfl ?_
    refine G.iconst C at_199 (v := (0 : Int32)) rfl rfl ?_
    refine G.daload C oc25 (by decide) at_200 rfl ?_
    show G p l e _ _ m _ below meth c n0 _ hp22 3 3 (mkF m 201 #[.val (.int i1), .val (.int i2), .val (.int i3), .val (.int i4), .val (.int (1 : Int32)), .val (.int (own_q i2)), .val (.int (own_u i2)), .val (.int (own_q i3)), .val (.int (own_u i3)), .val (.int (own_q i4)), .val (.int (own_u i4)), .val (.ref b43), .val (.ref b49), .val (.ref f125), .val (.int (1 : Int32))] [(.double (FP.i2d (own_u i2)))])
    refine G.iload C at_201 rfl rfl ?_
    refine G.i2d C at_203 rfl ?_
    refine G.dcmpl C (v := (0 : Int32)) (own_c0 _) at_204 rfl ?_
    refine G.ifne C at_205 (by decide) (pt := 212) (by decide) rfl (fun q => absurd q (by decide)) (fun _ => ?_)
    refine G.iconst C at_208 (v := (1 : Int32)) rfl rfl ?_
    refine G.goto C at_209 (by decide) (pc' := 213) (by decide) ?_
    refine G.istore C at_213 (Ls' := #[.val (.int i1), .val (.int i2), .val (.int i3), .val (.int i4), .val (.int (1 : Int32)), .val (.int (own_q i2)), .val (.int (own_u i2)), .val (.int (own_q i3)), .val (.int (own_u i3)), .val (.int (own_q i4)), .val (.int (own_u i4)), .val (.ref b43), .val (.ref b49), .val (.ref f125), .val (.int (1 : Int32))]) rfl rfl ?_
    refine G.iload C at_215 rfl rfl ?_
    refine G.iconst C at_217 (v := (1 : Int32)) rfl rfl ?_
    refine G.icle C at_218 (by decide) (pt := 269) (by decide) rfl (fun _ => ?_) (fun q => absurd q (by decide))
    refine G.iload C at_269 rfl rfl ?_
    refine G.iconst C at_271 (v := (2 : Int32)) rfl rfl ?_
    refine G.icle C at_272 (by decide) (pt := 323) (by decide) rfl (fun _ => ?_) (fun q => absurd q (by decide))
    refine G.iload C at_323 rfl rfl ?_
    exact G.retZ C at_325 (by decide) (by decide) rfl (rfl)
  · rw [hk]
    refine G.istore C at_3 (Ls' := #[.val (.int i1), .val (.int i2), .val (.int i3), .val (.int i4), .val (.int (2 : Int32)), .unset, .unset, .unset, .unset, .unset, .unset, .unset, .unset, .unset, .unset]) rfl rfl ?_
    refine G.iloadN C at_5 rfl rfl ?_
    refine G.callSP C (S := []) (W := 0) (twd hw 0 rfl) (twd hw 1 rfl) (twd hw 2 rfl) (twd hw 3 rfl) (by decide) (c1 l Z a0 hw i2 h n0) pd0 rfl rfl at_6 rfl (Nat.le_of_eq rfl) (by decide) (by decide) rfl rfl (by decide) (by decide) rfl ?_
    refine G.istore C at_9 (Ls' := #[.val (.int i1), .val (.int i2), .val (.int i3), .val (.int i4), .val (.int (2 : Int32)), .val (.int (own_q i2)), .unset, .unset, .unset, .unset, .unset, .unset, .unset, .unset, .unset]) rfl rfl ?_
    refine G.iloadN C at_11 rfl rfl ?_
    refine G.callSP C (S := []) (W := 0) (twd hw 4 rfl) (twd hw 5 rfl) (twd hw 2 rfl) (twd hw 6 rfl) (by decide) (c2 l Z a0 hw i2 h n0) pd0 rfl rfl at_12 rfl (Nat.le_of_eq rfl) (by decide) (by decide) rfl rfl (by decide) (by decide) rfl ?_
    refine G.istore C at_15 (Ls' := #[.val (.int i1), .val (.int i2), .val (.int i3), .val (.int i4), .val (.int (2 : Int32)), .val (.int (own_q i2)), .val (.int (own_u i2)), .unset, .unset, .unset, .unset, .unset, .unset, .unset, .unset]) rfl rfl ?_
    refine G.iloadN C at_17 rfl rfl ?_
    refine G.callSP C (S := []) (W := 0) (twd hw 0 rfl) (twd hw 1 rfl) (twd hw 2 rfl) (twd hw 3 rfl) (by decide) (c1 l Z a0 hw i3 h n0) pd0 rfl rfl at_18 rfl (Nat.le_of_eq rfl) (by decide) (by decide) rfl rfl (by decide) (by decide) rfl ?_
    refine G.istore C at_21 (Ls' := #[.val (.int i1), .val (.int i2), .val (.int i3), .val (.int i4), .val (.int (2 : Int32)), .val (.int (own_q i2)), .val (.int (own_u i2)), .val (.int (own_q i3)), .unset, .unset, .unset, .unset, .unset, .unset, .unset]) rfl rfl ?_
    refine G.iloadN C at_23 rfl rfl ?_
    refine G.callSP C (S := []) (W := 0) (twd hw 4 rfl) (twd hw 5 rfl) (twd hw 2 rfl) (twd hw 6 rfl) (by decide) (c2 l Z a0 hw i3 h n0) pd0 rfl rfl at_24 rfl (Nat.le_of_eq rfl) (by decide) (by decide) rfl rfl (by decide) (by decide) rfl ?_
    refine G.istore C at_27 (Ls' := #[.val (.int i1), .val (.int i2), .val (.int i3), .val (.int i4), .val (.int (2 : Int32)), .val (.int (own_q i2)), .val (.int (own_u i2)), .val (.int (own_q i3)), .val (.int (own_u i3)), .unset, .unset, .unset, .unset, .unset, .unset]) rfl rfl ?_
    refine G.iloadN C at_29 rfl rfl ?_
    refine G.callSP C (S := []) (W := 0) (twd hw 0 rfl) (twd hw 1 rfl) (twd hw 2 rfl) (twd hw 3 rfl) (by decide) (c1 l Z a0 hw i4 h n0) pd0 rfl rfl at_30 rfl (Nat.le_of_eq rfl) (by decide) (by decide) rfl rfl (by decide) (by decide) rfl ?_
    refine G.istore C at_33 (Ls' := #[.val (.int i1), .val (.int i2), .val (.int i3), .val (.int i4), .val (.int (2 : Int32)), .val (.int (own_q i2)), .val (.int (own_u i2)), .val (.int (own_q i3)), .val (.int (own_u i3)), .val (.int (own_q i4)), .unset, .unset, .unset, .unset, .unset]) rfl rfl ?_
    refine G.iloadN C at_35 rfl rfl ?_
    refine G.callSP C (S := []) (W := 0) (twd hw 4 rfl) (twd hw 5 rfl) (twd hw 2 rfl) (twd hw 6 rfl) (by decide) (c2 l Z a0 hw i4 h n0) pd0 rfl rfl at_36 rfl (Nat.le_of_eq rfl) (by decide) (by decide) rfl rfl (by decide) (by decide) rfl ?_
    refine G.istore C at_39 (Ls' := #[.val (.int i1), .val (.int i2), .val (.int i3), .val (.int i4), .val (.int (2 : Int32)), .val (.int (own_q i2)), .val (.int (own_u i2)), .val (.int (own_q i3)), .val (.int (own_u i3)), .val (.int (own_q i4)), .val (.int (own_u i4)), .unset, .unset, .unset, .unset]) rfl rfl ?_
    refine G.iload C at_41 rfl rfl ?_
    refine G.newarr C (aty := .double) (twd hw 7 rfl) (z := (2 : Int32)) (by decide) (cap := 2) (by decide) (by decide) at_43 (by decide) (by decide) rfl (fun hn27 b43 g43 E43 A43 => ?_)
    have ge43 : n0 ≤ b43 := by rw [g43]; exact Z0
    have sz28 : n0 ≤ hn27.size := Nat.le_trans Z0 E43.1
    have AA43 : Ara Z hn27 b43 .double 2 (own_td [(0 : UInt64), (0 : UInt64)]) := Ara.cast A43 (fun q hq => own_d0 2 q)
    show G p l e _ _ m _ below meth c n0 _ hn27 1 2 (mkF m 45 #[.val (.int i1), .val (.int i2), .val (.int i3), .val (.int i4), .val (.int (2 : Int32)), .val (.int (own_q i2)), .val (.int (own_u i2)), .val (.int (own_q i3)), .val (.int (own_u i3)), .val (.int (own_q i4)), .val (.int (own_u i4)), .unset, .unset, .unset, .unset] [(.ref b43)])
    refine G.astore C at_45 rfl (Ls' := #[.val (.int i1), .val (.int i2), .val (.int i3), .val (.int i4), .val (.int (2 : Int32)), .val (.int (own_q i2)), .val (.int (own_u i2)), .val (.int (own_q i3)), .val (.int (own_u i3)), .val (.int (own_q i4)), .val (.int (own_u i4)), .val (.ref b43), .unset, .unset, .unset]) rfl rfl ?_
    refine G.iload C at_47 rfl rfl ?_
    refine G.newarr C (aty := .double) (twd hw 7 rfl) (z := (2 : Int32)) (by decide) (cap := 2) (by decide) (by decide) at_49 (by decide) (by decide) rfl (fun hn29 b49 g49 E49 A49 => ?_)
    have ne_b43_b49 : b43 ≠ b49 := by rw [g49]; exact Nat.ne_of_lt (Ara.lt AA43)
    have ge49 : n0 ≤ b49 := by rw [g49]; exact sz28
    have oc30 := Ara.ext AA43 E49
    have sz31 : n0 ≤ hn29.size := Nat.le_trans sz28 E49.1
    have AA49 : Ara Z hn29 b49 .double 2 (own_td [(0 : UInt64), (0 : UInt64)]) := Ara.cast A49 (fun q hq => own_d0 2 q)
    show G p l e _ _ m _ below meth c n0 _ hn29 2 4 (mkF m 51 #[.val (.int i1), .val (.int i2), .val (.int i3), .val (.int i4), .val (.int (2 : Int32)), .val (.int (own_q i2)), .val (.int (own_u i2)), .val (.int (own_q i3)), .val (.int (own_u i3)), .val (.int (own_q i4)), .val (.int (own_u i4)), .val (.ref b43), .unset, .unset, .unset] [(.ref b49)])
    refine G.astore C at_51 rfl (Ls' := #[.val (.int i1), .val (.int i2), .val (.int i3), .val (.int i4), .val (.int (2 : Int32)), .val (.int (own_q i2)), .val (.int (own_u i2)), .val (.int (own_q i3)), .val (.int (own_u i3)), .val (.int (own_q i4)), .val (.int (own_u i4)), .val (.ref b43), .val (.ref b49), .unset, .unset]) rfl rfl ?_
    refine G.iload C at_53 rfl rfl ?_
    refine G.ifle C at_55 (by decide) (pt := 75) (by decide) rfl (fun q => absurd q (by decide)) (fun _ => ?_)
    refine G.aload C at_58 rfl rfl rfl ?_
    refine G.iconst C at_60 (v := (0 : Int32)) rfl rfl ?_
    refine G.iload C at_61 rfl rfl ?_
    refine G.iload C at_63 rfl rfl ?_
    refine G.imul C at_65 rfl ?_
    refine G.i2d C at_66 rfl ?_
    refine G.dastore C oc30 (by decide) ge43 at_67 rfl (fun hn32 Whn32 => ?_)
    have Wbhn32 : Wr hn29 hn32 b43 0 (.double (FP.i2d ((own_q i2) * (own_u i2)))) := Whn32
    have oc33 := Ara.oth AA49 Whn32 (Ne.symm ne_b43_b49)
    have sz34 : n0 ≤ hn32.size := (by rw [Whn32.size]; exact sz31)
    have Awhn32 : Ara Z hn32 b43 .double 2 (own_td [(FP.i2d ((own_q i2) * (own_u i2))), (0 : UInt64)]) := Ara.cast (Ara.set oc30 Wbhn32) (fun q hq => own_dset [(0 : UInt64), (0 : UInt64)] 0 (FP.i2d ((own_q i2) * (own_u i2))) (show 0 < 2 by decide) q)
    refine G.aload C at_68 rfl rfl rfl ?_
    refine G.iconst C at_70 (v := (0 : Int32)) rfl rfl ?_
    refine G.iload C at_71 rfl rfl ?_
    refine G.i2d C at_73 rfl ?_
    refine G.dastore C oc33 (by decide) ge49 at_74 rfl (fun hn35 Whn35 => ?_)
    have Wbhn35 : Wr hn32 hn35 b49 0 (.double (FP.i2d (own_u i2))) := Whn35
    have oc36 := Ara.oth Awhn32 Whn35 ne_b43_b49
    have sz37 : n0 ≤ hn35.size := (by rw [Whn35.size]; exact sz34)
    have Awhn35 : Ara Z hn35 b49 .double 2 (own_td [(FP.i2d (own_u i2)), (0 : UInt64)]) := Ara.cast (Ara.set oc33 Wbhn35) (fun q hq => own_dset [(0 : UInt64), (0 : UInt64)] 0 (FP.i2d (own_u i2)) (show 0 < 2 by decide) q)
    refine G.iload C at_75 rfl rfl ?_
    refine G.iconst C at_77 (v := (1 : Int32)) rfl rfl ?_
    refine G.icle C at_78 (by decide) (pt := 98) (by decide) rfl (fun q => absurd q (by decide)) (fun _ => ?_)
    refine G.aload C at_81 rfl rfl rfl ?_
    refine G.iconst C at_83 (v := (1 : Int32)) rfl rfl ?_
    refine G.iload C at_84 rfl rfl ?_
    refine G.iload C at_86 rfl rfl ?_
    refine G.imul C at_88 rfl ?_
    refine G.i2d C at_89 rfl ?_
    refine G.dastore C oc36 (by decide) ge43 at_90 rfl (fun hn38 Whn38 => ?_)
    have Wbhn38 : Wr hn35 hn38 b43 1 (.double (FP.i2d ((own_q i3) * (own_u i3)))) := Whn38
    have oc39 := Ara.oth Awhn35 Whn38 (Ne.symm ne_b43_b49)
    have sz40 : n0 ≤ hn38.size := (by rw [Whn38.size]; exact sz37)
    have Awhn38 : Ara Z hn38 b43 .double 2 (own_td [(FP.i2d ((own_q i2) * (own_u i2))), (FP.i2d ((own_q i3) * (own_u i3)))]) := Ara.cast (Ara.set oc36 Wbhn38) (fun q hq => own_dset [(FP.i2d ((own_q i2) * (own_u i2))), (0 : UInt64)] 1 (FP.i2d ((own_q i3) * (own_u i3))) (show 1 < 2 by decide) q)
    refine G.aload C at_91 rfl rfl rfl ?_
    refine G.iconst C at_93 (v := (1 : Int32)) rfl rfl ?_
    refine G.iload C at_94 rfl rfl ?_
    refine G.i2d C at_96 rfl ?_
    refine G.dastore C oc39 (by decide) ge49 at_97 rfl (fun hn41 Whn41 => ?_)
    have Wbhn41 : Wr hn38 hn41 b49 1 (.double (FP.i2d (own_u i3))) := Whn41
    have oc42 := Ara.oth Awhn38 Whn41 ne_b43_b49
    have sz43 : n0 ≤ hn41.size := (by rw [Whn41.size]; exact sz40)
    have Awhn41 : Ara Z hn41 b49 .double 2 (own_td [(FP.i2d (own_u i2)), (FP.i2d (own_u i3))]) := Ara.cast (Ara.set oc39 Wbhn41) (fun q hq => own_dset [(FP.i2d (own_u i2)), (0 : UInt64)] 1 (FP.i2d (own_u i3)) (show 1 < 2 by decide) q)
    refine G.iload C at_98 rfl rfl ?_
    refine G.iconst C at_100 (v := (2 : Int32)) rfl rfl ?_
    refine G.icle C at_101 (by decide) (pt := 121) (by decide) rfl (fun _ => ?_) (fun q => absurd q (by decide))
    refine G.aload C at_121 rfl rfl rfl ?_
    refine G.aload C at_123 rfl rfl rfl ?_
    refine G.callS C (S := []) (W := 0) (twd hw 8 rfl) (twd hw 9 rfl) (twd hw 10 rfl) (twd hw 11 rfl) (by decide) (cR2 l Z a0 hw b43 b49 hn41 n0 (FP.i2d ((own_q i2) * (own_u i2))) (FP.i2d ((own_q i3) * (own_u i3))) (FP.i2d (own_u i2)) (FP.i2d (own_u i3)) oc42 Awhn41 (own_Dn (own_q_r _) (own_u_r _)) (own_Dn (own_q_r _) (own_u_r _)) sz43) pd1 rfl rfl at_125 rfl (Nat.le_of_eq rfl) (by decide) (by decide) (by decide) (by decide) rfl (fun whp44 hp44 hq45 => ?_)
    obtain ⟨f125, rfl, A125, K125, g125⟩ := hq45
    have ne_b43_f125 : b43 ≠ f125 := Nat.ne_of_lt (Nat.lt_of_lt_of_le (Ara.lt oc42) g125)
    have ne_b49_f125 : b49 ≠ f125 := Nat.ne_of_lt (Nat.lt_of_lt_of_le (Ara.lt Awhn41) g125)
    have oc46 := Ara.kp oc42 K125 (by simp)
    have oc47 := Ara.kp Awhn41 K125 (by simp)
    have sz48 : n0 ≤ hp44.size := Nat.le_trans sz43 K125.1.1
    show G p l e _ _ m _ below meth c n0 _ hp44 3 6 (mkF m 128 #[.val (.int i1), .val (.int i2), .val (.int i3), .val (.int i4), .val (.int (2 : Int32)), .val (.int (own_q i2)), .val (.int (own_u i2)), .val (.int (own_q i3)), .val (.int (own_u i3)), .val (.int (own_q i4)), .val (.int (own_u i4)), .val (.ref b43), .val (.ref b49), .unset, .unset] [(.ref f125)])
    refine G.astore C at_128 rfl (Ls' := #[.val (.int i1), .val (.int i2), .val (.int i3), .val (.int i4), .val (.int (2 : Int32)), .val (.int (own_q i2)), .val (.int (own_u i2)), .val (.int (own_q i3)), .val (.int (own_u i3)), .val (.int (own_q i4)), .val (.int (own_u i4)), .val (.ref b43), .val (.ref b49), .val (.ref f125), .unset]) rfl rfl ?_
    refine G.aload C at_130 rfl rfl rfl ?_
    refine G.ifnullR C at_132 rfl ?_
    refine G.aload C at_135 rfl rfl rfl ?_
    refine G.arrlen C A125 (z := (2 : Int32)) rfl at_137 rfl ?_
    refine G.iload C at_138 rfl rfl ?_
    refine G.icne C at_140 (by decide) (pt := 157) (by decide) rfl (fun q => absurd q (by decide)) (fun _ => ?_)
    refine G.aload C at_143 rfl rfl rfl ?_
    refine G.aload C at_145 rfl rfl rfl ?_
    refine G.acmpeq C at_147 (by decide) (pt := 157) (by decide) rfl (fun q => absurd q (Ne.symm ne_b43_f125)) (fun _ => ?_)
    refine G.aload C at_150 rfl rfl rfl ?_
    refine G.aload C at_152 rfl rfl rfl ?_
    refine G.acmpne C at_154 (by decide) (pt := 159) (by decide) rfl (fun _ => ?_) (fun q => absurd q (Ne.symm ne_b49_f125))
    refine G.iconst C at_159 (v := (1 : Int32)) rfl rfl ?_
    refine G.istore C at_160 (Ls' := #[.val (.int i1), .val (.int i2), .val (.int i3), .val (.int i4), .val (.int (2 : Int32)), .val (.int (own_q i2)), .val (.int (own_u i2)), .val (.int (own_q i3)), .val (.int (own_u i3)), .val (.int (own_q i4)), .val (.int (own_u i4)), .val (.ref b43), .val (.ref b49), .val (.ref f125), .val (.int (1 : Int32))]) rfl rfl ?_
    refine G.iload C at_162 rfl rfl ?_
    refine G.ifle C at_164 (by decide) (pt := 215) (by decide) rfl (fun q => absurd q (by decide)) (fun _ => ?_)
    refine G.iload C at_167 rfl rfl ?_
    refine G.ifeq C at_169 (by decide) (pt := 212) (by decide) rfl (fun q => absurd q (by decide)) (fun _ => ?_)
    refine G.aload C at_172 rfl rfl rfl ?_
    refine G.iconst C at_174 (v := (0 : Int32)) rfl rfl ?_
    refine G.daload C A125 (by decide) at_175 rfl ?_
    show G p l e _ _ m _ below meth c n0 _ hp44 3 6 (mkF m 176 #[.val (.int i1), .val (.int i2), .val (.int i3), .val (.int i4), .val (.int (2 : Int32)), .val (.int (own_q i2)), .val (.int (own_u i2)), .val (.int (own_q i3)), .val (.int (own_u i3)), .val (.int (own_q i4)), .val (.int (own_u i4)), .val (.ref b43), .val (.ref b49), .val (.ref f125), .val (.int (1 : Int32))] [(.double (FP.ddiv (FP.i2d ((own_q i2) * (own_u i2))) (FP.i2d (own_u i2))))])
    refine G.iload C at_176 rfl rfl ?_
    refine G.i2d C at_178 rfl ?_
    refine G.dcmpl C (v := (0 : Int32)) (own_c1 (own_q_r _) (own_u_r _)) at_179 rfl ?_
    refine G.ifne C at_180 (by decide) (pt := 212) (by decide) rfl (fun q => absurd q (by decide)) (fun _ => ?_)
    refine G.aload C at_183 rfl rfl rfl ?_
    refine G.iconst C at_185 (v := (0 : Int32)) rfl rfl ?_
    refine G.daload C oc46 (by decide) at_186 rfl ?_
    show G p l e _ _ m _ below meth c n0 _ hp44 3 6 (mkF m 187 #[.val (.int i1), .val (.int i2), .val (.int i3), .val (.int i4), .val (.int (2 : Int32)), .val (.int (own_q i2)), .val (.int (own_u i2)), .val (.int (own_q i3)), .val (.int (own_u i3)), .val (.int (own_q i4)), .val (.int (own_u i4)), .val (.ref b43), .val (.ref b49), .val (.ref f125), .val (.int (1 : Int32))] [(.double (FP.i2d ((own_q i2) * (own_u i2))))])
    refine G.iload C at_187 rfl rfl ?_
    refine G.iload C at_189 rfl rfl ?_
    refine G.imul C at_191 rfl ?_
    refine G.i2d C at_192 rfl ?_
    refine G.dcmpl C (v := (0 : Int32)) (own_c0 _) at_193 rfl ?_
    refine G.ifne C at_194 (by decide) (pt := 212) (by decide) rfl (fun q => absurd q (by decide)) (fun _ => ?_)
    refine G.aload C at_197 rfl rfl rfl ?_
    refine G.iconst C at_199 (v := (0 : Int32)) rfl rfl ?_
    refine G.daload C oc47 (by decide) at_200 rfl ?_
    show G p l e _ _ m _ below meth c n0 _ hp44 3 6 (mkF m 201 #[.val (.int i1), .val (.int i2), .val (.int i3), .val (.int i4), .val (.int (2 : Int32)), .val (.int (own_q i2)), .val (.int (own_u i2)), .val (.int (own_q i3)), .val (.int (own_u i3)), .val (.int (own_q i4)), .val (.int (own_u i4)), .val (.ref b43), .val (.ref b49), .val (.ref f125), .val (.int (1 : Int32))] [(.double (FP.i2d (own_u i2)))])
    refine G.iload C at_201 rfl rfl ?_
    refine G.i2d C at_203 rfl ?_
    refine G.dcmpl C (v := (0 : Int32)) (own_c0 _) at_204 rfl ?_
    refine G.ifne C at_205 (by decide) (pt := 212) (by decide) rfl (fun q => absurd q (by decide)) (fun _ => ?_)
    refine G.iconst C at_208 (v := (1 : Int32)) rfl rfl ?_
    refine G.goto C at_209 (by decide) (pc' := 213) (by decide) ?_
    refine G.istore C at_213 (Ls' := #[.val (.int i1), .val (.int i2), .val (.int i3), .val (.int i4), .val (.int (2 : Int32)), .val (.int (own_q i2)), .val (.int (own_u i2)), .val (.int (own_q i3)), .val (.int (own_u i3)), .val (.int (own_q i4)), .val (.int (own_u i4)), .val (.ref b43), .val (.ref b49), .val (.ref f125), .val (.int (1 : Int32))]) rfl rfl ?_
    refine G.iload C at_215 rfl rfl ?_
    refine G.iconst C at_217 (v := (1 : Int32)) rfl rfl ?_
    refine G.icle C at_218 (by decide) (pt := 269) (by decide) rfl (fun q => absurd q (by decide)) (fun _ => ?_)
    refine G.iload C at_221 rfl rfl ?_
    refine G.ifeq C at_223 (by decide) (pt := 266) (by decide) rfl (fun q => absurd q (by decide)) (fun _ => ?_)
    refine G.aload C at_226 rfl rfl rfl ?_
    refine G.iconst C at_228 (v := (1 : Int32)) rfl rfl ?_
    refine G.daload C A125 (by decide) at_229 rfl ?_
    show G p l e _ _ m _ below meth c n0 _ hp44 3 6 (mkF m 230 #[.val (.int i1), .val (.int i2), .val (.int i3), .val (.int i4), .val (.int (2 : Int32)), .val (.int (own_q i2)), .val (.int (own_u i2)), .val (.int (own_q i3)), .val (.int (own_u i3)), .val (.int (own_q i4)), .val (.int (own_u i4)), .val (.ref b43), .val (.ref b49), .val (.ref f125), .val (.int (1 : Int32))] [(.double (FP.ddiv (FP.i2d ((own_q i3) * (own_u i3))) (FP.i2d (own_u i3))))])
    refine G.iload C at_230 rfl rfl ?_
    refine G.i2d C at_232 rfl ?_
    refine G.dcmpl C (v := (0 : Int32)) (own_c1 (own_q_r _) (own_u_r _)) at_233 rfl ?_
    refine G.ifne C at_234 (by decide) (pt := 266) (by decide) rfl (fun q => absurd q (by decide)) (fun _ => ?_)
    refine G.aload C at_237 rfl rfl rfl ?_
    refine G.iconst C at_239 (v := (1 : Int32)) rfl rfl ?_
    refine G.daload C oc46 (by decide) at_240 rfl ?_
    show G p l e _ _ m _ below meth c n0 _ hp44 3 6 (mkF m 241 #[.val (.int i1), .val (.int i2), .val (.int i3), .val (.int i4), .val (.int (2 : Int32)), .val (.int (own_q i2)), .val (.int (own_u i2)), .val (.int (own_q i3)), .val (.int (own_u i3)), .val (.int (own_q i4)), .val (.int (own_u i4)), .val (.ref b43), .val (.ref b49), .val (.ref f125), .val (.int (1 : Int32))] [(.double (FP.i2d ((own_q i3) * (own_u i3))))])
    refine G.iload C at_241 rfl rfl ?_
    refine G.iload C at_243 rfl rfl ?_
    refine G.imul C at_245 rfl ?_
    refine G.i2d C at_246 rfl ?_
    refine G.dcmpl C (v := (0 : Int32)) (own_c0 _) at_247 rfl ?_
    refine G.ifne C at_248 (by decide) (pt := 266) (by decide) rfl (fun q => absurd q (by decide)) (fun _ => ?_)
    refine G.aload C at_251 rfl rfl rfl ?_
    refine G.iconst C at_253 (v := (1 : Int32)) rfl rfl ?_
    refine G.daload C oc47 (by decide) at_254 rfl ?_
    show G p l e _ _ m _ below meth c n0 _ hp44 3 6 (mkF m 255 #[.val (.int i1), .val (.int i2), .val (.int i3), .val (.int i4), .val (.int (2 : Int32)), .val (.int (own_q i2)), .val (.int (own_u i2)), .val (.int (own_q i3)), .val (.int (own_u i3)), .val (.int (own_q i4)), .val (.int (own_u i4)), .val (.ref b43), .val (.ref b49), .val (.ref f125), .val (.int (1 : Int32))] [(.double (FP.i2d (own_u i3)))])
    refine G.iload C at_255 rfl rfl ?_
    refine G.i2d C at_257 rfl ?_
    refine G.dcmpl C (v := (0 : Int32)) (own_c0 _) at_258 rfl ?_
    refine G.ifne C at_259 (by decide) (pt := 266) (by decide) rfl (fun q => absurd q (by decide)) (fun _ => ?_)
    refine G.iconst C at_262 (v := (1 : Int32)) rfl rfl ?_
    refine G.goto C at_263 (by decide) (pc' := 267) (by decide) ?_
    refine G.istore C at_267 (Ls' := #[.val (.int i1), .val (.int i2), .val (.int i3), .val (.int i4), .val (.int (2 : Int32)), .val (.int (own_q i2)), .val (.int (own_u i2)), .val (.int (own_q i3)), .val (.int (own_u i3)), .val (.int (own_q i4)), .val (.int (own_u i4)), .val (.ref b43), .val (.ref b49), .val (.ref f125), .val (.int (1 : Int32))]) rfl rfl ?_
    refine G.iload C at_269 rfl rfl ?_
    refine G.iconst C at_271 (v := (2 : Int32)) rfl rfl ?_
    refine G.icle C at_272 (by decide) (pt := 323) (by decide) rfl (fun _ => ?_) (fun q => absurd q (by decide))
    refine G.iload C at_323 rfl rfl ?_
    exact G.retZ C at_325 (by decide) (by decide) rfl (rfl)
  · rw [hk]
    refine G.istore C at_3 (Ls' := #[.val (.int i1), .val (.int i2), .val (.int i3), .val (.int i4), .val (.int (3 : Int32)), .unset, .unset, .unset, .unset, .unset, .unset, .unset, .unset, .unset, .unset]) rfl rfl ?_
    refine G.iloadN C at_5 rfl rfl ?_
    refine G.callSP C (S := []) (W := 0) (twd hw 0 rfl) (twd hw 1 rfl) (twd hw 2 rfl) (twd hw 3 rfl) (by decide) (c1 l Z a0 hw i2 h n0) pd0 rfl rfl at_6 rfl (Nat.le_of_eq rfl) (by decide) (by decide) rfl rfl (by decide) (by decide) rfl ?_
    refine G.istore C at_9 (Ls' := #[.val (.int i1), .val (.int i2), .val (.int i3), .val (.int i4), .val (.int (3 : Int32)), .val (.int (own_q i2)), .unset, .unset, .unset, .unset, .unset, .unset, .unset, .unset, .unset]) rfl rfl ?_
    refine G.iloadN C at_11 rfl rfl ?_
    refine G.callSP C (S := []) (W := 0) (twd hw 4 rfl) (twd hw 5 rfl) (twd hw 2 rfl) (twd hw 6 rfl) (by decide) (c2 l Z a0 hw i2 h n0) pd0 rfl rfl at_12 rfl (Nat.le_of_eq rfl) (by decide) (by decide) rfl rfl (by decide) (by decide) rfl ?_
    refine G.istore C at_15 (Ls' := #[.val (.int i1), .val (.int i2), .val (.int i3), .val (.int i4), .val (.int (3 : Int32)), .val (.int (own_q i2)), .val (.int (own_u i2)), .unset, .unset, .unset, .unset, .unset, .unset, .unset, .unset]) rfl rfl ?_
    refine G.iloadN C at_17 rfl rfl ?_
    refine G.callSP C (S := []) (W := 0) (twd hw 0 rfl) (twd hw 1 rfl) (twd hw 2 rfl) (twd hw 3 rfl) (by decide) (c1 l Z a0 hw i3 h n0) pd0 rfl rfl at_18 rfl (Nat.le_of_eq rfl) (by decide) (by decide) rfl rfl (by decide) (by decide) rfl ?_
    refine G.istore C at_21 (Ls' := #[.val (.int i1), .val (.int i2), .val (.int i3), .val (.int i4), .val (.int (3 : Int32)), .val (.int (own_q i2)), .val (.int (own_u i2)), .val (.int (own_q i3)), .unset, .unset, .unset, .unset, .unset, .unset, .unset]) rfl rfl ?_
    refine G.iloadN C at_23 rfl rfl ?_
    refine G.callSP C (S := []) (W := 0) (twd hw 4 rfl) (twd hw 5 rfl) (twd hw 2 rfl) (twd hw 6 rfl) (by decide) (c2 l Z a0 hw i3 h n0) pd0 rfl rfl at_24 rfl (Nat.le_of_eq rfl) (by decide) (by decide) rfl rfl (by decide) (by decide) rfl ?_
    refine G.istore C at_27 (Ls' := #[.val (.int i1), .val (.int i2), .val (.int i3), .val (.int i4), .val (.int (3 : Int32)), .val (.int (own_q i2)), .val (.int (own_u i2)), .val (.int (own_q i3)), .val (.int (own_u i3)), .unset, .unset, .unset, .unset, .unset, .unset]) rfl rfl ?_
    refine G.iloadN C at_29 rfl rfl ?_
    refine G.callSP C (S := []) (W := 0) (twd hw 0 rfl) (twd hw 1 rfl) (twd hw 2 rfl) (twd hw 3 rfl) (by decide) (c1 l Z a0 hw i4 h n0) pd0 rfl rfl at_30 rfl (Nat.le_of_eq rfl) (by decide) (by decide) rfl rfl (by decide) (by decide) rfl ?_
    refine G.istore C at_33 (Ls' := #[.val (.int i1), .val (.int i2), .val (.int i3), .val (.int i4), .val (.int (3 : Int32)), .val (.int (own_q i2)), .val (.int (own_u i2)), .val (.int (own_q i3)), .val (.int (own_u i3)), .val (.int (own_q i4)), .unset, .unset, .unset, .unset, .unset]) rfl rfl ?_
    refine G.iloadN C at_35 rfl rfl ?_
    refine G.callSP C (S := []) (W := 0) (twd hw 4 rfl) (twd hw 5 rfl) (twd hw 2 rfl) (twd hw 6 rfl) (by decide) (c2 l Z a0 hw i4 h n0) pd0 rfl rfl at_36 rfl (Nat.le_of_eq rfl) (by decide) (by decide) rfl rfl (by decide) (by decide) rfl ?_
    refine G.istore C at_39 (Ls' := #[.val (.int i1), .val (.int i2), .val (.int i3), .val (.int i4), .val (.int (3 : Int32)), .val (.int (own_q i2)), .val (.int (own_u i2)), .val (.int (own_q i3)), .val (.int (own_u i3)), .val (.int (own_q i4)), .val (.int (own_u i4)), .unset, .unset, .unset, .unset]) rfl rfl ?_
    refine G.iload C at_41 rfl rfl ?_
    refine G.newarr C (aty := .double) (twd hw 7 rfl) (z := (3 : Int32)) (by decide) (cap := 3) (by decide) (by decide) at_43 (by decide) (by decide) rfl (fun hn49 b43 g43 E43 A43 => ?_)
    have ge43 : n0 ≤ b43 := by rw [g43]; exact Z0
    have sz50 : n0 ≤ hn49.size := Nat.le_trans Z0 E43.1
    have AA43 : Ara Z hn49 b43 .double 3 (own_td [(0 : UInt64), (0 : UInt64), (0 : UInt64)]) := Ara.cast A43 (fun q hq => own_d0 3 q)
    show G p l e _ _ m _ below meth c n0 _ hn49 1 3 (mkF m 45 #[.val (.int i1), .val (.int i2), .val (.int i3), .val (.int i4), .val (.int (3 : Int32)), .val (.int (own_q i2)), .val (.int (own_u i2)), .val (.int (own_q i3)), .val (.int (own_u i3)), .val (.int (own_q i4)), .val (.int (own_u i4)), .unset, .unset, .unset, .unset] [(.ref b43)])
    refine G.astore C at_45 rfl (Ls' := #[.val (.int i1), .val (.int i2), .val (.int i3), .val (.int i4), .val (.int (3 : Int32)), .val (.int (own_q i2)), .val (.int (own_u i2)), .val (.int (own_q i3)), .val (.int (own_u i3)), .val (.int (own_q i4)), .val (.int (own_u i4)), .val (.ref b43), .unset, .unset, .unset]) rfl rfl ?_
    refine G.iload C at_47 rfl rfl ?_
    refine G.newarr C (aty := .double) (twd hw 7 rfl) (z := (3 : Int32)) (by decide) (cap := 3) (by decide) (by decide) at_49 (by decide) (by decide) rfl (fun hn51 b49 g49 E49 A49 => ?_)
    have ne_b43_b49 : b43 ≠ b49 := by rw [g49]; exact Nat.ne_of_lt (Ara.lt AA43)
    have ge49 : n0 ≤ b49 := by rw [g49]; exact sz50
    have oc52 := Ara.ext AA43 E49
    have sz53 : n0 ≤ hn51.size := Nat.le_trans sz50 E49.1
    have AA49 : Ara Z hn51 b49 .double 3 (own_td [(0 : UInt64), (0 : UInt64), (0 : UInt64)]) := Ara.cast A49 (fun q hq => own_d0 3 q)
    show G p l e _ _ m _ below meth c n0 _ hn51 2 6 (mkF m 51 #[.val (.int i1), .val (.int i2), .val (.int i3), .val (.int i4), .val (.int (3 : Int32)), .val (.int (own_q i2)), .val (.int (own_u i2)), .val (.int (own_q i3)), .val (.int (own_u i3)), .val (.int (own_q i4)), .val (.int (own_u i4)), .val (.ref b43), .unset, .unset, .unset] [(.ref b49)])
    refine G.astore C at_51 rfl (Ls' := #[.val (.int i1), .val (.int i2), .val (.int i3), .val (.int i4), .val (.int (3 : Int32)), .val (.int (own_q i2)), .val (.int (own_u i2)), .val (.int (own_q i3)), .val (.int (own_u i3)), .val (.int (own_q i4)), .val (.int (own_u i4)), .val (.ref b43), .val (.ref b49), .unset, .unset]) rfl rfl ?_
    refine G.iload C at_53 rfl rfl ?_
    refine G.ifle C at_55 (by decide) (pt := 75) (by decide) rfl (fun q => absurd q (by decide)) (fun _ => ?_)
    refine G.aload C at_58 rfl rfl rfl ?_
    refine G.iconst C at_60 (v := (0 : Int32)) rfl rfl ?_
    refine G.iload C at_61 rfl rfl ?_
    refine G.iload C at_63 rfl rfl ?_
    refine G.imul C at_65 rfl ?_
    refine G.i2d C at_66 rfl ?_
    refine G.dastore C oc52 (by decide) ge43 at_67 rfl (fun hn54 Whn54 => ?_)
    have Wbhn54 : Wr hn51 hn54 b43 0 (.double (FP.i2d ((own_q i2) * (own_u i2)))) := Whn54
    have oc55 := Ara.oth AA49 Whn54 (Ne.symm ne_b43_b49)
    have sz56 : n0 ≤ hn54.size := (by rw [Whn54.size]; exact sz53)
    have Awhn54 : Ara Z hn54 b43 .double 3 (own_td [(FP.i2d ((own_q i2) * (own_u i2))), (0 : UInt64), (0 : UInt64)]) := Ara.cast (Ara.set oc52 Wbhn54) (fun q hq => own_dset [(0 : UInt64), (0 : UInt64), (0 : UInt64)] 0 (FP.i2d ((own_q i2) * (own_u i2))) (show 0 < 3 by decide) q)
    refine G.aload C at_68 rfl rfl rfl ?_
    refine G.iconst C at_70 (v := (0 : Int32)) rfl rfl ?_
    refine G.iload C at_71 rfl rfl ?_
    refine G.i2d C at_73 rfl ?_
    refine G.dastore C oc55 (by decide) ge49 at_74 rfl (fun hn57 Whn57 => ?_)
    have Wbhn57 : Wr hn54 hn57 b49 0 (.double (FP.i2d (own_u i2))) := Whn57
    have oc58 := Ara.oth Awhn54 Whn57 ne_b43_b49
    have sz59 : n0 ≤ hn57.size := (by rw [Whn57.size]; exact sz56)
    have Awhn57 : Ara Z hn57 b49 .double 3 (own_td [(FP.i2d (own_u i2)), (0 : UInt64), (0 : UInt64)]) := Ara.cast (Ara.set oc55 Wbhn57) (fun q hq => own_dset [(0 : UInt64), (0 : UInt64), (0 : UInt64)] 0 (FP.i2d (own_u i2)) (show 0 < 3 by decide) q)
    refine G.iload C at_75 rfl rfl ?_
    refine G.iconst C at_77 (v := (1 : Int32)) rfl rfl ?_
    refine G.icle C at_78 (by decide) (pt := 98) (by decide) rfl (fun q => absurd q (by decide)) (fun _ => ?_)
    refine G.aload C at_81 rfl rfl rfl ?_
    refine G.iconst C at_83 (v := (1 : Int32)) rfl rfl ?_
    refine G.iload C at_84 rfl rfl ?_
    refine G.iload C at_86 rfl rfl ?_
    refine G.imul C at_88 rfl ?_
    refine G.i2d C at_89 rfl ?_
    refine G.dastore C oc58 (by decide) ge43 at_90 rfl (fun hn60 Whn60 => ?_)
    have Wbhn60 : Wr hn57 hn60 b43 1 (.double (FP.i2d ((own_q i3) * (own_u i3)))) := Whn60
    have oc61 := Ara.oth Awhn57 Whn60 (Ne.symm ne_b43_b49)
    have sz62 : n0 ≤ hn60.size := (by rw [Whn60.size]; exact sz59)
    have Awhn60 : Ara Z hn60 b43 .double 3 (own_td [(FP.i2d ((own_q i2) * (own_u i2))), (FP.i2d ((own_q i3) * (own_u i3))), (0 : UInt64)]) := Ara.cast (Ara.set oc58 Wbhn60) (fun q hq => own_dset [(FP.i2d ((own_q i2) * (own_u i2))), (0 : UInt64), (0 : UInt64)] 1 (FP.i2d ((own_q i3) * (own_u i3))) (show 1 < 3 by decide) q)
    refine G.aload C at_91 rfl rfl rfl ?_
    refine G.iconst C at_93 (v := (1 : Int32)) rfl rfl ?_
    refine G.iload C at_94 rfl rfl ?_
    refine G.i2d C at_96 rfl ?_
    refine G.dastore C oc61 (by decide) ge49 at_97 rfl (fun hn63 Whn63 => ?_)
    have Wbhn63 : Wr hn60 hn63 b49 1 (.double (FP.i2d (own_u i3))) := Whn63
    have oc64 := Ara.oth Awhn60 Whn63 ne_b43_b49
    have sz65 : n0 ≤ hn63.size := (by rw [Whn63.size]; exact sz62)
    have Awhn63 : Ara Z hn63 b49 .double 3 (own_td [(FP.i2d (own_u i2)), (FP.i2d (own_u i3)), (0 : UInt64)]) := Ara.cast (Ara.set oc61 Wbhn63) (fun q hq => own_dset [(FP.i2d (own_u i2)), (0 : UInt64), (0 : UInt64)] 1 (FP.i2d (own_u i3)) (show 1 < 3 by decide) q)
    refine G.iload C at_98 rfl rfl ?_
    refine G.iconst C at_100 (v := (2 : Int32)) rfl rfl ?_
    refine G.icle C at_101 (by decide) (pt := 121) (by decide) rfl (fun q => absurd q (by decide)) (fun _ => ?_)
    refine G.aload C at_104 rfl rfl rfl ?_
    refine G.iconst C at_106 (v := (2 : Int32)) rfl rfl ?_
    refine G.iload C at_107 rfl rfl ?_
    refine G.iload C at_109 rfl rfl ?_
    refine G.imul C at_111 rfl ?_
    refine G.i2d C at_112 rfl ?_
    refine G.dastore C oc64 (by decide) ge43 at_113 rfl (fun hn66 Whn66 => ?_)
    have Wbhn66 : Wr hn63 hn66 b43 2 (.double (FP.i2d ((own_q i4) * (own_u i4)))) := Whn66
    have oc67 := Ara.oth Awhn63 Whn66 (Ne.symm ne_b43_b49)
    have sz68 : n0 ≤ hn66.size := (by rw [Whn66.size]; exact sz65)
    have Awhn66 : Ara Z hn66 b43 .double 3 (own_td [(FP.i2d ((own_q i2) * (own_u i2))), (FP.i2d ((own_q i3) * (own_u i3))), (FP.i2d ((own_q i4) * (own_u i4)))]) := Ara.cast (Ara.set oc64 Wbhn66) (fun q hq => own_dset [(FP.i2d ((own_q i2) * (own_u i2))), (FP.i2d ((own_q i3) * (own_u i3))), (0 : UInt64)] 2 (FP.i2d ((own_q i4) * (own_u i4))) (show 2 < 3 by decide) q)
    refine G.aload C at_114 rfl rfl rfl ?_
    refine G.iconst C at_116 (v := (2 : Int32)) rfl rfl ?_
    refine G.iload C at_117 rfl rfl ?_
    refine G.i2d C at_119 rfl ?_
    refine G.dastore C oc67 (by decide) ge49 at_120 rfl (fun hn69 Whn69 => ?_)
    have Wbhn69 : Wr hn66 hn69 b49 2 (.double (FP.i2d (own_u i4))) := Whn69
    have oc70 := Ara.oth Awhn66 Whn69 ne_b43_b49
    have sz71 : n0 ≤ hn69.size := (by rw [Whn69.size]; exact sz68)
    have Awhn69 : Ara Z hn69 b49 .double 3 (own_td [(FP.i2d (own_u i2)), (FP.i2d (own_u i3)), (FP.i2d (own_u i4))]) := Ara.cast (Ara.set oc67 Wbhn69) (fun q hq => own_dset [(FP.i2d (own_u i2)), (FP.i2d (own_u i3)), (0 : UInt64)] 2 (FP.i2d (own_u i4)) (show 2 < 3 by decide) q)
    refine G.aload C at_121 rfl rfl rfl ?_
    refine G.aload C at_123 rfl rfl rfl ?_
    refine G.callS C (S := []) (W := 0) (twd hw 8 rfl) (twd hw 9 rfl) (twd hw 10 rfl) (twd hw 11 rfl) (by decide) (cR3 l Z a0 hw b43 b49 hn69 n0 (FP.i2d ((own_q i2) * (own_u i2))) (FP.i2d ((own_q i3) * (own_u i3))) (FP.i2d ((own_q i4) * (own_u i4))) (FP.i2d (own_u i2)) (FP.i2d (own_u i3)) (FP.i2d (own_u i4)) oc70 Awhn69 (own_Dn (own_q_r _) (own_u_r _)) (own_Dn (own_q_r _) (own_u_r _)) (own_Dn (own_q_r _) (own_u_r _)) sz71) pd1 rfl rfl at_125 rfl (Nat.le_of_eq rfl) (by decide) (by decide) (by decide) (by decide) rfl (fun whp72 hp72 hq73 => ?_)
    obtain ⟨f125, rfl, A125, K125, g125⟩ := hq73
    have ne_b43_f125 : b43 ≠ f125 := Nat.ne_of_lt (Nat.lt_of_lt_of_le (Ara.lt oc70) g125)
    have ne_b49_f125 : b49 ≠ f125 := Nat.ne_of_lt (Nat.lt_of_lt_of_le (Ara.lt Awhn69) g125)
    have oc74 := Ara.kp oc70 K125 (by simp)
    have oc75 := Ara.kp Awhn69 K125 (by simp)
    have sz76 : n0 ≤ hp72.size := Nat.le_trans sz71 K125.1.1
    show G p l e _ _ m _ below meth c n0 _ hp72 3 9 (mkF m 128 #[.val (.int i1), .val (.int i2), .val (.int i3), .val (.int i4), .val (.int (3 : Int32)), .val (.int (own_q i2)), .val (.int (own_u i2)), .val (.int (own_q i3)), .val (.int (own_u i3)), .val (.int (own_q i4)), .val (.int (own_u i4)), .val (.ref b43), .val (.ref b49), .unset, .unset] [(.ref f125)])
    refine G.astore C at_128 rfl (Ls' := #[.val (.int i1), .val (.int i2), .val (.int i3), .val (.int i4), .val (.int (3 : Int32)), .val (.int (own_q i2)), .val (.int (own_u i2)), .val (.int (own_q i3)), .val (.int (own_u i3)), .val (.int (own_q i4)), .val (.int (own_u i4)), .val (.ref b43), .val (.ref b49), .val (.ref f125), .unset]) rfl rfl ?_
    refine G.aload C at_130 rfl rfl rfl ?_
    refine G.ifnullR C at_132 rfl ?_
    refine G.aload C at_135 rfl rfl rfl ?_
    refine G.arrlen C A125 (z := (3 : Int32)) rfl at_137 rfl ?_
    refine G.iload C at_138 rfl rfl ?_
    refine G.icne C at_140 (by decide) (pt := 157) (by decide) rfl (fun q => absurd q (by decide)) (fun _ => ?_)
    refine G.aload C at_143 rfl rfl rfl ?_
    refine G.aload C at_145 rfl rfl rfl ?_
    refine G.acmpeq C at_147 (by decide) (pt := 157) (by decide) rfl (fun q => absurd q (Ne.symm ne_b43_f125)) (fun _ => ?_)
    refine G.aload C at_150 rfl rfl rfl ?_
    refine G.aload C at_152 rfl rfl rfl ?_
    refine G.acmpne C at_154 (by decide) (pt := 159) (by decide) rfl (fun _ => ?_) (fun q => absurd q (Ne.symm ne_b49_f125))
    refine G.iconst C at_159 (v := (1 : Int32)) rfl rfl ?_
    refine G.istore C at_160 (Ls' := #[.val (.int i1), .val (.int i2), .val (.int i3), .val (.int i4), .val (.int (3 : Int32)), .val (.int (own_q i2)), .val (.int (own_u i2)), .val (.int (own_q i3)), .val (.int (own_u i3)), .val (.int (own_q i4)), .val (.int (own_u i4)), .val (.ref b43), .val (.ref b49), .val (.ref f125), .val (.int (1 : Int32))]) rfl rfl ?_
    refine G.iload C at_162 rfl rfl ?_
    refine G.ifle C at_164 (by decide) (pt := 215) (by decide) rfl (fun q => absurd q (by decide)) (fun _ => ?_)
    refine G.iload C at_167 rfl rfl ?_
    refine G.ifeq C at_169 (by decide) (pt := 212) (by decide) rfl (fun q => absurd q (by decide)) (fun _ => ?_)
    refine G.aload C at_172 rfl rfl rfl ?_
    refine G.iconst C at_174 (v := (0 : Int32)) rfl rfl ?_
    refine G.daload C A125 (by decide) at_175 rfl ?_
    show G p l e _ _ m _ below meth c n0 _ hp72 3 9 (mkF m 176 #[.val (.int i1), .val (.int i2), .val (.int i3), .val (.int i4), .val (.int (3 : Int32)), .val (.int (own_q i2)), .val (.int (own_u i2)), .val (.int (own_q i3)), .val (.int (own_u i3)), .val (.int (own_q i4)), .val (.int (own_u i4)), .val (.ref b43), .val (.ref b49), .val (.ref f125), .val (.int (1 : Int32))] [(.double (FP.ddiv (FP.i2d ((own_q i2) * (own_u i2))) (FP.i2d (own_u i2))))])
    refine G.iload C at_176 rfl rfl ?_
    refine G.i2d C at_178 rfl ?_
    refine G.dcmpl C (v := (0 : Int32)) (own_c1 (own_q_r _) (own_u_r _)) at_179 rfl ?_
    refine G.ifne C at_180 (by decide) (pt := 212) (by decide) rfl (fun q => absurd q (by decide)) (fun _ => ?_)
    refine G.aload C at_183 rfl rfl rfl ?_
    refine G.iconst C at_185 (v := (0 : Int32)) rfl rfl ?_
    refine G.daload C oc74 (by decide) at_186 rfl ?_
    show G p l e _ _ m _ below meth c n0 _ hp72 3 9 (mkF m 187 #[.val (.int i1), .val (.int i2), .val (.int i3), .val (.int i4), .val (.int (3 : Int32)), .val (.int (own_q i2)), .val (.int (own_u i2)), .val (.int (own_q i3)), .val (.int (own_u i3)), .val (.int (own_q i4)), .val (.int (own_u i4)), .val (.ref b43), .val (.ref b49), .val (.ref f125), .val (.int (1 : Int32))] [(.double (FP.i2d ((own_q i2) * (own_u i2))))])
    refine G.iload C at_187 rfl rfl ?_
    refine G.iload C at_189 rfl rfl ?_
    refine G.imul C at_191 rfl ?_
    refine G.i2d C at_192 rfl ?_
    refine G.dcmpl C (v := (0 : Int32)) (own_c0 _) at_193 rfl ?_
    refine G.ifne C at_194 (by decide) (pt := 212) (by decide) rfl (fun q => absurd q (by decide)) (fun _ => ?_)
    refine G.aload C at_197 rfl rfl rfl ?_
    refine G.iconst C at_199 (v := (0 : Int32)) rfl rfl ?_
    refine G.daload C oc75 (by decide) at_200 rfl ?_
    show G p l e _ _ m _ below meth c n0 _ hp72 3 9 (mkF m 201 #[.val (.int i1), .val (.int i2), .val (.int i3), .val (.int i4), .val (.int (3 : Int32)), .val (.int (own_q i2)), .val (.int (own_u i2)), .val (.int (own_q i3)), .val (.int (own_u i3)), .val (.int (own_q i4)), .val (.int (own_u i4)), .val (.ref b43), .val (.ref b49), .val (.ref f125), .val (.int (1 : Int32))] [(.double (FP.i2d (own_u i2)))])
    refine G.iload C at_201 rfl rfl ?_
    refine G.i2d C at_203 rfl ?_
    refine G.dcmpl C (v := (0 : Int32)) (own_c0 _) at_204 rfl ?_
    refine G.ifne C at_205 (by decide) (pt := 212) (by decide) rfl (fun q => absurd q (by decide)) (fun _ => ?_)
    refine G.iconst C at_208 (v := (1 : Int32)) rfl rfl ?_
    refine G.goto C at_209 (by decide) (pc' := 213) (by decide) ?_
    refine G.istore C at_213 (Ls' := #[.val (.int i1), .val (.int i2), .val (.int i3), .val (.int i4), .val (.int (3 : Int32)), .val (.int (own_q i2)), .val (.int (own_u i2)), .val (.int (own_q i3)), .val (.int (own_u i3)), .val (.int (own_q i4)), .val (.int (own_u i4)), .val (.ref b43), .val (.ref b49), .val (.ref f125), .val (.int (1 : Int32))]) rfl rfl ?_
    refine G.iload C at_215 rfl rfl ?_
    refine G.iconst C at_217 (v := (1 : Int32)) rfl rfl ?_
    refine G.icle C at_218 (by decide) (pt := 269) (by decide) rfl (fun q => absurd q (by decide)) (fun _ => ?_)
    refine G.iload C at_221 rfl rfl ?_
    refine G.ifeq C at_223 (by decide) (pt := 266) (by decide) rfl (fun q => absurd q (by decide)) (fun _ => ?_)
    refine G.aload C at_226 rfl rfl rfl ?_
    refine G.iconst C at_228 (v := (1 : Int32)) rfl rfl ?_
    refine G.daload C A125 (by decide) at_229 rfl ?_
    show G p l e _ _ m _ below meth c n0 _ hp72 3 9 (mkF m 230 #[.val (.int i1), .val (.int i2), .val (.int i3), .val (.int i4), .val (.int (3 : Int32)), .val (.int (own_q i2)), .val (.int (own_u i2)), .val (.int (own_q i3)), .val (.int (own_u i3)), .val (.int (own_q i4)), .val (.int (own_u i4)), .val (.ref b43), .val (.ref b49), .val (.ref f125), .val (.int (1 : Int32))] [(.double (FP.ddiv (FP.i2d ((own_q i3) * (own_u i3))) (FP.i2d (own_u i3))))])
    refine G.iload C at_230 rfl rfl ?_
    refine G.i2d C at_232 rfl ?_
    refine G.dcmpl C (v := (0 : Int32)) (own_c1 (own_q_r _) (own_u_r _)) at_233 rfl ?_
    refine G.ifne C at_234 (by decide) (pt := 266) (by decide) rfl (fun q => absurd q (by decide)) (fun _ => ?_)
    refine G.aload C at_237 rfl rfl rfl ?_
    refine G.iconst C at_239 (v := (1 : Int32)) rfl rfl ?_
    refine G.daload C oc74 (by decide) at_240 rfl ?_
    show G p l e _ _ m _ below meth c n0 _ hp72 3 9 (mkF m 241 #[.val (.int i1), .val (.int i2), .val (.int i3), .val (.int i4), .val (.int (3 : Int32)), .val (.int (own_q i2)), .val (.int (own_u i2)), .val (.int (own_q i3)), .val (.int (own_u i3)), .val (.int (own_q i4)), .val (.int (own_u i4)), .val (.ref b43), .val (.ref b49), .val (.ref f125), .val (.int (1 : Int32))] [(.double (FP.i2d ((own_q i3) * (own_u i3))))])
    refine G.iload C at_241 rfl rfl ?_
    refine G.iload C at_243 rfl rfl ?_
    refine G.imul C at_245 rfl ?_
    refine G.i2d C at_246 rfl ?_
    refine G.dcmpl C (v := (0 : Int32)) (own_c0 _) at_247 rfl ?_
    refine G.ifne C at_248 (by decide) (pt := 266) (by decide) rfl (fun q => absurd q (by decide)) (fun _ => ?_)
    refine G.aload C at_251 rfl rfl rfl ?_
    refine G.iconst C at_253 (v := (1 : Int32)) rfl rfl ?_
    refine G.daload C oc75 (by decide) at_254 rfl ?_
    show G p l e _ _ m _ below meth c n0 _ hp72 3 9 (mkF m 255 #[.val (.int i1), .val (.int i2), .val (.int i3), .val (.int i4), .val (.int (3 : Int32)), .val (.int (own_q i2)), .val (.int (own_u i2)), .val (.int (own_q i3)), .val (.int (own_u i3)), .val (.int (own_q i4)), .val (.int (own_u i4)), .val (.ref b43), .val (.ref b49), .val (.ref f125), .val (.int (1 : Int32))] [(.double (FP.i2d (own_u i3)))])
    refine G.iload C at_255 rfl rfl ?_
    refine G.i2d C at_257 rfl ?_
    refine G.dcmpl C (v := (0 : Int32)) (own_c0 _) at_258 rfl ?_
    refine G.ifne C at_259 (by decide) (pt := 266) (by decide) rfl (fun q => absurd q (by decide)) (fun _ => ?_)
    refine G.iconst C at_262 (v := (1 : Int32)) rfl rfl ?_
    refine G.goto C at_263 (by decide) (pc' := 267) (by decide) ?_
    refine G.istore C at_267 (Ls' := #[.val (.int i1), .val (.int i2), .val (.int i3), .val (.int i4), .val (.int (3 : Int32)), .val (.int (own_q i2)), .val (.int (own_u i2)), .val (.int (own_q i3)), .val (.int (own_u i3)), .val (.int (own_q i4)), .val (.int (own_u i4)), .val (.ref b43), .val (.ref b49), .val (.ref f125), .val (.int (1 : Int32))]) rfl rfl ?_
    refine G.iload C at_269 rfl rfl ?_
    refine G.iconst C at_271 (v := (2 : Int32)) rfl rfl ?_
    refine G.icle C at_272 (by decide) (pt := 323) (by decide) rfl (fun q => absurd q (by decide)) (fun _ => ?_)
    refine G.iload C at_275 rfl rfl ?_
    refine G.ifeq C at_277 (by decide) (pt := 320) (by decide) rfl (fun q => absurd q (by decide)) (fun _ => ?_)
    refine G.aload C at_280 rfl rfl rfl ?_
    refine G.iconst C at_282 (v := (2 : Int32)) rfl rfl ?_
    refine G.daload C A125 (by decide) at_283 rfl ?_
    show G p l e _ _ m _ below meth c n0 _ hp72 3 9 (mkF m 284 #[.val (.int i1), .val (.int i2), .val (.int i3), .val (.int i4), .val (.int (3 : Int32)), .val (.int (own_q i2)), .val (.int (own_u i2)), .val (.int (own_q i3)), .val (.int (own_u i3)), .val (.int (own_q i4)), .val (.int (own_u i4)), .val (.ref b43), .val (.ref b49), .val (.ref f125), .val (.int (1 : Int32))] [(.double (FP.ddiv (FP.i2d ((own_q i4) * (own_u i4))) (FP.i2d (own_u i4))))])
    refine G.iload C at_284 rfl rfl ?_
    refine G.i2d C at_286 rfl ?_
    refine G.dcmpl C (v := (0 : Int32)) (own_c1 (own_q_r _) (own_u_r _)) at_287 rfl ?_
    refine G.ifne C at_288 (by decide) (pt := 320) (by decide) rfl (fun q => absurd q (by decide)) (fun _ => ?_)
    refine G.aload C at_291 rfl rfl rfl ?_
    refine G.iconst C at_293 (v := (2 : Int32)) rfl rfl ?_
    refine G.daload C oc74 (by decide) at_294 rfl ?_
    show G p l e _ _ m _ below meth c n0 _ hp72 3 9 (mkF m 295 #[.val (.int i1), .val (.int i2), .val (.int i3), .val (.int i4), .val (.int (3 : Int32)), .val (.int (own_q i2)), .val (.int (own_u i2)), .val (.int (own_q i3)), .val (.int (own_u i3)), .val (.int (own_q i4)), .val (.int (own_u i4)), .val (.ref b43), .val (.ref b49), .val (.ref f125), .val (.int (1 : Int32))] [(.double (FP.i2d ((own_q i4) * (own_u i4))))])
    refine G.iload C at_295 rfl rfl ?_
    refine G.iload C at_297 rfl rfl ?_
    refine G.imul C at_299 rfl ?_
    refine G.i2d C at_300 rfl ?_
    refine G.dcmpl C (v := (0 : Int32)) (own_c0 _) at_301 rfl ?_
    refine G.ifne C at_302 (by decide) (pt := 320) (by decide) rfl (fun q => absurd q (by decide)) (fun _ => ?_)
    refine G.aload C at_305 rfl rfl rfl ?_
    refine G.iconst C at_307 (v := (2 : Int32)) rfl rfl ?_
    refine G.daload C oc75 (by decide) at_308 rfl ?_
    show G p l e _ _ m _ below meth c n0 _ hp72 3 9 (mkF m 309 #[.val (.int i1), .val (.int i2), .val (.int i3), .val (.int i4), .val (.int (3 : Int32)), .val (.int (own_q i2)), .val (.int (own_u i2)), .val (.int (own_q i3)), .val (.int (own_u i3)), .val (.int (own_q i4)), .val (.int (own_u i4)), .val (.ref b43), .val (.ref b49), .val (.ref f125), .val (.int (1 : Int32))] [(.double (FP.i2d (own_u i4)))])
    refine G.iload C at_309 rfl rfl ?_
    refine G.i2d C at_311 rfl ?_
    refine G.dcmpl C (v := (0 : Int32)) (own_c0 _) at_312 rfl ?_
    refine G.ifne C at_313 (by decide) (pt := 320) (by decide) rfl (fun q => absurd q (by decide)) (fun _ => ?_)
    refine G.iconst C at_316 (v := (1 : Int32)) rfl rfl ?_
    refine G.goto C at_317 (by decide) (pc' := 321) (by decide) ?_
    refine G.istore C at_321 (Ls' := #[.val (.int i1), .val (.int i2), .val (.int i3), .val (.int i4), .val (.int (3 : Int32)), .val (.int (own_q i2)), .val (.int (own_u i2)), .val (.int (own_q i3)), .val (.int (own_u i3)), .val (.int (own_q i4)), .val (.int (own_u i4)), .val (.ref b43), .val (.ref b49), .val (.ref f125), .val (.int (1 : Int32))]) rfl rfl ?_
    refine G.iload C at_323 rfl rfl ?_
    exact G.retZ C at_325 (by decide) (by decide) rfl (rfl)
set_option maxRecDepth 65536 in
set_option maxHeartbeats 40000000 in
theorem comes_1 {Post : Tables → Env → Array Value → State → Outcome → State → Prop} (hpost : ∀ tb e args s v u, (limb_1_1.after args s (.returned v) u = true ∧ limb_1_2.after args s (.returned v) u = true ∧ True) → FrameEnd s (.returned v) u (Jvm.fieldLocs frame_1_writes args s ++ Jvm.arrayLocs frame_1_arrays args s ++ Jvm.staticLocs frame_1_statics s) 16 128 → Post tb e args s (.returned v) u) :
    ArmFor flags0 classFile x code maxLocals ret World_1 tables_1 room_1 Calls_1 rest_1 Pre_1 Post := by
  intro l hfl _ _ p e ha hc hk s m args below hf hA hF happ hP
  obtain ⟨hcalls, hrest, hpre⟩ := hP
  obtain ⟨-, -, -, hnamed, -, -, -, hat⟩ := (Spec.applies_iff hf).mp happ
  obtain ⟨hg, hn⟩ := and_e (Cond.before_iff.mp (show (Jvm.Cond.and given_1 narrow_1).before args s = true from hpre))
  obtain ⟨gc, gr0⟩ := and_e hg
  obtain ⟨g0, gr1⟩ := and_e gr0
  obtain ⟨g1, gr2⟩ := and_e gr1
  obtain ⟨g2, g3⟩ := and_e gr2
  obtain ⟨w0, w1, w2, w3, rfl⟩ : ∃ w0 w1 w2 w3 : Value, args = #[w0, w1, w2, w3] := by
    have hs : args.size = 4 := by simpa [Cond.value, given_1] using gc
    obtain ⟨L⟩ := args
    match L, hs with
    | [w0, w1, w2, w3], _ => exact ⟨w0, w1, w2, w3, rfl⟩
  have hw := fun d (hd : d ∈ tables_1) => atoms_spec (ws := Jvm.Cond.code x code maxLocals ret :: tables_1) hat d (List.mem_cons_of_mem _ hd)
  obtain ⟨i0, ei0⟩ := is_v g0
  obtain rfl : w0 = (.int i0) := Option.some.inj ei0
  obtain ⟨i1, ei1⟩ := is_v g1
  obtain rfl : w1 = (.int i1) := Option.some.inj ei1
  obtain ⟨i2, ei2⟩ := is_v g2
  obtain rfl : w2 = (.int i2) := Option.some.inj ei2
  obtain ⟨i3, ei3⟩ := is_v g3
  obtain rfl : w3 = (.int i3) := Option.some.inj ei3
  obtain ⟨nn, o, h1, h2, h3, _, L, rfl, ⟨rfl, N⟩, hq⟩ := c0 l s _ hw i0 i1 i2 i3 s.heap s.heap.size (Nat.le_refl _) tables_1 p e ha hc hk s m _ below hf ((Spec.applies_iff_loose hf).mp happ).1 ⟨rfl, State.Warmed39.refl s, rfl⟩ trivial
  exact ⟨nn, _, h1, h2, h3, hpost _ _ _ _ _ _ ⟨Cond.after_iff.mpr rfl, Cond.after_iff.mpr (eq_i res_at (Term.int_eval (1)) rfl), trivial⟩ ⟨hq.1, hq.2.1, (hq.2.2.sift fun y hy => Or.inr (N y hy)).mono (by decide) (by decide)⟩⟩
theorem main_1_1 : Claimed_1_1 := comes_1 fun _ _ _ _ _ _ h hF => ⟨h.1, hF⟩
theorem main_1_2 : Claimed_1_2 := comes_1 fun _ _ _ _ _ _ h hF => ⟨h.2.1, hF⟩
end Jvm.Pilot.@@N@@
namespace Jvm.Pilot.@@N@@
open Jvm Jvm.ClassFile Sem Op Lib Jvm.Free Jvm.Stand Jvm.Pilot.@@N@@.Jvm.D
/-! MADE BY PROGRAM (witnessworld.py) out of the Statement's table words and the real class files: 9 classes; the members and pool entries that the words name. The judged class is class 1, her method 3. -/
namespace start1
open Jvm.ClassFile
def u (s : String) : CpInfo := .utf8 (stringToUtf16 s)
/-- a pool by its gaps: so many unusable entries, then the entry; so many at the end -/
def gap : Nat → List CpInfo → List CpInfo
  | 0, r => r
  | n + 1, r => .unusable :: gap n r
def poolList (es : List (Nat × CpInfo)) (last : Nat) : List CpInfo := es.foldr (fun e r => gap e.1 (e.2 :: r)) (gap last [])
def pool (es : List (Nat × CpInfo)) (last : Nat) : Array CpInfo := ⟨poolList es last⟩
def fileOf (pool : Array CpInfo) (this : Nat) (attrs : Array Attribute := #[]) (ms : Array MethodInfo := #[]) (fl : Nat := 33) (sup : Nat := 0) (ifs : Array Nat := #[]) (fds : Array FieldInfo := #[]) : ClassFile where
  minorVersion := 0
  majorVersion := 65
  constantPool := pool
  accessFlags := fl
  thisClass := this
  superClass := sup
  interfaces := ifs
  fields := fds
  methods := ms
  attributes := attrs
def plain (name : String) (sup : Option ClassId) : Class where
  name := name
  kind := .ordinary
  loader := none
  accessFlags := 33
  super := sup
  interfaces := #[]
  cf := none
  fields := #[]
  methods := #[]
  instanceTypes := #[]
  staticTypes := #[]
  resolved := #[]
  callSites := []
  init := .initialized
  statics := none
  mirror := none

def pool0 : Array CpInfo := pool [(5, u "<init>"), (0, u "()V"), (1, .class_ 10), (1, u "java/lang/Object")] 113

def k0m0 : Method := { name := "<init>", desc := "()V", sig := { parameters := [], returnType := none }, accessFlags := 1, code := none }
/-- java/lang/Object -/
def k0 : Class := { plain "java/lang/Object" none with
  accessFlags := 33
  interfaces := #[]
  cf := some (fileOf pool0 8 #[] #[{ accessFlags := 1, nameIndex := 5, descriptorIndex := 6, attributes := #[] }] 33 0 #[] #[])
  fields := #[]
  methods := #[k0m0]
  instanceTypes := #[]
  staticTypes := #[]
  resolved := Array.replicate 124 none
  statics := none }

def pool1 : Array CpInfo := pool [(2, .class_ 4), (1, u "java/lang/Object"), (0, u "<init>"), (0, u "()V"), (0, .methodref 8 9), (0, .class_ 10), (0, .nameAndType 11 12), (0, u "io/keyfold/SideBySideRatiosPinLaw"), (0, u "quot"), (0, u "(I)I"), (0, .methodref 8 14), (0, .nameAndType 15 12), (0, u "div"), (0, .methodref 17 18), (0, .class_ 19), (0, .nameAndType 20 21), (0, u "io/keyfold/SideBySide"), (0, u "ratios"), (0, u "([D[D)[D"), (3, u "law"), (0, u "(IIII)Z")] 4

def k1m0 : Method := { name := "<init>", desc := "()V", sig := { parameters := [], returnType := none }, accessFlags := 1, code := none }
def k1c1 : Code := { maxStack := 2, maxLocals := 1, code := method_2_code, exceptionTable := #[], attributes := #[] }
def k1m1 : Method := { name := "quot", desc := "(I)I", sig := { parameters := [.int], returnType := some .int }, accessFlags := 10, code := some k1c1 }
def k1c2 : Code := { maxStack := 2, maxLocals := 2, code := method_3_code, exceptionTable := #[], attributes := #[] }
def k1m2 : Method := { name := "div", desc := "(I)I", sig := { parameters := [.int], returnType := some .int }, accessFlags := 10, code := some k1c2 }
def k1c3 : Code := { maxStack := 4, maxLocals := 15, code := code, exceptionTable := #[], attributes := #[] }
def k1m3 : Method := { name := "law", desc := "(IIII)Z", sig := { parameters := [.int, .int, .int, .int], returnType := some .boolean }, accessFlags := 9, code := some k1c3 }
/-- io/keyfold/SideBySideRatiosPinLaw -/
def k1 : Class := { plain "io/keyfold/SideBySideRatiosPinLaw" (some 0) with
  accessFlags := 49
  interfaces := #[]
  cf := some (fileOf pool1 8 #[] #[{ accessFlags := 1, nameIndex := 5, descriptorIndex := 6, attributes := #[] }, { accessFlags := 10, nameIndex := 11, descriptorIndex := 12, attributes := #[] }, { accessFlags := 10, nameIndex := 15, descriptorIndex := 12, attributes := #[] }, { accessFlags := 9, nameIndex := 25, descriptorIndex := 26, attributes := #[] }] 49 2 #[] #[])
  fields := #[]
  methods := #[k1m0, k1m1, k1m2, k1m3]
  instanceTypes := #[]
  staticTypes := #[]
  resolved := Array.replicate 31 none
  statics := none }

def pool2 : Array CpInfo := pool [(2, .class_ 4), (1, u "java/lang/Object"), (0, u "<init>"), (0, u "()V"), (124, .class_ 133), (1, u "io/keyfold/SideBySide"), (110, u "DEADLINE_MINUTES"), (0, u "J"), (6, u "ratios"), (0, u "([D[D)[D")] 49

def k2m0 : Method := { name := "<init>", desc := "()V", sig := { parameters := [], returnType := none }, accessFlags := 2, code := none }
def k2c1 : Code := { maxStack := 6, maxLocals := 4, code := prog_10_method_4_code, exceptionTable := #[], attributes := #[] }
def k2m1 : Method := { name := "ratios", desc := "([D[D)[D", sig := { parameters := [(.array .double), (.array .double)], returnType := some (.array .double) }, accessFlags := 8, code := some k2c1 }
/-- io/keyfold/SideBySide -/
def k2 : Class := { plain "io/keyfold/SideBySide" (some 0) with
  accessFlags := 48
  interfaces := #[]
  cf := some (fileOf pool2 131 #[] #[{ accessFlags := 2, nameIndex := 5, descriptorIndex := 6, attributes := #[] }, { accessFlags := 8, nameIndex := 252, descriptorIndex := 253, attributes := #[] }] 48 2 #[] #[{ accessFlags := 24, nameIndex := 244, descriptorIndex := 245, attributes := #[] }])
  fields := #[{ name := "DEADLINE_MINUTES", type := .long, accessFlags := 24, slot := 0, constantValue := 0 }]
  methods := #[k2m0, k2m1]
  instanceTypes := #[]
  staticTypes := #[.long]
  resolved := Array.replicate 303 none
  statics := none }

def pool3 : Array CpInfo := pool [(1, u "java/lang/Cloneable"), (0, .class_ 1), (0, u "java/lang/Object"), (0, .class_ 3)] 3

/-- java/lang/Cloneable -/
def k3 : Class := { plain "java/lang/Cloneable" (some 0) with
  accessFlags := 1537
  interfaces := #[]
  cf := some (fileOf pool3 2 #[] #[] 1537 4 #[] #[])
  fields := #[]
  methods := #[]
  instanceTypes := #[]
  staticTypes := #[]
  resolved := Array.replicate 8 none
  statics := none }

def pool4 : Array CpInfo := pool [(1, u "java/io/Serializable"), (0, .class_ 1), (0, u "java/lang/Object"), (0, .class_ 3)] 3

/-- java/io/Serializable -/
def k4 : Class := { plain "java/io/Serializable" (some 0) with
  accessFlags := 1537
  interfaces := #[]
  cf := some (fileOf pool4 2 #[] #[] 1537 4 #[] #[])
  fields := #[]
  methods := #[]
  instanceTypes := #[]
  staticTypes := #[]
  resolved := Array.replicate 8 none
  statics := none }

/-- the primitive byte -/
def k5 : Class := { plain "byte" none with kind := .primitive 'B', accessFlags := 0x411 }
/-- [B -/
def k6 : Class := { plain "[B" (some 0) with kind := .array 5 .byte, interfaces := #[3, 4], accessFlags := 1041 }

/-- the primitive int -/
def k7 : Class := { plain "int" none with kind := .primitive 'I', accessFlags := 0x411 }
/-- [I -/
def k8 : Class := { plain "[I" (some 0) with kind := .array 7 .int, interfaces := #[3, 4], accessFlags := 1041 }

/-- the primitive double -/
def k9 : Class := { plain "double" none with kind := .primitive 'D', accessFlags := 0x411 }
/-- [D -/
def k10 : Class := { plain "[D" (some 0) with kind := .array 9 .double, interfaces := #[3, 4], accessFlags := 1041 }

def heap : Heap := #[]
def classes : Array Class := #[k0, k1, k2, k3, k4, k5, k6, k7, k8, k9, k10]
def interned : List (Array UInt16 × Addr) := []
def slotsUsed : Nat := 0
def theMethod : MethodId := ⟨1, 3⟩
def args0 : Array Value := #[.int 2, .int 655370, .int 131075, .int 7]
def aboutOver (below : List Frame) : State where
  vm := { classes := classes, interned := interned.toArray }
  heap := heap
  slotsUsed := slotsUsed
  threads := #[{ frames := .invoking theMethod args0 :: below }]
def below0 : List Frame := [.native { method := ⟨0, 0⟩, args := #[] }]
def about1 : State := aboutOver below0
def p0 : Program := .bare "" "" ""
def e0 : Env := launch0.env 0 0 0
theorem w_frames : about1.frames = Frame.invoking theMethod args0 :: below0 := rfl
set_option maxRecDepth 65536 in
theorem w_args : argsFit about1.vm theMethod args0 = true := by decide +kernel
set_option maxRecDepth 65536 in
theorem w_heap : heapFits about1 = true := by decide +kernel
set_option maxRecDepth 65536 in
theorem w_runnable : about1.curStatus? = some .runnable := by decide +kernel
set_option maxRecDepth 65536 in
theorem w_alone : about1.alone = true := by decide +kernel
set_option maxRecDepth 65536 in
theorem w_named : about1.methodNamed? x = some theMethod := by decide +kernel
set_option maxRecDepth 65536 in
theorem w_hears : about1.hears theMethod below0 = true := by decide +kernel
set_option maxRecDepth 65536 in
theorem w_ripe : about1.ripe theMethod args0 below0 = true := by decide +kernel
theorem w_running : about1.status = .running := rfl
set_option maxRecDepth 65536 in
theorem w_room : about1.hasRoom e0.platform room_1 = true :=
  launch0.hasRoom_least _ room_1 (by decide +kernel) (by decide +kernel) (by decide +kernel) (by decide +kernel) (by decide +kernel) (by decide +kernel)
theorem allAtoms_all (ts : List Jvm.Cond) (a : Array Jvm.Value) (st : Jvm.State) : (allAtoms ts).before a st = ts.all (fun c => c.before a st) := by
  induction ts with
  | nil => rfl
  | cons c t ih =>
    show (Jvm.Cond.and c (allAtoms t)).before a st = _
    rw [Jvm.Cond.before_and, ih, List.all_cons]
def words1 : List Jvm.Cond := Jvm.Cond.code x code maxLocals ret :: tables_1
/-- a 'code' word, met by the world's own term for the bytes: nothing is compared byte by byte -/
theorem code_word {y : MethodName} {bytes : ByteArray} {mx : Nat} {rt : Option FieldType} {a : Array Value} {s : State} {m : MethodId} {meth : Method} {c : Code} (h1 : s.methodNamed? y = some m) (h2 : s.vm.method? m = some meth) (h3 : meth.code = some c) (h4 : c.code = bytes)
    (h5 : (c.maxLocals == mx && c.exceptionTable.isEmpty && decide (c.maxStack ≤ mostOperands) && decide (meth.sig.returnType = rt) && !meth.locks && decide (parseMethodDescriptor y.desc = some meth.sig)) = true) : (Jvm.Cond.code y bytes mx rt).before a s = true := by
  simp only [Bool.and_eq_true, beq_iff_eq, Bool.not_eq_true', decide_eq_true_eq] at h5
  obtain ⟨⟨⟨⟨⟨g1, g2⟩, g3⟩, g4⟩, g5⟩, g6⟩ := h5
  simp [Cond.before, Cond.holds, Cond.value, h1, h2, h3, h4, g1, g2, g3, g4, g5, g6]
def isCode : Jvm.Cond → Bool
  | .code _ _ _ _ => true
  | _ => false
theorem all_split {L : List Jvm.Cond} {P : Jvm.Cond → Bool} (h1 : L.all (fun c => isCode c || P c) = true) (h2 : ∀ c ∈ L.filter isCode, P c = true) : L.all P = true := by
  refine List.all_eq_true.mpr fun c hc => ?_
  have h := List.all_eq_true.mp h1 c hc
  rcases Bool.eq_false_or_eq_true (isCode c) with hi | hi
  · exact h2 c (List.mem_filter.mpr ⟨hc, hi⟩)
  · simpa [hi] using h
set_option maxRecDepth 65536 in
theorem w_c0 : (Jvm.Cond.code x code maxLocals ret).before args0 about1 = true := code_word (m := ⟨1, 3⟩) (meth := k1m3) (c := k1c3) (by decide +kernel) rfl rfl rfl (by decide +kernel)
set_option maxRecDepth 65536 in
theorem w_c1 : (Jvm.Cond.code ({ cls := "io/keyfold/SideBySideRatiosPinLaw", name := "quot", desc := "(I)I" } : Jvm.MethodName) method_2_code (1 : Nat) (Option.some Jvm.ClassFile.FieldType.int)).before args0 about1 = true := code_word (m := ⟨1, 1⟩) (meth := k1m1) (c := k1c1) (by decide +kernel) rfl rfl rfl (by decide +kernel)
set_option maxRecDepth 65536 in
theorem w_c2 : (Jvm.Cond.code ({ cls := "io/keyfold/SideBySideRatiosPinLaw", name := "div", desc := "(I)I" } : Jvm.MethodName) method_3_code (2 : Nat) (Option.some Jvm.ClassFile.FieldType.int)).before args0 about1 = true := code_word (m := ⟨1, 2⟩) (meth := k1m2) (c := k1c2) (by decide +kernel) rfl rfl rfl (by decide +kernel)
set_option maxRecDepth 65536 in
theorem w_c3 : (Jvm.Cond.code ({ cls := "io/keyfold/SideBySide", name := "ratios", desc := "([D[D)[D" } : Jvm.MethodName) prog_10_method_4_code (4 : Nat) (Option.some (Jvm.ClassFile.FieldType.array Jvm.ClassFile.FieldType.double))).before args0 about1 = true := code_word (m := ⟨2, 1⟩) (meth := k2m1) (c := k2c1) (by decide +kernel) rfl rfl rfl (by decide +kernel)
def codes1 : List Jvm.Cond := [Jvm.Cond.code x code maxLocals ret, Jvm.Cond.code ({ cls := "io/keyfold/SideBySideRatiosPinLaw", name := "quot", desc := "(I)I" } : Jvm.MethodName) method_2_code (1 : Nat) (Option.some Jvm.ClassFile.FieldType.int), Jvm.Cond.code ({ cls := "io/keyfold/SideBySideRatiosPinLaw", name := "div", desc := "(I)I" } : Jvm.MethodName) method_3_code (2 : Nat) (Option.some Jvm.ClassFile.FieldType.int), Jvm.Cond.code ({ cls := "io/keyfold/SideBySide", name := "ratios", desc := "([D[D)[D" } : Jvm.MethodName) prog_10_method_4_code (4 : Nat) (Option.some (Jvm.ClassFile.FieldType.array Jvm.ClassFile.FieldType.double))]
set_option maxRecDepth 65536 in
theorem codes_eq : words1.filter isCode = codes1 := rfl
theorem w_codes : ∀ c ∈ words1.filter isCode, c.before args0 about1 = true := by
  rw [codes_eq]
  intro c hc
  simp only [codes1, List.mem_cons, List.not_mem_nil, or_false] at hc
  rcases hc with rfl | rfl | rfl | rfl
  · exact w_c0
  · exact w_c1
  · exact w_c2
  · exact w_c3
set_option maxRecDepth 65536 in
theorem w_t1 : words1.all (fun c => isCode c || c.before args0 about1) = true := by decide +kernel
theorem w_tables : (allAtoms (Jvm.Cond.code x code maxLocals ret :: tables_1)).before args0 about1 = true := by
  rw [allAtoms_all]
  show words1.all (fun c => c.before args0 about1) = true
  refine all_split ?_ w_codes
  rw [w_t1]
set_option maxRecDepth 65536 in
theorem w_case : (Jvm.Cond.and given_1 narrow_1).before args0 about1 = true := by decide +kernel
theorem w_applies : (headSpec (Jvm.Cond.code x code maxLocals ret :: tables_1) room_1).applies x e0.platform about1 = true :=
  (Spec.applies_iff w_frames).mpr ⟨w_running, w_runnable, w_alone, w_named, w_hears, w_ripe, w_room, w_tables⟩
theorem atStart : AtStart classFile x code maxLocals ret World_1 tables_1 room_1 Calls_1 rest_1 Pre_1 launch0 p0 e0 about1 theMethod args0 below0 :=
  ⟨lists_1, trivial, launch0.admits_env _ _ _, launch0.least_env, fairChoices_fair.cas, fairChoices_fair.clock, w_frames, w_args, w_heap, w_applies, trivial, trivial, w_case⟩
end start1
theorem witness_1 : WitnessClaimed_1 := ⟨start1.p0, start1.e0, start1.about1, start1.theMethod, start1.args0, start1.below0, start1.atStart⟩
end Jvm.Pilot.@@N@@
